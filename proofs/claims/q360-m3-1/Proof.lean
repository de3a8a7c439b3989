import JvmDerived
import JvmDerived.Pilot.@@N@@Statement
import JvmDerived.Pilot.@@N@@Code
set_option linter.unusedVariables false
set_option linter.unusedSimpArgs false
namespace Jvm.RoadKit
open Sem ClassFile Op Lib Jvm.Stand Jvm.Free Jvm.LawKit
section OwnGo
variable {p : Program} {l : Launch} {e : Env} {R : Room} {s : State} {m : MethodId} {args : Array Value} {below : List Frame} {meth : Method} {c : Code} {T T' : State} {locs : List Loc} {cells slots ck sk : Nat} {Q : Option Value → Heap → List Loc → Prop}
/-- from the state T the body comes to its end, with Q -/
def Go (p : Program) (e : Env) (below : List Frame) (s : State) (ck sk : Nat) (Q : Option Value → Heap → List Loc → Prop) (T : State) : Prop :=
  ∃ s₂ o, Steps p.tables e below T s₂ ∧ s₂.status = .running ∧ Ended s₂ below o ∧ ∃ v L, o = .returned v ∧ Q v s₂.heap L ∧ FrameEnd s o s₂ L ck sk
theorem Go.by (h : ∀ t, Steps p.tables e below T' t → Steps p.tables e below T t) (g : Go p e below s ck sk Q T') : Go p e below s ck sk Q T := by
  obtain ⟨s₂, o, h1, r⟩ := g
  exact ⟨s₂, o, h _ h1, r⟩
theorem Go.tr (h : Steps p.tables e below T T') (g : Go p e below s ck sk Q T') : Go p e below s ck sk Q T := by
  obtain ⟨s₂, o, h1, r⟩ := g
  exact ⟨s₂, o, h.trans h1, r⟩
theorem Go.fin (X : Stand p l e R s m args below meth c T locs cells slots) {v : Option Value} (hv : meth.sig.returnType = none → v = none) (hlk : meth.locks = false)
    (st : ∀ fs : List Frame, (∀ (f : JFrame) (acts : List Action), f.method = m → f.locked = none → f.entered = [] → (doReturn e (T.setTop f) acts v).1 = T.setFrames fs) → Steps p.tables e below T' (T.setFrames fs))
    (hq : Q v T.heap locs) (hc : cells ≤ ck) (hs : slots ≤ sk) : Go p e below s ck sk Q T' := by
  obtain ⟨fs, hr, hrun, hended, hW, hsame⟩ := X.leave hv hlk
  exact ⟨_, _, st fs hr, hrun, hended, _, _, rfl, hq, ⟨_, rfl⟩, hW, hsame.mono hc hs⟩
theorem Go.retV (X : Stand p l e R s m args below meth c T locs cells slots) (hx : p.tables.exec = Jvm.exec) {pc : Nat} {Ls : Array Slot} (hret : meth.sig.returnType = none) (hlk : meth.locks = false) (hd : decode c.code pc = .ok (.return_, 1))
    (hq : Q none T.heap locs) (hc : cells ≤ ck) (hs : slots ≤ sk) : Go p e below s ck sk Q (T.setTop (mkF m pc Ls [])) :=
  Go.fin X (fun _ => rfl) hlk (fun fs hr => X.returnOut hx hret hd hr) hq hc hs
theorem Go.retN (X : Stand p l e R s m args below meth c T locs cells slots) (hx : p.tables.exec = Jvm.exec) {pc : Nat} {Ls : Array Slot} {z : Int32} {t : FieldType} {rest : List Value} (hret : meth.sig.returnType = some t) (ht : t = .boolean ∨ t = .byte ∨ t = .char ∨ t = .short) (hlk : meth.locks = false) (hd : decode c.code pc = .ok (.ireturn, 1))
    (hq : Q (some (.int (nar t z))) T.heap locs) (hc : cells ≤ ck) (hs : slots ≤ sk) : Go p e below s ck sk Q (T.setTop (mkF m pc Ls (.int z :: rest))) :=
  Go.fin X (fun h => by rw [hret] at h; cases h) hlk (fun fs hr => Jvm.RoadKit.retN X hx hret ht hd hr) hq hc hs
theorem Go.retI (X : Stand p l e R s m args below meth c T locs cells slots) (hx : p.tables.exec = Jvm.exec) {pc : Nat} {Ls : Array Slot} {z : Int32} {rest : List Value} (hret : meth.sig.returnType = some .int) (hlk : meth.locks = false) (hd : decode c.code pc = .ok (.ireturn, 1))
    (hq : Q (some (.int z)) T.heap locs) (hc : cells ≤ ck) (hs : slots ≤ sk) : Go p e below s ck sk Q (T.setTop (mkF m pc Ls (.int z :: rest))) :=
  Go.fin X (fun h => by rw [hret] at h; cases h) hlk (fun fs hr => retOut X hx hret rfl (Or.inl ⟨rfl, Or.inl rfl, z, rfl⟩) hd hr) hq hc hs
theorem Go.retJ (X : Stand p l e R s m args below meth c T locs cells slots) (hx : p.tables.exec = Jvm.exec) {pc : Nat} {Ls : Array Slot} {z : Int64} {rest : List Value} (hret : meth.sig.returnType = some .long) (hlk : meth.locks = false) (hd : decode c.code pc = .ok (.lreturn, 1))
    (hq : Q (some (.long z)) T.heap locs) (hc : cells ≤ ck) (hs : slots ≤ sk) : Go p e below s ck sk Q (T.setTop (mkF m pc Ls (.long z :: rest))) :=
  Go.fin X (fun h => by rw [hret] at h; cases h) hlk (fun fs hr => retOut X hx hret rfl (Or.inr (Or.inl ⟨rfl, rfl, z, rfl⟩)) hd hr) hq hc hs
theorem Go.retR (X : Stand p l e R s m args below meth c T locs cells slots) (hx : p.tables.exec = Jvm.exec) {pc : Nat} {Ls : Array Slot} {w : Value} {t : FieldType} {rest : List Value} (hret : meth.sig.returnType = some t) (ht : t.isReference = true) (hw : w.isRef = true) (hlk : meth.locks = false) (hd : decode c.code pc = .ok (.areturn, 1))
    (hq : Q (some w) T.heap locs) (hc : cells ≤ ck) (hs : slots ≤ sk) : Go p e below s ck sk Q (T.setTop (mkF m pc Ls (w :: rest))) := by
  refine Go.fin X (fun h => by rw [hret] at h; cases h) hlk (fun fs hr => retOut X hx hret ?_ (Or.inr (Or.inr (Or.inr (Or.inr ⟨rfl, ht, hw⟩)))) hd hr) hq hc hs
  rcases ref_cases hw with rfl | ⟨a, rfl⟩ <;> cases t <;> first | rfl | cases ht
/-- the same where Strings may be interned on the way -/
def GoW (p : Program) (e : Env) (below : List Frame) (s : State) (ck sk : Nat) (Q : Option Value → Heap → List Loc → Prop) (T : State) : Prop :=
  ∃ s₂ o, Steps p.tables e below T s₂ ∧ s₂.status = .running ∧ Ended s₂ below o ∧ ∃ v L, o = .returned v ∧ Q v s₂.heap L ∧ ReturnedEndW s o s₂ L ck sk
theorem GoW.by (h : ∀ t, Steps p.tables e below T' t → Steps p.tables e below T t) (g : GoW p e below s ck sk Q T') : GoW p e below s ck sk Q T := by
  obtain ⟨s₂, o, h1, r⟩ := g
  exact ⟨s₂, o, h _ h1, r⟩
theorem GoW.tr (h : Steps p.tables e below T T') (g : GoW p e below s ck sk Q T') : GoW p e below s ck sk Q T := by
  obtain ⟨s₂, o, h1, r⟩ := g
  exact ⟨s₂, o, h.trans h1, r⟩
theorem GoW.fin {vm1 : Vm} {k1 : Nat} (X : Stand p l e R (s.setVm vm1) m args below meth c T locs cells slots) (hS : s.Since vm1 k1) (hk : k1 ≤ T.heap.size) {v : Option Value} (hv : meth.sig.returnType = none → v = none) (hlk : meth.locks = false)
    (st : ∀ fs : List Frame, (∀ (f : JFrame) (acts : List Action), f.method = m → f.locked = none → f.entered = [] → (doReturn e (T.setTop f) acts v).1 = T.setFrames fs) → Steps p.tables e below T' (T.setFrames fs))
    (hq : Q v T.heap locs) (hc : cells ≤ ck) (hs : slots ≤ sk) : GoW p e below s ck sk Q T' := by
  obtain ⟨fs, hr, hrun, hended, hW, hsame⟩ := X.leave hv hlk
  obtain ⟨q1, q2, q3⟩ := hS.ended (U := T.setFrames fs) hW hk hsame
  exact ⟨_, _, st fs hr, hrun, hended, _, _, rfl, hq, ⟨_, rfl⟩, q1, q2, q3.mono hc hs⟩
theorem GoW.retV {vm1 : Vm} {k1 : Nat} (X : Stand p l e R (s.setVm vm1) m args below meth c T locs cells slots) (hS : s.Since vm1 k1) (hk : k1 ≤ T.heap.size) (hx : p.tables.exec = Jvm.exec) {pc : Nat} {Ls : Array Slot} (hret : meth.sig.returnType = none) (hlk : meth.locks = false) (hd : decode c.code pc = .ok (.return_, 1))
    (hq : Q none T.heap locs) (hc : cells ≤ ck) (hs : slots ≤ sk) : GoW p e below s ck sk Q (T.setTop (mkF m pc Ls [])) :=
  GoW.fin X hS hk (fun _ => rfl) hlk (fun fs hr => X.returnOut hx hret hd hr) hq hc hs
theorem GoW.retN {vm1 : Vm} {k1 : Nat} (X : Stand p l e R (s.setVm vm1) m args below meth c T locs cells slots) (hS : s.Since vm1 k1) (hk : k1 ≤ T.heap.size) (hx : p.tables.exec = Jvm.exec) {pc : Nat} {Ls : Array Slot} {z : Int32} {t : FieldType} {rest : List Value} (hret : meth.sig.returnType = some t) (ht : t = .boolean ∨ t = .byte ∨ t = .char ∨ t = .short) (hlk : meth.locks = false) (hd : decode c.code pc = .ok (.ireturn, 1))
    (hq : Q (some (.int (nar t z))) T.heap locs) (hc : cells ≤ ck) (hs : slots ≤ sk) : GoW p e below s ck sk Q (T.setTop (mkF m pc Ls (.int z :: rest))) :=
  GoW.fin X hS hk (fun h => by rw [hret] at h; cases h) hlk (fun fs hr => Jvm.RoadKit.retN X hx hret ht hd hr) hq hc hs
theorem GoW.retR {vm1 : Vm} {k1 : Nat} (X : Stand p l e R (s.setVm vm1) m args below meth c T locs cells slots) (hS : s.Since vm1 k1) (hk : k1 ≤ T.heap.size) (hx : p.tables.exec = Jvm.exec) {pc : Nat} {Ls : Array Slot} {w : Value} {t : FieldType} {rest : List Value} (hret : meth.sig.returnType = some t) (ht : t.isReference = true) (hw : w.isRef = true) (hlk : meth.locks = false) (hd : decode c.code pc = .ok (.areturn, 1))
    (hq : Q (some w) T.heap locs) (hc : cells ≤ ck) (hs : slots ≤ sk) : GoW p e below s ck sk Q (T.setTop (mkF m pc Ls (w :: rest))) := by
  refine GoW.fin X hS hk (fun h => by rw [hret] at h; cases h) hlk (fun fs hr => retOut X hx hret ?_ (Or.inr (Or.inr (Or.inr (Or.inr ⟨rfl, ht, hw⟩)))) hd hr) hq hc hs
  rcases ref_cases hw with rfl | ⟨a, rfl⟩ <;> cases t <;> first | rfl | cases ht
end OwnGo
theorem own_selp {Z s : State} {a0 args : Array Value} {y : MethodName} {n : Nat} (hZ : Z.Warmed39 s.vm) (wi : (Cond.instantiable y.cls n).before a0 Z = true) (wp : (Cond.privateMethod y).before a0 Z = true) (wm : (Cond.instanceMethod y).before a0 Z = true) (hy : y.cls ≠ "java/lang/invoke/MethodHandle" ∧ y.cls ≠ "java/lang/invoke/VarHandle") : (Cond.selects y.cls y y).before args s = true := by
  obtain ⟨c, k, h1, h2, -, h4, -⟩ := Cond.instantiable_spec (mv (args := args) hZ wi)
  exact selects_self_of_private h1 h2 (by simpa using (Bool.or_eq_false_iff.mp h4).1) (Cond.privateMethod_at (mvP (args := args) hZ wp)) (mv hZ wm) hy
theorem own_zn {z : Int32} (h : z = (0 : Int32) ∨ z = (1 : Int32)) : narrow .boolean (.int z) = .int z := by rcases h with rfl | rfl <;> rfl
theorem own_zf {z : Int32} (h : z = (0 : Int32) ∨ z = (1 : Int32)) : fits .boolean (.int z) = true := by rcases h with rfl | rfl <;> rfl
theorem own_ns {Z : State} {h : Heap} {b : Addr} {C : String} (E : Exa Z h b C) : ∀ cell : Cell, h[b]? = some cell → cell.vm.isStatics = false := fun cell hc => by
  obtain ⟨c, _, h1, -, -, h4, -⟩ := E
  cases h1.symm.trans hc
  exact h4
theorem own_stakeep {Z : State} {h h' : Heap} {C n d : String} {v : Value} {ws : List Addr} (F : Sta Z h C n d v) (K : Keep h h' ws) (q : ∀ x ∈ ws, ∀ cell : Cell, h[x]? = some cell → cell.vm.isStatics = false) : Sta Z h' C n d v := by
  obtain ⟨cf, i, k, f, st, cell, h1, h2, h3, h4, h5, h6, h7⟩ := F
  refine ⟨cf, i, k, f, st, cell, h1, h2, h3, h4, K.2.1 st cell h5 fun z => ?_, h6, h7⟩
  rw [q st z cell h5] at h6
  cases h6
section OwnLong
variable {Z : State} {h h' : Heap} {a b : Addr} {k : ClassId} {n j : Int32} {x : Int64} {ws : List Addr} {sl : Nat} {v : Value}
/-- a long[] of the length n, whatever it holds -/
def LA (Z : State) (h : Heap) (a : Addr) (k : ClassId) (n : Int32) : Prop := ∃ c : Cell, Arr Z h a c .long ∧ c.cls = k ∧ c.slots.size = n.toNatClampNeg ∧ ¬ n < 0 ∧ ∀ i, i < c.slots.size → ∃ x : Int64, c.slots[i]? = some (.long x)
theorem LA.lt (F : LA Z h a k n) : a < h.size := by obtain ⟨c, A, -⟩ := F; exact A.lt
theorem LA.ext (F : LA Z h a k n) (E : Ext h h') : LA Z h' a k n := by obtain ⟨c, A, r⟩ := F; exact ⟨c, A.ext E, r⟩
theorem LA.other (F : LA Z h b k n) (W : Wr h h' a sl v) (q : b ≠ a) : LA Z h' b k n := by obtain ⟨c, A, r⟩ := F; exact ⟨c, A.other W q, r⟩
theorem LA.keep (F : LA Z h a k n) (K : Keep h h' ws) (q : a ∉ ws) : LA Z h' a k n := by obtain ⟨c, A, r⟩ := F; exact ⟨c, ⟨K.2.1 a c A.1 q, A.2⟩, r⟩
theorem LA.new (A : Arr Z h a (newA k .long n) .long) (q : ¬ n < 0) : LA Z h a k n := ⟨_, A, rfl, sz_new _ _ _, q, fun i hi => ⟨0, by
  have hi' : i < n.toNatClampNeg := by rw [sz_new] at hi; exact hi
  show (Array.replicate n.toNatClampNeg (defaultValue .long))[i]? = _
  simp [hi', defaultValue]⟩⟩
theorem LA.set {c : Cell} (A : Arr Z h a c .long) (q1 : c.cls = k) (S : c.slots.size = n.toNatClampNeg) (q3 : ¬ n < 0) (G : ∀ i, i < c.slots.size → ∃ x : Int64, c.slots[i]? = some (.long x)) (W : Wr h h' a sl (.long x)) : LA Z h' a k n := by
  refine ⟨_, A.same W, q1, by rw [sz_set]; exact S, q3, fun i hi => ?_⟩
  rw [sz_set] at hi
  by_cases e : sl = i
  · subst e; exact ⟨x, by simp [Cell.setSlot, hi]⟩
  · obtain ⟨y, hy⟩ := G i hi
    exact ⟨y, by rw [← hy]; exact Array.getElem?_setIfInBounds_ne e⟩
end OwnLong
section OwnStart
variable {args : Array Value} {s : State} {a b t : Term}
theorem own_eqI {n : Int32} (h : (Cond.eq a (.int n)).value args s none s [] = some true) : a.eval args s none [] s = some (.int n) := by
  cases ha : a.eval args s none [] s with
  | none => simp [Cond.value, ha] at h
  | some x => cases x <;> simp [Cond.value, ha, Term.eval] at h ⊢ <;> exact h
theorem own_eqL {n : Int64} (h : (Cond.eq a (.long n)).value args s none s [] = some true) : a.eval args s none [] s = some (.long n) := by
  cases ha : a.eval args s none [] s with
  | none => simp [Cond.value, ha] at h
  | some x => cases x <;> simp [Cond.value, ha, Term.eval] at h ⊢ <;> exact h
theorem own_eqR {x : Addr} (h : (Cond.eq a b).value args s none s [] = some true) (hb : b.eval args s none [] s = some (.ref x)) : a.eval args s none [] s = some (.ref x) := by
  cases ha : a.eval args s none [] s with
  | none => simp [Cond.value, ha] at h
  | some y => cases y <;> simp [Cond.value, ha, hb] at h ⊢ <;> exact h
theorem own_neR {x y : Addr} (h : (Cond.not (Cond.eq a b)).value args s none s [] = some true) (ha : a.eval args s none [] s = some (.ref x)) (hb : b.eval args s none [] s = some (.ref y)) : x ≠ y := by
  intro e
  subst e
  simp [Cond.value, ha, hb] at h
theorem own_lenv {n : Int32} {x : Addr} {cl : Cell} (h : (Term.length t).eval args s none [] s = some (.int n)) (ht : t.eval args s none [] s = some (.ref x)) (hc : s.heap[x]? = some cl) : cl.slots.size < 2 ^ 31 ∧ cl.slots.size.toInt32 = n := by
  obtain ⟨a', cell, e1, e2, e3⟩ := Term.length_spec h
  cases ht.symm.trans e1
  have hcl : cell = cl := by
    simp only [State.arrayAt?, hc, Option.bind_eq_bind, Option.bind_some] at e2
    cases hk : s.vm.classes[cl.cls]? with
    | none => simp [hk] at e2
    | some k =>
      simp only [hk, Option.bind_some] at e2
      split at e2
      · cases e2
      · split at e2
        · exact (Option.some.inj e2).symm
        · cases e2
  subst hcl
  refine ⟨?_, (Value.int.inj e3).symm⟩
  simp only [Term.eval, ht, e2, Option.bind_eq_bind, Option.bind_some] at h
  split at h
  · assumption
  · cases h
end OwnStart
end Jvm.RoadKit
namespace Jvm.Pilot.@@N@@
open Jvm Jvm.ClassFile Sem Op Lib Jvm.Free Jvm.Stand Jvm.LawKit Jvm.RoadKit Bundle Jvm.Pilot.@@N@@.Jvm.D
theorem own_m3 (a : Int32) : a &&& (3 : Int32) = 0 ∨ a &&& (3 : Int32) = 1 ∨ a &&& (3 : Int32) = 2 ∨ a &&& (3 : Int32) = 3 := by
  have h := c_mask a 3 2 (by decide) (by decide)
  simp only [← Int32.toInt_inj, h]
  have e0 : (0 : Int32).toInt = 0 := by decide
  have e1 : (1 : Int32).toInt = 1 := by decide
  have e2 : (2 : Int32).toInt = 2 := by decide
  have e3 : (3 : Int32).toInt = 3 := by decide
  rw [e0, e1, e2, e3]; omega

theorem dI_0 : decode prog_44_method_1_code 0 = .ok (.aload_n 0, 1) := by decide +kernel
theorem dI_1 : decode prog_44_method_1_code 1 = .ok (.invokespecial 1, 3) := by decide +kernel
theorem dI_4 : decode prog_44_method_1_code 4 = .ok (.aload_n 0, 1) := by decide +kernel
theorem dI_5 : decode prog_44_method_1_code 5 = .ok (.bipush 16, 2) := by decide +kernel
theorem dI_7 : decode prog_44_method_1_code 7 = .ok (.newarray .int, 2) := by decide +kernel
theorem dI_9 : decode prog_44_method_1_code 9 = .ok (.putfield 7, 3) := by decide +kernel
theorem dI_12 : decode prog_44_method_1_code 12 = .ok (.return_, 1) := by decide +kernel
theorem pnI : plainName "com/example/quorumsmith/quorumsmith/protocols/quorum/IntList" = true := by first | (simp [plainName, overriddenIn]; done) | decide +kernel
theorem efI (m : MethodId) (a : Addr) : entryFrame m #[(.ref a)] 1 = mkF m 0 #[.val (.ref a)] [] := by first | (simp [entryFrame, mkF, argsToLocals, Value.category]; done) | rfl
def QI (Z : State) (a : Addr) (h0 : Heap) (n0 : Nat) (v : Option Value) (h : Heap) (L : List Loc) : Prop := ∃ b102 : Addr, ∃ k102 : ClassId, (v = none ∧ Fr n0 L ∧ Keep h0 h [a] ∧ Exa Z h a "com/example/quorumsmith/quorumsmith/protocols/quorum/IntList" ∧ Fld Z h a "com/example/quorumsmith/quorumsmith/protocols/quorum/IntList" "values" "[I" (.ref b102) ∧ Fld Z h a "com/example/quorumsmith/quorumsmith/protocols/quorum/IntList" "size" "I" (.int (0 : Int32)) ∧ n0 ≤ b102 ∧ h0.size ≤ b102 ∧ Arv Z h b102 k102 .int (16 : Int32) [(.int (0 : Int32)), (.int (0 : Int32)), (.int (0 : Int32)), (.int (0 : Int32)), (.int (0 : Int32)), (.int (0 : Int32)), (.int (0 : Int32)), (.int (0 : Int32)), (.int (0 : Int32)), (.int (0 : Int32)), (.int (0 : Int32)), (.int (0 : Int32)), (.int (0 : Int32)), (.int (0 : Int32)), (.int (0 : Int32)), (.int (0 : Int32))] (.int (0 : Int32)))
set_option maxRecDepth 65536 in
set_option maxHeartbeats 40000000 in
theorem rmI (l : Launch) (Z : State) (a0 : Array Value) (hw : ∀ d ∈ tables_1, d.before a0 Z = true) (ws : List Jvm.Cond) (a : Addr) (h0 : Heap) (n0 : Nat) (Z0 : n0 ≤ h0.size) (E0_a : Exa Z h0 a "com/example/quorumsmith/quorumsmith/protocols/quorum/IntList") (F0_a_values : Fld Z h0 a "com/example/quorumsmith/quorumsmith/protocols/quorum/IntList" "values" "[I" .null) (F0_a_size : Fld Z h0 a "com/example/quorumsmith/quorumsmith/protocols/quorum/IntList" "size" "I" (.int (0 : Int32))) (ge0_a : n0 ≤ a) :
    MetFree l (⟨"com/example/quorumsmith/quorumsmith/protocols/quorum/IntList", "<init>", "()V"⟩ : MethodName) (head1 (Jvm.Cond.code (⟨"com/example/quorumsmith/quorumsmith/protocols/quorum/IntList", "<init>", "()V"⟩ : MethodName) prog_44_method_1_code 1 none :: ws) ({ frames := 1, cells := 1, slots := 16, locals := 12 } : Room)) (fun aa_ U_ => aa_ = #[(.ref a)] ∧ Z.Warmed39 U_.vm ∧ U_.heap = h0) (fun _ _ _ _ _ => True) (fun _ U_ o_ V_ => ∃ v_ L_, o_ = .returned v_ ∧ QI Z a h0 n0 v_ V_.heap L_ ∧ FrameEnd U_ o_ V_ L_ ({ frames := 1, cells := 1, slots := 16, locals := 12 } : Room).cells ({ frames := 1, cells := 1, slots := 16, locals := 12 } : Room).slots) := by
  refine MetFree.of_bodySF (plainFor_of_name pnI) hisR ?_
  intro p e s m args below meth c s₁ Bd hml0 hP hK
  obtain ⟨rfl, hZ, hh⟩ := hP
  have hx := Bd.exec
  have hby := Bd.bytes
  have hml : c.maxLocals = 1 := hml0
  have hown : s.vm.findClass "com/example/quorumsmith/quorumsmith/protocols/quorum/IntList" = some m.cls := findClass_of_methodNamed Bd.named
  have hnm := (name_of_methodNamed Bd.named Bd.method).1
  have hlk : meth.locks = false := BodyLoose.notSynchronized Bd
  have hret : meth.sig.returnType = none := Bd.returns
  have X0 : Stand p l e ({ frames := 1, cells := 1, slots := 16, locals := 12 } : Room) s m #[(.ref a)] below meth c s₁ [] 0 0 := Stand.of_body Bd
  have e0 : s₁.heap = h0 := by rw [← hh, Bd.state]; rfl
  have N0 := Fr.nil n0
  show Go p e below s ({ frames := 1, cells := 1, slots := 16, locals := 12 } : Room).cells ({ frames := 1, cells := 1, slots := 16, locals := 12 } : Room).slots (QI Z a h0 n0) (s₁.setTop (entryFrame m #[(.ref a)] 1))
  rw [efI]
  refine Go.by (fun _ kont => XS.aloadN X0.here hx rfl (hb hby dI_0) rfl rfl kont) ?_
  show Go _ _ _ _ _ _ _ (s₁.setTop (mkF m 1 #[.val (.ref a)] [(.ref a)]))
  obtain ⟨T101, X101, e101, st101⟩ := initO X0 hx hZ hown (hw _ (List.mem_of_getElem? (i := 6) rfl)) (hw _ (List.mem_of_getElem? (i := 7) rfl)) (hw _ (List.mem_of_getElem? (i := 8) rfl)) e0 (g := (mkF m 1 #[.val (.ref a)] [(.ref a)])) rfl (by rw [hml]; rfl) rfl (hb hby dI_1) (by decide) (W := 0) (by show 2 * 0 + _ ≤ _; exact Nat.le_of_eq rfl) (by decide)
  refine Go.by st101 ?_
  show Go _ _ _ _ _ _ _ (T101.setTop (mkF m 4 #[.val (.ref a)] []))
  refine Go.by (fun _ kont => XS.aloadN X101.here hx rfl (hb hby dI_4) rfl rfl (XS.bipush X101.here hx rfl (hb hby dI_5) kont)) ?_
  show Go _ _ _ _ _ _ _ (T101.setTop (mkF m 7 #[.val (.ref a)] [(.int (16 : Int32)), (.ref a)]))
  obtain ⟨T102, h102, k102, X102, e102, X_102, A102, st102⟩ := newP X101 hx hZ (hw _ (List.mem_of_getElem? (i := 9) rfl)) e101 (g := (mkF m 7 #[.val (.ref a)] [(.int (16 : Int32)), (.ref a)])) rfl (hb hby dI_7) rfl (by decide) (cap := 16) (by decide) (by decide) (by decide) (by decide)
  obtain ⟨b102, g102⟩ : ∃ z, z = h0.size := ⟨_, rfl⟩
  rw [← g102] at A102 st102
  have ne_a_b102 : a ≠ b102 := Nat.ne_of_lt (Nat.lt_of_lt_of_le F0_a_values.lt (Nat.le_of_eq g102.symm))
  have ge_b102 : n0 ≤ b102 := Nat.le_trans Z0 (Nat.le_of_eq g102.symm)
  have sz_b102 : h0.size ≤ b102 := Nat.le_trans (Keep.refl h0 [a]).1 (Nat.le_of_eq g102.symm)
  have F103_values_a := F0_a_values.ext X_102
  have F103_size_a := F0_a_size.ext X_102
  have E103_a := E0_a.ext X_102
  have Z103 := Nat.le_trans Z0 X_102.1
  have K103 : Keep h0 h102 [a] := (Keep.refl h0 [a]).ext X_102
  have V102 : Arv Z h102 b102 k102 .int (16 : Int32) [(.int (0 : Int32)), (.int (0 : Int32)), (.int (0 : Int32)), (.int (0 : Int32)), (.int (0 : Int32)), (.int (0 : Int32)), (.int (0 : Int32)), (.int (0 : Int32)), (.int (0 : Int32)), (.int (0 : Int32)), (.int (0 : Int32)), (.int (0 : Int32)), (.int (0 : Int32)), (.int (0 : Int32)), (.int (0 : Int32)), (.int (0 : Int32))] (.int (0 : Int32)) := (Arv.new A102 (by decide)).pad (pad_rep [] (.int (0 : Int32)) 16)
  refine Go.by st102 ?_
  show Go _ _ _ _ _ _ _ (T102.setTop (mkF m 9 #[.val (.ref a)] [(.ref b102), (.ref a)]))
  obtain ⟨T104, h104, X104, e104, W104, st104⟩ := putF X102 hx hZ hown (host := "") (Or.inl (hw _ (List.mem_of_getElem? (i := 10) rfl))) Via.refl e102 F103_values_a E103_a (Or.inl (hw _ (List.mem_of_getElem? (i := 11) rfl))) (hw _ (List.mem_of_getElem? (i := 1) rfl)) (ty := (.array .int)) (by decide) rfl rfl (g := (mkF m 9 #[.val (.ref a)] [(.ref b102), (.ref a)])) rfl rfl (hb hby dI_9)
  have Fw104 := F103_values_a.same W104
  have F105_size_a := F103_size_a.other W104 (Or.inr (slot_ne (Or.inl (hw _ (List.mem_of_getElem? (i := 18) rfl))) (Or.inl (hw _ (List.mem_of_getElem? (i := 11) rfl))) (by decide) (t := .int) (t' := (.array .int)) (by decide) (by decide)))
  have E105_a := E103_a.wr W104
  have V105_b102 := V102.other W104 (Ne.symm ne_a_b102)
  have Z105 := Nat.le_trans Z103 (Keep.of_wr W104).1
  have K105 : Keep h0 h104 [a] := K103.wr W104 (Or.inl (by simp))
  have N104 := Fr.snoc X104 N0 ge0_a
  refine Go.by st104 ?_
  show Go _ _ _ _ _ _ _ (T104.setTop (mkF m 12 #[.val (.ref a)] []))
  refine Go.retV X104 hx hret hlk (hb hby dI_12) ?_ (by decide) (by decide)
  show QI Z a h0 n0 none T104.heap _
  rw [e104]
  exact ⟨b102, k102, rfl, N104, K105, E105_a, Fw104, F105_size_a, ge_b102, sz_b102, V105_b102⟩

theorem dA0_0 : decode prog_44_method_2_code 0 = .ok (.aload_n 0, 1) := by decide +kernel
theorem dA0_1 : decode prog_44_method_2_code 1 = .ok (.getfield 13, 3) := by decide +kernel
theorem dA0_4 : decode prog_44_method_2_code 4 = .ok (.aload_n 0, 1) := by decide +kernel
theorem dA0_5 : decode prog_44_method_2_code 5 = .ok (.getfield 7, 3) := by decide +kernel
theorem dA0_8 : decode prog_44_method_2_code 8 = .ok (.arraylength, 1) := by decide +kernel
theorem dA0_9 : decode prog_44_method_2_code 9 = .ok (.if_icmp .ne 25, 3) := by decide +kernel
theorem dA0_34 : decode prog_44_method_2_code 34 = .ok (.aload_n 0, 1) := by decide +kernel
theorem dA0_35 : decode prog_44_method_2_code 35 = .ok (.getfield 7, 3) := by decide +kernel
theorem dA0_38 : decode prog_44_method_2_code 38 = .ok (.aload_n 0, 1) := by decide +kernel
theorem dA0_39 : decode prog_44_method_2_code 39 = .ok (.dup, 1) := by decide +kernel
theorem dA0_40 : decode prog_44_method_2_code 40 = .ok (.getfield 13, 3) := by decide +kernel
theorem dA0_43 : decode prog_44_method_2_code 43 = .ok (.dup_x1, 1) := by decide +kernel
theorem dA0_44 : decode prog_44_method_2_code 44 = .ok (.iconst 1, 1) := by decide +kernel
theorem dA0_45 : decode prog_44_method_2_code 45 = .ok (.iadd, 1) := by decide +kernel
theorem dA0_46 : decode prog_44_method_2_code 46 = .ok (.putfield 13, 3) := by decide +kernel
theorem dA0_49 : decode prog_44_method_2_code 49 = .ok (.iload_n 1, 1) := by decide +kernel
theorem dA0_50 : decode prog_44_method_2_code 50 = .ok (.iastore, 1) := by decide +kernel
theorem dA0_51 : decode prog_44_method_2_code 51 = .ok (.return_, 1) := by decide +kernel
theorem pnA0 : plainName "com/example/quorumsmith/quorumsmith/protocols/quorum/IntList" = true := by first | (simp [plainName, overriddenIn]; done) | decide +kernel
theorem efA0 (m : MethodId) (a : Addr) (xx : Int32) : entryFrame m #[(.ref a), (.int xx)] 2 = mkF m 0 #[.val (.ref a), .val (.int xx)] [] := by first | (simp [entryFrame, mkF, argsToLocals, Value.category]; done) | rfl
def QA0 (Z : State) (a : Addr) (xx : Int32) (b : Addr) (kc_b : ClassId) (v0 : Int32) (v1 : Int32) (v2 : Int32) (h0 : Heap) (n0 : Nat) (v : Option Value) (h : Heap) (L : List Loc) : Prop := (v = none ∧ Fr n0 L ∧ Keep h0 h [a, b] ∧ Exa Z h a "com/example/quorumsmith/quorumsmith/protocols/quorum/IntList" ∧ Fld Z h a "com/example/quorumsmith/quorumsmith/protocols/quorum/IntList" "values" "[I" (.ref b) ∧ Fld Z h a "com/example/quorumsmith/quorumsmith/protocols/quorum/IntList" "size" "I" (.int (1 : Int32)) ∧ Arv Z h b kc_b .int (16 : Int32) [(.int xx), (.int v1), (.int v2), (.int (0 : Int32)), (.int (0 : Int32)), (.int (0 : Int32)), (.int (0 : Int32)), (.int (0 : Int32)), (.int (0 : Int32)), (.int (0 : Int32)), (.int (0 : Int32)), (.int (0 : Int32)), (.int (0 : Int32)), (.int (0 : Int32)), (.int (0 : Int32)), (.int (0 : Int32))] (.int (0 : Int32)))
set_option maxRecDepth 65536 in
set_option maxHeartbeats 40000000 in
theorem rmA0 (l : Launch) (Z : State) (a0 : Array Value) (hw : ∀ d ∈ tables_1, d.before a0 Z = true) (ws : List Jvm.Cond) (a : Addr) (xx : Int32) (b : Addr) (kc_b : ClassId) (v0 : Int32) (v1 : Int32) (v2 : Int32) (h0 : Heap) (n0 : Nat) (Z0 : n0 ≤ h0.size) (E0_a : Exa Z h0 a "com/example/quorumsmith/quorumsmith/protocols/quorum/IntList") (F0_a_values : Fld Z h0 a "com/example/quorumsmith/quorumsmith/protocols/quorum/IntList" "values" "[I" (.ref b)) (F0_a_size : Fld Z h0 a "com/example/quorumsmith/quorumsmith/protocols/quorum/IntList" "size" "I" (.int (0 : Int32))) (V0_b : Arv Z h0 b kc_b .int (16 : Int32) [(.int v0), (.int v1), (.int v2), (.int (0 : Int32)), (.int (0 : Int32)), (.int (0 : Int32)), (.int (0 : Int32)), (.int (0 : Int32)), (.int (0 : Int32)), (.int (0 : Int32)), (.int (0 : Int32)), (.int (0 : Int32)), (.int (0 : Int32)), (.int (0 : Int32)), (.int (0 : Int32)), (.int (0 : Int32))] (.int (0 : Int32))) (ne0_a_b : a ≠ b) (ge0_a : n0 ≤ a) (ge0_b : n0 ≤ b) :
    MetFree l (⟨"com/example/quorumsmith/quorumsmith/protocols/quorum/IntList", "add", "(I)V"⟩ : MethodName) (head1 (Jvm.Cond.code (⟨"com/example/quorumsmith/quorumsmith/protocols/quorum/IntList", "add", "(I)V"⟩ : MethodName) prog_44_method_2_code 2 none :: ws) ({ frames := 0, cells := 0, slots := 0, locals := 0 } : Room)) (fun aa_ U_ => aa_ = #[(.ref a), (.int xx)] ∧ Z.Warmed39 U_.vm ∧ U_.heap = h0) (fun _ _ _ _ _ => True) (fun _ U_ o_ V_ => ∃ v_ L_, o_ = .returned v_ ∧ QA0 Z a xx b kc_b v0 v1 v2 h0 n0 v_ V_.heap L_ ∧ FrameEnd U_ o_ V_ L_ ({ frames := 0, cells := 0, slots := 0, locals := 0 } : Room).cells ({ frames := 0, cells := 0, slots := 0, locals := 0 } : Room).slots) := by
  refine MetFree.of_bodySF (plainFor_of_name pnA0) hisR ?_
  intro p e s m args below meth c s₁ Bd hml0 hP hK
  obtain ⟨rfl, hZ, hh⟩ := hP
  have hx := Bd.exec
  have hby := Bd.bytes
  have hml : c.maxLocals = 2 := hml0
  have hown : s.vm.findClass "com/example/quorumsmith/quorumsmith/protocols/quorum/IntList" = some m.cls := findClass_of_methodNamed Bd.named
  have hnm := (name_of_methodNamed Bd.named Bd.method).1
  have hlk : meth.locks = false := BodyLoose.notSynchronized Bd
  have hret : meth.sig.returnType = none := Bd.returns
  have X0 : Stand p l e ({ frames := 0, cells := 0, slots := 0, locals := 0 } : Room) s m #[(.ref a), (.int xx)] below meth c s₁ [] 0 0 := Stand.of_body Bd
  have e0 : s₁.heap = h0 := by rw [← hh, Bd.state]; rfl
  have N0 := Fr.nil n0
  show Go p e below s ({ frames := 0, cells := 0, slots := 0, locals := 0 } : Room).cells ({ frames := 0, cells := 0, slots := 0, locals := 0 } : Room).slots (QA0 Z a xx b kc_b v0 v1 v2 h0 n0) (s₁.setTop (entryFrame m #[(.ref a), (.int xx)] 2))
  rw [efA0]
  refine Go.by (fun _ kont => XS.aloadN X0.here hx rfl (hb hby dA0_0) rfl rfl kont) ?_
  show Go _ _ _ _ _ _ _ (s₁.setTop (mkF m 1 #[.val (.ref a), .val (.int xx)] [(.ref a)]))
  obtain ⟨T101, X101, e101, st101⟩ := getF X0 hx hZ hown (host := "") (Or.inl (hw _ (List.mem_of_getElem? (i := 17) rfl))) Via.refl e0 F0_a_size (g := (mkF m 1 #[.val (.ref a), .val (.int xx)] [(.ref a)])) rfl rfl (hb hby dA0_1)
  refine Go.by st101 ?_
  show Go _ _ _ _ _ _ _ (T101.setTop (mkF m 4 #[.val (.ref a), .val (.int xx)] [(.int (0 : Int32))]))
  refine Go.by (fun _ kont => XS.aloadN X101.here hx rfl (hb hby dA0_4) rfl rfl kont) ?_
  show Go _ _ _ _ _ _ _ (T101.setTop (mkF m 5 #[.val (.ref a), .val (.int xx)] [(.ref a), (.int (0 : Int32))]))
  obtain ⟨T102, X102, e102, st102⟩ := getF X101 hx hZ hown (host := "") (Or.inl (hw _ (List.mem_of_getElem? (i := 10) rfl))) Via.refl e101 F0_a_values (g := (mkF m 5 #[.val (.ref a), .val (.int xx)] [(.ref a), (.int (0 : Int32))])) rfl rfl (hb hby dA0_5)
  refine Go.by st102 ?_
  show Go _ _ _ _ _ _ _ (T102.setTop (mkF m 8 #[.val (.ref a), .val (.int xx)] [(.ref b), (.int (0 : Int32))]))
  obtain ⟨cl_q103, Ar_q103, q1_q103, S_q103, N_q103, H_q103, G_q103⟩ := id V0_b
  refine Go.by (X102.arraylength hx (by rw [e102]; exact Ar_q103.1) (State.isArrayOf_alike hZ.alike Ar_q103.2.1) (g := (mkF m 8 #[.val (.ref a), .val (.int xx)] [(.ref b), (.int (0 : Int32))])) rfl rfl (hb hby dA0_8)) ?_
  rw [len_of S_q103 N_q103]
  show Go _ _ _ _ _ _ _ (T102.setTop (mkF m 9 #[.val (.ref a), .val (.int xx)] [(.int (16 : Int32)), (.int (0 : Int32))]))
  refine Go.by (fun _ kont => XS.icmpYes X102.here hx rfl (pc0 := 9) (pc' := 34) rfl (hb hby dA0_9) rfl (by decide) (by decide) (by decide) kont) ?_
  show Go _ _ _ _ _ _ _ (T102.setTop (mkF m 34 #[.val (.ref a), .val (.int xx)] []))
  refine Go.by (fun _ kont => XS.aloadN X102.here hx rfl (hb hby dA0_34) rfl rfl kont) ?_
  show Go _ _ _ _ _ _ _ (T102.setTop (mkF m 35 #[.val (.ref a), .val (.int xx)] [(.ref a)]))
  obtain ⟨T104, X104, e104, st104⟩ := getF X102 hx hZ hown (host := "") (Or.inl (hw _ (List.mem_of_getElem? (i := 10) rfl))) Via.refl e102 F0_a_values (g := (mkF m 35 #[.val (.ref a), .val (.int xx)] [(.ref a)])) rfl rfl (hb hby dA0_35)
  refine Go.by st104 ?_
  show Go _ _ _ _ _ _ _ (T104.setTop (mkF m 38 #[.val (.ref a), .val (.int xx)] [(.ref b)]))
  refine Go.by (fun _ kont => XS.aloadN X104.here hx rfl (hb hby dA0_38) rfl rfl (XS.dup X104.here hx rfl (hb hby dA0_39) rfl rfl kont)) ?_
  show Go _ _ _ _ _ _ _ (T104.setTop (mkF m 40 #[.val (.ref a), .val (.int xx)] [(.ref a), (.ref a), (.ref b)]))
  obtain ⟨T105, X105, e105, st105⟩ := getF X104 hx hZ hown (host := "") (Or.inl (hw _ (List.mem_of_getElem? (i := 17) rfl))) Via.refl e104 F0_a_size (g := (mkF m 40 #[.val (.ref a), .val (.int xx)] [(.ref a), (.ref a), (.ref b)])) rfl rfl (hb hby dA0_40)
  refine Go.by st105 ?_
  show Go _ _ _ _ _ _ _ (T105.setTop (mkF m 43 #[.val (.ref a), .val (.int xx)] [(.int (0 : Int32)), (.ref a), (.ref b)]))
  refine Go.by (fun _ kont => XS.dupX1 X105.here hx rfl (hb hby dA0_43) rfl rfl rfl (XS.iconst X105.here hx rfl (hb hby dA0_44) (XS.iadd X105.here hx rfl (hb hby dA0_45) rfl kont))) ?_
  show Go _ _ _ _ _ _ _ (T105.setTop (mkF m 46 #[.val (.ref a), .val (.int xx)] [(.int ((0 : Int32) + (1 : Int32))), (.ref a), (.int (0 : Int32)), (.ref b)]))
  rw [show ((0 : Int32) + (1 : Int32)) = (1 : Int32) from by decide]
  show Go _ _ _ _ _ _ _ (T105.setTop (mkF m 46 #[.val (.ref a), .val (.int xx)] [(.int (1 : Int32)), (.ref a), (.int (0 : Int32)), (.ref b)]))
  obtain ⟨T106, h106, X106, e106, W106, st106⟩ := putF X105 hx hZ hown (host := "") (Or.inl (hw _ (List.mem_of_getElem? (i := 17) rfl))) Via.refl e105 F0_a_size E0_a (Or.inl (hw _ (List.mem_of_getElem? (i := 18) rfl))) (hw _ (List.mem_of_getElem? (i := 1) rfl)) (ty := .int) (by decide) rfl rfl (g := (mkF m 46 #[.val (.ref a), .val (.int xx)] [(.int (1 : Int32)), (.ref a), (.int (0 : Int32)), (.ref b)])) rfl rfl (hb hby dA0_46)
  have Fw106 := F0_a_size.same W106
  have F107_values_a := F0_a_values.other W106 (Or.inr (slot_ne (Or.inl (hw _ (List.mem_of_getElem? (i := 11) rfl))) (Or.inl (hw _ (List.mem_of_getElem? (i := 18) rfl))) (by decide) (t := (.array .int)) (t' := .int) (by decide) (by decide)))
  have E107_a := E0_a.wr W106
  have V107_b := V0_b.other W106 (Ne.symm ne0_a_b)
  have Z107 := Nat.le_trans Z0 (Keep.of_wr W106).1
  have K107 : Keep h0 h106 [a, b] := (Keep.refl h0 [a, b]).wr W106 (Or.inl (by simp))
  have N106 := Fr.snoc X106 N0 ge0_a
  refine Go.by st106 ?_
  show Go _ _ _ _ _ _ _ (T106.setTop (mkF m 49 #[.val (.ref a), .val (.int xx)] [(.int (0 : Int32)), (.ref b)]))
  refine Go.by (fun _ kont => XS.iloadN X106.here hx rfl (hb hby dA0_49) rfl kont) ?_
  show Go _ _ _ _ _ _ _ (T106.setTop (mkF m 50 #[.val (.ref a), .val (.int xx)] [(.int xx), (.int (0 : Int32)), (.ref b)]))
  obtain ⟨cl_q108, Ar_q108, q1_q108, S_q108, N_q108, H_q108, G_q108⟩ := id V107_b
  have hin_q108 : ¬ ((0 : Int32) < 0 ∨ cl_q108.slots.size ≤ ((0 : Int32)).toNatClampNeg) := inb_of S_q108 ⟨by decide, by decide⟩
  obtain ⟨T109, h109, X109, e109, W109, st109⟩ := stI X106 hx hZ e106 Ar_q108 (j := (0 : Int32)) hin_q108 (g := (mkF m 50 #[.val (.ref a), .val (.int xx)] [(.int xx), (.int (0 : Int32)), (.ref b)])) rfl rfl (hb hby dA0_50)
  have V109 : Arv Z h109 b kc_b .int (16 : Int32) [(.int xx), (.int v1), (.int v2), (.int (0 : Int32)), (.int (0 : Int32)), (.int (0 : Int32)), (.int (0 : Int32)), (.int (0 : Int32)), (.int (0 : Int32)), (.int (0 : Int32)), (.int (0 : Int32)), (.int (0 : Int32)), (.int (0 : Int32)), (.int (0 : Int32)), (.int (0 : Int32)), (.int (0 : Int32))] (.int (0 : Int32)) := Arv.set Ar_q108 q1_q108 S_q108 N_q108 H_q108 G_q108 rfl W109 0 rfl (Nat.le_of_ble_eq_true rfl)
  have F110_values_a := F107_values_a.other W109 (Or.inl ne0_a_b)
  have F110_size_a := Fw106.other W109 (Or.inl ne0_a_b)
  have E110_a := E107_a.wr W109
  have Z110 := Nat.le_trans Z107 (Keep.of_wr W109).1
  have K110 : Keep h0 h109 [a, b] := K107.wr W109 (Or.inl (by simp))
  have N109 := Fr.snoc X109 N106 ge0_b
  refine Go.by st109 ?_
  show Go _ _ _ _ _ _ _ (T109.setTop (mkF m 51 #[.val (.ref a), .val (.int xx)] []))
  refine Go.retV X109 hx hret hlk (hb hby dA0_51) ?_ (by decide) (by decide)
  show QA0 Z a xx b kc_b v0 v1 v2 h0 n0 none T109.heap _
  rw [e109]
  exact ⟨rfl, N109, K110, E110_a, F110_values_a, F110_size_a, V109⟩

theorem dA1_0 : decode prog_44_method_2_code 0 = .ok (.aload_n 0, 1) := by decide +kernel
theorem dA1_1 : decode prog_44_method_2_code 1 = .ok (.getfield 13, 3) := by decide +kernel
theorem dA1_4 : decode prog_44_method_2_code 4 = .ok (.aload_n 0, 1) := by decide +kernel
theorem dA1_5 : decode prog_44_method_2_code 5 = .ok (.getfield 7, 3) := by decide +kernel
theorem dA1_8 : decode prog_44_method_2_code 8 = .ok (.arraylength, 1) := by decide +kernel
theorem dA1_9 : decode prog_44_method_2_code 9 = .ok (.if_icmp .ne 25, 3) := by decide +kernel
theorem dA1_34 : decode prog_44_method_2_code 34 = .ok (.aload_n 0, 1) := by decide +kernel
theorem dA1_35 : decode prog_44_method_2_code 35 = .ok (.getfield 7, 3) := by decide +kernel
theorem dA1_38 : decode prog_44_method_2_code 38 = .ok (.aload_n 0, 1) := by decide +kernel
theorem dA1_39 : decode prog_44_method_2_code 39 = .ok (.dup, 1) := by decide +kernel
theorem dA1_40 : decode prog_44_method_2_code 40 = .ok (.getfield 13, 3) := by decide +kernel
theorem dA1_43 : decode prog_44_method_2_code 43 = .ok (.dup_x1, 1) := by decide +kernel
theorem dA1_44 : decode prog_44_method_2_code 44 = .ok (.iconst 1, 1) := by decide +kernel
theorem dA1_45 : decode prog_44_method_2_code 45 = .ok (.iadd, 1) := by decide +kernel
theorem dA1_46 : decode prog_44_method_2_code 46 = .ok (.putfield 13, 3) := by decide +kernel
theorem dA1_49 : decode prog_44_method_2_code 49 = .ok (.iload_n 1, 1) := by decide +kernel
theorem dA1_50 : decode prog_44_method_2_code 50 = .ok (.iastore, 1) := by decide +kernel
theorem dA1_51 : decode prog_44_method_2_code 51 = .ok (.return_, 1) := by decide +kernel
theorem pnA1 : plainName "com/example/quorumsmith/quorumsmith/protocols/quorum/IntList" = true := by first | (simp [plainName, overriddenIn]; done) | decide +kernel
theorem efA1 (m : MethodId) (a : Addr) (xx : Int32) : entryFrame m #[(.ref a), (.int xx)] 2 = mkF m 0 #[.val (.ref a), .val (.int xx)] [] := by first | (simp [entryFrame, mkF, argsToLocals, Value.category]; done) | rfl
def QA1 (Z : State) (a : Addr) (xx : Int32) (b : Addr) (kc_b : ClassId) (v0 : Int32) (v1 : Int32) (v2 : Int32) (h0 : Heap) (n0 : Nat) (v : Option Value) (h : Heap) (L : List Loc) : Prop := (v = none ∧ Fr n0 L ∧ Keep h0 h [a, b] ∧ Exa Z h a "com/example/quorumsmith/quorumsmith/protocols/quorum/IntList" ∧ Fld Z h a "com/example/quorumsmith/quorumsmith/protocols/quorum/IntList" "values" "[I" (.ref b) ∧ Fld Z h a "com/example/quorumsmith/quorumsmith/protocols/quorum/IntList" "size" "I" (.int (2 : Int32)) ∧ Arv Z h b kc_b .int (16 : Int32) [(.int v0), (.int xx), (.int v2), (.int (0 : Int32)), (.int (0 : Int32)), (.int (0 : Int32)), (.int (0 : Int32)), (.int (0 : Int32)), (.int (0 : Int32)), (.int (0 : Int32)), (.int (0 : Int32)), (.int (0 : Int32)), (.int (0 : Int32)), (.int (0 : Int32)), (.int (0 : Int32)), (.int (0 : Int32))] (.int (0 : Int32)))
set_option maxRecDepth 65536 in
set_option maxHeartbeats 40000000 in
theorem rmA1 (l : Launch) (Z : State) (a0 : Array Value) (hw : ∀ d ∈ tables_1, d.before a0 Z = true) (ws : List Jvm.Cond) (a : Addr) (xx : Int32) (b : Addr) (kc_b : ClassId) (v0 : Int32) (v1 : Int32) (v2 : Int32) (h0 : Heap) (n0 : Nat) (Z0 : n0 ≤ h0.size) (E0_a : Exa Z h0 a "com/example/quorumsmith/quorumsmith/protocols/quorum/IntList") (F0_a_values : Fld Z h0 a "com/example/quorumsmith/quorumsmith/protocols/quorum/IntList" "values" "[I" (.ref b)) (F0_a_size : Fld Z h0 a "com/example/quorumsmith/quorumsmith/protocols/quorum/IntList" "size" "I" (.int (1 : Int32))) (V0_b : Arv Z h0 b kc_b .int (16 : Int32) [(.int v0), (.int v1), (.int v2), (.int (0 : Int32)), (.int (0 : Int32)), (.int (0 : Int32)), (.int (0 : Int32)), (.int (0 : Int32)), (.int (0 : Int32)), (.int (0 : Int32)), (.int (0 : Int32)), (.int (0 : Int32)), (.int (0 : Int32)), (.int (0 : Int32)), (.int (0 : Int32)), (.int (0 : Int32))] (.int (0 : Int32))) (ne0_a_b : a ≠ b) (ge0_a : n0 ≤ a) (ge0_b : n0 ≤ b) :
    MetFree l (⟨"com/example/quorumsmith/quorumsmith/protocols/quorum/IntList", "add", "(I)V"⟩ : MethodName) (head1 (Jvm.Cond.code (⟨"com/example/quorumsmith/quorumsmith/protocols/quorum/IntList", "add", "(I)V"⟩ : MethodName) prog_44_method_2_code 2 none :: ws) ({ frames := 0, cells := 0, slots := 0, locals := 0 } : Room)) (fun aa_ U_ => aa_ = #[(.ref a), (.int xx)] ∧ Z.Warmed39 U_.vm ∧ U_.heap = h0) (fun _ _ _ _ _ => True) (fun _ U_ o_ V_ => ∃ v_ L_, o_ = .returned v_ ∧ QA1 Z a xx b kc_b v0 v1 v2 h0 n0 v_ V_.heap L_ ∧ FrameEnd U_ o_ V_ L_ ({ frames := 0, cells := 0, slots := 0, locals := 0 } : Room).cells ({ frames := 0, cells := 0, slots := 0, locals := 0 } : Room).slots) := by
  refine MetFree.of_bodySF (plainFor_of_name pnA1) hisR ?_
  intro p e s m args below meth c s₁ Bd hml0 hP hK
  obtain ⟨rfl, hZ, hh⟩ := hP
  have hx := Bd.exec
  have hby := Bd.bytes
  have hml : c.maxLocals = 2 := hml0
  have hown : s.vm.findClass "com/example/quorumsmith/quorumsmith/protocols/quorum/IntList" = some m.cls := findClass_of_methodNamed Bd.named
  have hnm := (name_of_methodNamed Bd.named Bd.method).1
  have hlk : meth.locks = false := BodyLoose.notSynchronized Bd
  have hret : meth.sig.returnType = none := Bd.returns
  have X0 : Stand p l e ({ frames := 0, cells := 0, slots := 0, locals := 0 } : Room) s m #[(.ref a), (.int xx)] below meth c s₁ [] 0 0 := Stand.of_body Bd
  have e0 : s₁.heap = h0 := by rw [← hh, Bd.state]; rfl
  have N0 := Fr.nil n0
  show Go p e below s ({ frames := 0, cells := 0, slots := 0, locals := 0 } : Room).cells ({ frames := 0, cells := 0, slots := 0, locals := 0 } : Room).slots (QA1 Z a xx b kc_b v0 v1 v2 h0 n0) (s₁.setTop (entryFrame m #[(.ref a), (.int xx)] 2))
  rw [efA1]
  refine Go.by (fun _ kont => XS.aloadN X0.here hx rfl (hb hby dA1_0) rfl rfl kont) ?_
  show Go _ _ _ _ _ _ _ (s₁.setTop (mkF m 1 #[.val (.ref a), .val (.int xx)] [(.ref a)]))
  obtain ⟨T101, X101, e101, st101⟩ := getF X0 hx hZ hown (host := "") (Or.inl (hw _ (List.mem_of_getElem? (i := 17) rfl))) Via.refl e0 F0_a_size (g := (mkF m 1 #[.val (.ref a), .val (.int xx)] [(.ref a)])) rfl rfl (hb hby dA1_1)
  refine Go.by st101 ?_
  show Go _ _ _ _ _ _ _ (T101.setTop (mkF m 4 #[.val (.ref a), .val (.int xx)] [(.int (1 : Int32))]))
  refine Go.by (fun _ kont => XS.aloadN X101.here hx rfl (hb hby dA1_4) rfl rfl kont) ?_
  show Go _ _ _ _ _ _ _ (T101.setTop (mkF m 5 #[.val (.ref a), .val (.int xx)] [(.ref a), (.int (1 : Int32))]))
  obtain ⟨T102, X102, e102, st102⟩ := getF X101 hx hZ hown (host := "") (Or.inl (hw _ (List.mem_of_getElem? (i := 10) rfl))) Via.refl e101 F0_a_values (g := (mkF m 5 #[.val (.ref a), .val (.int xx)] [(.ref a), (.int (1 : Int32))])) rfl rfl (hb hby dA1_5)
  refine Go.by st102 ?_
  show Go _ _ _ _ _ _ _ (T102.setTop (mkF m 8 #[.val (.ref a), .val (.int xx)] [(.ref b), (.int (1 : Int32))]))
  obtain ⟨cl_q103, Ar_q103, q1_q103, S_q103, N_q103, H_q103, G_q103⟩ := id V0_b
  refine Go.by (X102.arraylength hx (by rw [e102]; exact Ar_q103.1) (State.isArrayOf_alike hZ.alike Ar_q103.2.1) (g := (mkF m 8 #[.val (.ref a), .val (.int xx)] [(.ref b), (.int (1 : Int32))])) rfl rfl (hb hby dA1_8)) ?_
  rw [len_of S_q103 N_q103]
  show Go _ _ _ _ _ _ _ (T102.setTop (mkF m 9 #[.val (.ref a), .val (.int xx)] [(.int (16 : Int32)), (.int (1 : Int32))]))
  refine Go.by (fun _ kont => XS.icmpYes X102.here hx rfl (pc0 := 9) (pc' := 34) rfl (hb hby dA1_9) rfl (by decide) (by decide) (by decide) kont) ?_
  show Go _ _ _ _ _ _ _ (T102.setTop (mkF m 34 #[.val (.ref a), .val (.int xx)] []))
  refine Go.by (fun _ kont => XS.aloadN X102.here hx rfl (hb hby dA1_34) rfl rfl kont) ?_
  show Go _ _ _ _ _ _ _ (T102.setTop (mkF m 35 #[.val (.ref a), .val (.int xx)] [(.ref a)]))
  obtain ⟨T104, X104, e104, st104⟩ := getF X102 hx hZ hown (host := "") (Or.inl (hw _ (List.mem_of_getElem? (i := 10) rfl))) Via.refl e102 F0_a_values (g := (mkF m 35 #[.val (.ref a), .val (.int xx)] [(.ref a)])) rfl rfl (hb hby dA1_35)
  refine Go.by st104 ?_
  show Go _ _ _ _ _ _ _ (T104.setTop (mkF m 38 #[.val (.ref a), .val (.int xx)] [(.ref b)]))
  refine Go.by (fun _ kont => XS.aloadN X104.here hx rfl (hb hby dA1_38) rfl rfl (XS.dup X104.here hx rfl (hb hby dA1_39) rfl rfl kont)) ?_
  show Go _ _ _ _ _ _ _ (T104.setTop (mkF m 40 #[.val (.ref a), .val (.int xx)] [(.ref a), (.ref a), (.ref b)]))
  obtain ⟨T105, X105, e105, st105⟩ := getF X104 hx hZ hown (host := "") (Or.inl (hw _ (List.mem_of_getElem? (i := 17) rfl))) Via.refl e104 F0_a_size (g := (mkF m 40 #[.val (.ref a), .val (.int xx)] [(.ref a), (.ref a), (.ref b)])) rfl rfl (hb hby dA1_40)
  refine Go.by st105 ?_
  show Go _ _ _ _ _ _ _ (T105.setTop (mkF m 43 #[.val (.ref a), .val (.int xx)] [(.int (1 : Int32)), (.ref a), (.ref b)]))
  refine Go.by (fun _ kont => XS.dupX1 X105.here hx rfl (hb hby dA1_43) rfl rfl rfl (XS.iconst X105.here hx rfl (hb hby dA1_44) (XS.iadd X105.here hx rfl (hb hby dA1_45) rfl kont))) ?_
  show Go _ _ _ _ _ _ _ (T105.setTop (mkF m 46 #[.val (.ref a), .val (.int xx)] [(.int ((1 : Int32) + (1 : Int32))), (.ref a), (.int (1 : Int32)), (.ref b)]))
  rw [show ((1 : Int32) + (1 : Int32)) = (2 : Int32) from by decide]
  show Go _ _ _ _ _ _ _ (T105.setTop (mkF m 46 #[.val (.ref a), .val (.int xx)] [(.int (2 : Int32)), (.ref a), (.int (1 : Int32)), (.ref b)]))
  obtain ⟨T106, h106, X106, e106, W106, st106⟩ := putF X105 hx hZ hown (host := "") (Or.inl (hw _ (List.mem_of_getElem? (i := 17) rfl))) Via.refl e105 F0_a_size E0_a (Or.inl (hw _ (List.mem_of_getElem? (i := 18) rfl))) (hw _ (List.mem_of_getElem? (i := 1) rfl)) (ty := .int) (by decide) rfl rfl (g := (mkF m 46 #[.val (.ref a), .val (.int xx)] [(.int (2 : Int32)), (.ref a), (.int (1 : Int32)), (.ref b)])) rfl rfl (hb hby dA1_46)
  have Fw106 := F0_a_size.same W106
  have F107_values_a := F0_a_values.other W106 (Or.inr (slot_ne (Or.inl (hw _ (List.mem_of_getElem? (i := 11) rfl))) (Or.inl (hw _ (List.mem_of_getElem? (i := 18) rfl))) (by decide) (t := (.array .int)) (t' := .int) (by decide) (by decide)))
  have E107_a := E0_a.wr W106
  have V107_b := V0_b.other W106 (Ne.symm ne0_a_b)
  have Z107 := Nat.le_trans Z0 (Keep.of_wr W106).1
  have K107 : Keep h0 h106 [a, b] := (Keep.refl h0 [a, b]).wr W106 (Or.inl (by simp))
  have N106 := Fr.snoc X106 N0 ge0_a
  refine Go.by st106 ?_
  show Go _ _ _ _ _ _ _ (T106.setTop (mkF m 49 #[.val (.ref a), .val (.int xx)] [(.int (1 : Int32)), (.ref b)]))
  refine Go.by (fun _ kont => XS.iloadN X106.here hx rfl (hb hby dA1_49) rfl kont) ?_
  show Go _ _ _ _ _ _ _ (T106.setTop (mkF m 50 #[.val (.ref a), .val (.int xx)] [(.int xx), (.int (1 : Int32)), (.ref b)]))
  obtain ⟨cl_q108, Ar_q108, q1_q108, S_q108, N_q108, H_q108, G_q108⟩ := id V107_b
  have hin_q108 : ¬ ((1 : Int32) < 0 ∨ cl_q108.slots.size ≤ ((1 : Int32)).toNatClampNeg) := inb_of S_q108 ⟨by decide, by decide⟩
  obtain ⟨T109, h109, X109, e109, W109, st109⟩ := stI X106 hx hZ e106 Ar_q108 (j := (1 : Int32)) hin_q108 (g := (mkF m 50 #[.val (.ref a), .val (.int xx)] [(.int xx), (.int (1 : Int32)), (.ref b)])) rfl rfl (hb hby dA1_50)
  have V109 : Arv Z h109 b kc_b .int (16 : Int32) [(.int v0), (.int xx), (.int v2), (.int (0 : Int32)), (.int (0 : Int32)), (.int (0 : Int32)), (.int (0 : Int32)), (.int (0 : Int32)), (.int (0 : Int32)), (.int (0 : Int32)), (.int (0 : Int32)), (.int (0 : Int32)), (.int (0 : Int32)), (.int (0 : Int32)), (.int (0 : Int32)), (.int (0 : Int32))] (.int (0 : Int32)) := Arv.set Ar_q108 q1_q108 S_q108 N_q108 H_q108 G_q108 rfl W109 1 rfl (Nat.le_of_ble_eq_true rfl)
  have F110_values_a := F107_values_a.other W109 (Or.inl ne0_a_b)
  have F110_size_a := Fw106.other W109 (Or.inl ne0_a_b)
  have E110_a := E107_a.wr W109
  have Z110 := Nat.le_trans Z107 (Keep.of_wr W109).1
  have K110 : Keep h0 h109 [a, b] := K107.wr W109 (Or.inl (by simp))
  have N109 := Fr.snoc X109 N106 ge0_b
  refine Go.by st109 ?_
  show Go _ _ _ _ _ _ _ (T109.setTop (mkF m 51 #[.val (.ref a), .val (.int xx)] []))
  refine Go.retV X109 hx hret hlk (hb hby dA1_51) ?_ (by decide) (by decide)
  show QA1 Z a xx b kc_b v0 v1 v2 h0 n0 none T109.heap _
  rw [e109]
  exact ⟨rfl, N109, K110, E110_a, F110_values_a, F110_size_a, V109⟩

theorem dA2_0 : decode prog_44_method_2_code 0 = .ok (.aload_n 0, 1) := by decide +kernel
theorem dA2_1 : decode prog_44_method_2_code 1 = .ok (.getfield 13, 3) := by decide +kernel
theorem dA2_4 : decode prog_44_method_2_code 4 = .ok (.aload_n 0, 1) := by decide +kernel
theorem dA2_5 : decode prog_44_method_2_code 5 = .ok (.getfield 7, 3) := by decide +kernel
theorem dA2_8 : decode prog_44_method_2_code 8 = .ok (.arraylength, 1) := by decide +kernel
theorem dA2_9 : decode prog_44_method_2_code 9 = .ok (.if_icmp .ne 25, 3) := by decide +kernel
theorem dA2_34 : decode prog_44_method_2_code 34 = .ok (.aload_n 0, 1) := by decide +kernel
theorem dA2_35 : decode prog_44_method_2_code 35 = .ok (.getfield 7, 3) := by decide +kernel
theorem dA2_38 : decode prog_44_method_2_code 38 = .ok (.aload_n 0, 1) := by decide +kernel
theorem dA2_39 : decode prog_44_method_2_code 39 = .ok (.dup, 1) := by decide +kernel
theorem dA2_40 : decode prog_44_method_2_code 40 = .ok (.getfield 13, 3) := by decide +kernel
theorem dA2_43 : decode prog_44_method_2_code 43 = .ok (.dup_x1, 1) := by decide +kernel
theorem dA2_44 : decode prog_44_method_2_code 44 = .ok (.iconst 1, 1) := by decide +kernel
theorem dA2_45 : decode prog_44_method_2_code 45 = .ok (.iadd, 1) := by decide +kernel
theorem dA2_46 : decode prog_44_method_2_code 46 = .ok (.putfield 13, 3) := by decide +kernel
theorem dA2_49 : decode prog_44_method_2_code 49 = .ok (.iload_n 1, 1) := by decide +kernel
theorem dA2_50 : decode prog_44_method_2_code 50 = .ok (.iastore, 1) := by decide +kernel
theorem dA2_51 : decode prog_44_method_2_code 51 = .ok (.return_, 1) := by decide +kernel
theorem pnA2 : plainName "com/example/quorumsmith/quorumsmith/protocols/quorum/IntList" = true := by first | (simp [plainName, overriddenIn]; done) | decide +kernel
theorem efA2 (m : MethodId) (a : Addr) (xx : Int32) : entryFrame m #[(.ref a), (.int xx)] 2 = mkF m 0 #[.val (.ref a), .val (.int xx)] [] := by first | (simp [entryFrame, mkF, argsToLocals, Value.category]; done) | rfl
def QA2 (Z : State) (a : Addr) (xx : Int32) (b : Addr) (kc_b : ClassId) (v0 : Int32) (v1 : Int32) (v2 : Int32) (h0 : Heap) (n0 : Nat) (v : Option Value) (h : Heap) (L : List Loc) : Prop := (v = none ∧ Fr n0 L ∧ Keep h0 h [a, b] ∧ Exa Z h a "com/example/quorumsmith/quorumsmith/protocols/quorum/IntList" ∧ Fld Z h a "com/example/quorumsmith/quorumsmith/protocols/quorum/IntList" "values" "[I" (.ref b) ∧ Fld Z h a "com/example/quorumsmith/quorumsmith/protocols/quorum/IntList" "size" "I" (.int (3 : Int32)) ∧ Arv Z h b kc_b .int (16 : Int32) [(.int v0), (.int v1), (.int xx), (.int (0 : Int32)), (.int (0 : Int32)), (.int (0 : Int32)), (.int (0 : Int32)), (.int (0 : Int32)), (.int (0 : Int32)), (.int (0 : Int32)), (.int (0 : Int32)), (.int (0 : Int32)), (.int (0 : Int32)), (.int (0 : Int32)), (.int (0 : Int32)), (.int (0 : Int32))] (.int (0 : Int32)))
set_option maxRecDepth 65536 in
set_option maxHeartbeats 40000000 in
theorem rmA2 (l : Launch) (Z : State) (a0 : Array Value) (hw : ∀ d ∈ tables_1, d.before a0 Z = true) (ws : List Jvm.Cond) (a : Addr) (xx : Int32) (b : Addr) (kc_b : ClassId) (v0 : Int32) (v1 : Int32) (v2 : Int32) (h0 : Heap) (n0 : Nat) (Z0 : n0 ≤ h0.size) (E0_a : Exa Z h0 a "com/example/quorumsmith/quorumsmith/protocols/quorum/IntList") (F0_a_values : Fld Z h0 a "com/example/quorumsmith/quorumsmith/protocols/quorum/IntList" "values" "[I" (.ref b)) (F0_a_size : Fld Z h0 a "com/example/quorumsmith/quorumsmith/protocols/quorum/IntList" "size" "I" (.int (2 : Int32))) (V0_b : Arv Z h0 b kc_b .int (16 : Int32) [(.int v0), (.int v1), (.int v2), (.int (0 : Int32)), (.int (0 : Int32)), (.int (0 : Int32)), (.int (0 : Int32)), (.int (0 : Int32)), (.int (0 : Int32)), (.int (0 : Int32)), (.int (0 : Int32)), (.int (0 : Int32)), (.int (0 : Int32)), (.int (0 : Int32)), (.int (0 : Int32)), (.int (0 : Int32))] (.int (0 : Int32))) (ne0_a_b : a ≠ b) (ge0_a : n0 ≤ a) (ge0_b : n0 ≤ b) :
    MetFree l (⟨"com/example/quorumsmith/quorumsmith/protocols/quorum/IntList", "add", "(I)V"⟩ : MethodName) (head1 (Jvm.Cond.code (⟨"com/example/quorumsmith/quorumsmith/protocols/quorum/IntList", "add", "(I)V"⟩ : MethodName) prog_44_method_2_code 2 none :: ws) ({ frames := 0, cells := 0, slots := 0, locals := 0 } : Room)) (fun aa_ U_ => aa_ = #[(.ref a), (.int xx)] ∧ Z.Warmed39 U_.vm ∧ U_.heap = h0) (fun _ _ _ _ _ => True) (fun _ U_ o_ V_ => ∃ v_ L_, o_ = .returned v_ ∧ QA2 Z a xx b kc_b v0 v1 v2 h0 n0 v_ V_.heap L_ ∧ FrameEnd U_ o_ V_ L_ ({ frames := 0, cells := 0, slots := 0, locals := 0 } : Room).cells ({ frames := 0, cells := 0, slots := 0, locals := 0 } : Room).slots) := by
  refine MetFree.of_bodySF (plainFor_of_name pnA2) hisR ?_
  intro p e s m args below meth c s₁ Bd hml0 hP hK
  obtain ⟨rfl, hZ, hh⟩ := hP
  have hx := Bd.exec
  have hby := Bd.bytes
  have hml : c.maxLocals = 2 := hml0
  have hown : s.vm.findClass "com/example/quorumsmith/quorumsmith/protocols/quorum/IntList" = some m.cls := findClass_of_methodNamed Bd.named
  have hnm := (name_of_methodNamed Bd.named Bd.method).1
  have hlk : meth.locks = false := BodyLoose.notSynchronized Bd
  have hret : meth.sig.returnType = none := Bd.returns
  have X0 : Stand p l e ({ frames := 0, cells := 0, slots := 0, locals := 0 } : Room) s m #[(.ref a), (.int xx)] below meth c s₁ [] 0 0 := Stand.of_body Bd
  have e0 : s₁.heap = h0 := by rw [← hh, Bd.state]; rfl
  have N0 := Fr.nil n0
  show Go p e below s ({ frames := 0, cells := 0, slots := 0, locals := 0 } : Room).cells ({ frames := 0, cells := 0, slots := 0, locals := 0 } : Room).slots (QA2 Z a xx b kc_b v0 v1 v2 h0 n0) (s₁.setTop (entryFrame m #[(.ref a), (.int xx)] 2))
  rw [efA2]
  refine Go.by (fun _ kont => XS.aloadN X0.here hx rfl (hb hby dA2_0) rfl rfl kont) ?_
  show Go _ _ _ _ _ _ _ (s₁.setTop (mkF m 1 #[.val (.ref a), .val (.int xx)] [(.ref a)]))
  obtain ⟨T101, X101, e101, st101⟩ := getF X0 hx hZ hown (host := "") (Or.inl (hw _ (List.mem_of_getElem? (i := 17) rfl))) Via.refl e0 F0_a_size (g := (mkF m 1 #[.val (.ref a), .val (.int xx)] [(.ref a)])) rfl rfl (hb hby dA2_1)
  refine Go.by st101 ?_
  show Go _ _ _ _ _ _ _ (T101.setTop (mkF m 4 #[.val (.ref a), .val (.int xx)] [(.int (2 : Int32))]))
  refine Go.by (fun _ kont => XS.aloadN X101.here hx rfl (hb hby dA2_4) rfl rfl kont) ?_
  show Go _ _ _ _ _ _ _ (T101.setTop (mkF m 5 #[.val (.ref a), .val (.int xx)] [(.ref a), (.int (2 : Int32))]))
  obtain ⟨T102, X102, e102, st102⟩ := getF X101 hx hZ hown (host := "") (Or.inl (hw _ (List.mem_of_getElem? (i := 10) rfl))) Via.refl e101 F0_a_values (g := (mkF m 5 #[.val (.ref a), .val (.int xx)] [(.ref a), (.int (2 : Int32))])) rfl rfl (hb hby dA2_5)
  refine Go.by st102 ?_
  show Go _ _ _ _ _ _ _ (T102.setTop (mkF m 8 #[.val (.ref a), .val (.int xx)] [(.ref b), (.int (2 : Int32))]))
  obtain ⟨cl_q103, Ar_q103, q1_q103, S_q103, N_q103, H_q103, G_q103⟩ := id V0_b
  refine Go.by (X102.arraylength hx (by rw [e102]; exact Ar_q103.1) (State.isArrayOf_alike hZ.alike Ar_q103.2.1) (g := (mkF m 8 #[.val (.ref a), .val (.int xx)] [(.ref b), (.int (2 : Int32))])) rfl rfl (hb hby dA2_8)) ?_
  rw [len_of S_q103 N_q103]
  show Go _ _ _ _ _ _ _ (T102.setTop (mkF m 9 #[.val (.ref a), .val (.int xx)] [(.int (16 : Int32)), (.int (2 : Int32))]))
  refine Go.by (fun _ kont => XS.icmpYes X102.here hx rfl (pc0 := 9) (pc' := 34) rfl (hb hby dA2_9) rfl (by decide) (by decide) (by decide) kont) ?_
  show Go _ _ _ _ _ _ _ (T102.setTop (mkF m 34 #[.val (.ref a), .val (.int xx)] []))
  refine Go.by (fun _ kont => XS.aloadN X102.here hx rfl (hb hby dA2_34) rfl rfl kont) ?_
  show Go _ _ _ _ _ _ _ (T102.setTop (mkF m 35 #[.val (.ref a), .val (.int xx)] [(.ref a)]))
  obtain ⟨T104, X104, e104, st104⟩ := getF X102 hx hZ hown (host := "") (Or.inl (hw _ (List.mem_of_getElem? (i := 10) rfl))) Via.refl e102 F0_a_values (g := (mkF m 35 #[.val (.ref a), .val (.int xx)] [(.ref a)])) rfl rfl (hb hby dA2_35)
  refine Go.by st104 ?_
  show Go _ _ _ _ _ _ _ (T104.setTop (mkF m 38 #[.val (.ref a), .val (.int xx)] [(.ref b)]))
  refine Go.by (fun _ kont => XS.aloadN X104.here hx rfl (hb hby dA2_38) rfl rfl (XS.dup X104.here hx rfl (hb hby dA2_39) rfl rfl kont)) ?_
  show Go _ _ _ _ _ _ _ (T104.setTop (mkF m 40 #[.val (.ref a), .val (.int xx)] [(.ref a), (.ref a), (.ref b)]))
  obtain ⟨T105, X105, e105, st105⟩ := getF X104 hx hZ hown (host := "") (Or.inl (hw _ (List.mem_of_getElem? (i := 17) rfl))) Via.refl e104 F0_a_size (g := (mkF m 40 #[.val (.ref a), .val (.int xx)] [(.ref a), (.ref a), (.ref b)])) rfl rfl (hb hby dA2_40)
  refine Go.by st105 ?_
  show Go _ _ _ _ _ _ _ (T105.setTop (mkF m 43 #[.val (.ref a), .val (.int xx)] [(.int (2 : Int32)), (.ref a), (.ref b)]))
  refine Go.by (fun _ kont => XS.dupX1 X105.here hx rfl (hb hby dA2_43) rfl rfl rfl (XS.iconst X105.here hx rfl (hb hby dA2_44) (XS.iadd X105.here hx rfl (hb hby dA2_45) rfl kont))) ?_
  show Go _ _ _ _ _ _ _ (T105.setTop (mkF m 46 #[.val (.ref a), .val (.int xx)] [(.int ((2 : Int32) + (1 : Int32))), (.ref a), (.int (2 : Int32)), (.ref b)]))
  rw [show ((2 : Int32) + (1 : Int32)) = (3 : Int32) from by decide]
  show Go _ _ _ _ _ _ _ (T105.setTop (mkF m 46 #[.val (.ref a), .val (.int xx)] [(.int (3 : Int32)), (.ref a), (.int (2 : Int32)), (.ref b)]))
  obtain ⟨T106, h106, X106, e106, W106, st106⟩ := putF X105 hx hZ hown (host := "") (Or.inl (hw _ (List.mem_of_getElem? (i := 17) rfl))) Via.refl e105 F0_a_size E0_a (Or.inl (hw _ (List.mem_of_getElem? (i := 18) rfl))) (hw _ (List.mem_of_getElem? (i := 1) rfl)) (ty := .int) (by decide) rfl rfl (g := (mkF m 46 #[.val (.ref a), .val (.int xx)] [(.int (3 : Int32)), (.ref a), (.int (2 : Int32)), (.ref b)])) rfl rfl (hb hby dA2_46)
  have Fw106 := F0_a_size.same W106
  have F107_values_a := F0_a_values.other W106 (Or.inr (slot_ne (Or.inl (hw _ (List.mem_of_getElem? (i := 11) rfl))) (Or.inl (hw _ (List.mem_of_getElem? (i := 18) rfl))) (by decide) (t := (.array .int)) (t' := .int) (by decide) (by decide)))
  have E107_a := E0_a.wr W106
  have V107_b := V0_b.other W106 (Ne.symm ne0_a_b)
  have Z107 := Nat.le_trans Z0 (Keep.of_wr W106).1
  have K107 : Keep h0 h106 [a, b] := (Keep.refl h0 [a, b]).wr W106 (Or.inl (by simp))
  have N106 := Fr.snoc X106 N0 ge0_a
  refine Go.by st106 ?_
  show Go _ _ _ _ _ _ _ (T106.setTop (mkF m 49 #[.val (.ref a), .val (.int xx)] [(.int (2 : Int32)), (.ref b)]))
  refine Go.by (fun _ kont => XS.iloadN X106.here hx rfl (hb hby dA2_49) rfl kont) ?_
  show Go _ _ _ _ _ _ _ (T106.setTop (mkF m 50 #[.val (.ref a), .val (.int xx)] [(.int xx), (.int (2 : Int32)), (.ref b)]))
  obtain ⟨cl_q108, Ar_q108, q1_q108, S_q108, N_q108, H_q108, G_q108⟩ := id V107_b
  have hin_q108 : ¬ ((2 : Int32) < 0 ∨ cl_q108.slots.size ≤ ((2 : Int32)).toNatClampNeg) := inb_of S_q108 ⟨by decide, by decide⟩
  obtain ⟨T109, h109, X109, e109, W109, st109⟩ := stI X106 hx hZ e106 Ar_q108 (j := (2 : Int32)) hin_q108 (g := (mkF m 50 #[.val (.ref a), .val (.int xx)] [(.int xx), (.int (2 : Int32)), (.ref b)])) rfl rfl (hb hby dA2_50)
  have V109 : Arv Z h109 b kc_b .int (16 : Int32) [(.int v0), (.int v1), (.int xx), (.int (0 : Int32)), (.int (0 : Int32)), (.int (0 : Int32)), (.int (0 : Int32)), (.int (0 : Int32)), (.int (0 : Int32)), (.int (0 : Int32)), (.int (0 : Int32)), (.int (0 : Int32)), (.int (0 : Int32)), (.int (0 : Int32)), (.int (0 : Int32)), (.int (0 : Int32))] (.int (0 : Int32)) := Arv.set Ar_q108 q1_q108 S_q108 N_q108 H_q108 G_q108 rfl W109 2 rfl (Nat.le_of_ble_eq_true rfl)
  have F110_values_a := F107_values_a.other W109 (Or.inl ne0_a_b)
  have F110_size_a := Fw106.other W109 (Or.inl ne0_a_b)
  have E110_a := E107_a.wr W109
  have Z110 := Nat.le_trans Z107 (Keep.of_wr W109).1
  have K110 : Keep h0 h109 [a, b] := K107.wr W109 (Or.inl (by simp))
  have N109 := Fr.snoc X109 N106 ge0_b
  refine Go.by st109 ?_
  show Go _ _ _ _ _ _ _ (T109.setTop (mkF m 51 #[.val (.ref a), .val (.int xx)] []))
  refine Go.retV X109 hx hret hlk (hb hby dA2_51) ?_ (by decide) (by decide)
  show QA2 Z a xx b kc_b v0 v1 v2 h0 n0 none T109.heap _
  rw [e109]
  exact ⟨rfl, N109, K110, E110_a, F110_values_a, F110_size_a, V109⟩

theorem dC_0 : decode prog_44_method_9_code 0 = .ok (.aload_n 0, 1) := by decide +kernel
theorem dC_1 : decode prog_44_method_9_code 1 = .ok (.iconst 0, 1) := by decide +kernel
theorem dC_2 : decode prog_44_method_9_code 2 = .ok (.putfield 13, 3) := by decide +kernel
theorem dC_5 : decode prog_44_method_9_code 5 = .ok (.return_, 1) := by decide +kernel
theorem pnC : plainName "com/example/quorumsmith/quorumsmith/protocols/quorum/IntList" = true := by first | (simp [plainName, overriddenIn]; done) | decide +kernel
theorem efC (m : MethodId) (a : Addr) : entryFrame m #[(.ref a)] 1 = mkF m 0 #[.val (.ref a)] [] := by first | (simp [entryFrame, mkF, argsToLocals, Value.category]; done) | rfl
def QC (Z : State) (a : Addr) (b : Addr) (sz : Int32) (h0 : Heap) (n0 : Nat) (v : Option Value) (h : Heap) (L : List Loc) : Prop := (v = none ∧ Fr n0 L ∧ Keep h0 h [a] ∧ Exa Z h a "com/example/quorumsmith/quorumsmith/protocols/quorum/IntList" ∧ Fld Z h a "com/example/quorumsmith/quorumsmith/protocols/quorum/IntList" "values" "[I" (.ref b) ∧ Fld Z h a "com/example/quorumsmith/quorumsmith/protocols/quorum/IntList" "size" "I" (.int (0 : Int32)))
set_option maxRecDepth 65536 in
set_option maxHeartbeats 40000000 in
theorem rmC (l : Launch) (Z : State) (a0 : Array Value) (hw : ∀ d ∈ tables_1, d.before a0 Z = true) (ws : List Jvm.Cond) (a : Addr) (b : Addr) (sz : Int32) (h0 : Heap) (n0 : Nat) (Z0 : n0 ≤ h0.size) (E0_a : Exa Z h0 a "com/example/quorumsmith/quorumsmith/protocols/quorum/IntList") (F0_a_values : Fld Z h0 a "com/example/quorumsmith/quorumsmith/protocols/quorum/IntList" "values" "[I" (.ref b)) (F0_a_size : Fld Z h0 a "com/example/quorumsmith/quorumsmith/protocols/quorum/IntList" "size" "I" (.int sz)) (ge0_a : n0 ≤ a) :
    MetFree l (⟨"com/example/quorumsmith/quorumsmith/protocols/quorum/IntList", "clear", "()V"⟩ : MethodName) (head1 (Jvm.Cond.code (⟨"com/example/quorumsmith/quorumsmith/protocols/quorum/IntList", "clear", "()V"⟩ : MethodName) prog_44_method_9_code 1 none :: ws) ({ frames := 0, cells := 0, slots := 0, locals := 0 } : Room)) (fun aa_ U_ => aa_ = #[(.ref a)] ∧ Z.Warmed39 U_.vm ∧ U_.heap = h0) (fun _ _ _ _ _ => True) (fun _ U_ o_ V_ => ∃ v_ L_, o_ = .returned v_ ∧ QC Z a b sz h0 n0 v_ V_.heap L_ ∧ FrameEnd U_ o_ V_ L_ ({ frames := 0, cells := 0, slots := 0, locals := 0 } : Room).cells ({ frames := 0, cells := 0, slots := 0, locals := 0 } : Room).slots) := by
  refine MetFree.of_bodySF (plainFor_of_name pnC) hisR ?_
  intro p e s m args below meth c s₁ Bd hml0 hP hK
  obtain ⟨rfl, hZ, hh⟩ := hP
  have hx := Bd.exec
  have hby := Bd.bytes
  have hml : c.maxLocals = 1 := hml0
  have hown : s.vm.findClass "com/example/quorumsmith/quorumsmith/protocols/quorum/IntList" = some m.cls := findClass_of_methodNamed Bd.named
  have hnm := (name_of_methodNamed Bd.named Bd.method).1
  have hlk : meth.locks = false := BodyLoose.notSynchronized Bd
  have hret : meth.sig.returnType = none := Bd.returns
  have X0 : Stand p l e ({ frames := 0, cells := 0, slots := 0, locals := 0 } : Room) s m #[(.ref a)] below meth c s₁ [] 0 0 := Stand.of_body Bd
  have e0 : s₁.heap = h0 := by rw [← hh, Bd.state]; rfl
  have N0 := Fr.nil n0
  show Go p e below s ({ frames := 0, cells := 0, slots := 0, locals := 0 } : Room).cells ({ frames := 0, cells := 0, slots := 0, locals := 0 } : Room).slots (QC Z a b sz h0 n0) (s₁.setTop (entryFrame m #[(.ref a)] 1))
  rw [efC]
  refine Go.by (fun _ kont => XS.aloadN X0.here hx rfl (hb hby dC_0) rfl rfl (XS.iconst X0.here hx rfl (hb hby dC_1) kont)) ?_
  show Go _ _ _ _ _ _ _ (s₁.setTop (mkF m 2 #[.val (.ref a)] [(.int (0 : Int32)), (.ref a)]))
  obtain ⟨T101, h101, X101, e101, W101, st101⟩ := putF X0 hx hZ hown (host := "") (Or.inl (hw _ (List.mem_of_getElem? (i := 17) rfl))) Via.refl e0 F0_a_size E0_a (Or.inl (hw _ (List.mem_of_getElem? (i := 18) rfl))) (hw _ (List.mem_of_getElem? (i := 1) rfl)) (ty := .int) (by decide) rfl rfl (g := (mkF m 2 #[.val (.ref a)] [(.int (0 : Int32)), (.ref a)])) rfl rfl (hb hby dC_2)
  have Fw101 := F0_a_size.same W101
  have F102_values_a := F0_a_values.other W101 (Or.inr (slot_ne (Or.inl (hw _ (List.mem_of_getElem? (i := 11) rfl))) (Or.inl (hw _ (List.mem_of_getElem? (i := 18) rfl))) (by decide) (t := (.array .int)) (t' := .int) (by decide) (by decide)))
  have E102_a := E0_a.wr W101
  have Z102 := Nat.le_trans Z0 (Keep.of_wr W101).1
  have K102 : Keep h0 h101 [a] := (Keep.refl h0 [a]).wr W101 (Or.inl (by simp))
  have N101 := Fr.snoc X101 N0 ge0_a
  refine Go.by st101 ?_
  show Go _ _ _ _ _ _ _ (T101.setTop (mkF m 5 #[.val (.ref a)] []))
  refine Go.retV X101 hx hret hlk (hb hby dC_5) ?_ (by decide) (by decide)
  show QC Z a b sz h0 n0 none T101.heap _
  rw [e101]
  exact ⟨rfl, N101, K102, E102_a, F102_values_a, Fw101⟩

theorem dD0_0 : decode prog_44_method_6_code 0 = .ok (.iconst 0, 1) := by decide +kernel
theorem dD0_1 : decode prog_44_method_6_code 1 = .ok (.istore_n 2, 1) := by decide +kernel
theorem dD0_2 : decode prog_44_method_6_code 2 = .ok (.iload_n 2, 1) := by decide +kernel
theorem dD0_3 : decode prog_44_method_6_code 3 = .ok (.aload_n 0, 1) := by decide +kernel
theorem dD0_4 : decode prog_44_method_6_code 4 = .ok (.getfield 13, 3) := by decide +kernel
theorem dD0_7 : decode prog_44_method_6_code 7 = .ok (.if_icmp .ge 21, 3) := by decide +kernel
theorem dD0_28 : decode prog_44_method_6_code 28 = .ok (.iconst 0, 1) := by decide +kernel
theorem dD0_29 : decode prog_44_method_6_code 29 = .ok (.ireturn, 1) := by decide +kernel
theorem pnD0 : plainName "com/example/quorumsmith/quorumsmith/protocols/quorum/IntList" = true := by first | (simp [plainName, overriddenIn]; done) | decide +kernel
theorem efD0 (m : MethodId) (a : Addr) (q : Int32) : entryFrame m #[(.ref a), (.int q)] 3 = mkF m 0 #[.val (.ref a), .val (.int q), .unset] [] := by first | (simp [entryFrame, mkF, argsToLocals, Value.category]; done) | rfl
def fD0  : Int32 := (0 : Int32)
def QD0 (Z : State) (a : Addr) (q : Int32) (b : Addr) (kc : ClassId) (v0 : Int32) (v1 : Int32) (v2 : Int32) (h0 : Heap) (n0 : Nat) (v : Option Value) (h : Heap) (L : List Loc) : Prop := v = some (.int (fD0 )) ∧ Fr n0 L ∧ h = h0
set_option maxRecDepth 65536 in
set_option maxHeartbeats 40000000 in
theorem rmD0 (l : Launch) (Z : State) (a0 : Array Value) (hw : ∀ d ∈ tables_1, d.before a0 Z = true) (ws : List Jvm.Cond) (a : Addr) (q : Int32) (b : Addr) (kc : ClassId) (v0 : Int32) (v1 : Int32) (v2 : Int32) (h0 : Heap) (n0 : Nat) (Z0 : n0 ≤ h0.size) (Fv : Fld Z h0 a "com/example/quorumsmith/quorumsmith/protocols/quorum/IntList" "values" "[I" (.ref b)) (Fs : Fld Z h0 a "com/example/quorumsmith/quorumsmith/protocols/quorum/IntList" "size" "I" (.int (0 : Int32))) (Vb : Arv Z h0 b kc .int (16 : Int32) [(.int v0), (.int v1), (.int v2), (.int (0 : Int32)), (.int (0 : Int32)), (.int (0 : Int32)), (.int (0 : Int32)), (.int (0 : Int32)), (.int (0 : Int32)), (.int (0 : Int32)), (.int (0 : Int32)), (.int (0 : Int32)), (.int (0 : Int32)), (.int (0 : Int32)), (.int (0 : Int32)), (.int (0 : Int32))] (.int (0 : Int32))) :
    MetFree l (⟨"com/example/quorumsmith/quorumsmith/protocols/quorum/IntList", "contains", "(I)Z"⟩ : MethodName) (head1 (Jvm.Cond.code (⟨"com/example/quorumsmith/quorumsmith/protocols/quorum/IntList", "contains", "(I)Z"⟩ : MethodName) prog_44_method_6_code 3 (some .boolean) :: ws) ({ frames := 0, cells := 0, slots := 0, locals := 0 } : Room)) (fun aa_ U_ => aa_ = #[(.ref a), (.int q)] ∧ Z.Warmed39 U_.vm ∧ U_.heap = h0) (fun _ _ _ _ _ => True) (fun _ U_ o_ V_ => ∃ v_ L_, o_ = .returned v_ ∧ QD0 Z a q b kc v0 v1 v2 h0 n0 v_ V_.heap L_ ∧ FrameEnd U_ o_ V_ L_ ({ frames := 0, cells := 0, slots := 0, locals := 0 } : Room).cells ({ frames := 0, cells := 0, slots := 0, locals := 0 } : Room).slots) := by
  refine MetFree.of_bodySF (plainFor_of_name pnD0) hisR ?_
  intro p e s m args below meth c s₁ Bd hml0 hP hK
  obtain ⟨rfl, hZ, hh⟩ := hP
  have hx := Bd.exec
  have hby := Bd.bytes
  have hml : c.maxLocals = 3 := hml0
  have hown : s.vm.findClass "com/example/quorumsmith/quorumsmith/protocols/quorum/IntList" = some m.cls := findClass_of_methodNamed Bd.named
  have hnm := (name_of_methodNamed Bd.named Bd.method).1
  have hlk : meth.locks = false := BodyLoose.notSynchronized Bd
  have hret : meth.sig.returnType = (some .boolean) := Bd.returns
  have X0 : Stand p l e ({ frames := 0, cells := 0, slots := 0, locals := 0 } : Room) s m #[(.ref a), (.int q)] below meth c s₁ [] 0 0 := Stand.of_body Bd
  have e0 : s₁.heap = h0 := by rw [← hh, Bd.state]; rfl
  have N0 := Fr.nil n0
  show Go p e below s ({ frames := 0, cells := 0, slots := 0, locals := 0 } : Room).cells ({ frames := 0, cells := 0, slots := 0, locals := 0 } : Room).slots (QD0 Z a q b kc v0 v1 v2 h0 n0) (s₁.setTop (entryFrame m #[(.ref a), (.int q)] 3))
  rw [efD0]
  refine Go.by (fun _ kont => XS.iconst X0.here hx rfl (hb hby dD0_0) (XS.istoreN X0.here hx rfl (hb hby dD0_1) rfl (l' := #[.val (.ref a), .val (.int q), .val (.int (0 : Int32))]) rfl (XS.iloadN X0.here hx rfl (hb hby dD0_2) rfl (XS.aloadN X0.here hx rfl (hb hby dD0_3) rfl rfl kont)))) ?_
  show Go _ _ _ _ _ _ _ (s₁.setTop (mkF m 4 #[.val (.ref a), .val (.int q), .val (.int (0 : Int32))] [(.ref a), (.int (0 : Int32))]))
  obtain ⟨T101, X101, e101, st101⟩ := getF X0 hx hZ hown (host := "") (Or.inl (hw _ (List.mem_of_getElem? (i := 17) rfl))) Via.refl e0 Fs (g := (mkF m 4 #[.val (.ref a), .val (.int q), .val (.int (0 : Int32))] [(.ref a), (.int (0 : Int32))])) rfl rfl (hb hby dD0_4)
  refine Go.by st101 ?_
  show Go _ _ _ _ _ _ _ (T101.setTop (mkF m 7 #[.val (.ref a), .val (.int q), .val (.int (0 : Int32))] [(.int (0 : Int32)), (.int (0 : Int32))]))
  refine Go.by (fun _ kont => XS.icmpYes X101.here hx rfl (pc0 := 7) (pc' := 28) rfl (hb hby dD0_7) rfl (by decide) (by decide) (by decide) kont) ?_
  show Go _ _ _ _ _ _ _ (T101.setTop (mkF m 28 #[.val (.ref a), .val (.int q), .val (.int (0 : Int32))] []))
  refine Go.by (fun _ kont => XS.iconst X101.here hx rfl (hb hby dD0_28) kont) ?_
  show Go _ _ _ _ _ _ _ (T101.setTop (mkF m 29 #[.val (.ref a), .val (.int q), .val (.int (0 : Int32))] [(.int (0 : Int32))]))
  refine Go.retN X101 hx (t := .boolean) hret (by simp) hlk (hb hby dD0_29) ?_ (by decide) (by decide)
  show QD0 Z a q b kc v0 v1 v2 h0 n0 (some (.int (0 : Int32))) T101.heap _
  rw [e101]
  exact ⟨rfl, N0, rfl⟩

theorem dD1_0 : decode prog_44_method_6_code 0 = .ok (.iconst 0, 1) := by decide +kernel
theorem dD1_1 : decode prog_44_method_6_code 1 = .ok (.istore_n 2, 1) := by decide +kernel
theorem dD1_2 : decode prog_44_method_6_code 2 = .ok (.iload_n 2, 1) := by decide +kernel
theorem dD1_3 : decode prog_44_method_6_code 3 = .ok (.aload_n 0, 1) := by decide +kernel
theorem dD1_4 : decode prog_44_method_6_code 4 = .ok (.getfield 13, 3) := by decide +kernel
theorem dD1_7 : decode prog_44_method_6_code 7 = .ok (.if_icmp .ge 21, 3) := by decide +kernel
theorem dD1_10 : decode prog_44_method_6_code 10 = .ok (.aload_n 0, 1) := by decide +kernel
theorem dD1_11 : decode prog_44_method_6_code 11 = .ok (.getfield 7, 3) := by decide +kernel
theorem dD1_14 : decode prog_44_method_6_code 14 = .ok (.iload_n 2, 1) := by decide +kernel
theorem dD1_15 : decode prog_44_method_6_code 15 = .ok (.iaload, 1) := by decide +kernel
theorem dD1_16 : decode prog_44_method_6_code 16 = .ok (.iload_n 1, 1) := by decide +kernel
theorem dD1_17 : decode prog_44_method_6_code 17 = .ok (.if_icmp .ne 5, 3) := by decide +kernel
theorem dD1_20 : decode prog_44_method_6_code 20 = .ok (.iconst 1, 1) := by decide +kernel
theorem dD1_21 : decode prog_44_method_6_code 21 = .ok (.ireturn, 1) := by decide +kernel
theorem dD1_22 : decode prog_44_method_6_code 22 = .ok (.iinc 2 1, 3) := by decide +kernel
theorem dD1_25 : decode prog_44_method_6_code 25 = .ok (.goto (-23), 3) := by decide +kernel
theorem dD1_28 : decode prog_44_method_6_code 28 = .ok (.iconst 0, 1) := by decide +kernel
theorem dD1_29 : decode prog_44_method_6_code 29 = .ok (.ireturn, 1) := by decide +kernel
theorem pnD1 : plainName "com/example/quorumsmith/quorumsmith/protocols/quorum/IntList" = true := by first | (simp [plainName, overriddenIn]; done) | decide +kernel
theorem efD1 (m : MethodId) (a : Addr) (q : Int32) : entryFrame m #[(.ref a), (.int q)] 3 = mkF m 0 #[.val (.ref a), .val (.int q), .unset] [] := by first | (simp [entryFrame, mkF, argsToLocals, Value.category]; done) | rfl
def fD1 (q : Int32) (v0 : Int32) : Int32 := (if v0 = q then (1 : Int32) else (0 : Int32))
def QD1 (Z : State) (a : Addr) (q : Int32) (b : Addr) (kc : ClassId) (v0 : Int32) (v1 : Int32) (v2 : Int32) (h0 : Heap) (n0 : Nat) (v : Option Value) (h : Heap) (L : List Loc) : Prop := v = some (.int (fD1 q v0)) ∧ Fr n0 L ∧ h = h0
set_option maxRecDepth 65536 in
set_option maxHeartbeats 40000000 in
theorem rmD1 (l : Launch) (Z : State) (a0 : Array Value) (hw : ∀ d ∈ tables_1, d.before a0 Z = true) (ws : List Jvm.Cond) (a : Addr) (q : Int32) (b : Addr) (kc : ClassId) (v0 : Int32) (v1 : Int32) (v2 : Int32) (h0 : Heap) (n0 : Nat) (Z0 : n0 ≤ h0.size) (Fv : Fld Z h0 a "com/example/quorumsmith/quorumsmith/protocols/quorum/IntList" "values" "[I" (.ref b)) (Fs : Fld Z h0 a "com/example/quorumsmith/quorumsmith/protocols/quorum/IntList" "size" "I" (.int (1 : Int32))) (Vb : Arv Z h0 b kc .int (16 : Int32) [(.int v0), (.int v1), (.int v2), (.int (0 : Int32)), (.int (0 : Int32)), (.int (0 : Int32)), (.int (0 : Int32)), (.int (0 : Int32)), (.int (0 : Int32)), (.int (0 : Int32)), (.int (0 : Int32)), (.int (0 : Int32)), (.int (0 : Int32)), (.int (0 : Int32)), (.int (0 : Int32)), (.int (0 : Int32))] (.int (0 : Int32))) :
    MetFree l (⟨"com/example/quorumsmith/quorumsmith/protocols/quorum/IntList", "contains", "(I)Z"⟩ : MethodName) (head1 (Jvm.Cond.code (⟨"com/example/quorumsmith/quorumsmith/protocols/quorum/IntList", "contains", "(I)Z"⟩ : MethodName) prog_44_method_6_code 3 (some .boolean) :: ws) ({ frames := 0, cells := 0, slots := 0, locals := 0 } : Room)) (fun aa_ U_ => aa_ = #[(.ref a), (.int q)] ∧ Z.Warmed39 U_.vm ∧ U_.heap = h0) (fun _ _ _ _ _ => True) (fun _ U_ o_ V_ => ∃ v_ L_, o_ = .returned v_ ∧ QD1 Z a q b kc v0 v1 v2 h0 n0 v_ V_.heap L_ ∧ FrameEnd U_ o_ V_ L_ ({ frames := 0, cells := 0, slots := 0, locals := 0 } : Room).cells ({ frames := 0, cells := 0, slots := 0, locals := 0 } : Room).slots) := by
  refine MetFree.of_bodySF (plainFor_of_name pnD1) hisR ?_
  intro p e s m args below meth c s₁ Bd hml0 hP hK
  obtain ⟨rfl, hZ, hh⟩ := hP
  have hx := Bd.exec
  have hby := Bd.bytes
  have hml : c.maxLocals = 3 := hml0
  have hown : s.vm.findClass "com/example/quorumsmith/quorumsmith/protocols/quorum/IntList" = some m.cls := findClass_of_methodNamed Bd.named
  have hnm := (name_of_methodNamed Bd.named Bd.method).1
  have hlk : meth.locks = false := BodyLoose.notSynchronized Bd
  have hret : meth.sig.returnType = (some .boolean) := Bd.returns
  have X0 : Stand p l e ({ frames := 0, cells := 0, slots := 0, locals := 0 } : Room) s m #[(.ref a), (.int q)] below meth c s₁ [] 0 0 := Stand.of_body Bd
  have e0 : s₁.heap = h0 := by rw [← hh, Bd.state]; rfl
  have N0 := Fr.nil n0
  show Go p e below s ({ frames := 0, cells := 0, slots := 0, locals := 0 } : Room).cells ({ frames := 0, cells := 0, slots := 0, locals := 0 } : Room).slots (QD1 Z a q b kc v0 v1 v2 h0 n0) (s₁.setTop (entryFrame m #[(.ref a), (.int q)] 3))
  rw [efD1]
  refine Go.by (fun _ kont => XS.iconst X0.here hx rfl (hb hby dD1_0) (XS.istoreN X0.here hx rfl (hb hby dD1_1) rfl (l' := #[.val (.ref a), .val (.int q), .val (.int (0 : Int32))]) rfl (XS.iloadN X0.here hx rfl (hb hby dD1_2) rfl (XS.aloadN X0.here hx rfl (hb hby dD1_3) rfl rfl kont)))) ?_
  show Go _ _ _ _ _ _ _ (s₁.setTop (mkF m 4 #[.val (.ref a), .val (.int q), .val (.int (0 : Int32))] [(.ref a), (.int (0 : Int32))]))
  obtain ⟨T101, X101, e101, st101⟩ := getF X0 hx hZ hown (host := "") (Or.inl (hw _ (List.mem_of_getElem? (i := 17) rfl))) Via.refl e0 Fs (g := (mkF m 4 #[.val (.ref a), .val (.int q), .val (.int (0 : Int32))] [(.ref a), (.int (0 : Int32))])) rfl rfl (hb hby dD1_4)
  refine Go.by st101 ?_
  show Go _ _ _ _ _ _ _ (T101.setTop (mkF m 7 #[.val (.ref a), .val (.int q), .val (.int (0 : Int32))] [(.int (1 : Int32)), (.int (0 : Int32))]))
  refine Go.by (fun _ kont => XS.icmpNo X101.here hx rfl (hb hby dD1_7) rfl (by decide) kont) ?_
  show Go _ _ _ _ _ _ _ (T101.setTop (mkF m 10 #[.val (.ref a), .val (.int q), .val (.int (0 : Int32))] []))
  refine Go.by (fun _ kont => XS.aloadN X101.here hx rfl (hb hby dD1_10) rfl rfl kont) ?_
  show Go _ _ _ _ _ _ _ (T101.setTop (mkF m 11 #[.val (.ref a), .val (.int q), .val (.int (0 : Int32))] [(.ref a)]))
  obtain ⟨T102, X102, e102, st102⟩ := getF X101 hx hZ hown (host := "") (Or.inl (hw _ (List.mem_of_getElem? (i := 10) rfl))) Via.refl e101 Fv (g := (mkF m 11 #[.val (.ref a), .val (.int q), .val (.int (0 : Int32))] [(.ref a)])) rfl rfl (hb hby dD1_11)
  refine Go.by st102 ?_
  show Go _ _ _ _ _ _ _ (T102.setTop (mkF m 14 #[.val (.ref a), .val (.int q), .val (.int (0 : Int32))] [(.ref b)]))
  refine Go.by (fun _ kont => XS.iloadN X102.here hx rfl (hb hby dD1_14) rfl kont) ?_
  show Go _ _ _ _ _ _ _ (T102.setTop (mkF m 15 #[.val (.ref a), .val (.int q), .val (.int (0 : Int32))] [(.int (0 : Int32)), (.ref b)]))
  obtain ⟨cl_q103, Ar_q103, q1_q103, S_q103, N_q103, H_q103, G_q103⟩ := id Vb
  have hin_q103 : ¬ ((0 : Int32) < 0 ∨ cl_q103.slots.size ≤ ((0 : Int32)).toNatClampNeg) := inb_of S_q103 ⟨by decide, by decide⟩
  have hat_q103 : cl_q103.slots[((0 : Int32)).toNatClampNeg]? = some (.int v0) := Has.at H_q103 hin_q103 rfl
  refine Go.by (X102.iaload hx (j := (0 : Int32)) (v := (.int v0)) (by rw [e102]; exact Ar_q103.1) (State.isArrayOf_alike hZ.alike Ar_q103.2.1) Ar_q103.2.2 hin_q103 hat_q103 (g := (mkF m 15 #[.val (.ref a), .val (.int q), .val (.int (0 : Int32))] [(.int (0 : Int32)), (.ref b)])) rfl rfl (hb hby dD1_15)) ?_
  show Go _ _ _ _ _ _ _ (T102.setTop (mkF m 16 #[.val (.ref a), .val (.int q), .val (.int (0 : Int32))] [(.int v0)]))
  refine Go.by (fun _ kont => XS.iloadN X102.here hx rfl (hb hby dD1_16) rfl kont) ?_
  show Go _ _ _ _ _ _ _ (T102.setTop (mkF m 17 #[.val (.ref a), .val (.int q), .val (.int (0 : Int32))] [(.int q), (.int v0)]))
  by_cases hc104 : v0 = q
  · refine Go.by (fun _ kont => XS.icmpNo X102.here hx rfl (hb hby dD1_17) rfl (teq hc104).2 kont) ?_
    show Go _ _ _ _ _ _ _ (T102.setTop (mkF m 20 #[.val (.ref a), .val (.int q), .val (.int (0 : Int32))] []))
    refine Go.by (fun _ kont => XS.iconst X102.here hx rfl (hb hby dD1_20) kont) ?_
    show Go _ _ _ _ _ _ _ (T102.setTop (mkF m 21 #[.val (.ref a), .val (.int q), .val (.int (0 : Int32))] [(.int (1 : Int32))]))
    refine Go.retN X102 hx (t := .boolean) hret (by simp) hlk (hb hby dD1_21) ?_ (by decide) (by decide)
    show QD1 Z a q b kc v0 v1 v2 h0 n0 (some (.int (1 : Int32))) T102.heap _
    rw [e102]
    refine ⟨?_, N0, rfl⟩
    unfold fD1
    rw [if_pos hc104]
  · refine Go.by (fun _ kont => XS.icmpYes X102.here hx rfl (pc0 := 17) (pc' := 22) rfl (hb hby dD1_17) rfl (feq hc104).2 (by decide) (by decide) kont) ?_
    show Go _ _ _ _ _ _ _ (T102.setTop (mkF m 22 #[.val (.ref a), .val (.int q), .val (.int (0 : Int32))] []))
    refine Go.by (fun _ kont => XS.iinc X102.here hx rfl (hb hby dD1_22) rfl (l' := #[.val (.ref a), .val (.int q), .val (.int (1 : Int32))]) rfl (XS.goto X102.here hx rfl (pc0 := 25) (pc' := 2) rfl (hb hby dD1_25) (by decide) (by decide) (XS.iloadN X102.here hx rfl (hb hby dD1_2) rfl (XS.aloadN X102.here hx rfl (hb hby dD1_3) rfl rfl kont)))) ?_
    show Go _ _ _ _ _ _ _ (T102.setTop (mkF m 4 #[.val (.ref a), .val (.int q), .val (.int (1 : Int32))] [(.ref a), (.int (1 : Int32))]))
    obtain ⟨T105, X105, e105, st105⟩ := getF X102 hx hZ hown (host := "") (Or.inl (hw _ (List.mem_of_getElem? (i := 17) rfl))) Via.refl e102 Fs (g := (mkF m 4 #[.val (.ref a), .val (.int q), .val (.int (1 : Int32))] [(.ref a), (.int (1 : Int32))])) rfl rfl (hb hby dD1_4)
    refine Go.by st105 ?_
    show Go _ _ _ _ _ _ _ (T105.setTop (mkF m 7 #[.val (.ref a), .val (.int q), .val (.int (1 : Int32))] [(.int (1 : Int32)), (.int (1 : Int32))]))
    refine Go.by (fun _ kont => XS.icmpYes X105.here hx rfl (pc0 := 7) (pc' := 28) rfl (hb hby dD1_7) rfl (by decide) (by decide) (by decide) kont) ?_
    show Go _ _ _ _ _ _ _ (T105.setTop (mkF m 28 #[.val (.ref a), .val (.int q), .val (.int (1 : Int32))] []))
    refine Go.by (fun _ kont => XS.iconst X105.here hx rfl (hb hby dD1_28) kont) ?_
    show Go _ _ _ _ _ _ _ (T105.setTop (mkF m 29 #[.val (.ref a), .val (.int q), .val (.int (1 : Int32))] [(.int (0 : Int32))]))
    refine Go.retN X105 hx (t := .boolean) hret (by simp) hlk (hb hby dD1_29) ?_ (by decide) (by decide)
    show QD1 Z a q b kc v0 v1 v2 h0 n0 (some (.int (0 : Int32))) T105.heap _
    rw [e105]
    refine ⟨?_, N0, rfl⟩
    unfold fD1
    rw [if_neg hc104]

theorem dD2_0 : decode prog_44_method_6_code 0 = .ok (.iconst 0, 1) := by decide +kernel
theorem dD2_1 : decode prog_44_method_6_code 1 = .ok (.istore_n 2, 1) := by decide +kernel
theorem dD2_2 : decode prog_44_method_6_code 2 = .ok (.iload_n 2, 1) := by decide +kernel
theorem dD2_3 : decode prog_44_method_6_code 3 = .ok (.aload_n 0, 1) := by decide +kernel
theorem dD2_4 : decode prog_44_method_6_code 4 = .ok (.getfield 13, 3) := by decide +kernel
theorem dD2_7 : decode prog_44_method_6_code 7 = .ok (.if_icmp .ge 21, 3) := by decide +kernel
theorem dD2_10 : decode prog_44_method_6_code 10 = .ok (.aload_n 0, 1) := by decide +kernel
theorem dD2_11 : decode prog_44_method_6_code 11 = .ok (.getfield 7, 3) := by decide +kernel
theorem dD2_14 : decode prog_44_method_6_code 14 = .ok (.iload_n 2, 1) := by decide +kernel
theorem dD2_15 : decode prog_44_method_6_code 15 = .ok (.iaload, 1) := by decide +kernel
theorem dD2_16 : decode prog_44_method_6_code 16 = .ok (.iload_n 1, 1) := by decide +kernel
theorem dD2_17 : decode prog_44_method_6_code 17 = .ok (.if_icmp .ne 5, 3) := by decide +kernel
theorem dD2_20 : decode prog_44_method_6_code 20 = .ok (.iconst 1, 1) := by decide +kernel
theorem dD2_21 : decode prog_44_method_6_code 21 = .ok (.ireturn, 1) := by decide +kernel
theorem dD2_22 : decode prog_44_method_6_code 22 = .ok (.iinc 2 1, 3) := by decide +kernel
theorem dD2_25 : decode prog_44_method_6_code 25 = .ok (.goto (-23), 3) := by decide +kernel
theorem dD2_28 : decode prog_44_method_6_code 28 = .ok (.iconst 0, 1) := by decide +kernel
theorem dD2_29 : decode prog_44_method_6_code 29 = .ok (.ireturn, 1) := by decide +kernel
theorem pnD2 : plainName "com/example/quorumsmith/quorumsmith/protocols/quorum/IntList" = true := by first | (simp [plainName, overriddenIn]; done) | decide +kernel
theorem efD2 (m : MethodId) (a : Addr) (q : Int32) : entryFrame m #[(.ref a), (.int q)] 3 = mkF m 0 #[.val (.ref a), .val (.int q), .unset] [] := by first | (simp [entryFrame, mkF, argsToLocals, Value.category]; done) | rfl
def fD2 (q : Int32) (v0 : Int32) (v1 : Int32) : Int32 := (if v0 = q then (1 : Int32) else (if v1 = q then (1 : Int32) else (0 : Int32)))
def QD2 (Z : State) (a : Addr) (q : Int32) (b : Addr) (kc : ClassId) (v0 : Int32) (v1 : Int32) (v2 : Int32) (h0 : Heap) (n0 : Nat) (v : Option Value) (h : Heap) (L : List Loc) : Prop := v = some (.int (fD2 q v0 v1)) ∧ Fr n0 L ∧ h = h0
set_option maxRecDepth 65536 in
set_option maxHeartbeats 40000000 in
theorem rmD2 (l : Launch) (Z : State) (a0 : Array Value) (hw : ∀ d ∈ tables_1, d.before a0 Z = true) (ws : List Jvm.Cond) (a : Addr) (q : Int32) (b : Addr) (kc : ClassId) (v0 : Int32) (v1 : Int32) (v2 : Int32) (h0 : Heap) (n0 : Nat) (Z0 : n0 ≤ h0.size) (Fv : Fld Z h0 a "com/example/quorumsmith/quorumsmith/protocols/quorum/IntList" "values" "[I" (.ref b)) (Fs : Fld Z h0 a "com/example/quorumsmith/quorumsmith/protocols/quorum/IntList" "size" "I" (.int (2 : Int32))) (Vb : Arv Z h0 b kc .int (16 : Int32) [(.int v0), (.int v1), (.int v2), (.int (0 : Int32)), (.int (0 : Int32)), (.int (0 : Int32)), (.int (0 : Int32)), (.int (0 : Int32)), (.int (0 : Int32)), (.int (0 : Int32)), (.int (0 : Int32)), (.int (0 : Int32)), (.int (0 : Int32)), (.int (0 : Int32)), (.int (0 : Int32)), (.int (0 : Int32))] (.int (0 : Int32))) :
    MetFree l (⟨"com/example/quorumsmith/quorumsmith/protocols/quorum/IntList", "contains", "(I)Z"⟩ : MethodName) (head1 (Jvm.Cond.code (⟨"com/example/quorumsmith/quorumsmith/protocols/quorum/IntList", "contains", "(I)Z"⟩ : MethodName) prog_44_method_6_code 3 (some .boolean) :: ws) ({ frames := 0, cells := 0, slots := 0, locals := 0 } : Room)) (fun aa_ U_ => aa_ = #[(.ref a), (.int q)] ∧ Z.Warmed39 U_.vm ∧ U_.heap = h0) (fun _ _ _ _ _ => True) (fun _ U_ o_ V_ => ∃ v_ L_, o_ = .returned v_ ∧ QD2 Z a q b kc v0 v1 v2 h0 n0 v_ V_.heap L_ ∧ FrameEnd U_ o_ V_ L_ ({ frames := 0, cells := 0, slots := 0, locals := 0 } : Room).cells ({ frames := 0, cells := 0, slots := 0, locals := 0 } : Room).slots) := by
  refine MetFree.of_bodySF (plainFor_of_name pnD2) hisR ?_
  intro p e s m args below meth c s₁ Bd hml0 hP hK
  obtain ⟨rfl, hZ, hh⟩ := hP
  have hx := Bd.exec
  have hby := Bd.bytes
  have hml : c.maxLocals = 3 := hml0
  have hown : s.vm.findClass "com/example/quorumsmith/quorumsmith/protocols/quorum/IntList" = some m.cls := findClass_of_methodNamed Bd.named
  have hnm := (name_of_methodNamed Bd.named Bd.method).1
  have hlk : meth.locks = false := BodyLoose.notSynchronized Bd
  have hret : meth.sig.returnType = (some .boolean) := Bd.returns
  have X0 : Stand p l e ({ frames := 0, cells := 0, slots := 0, locals := 0 } : Room) s m #[(.ref a), (.int q)] below meth c s₁ [] 0 0 := Stand.of_body Bd
  have e0 : s₁.heap = h0 := by rw [← hh, Bd.state]; rfl
  have N0 := Fr.nil n0
  show Go p e below s ({ frames := 0, cells := 0, slots := 0, locals := 0 } : Room).cells ({ frames := 0, cells := 0, slots := 0, locals := 0 } : Room).slots (QD2 Z a q b kc v0 v1 v2 h0 n0) (s₁.setTop (entryFrame m #[(.ref a), (.int q)] 3))
  rw [efD2]
  refine Go.by (fun _ kont => XS.iconst X0.here hx rfl (hb hby dD2_0) (XS.istoreN X0.here hx rfl (hb hby dD2_1) rfl (l' := #[.val (.ref a), .val (.int q), .val (.int (0 : Int32))]) rfl (XS.iloadN X0.here hx rfl (hb hby dD2_2) rfl (XS.aloadN X0.here hx rfl (hb hby dD2_3) rfl rfl kont)))) ?_
  show Go _ _ _ _ _ _ _ (s₁.setTop (mkF m 4 #[.val (.ref a), .val (.int q), .val (.int (0 : Int32))] [(.ref a), (.int (0 : Int32))]))
  obtain ⟨T101, X101, e101, st101⟩ := getF X0 hx hZ hown (host := "") (Or.inl (hw _ (List.mem_of_getElem? (i := 17) rfl))) Via.refl e0 Fs (g := (mkF m 4 #[.val (.ref a), .val (.int q), .val (.int (0 : Int32))] [(.ref a), (.int (0 : Int32))])) rfl rfl (hb hby dD2_4)
  refine Go.by st101 ?_
  show Go _ _ _ _ _ _ _ (T101.setTop (mkF m 7 #[.val (.ref a), .val (.int q), .val (.int (0 : Int32))] [(.int (2 : Int32)), (.int (0 : Int32))]))
  refine Go.by (fun _ kont => XS.icmpNo X101.here hx rfl (hb hby dD2_7) rfl (by decide) kont) ?_
  show Go _ _ _ _ _ _ _ (T101.setTop (mkF m 10 #[.val (.ref a), .val (.int q), .val (.int (0 : Int32))] []))
  refine Go.by (fun _ kont => XS.aloadN X101.here hx rfl (hb hby dD2_10) rfl rfl kont) ?_
  show Go _ _ _ _ _ _ _ (T101.setTop (mkF m 11 #[.val (.ref a), .val (.int q), .val (.int (0 : Int32))] [(.ref a)]))
  obtain ⟨T102, X102, e102, st102⟩ := getF X101 hx hZ hown (host := "") (Or.inl (hw _ (List.mem_of_getElem? (i := 10) rfl))) Via.refl e101 Fv (g := (mkF m 11 #[.val (.ref a), .val (.int q), .val (.int (0 : Int32))] [(.ref a)])) rfl rfl (hb hby dD2_11)
  refine Go.by st102 ?_
  show Go _ _ _ _ _ _ _ (T102.setTop (mkF m 14 #[.val (.ref a), .val (.int q), .val (.int (0 : Int32))] [(.ref b)]))
  refine Go.by (fun _ kont => XS.iloadN X102.here hx rfl (hb hby dD2_14) rfl kont) ?_
  show Go _ _ _ _ _ _ _ (T102.setTop (mkF m 15 #[.val (.ref a), .val (.int q), .val (.int (0 : Int32))] [(.int (0 : Int32)), (.ref b)]))
  obtain ⟨cl_q103, Ar_q103, q1_q103, S_q103, N_q103, H_q103, G_q103⟩ := id Vb
  have hin_q103 : ¬ ((0 : Int32) < 0 ∨ cl_q103.slots.size ≤ ((0 : Int32)).toNatClampNeg) := inb_of S_q103 ⟨by decide, by decide⟩
  have hat_q103 : cl_q103.slots[((0 : Int32)).toNatClampNeg]? = some (.int v0) := Has.at H_q103 hin_q103 rfl
  refine Go.by (X102.iaload hx (j := (0 : Int32)) (v := (.int v0)) (by rw [e102]; exact Ar_q103.1) (State.isArrayOf_alike hZ.alike Ar_q103.2.1) Ar_q103.2.2 hin_q103 hat_q103 (g := (mkF m 15 #[.val (.ref a), .val (.int q), .val (.int (0 : Int32))] [(.int (0 : Int32)), (.ref b)])) rfl rfl (hb hby dD2_15)) ?_
  show Go _ _ _ _ _ _ _ (T102.setTop (mkF m 16 #[.val (.ref a), .val (.int q), .val (.int (0 : Int32))] [(.int v0)]))
  refine Go.by (fun _ kont => XS.iloadN X102.here hx rfl (hb hby dD2_16) rfl kont) ?_
  show Go _ _ _ _ _ _ _ (T102.setTop (mkF m 17 #[.val (.ref a), .val (.int q), .val (.int (0 : Int32))] [(.int q), (.int v0)]))
  by_cases hc104 : v0 = q
  · refine Go.by (fun _ kont => XS.icmpNo X102.here hx rfl (hb hby dD2_17) rfl (teq hc104).2 kont) ?_
    show Go _ _ _ _ _ _ _ (T102.setTop (mkF m 20 #[.val (.ref a), .val (.int q), .val (.int (0 : Int32))] []))
    refine Go.by (fun _ kont => XS.iconst X102.here hx rfl (hb hby dD2_20) kont) ?_
    show Go _ _ _ _ _ _ _ (T102.setTop (mkF m 21 #[.val (.ref a), .val (.int q), .val (.int (0 : Int32))] [(.int (1 : Int32))]))
    refine Go.retN X102 hx (t := .boolean) hret (by simp) hlk (hb hby dD2_21) ?_ (by decide) (by decide)
    show QD2 Z a q b kc v0 v1 v2 h0 n0 (some (.int (1 : Int32))) T102.heap _
    rw [e102]
    refine ⟨?_, N0, rfl⟩
    unfold fD2
    rw [if_pos hc104]
  · refine Go.by (fun _ kont => XS.icmpYes X102.here hx rfl (pc0 := 17) (pc' := 22) rfl (hb hby dD2_17) rfl (feq hc104).2 (by decide) (by decide) kont) ?_
    show Go _ _ _ _ _ _ _ (T102.setTop (mkF m 22 #[.val (.ref a), .val (.int q), .val (.int (0 : Int32))] []))
    refine Go.by (fun _ kont => XS.iinc X102.here hx rfl (hb hby dD2_22) rfl (l' := #[.val (.ref a), .val (.int q), .val (.int (1 : Int32))]) rfl (XS.goto X102.here hx rfl (pc0 := 25) (pc' := 2) rfl (hb hby dD2_25) (by decide) (by decide) (XS.iloadN X102.here hx rfl (hb hby dD2_2) rfl (XS.aloadN X102.here hx rfl (hb hby dD2_3) rfl rfl kont)))) ?_
    show Go _ _ _ _ _ _ _ (T102.setTop (mkF m 4 #[.val (.ref a), .val (.int q), .val (.int (1 : Int32))] [(.ref a), (.int (1 : Int32))]))
    obtain ⟨T105, X105, e105, st105⟩ := getF X102 hx hZ hown (host := "") (Or.inl (hw _ (List.mem_of_getElem? (i := 17) rfl))) Via.refl e102 Fs (g := (mkF m 4 #[.val (.ref a), .val (.int q), .val (.int (1 : Int32))] [(.ref a), (.int (1 : Int32))])) rfl rfl (hb hby dD2_4)
    refine Go.by st105 ?_
    show Go _ _ _ _ _ _ _ (T105.setTop (mkF m 7 #[.val (.ref a), .val (.int q), .val (.int (1 : Int32))] [(.int (2 : Int32)), (.int (1 : Int32))]))
    refine Go.by (fun _ kont => XS.icmpNo X105.here hx rfl (hb hby dD2_7) rfl (by decide) kont) ?_
    show Go _ _ _ _ _ _ _ (T105.setTop (mkF m 10 #[.val (.ref a), .val (.int q), .val (.int (1 : Int32))] []))
    refine Go.by (fun _ kont => XS.aloadN X105.here hx rfl (hb hby dD2_10) rfl rfl kont) ?_
    show Go _ _ _ _ _ _ _ (T105.setTop (mkF m 11 #[.val (.ref a), .val (.int q), .val (.int (1 : Int32))] [(.ref a)]))
    obtain ⟨T106, X106, e106, st106⟩ := getF X105 hx hZ hown (host := "") (Or.inl (hw _ (List.mem_of_getElem? (i := 10) rfl))) Via.refl e105 Fv (g := (mkF m 11 #[.val (.ref a), .val (.int q), .val (.int (1 : Int32))] [(.ref a)])) rfl rfl (hb hby dD2_11)
    refine Go.by st106 ?_
    show Go _ _ _ _ _ _ _ (T106.setTop (mkF m 14 #[.val (.ref a), .val (.int q), .val (.int (1 : Int32))] [(.ref b)]))
    refine Go.by (fun _ kont => XS.iloadN X106.here hx rfl (hb hby dD2_14) rfl kont) ?_
    show Go _ _ _ _ _ _ _ (T106.setTop (mkF m 15 #[.val (.ref a), .val (.int q), .val (.int (1 : Int32))] [(.int (1 : Int32)), (.ref b)]))
    obtain ⟨cl_q107, Ar_q107, q1_q107, S_q107, N_q107, H_q107, G_q107⟩ := id Vb
    have hin_q107 : ¬ ((1 : Int32) < 0 ∨ cl_q107.slots.size ≤ ((1 : Int32)).toNatClampNeg) := inb_of S_q107 ⟨by decide, by decide⟩
    have hat_q107 : cl_q107.slots[((1 : Int32)).toNatClampNeg]? = some (.int v1) := Has.at H_q107 hin_q107 rfl
    refine Go.by (X106.iaload hx (j := (1 : Int32)) (v := (.int v1)) (by rw [e106]; exact Ar_q107.1) (State.isArrayOf_alike hZ.alike Ar_q107.2.1) Ar_q107.2.2 hin_q107 hat_q107 (g := (mkF m 15 #[.val (.ref a), .val (.int q), .val (.int (1 : Int32))] [(.int (1 : Int32)), (.ref b)])) rfl rfl (hb hby dD2_15)) ?_
    show Go _ _ _ _ _ _ _ (T106.setTop (mkF m 16 #[.val (.ref a), .val (.int q), .val (.int (1 : Int32))] [(.int v1)]))
    refine Go.by (fun _ kont => XS.iloadN X106.here hx rfl (hb hby dD2_16) rfl kont) ?_
    show Go _ _ _ _ _ _ _ (T106.setTop (mkF m 17 #[.val (.ref a), .val (.int q), .val (.int (1 : Int32))] [(.int q), (.int v1)]))
    by_cases hc108 : v1 = q
    · refine Go.by (fun _ kont => XS.icmpNo X106.here hx rfl (hb hby dD2_17) rfl (teq hc108).2 kont) ?_
      show Go _ _ _ _ _ _ _ (T106.setTop (mkF m 20 #[.val (.ref a), .val (.int q), .val (.int (1 : Int32))] []))
      refine Go.by (fun _ kont => XS.iconst X106.here hx rfl (hb hby dD2_20) kont) ?_
      show Go _ _ _ _ _ _ _ (T106.setTop (mkF m 21 #[.val (.ref a), .val (.int q), .val (.int (1 : Int32))] [(.int (1 : Int32))]))
      refine Go.retN X106 hx (t := .boolean) hret (by simp) hlk (hb hby dD2_21) ?_ (by decide) (by decide)
      show QD2 Z a q b kc v0 v1 v2 h0 n0 (some (.int (1 : Int32))) T106.heap _
      rw [e106]
      refine ⟨?_, N0, rfl⟩
      unfold fD2
      rw [if_neg hc104, if_pos hc108]
    · refine Go.by (fun _ kont => XS.icmpYes X106.here hx rfl (pc0 := 17) (pc' := 22) rfl (hb hby dD2_17) rfl (feq hc108).2 (by decide) (by decide) kont) ?_
      show Go _ _ _ _ _ _ _ (T106.setTop (mkF m 22 #[.val (.ref a), .val (.int q), .val (.int (1 : Int32))] []))
      refine Go.by (fun _ kont => XS.iinc X106.here hx rfl (hb hby dD2_22) rfl (l' := #[.val (.ref a), .val (.int q), .val (.int (2 : Int32))]) rfl (XS.goto X106.here hx rfl (pc0 := 25) (pc' := 2) rfl (hb hby dD2_25) (by decide) (by decide) (XS.iloadN X106.here hx rfl (hb hby dD2_2) rfl (XS.aloadN X106.here hx rfl (hb hby dD2_3) rfl rfl kont)))) ?_
      show Go _ _ _ _ _ _ _ (T106.setTop (mkF m 4 #[.val (.ref a), .val (.int q), .val (.int (2 : Int32))] [(.ref a), (.int (2 : Int32))]))
      obtain ⟨T109, X109, e109, st109⟩ := getF X106 hx hZ hown (host := "") (Or.inl (hw _ (List.mem_of_getElem? (i := 17) rfl))) Via.refl e106 Fs (g := (mkF m 4 #[.val (.ref a), .val (.int q), .val (.int (2 : Int32))] [(.ref a), (.int (2 : Int32))])) rfl rfl (hb hby dD2_4)
      refine Go.by st109 ?_
      show Go _ _ _ _ _ _ _ (T109.setTop (mkF m 7 #[.val (.ref a), .val (.int q), .val (.int (2 : Int32))] [(.int (2 : Int32)), (.int (2 : Int32))]))
      refine Go.by (fun _ kont => XS.icmpYes X109.here hx rfl (pc0 := 7) (pc' := 28) rfl (hb hby dD2_7) rfl (by decide) (by decide) (by decide) kont) ?_
      show Go _ _ _ _ _ _ _ (T109.setTop (mkF m 28 #[.val (.ref a), .val (.int q), .val (.int (2 : Int32))] []))
      refine Go.by (fun _ kont => XS.iconst X109.here hx rfl (hb hby dD2_28) kont) ?_
      show Go _ _ _ _ _ _ _ (T109.setTop (mkF m 29 #[.val (.ref a), .val (.int q), .val (.int (2 : Int32))] [(.int (0 : Int32))]))
      refine Go.retN X109 hx (t := .boolean) hret (by simp) hlk (hb hby dD2_29) ?_ (by decide) (by decide)
      show QD2 Z a q b kc v0 v1 v2 h0 n0 (some (.int (0 : Int32))) T109.heap _
      rw [e109]
      refine ⟨?_, N0, rfl⟩
      unfold fD2
      rw [if_neg hc104, if_neg hc108]

theorem dD3_0 : decode prog_44_method_6_code 0 = .ok (.iconst 0, 1) := by decide +kernel
theorem dD3_1 : decode prog_44_method_6_code 1 = .ok (.istore_n 2, 1) := by decide +kernel
theorem dD3_2 : decode prog_44_method_6_code 2 = .ok (.iload_n 2, 1) := by decide +kernel
theorem dD3_3 : decode prog_44_method_6_code 3 = .ok (.aload_n 0, 1) := by decide +kernel
theorem dD3_4 : decode prog_44_method_6_code 4 = .ok (.getfield 13, 3) := by decide +kernel
theorem dD3_7 : decode prog_44_method_6_code 7 = .ok (.if_icmp .ge 21, 3) := by decide +kernel
theorem dD3_10 : decode prog_44_method_6_code 10 = .ok (.aload_n 0, 1) := by decide +kernel
theorem dD3_11 : decode prog_44_method_6_code 11 = .ok (.getfield 7, 3) := by decide +kernel
theorem dD3_14 : decode prog_44_method_6_code 14 = .ok (.iload_n 2, 1) := by decide +kernel
theorem dD3_15 : decode prog_44_method_6_code 15 = .ok (.iaload, 1) := by decide +kernel
theorem dD3_16 : decode prog_44_method_6_code 16 = .ok (.iload_n 1, 1) := by decide +kernel
theorem dD3_17 : decode prog_44_method_6_code 17 = .ok (.if_icmp .ne 5, 3) := by decide +kernel
theorem dD3_20 : decode prog_44_method_6_code 20 = .ok (.iconst 1, 1) := by decide +kernel
theorem dD3_21 : decode prog_44_method_6_code 21 = .ok (.ireturn, 1) := by decide +kernel
theorem dD3_22 : decode prog_44_method_6_code 22 = .ok (.iinc 2 1, 3) := by decide +kernel
theorem dD3_25 : decode prog_44_method_6_code 25 = .ok (.goto (-23), 3) := by decide +kernel
theorem dD3_28 : decode prog_44_method_6_code 28 = .ok (.iconst 0, 1) := by decide +kernel
theorem dD3_29 : decode prog_44_method_6_code 29 = .ok (.ireturn, 1) := by decide +kernel
theorem pnD3 : plainName "com/example/quorumsmith/quorumsmith/protocols/quorum/IntList" = true := by first | (simp [plainName, overriddenIn]; done) | decide +kernel
theorem efD3 (m : MethodId) (a : Addr) (q : Int32) : entryFrame m #[(.ref a), (.int q)] 3 = mkF m 0 #[.val (.ref a), .val (.int q), .unset] [] := by first | (simp [entryFrame, mkF, argsToLocals, Value.category]; done) | rfl
def fD3 (q : Int32) (v0 : Int32) (v1 : Int32) (v2 : Int32) : Int32 := (if v0 = q then (1 : Int32) else (if v1 = q then (1 : Int32) else (if v2 = q then (1 : Int32) else (0 : Int32))))
def QD3 (Z : State) (a : Addr) (q : Int32) (b : Addr) (kc : ClassId) (v0 : Int32) (v1 : Int32) (v2 : Int32) (h0 : Heap) (n0 : Nat) (v : Option Value) (h : Heap) (L : List Loc) : Prop := v = some (.int (fD3 q v0 v1 v2)) ∧ Fr n0 L ∧ h = h0
set_option maxRecDepth 65536 in
set_option maxHeartbeats 40000000 in
theorem rmD3 (l : Launch) (Z : State) (a0 : Array Value) (hw : ∀ d ∈ tables_1, d.before a0 Z = true) (ws : List Jvm.Cond) (a : Addr) (q : Int32) (b : Addr) (kc : ClassId) (v0 : Int32) (v1 : Int32) (v2 : Int32) (h0 : Heap) (n0 : Nat) (Z0 : n0 ≤ h0.size) (Fv : Fld Z h0 a "com/example/quorumsmith/quorumsmith/protocols/quorum/IntList" "values" "[I" (.ref b)) (Fs : Fld Z h0 a "com/example/quorumsmith/quorumsmith/protocols/quorum/IntList" "size" "I" (.int (3 : Int32))) (Vb : Arv Z h0 b kc .int (16 : Int32) [(.int v0), (.int v1), (.int v2), (.int (0 : Int32)), (.int (0 : Int32)), (.int (0 : Int32)), (.int (0 : Int32)), (.int (0 : Int32)), (.int (0 : Int32)), (.int (0 : Int32)), (.int (0 : Int32)), (.int (0 : Int32)), (.int (0 : Int32)), (.int (0 : Int32)), (.int (0 : Int32)), (.int (0 : Int32))] (.int (0 : Int32))) :
    MetFree l (⟨"com/example/quorumsmith/quorumsmith/protocols/quorum/IntList", "contains", "(I)Z"⟩ : MethodName) (head1 (Jvm.Cond.code (⟨"com/example/quorumsmith/quorumsmith/protocols/quorum/IntList", "contains", "(I)Z"⟩ : MethodName) prog_44_method_6_code 3 (some .boolean) :: ws) ({ frames := 0, cells := 0, slots := 0, locals := 0 } : Room)) (fun aa_ U_ => aa_ = #[(.ref a), (.int q)] ∧ Z.Warmed39 U_.vm ∧ U_.heap = h0) (fun _ _ _ _ _ => True) (fun _ U_ o_ V_ => ∃ v_ L_, o_ = .returned v_ ∧ QD3 Z a q b kc v0 v1 v2 h0 n0 v_ V_.heap L_ ∧ FrameEnd U_ o_ V_ L_ ({ frames := 0, cells := 0, slots := 0, locals := 0 } : Room).cells ({ frames := 0, cells := 0, slots := 0, locals := 0 } : Room).slots) := by
  refine MetFree.of_bodySF (plainFor_of_name pnD3) hisR ?_
  intro p e s m args below meth c s₁ Bd hml0 hP hK
  obtain ⟨rfl, hZ, hh⟩ := hP
  have hx := Bd.exec
  have hby := Bd.bytes
  have hml : c.maxLocals = 3 := hml0
  have hown : s.vm.findClass "com/example/quorumsmith/quorumsmith/protocols/quorum/IntList" = some m.cls := findClass_of_methodNamed Bd.named
  have hnm := (name_of_methodNamed Bd.named Bd.method).1
  have hlk : meth.locks = false := BodyLoose.notSynchronized Bd
  have hret : meth.sig.returnType = (some .boolean) := Bd.returns
  have X0 : Stand p l e ({ frames := 0, cells := 0, slots := 0, locals := 0 } : Room) s m #[(.ref a), (.int q)] below meth c s₁ [] 0 0 := Stand.of_body Bd
  have e0 : s₁.heap = h0 := by rw [← hh, Bd.state]; rfl
  have N0 := Fr.nil n0
  show Go p e below s ({ frames := 0, cells := 0, slots := 0, locals := 0 } : Room).cells ({ frames := 0, cells := 0, slots := 0, locals := 0 } : Room).slots (QD3 Z a q b kc v0 v1 v2 h0 n0) (s₁.setTop (entryFrame m #[(.ref a), (.int q)] 3))
  rw [efD3]
  refine Go.by (fun _ kont => XS.iconst X0.here hx rfl (hb hby dD3_0) (XS.istoreN X0.here hx rfl (hb hby dD3_1) rfl (l' := #[.val (.ref a), .val (.int q), .val (.int (0 : Int32))]) rfl (XS.iloadN X0.here hx rfl (hb hby dD3_2) rfl (XS.aloadN X0.here hx rfl (hb hby dD3_3) rfl rfl kont)))) ?_
  show Go _ _ _ _ _ _ _ (s₁.setTop (mkF m 4 #[.val (.ref a), .val (.int q), .val (.int (0 : Int32))] [(.ref a), (.int (0 : Int32))]))
  obtain ⟨T101, X101, e101, st101⟩ := getF X0 hx hZ hown (host := "") (Or.inl (hw _ (List.mem_of_getElem? (i := 17) rfl))) Via.refl e0 Fs (g := (mkF m 4 #[.val (.ref a), .val (.int q), .val (.int (0 : Int32))] [(.ref a), (.int (0 : Int32))])) rfl rfl (hb hby dD3_4)
  refine Go.by st101 ?_
  show Go _ _ _ _ _ _ _ (T101.setTop (mkF m 7 #[.val (.ref a), .val (.int q), .val (.int (0 : Int32))] [(.int (3 : Int32)), (.int (0 : Int32))]))
  refine Go.by (fun _ kont => XS.icmpNo X101.here hx rfl (hb hby dD3_7) rfl (by decide) kont) ?_
  show Go _ _ _ _ _ _ _ (T101.setTop (mkF m 10 #[.val (.ref a), .val (.int q), .val (.int (0 : Int32))] []))
  refine Go.by (fun _ kont => XS.aloadN X101.here hx rfl (hb hby dD3_10) rfl rfl kont) ?_
  show Go _ _ _ _ _ _ _ (T101.setTop (mkF m 11 #[.val (.ref a), .val (.int q), .val (.int (0 : Int32))] [(.ref a)]))
  obtain ⟨T102, X102, e102, st102⟩ := getF X101 hx hZ hown (host := "") (Or.inl (hw _ (List.mem_of_getElem? (i := 10) rfl))) Via.refl e101 Fv (g := (mkF m 11 #[.val (.ref a), .val (.int q), .val (.int (0 : Int32))] [(.ref a)])) rfl rfl (hb hby dD3_11)
  refine Go.by st102 ?_
  show Go _ _ _ _ _ _ _ (T102.setTop (mkF m 14 #[.val (.ref a), .val (.int q), .val (.int (0 : Int32))] [(.ref b)]))
  refine Go.by (fun _ kont => XS.iloadN X102.here hx rfl (hb hby dD3_14) rfl kont) ?_
  show Go _ _ _ _ _ _ _ (T102.setTop (mkF m 15 #[.val (.ref a), .val (.int q), .val (.int (0 : Int32))] [(.int (0 : Int32)), (.ref b)]))
  obtain ⟨cl_q103, Ar_q103, q1_q103, S_q103, N_q103, H_q103, G_q103⟩ := id Vb
  have hin_q103 : ¬ ((0 : Int32) < 0 ∨ cl_q103.slots.size ≤ ((0 : Int32)).toNatClampNeg) := inb_of S_q103 ⟨by decide, by decide⟩
  have hat_q103 : cl_q103.slots[((0 : Int32)).toNatClampNeg]? = some (.int v0) := Has.at H_q103 hin_q103 rfl
  refine Go.by (X102.iaload hx (j := (0 : Int32)) (v := (.int v0)) (by rw [e102]; exact Ar_q103.1) (State.isArrayOf_alike hZ.alike Ar_q103.2.1) Ar_q103.2.2 hin_q103 hat_q103 (g := (mkF m 15 #[.val (.ref a), .val (.int q), .val (.int (0 : Int32))] [(.int (0 : Int32)), (.ref b)])) rfl rfl (hb hby dD3_15)) ?_
  show Go _ _ _ _ _ _ _ (T102.setTop (mkF m 16 #[.val (.ref a), .val (.int q), .val (.int (0 : Int32))] [(.int v0)]))
  refine Go.by (fun _ kont => XS.iloadN X102.here hx rfl (hb hby dD3_16) rfl kont) ?_
  show Go _ _ _ _ _ _ _ (T102.setTop (mkF m 17 #[.val (.ref a), .val (.int q), .val (.int (0 : Int32))] [(.int q), (.int v0)]))
  by_cases hc104 : v0 = q
  · refine Go.by (fun _ kont => XS.icmpNo X102.here hx rfl (hb hby dD3_17) rfl (teq hc104).2 kont) ?_
    show Go _ _ _ _ _ _ _ (T102.setTop (mkF m 20 #[.val (.ref a), .val (.int q), .val (.int (0 : Int32))] []))
    refine Go.by (fun _ kont => XS.iconst X102.here hx rfl (hb hby dD3_20) kont) ?_
    show Go _ _ _ _ _ _ _ (T102.setTop (mkF m 21 #[.val (.ref a), .val (.int q), .val (.int (0 : Int32))] [(.int (1 : Int32))]))
    refine Go.retN X102 hx (t := .boolean) hret (by simp) hlk (hb hby dD3_21) ?_ (by decide) (by decide)
    show QD3 Z a q b kc v0 v1 v2 h0 n0 (some (.int (1 : Int32))) T102.heap _
    rw [e102]
    refine ⟨?_, N0, rfl⟩
    unfold fD3
    rw [if_pos hc104]
  · refine Go.by (fun _ kont => XS.icmpYes X102.here hx rfl (pc0 := 17) (pc' := 22) rfl (hb hby dD3_17) rfl (feq hc104).2 (by decide) (by decide) kont) ?_
    show Go _ _ _ _ _ _ _ (T102.setTop (mkF m 22 #[.val (.ref a), .val (.int q), .val (.int (0 : Int32))] []))
    refine Go.by (fun _ kont => XS.iinc X102.here hx rfl (hb hby dD3_22) rfl (l' := #[.val (.ref a), .val (.int q), .val (.int (1 : Int32))]) rfl (XS.goto X102.here hx rfl (pc0 := 25) (pc' := 2) rfl (hb hby dD3_25) (by decide) (by decide) (XS.iloadN X102.here hx rfl (hb hby dD3_2) rfl (XS.aloadN X102.here hx rfl (hb hby dD3_3) rfl rfl kont)))) ?_
    show Go _ _ _ _ _ _ _ (T102.setTop (mkF m 4 #[.val (.ref a), .val (.int q), .val (.int (1 : Int32))] [(.ref a), (.int (1 : Int32))]))
    obtain ⟨T105, X105, e105, st105⟩ := getF X102 hx hZ hown (host := "") (Or.inl (hw _ (List.mem_of_getElem? (i := 17) rfl))) Via.refl e102 Fs (g := (mkF m 4 #[.val (.ref a), .val (.int q), .val (.int (1 : Int32))] [(.ref a), (.int (1 : Int32))])) rfl rfl (hb hby dD3_4)
    refine Go.by st105 ?_
    show Go _ _ _ _ _ _ _ (T105.setTop (mkF m 7 #[.val (.ref a), .val (.int q), .val (.int (1 : Int32))] [(.int (3 : Int32)), (.int (1 : Int32))]))
    refine Go.by (fun _ kont => XS.icmpNo X105.here hx rfl (hb hby dD3_7) rfl (by decide) kont) ?_
    show Go _ _ _ _ _ _ _ (T105.setTop (mkF m 10 #[.val (.ref a), .val (.int q), .val (.int (1 : Int32))] []))
    refine Go.by (fun _ kont => XS.aloadN X105.here hx rfl (hb hby dD3_10) rfl rfl kont) ?_
    show Go _ _ _ _ _ _ _ (T105.setTop (mkF m 11 #[.val (.ref a), .val (.int q), .val (.int (1 : Int32))] [(.ref a)]))
    obtain ⟨T106, X106, e106, st106⟩ := getF X105 hx hZ hown (host := "") (Or.inl (hw _ (List.mem_of_getElem? (i := 10) rfl))) Via.refl e105 Fv (g := (mkF m 11 #[.val (.ref a), .val (.int q), .val (.int (1 : Int32))] [(.ref a)])) rfl rfl (hb hby dD3_11)
    refine Go.by st106 ?_
    show Go _ _ _ _ _ _ _ (T106.setTop (mkF m 14 #[.val (.ref a), .val (.int q), .val (.int (1 : Int32))] [(.ref b)]))
    refine Go.by (fun _ kont => XS.iloadN X106.here hx rfl (hb hby dD3_14) rfl kont) ?_
    show Go _ _ _ _ _ _ _ (T106.setTop (mkF m 15 #[.val (.ref a), .val (.int q), .val (.int (1 : Int32))] [(.int (1 : Int32)), (.ref b)]))
    obtain ⟨cl_q107, Ar_q107, q1_q107, S_q107, N_q107, H_q107, G_q107⟩ := id Vb
    have hin_q107 : ¬ ((1 : Int32) < 0 ∨ cl_q107.slots.size ≤ ((1 : Int32)).toNatClampNeg) := inb_of S_q107 ⟨by decide, by decide⟩
    have hat_q107 : cl_q107.slots[((1 : Int32)).toNatClampNeg]? = some (.int v1) := Has.at H_q107 hin_q107 rfl
    refine Go.by (X106.iaload hx (j := (1 : Int32)) (v := (.int v1)) (by rw [e106]; exact Ar_q107.1) (State.isArrayOf_alike hZ.alike Ar_q107.2.1) Ar_q107.2.2 hin_q107 hat_q107 (g := (mkF m 15 #[.val (.ref a), .val (.int q), .val (.int (1 : Int32))] [(.int (1 : Int32)), (.ref b)])) rfl rfl (hb hby dD3_15)) ?_
    show Go _ _ _ _ _ _ _ (T106.setTop (mkF m 16 #[.val (.ref a), .val (.int q), .val (.int (1 : Int32))] [(.int v1)]))
    refine Go.by (fun _ kont => XS.iloadN X106.here hx rfl (hb hby dD3_16) rfl kont) ?_
    show Go _ _ _ _ _ _ _ (T106.setTop (mkF m 17 #[.val (.ref a), .val (.int q), .val (.int (1 : Int32))] [(.int q), (.int v1)]))
    by_cases hc108 : v1 = q
    · refine Go.by (fun _ kont => XS.icmpNo X106.here hx rfl (hb hby dD3_17) rfl (teq hc108).2 kont) ?_
      show Go _ _ _ _ _ _ _ (T106.setTop (mkF m 20 #[.val (.ref a), .val (.int q), .val (.int (1 : Int32))] []))
      refine Go.by (fun _ kont => XS.iconst X106.here hx rfl (hb hby dD3_20) kont) ?_
      show Go _ _ _ _ _ _ _ (T106.setTop (mkF m 21 #[.val (.ref a), .val (.int q), .val (.int (1 : Int32))] [(.int (1 : Int32))]))
      refine Go.retN X106 hx (t := .boolean) hret (by simp) hlk (hb hby dD3_21) ?_ (by decide) (by decide)
      show QD3 Z a q b kc v0 v1 v2 h0 n0 (some (.int (1 : Int32))) T106.heap _
      rw [e106]
      refine ⟨?_, N0, rfl⟩
      unfold fD3
      rw [if_neg hc104, if_pos hc108]
    · refine Go.by (fun _ kont => XS.icmpYes X106.here hx rfl (pc0 := 17) (pc' := 22) rfl (hb hby dD3_17) rfl (feq hc108).2 (by decide) (by decide) kont) ?_
      show Go _ _ _ _ _ _ _ (T106.setTop (mkF m 22 #[.val (.ref a), .val (.int q), .val (.int (1 : Int32))] []))
      refine Go.by (fun _ kont => XS.iinc X106.here hx rfl (hb hby dD3_22) rfl (l' := #[.val (.ref a), .val (.int q), .val (.int (2 : Int32))]) rfl (XS.goto X106.here hx rfl (pc0 := 25) (pc' := 2) rfl (hb hby dD3_25) (by decide) (by decide) (XS.iloadN X106.here hx rfl (hb hby dD3_2) rfl (XS.aloadN X106.here hx rfl (hb hby dD3_3) rfl rfl kont)))) ?_
      show Go _ _ _ _ _ _ _ (T106.setTop (mkF m 4 #[.val (.ref a), .val (.int q), .val (.int (2 : Int32))] [(.ref a), (.int (2 : Int32))]))
      obtain ⟨T109, X109, e109, st109⟩ := getF X106 hx hZ hown (host := "") (Or.inl (hw _ (List.mem_of_getElem? (i := 17) rfl))) Via.refl e106 Fs (g := (mkF m 4 #[.val (.ref a), .val (.int q), .val (.int (2 : Int32))] [(.ref a), (.int (2 : Int32))])) rfl rfl (hb hby dD3_4)
      refine Go.by st109 ?_
      show Go _ _ _ _ _ _ _ (T109.setTop (mkF m 7 #[.val (.ref a), .val (.int q), .val (.int (2 : Int32))] [(.int (3 : Int32)), (.int (2 : Int32))]))
      refine Go.by (fun _ kont => XS.icmpNo X109.here hx rfl (hb hby dD3_7) rfl (by decide) kont) ?_
      show Go _ _ _ _ _ _ _ (T109.setTop (mkF m 10 #[.val (.ref a), .val (.int q), .val (.int (2 : Int32))] []))
      refine Go.by (fun _ kont => XS.aloadN X109.here hx rfl (hb hby dD3_10) rfl rfl kont) ?_
      show Go _ _ _ _ _ _ _ (T109.setTop (mkF m 11 #[.val (.ref a), .val (.int q), .val (.int (2 : Int32))] [(.ref a)]))
      obtain ⟨T110, X110, e110, st110⟩ := getF X109 hx hZ hown (host := "") (Or.inl (hw _ (List.mem_of_getElem? (i := 10) rfl))) Via.refl e109 Fv (g := (mkF m 11 #[.val (.ref a), .val (.int q), .val (.int (2 : Int32))] [(.ref a)])) rfl rfl (hb hby dD3_11)
      refine Go.by st110 ?_
      show Go _ _ _ _ _ _ _ (T110.setTop (mkF m 14 #[.val (.ref a), .val (.int q), .val (.int (2 : Int32))] [(.ref b)]))
      refine Go.by (fun _ kont => XS.iloadN X110.here hx rfl (hb hby dD3_14) rfl kont) ?_
      show Go _ _ _ _ _ _ _ (T110.setTop (mkF m 15 #[.val (.ref a), .val (.int q), .val (.int (2 : Int32))] [(.int (2 : Int32)), (.ref b)]))
      obtain ⟨cl_q111, Ar_q111, q1_q111, S_q111, N_q111, H_q111, G_q111⟩ := id Vb
      have hin_q111 : ¬ ((2 : Int32) < 0 ∨ cl_q111.slots.size ≤ ((2 : Int32)).toNatClampNeg) := inb_of S_q111 ⟨by decide, by decide⟩
      have hat_q111 : cl_q111.slots[((2 : Int32)).toNatClampNeg]? = some (.int v2) := Has.at H_q111 hin_q111 rfl
      refine Go.by (X110.iaload hx (j := (2 : Int32)) (v := (.int v2)) (by rw [e110]; exact Ar_q111.1) (State.isArrayOf_alike hZ.alike Ar_q111.2.1) Ar_q111.2.2 hin_q111 hat_q111 (g := (mkF m 15 #[.val (.ref a), .val (.int q), .val (.int (2 : Int32))] [(.int (2 : Int32)), (.ref b)])) rfl rfl (hb hby dD3_15)) ?_
      show Go _ _ _ _ _ _ _ (T110.setTop (mkF m 16 #[.val (.ref a), .val (.int q), .val (.int (2 : Int32))] [(.int v2)]))
      refine Go.by (fun _ kont => XS.iloadN X110.here hx rfl (hb hby dD3_16) rfl kont) ?_
      show Go _ _ _ _ _ _ _ (T110.setTop (mkF m 17 #[.val (.ref a), .val (.int q), .val (.int (2 : Int32))] [(.int q), (.int v2)]))
      by_cases hc112 : v2 = q
      · refine Go.by (fun _ kont => XS.icmpNo X110.here hx rfl (hb hby dD3_17) rfl (teq hc112).2 kont) ?_
        show Go _ _ _ _ _ _ _ (T110.setTop (mkF m 20 #[.val (.ref a), .val (.int q), .val (.int (2 : Int32))] []))
        refine Go.by (fun _ kont => XS.iconst X110.here hx rfl (hb hby dD3_20) kont) ?_
        show Go _ _ _ _ _ _ _ (T110.setTop (mkF m 21 #[.val (.ref a), .val (.int q), .val (.int (2 : Int32))] [(.int (1 : Int32))]))
        refine Go.retN X110 hx (t := .boolean) hret (by simp) hlk (hb hby dD3_21) ?_ (by decide) (by decide)
        show QD3 Z a q b kc v0 v1 v2 h0 n0 (some (.int (1 : Int32))) T110.heap _
        rw [e110]
        refine ⟨?_, N0, rfl⟩
        unfold fD3
        rw [if_neg hc104, if_neg hc108, if_pos hc112]
      · refine Go.by (fun _ kont => XS.icmpYes X110.here hx rfl (pc0 := 17) (pc' := 22) rfl (hb hby dD3_17) rfl (feq hc112).2 (by decide) (by decide) kont) ?_
        show Go _ _ _ _ _ _ _ (T110.setTop (mkF m 22 #[.val (.ref a), .val (.int q), .val (.int (2 : Int32))] []))
        refine Go.by (fun _ kont => XS.iinc X110.here hx rfl (hb hby dD3_22) rfl (l' := #[.val (.ref a), .val (.int q), .val (.int (3 : Int32))]) rfl (XS.goto X110.here hx rfl (pc0 := 25) (pc' := 2) rfl (hb hby dD3_25) (by decide) (by decide) (XS.iloadN X110.here hx rfl (hb hby dD3_2) rfl (XS.aloadN X110.here hx rfl (hb hby dD3_3) rfl rfl kont)))) ?_
        show Go _ _ _ _ _ _ _ (T110.setTop (mkF m 4 #[.val (.ref a), .val (.int q), .val (.int (3 : Int32))] [(.ref a), (.int (3 : Int32))]))
        obtain ⟨T113, X113, e113, st113⟩ := getF X110 hx hZ hown (host := "") (Or.inl (hw _ (List.mem_of_getElem? (i := 17) rfl))) Via.refl e110 Fs (g := (mkF m 4 #[.val (.ref a), .val (.int q), .val (.int (3 : Int32))] [(.ref a), (.int (3 : Int32))])) rfl rfl (hb hby dD3_4)
        refine Go.by st113 ?_
        show Go _ _ _ _ _ _ _ (T113.setTop (mkF m 7 #[.val (.ref a), .val (.int q), .val (.int (3 : Int32))] [(.int (3 : Int32)), (.int (3 : Int32))]))
        refine Go.by (fun _ kont => XS.icmpYes X113.here hx rfl (pc0 := 7) (pc' := 28) rfl (hb hby dD3_7) rfl (by decide) (by decide) (by decide) kont) ?_
        show Go _ _ _ _ _ _ _ (T113.setTop (mkF m 28 #[.val (.ref a), .val (.int q), .val (.int (3 : Int32))] []))
        refine Go.by (fun _ kont => XS.iconst X113.here hx rfl (hb hby dD3_28) kont) ?_
        show Go _ _ _ _ _ _ _ (T113.setTop (mkF m 29 #[.val (.ref a), .val (.int q), .val (.int (3 : Int32))] [(.int (0 : Int32))]))
        refine Go.retN X113 hx (t := .boolean) hret (by simp) hlk (hb hby dD3_29) ?_ (by decide) (by decide)
        show QD3 Z a q b kc v0 v1 v2 h0 n0 (some (.int (0 : Int32))) T113.heap _
        rw [e113]
        refine ⟨?_, N0, rfl⟩
        unfold fD3
        rw [if_neg hc104, if_neg hc108, if_neg hc112]

theorem pd0_0 : parseMethodDescriptor "()V" = some ⟨[], none⟩ := by decide +kernel
theorem pd0_1 : parseMethodDescriptor "(I)Z" = some ⟨[.int], some .boolean⟩ := by decide +kernel
theorem pd0_2 : parseMethodDescriptor "(I)V" = some ⟨[.int], none⟩ := by decide +kernel
theorem pn0 : plainName "com/example/quorumsmith/quorumsmith/protocols/quorum/IntListContainsPinLaw" = true := by first | (simp [plainName, overriddenIn]; done) | decide +kernel
theorem ef0 (m : MethodId) (a1 : Int32) (b1 : Int32) (c1 : Int32) (k1 : Int32) (s1 : Int32) (q1 : Int32) : entryFrame m #[(.int a1), (.int b1), (.int c1), (.int k1), (.int s1), (.int q1)] maxLocals = mkF m 0 #[.val (.int a1), .val (.int b1), .val (.int c1), .val (.int k1), .val (.int s1), .val (.int q1), .unset, .unset, .unset, .unset] [] := by first | (simp [entryFrame, mkF, argsToLocals, Value.category, maxLocals]; done) | rfl
def Q0 (Z : State) (h0 : Heap) (n0 : Nat) (v : Option Value) (h : Heap) (L : List Loc) : Prop := v = some (.int 1) ∧ Fr n0 L
set_option maxRecDepth 65536 in
set_option maxHeartbeats 40000000 in
theorem rm0 (l : Launch) (Z : State) (a0 : Array Value) (hw : ∀ d ∈ tables_1, d.before a0 Z = true) (ws : List Jvm.Cond) (a1 : Int32) (b1 : Int32) (c1 : Int32) (k1 : Int32) (s1 : Int32) (q1 : Int32) (h0 : Heap) (n0 : Nat) (Z0 : n0 ≤ h0.size) :
    MetFree l x (head1 (Jvm.Cond.code x code maxLocals ret :: ws) room_1) (fun aa_ U_ => aa_ = #[(.int a1), (.int b1), (.int c1), (.int k1), (.int s1), (.int q1)] ∧ Z.Warmed39 U_.vm ∧ U_.heap = h0) (fun _ _ _ _ _ => True) (fun _ U_ o_ V_ => ∃ v_ L_, o_ = .returned v_ ∧ Q0 Z h0 n0 v_ V_.heap L_ ∧ FrameEnd U_ o_ V_ L_ 16 128) := by
  refine MetFree.of_bodySF (plainFor_of_name pn0) hisR ?_
  intro p e s m args below meth c s₁ Bd hml0 hP hK
  obtain ⟨rfl, hZ, hh⟩ := hP
  have hx := Bd.exec
  have hby := Bd.bytes
  have hml : c.maxLocals = 10 := hml0
  have hown : s.vm.findClass "com/example/quorumsmith/quorumsmith/protocols/quorum/IntListContainsPinLaw" = some m.cls := findClass_of_methodNamed Bd.named
  have hnm := (name_of_methodNamed Bd.named Bd.method).1
  have hlk : meth.locks = false := BodyLoose.notSynchronized Bd
  have hret : meth.sig.returnType = (some .boolean) := Bd.returns
  have X0 : Stand p l e room_1 s m #[(.int a1), (.int b1), (.int c1), (.int k1), (.int s1), (.int q1)] below meth c s₁ [] 0 0 := Stand.of_body Bd
  have e0 : s₁.heap = h0 := by rw [← hh, Bd.state]; rfl
  have N0 := Fr.nil n0
  show Go p e below s 16 128 (Q0 Z h0 n0) (s₁.setTop (entryFrame m #[(.int a1), (.int b1), (.int c1), (.int k1), (.int s1), (.int q1)] maxLocals))
  rw [ef0]
  refine Go.by (fun _ kont => XS.iloadN X0.here hx rfl (hb hby at_0) rfl (XS.iconst X0.here hx rfl (hb hby at_1) (XS.iand X0.here hx rfl (hb hby at_2) rfl (XS.istore X0.here hx rfl (hb hby at_3) rfl (l' := #[.val (.int a1), .val (.int b1), .val (.int c1), .val (.int k1), .val (.int s1), .val (.int q1), .val (.int (k1 &&& (3 : Int32))), .unset, .unset, .unset]) rfl kont)))) ?_
  show Go _ _ _ _ _ _ _ (s₁.setTop (mkF m 5 #[.val (.int a1), .val (.int b1), .val (.int c1), .val (.int k1), .val (.int s1), .val (.int q1), .val (.int (k1 &&& (3 : Int32))), .unset, .unset, .unset] []))
  have C_nn := own_m3 k1
  generalize hg_nn : (k1 &&& (3 : Int32)) = nn at C_nn ⊢
  rcases C_nn with rfl | rfl | rfl | rfl
  · show Go _ _ _ _ _ _ _ (s₁.setTop (mkF m 5 #[.val (.int a1), .val (.int b1), .val (.int c1), .val (.int k1), .val (.int s1), .val (.int q1), .val (.int (0 : Int32)), .unset, .unset, .unset] []))
    refine Go.by (fun _ kont => XS.iloadN X0.here hx rfl (hb hby at_5) rfl (XS.iconst X0.here hx rfl (hb hby at_6) (XS.iand X0.here hx rfl (hb hby at_7) rfl kont))) ?_
    show Go _ _ _ _ _ _ _ (s₁.setTop (mkF m 8 #[.val (.int a1), .val (.int b1), .val (.int c1), .val (.int k1), .val (.int s1), .val (.int q1), .val (.int (0 : Int32)), .unset, .unset, .unset] [(.int (k1 &&& (4 : Int32)))]))
    by_cases hc101 : (k1 &&& (4 : Int32)) = (0 : Int32)
    · refine Go.by (fun _ kont => XS.ifYes X0.here hx rfl (pc0 := 8) (pc' := 15) rfl (hb hby at_8) rfl ((if0 _ _).trans (teq hc101).1) (by decide) (by decide) kont) ?_
      show Go _ _ _ _ _ _ _ (s₁.setTop (mkF m 15 #[.val (.int a1), .val (.int b1), .val (.int c1), .val (.int k1), .val (.int s1), .val (.int q1), .val (.int (0 : Int32)), .unset, .unset, .unset] []))
      refine Go.by (fun _ kont => XS.iconst X0.here hx rfl (hb hby at_15) (XS.istore X0.here hx rfl (hb hby at_16) rfl (l' := #[.val (.int a1), .val (.int b1), .val (.int c1), .val (.int k1), .val (.int s1), .val (.int q1), .val (.int (0 : Int32)), .val (.int (0 : Int32)), .unset, .unset]) rfl kont)) ?_
      show Go _ _ _ _ _ _ _ (s₁.setTop (mkF m 18 #[.val (.int a1), .val (.int b1), .val (.int c1), .val (.int k1), .val (.int s1), .val (.int q1), .val (.int (0 : Int32)), .val (.int (0 : Int32)), .unset, .unset] []))
      obtain ⟨T102, h102, X102, e102, X_102, A102, D102, -, st102⟩ := newO X0 hx hZ hown (hw _ (List.mem_of_getElem? (i := 0) rfl)) (hw _ (List.mem_of_getElem? (i := 1) rfl)) (hw _ (List.mem_of_getElem? (i := 2) rfl)) e0 (g := (mkF m 18 #[.val (.int a1), .val (.int b1), .val (.int c1), .val (.int k1), .val (.int s1), .val (.int q1), .val (.int (0 : Int32)), .val (.int (0 : Int32)), .unset, .unset] [])) rfl (hb hby at_18) (by decide) (by decide)
      obtain ⟨b102, g102⟩ : ∃ z, z = h0.size := ⟨_, rfl⟩
      rw [← g102] at A102 D102 st102
      have ge_b102 : n0 ≤ b102 := Nat.le_trans Z0 (Nat.le_of_eq g102.symm)
      have sz_b102 : h0.size ≤ b102 := Nat.le_trans (Keep.refl h0 []).1 (Nat.le_of_eq g102.symm)
      have Z103 := Nat.le_trans Z0 X_102.1
      have K103 : Keep h0 h102 [] := (Keep.refl h0 []).ext X_102
      have F102_values : Fld Z h102 b102 "com/example/quorumsmith/quorumsmith/protocols/quorum/IntList" "values" "[I" .null := D102 (Or.inl (hw _ (List.mem_of_getElem? (i := 11) rfl))) (ty := (.array .int)) (by decide)
      have F102_size : Fld Z h102 b102 "com/example/quorumsmith/quorumsmith/protocols/quorum/IntList" "size" "I" (.int (0 : Int32)) := D102 (Or.inl (hw _ (List.mem_of_getElem? (i := 18) rfl))) (ty := .int) (by decide)
      refine Go.by st102 ?_
      show Go _ _ _ _ _ _ _ (T102.setTop (mkF m 21 #[.val (.int a1), .val (.int b1), .val (.int c1), .val (.int k1), .val (.int s1), .val (.int q1), .val (.int (0 : Int32)), .val (.int (0 : Int32)), .unset, .unset] [(.ref b102)]))
      refine Go.by (fun _ kont => XS.dup X102.here hx rfl (hb hby at_21) rfl rfl kont) ?_
      show Go _ _ _ _ _ _ _ (T102.setTop (mkF m 22 #[.val (.int a1), .val (.int b1), .val (.int c1), .val (.int k1), .val (.int s1), .val (.int q1), .val (.int (0 : Int32)), .val (.int (0 : Int32)), .unset, .unset] [(.ref b102), (.ref b102)]))
      obtain ⟨_, _, ⟨T104, L104, k104, n104⟩, -, X104, ⟨Lc104, hQ104, l104, y104, z104⟩, st104⟩ := X102.specialBack hx (y := (⟨"com/example/quorumsmith/quorumsmith/protocols/quorum/IntList", "<init>", "()V"⟩ : MethodName)) rfl hown (mvT hZ (hw _ (List.mem_of_getElem? (i := 3) rfl))) (mvT hZ (hw _ (List.mem_of_getElem? (i := 4) rfl))) (mvT hZ (hw _ (List.mem_of_getElem? (i := 5) rfl))) (by decide) (backOf (W := 1) (rmI l Z a0 hw [] b102 h102 n0 Z103 A102 F102_values F102_size ge_b102) hZ (hw _ (List.mem_of_getElem? (i := 5) rfl)) (hw _ (List.mem_of_getElem? (i := 2) rfl)) (by decide) (by decide)) (g := (mkF m 22 #[.val (.int a1), .val (.int b1), .val (.int c1), .val (.int k1), .val (.int s1), .val (.int q1), .val (.int (0 : Int32)), .val (.int (0 : Int32)), .unset, .unset] [(.ref b102), (.ref b102)])) rfl (by rw [hml]; rfl) (Steps.refl _) (a := b102) (argsL := []) (rest := [(.ref b102)]) (lenOf pd0_0 rfl) rfl (by show 2 * 0 + _ ≤ _; exact Nat.le_of_eq rfl) (hb hby at_22) (fun _ _ => ⟨rfl, e102, (by decide : 1 + 1 ≤ _), (by decide : 2 + 16 ≤ _)⟩)
      dsimp only [Pt.U, Pt.locs, Pt.cells, Pt.slots] at X104 l104 y104 z104 st104 hQ104
      subst l104 y104 z104
      obtain ⟨b102_104, k102_104, rfl, N104q, K104, g104_0, g104_1, g104_2, ge_b102_104, szc_b102_104, g104_3⟩ := hQ104
      have ne_b102_b102_104 : b102 ≠ b102_104 := Nat.ne_of_lt (Nat.lt_of_lt_of_le F102_values.lt szc_b102_104)
      have sz_b102_104 : h0.size ≤ b102_104 := Nat.le_trans K103.1 szc_b102_104
      have E105_b102 := A102.keep K104
      have Z105 := Nat.le_trans Z103 K104.1
      have K105 : Keep h0 T104.heap [] := Keep.trans K103 K104 (allS (Or.inr sz_b102) all0)
      have N104 := Fr.app N0 N104q
      refine Go.tr st104 ?_
      show Go _ _ _ _ _ _ _ (T104.setTop (mkF m 25 #[.val (.int a1), .val (.int b1), .val (.int c1), .val (.int k1), .val (.int s1), .val (.int q1), .val (.int (0 : Int32)), .val (.int (0 : Int32)), .unset, .unset] [(.ref b102)]))
      refine Go.by (fun _ kont => XS.astore X104.here hx rfl (hb hby at_25) rfl rfl (l' := #[.val (.int a1), .val (.int b1), .val (.int c1), .val (.int k1), .val (.int s1), .val (.int q1), .val (.int (0 : Int32)), .val (.int (0 : Int32)), .val (.ref b102), .unset]) rfl (XS.iload X104.here hx rfl (hb hby at_27) rfl kont)) ?_
      show Go _ _ _ _ _ _ _ (T104.setTop (mkF m 29 #[.val (.int a1), .val (.int b1), .val (.int c1), .val (.int k1), .val (.int s1), .val (.int q1), .val (.int (0 : Int32)), .val (.int (0 : Int32)), .val (.ref b102), .unset] [(.int (0 : Int32))]))
      refine Go.by (fun _ kont => XS.ifYes X104.here hx rfl (pc0 := 29) (pc' := 58) rfl (hb hby at_29) rfl (by decide) (by decide) (by decide) kont) ?_
      show Go _ _ _ _ _ _ _ (T104.setTop (mkF m 58 #[.val (.int a1), .val (.int b1), .val (.int c1), .val (.int k1), .val (.int s1), .val (.int q1), .val (.int (0 : Int32)), .val (.int (0 : Int32)), .val (.ref b102), .unset] []))
      refine Go.by (fun _ kont => XS.iload X104.here hx rfl (hb hby at_58) rfl (XS.iconst X104.here hx rfl (hb hby at_60) kont)) ?_
      show Go _ _ _ _ _ _ _ (T104.setTop (mkF m 61 #[.val (.int a1), .val (.int b1), .val (.int c1), .val (.int k1), .val (.int s1), .val (.int q1), .val (.int (0 : Int32)), .val (.int (0 : Int32)), .val (.ref b102), .unset] [(.int (1 : Int32)), (.int (0 : Int32))]))
      refine Go.by (fun _ kont => XS.icmpYes X104.here hx rfl (pc0 := 61) (pc' := 70) rfl (hb hby at_61) rfl (by decide) (by decide) (by decide) kont) ?_
      show Go _ _ _ _ _ _ _ (T104.setTop (mkF m 70 #[.val (.int a1), .val (.int b1), .val (.int c1), .val (.int k1), .val (.int s1), .val (.int q1), .val (.int (0 : Int32)), .val (.int (0 : Int32)), .val (.ref b102), .unset] []))
      refine Go.by (fun _ kont => XS.iload X104.here hx rfl (hb hby at_70) rfl (XS.iconst X104.here hx rfl (hb hby at_72) kont)) ?_
      show Go _ _ _ _ _ _ _ (T104.setTop (mkF m 73 #[.val (.int a1), .val (.int b1), .val (.int c1), .val (.int k1), .val (.int s1), .val (.int q1), .val (.int (0 : Int32)), .val (.int (0 : Int32)), .val (.ref b102), .unset] [(.int (2 : Int32)), (.int (0 : Int32))]))
      refine Go.by (fun _ kont => XS.icmpYes X104.here hx rfl (pc0 := 73) (pc' := 82) rfl (hb hby at_73) rfl (by decide) (by decide) (by decide) kont) ?_
      show Go _ _ _ _ _ _ _ (T104.setTop (mkF m 82 #[.val (.int a1), .val (.int b1), .val (.int c1), .val (.int k1), .val (.int s1), .val (.int q1), .val (.int (0 : Int32)), .val (.int (0 : Int32)), .val (.ref b102), .unset] []))
      refine Go.by (fun _ kont => XS.iload X104.here hx rfl (hb hby at_82) rfl (XS.iconst X104.here hx rfl (hb hby at_84) kont)) ?_
      show Go _ _ _ _ _ _ _ (T104.setTop (mkF m 85 #[.val (.int a1), .val (.int b1), .val (.int c1), .val (.int k1), .val (.int s1), .val (.int q1), .val (.int (0 : Int32)), .val (.int (0 : Int32)), .val (.ref b102), .unset] [(.int (3 : Int32)), (.int (0 : Int32))]))
      refine Go.by (fun _ kont => XS.icmpYes X104.here hx rfl (pc0 := 85) (pc' := 94) rfl (hb hby at_85) rfl (by decide) (by decide) (by decide) kont) ?_
      show Go _ _ _ _ _ _ _ (T104.setTop (mkF m 94 #[.val (.int a1), .val (.int b1), .val (.int c1), .val (.int k1), .val (.int s1), .val (.int q1), .val (.int (0 : Int32)), .val (.int (0 : Int32)), .val (.ref b102), .unset] []))
      refine Go.by (fun _ kont => XS.iload X104.here hx rfl (hb hby at_94) rfl (XS.iconst X104.here hx rfl (hb hby at_96) kont)) ?_
      show Go _ _ _ _ _ _ _ (T104.setTop (mkF m 97 #[.val (.int a1), .val (.int b1), .val (.int c1), .val (.int k1), .val (.int s1), .val (.int q1), .val (.int (0 : Int32)), .val (.int (0 : Int32)), .val (.ref b102), .unset] [(.int (1 : Int32)), (.int (0 : Int32))]))
      refine Go.by (fun _ kont => XS.icmpYes X104.here hx rfl (pc0 := 97) (pc' := 106) rfl (hb hby at_97) rfl (by decide) (by decide) (by decide) kont) ?_
      show Go _ _ _ _ _ _ _ (T104.setTop (mkF m 106 #[.val (.int a1), .val (.int b1), .val (.int c1), .val (.int k1), .val (.int s1), .val (.int q1), .val (.int (0 : Int32)), .val (.int (0 : Int32)), .val (.ref b102), .unset] []))
      refine Go.by (fun _ kont => XS.iload X104.here hx rfl (hb hby at_106) rfl (XS.iconst X104.here hx rfl (hb hby at_108) kont)) ?_
      show Go _ _ _ _ _ _ _ (T104.setTop (mkF m 109 #[.val (.int a1), .val (.int b1), .val (.int c1), .val (.int k1), .val (.int s1), .val (.int q1), .val (.int (0 : Int32)), .val (.int (0 : Int32)), .val (.ref b102), .unset] [(.int (2 : Int32)), (.int (0 : Int32))]))
      refine Go.by (fun _ kont => XS.icmpYes X104.here hx rfl (pc0 := 109) (pc' := 118) rfl (hb hby at_109) rfl (by decide) (by decide) (by decide) kont) ?_
      show Go _ _ _ _ _ _ _ (T104.setTop (mkF m 118 #[.val (.int a1), .val (.int b1), .val (.int c1), .val (.int k1), .val (.int s1), .val (.int q1), .val (.int (0 : Int32)), .val (.int (0 : Int32)), .val (.ref b102), .unset] []))
      refine Go.by (fun _ kont => XS.iload X104.here hx rfl (hb hby at_118) rfl (XS.iconst X104.here hx rfl (hb hby at_120) kont)) ?_
      show Go _ _ _ _ _ _ _ (T104.setTop (mkF m 121 #[.val (.int a1), .val (.int b1), .val (.int c1), .val (.int k1), .val (.int s1), .val (.int q1), .val (.int (0 : Int32)), .val (.int (0 : Int32)), .val (.ref b102), .unset] [(.int (3 : Int32)), (.int (0 : Int32))]))
      refine Go.by (fun _ kont => XS.icmpYes X104.here hx rfl (pc0 := 121) (pc' := 134) rfl (hb hby at_121) rfl (by decide) (by decide) (by decide) kont) ?_
      show Go _ _ _ _ _ _ _ (T104.setTop (mkF m 134 #[.val (.int a1), .val (.int b1), .val (.int c1), .val (.int k1), .val (.int s1), .val (.int q1), .val (.int (0 : Int32)), .val (.int (0 : Int32)), .val (.ref b102), .unset] []))
      refine Go.by (fun _ kont => XS.iconst X104.here hx rfl (hb hby at_134) (XS.istore X104.here hx rfl (hb hby at_135) rfl (l' := #[.val (.int a1), .val (.int b1), .val (.int c1), .val (.int k1), .val (.int s1), .val (.int q1), .val (.int (0 : Int32)), .val (.int (0 : Int32)), .val (.ref b102), .val (.int (0 : Int32))]) rfl (XS.aload X104.here hx rfl (hb hby at_137) rfl rfl (XS.iload X104.here hx rfl (hb hby at_139) rfl kont)))) ?_
      show Go _ _ _ _ _ _ _ (T104.setTop (mkF m 141 #[.val (.int a1), .val (.int b1), .val (.int c1), .val (.int k1), .val (.int s1), .val (.int q1), .val (.int (0 : Int32)), .val (.int (0 : Int32)), .val (.ref b102), .val (.int (0 : Int32))] [(.int q1), (.ref b102)]))
      obtain ⟨cq106, kq106, q106a, q106b, q106c⟩ := isOf hZ rfl g104_0
      obtain ⟨_, _, ⟨T106, L106, k106, n106⟩, -, X106, ⟨Lc106, hQ106, l106, y106, z106⟩, st106⟩ := X104.virtualBack hx (y := (⟨"com/example/quorumsmith/quorumsmith/protocols/quorum/IntList", "contains", "(I)Z"⟩ : MethodName)) (z := (⟨"com/example/quorumsmith/quorumsmith/protocols/quorum/IntList", "contains", "(I)Z"⟩ : MethodName)) hown (mvT hZ (hw _ (List.mem_of_getElem? (i := 19) rfl))) (mvT hZ (hw _ (List.mem_of_getElem? (i := 20) rfl))) (notFace_of_selects (args := #[]) (mvT hZ (hw _ (List.mem_of_getElem? (i := 22) rfl)))) (mvT hZ (hw _ (List.mem_of_getElem? (i := 22) rfl))) (mvT hZ (hw _ (List.mem_of_getElem? (i := 21) rfl))) (by decide) (backOf (W := 0) (rmD0 l Z a0 hw [] b102 q1 b102_104 k102_104 (0 : Int32) (0 : Int32) (0 : Int32) T104.heap n0 Z105 g104_1 g104_2 g104_3) hZ (hw _ (List.mem_of_getElem? (i := 23) rfl)) (hw _ (List.mem_of_getElem? (i := 2) rfl)) (by decide) (by decide)) q106a q106c (g := (mkF m 141 #[.val (.int a1), .val (.int b1), .val (.int c1), .val (.int k1), .val (.int s1), .val (.int q1), .val (.int (0 : Int32)), .val (.int (0 : Int32)), .val (.ref b102), .val (.int (0 : Int32))] [(.int q1), (.ref b102)])) rfl (by rw [hml]; rfl) (Steps.refl _) (argsL := [(.int q1)]) (rest := []) (lenOf pd0_1 rfl) rfl (by show 2 * 0 + _ ≤ _; exact Nat.le_of_eq rfl) (hb hby at_141) (fun _ _ => ⟨rfl, rfl, (by decide : 2 + 0 ≤ _), (by decide : 18 + 0 ≤ _)⟩)
      dsimp only [Pt.U, Pt.locs, Pt.cells, Pt.slots] at X106 l106 y106 z106 st106 hQ106
      subst l106 y106 z106
      obtain ⟨rfl, N106q, eh106⟩ := hQ106
      have N106 := Fr.app N104 N106q
      refine Go.tr st106 ?_
      show Go _ _ _ _ _ _ _ (T106.setTop (mkF m 144 #[.val (.int a1), .val (.int b1), .val (.int c1), .val (.int k1), .val (.int s1), .val (.int q1), .val (.int (0 : Int32)), .val (.int (0 : Int32)), .val (.ref b102), .val (.int (0 : Int32))] [(.int (fD0 ))]))
      refine Go.by (fun _ kont => XS.iload X106.here hx rfl (hb hby at_144) rfl kont) ?_
      show Go _ _ _ _ _ _ _ (T106.setTop (mkF m 146 #[.val (.int a1), .val (.int b1), .val (.int c1), .val (.int k1), .val (.int s1), .val (.int q1), .val (.int (0 : Int32)), .val (.int (0 : Int32)), .val (.ref b102), .val (.int (0 : Int32))] [(.int (0 : Int32)), (.int (fD0 ))]))
      have hd107 : (fD0 ) = (0 : Int32) := by unfold fD0; rfl
      refine Go.by (fun _ kont => XS.icmpNo X106.here hx rfl (hb hby at_146) rfl (teq hd107).2 kont) ?_
      show Go _ _ _ _ _ _ _ (T106.setTop (mkF m 149 #[.val (.int a1), .val (.int b1), .val (.int c1), .val (.int k1), .val (.int s1), .val (.int q1), .val (.int (0 : Int32)), .val (.int (0 : Int32)), .val (.ref b102), .val (.int (0 : Int32))] []))
      refine Go.by (fun _ kont => XS.iconst X106.here hx rfl (hb hby at_149) (XS.goto X106.here hx rfl (pc0 := 150) (pc' := 154) rfl (hb hby at_150) (by decide) (by decide) kont)) ?_
      show Go _ _ _ _ _ _ _ (T106.setTop (mkF m 154 #[.val (.int a1), .val (.int b1), .val (.int c1), .val (.int k1), .val (.int s1), .val (.int q1), .val (.int (0 : Int32)), .val (.int (0 : Int32)), .val (.ref b102), .val (.int (0 : Int32))] [(.int (1 : Int32))]))
      refine Go.retN X106 hx (t := .boolean) hret (by simp) hlk (hb hby at_154) ?_ (by decide) (by decide)
      show Q0 Z h0 n0 (some (.int (1 : Int32))) T106.heap _
      rw [eh106]
      exact ⟨rfl, N106⟩
    · refine Go.by (fun _ kont => XS.ifNo X0.here hx rfl (hb hby at_8) rfl ((if0 _ _).trans (feq hc101).1) kont) ?_
      show Go _ _ _ _ _ _ _ (s₁.setTop (mkF m 11 #[.val (.int a1), .val (.int b1), .val (.int c1), .val (.int k1), .val (.int s1), .val (.int q1), .val (.int (0 : Int32)), .unset, .unset, .unset] []))
      refine Go.by (fun _ kont => XS.iconst X0.here hx rfl (hb hby at_11) (XS.goto X0.here hx rfl (pc0 := 12) (pc' := 16) rfl (hb hby at_12) (by decide) (by decide) (XS.istore X0.here hx rfl (hb hby at_16) rfl (l' := #[.val (.int a1), .val (.int b1), .val (.int c1), .val (.int k1), .val (.int s1), .val (.int q1), .val (.int (0 : Int32)), .val (.int (1 : Int32)), .unset, .unset]) rfl kont))) ?_
      show Go _ _ _ _ _ _ _ (s₁.setTop (mkF m 18 #[.val (.int a1), .val (.int b1), .val (.int c1), .val (.int k1), .val (.int s1), .val (.int q1), .val (.int (0 : Int32)), .val (.int (1 : Int32)), .unset, .unset] []))
      obtain ⟨T108, h108, X108, e108, X_108, A108, D108, -, st108⟩ := newO X0 hx hZ hown (hw _ (List.mem_of_getElem? (i := 0) rfl)) (hw _ (List.mem_of_getElem? (i := 1) rfl)) (hw _ (List.mem_of_getElem? (i := 2) rfl)) e0 (g := (mkF m 18 #[.val (.int a1), .val (.int b1), .val (.int c1), .val (.int k1), .val (.int s1), .val (.int q1), .val (.int (0 : Int32)), .val (.int (1 : Int32)), .unset, .unset] [])) rfl (hb hby at_18) (by decide) (by decide)
      obtain ⟨b108, g108⟩ : ∃ z, z = h0.size := ⟨_, rfl⟩
      rw [← g108] at A108 D108 st108
      have ge_b108 : n0 ≤ b108 := Nat.le_trans Z0 (Nat.le_of_eq g108.symm)
      have sz_b108 : h0.size ≤ b108 := Nat.le_trans (Keep.refl h0 []).1 (Nat.le_of_eq g108.symm)
      have Z109 := Nat.le_trans Z0 X_108.1
      have K109 : Keep h0 h108 [] := (Keep.refl h0 []).ext X_108
      have F108_values : Fld Z h108 b108 "com/example/quorumsmith/quorumsmith/protocols/quorum/IntList" "values" "[I" .null := D108 (Or.inl (hw _ (List.mem_of_getElem? (i := 11) rfl))) (ty := (.array .int)) (by decide)
      have F108_size : Fld Z h108 b108 "com/example/quorumsmith/quorumsmith/protocols/quorum/IntList" "size" "I" (.int (0 : Int32)) := D108 (Or.inl (hw _ (List.mem_of_getElem? (i := 18) rfl))) (ty := .int) (by decide)
      refine Go.by st108 ?_
      show Go _ _ _ _ _ _ _ (T108.setTop (mkF m 21 #[.val (.int a1), .val (.int b1), .val (.int c1), .val (.int k1), .val (.int s1), .val (.int q1), .val (.int (0 : Int32)), .val (.int (1 : Int32)), .unset, .unset] [(.ref b108)]))
      refine Go.by (fun _ kont => XS.dup X108.here hx rfl (hb hby at_21) rfl rfl kont) ?_
      show Go _ _ _ _ _ _ _ (T108.setTop (mkF m 22 #[.val (.int a1), .val (.int b1), .val (.int c1), .val (.int k1), .val (.int s1), .val (.int q1), .val (.int (0 : Int32)), .val (.int (1 : Int32)), .unset, .unset] [(.ref b108), (.ref b108)]))
      obtain ⟨_, _, ⟨T110, L110, k110, n110⟩, -, X110, ⟨Lc110, hQ110, l110, y110, z110⟩, st110⟩ := X108.specialBack hx (y := (⟨"com/example/quorumsmith/quorumsmith/protocols/quorum/IntList", "<init>", "()V"⟩ : MethodName)) rfl hown (mvT hZ (hw _ (List.mem_of_getElem? (i := 3) rfl))) (mvT hZ (hw _ (List.mem_of_getElem? (i := 4) rfl))) (mvT hZ (hw _ (List.mem_of_getElem? (i := 5) rfl))) (by decide) (backOf (W := 1) (rmI l Z a0 hw [] b108 h108 n0 Z109 A108 F108_values F108_size ge_b108) hZ (hw _ (List.mem_of_getElem? (i := 5) rfl)) (hw _ (List.mem_of_getElem? (i := 2) rfl)) (by decide) (by decide)) (g := (mkF m 22 #[.val (.int a1), .val (.int b1), .val (.int c1), .val (.int k1), .val (.int s1), .val (.int q1), .val (.int (0 : Int32)), .val (.int (1 : Int32)), .unset, .unset] [(.ref b108), (.ref b108)])) rfl (by rw [hml]; rfl) (Steps.refl _) (a := b108) (argsL := []) (rest := [(.ref b108)]) (lenOf pd0_0 rfl) rfl (by show 2 * 0 + _ ≤ _; exact Nat.le_of_eq rfl) (hb hby at_22) (fun _ _ => ⟨rfl, e108, (by decide : 1 + 1 ≤ _), (by decide : 2 + 16 ≤ _)⟩)
      dsimp only [Pt.U, Pt.locs, Pt.cells, Pt.slots] at X110 l110 y110 z110 st110 hQ110
      subst l110 y110 z110
      obtain ⟨b102_110, k102_110, rfl, N110q, K110, g110_0, g110_1, g110_2, ge_b102_110, szc_b102_110, g110_3⟩ := hQ110
      have ne_b108_b102_110 : b108 ≠ b102_110 := Nat.ne_of_lt (Nat.lt_of_lt_of_le F108_values.lt szc_b102_110)
      have sz_b102_110 : h0.size ≤ b102_110 := Nat.le_trans K109.1 szc_b102_110
      have E111_b108 := A108.keep K110
      have Z111 := Nat.le_trans Z109 K110.1
      have K111 : Keep h0 T110.heap [] := Keep.trans K109 K110 (allS (Or.inr sz_b108) all0)
      have N110 := Fr.app N0 N110q
      refine Go.tr st110 ?_
      show Go _ _ _ _ _ _ _ (T110.setTop (mkF m 25 #[.val (.int a1), .val (.int b1), .val (.int c1), .val (.int k1), .val (.int s1), .val (.int q1), .val (.int (0 : Int32)), .val (.int (1 : Int32)), .unset, .unset] [(.ref b108)]))
      refine Go.by (fun _ kont => XS.astore X110.here hx rfl (hb hby at_25) rfl rfl (l' := #[.val (.int a1), .val (.int b1), .val (.int c1), .val (.int k1), .val (.int s1), .val (.int q1), .val (.int (0 : Int32)), .val (.int (1 : Int32)), .val (.ref b108), .unset]) rfl (XS.iload X110.here hx rfl (hb hby at_27) rfl kont)) ?_
      show Go _ _ _ _ _ _ _ (T110.setTop (mkF m 29 #[.val (.int a1), .val (.int b1), .val (.int c1), .val (.int k1), .val (.int s1), .val (.int q1), .val (.int (0 : Int32)), .val (.int (1 : Int32)), .val (.ref b108), .unset] [(.int (1 : Int32))]))
      refine Go.by (fun _ kont => XS.ifNo X110.here hx rfl (hb hby at_29) rfl (by decide) kont) ?_
      show Go _ _ _ _ _ _ _ (T110.setTop (mkF m 32 #[.val (.int a1), .val (.int b1), .val (.int c1), .val (.int k1), .val (.int s1), .val (.int q1), .val (.int (0 : Int32)), .val (.int (1 : Int32)), .val (.ref b108), .unset] []))
      refine Go.by (fun _ kont => XS.aload X110.here hx rfl (hb hby at_32) rfl rfl (XS.iload X110.here hx rfl (hb hby at_34) rfl kont)) ?_
      show Go _ _ _ _ _ _ _ (T110.setTop (mkF m 36 #[.val (.int a1), .val (.int b1), .val (.int c1), .val (.int k1), .val (.int s1), .val (.int q1), .val (.int (0 : Int32)), .val (.int (1 : Int32)), .val (.ref b108), .unset] [(.int s1), (.ref b108)]))
      obtain ⟨cq112, kq112, q112a, q112b, q112c⟩ := isOf hZ rfl g110_0
      obtain ⟨_, _, ⟨T112, L112, k112, n112⟩, -, X112, ⟨Lc112, hQ112, l112, y112, z112⟩, st112⟩ := X110.virtualBack hx (y := (⟨"com/example/quorumsmith/quorumsmith/protocols/quorum/IntList", "add", "(I)V"⟩ : MethodName)) (z := (⟨"com/example/quorumsmith/quorumsmith/protocols/quorum/IntList", "add", "(I)V"⟩ : MethodName)) hown (mvT hZ (hw _ (List.mem_of_getElem? (i := 12) rfl))) (mvT hZ (hw _ (List.mem_of_getElem? (i := 13) rfl))) (notFace_of_selects (args := #[]) (mvT hZ (hw _ (List.mem_of_getElem? (i := 15) rfl)))) (mvT hZ (hw _ (List.mem_of_getElem? (i := 15) rfl))) (mvT hZ (hw _ (List.mem_of_getElem? (i := 14) rfl))) (by decide) (backOf (W := 0) (rmA0 l Z a0 hw [] b108 s1 b102_110 k102_110 (0 : Int32) (0 : Int32) (0 : Int32) T110.heap n0 Z111 g110_0 g110_1 g110_2 g110_3 ne_b108_b102_110 ge_b108 ge_b102_110) hZ (hw _ (List.mem_of_getElem? (i := 16) rfl)) (hw _ (List.mem_of_getElem? (i := 2) rfl)) (by decide) (by decide)) q112a q112c (g := (mkF m 36 #[.val (.int a1), .val (.int b1), .val (.int c1), .val (.int k1), .val (.int s1), .val (.int q1), .val (.int (0 : Int32)), .val (.int (1 : Int32)), .val (.ref b108), .unset] [(.int s1), (.ref b108)])) rfl (by rw [hml]; rfl) (Steps.refl _) (argsL := [(.int s1)]) (rest := []) (lenOf pd0_2 rfl) rfl (by show 2 * 0 + _ ≤ _; exact Nat.le_of_eq rfl) (hb hby at_36) (fun _ _ => ⟨rfl, rfl, (by decide : 2 + 0 ≤ _), (by decide : 18 + 0 ≤ _)⟩)
      dsimp only [Pt.U, Pt.locs, Pt.cells, Pt.slots] at X112 l112 y112 z112 st112 hQ112
      subst l112 y112 z112
      obtain ⟨rfl, N112q, K112, g112_0, g112_1, g112_2, g112_3⟩ := hQ112
      have E113_b108 := g110_0.keep K112
      have Z113 := Nat.le_trans Z111 K112.1
      have K113 : Keep h0 T112.heap [] := Keep.trans K111 K112 (allS (Or.inr sz_b108) (allS (Or.inr sz_b102_110) all0))
      have N112 := Fr.app N110 N112q
      refine Go.tr st112 ?_
      show Go _ _ _ _ _ _ _ (T112.setTop (mkF m 39 #[.val (.int a1), .val (.int b1), .val (.int c1), .val (.int k1), .val (.int s1), .val (.int q1), .val (.int (0 : Int32)), .val (.int (1 : Int32)), .val (.ref b108), .unset] []))
      refine Go.by (fun _ kont => XS.aload X112.here hx rfl (hb hby at_39) rfl rfl (XS.iload X112.here hx rfl (hb hby at_41) rfl kont)) ?_
      show Go _ _ _ _ _ _ _ (T112.setTop (mkF m 43 #[.val (.int a1), .val (.int b1), .val (.int c1), .val (.int k1), .val (.int s1), .val (.int q1), .val (.int (0 : Int32)), .val (.int (1 : Int32)), .val (.ref b108), .unset] [(.int s1), (.ref b108)]))
      obtain ⟨cq114, kq114, q114a, q114b, q114c⟩ := isOf hZ rfl g112_0
      obtain ⟨_, _, ⟨T114, L114, k114, n114⟩, -, X114, ⟨Lc114, hQ114, l114, y114, z114⟩, st114⟩ := X112.virtualBack hx (y := (⟨"com/example/quorumsmith/quorumsmith/protocols/quorum/IntList", "add", "(I)V"⟩ : MethodName)) (z := (⟨"com/example/quorumsmith/quorumsmith/protocols/quorum/IntList", "add", "(I)V"⟩ : MethodName)) hown (mvT hZ (hw _ (List.mem_of_getElem? (i := 12) rfl))) (mvT hZ (hw _ (List.mem_of_getElem? (i := 13) rfl))) (notFace_of_selects (args := #[]) (mvT hZ (hw _ (List.mem_of_getElem? (i := 15) rfl)))) (mvT hZ (hw _ (List.mem_of_getElem? (i := 15) rfl))) (mvT hZ (hw _ (List.mem_of_getElem? (i := 14) rfl))) (by decide) (backOf (W := 0) (rmA1 l Z a0 hw [] b108 s1 b102_110 k102_110 s1 (0 : Int32) (0 : Int32) T112.heap n0 Z113 g112_0 g112_1 g112_2 g112_3 ne_b108_b102_110 ge_b108 ge_b102_110) hZ (hw _ (List.mem_of_getElem? (i := 16) rfl)) (hw _ (List.mem_of_getElem? (i := 2) rfl)) (by decide) (by decide)) q114a q114c (g := (mkF m 43 #[.val (.int a1), .val (.int b1), .val (.int c1), .val (.int k1), .val (.int s1), .val (.int q1), .val (.int (0 : Int32)), .val (.int (1 : Int32)), .val (.ref b108), .unset] [(.int s1), (.ref b108)])) rfl (by rw [hml]; rfl) (Steps.refl _) (argsL := [(.int s1)]) (rest := []) (lenOf pd0_2 rfl) rfl (by show 2 * 0 + _ ≤ _; exact Nat.le_of_eq rfl) (hb hby at_43) (fun _ _ => ⟨rfl, rfl, (by decide : 2 + 0 ≤ _), (by decide : 18 + 0 ≤ _)⟩)
      dsimp only [Pt.U, Pt.locs, Pt.cells, Pt.slots] at X114 l114 y114 z114 st114 hQ114
      subst l114 y114 z114
      obtain ⟨rfl, N114q, K114, g114_0, g114_1, g114_2, g114_3⟩ := hQ114
      have E115_b108 := g112_0.keep K114
      have Z115 := Nat.le_trans Z113 K114.1
      have K115 : Keep h0 T114.heap [] := Keep.trans K113 K114 (allS (Or.inr sz_b108) (allS (Or.inr sz_b102_110) all0))
      have N114 := Fr.app N112 N114q
      refine Go.tr st114 ?_
      show Go _ _ _ _ _ _ _ (T114.setTop (mkF m 46 #[.val (.int a1), .val (.int b1), .val (.int c1), .val (.int k1), .val (.int s1), .val (.int q1), .val (.int (0 : Int32)), .val (.int (1 : Int32)), .val (.ref b108), .unset] []))
      refine Go.by (fun _ kont => XS.aload X114.here hx rfl (hb hby at_46) rfl rfl (XS.iload X114.here hx rfl (hb hby at_48) rfl kont)) ?_
      show Go _ _ _ _ _ _ _ (T114.setTop (mkF m 50 #[.val (.int a1), .val (.int b1), .val (.int c1), .val (.int k1), .val (.int s1), .val (.int q1), .val (.int (0 : Int32)), .val (.int (1 : Int32)), .val (.ref b108), .unset] [(.int s1), (.ref b108)]))
      obtain ⟨cq116, kq116, q116a, q116b, q116c⟩ := isOf hZ rfl g114_0
      obtain ⟨_, _, ⟨T116, L116, k116, n116⟩, -, X116, ⟨Lc116, hQ116, l116, y116, z116⟩, st116⟩ := X114.virtualBack hx (y := (⟨"com/example/quorumsmith/quorumsmith/protocols/quorum/IntList", "add", "(I)V"⟩ : MethodName)) (z := (⟨"com/example/quorumsmith/quorumsmith/protocols/quorum/IntList", "add", "(I)V"⟩ : MethodName)) hown (mvT hZ (hw _ (List.mem_of_getElem? (i := 12) rfl))) (mvT hZ (hw _ (List.mem_of_getElem? (i := 13) rfl))) (notFace_of_selects (args := #[]) (mvT hZ (hw _ (List.mem_of_getElem? (i := 15) rfl)))) (mvT hZ (hw _ (List.mem_of_getElem? (i := 15) rfl))) (mvT hZ (hw _ (List.mem_of_getElem? (i := 14) rfl))) (by decide) (backOf (W := 0) (rmA2 l Z a0 hw [] b108 s1 b102_110 k102_110 s1 s1 (0 : Int32) T114.heap n0 Z115 g114_0 g114_1 g114_2 g114_3 ne_b108_b102_110 ge_b108 ge_b102_110) hZ (hw _ (List.mem_of_getElem? (i := 16) rfl)) (hw _ (List.mem_of_getElem? (i := 2) rfl)) (by decide) (by decide)) q116a q116c (g := (mkF m 50 #[.val (.int a1), .val (.int b1), .val (.int c1), .val (.int k1), .val (.int s1), .val (.int q1), .val (.int (0 : Int32)), .val (.int (1 : Int32)), .val (.ref b108), .unset] [(.int s1), (.ref b108)])) rfl (by rw [hml]; rfl) (Steps.refl _) (argsL := [(.int s1)]) (rest := []) (lenOf pd0_2 rfl) rfl (by show 2 * 0 + _ ≤ _; exact Nat.le_of_eq rfl) (hb hby at_50) (fun _ _ => ⟨rfl, rfl, (by decide : 2 + 0 ≤ _), (by decide : 18 + 0 ≤ _)⟩)
      dsimp only [Pt.U, Pt.locs, Pt.cells, Pt.slots] at X116 l116 y116 z116 st116 hQ116
      subst l116 y116 z116
      obtain ⟨rfl, N116q, K116, g116_0, g116_1, g116_2, g116_3⟩ := hQ116
      have E117_b108 := g114_0.keep K116
      have Z117 := Nat.le_trans Z115 K116.1
      have K117 : Keep h0 T116.heap [] := Keep.trans K115 K116 (allS (Or.inr sz_b108) (allS (Or.inr sz_b102_110) all0))
      have N116 := Fr.app N114 N116q
      refine Go.tr st116 ?_
      show Go _ _ _ _ _ _ _ (T116.setTop (mkF m 53 #[.val (.int a1), .val (.int b1), .val (.int c1), .val (.int k1), .val (.int s1), .val (.int q1), .val (.int (0 : Int32)), .val (.int (1 : Int32)), .val (.ref b108), .unset] []))
      refine Go.by (fun _ kont => XS.aload X116.here hx rfl (hb hby at_53) rfl rfl kont) ?_
      show Go _ _ _ _ _ _ _ (T116.setTop (mkF m 55 #[.val (.int a1), .val (.int b1), .val (.int c1), .val (.int k1), .val (.int s1), .val (.int q1), .val (.int (0 : Int32)), .val (.int (1 : Int32)), .val (.ref b108), .unset] [(.ref b108)]))
      obtain ⟨cq118, kq118, q118a, q118b, q118c⟩ := isOf hZ rfl g116_0
      obtain ⟨_, _, ⟨T118, L118, k118, n118⟩, -, X118, ⟨Lc118, hQ118, l118, y118, z118⟩, st118⟩ := X116.virtualBack hx (y := (⟨"com/example/quorumsmith/quorumsmith/protocols/quorum/IntList", "clear", "()V"⟩ : MethodName)) (z := (⟨"com/example/quorumsmith/quorumsmith/protocols/quorum/IntList", "clear", "()V"⟩ : MethodName)) hown (mvT hZ (hw _ (List.mem_of_getElem? (i := 24) rfl))) (mvT hZ (hw _ (List.mem_of_getElem? (i := 25) rfl))) (notFace_of_selects (args := #[]) (mvT hZ (hw _ (List.mem_of_getElem? (i := 27) rfl)))) (mvT hZ (hw _ (List.mem_of_getElem? (i := 27) rfl))) (mvT hZ (hw _ (List.mem_of_getElem? (i := 26) rfl))) (by decide) (backOf (W := 0) (rmC l Z a0 hw [] b108 b102_110 (3 : Int32) T116.heap n0 Z117 g116_0 g116_1 g116_2 ge_b108) hZ (hw _ (List.mem_of_getElem? (i := 28) rfl)) (hw _ (List.mem_of_getElem? (i := 2) rfl)) (by decide) (by decide)) q118a q118c (g := (mkF m 55 #[.val (.int a1), .val (.int b1), .val (.int c1), .val (.int k1), .val (.int s1), .val (.int q1), .val (.int (0 : Int32)), .val (.int (1 : Int32)), .val (.ref b108), .unset] [(.ref b108)])) rfl (by rw [hml]; rfl) (Steps.refl _) (argsL := []) (rest := []) (lenOf pd0_0 rfl) rfl (by show 2 * 0 + _ ≤ _; exact Nat.le_of_eq rfl) (hb hby at_55) (fun _ _ => ⟨rfl, rfl, (by decide : 2 + 0 ≤ _), (by decide : 18 + 0 ≤ _)⟩)
      dsimp only [Pt.U, Pt.locs, Pt.cells, Pt.slots] at X118 l118 y118 z118 st118 hQ118
      subst l118 y118 z118
      obtain ⟨rfl, N118q, K118, g118_0, g118_1, g118_2⟩ := hQ118
      have E119_b108 := g116_0.keep K118
      have V119_b102_110 := g116_3.keep K118 (ninS (Ne.symm ne_b108_b102_110) nin0)
      have Z119 := Nat.le_trans Z117 K118.1
      have K119 : Keep h0 T118.heap [] := Keep.trans K117 K118 (allS (Or.inr sz_b108) all0)
      have N118 := Fr.app N116 N118q
      refine Go.tr st118 ?_
      show Go _ _ _ _ _ _ _ (T118.setTop (mkF m 58 #[.val (.int a1), .val (.int b1), .val (.int c1), .val (.int k1), .val (.int s1), .val (.int q1), .val (.int (0 : Int32)), .val (.int (1 : Int32)), .val (.ref b108), .unset] []))
      refine Go.by (fun _ kont => XS.iload X118.here hx rfl (hb hby at_58) rfl (XS.iconst X118.here hx rfl (hb hby at_60) kont)) ?_
      show Go _ _ _ _ _ _ _ (T118.setTop (mkF m 61 #[.val (.int a1), .val (.int b1), .val (.int c1), .val (.int k1), .val (.int s1), .val (.int q1), .val (.int (0 : Int32)), .val (.int (1 : Int32)), .val (.ref b108), .unset] [(.int (1 : Int32)), (.int (0 : Int32))]))
      refine Go.by (fun _ kont => XS.icmpYes X118.here hx rfl (pc0 := 61) (pc' := 70) rfl (hb hby at_61) rfl (by decide) (by decide) (by decide) kont) ?_
      show Go _ _ _ _ _ _ _ (T118.setTop (mkF m 70 #[.val (.int a1), .val (.int b1), .val (.int c1), .val (.int k1), .val (.int s1), .val (.int q1), .val (.int (0 : Int32)), .val (.int (1 : Int32)), .val (.ref b108), .unset] []))
      refine Go.by (fun _ kont => XS.iload X118.here hx rfl (hb hby at_70) rfl (XS.iconst X118.here hx rfl (hb hby at_72) kont)) ?_
      show Go _ _ _ _ _ _ _ (T118.setTop (mkF m 73 #[.val (.int a1), .val (.int b1), .val (.int c1), .val (.int k1), .val (.int s1), .val (.int q1), .val (.int (0 : Int32)), .val (.int (1 : Int32)), .val (.ref b108), .unset] [(.int (2 : Int32)), (.int (0 : Int32))]))
      refine Go.by (fun _ kont => XS.icmpYes X118.here hx rfl (pc0 := 73) (pc' := 82) rfl (hb hby at_73) rfl (by decide) (by decide) (by decide) kont) ?_
      show Go _ _ _ _ _ _ _ (T118.setTop (mkF m 82 #[.val (.int a1), .val (.int b1), .val (.int c1), .val (.int k1), .val (.int s1), .val (.int q1), .val (.int (0 : Int32)), .val (.int (1 : Int32)), .val (.ref b108), .unset] []))
      refine Go.by (fun _ kont => XS.iload X118.here hx rfl (hb hby at_82) rfl (XS.iconst X118.here hx rfl (hb hby at_84) kont)) ?_
      show Go _ _ _ _ _ _ _ (T118.setTop (mkF m 85 #[.val (.int a1), .val (.int b1), .val (.int c1), .val (.int k1), .val (.int s1), .val (.int q1), .val (.int (0 : Int32)), .val (.int (1 : Int32)), .val (.ref b108), .unset] [(.int (3 : Int32)), (.int (0 : Int32))]))
      refine Go.by (fun _ kont => XS.icmpYes X118.here hx rfl (pc0 := 85) (pc' := 94) rfl (hb hby at_85) rfl (by decide) (by decide) (by decide) kont) ?_
      show Go _ _ _ _ _ _ _ (T118.setTop (mkF m 94 #[.val (.int a1), .val (.int b1), .val (.int c1), .val (.int k1), .val (.int s1), .val (.int q1), .val (.int (0 : Int32)), .val (.int (1 : Int32)), .val (.ref b108), .unset] []))
      refine Go.by (fun _ kont => XS.iload X118.here hx rfl (hb hby at_94) rfl (XS.iconst X118.here hx rfl (hb hby at_96) kont)) ?_
      show Go _ _ _ _ _ _ _ (T118.setTop (mkF m 97 #[.val (.int a1), .val (.int b1), .val (.int c1), .val (.int k1), .val (.int s1), .val (.int q1), .val (.int (0 : Int32)), .val (.int (1 : Int32)), .val (.ref b108), .unset] [(.int (1 : Int32)), (.int (0 : Int32))]))
      refine Go.by (fun _ kont => XS.icmpYes X118.here hx rfl (pc0 := 97) (pc' := 106) rfl (hb hby at_97) rfl (by decide) (by decide) (by decide) kont) ?_
      show Go _ _ _ _ _ _ _ (T118.setTop (mkF m 106 #[.val (.int a1), .val (.int b1), .val (.int c1), .val (.int k1), .val (.int s1), .val (.int q1), .val (.int (0 : Int32)), .val (.int (1 : Int32)), .val (.ref b108), .unset] []))
      refine Go.by (fun _ kont => XS.iload X118.here hx rfl (hb hby at_106) rfl (XS.iconst X118.here hx rfl (hb hby at_108) kont)) ?_
      show Go _ _ _ _ _ _ _ (T118.setTop (mkF m 109 #[.val (.int a1), .val (.int b1), .val (.int c1), .val (.int k1), .val (.int s1), .val (.int q1), .val (.int (0 : Int32)), .val (.int (1 : Int32)), .val (.ref b108), .unset] [(.int (2 : Int32)), (.int (0 : Int32))]))
      refine Go.by (fun _ kont => XS.icmpYes X118.here hx rfl (pc0 := 109) (pc' := 118) rfl (hb hby at_109) rfl (by decide) (by decide) (by decide) kont) ?_
      show Go _ _ _ _ _ _ _ (T118.setTop (mkF m 118 #[.val (.int a1), .val (.int b1), .val (.int c1), .val (.int k1), .val (.int s1), .val (.int q1), .val (.int (0 : Int32)), .val (.int (1 : Int32)), .val (.ref b108), .unset] []))
      refine Go.by (fun _ kont => XS.iload X118.here hx rfl (hb hby at_118) rfl (XS.iconst X118.here hx rfl (hb hby at_120) kont)) ?_
      show Go _ _ _ _ _ _ _ (T118.setTop (mkF m 121 #[.val (.int a1), .val (.int b1), .val (.int c1), .val (.int k1), .val (.int s1), .val (.int q1), .val (.int (0 : Int32)), .val (.int (1 : Int32)), .val (.ref b108), .unset] [(.int (3 : Int32)), (.int (0 : Int32))]))
      refine Go.by (fun _ kont => XS.icmpYes X118.here hx rfl (pc0 := 121) (pc' := 134) rfl (hb hby at_121) rfl (by decide) (by decide) (by decide) kont) ?_
      show Go _ _ _ _ _ _ _ (T118.setTop (mkF m 134 #[.val (.int a1), .val (.int b1), .val (.int c1), .val (.int k1), .val (.int s1), .val (.int q1), .val (.int (0 : Int32)), .val (.int (1 : Int32)), .val (.ref b108), .unset] []))
      refine Go.by (fun _ kont => XS.iconst X118.here hx rfl (hb hby at_134) (XS.istore X118.here hx rfl (hb hby at_135) rfl (l' := #[.val (.int a1), .val (.int b1), .val (.int c1), .val (.int k1), .val (.int s1), .val (.int q1), .val (.int (0 : Int32)), .val (.int (1 : Int32)), .val (.ref b108), .val (.int (0 : Int32))]) rfl (XS.aload X118.here hx rfl (hb hby at_137) rfl rfl (XS.iload X118.here hx rfl (hb hby at_139) rfl kont)))) ?_
      show Go _ _ _ _ _ _ _ (T118.setTop (mkF m 141 #[.val (.int a1), .val (.int b1), .val (.int c1), .val (.int k1), .val (.int s1), .val (.int q1), .val (.int (0 : Int32)), .val (.int (1 : Int32)), .val (.ref b108), .val (.int (0 : Int32))] [(.int q1), (.ref b108)]))
      obtain ⟨cq120, kq120, q120a, q120b, q120c⟩ := isOf hZ rfl g118_0
      obtain ⟨_, _, ⟨T120, L120, k120, n120⟩, -, X120, ⟨Lc120, hQ120, l120, y120, z120⟩, st120⟩ := X118.virtualBack hx (y := (⟨"com/example/quorumsmith/quorumsmith/protocols/quorum/IntList", "contains", "(I)Z"⟩ : MethodName)) (z := (⟨"com/example/quorumsmith/quorumsmith/protocols/quorum/IntList", "contains", "(I)Z"⟩ : MethodName)) hown (mvT hZ (hw _ (List.mem_of_getElem? (i := 19) rfl))) (mvT hZ (hw _ (List.mem_of_getElem? (i := 20) rfl))) (notFace_of_selects (args := #[]) (mvT hZ (hw _ (List.mem_of_getElem? (i := 22) rfl)))) (mvT hZ (hw _ (List.mem_of_getElem? (i := 22) rfl))) (mvT hZ (hw _ (List.mem_of_getElem? (i := 21) rfl))) (by decide) (backOf (W := 0) (rmD0 l Z a0 hw [] b108 q1 b102_110 k102_110 s1 s1 s1 T118.heap n0 Z119 g118_1 g118_2 V119_b102_110) hZ (hw _ (List.mem_of_getElem? (i := 23) rfl)) (hw _ (List.mem_of_getElem? (i := 2) rfl)) (by decide) (by decide)) q120a q120c (g := (mkF m 141 #[.val (.int a1), .val (.int b1), .val (.int c1), .val (.int k1), .val (.int s1), .val (.int q1), .val (.int (0 : Int32)), .val (.int (1 : Int32)), .val (.ref b108), .val (.int (0 : Int32))] [(.int q1), (.ref b108)])) rfl (by rw [hml]; rfl) (Steps.refl _) (argsL := [(.int q1)]) (rest := []) (lenOf pd0_1 rfl) rfl (by show 2 * 0 + _ ≤ _; exact Nat.le_of_eq rfl) (hb hby at_141) (fun _ _ => ⟨rfl, rfl, (by decide : 2 + 0 ≤ _), (by decide : 18 + 0 ≤ _)⟩)
      dsimp only [Pt.U, Pt.locs, Pt.cells, Pt.slots] at X120 l120 y120 z120 st120 hQ120
      subst l120 y120 z120
      obtain ⟨rfl, N120q, eh120⟩ := hQ120
      have N120 := Fr.app N118 N120q
      refine Go.tr st120 ?_
      show Go _ _ _ _ _ _ _ (T120.setTop (mkF m 144 #[.val (.int a1), .val (.int b1), .val (.int c1), .val (.int k1), .val (.int s1), .val (.int q1), .val (.int (0 : Int32)), .val (.int (1 : Int32)), .val (.ref b108), .val (.int (0 : Int32))] [(.int (fD0 ))]))
      refine Go.by (fun _ kont => XS.iload X120.here hx rfl (hb hby at_144) rfl kont) ?_
      show Go _ _ _ _ _ _ _ (T120.setTop (mkF m 146 #[.val (.int a1), .val (.int b1), .val (.int c1), .val (.int k1), .val (.int s1), .val (.int q1), .val (.int (0 : Int32)), .val (.int (1 : Int32)), .val (.ref b108), .val (.int (0 : Int32))] [(.int (0 : Int32)), (.int (fD0 ))]))
      have hd121 : (fD0 ) = (0 : Int32) := by unfold fD0; rfl
      refine Go.by (fun _ kont => XS.icmpNo X120.here hx rfl (hb hby at_146) rfl (teq hd121).2 kont) ?_
      show Go _ _ _ _ _ _ _ (T120.setTop (mkF m 149 #[.val (.int a1), .val (.int b1), .val (.int c1), .val (.int k1), .val (.int s1), .val (.int q1), .val (.int (0 : Int32)), .val (.int (1 : Int32)), .val (.ref b108), .val (.int (0 : Int32))] []))
      refine Go.by (fun _ kont => XS.iconst X120.here hx rfl (hb hby at_149) (XS.goto X120.here hx rfl (pc0 := 150) (pc' := 154) rfl (hb hby at_150) (by decide) (by decide) kont)) ?_
      show Go _ _ _ _ _ _ _ (T120.setTop (mkF m 154 #[.val (.int a1), .val (.int b1), .val (.int c1), .val (.int k1), .val (.int s1), .val (.int q1), .val (.int (0 : Int32)), .val (.int (1 : Int32)), .val (.ref b108), .val (.int (0 : Int32))] [(.int (1 : Int32))]))
      refine Go.retN X120 hx (t := .boolean) hret (by simp) hlk (hb hby at_154) ?_ (by decide) (by decide)
      show Q0 Z h0 n0 (some (.int (1 : Int32))) T120.heap _
      rw [eh120]
      exact ⟨rfl, N120⟩
  · show Go _ _ _ _ _ _ _ (s₁.setTop (mkF m 5 #[.val (.int a1), .val (.int b1), .val (.int c1), .val (.int k1), .val (.int s1), .val (.int q1), .val (.int (1 : Int32)), .unset, .unset, .unset] []))
    refine Go.by (fun _ kont => XS.iloadN X0.here hx rfl (hb hby at_5) rfl (XS.iconst X0.here hx rfl (hb hby at_6) (XS.iand X0.here hx rfl (hb hby at_7) rfl kont))) ?_
    show Go _ _ _ _ _ _ _ (s₁.setTop (mkF m 8 #[.val (.int a1), .val (.int b1), .val (.int c1), .val (.int k1), .val (.int s1), .val (.int q1), .val (.int (1 : Int32)), .unset, .unset, .unset] [(.int (k1 &&& (4 : Int32)))]))
    by_cases hc122 : (k1 &&& (4 : Int32)) = (0 : Int32)
    · refine Go.by (fun _ kont => XS.ifYes X0.here hx rfl (pc0 := 8) (pc' := 15) rfl (hb hby at_8) rfl ((if0 _ _).trans (teq hc122).1) (by decide) (by decide) kont) ?_
      show Go _ _ _ _ _ _ _ (s₁.setTop (mkF m 15 #[.val (.int a1), .val (.int b1), .val (.int c1), .val (.int k1), .val (.int s1), .val (.int q1), .val (.int (1 : Int32)), .unset, .unset, .unset] []))
      refine Go.by (fun _ kont => XS.iconst X0.here hx rfl (hb hby at_15) (XS.istore X0.here hx rfl (hb hby at_16) rfl (l' := #[.val (.int a1), .val (.int b1), .val (.int c1), .val (.int k1), .val (.int s1), .val (.int q1), .val (.int (1 : Int32)), .val (.int (0 : Int32)), .unset, .unset]) rfl kont)) ?_
      show Go _ _ _ _ _ _ _ (s₁.setTop (mkF m 18 #[.val (.int a1), .val (.int b1), .val (.int c1), .val (.int k1), .val (.int s1), .val (.int q1), .val (.int (1 : Int32)), .val (.int (0 : Int32)), .unset, .unset] []))
      obtain ⟨T123, h123, X123, e123, X_123, A123, D123, -, st123⟩ := newO X0 hx hZ hown (hw _ (List.mem_of_getElem? (i := 0) rfl)) (hw _ (List.mem_of_getElem? (i := 1) rfl)) (hw _ (List.mem_of_getElem? (i := 2) rfl)) e0 (g := (mkF m 18 #[.val (.int a1), .val (.int b1), .val (.int c1), .val (.int k1), .val (.int s1), .val (.int q1), .val (.int (1 : Int32)), .val (.int (0 : Int32)), .unset, .unset] [])) rfl (hb hby at_18) (by decide) (by decide)
      obtain ⟨b123, g123⟩ : ∃ z, z = h0.size := ⟨_, rfl⟩
      rw [← g123] at A123 D123 st123
      have ge_b123 : n0 ≤ b123 := Nat.le_trans Z0 (Nat.le_of_eq g123.symm)
      have sz_b123 : h0.size ≤ b123 := Nat.le_trans (Keep.refl h0 []).1 (Nat.le_of_eq g123.symm)
      have Z124 := Nat.le_trans Z0 X_123.1
      have K124 : Keep h0 h123 [] := (Keep.refl h0 []).ext X_123
      have F123_values : Fld Z h123 b123 "com/example/quorumsmith/quorumsmith/protocols/quorum/IntList" "values" "[I" .null := D123 (Or.inl (hw _ (List.mem_of_getElem? (i := 11) rfl))) (ty := (.array .int)) (by decide)
      have F123_size : Fld Z h123 b123 "com/example/quorumsmith/quorumsmith/protocols/quorum/IntList" "size" "I" (.int (0 : Int32)) := D123 (Or.inl (hw _ (List.mem_of_getElem? (i := 18) rfl))) (ty := .int) (by decide)
      refine Go.by st123 ?_
      show Go _ _ _ _ _ _ _ (T123.setTop (mkF m 21 #[.val (.int a1), .val (.int b1), .val (.int c1), .val (.int k1), .val (.int s1), .val (.int q1), .val (.int (1 : Int32)), .val (.int (0 : Int32)), .unset, .unset] [(.ref b123)]))
      refine Go.by (fun _ kont => XS.dup X123.here hx rfl (hb hby at_21) rfl rfl kont) ?_
      show Go _ _ _ _ _ _ _ (T123.setTop (mkF m 22 #[.val (.int a1), .val (.int b1), .val (.int c1), .val (.int k1), .val (.int s1), .val (.int q1), .val (.int (1 : Int32)), .val (.int (0 : Int32)), .unset, .unset] [(.ref b123), (.ref b123)]))
      obtain ⟨_, _, ⟨T125, L125, k125, n125⟩, -, X125, ⟨Lc125, hQ125, l125, y125, z125⟩, st125⟩ := X123.specialBack hx (y := (⟨"com/example/quorumsmith/quorumsmith/protocols/quorum/IntList", "<init>", "()V"⟩ : MethodName)) rfl hown (mvT hZ (hw _ (List.mem_of_getElem? (i := 3) rfl))) (mvT hZ (hw _ (List.mem_of_getElem? (i := 4) rfl))) (mvT hZ (hw _ (List.mem_of_getElem? (i := 5) rfl))) (by decide) (backOf (W := 1) (rmI l Z a0 hw [] b123 h123 n0 Z124 A123 F123_values F123_size ge_b123) hZ (hw _ (List.mem_of_getElem? (i := 5) rfl)) (hw _ (List.mem_of_getElem? (i := 2) rfl)) (by decide) (by decide)) (g := (mkF m 22 #[.val (.int a1), .val (.int b1), .val (.int c1), .val (.int k1), .val (.int s1), .val (.int q1), .val (.int (1 : Int32)), .val (.int (0 : Int32)), .unset, .unset] [(.ref b123), (.ref b123)])) rfl (by rw [hml]; rfl) (Steps.refl _) (a := b123) (argsL := []) (rest := [(.ref b123)]) (lenOf pd0_0 rfl) rfl (by show 2 * 0 + _ ≤ _; exact Nat.le_of_eq rfl) (hb hby at_22) (fun _ _ => ⟨rfl, e123, (by decide : 1 + 1 ≤ _), (by decide : 2 + 16 ≤ _)⟩)
      dsimp only [Pt.U, Pt.locs, Pt.cells, Pt.slots] at X125 l125 y125 z125 st125 hQ125
      subst l125 y125 z125
      obtain ⟨b102_125, k102_125, rfl, N125q, K125, g125_0, g125_1, g125_2, ge_b102_125, szc_b102_125, g125_3⟩ := hQ125
      have ne_b123_b102_125 : b123 ≠ b102_125 := Nat.ne_of_lt (Nat.lt_of_lt_of_le F123_values.lt szc_b102_125)
      have sz_b102_125 : h0.size ≤ b102_125 := Nat.le_trans K124.1 szc_b102_125
      have E126_b123 := A123.keep K125
      have Z126 := Nat.le_trans Z124 K125.1
      have K126 : Keep h0 T125.heap [] := Keep.trans K124 K125 (allS (Or.inr sz_b123) all0)
      have N125 := Fr.app N0 N125q
      refine Go.tr st125 ?_
      show Go _ _ _ _ _ _ _ (T125.setTop (mkF m 25 #[.val (.int a1), .val (.int b1), .val (.int c1), .val (.int k1), .val (.int s1), .val (.int q1), .val (.int (1 : Int32)), .val (.int (0 : Int32)), .unset, .unset] [(.ref b123)]))
      refine Go.by (fun _ kont => XS.astore X125.here hx rfl (hb hby at_25) rfl rfl (l' := #[.val (.int a1), .val (.int b1), .val (.int c1), .val (.int k1), .val (.int s1), .val (.int q1), .val (.int (1 : Int32)), .val (.int (0 : Int32)), .val (.ref b123), .unset]) rfl (XS.iload X125.here hx rfl (hb hby at_27) rfl kont)) ?_
      show Go _ _ _ _ _ _ _ (T125.setTop (mkF m 29 #[.val (.int a1), .val (.int b1), .val (.int c1), .val (.int k1), .val (.int s1), .val (.int q1), .val (.int (1 : Int32)), .val (.int (0 : Int32)), .val (.ref b123), .unset] [(.int (0 : Int32))]))
      refine Go.by (fun _ kont => XS.ifYes X125.here hx rfl (pc0 := 29) (pc' := 58) rfl (hb hby at_29) rfl (by decide) (by decide) (by decide) kont) ?_
      show Go _ _ _ _ _ _ _ (T125.setTop (mkF m 58 #[.val (.int a1), .val (.int b1), .val (.int c1), .val (.int k1), .val (.int s1), .val (.int q1), .val (.int (1 : Int32)), .val (.int (0 : Int32)), .val (.ref b123), .unset] []))
      refine Go.by (fun _ kont => XS.iload X125.here hx rfl (hb hby at_58) rfl (XS.iconst X125.here hx rfl (hb hby at_60) kont)) ?_
      show Go _ _ _ _ _ _ _ (T125.setTop (mkF m 61 #[.val (.int a1), .val (.int b1), .val (.int c1), .val (.int k1), .val (.int s1), .val (.int q1), .val (.int (1 : Int32)), .val (.int (0 : Int32)), .val (.ref b123), .unset] [(.int (1 : Int32)), (.int (1 : Int32))]))
      refine Go.by (fun _ kont => XS.icmpNo X125.here hx rfl (hb hby at_61) rfl (by decide) kont) ?_
      show Go _ _ _ _ _ _ _ (T125.setTop (mkF m 64 #[.val (.int a1), .val (.int b1), .val (.int c1), .val (.int k1), .val (.int s1), .val (.int q1), .val (.int (1 : Int32)), .val (.int (0 : Int32)), .val (.ref b123), .unset] []))
      refine Go.by (fun _ kont => XS.aload X125.here hx rfl (hb hby at_64) rfl rfl (XS.iloadN X125.here hx rfl (hb hby at_66) rfl kont)) ?_
      show Go _ _ _ _ _ _ _ (T125.setTop (mkF m 67 #[.val (.int a1), .val (.int b1), .val (.int c1), .val (.int k1), .val (.int s1), .val (.int q1), .val (.int (1 : Int32)), .val (.int (0 : Int32)), .val (.ref b123), .unset] [(.int a1), (.ref b123)]))
      obtain ⟨cq127, kq127, q127a, q127b, q127c⟩ := isOf hZ rfl g125_0
      obtain ⟨_, _, ⟨T127, L127, k127, n127⟩, -, X127, ⟨Lc127, hQ127, l127, y127, z127⟩, st127⟩ := X125.virtualBack hx (y := (⟨"com/example/quorumsmith/quorumsmith/protocols/quorum/IntList", "add", "(I)V"⟩ : MethodName)) (z := (⟨"com/example/quorumsmith/quorumsmith/protocols/quorum/IntList", "add", "(I)V"⟩ : MethodName)) hown (mvT hZ (hw _ (List.mem_of_getElem? (i := 12) rfl))) (mvT hZ (hw _ (List.mem_of_getElem? (i := 13) rfl))) (notFace_of_selects (args := #[]) (mvT hZ (hw _ (List.mem_of_getElem? (i := 15) rfl)))) (mvT hZ (hw _ (List.mem_of_getElem? (i := 15) rfl))) (mvT hZ (hw _ (List.mem_of_getElem? (i := 14) rfl))) (by decide) (backOf (W := 0) (rmA0 l Z a0 hw [] b123 a1 b102_125 k102_125 (0 : Int32) (0 : Int32) (0 : Int32) T125.heap n0 Z126 g125_0 g125_1 g125_2 g125_3 ne_b123_b102_125 ge_b123 ge_b102_125) hZ (hw _ (List.mem_of_getElem? (i := 16) rfl)) (hw _ (List.mem_of_getElem? (i := 2) rfl)) (by decide) (by decide)) q127a q127c (g := (mkF m 67 #[.val (.int a1), .val (.int b1), .val (.int c1), .val (.int k1), .val (.int s1), .val (.int q1), .val (.int (1 : Int32)), .val (.int (0 : Int32)), .val (.ref b123), .unset] [(.int a1), (.ref b123)])) rfl (by rw [hml]; rfl) (Steps.refl _) (argsL := [(.int a1)]) (rest := []) (lenOf pd0_2 rfl) rfl (by show 2 * 0 + _ ≤ _; exact Nat.le_of_eq rfl) (hb hby at_67) (fun _ _ => ⟨rfl, rfl, (by decide : 2 + 0 ≤ _), (by decide : 18 + 0 ≤ _)⟩)
      dsimp only [Pt.U, Pt.locs, Pt.cells, Pt.slots] at X127 l127 y127 z127 st127 hQ127
      subst l127 y127 z127
      obtain ⟨rfl, N127q, K127, g127_0, g127_1, g127_2, g127_3⟩ := hQ127
      have E128_b123 := g125_0.keep K127
      have Z128 := Nat.le_trans Z126 K127.1
      have K128 : Keep h0 T127.heap [] := Keep.trans K126 K127 (allS (Or.inr sz_b123) (allS (Or.inr sz_b102_125) all0))
      have N127 := Fr.app N125 N127q
      refine Go.tr st127 ?_
      show Go _ _ _ _ _ _ _ (T127.setTop (mkF m 70 #[.val (.int a1), .val (.int b1), .val (.int c1), .val (.int k1), .val (.int s1), .val (.int q1), .val (.int (1 : Int32)), .val (.int (0 : Int32)), .val (.ref b123), .unset] []))
      refine Go.by (fun _ kont => XS.iload X127.here hx rfl (hb hby at_70) rfl (XS.iconst X127.here hx rfl (hb hby at_72) kont)) ?_
      show Go _ _ _ _ _ _ _ (T127.setTop (mkF m 73 #[.val (.int a1), .val (.int b1), .val (.int c1), .val (.int k1), .val (.int s1), .val (.int q1), .val (.int (1 : Int32)), .val (.int (0 : Int32)), .val (.ref b123), .unset] [(.int (2 : Int32)), (.int (1 : Int32))]))
      refine Go.by (fun _ kont => XS.icmpYes X127.here hx rfl (pc0 := 73) (pc' := 82) rfl (hb hby at_73) rfl (by decide) (by decide) (by decide) kont) ?_
      show Go _ _ _ _ _ _ _ (T127.setTop (mkF m 82 #[.val (.int a1), .val (.int b1), .val (.int c1), .val (.int k1), .val (.int s1), .val (.int q1), .val (.int (1 : Int32)), .val (.int (0 : Int32)), .val (.ref b123), .unset] []))
      refine Go.by (fun _ kont => XS.iload X127.here hx rfl (hb hby at_82) rfl (XS.iconst X127.here hx rfl (hb hby at_84) kont)) ?_
      show Go _ _ _ _ _ _ _ (T127.setTop (mkF m 85 #[.val (.int a1), .val (.int b1), .val (.int c1), .val (.int k1), .val (.int s1), .val (.int q1), .val (.int (1 : Int32)), .val (.int (0 : Int32)), .val (.ref b123), .unset] [(.int (3 : Int32)), (.int (1 : Int32))]))
      refine Go.by (fun _ kont => XS.icmpYes X127.here hx rfl (pc0 := 85) (pc' := 94) rfl (hb hby at_85) rfl (by decide) (by decide) (by decide) kont) ?_
      show Go _ _ _ _ _ _ _ (T127.setTop (mkF m 94 #[.val (.int a1), .val (.int b1), .val (.int c1), .val (.int k1), .val (.int s1), .val (.int q1), .val (.int (1 : Int32)), .val (.int (0 : Int32)), .val (.ref b123), .unset] []))
      refine Go.by (fun _ kont => XS.iload X127.here hx rfl (hb hby at_94) rfl (XS.iconst X127.here hx rfl (hb hby at_96) kont)) ?_
      show Go _ _ _ _ _ _ _ (T127.setTop (mkF m 97 #[.val (.int a1), .val (.int b1), .val (.int c1), .val (.int k1), .val (.int s1), .val (.int q1), .val (.int (1 : Int32)), .val (.int (0 : Int32)), .val (.ref b123), .unset] [(.int (1 : Int32)), (.int (1 : Int32))]))
      refine Go.by (fun _ kont => XS.icmpNo X127.here hx rfl (hb hby at_97) rfl (by decide) kont) ?_
      show Go _ _ _ _ _ _ _ (T127.setTop (mkF m 100 #[.val (.int a1), .val (.int b1), .val (.int c1), .val (.int k1), .val (.int s1), .val (.int q1), .val (.int (1 : Int32)), .val (.int (0 : Int32)), .val (.ref b123), .unset] []))
      refine Go.by (fun _ kont => XS.iload X127.here hx rfl (hb hby at_100) rfl (XS.iloadN X127.here hx rfl (hb hby at_102) rfl kont)) ?_
      show Go _ _ _ _ _ _ _ (T127.setTop (mkF m 103 #[.val (.int a1), .val (.int b1), .val (.int c1), .val (.int k1), .val (.int s1), .val (.int q1), .val (.int (1 : Int32)), .val (.int (0 : Int32)), .val (.ref b123), .unset] [(.int a1), (.int q1)]))
      by_cases hc129 : q1 = a1
      · refine Go.by (fun _ kont => XS.icmpYes X127.here hx rfl (pc0 := 103) (pc' := 130) rfl (hb hby at_103) rfl (teq hc129).1 (by decide) (by decide) kont) ?_
        show Go _ _ _ _ _ _ _ (T127.setTop (mkF m 130 #[.val (.int a1), .val (.int b1), .val (.int c1), .val (.int k1), .val (.int s1), .val (.int q1), .val (.int (1 : Int32)), .val (.int (0 : Int32)), .val (.ref b123), .unset] []))
        refine Go.by (fun _ kont => XS.iconst X127.here hx rfl (hb hby at_130) (XS.goto X127.here hx rfl (pc0 := 131) (pc' := 135) rfl (hb hby at_131) (by decide) (by decide) (XS.istore X127.here hx rfl (hb hby at_135) rfl (l' := #[.val (.int a1), .val (.int b1), .val (.int c1), .val (.int k1), .val (.int s1), .val (.int q1), .val (.int (1 : Int32)), .val (.int (0 : Int32)), .val (.ref b123), .val (.int (1 : Int32))]) rfl (XS.aload X127.here hx rfl (hb hby at_137) rfl rfl (XS.iload X127.here hx rfl (hb hby at_139) rfl kont))))) ?_
        show Go _ _ _ _ _ _ _ (T127.setTop (mkF m 141 #[.val (.int a1), .val (.int b1), .val (.int c1), .val (.int k1), .val (.int s1), .val (.int q1), .val (.int (1 : Int32)), .val (.int (0 : Int32)), .val (.ref b123), .val (.int (1 : Int32))] [(.int q1), (.ref b123)]))
        obtain ⟨cq130, kq130, q130a, q130b, q130c⟩ := isOf hZ rfl g127_0
        obtain ⟨_, _, ⟨T130, L130, k130, n130⟩, -, X130, ⟨Lc130, hQ130, l130, y130, z130⟩, st130⟩ := X127.virtualBack hx (y := (⟨"com/example/quorumsmith/quorumsmith/protocols/quorum/IntList", "contains", "(I)Z"⟩ : MethodName)) (z := (⟨"com/example/quorumsmith/quorumsmith/protocols/quorum/IntList", "contains", "(I)Z"⟩ : MethodName)) hown (mvT hZ (hw _ (List.mem_of_getElem? (i := 19) rfl))) (mvT hZ (hw _ (List.mem_of_getElem? (i := 20) rfl))) (notFace_of_selects (args := #[]) (mvT hZ (hw _ (List.mem_of_getElem? (i := 22) rfl)))) (mvT hZ (hw _ (List.mem_of_getElem? (i := 22) rfl))) (mvT hZ (hw _ (List.mem_of_getElem? (i := 21) rfl))) (by decide) (backOf (W := 0) (rmD1 l Z a0 hw [] b123 q1 b102_125 k102_125 a1 (0 : Int32) (0 : Int32) T127.heap n0 Z128 g127_1 g127_2 g127_3) hZ (hw _ (List.mem_of_getElem? (i := 23) rfl)) (hw _ (List.mem_of_getElem? (i := 2) rfl)) (by decide) (by decide)) q130a q130c (g := (mkF m 141 #[.val (.int a1), .val (.int b1), .val (.int c1), .val (.int k1), .val (.int s1), .val (.int q1), .val (.int (1 : Int32)), .val (.int (0 : Int32)), .val (.ref b123), .val (.int (1 : Int32))] [(.int q1), (.ref b123)])) rfl (by rw [hml]; rfl) (Steps.refl _) (argsL := [(.int q1)]) (rest := []) (lenOf pd0_1 rfl) rfl (by show 2 * 0 + _ ≤ _; exact Nat.le_of_eq rfl) (hb hby at_141) (fun _ _ => ⟨rfl, rfl, (by decide : 2 + 0 ≤ _), (by decide : 18 + 0 ≤ _)⟩)
        dsimp only [Pt.U, Pt.locs, Pt.cells, Pt.slots] at X130 l130 y130 z130 st130 hQ130
        subst l130 y130 z130
        obtain ⟨rfl, N130q, eh130⟩ := hQ130
        have N130 := Fr.app N127 N130q
        refine Go.tr st130 ?_
        show Go _ _ _ _ _ _ _ (T130.setTop (mkF m 144 #[.val (.int a1), .val (.int b1), .val (.int c1), .val (.int k1), .val (.int s1), .val (.int q1), .val (.int (1 : Int32)), .val (.int (0 : Int32)), .val (.ref b123), .val (.int (1 : Int32))] [(.int (fD1 q1 a1))]))
        refine Go.by (fun _ kont => XS.iload X130.here hx rfl (hb hby at_144) rfl kont) ?_
        show Go _ _ _ _ _ _ _ (T130.setTop (mkF m 146 #[.val (.int a1), .val (.int b1), .val (.int c1), .val (.int k1), .val (.int s1), .val (.int q1), .val (.int (1 : Int32)), .val (.int (0 : Int32)), .val (.ref b123), .val (.int (1 : Int32))] [(.int (1 : Int32)), (.int (fD1 q1 a1))]))
        have hd131 : (fD1 q1 a1) = (1 : Int32) := by unfold fD1; rw [if_pos hc129.symm]
        refine Go.by (fun _ kont => XS.icmpNo X130.here hx rfl (hb hby at_146) rfl (teq hd131).2 kont) ?_
        show Go _ _ _ _ _ _ _ (T130.setTop (mkF m 149 #[.val (.int a1), .val (.int b1), .val (.int c1), .val (.int k1), .val (.int s1), .val (.int q1), .val (.int (1 : Int32)), .val (.int (0 : Int32)), .val (.ref b123), .val (.int (1 : Int32))] []))
        refine Go.by (fun _ kont => XS.iconst X130.here hx rfl (hb hby at_149) (XS.goto X130.here hx rfl (pc0 := 150) (pc' := 154) rfl (hb hby at_150) (by decide) (by decide) kont)) ?_
        show Go _ _ _ _ _ _ _ (T130.setTop (mkF m 154 #[.val (.int a1), .val (.int b1), .val (.int c1), .val (.int k1), .val (.int s1), .val (.int q1), .val (.int (1 : Int32)), .val (.int (0 : Int32)), .val (.ref b123), .val (.int (1 : Int32))] [(.int (1 : Int32))]))
        refine Go.retN X130 hx (t := .boolean) hret (by simp) hlk (hb hby at_154) ?_ (by decide) (by decide)
        show Q0 Z h0 n0 (some (.int (1 : Int32))) T130.heap _
        rw [eh130]
        exact ⟨rfl, N130⟩
      · refine Go.by (fun _ kont => XS.icmpNo X127.here hx rfl (hb hby at_103) rfl (feq hc129).1 kont) ?_
        show Go _ _ _ _ _ _ _ (T127.setTop (mkF m 106 #[.val (.int a1), .val (.int b1), .val (.int c1), .val (.int k1), .val (.int s1), .val (.int q1), .val (.int (1 : Int32)), .val (.int (0 : Int32)), .val (.ref b123), .unset] []))
        refine Go.by (fun _ kont => XS.iload X127.here hx rfl (hb hby at_106) rfl (XS.iconst X127.here hx rfl (hb hby at_108) kont)) ?_
        show Go _ _ _ _ _ _ _ (T127.setTop (mkF m 109 #[.val (.int a1), .val (.int b1), .val (.int c1), .val (.int k1), .val (.int s1), .val (.int q1), .val (.int (1 : Int32)), .val (.int (0 : Int32)), .val (.ref b123), .unset] [(.int (2 : Int32)), (.int (1 : Int32))]))
        refine Go.by (fun _ kont => XS.icmpYes X127.here hx rfl (pc0 := 109) (pc' := 118) rfl (hb hby at_109) rfl (by decide) (by decide) (by decide) kont) ?_
        show Go _ _ _ _ _ _ _ (T127.setTop (mkF m 118 #[.val (.int a1), .val (.int b1), .val (.int c1), .val (.int k1), .val (.int s1), .val (.int q1), .val (.int (1 : Int32)), .val (.int (0 : Int32)), .val (.ref b123), .unset] []))
        refine Go.by (fun _ kont => XS.iload X127.here hx rfl (hb hby at_118) rfl (XS.iconst X127.here hx rfl (hb hby at_120) kont)) ?_
        show Go _ _ _ _ _ _ _ (T127.setTop (mkF m 121 #[.val (.int a1), .val (.int b1), .val (.int c1), .val (.int k1), .val (.int s1), .val (.int q1), .val (.int (1 : Int32)), .val (.int (0 : Int32)), .val (.ref b123), .unset] [(.int (3 : Int32)), (.int (1 : Int32))]))
        refine Go.by (fun _ kont => XS.icmpYes X127.here hx rfl (pc0 := 121) (pc' := 134) rfl (hb hby at_121) rfl (by decide) (by decide) (by decide) kont) ?_
        show Go _ _ _ _ _ _ _ (T127.setTop (mkF m 134 #[.val (.int a1), .val (.int b1), .val (.int c1), .val (.int k1), .val (.int s1), .val (.int q1), .val (.int (1 : Int32)), .val (.int (0 : Int32)), .val (.ref b123), .unset] []))
        refine Go.by (fun _ kont => XS.iconst X127.here hx rfl (hb hby at_134) (XS.istore X127.here hx rfl (hb hby at_135) rfl (l' := #[.val (.int a1), .val (.int b1), .val (.int c1), .val (.int k1), .val (.int s1), .val (.int q1), .val (.int (1 : Int32)), .val (.int (0 : Int32)), .val (.ref b123), .val (.int (0 : Int32))]) rfl (XS.aload X127.here hx rfl (hb hby at_137) rfl rfl (XS.iload X127.here hx rfl (hb hby at_139) rfl kont)))) ?_
        show Go _ _ _ _ _ _ _ (T127.setTop (mkF m 141 #[.val (.int a1), .val (.int b1), .val (.int c1), .val (.int k1), .val (.int s1), .val (.int q1), .val (.int (1 : Int32)), .val (.int (0 : Int32)), .val (.ref b123), .val (.int (0 : Int32))] [(.int q1), (.ref b123)]))
        obtain ⟨cq132, kq132, q132a, q132b, q132c⟩ := isOf hZ rfl g127_0
        obtain ⟨_, _, ⟨T132, L132, k132, n132⟩, -, X132, ⟨Lc132, hQ132, l132, y132, z132⟩, st132⟩ := X127.virtualBack hx (y := (⟨"com/example/quorumsmith/quorumsmith/protocols/quorum/IntList", "contains", "(I)Z"⟩ : MethodName)) (z := (⟨"com/example/quorumsmith/quorumsmith/protocols/quorum/IntList", "contains", "(I)Z"⟩ : MethodName)) hown (mvT hZ (hw _ (List.mem_of_getElem? (i := 19) rfl))) (mvT hZ (hw _ (List.mem_of_getElem? (i := 20) rfl))) (notFace_of_selects (args := #[]) (mvT hZ (hw _ (List.mem_of_getElem? (i := 22) rfl)))) (mvT hZ (hw _ (List.mem_of_getElem? (i := 22) rfl))) (mvT hZ (hw _ (List.mem_of_getElem? (i := 21) rfl))) (by decide) (backOf (W := 0) (rmD1 l Z a0 hw [] b123 q1 b102_125 k102_125 a1 (0 : Int32) (0 : Int32) T127.heap n0 Z128 g127_1 g127_2 g127_3) hZ (hw _ (List.mem_of_getElem? (i := 23) rfl)) (hw _ (List.mem_of_getElem? (i := 2) rfl)) (by decide) (by decide)) q132a q132c (g := (mkF m 141 #[.val (.int a1), .val (.int b1), .val (.int c1), .val (.int k1), .val (.int s1), .val (.int q1), .val (.int (1 : Int32)), .val (.int (0 : Int32)), .val (.ref b123), .val (.int (0 : Int32))] [(.int q1), (.ref b123)])) rfl (by rw [hml]; rfl) (Steps.refl _) (argsL := [(.int q1)]) (rest := []) (lenOf pd0_1 rfl) rfl (by show 2 * 0 + _ ≤ _; exact Nat.le_of_eq rfl) (hb hby at_141) (fun _ _ => ⟨rfl, rfl, (by decide : 2 + 0 ≤ _), (by decide : 18 + 0 ≤ _)⟩)
        dsimp only [Pt.U, Pt.locs, Pt.cells, Pt.slots] at X132 l132 y132 z132 st132 hQ132
        subst l132 y132 z132
        obtain ⟨rfl, N132q, eh132⟩ := hQ132
        have N132 := Fr.app N127 N132q
        refine Go.tr st132 ?_
        show Go _ _ _ _ _ _ _ (T132.setTop (mkF m 144 #[.val (.int a1), .val (.int b1), .val (.int c1), .val (.int k1), .val (.int s1), .val (.int q1), .val (.int (1 : Int32)), .val (.int (0 : Int32)), .val (.ref b123), .val (.int (0 : Int32))] [(.int (fD1 q1 a1))]))
        refine Go.by (fun _ kont => XS.iload X132.here hx rfl (hb hby at_144) rfl kont) ?_
        show Go _ _ _ _ _ _ _ (T132.setTop (mkF m 146 #[.val (.int a1), .val (.int b1), .val (.int c1), .val (.int k1), .val (.int s1), .val (.int q1), .val (.int (1 : Int32)), .val (.int (0 : Int32)), .val (.ref b123), .val (.int (0 : Int32))] [(.int (0 : Int32)), (.int (fD1 q1 a1))]))
        have hd133 : (fD1 q1 a1) = (0 : Int32) := by unfold fD1; rw [if_neg (fun z => hc129 z.symm)]
        refine Go.by (fun _ kont => XS.icmpNo X132.here hx rfl (hb hby at_146) rfl (teq hd133).2 kont) ?_
        show Go _ _ _ _ _ _ _ (T132.setTop (mkF m 149 #[.val (.int a1), .val (.int b1), .val (.int c1), .val (.int k1), .val (.int s1), .val (.int q1), .val (.int (1 : Int32)), .val (.int (0 : Int32)), .val (.ref b123), .val (.int (0 : Int32))] []))
        refine Go.by (fun _ kont => XS.iconst X132.here hx rfl (hb hby at_149) (XS.goto X132.here hx rfl (pc0 := 150) (pc' := 154) rfl (hb hby at_150) (by decide) (by decide) kont)) ?_
        show Go _ _ _ _ _ _ _ (T132.setTop (mkF m 154 #[.val (.int a1), .val (.int b1), .val (.int c1), .val (.int k1), .val (.int s1), .val (.int q1), .val (.int (1 : Int32)), .val (.int (0 : Int32)), .val (.ref b123), .val (.int (0 : Int32))] [(.int (1 : Int32))]))
        refine Go.retN X132 hx (t := .boolean) hret (by simp) hlk (hb hby at_154) ?_ (by decide) (by decide)
        show Q0 Z h0 n0 (some (.int (1 : Int32))) T132.heap _
        rw [eh132]
        exact ⟨rfl, N132⟩
    · refine Go.by (fun _ kont => XS.ifNo X0.here hx rfl (hb hby at_8) rfl ((if0 _ _).trans (feq hc122).1) kont) ?_
      show Go _ _ _ _ _ _ _ (s₁.setTop (mkF m 11 #[.val (.int a1), .val (.int b1), .val (.int c1), .val (.int k1), .val (.int s1), .val (.int q1), .val (.int (1 : Int32)), .unset, .unset, .unset] []))
      refine Go.by (fun _ kont => XS.iconst X0.here hx rfl (hb hby at_11) (XS.goto X0.here hx rfl (pc0 := 12) (pc' := 16) rfl (hb hby at_12) (by decide) (by decide) (XS.istore X0.here hx rfl (hb hby at_16) rfl (l' := #[.val (.int a1), .val (.int b1), .val (.int c1), .val (.int k1), .val (.int s1), .val (.int q1), .val (.int (1 : Int32)), .val (.int (1 : Int32)), .unset, .unset]) rfl kont))) ?_
      show Go _ _ _ _ _ _ _ (s₁.setTop (mkF m 18 #[.val (.int a1), .val (.int b1), .val (.int c1), .val (.int k1), .val (.int s1), .val (.int q1), .val (.int (1 : Int32)), .val (.int (1 : Int32)), .unset, .unset] []))
      obtain ⟨T134, h134, X134, e134, X_134, A134, D134, -, st134⟩ := newO X0 hx hZ hown (hw _ (List.mem_of_getElem? (i := 0) rfl)) (hw _ (List.mem_of_getElem? (i := 1) rfl)) (hw _ (List.mem_of_getElem? (i := 2) rfl)) e0 (g := (mkF m 18 #[.val (.int a1), .val (.int b1), .val (.int c1), .val (.int k1), .val (.int s1), .val (.int q1), .val (.int (1 : Int32)), .val (.int (1 : Int32)), .unset, .unset] [])) rfl (hb hby at_18) (by decide) (by decide)
      obtain ⟨b134, g134⟩ : ∃ z, z = h0.size := ⟨_, rfl⟩
      rw [← g134] at A134 D134 st134
      have ge_b134 : n0 ≤ b134 := Nat.le_trans Z0 (Nat.le_of_eq g134.symm)
      have sz_b134 : h0.size ≤ b134 := Nat.le_trans (Keep.refl h0 []).1 (Nat.le_of_eq g134.symm)
      have Z135 := Nat.le_trans Z0 X_134.1
      have K135 : Keep h0 h134 [] := (Keep.refl h0 []).ext X_134
      have F134_values : Fld Z h134 b134 "com/example/quorumsmith/quorumsmith/protocols/quorum/IntList" "values" "[I" .null := D134 (Or.inl (hw _ (List.mem_of_getElem? (i := 11) rfl))) (ty := (.array .int)) (by decide)
      have F134_size : Fld Z h134 b134 "com/example/quorumsmith/quorumsmith/protocols/quorum/IntList" "size" "I" (.int (0 : Int32)) := D134 (Or.inl (hw _ (List.mem_of_getElem? (i := 18) rfl))) (ty := .int) (by decide)
      refine Go.by st134 ?_
      show Go _ _ _ _ _ _ _ (T134.setTop (mkF m 21 #[.val (.int a1), .val (.int b1), .val (.int c1), .val (.int k1), .val (.int s1), .val (.int q1), .val (.int (1 : Int32)), .val (.int (1 : Int32)), .unset, .unset] [(.ref b134)]))
      refine Go.by (fun _ kont => XS.dup X134.here hx rfl (hb hby at_21) rfl rfl kont) ?_
      show Go _ _ _ _ _ _ _ (T134.setTop (mkF m 22 #[.val (.int a1), .val (.int b1), .val (.int c1), .val (.int k1), .val (.int s1), .val (.int q1), .val (.int (1 : Int32)), .val (.int (1 : Int32)), .unset, .unset] [(.ref b134), (.ref b134)]))
      obtain ⟨_, _, ⟨T136, L136, k136, n136⟩, -, X136, ⟨Lc136, hQ136, l136, y136, z136⟩, st136⟩ := X134.specialBack hx (y := (⟨"com/example/quorumsmith/quorumsmith/protocols/quorum/IntList", "<init>", "()V"⟩ : MethodName)) rfl hown (mvT hZ (hw _ (List.mem_of_getElem? (i := 3) rfl))) (mvT hZ (hw _ (List.mem_of_getElem? (i := 4) rfl))) (mvT hZ (hw _ (List.mem_of_getElem? (i := 5) rfl))) (by decide) (backOf (W := 1) (rmI l Z a0 hw [] b134 h134 n0 Z135 A134 F134_values F134_size ge_b134) hZ (hw _ (List.mem_of_getElem? (i := 5) rfl)) (hw _ (List.mem_of_getElem? (i := 2) rfl)) (by decide) (by decide)) (g := (mkF m 22 #[.val (.int a1), .val (.int b1), .val (.int c1), .val (.int k1), .val (.int s1), .val (.int q1), .val (.int (1 : Int32)), .val (.int (1 : Int32)), .unset, .unset] [(.ref b134), (.ref b134)])) rfl (by rw [hml]; rfl) (Steps.refl _) (a := b134) (argsL := []) (rest := [(.ref b134)]) (lenOf pd0_0 rfl) rfl (by show 2 * 0 + _ ≤ _; exact Nat.le_of_eq rfl) (hb hby at_22) (fun _ _ => ⟨rfl, e134, (by decide : 1 + 1 ≤ _), (by decide : 2 + 16 ≤ _)⟩)
      dsimp only [Pt.U, Pt.locs, Pt.cells, Pt.slots] at X136 l136 y136 z136 st136 hQ136
      subst l136 y136 z136
      obtain ⟨b102_136, k102_136, rfl, N136q, K136, g136_0, g136_1, g136_2, ge_b102_136, szc_b102_136, g136_3⟩ := hQ136
      have ne_b134_b102_136 : b134 ≠ b102_136 := Nat.ne_of_lt (Nat.lt_of_lt_of_le F134_values.lt szc_b102_136)
      have sz_b102_136 : h0.size ≤ b102_136 := Nat.le_trans K135.1 szc_b102_136
      have E137_b134 := A134.keep K136
      have Z137 := Nat.le_trans Z135 K136.1
      have K137 : Keep h0 T136.heap [] := Keep.trans K135 K136 (allS (Or.inr sz_b134) all0)
      have N136 := Fr.app N0 N136q
      refine Go.tr st136 ?_
      show Go _ _ _ _ _ _ _ (T136.setTop (mkF m 25 #[.val (.int a1), .val (.int b1), .val (.int c1), .val (.int k1), .val (.int s1), .val (.int q1), .val (.int (1 : Int32)), .val (.int (1 : Int32)), .unset, .unset] [(.ref b134)]))
      refine Go.by (fun _ kont => XS.astore X136.here hx rfl (hb hby at_25) rfl rfl (l' := #[.val (.int a1), .val (.int b1), .val (.int c1), .val (.int k1), .val (.int s1), .val (.int q1), .val (.int (1 : Int32)), .val (.int (1 : Int32)), .val (.ref b134), .unset]) rfl (XS.iload X136.here hx rfl (hb hby at_27) rfl kont)) ?_
      show Go _ _ _ _ _ _ _ (T136.setTop (mkF m 29 #[.val (.int a1), .val (.int b1), .val (.int c1), .val (.int k1), .val (.int s1), .val (.int q1), .val (.int (1 : Int32)), .val (.int (1 : Int32)), .val (.ref b134), .unset] [(.int (1 : Int32))]))
      refine Go.by (fun _ kont => XS.ifNo X136.here hx rfl (hb hby at_29) rfl (by decide) kont) ?_
      show Go _ _ _ _ _ _ _ (T136.setTop (mkF m 32 #[.val (.int a1), .val (.int b1), .val (.int c1), .val (.int k1), .val (.int s1), .val (.int q1), .val (.int (1 : Int32)), .val (.int (1 : Int32)), .val (.ref b134), .unset] []))
      refine Go.by (fun _ kont => XS.aload X136.here hx rfl (hb hby at_32) rfl rfl (XS.iload X136.here hx rfl (hb hby at_34) rfl kont)) ?_
      show Go _ _ _ _ _ _ _ (T136.setTop (mkF m 36 #[.val (.int a1), .val (.int b1), .val (.int c1), .val (.int k1), .val (.int s1), .val (.int q1), .val (.int (1 : Int32)), .val (.int (1 : Int32)), .val (.ref b134), .unset] [(.int s1), (.ref b134)]))
      obtain ⟨cq138, kq138, q138a, q138b, q138c⟩ := isOf hZ rfl g136_0
      obtain ⟨_, _, ⟨T138, L138, k138, n138⟩, -, X138, ⟨Lc138, hQ138, l138, y138, z138⟩, st138⟩ := X136.virtualBack hx (y := (⟨"com/example/quorumsmith/quorumsmith/protocols/quorum/IntList", "add", "(I)V"⟩ : MethodName)) (z := (⟨"com/example/quorumsmith/quorumsmith/protocols/quorum/IntList", "add", "(I)V"⟩ : MethodName)) hown (mvT hZ (hw _ (List.mem_of_getElem? (i := 12) rfl))) (mvT hZ (hw _ (List.mem_of_getElem? (i := 13) rfl))) (notFace_of_selects (args := #[]) (mvT hZ (hw _ (List.mem_of_getElem? (i := 15) rfl)))) (mvT hZ (hw _ (List.mem_of_getElem? (i := 15) rfl))) (mvT hZ (hw _ (List.mem_of_getElem? (i := 14) rfl))) (by decide) (backOf (W := 0) (rmA0 l Z a0 hw [] b134 s1 b102_136 k102_136 (0 : Int32) (0 : Int32) (0 : Int32) T136.heap n0 Z137 g136_0 g136_1 g136_2 g136_3 ne_b134_b102_136 ge_b134 ge_b102_136) hZ (hw _ (List.mem_of_getElem? (i := 16) rfl)) (hw _ (List.mem_of_getElem? (i := 2) rfl)) (by decide) (by decide)) q138a q138c (g := (mkF m 36 #[.val (.int a1), .val (.int b1), .val (.int c1), .val (.int k1), .val (.int s1), .val (.int q1), .val (.int (1 : Int32)), .val (.int (1 : Int32)), .val (.ref b134), .unset] [(.int s1), (.ref b134)])) rfl (by rw [hml]; rfl) (Steps.refl _) (argsL := [(.int s1)]) (rest := []) (lenOf pd0_2 rfl) rfl (by show 2 * 0 + _ ≤ _; exact Nat.le_of_eq rfl) (hb hby at_36) (fun _ _ => ⟨rfl, rfl, (by decide : 2 + 0 ≤ _), (by decide : 18 + 0 ≤ _)⟩)
      dsimp only [Pt.U, Pt.locs, Pt.cells, Pt.slots] at X138 l138 y138 z138 st138 hQ138
      subst l138 y138 z138
      obtain ⟨rfl, N138q, K138, g138_0, g138_1, g138_2, g138_3⟩ := hQ138
      have E139_b134 := g136_0.keep K138
      have Z139 := Nat.le_trans Z137 K138.1
      have K139 : Keep h0 T138.heap [] := Keep.trans K137 K138 (allS (Or.inr sz_b134) (allS (Or.inr sz_b102_136) all0))
      have N138 := Fr.app N136 N138q
      refine Go.tr st138 ?_
      show Go _ _ _ _ _ _ _ (T138.setTop (mkF m 39 #[.val (.int a1), .val (.int b1), .val (.int c1), .val (.int k1), .val (.int s1), .val (.int q1), .val (.int (1 : Int32)), .val (.int (1 : Int32)), .val (.ref b134), .unset] []))
      refine Go.by (fun _ kont => XS.aload X138.here hx rfl (hb hby at_39) rfl rfl (XS.iload X138.here hx rfl (hb hby at_41) rfl kont)) ?_
      show Go _ _ _ _ _ _ _ (T138.setTop (mkF m 43 #[.val (.int a1), .val (.int b1), .val (.int c1), .val (.int k1), .val (.int s1), .val (.int q1), .val (.int (1 : Int32)), .val (.int (1 : Int32)), .val (.ref b134), .unset] [(.int s1), (.ref b134)]))
      obtain ⟨cq140, kq140, q140a, q140b, q140c⟩ := isOf hZ rfl g138_0
      obtain ⟨_, _, ⟨T140, L140, k140, n140⟩, -, X140, ⟨Lc140, hQ140, l140, y140, z140⟩, st140⟩ := X138.virtualBack hx (y := (⟨"com/example/quorumsmith/quorumsmith/protocols/quorum/IntList", "add", "(I)V"⟩ : MethodName)) (z := (⟨"com/example/quorumsmith/quorumsmith/protocols/quorum/IntList", "add", "(I)V"⟩ : MethodName)) hown (mvT hZ (hw _ (List.mem_of_getElem? (i := 12) rfl))) (mvT hZ (hw _ (List.mem_of_getElem? (i := 13) rfl))) (notFace_of_selects (args := #[]) (mvT hZ (hw _ (List.mem_of_getElem? (i := 15) rfl)))) (mvT hZ (hw _ (List.mem_of_getElem? (i := 15) rfl))) (mvT hZ (hw _ (List.mem_of_getElem? (i := 14) rfl))) (by decide) (backOf (W := 0) (rmA1 l Z a0 hw [] b134 s1 b102_136 k102_136 s1 (0 : Int32) (0 : Int32) T138.heap n0 Z139 g138_0 g138_1 g138_2 g138_3 ne_b134_b102_136 ge_b134 ge_b102_136) hZ (hw _ (List.mem_of_getElem? (i := 16) rfl)) (hw _ (List.mem_of_getElem? (i := 2) rfl)) (by decide) (by decide)) q140a q140c (g := (mkF m 43 #[.val (.int a1), .val (.int b1), .val (.int c1), .val (.int k1), .val (.int s1), .val (.int q1), .val (.int (1 : Int32)), .val (.int (1 : Int32)), .val (.ref b134), .unset] [(.int s1), (.ref b134)])) rfl (by rw [hml]; rfl) (Steps.refl _) (argsL := [(.int s1)]) (rest := []) (lenOf pd0_2 rfl) rfl (by show 2 * 0 + _ ≤ _; exact Nat.le_of_eq rfl) (hb hby at_43) (fun _ _ => ⟨rfl, rfl, (by decide : 2 + 0 ≤ _), (by decide : 18 + 0 ≤ _)⟩)
      dsimp only [Pt.U, Pt.locs, Pt.cells, Pt.slots] at X140 l140 y140 z140 st140 hQ140
      subst l140 y140 z140
      obtain ⟨rfl, N140q, K140, g140_0, g140_1, g140_2, g140_3⟩ := hQ140
      have E141_b134 := g138_0.keep K140
      have Z141 := Nat.le_trans Z139 K140.1
      have K141 : Keep h0 T140.heap [] := Keep.trans K139 K140 (allS (Or.inr sz_b134) (allS (Or.inr sz_b102_136) all0))
      have N140 := Fr.app N138 N140q
      refine Go.tr st140 ?_
      show Go _ _ _ _ _ _ _ (T140.setTop (mkF m 46 #[.val (.int a1), .val (.int b1), .val (.int c1), .val (.int k1), .val (.int s1), .val (.int q1), .val (.int (1 : Int32)), .val (.int (1 : Int32)), .val (.ref b134), .unset] []))
      refine Go.by (fun _ kont => XS.aload X140.here hx rfl (hb hby at_46) rfl rfl (XS.iload X140.here hx rfl (hb hby at_48) rfl kont)) ?_
      show Go _ _ _ _ _ _ _ (T140.setTop (mkF m 50 #[.val (.int a1), .val (.int b1), .val (.int c1), .val (.int k1), .val (.int s1), .val (.int q1), .val (.int (1 : Int32)), .val (.int (1 : Int32)), .val (.ref b134), .unset] [(.int s1), (.ref b134)]))
      obtain ⟨cq142, kq142, q142a, q142b, q142c⟩ := isOf hZ rfl g140_0
      obtain ⟨_, _, ⟨T142, L142, k142, n142⟩, -, X142, ⟨Lc142, hQ142, l142, y142, z142⟩, st142⟩ := X140.virtualBack hx (y := (⟨"com/example/quorumsmith/quorumsmith/protocols/quorum/IntList", "add", "(I)V"⟩ : MethodName)) (z := (⟨"com/example/quorumsmith/quorumsmith/protocols/quorum/IntList", "add", "(I)V"⟩ : MethodName)) hown (mvT hZ (hw _ (List.mem_of_getElem? (i := 12) rfl))) (mvT hZ (hw _ (List.mem_of_getElem? (i := 13) rfl))) (notFace_of_selects (args := #[]) (mvT hZ (hw _ (List.mem_of_getElem? (i := 15) rfl)))) (mvT hZ (hw _ (List.mem_of_getElem? (i := 15) rfl))) (mvT hZ (hw _ (List.mem_of_getElem? (i := 14) rfl))) (by decide) (backOf (W := 0) (rmA2 l Z a0 hw [] b134 s1 b102_136 k102_136 s1 s1 (0 : Int32) T140.heap n0 Z141 g140_0 g140_1 g140_2 g140_3 ne_b134_b102_136 ge_b134 ge_b102_136) hZ (hw _ (List.mem_of_getElem? (i := 16) rfl)) (hw _ (List.mem_of_getElem? (i := 2) rfl)) (by decide) (by decide)) q142a q142c (g := (mkF m 50 #[.val (.int a1), .val (.int b1), .val (.int c1), .val (.int k1), .val (.int s1), .val (.int q1), .val (.int (1 : Int32)), .val (.int (1 : Int32)), .val (.ref b134), .unset] [(.int s1), (.ref b134)])) rfl (by rw [hml]; rfl) (Steps.refl _) (argsL := [(.int s1)]) (rest := []) (lenOf pd0_2 rfl) rfl (by show 2 * 0 + _ ≤ _; exact Nat.le_of_eq rfl) (hb hby at_50) (fun _ _ => ⟨rfl, rfl, (by decide : 2 + 0 ≤ _), (by decide : 18 + 0 ≤ _)⟩)
      dsimp only [Pt.U, Pt.locs, Pt.cells, Pt.slots] at X142 l142 y142 z142 st142 hQ142
      subst l142 y142 z142
      obtain ⟨rfl, N142q, K142, g142_0, g142_1, g142_2, g142_3⟩ := hQ142
      have E143_b134 := g140_0.keep K142
      have Z143 := Nat.le_trans Z141 K142.1
      have K143 : Keep h0 T142.heap [] := Keep.trans K141 K142 (allS (Or.inr sz_b134) (allS (Or.inr sz_b102_136) all0))
      have N142 := Fr.app N140 N142q
      refine Go.tr st142 ?_
      show Go _ _ _ _ _ _ _ (T142.setTop (mkF m 53 #[.val (.int a1), .val (.int b1), .val (.int c1), .val (.int k1), .val (.int s1), .val (.int q1), .val (.int (1 : Int32)), .val (.int (1 : Int32)), .val (.ref b134), .unset] []))
      refine Go.by (fun _ kont => XS.aload X142.here hx rfl (hb hby at_53) rfl rfl kont) ?_
      show Go _ _ _ _ _ _ _ (T142.setTop (mkF m 55 #[.val (.int a1), .val (.int b1), .val (.int c1), .val (.int k1), .val (.int s1), .val (.int q1), .val (.int (1 : Int32)), .val (.int (1 : Int32)), .val (.ref b134), .unset] [(.ref b134)]))
      obtain ⟨cq144, kq144, q144a, q144b, q144c⟩ := isOf hZ rfl g142_0
      obtain ⟨_, _, ⟨T144, L144, k144, n144⟩, -, X144, ⟨Lc144, hQ144, l144, y144, z144⟩, st144⟩ := X142.virtualBack hx (y := (⟨"com/example/quorumsmith/quorumsmith/protocols/quorum/IntList", "clear", "()V"⟩ : MethodName)) (z := (⟨"com/example/quorumsmith/quorumsmith/protocols/quorum/IntList", "clear", "()V"⟩ : MethodName)) hown (mvT hZ (hw _ (List.mem_of_getElem? (i := 24) rfl))) (mvT hZ (hw _ (List.mem_of_getElem? (i := 25) rfl))) (notFace_of_selects (args := #[]) (mvT hZ (hw _ (List.mem_of_getElem? (i := 27) rfl)))) (mvT hZ (hw _ (List.mem_of_getElem? (i := 27) rfl))) (mvT hZ (hw _ (List.mem_of_getElem? (i := 26) rfl))) (by decide) (backOf (W := 0) (rmC l Z a0 hw [] b134 b102_136 (3 : Int32) T142.heap n0 Z143 g142_0 g142_1 g142_2 ge_b134) hZ (hw _ (List.mem_of_getElem? (i := 28) rfl)) (hw _ (List.mem_of_getElem? (i := 2) rfl)) (by decide) (by decide)) q144a q144c (g := (mkF m 55 #[.val (.int a1), .val (.int b1), .val (.int c1), .val (.int k1), .val (.int s1), .val (.int q1), .val (.int (1 : Int32)), .val (.int (1 : Int32)), .val (.ref b134), .unset] [(.ref b134)])) rfl (by rw [hml]; rfl) (Steps.refl _) (argsL := []) (rest := []) (lenOf pd0_0 rfl) rfl (by show 2 * 0 + _ ≤ _; exact Nat.le_of_eq rfl) (hb hby at_55) (fun _ _ => ⟨rfl, rfl, (by decide : 2 + 0 ≤ _), (by decide : 18 + 0 ≤ _)⟩)
      dsimp only [Pt.U, Pt.locs, Pt.cells, Pt.slots] at X144 l144 y144 z144 st144 hQ144
      subst l144 y144 z144
      obtain ⟨rfl, N144q, K144, g144_0, g144_1, g144_2⟩ := hQ144
      have E145_b134 := g142_0.keep K144
      have V145_b102_136 := g142_3.keep K144 (ninS (Ne.symm ne_b134_b102_136) nin0)
      have Z145 := Nat.le_trans Z143 K144.1
      have K145 : Keep h0 T144.heap [] := Keep.trans K143 K144 (allS (Or.inr sz_b134) all0)
      have N144 := Fr.app N142 N144q
      refine Go.tr st144 ?_
      show Go _ _ _ _ _ _ _ (T144.setTop (mkF m 58 #[.val (.int a1), .val (.int b1), .val (.int c1), .val (.int k1), .val (.int s1), .val (.int q1), .val (.int (1 : Int32)), .val (.int (1 : Int32)), .val (.ref b134), .unset] []))
      refine Go.by (fun _ kont => XS.iload X144.here hx rfl (hb hby at_58) rfl (XS.iconst X144.here hx rfl (hb hby at_60) kont)) ?_
      show Go _ _ _ _ _ _ _ (T144.setTop (mkF m 61 #[.val (.int a1), .val (.int b1), .val (.int c1), .val (.int k1), .val (.int s1), .val (.int q1), .val (.int (1 : Int32)), .val (.int (1 : Int32)), .val (.ref b134), .unset] [(.int (1 : Int32)), (.int (1 : Int32))]))
      refine Go.by (fun _ kont => XS.icmpNo X144.here hx rfl (hb hby at_61) rfl (by decide) kont) ?_
      show Go _ _ _ _ _ _ _ (T144.setTop (mkF m 64 #[.val (.int a1), .val (.int b1), .val (.int c1), .val (.int k1), .val (.int s1), .val (.int q1), .val (.int (1 : Int32)), .val (.int (1 : Int32)), .val (.ref b134), .unset] []))
      refine Go.by (fun _ kont => XS.aload X144.here hx rfl (hb hby at_64) rfl rfl (XS.iloadN X144.here hx rfl (hb hby at_66) rfl kont)) ?_
      show Go _ _ _ _ _ _ _ (T144.setTop (mkF m 67 #[.val (.int a1), .val (.int b1), .val (.int c1), .val (.int k1), .val (.int s1), .val (.int q1), .val (.int (1 : Int32)), .val (.int (1 : Int32)), .val (.ref b134), .unset] [(.int a1), (.ref b134)]))
      obtain ⟨cq146, kq146, q146a, q146b, q146c⟩ := isOf hZ rfl g144_0
      obtain ⟨_, _, ⟨T146, L146, k146, n146⟩, -, X146, ⟨Lc146, hQ146, l146, y146, z146⟩, st146⟩ := X144.virtualBack hx (y := (⟨"com/example/quorumsmith/quorumsmith/protocols/quorum/IntList", "add", "(I)V"⟩ : MethodName)) (z := (⟨"com/example/quorumsmith/quorumsmith/protocols/quorum/IntList", "add", "(I)V"⟩ : MethodName)) hown (mvT hZ (hw _ (List.mem_of_getElem? (i := 12) rfl))) (mvT hZ (hw _ (List.mem_of_getElem? (i := 13) rfl))) (notFace_of_selects (args := #[]) (mvT hZ (hw _ (List.mem_of_getElem? (i := 15) rfl)))) (mvT hZ (hw _ (List.mem_of_getElem? (i := 15) rfl))) (mvT hZ (hw _ (List.mem_of_getElem? (i := 14) rfl))) (by decide) (backOf (W := 0) (rmA0 l Z a0 hw [] b134 a1 b102_136 k102_136 s1 s1 s1 T144.heap n0 Z145 g144_0 g144_1 g144_2 V145_b102_136 ne_b134_b102_136 ge_b134 ge_b102_136) hZ (hw _ (List.mem_of_getElem? (i := 16) rfl)) (hw _ (List.mem_of_getElem? (i := 2) rfl)) (by decide) (by decide)) q146a q146c (g := (mkF m 67 #[.val (.int a1), .val (.int b1), .val (.int c1), .val (.int k1), .val (.int s1), .val (.int q1), .val (.int (1 : Int32)), .val (.int (1 : Int32)), .val (.ref b134), .unset] [(.int a1), (.ref b134)])) rfl (by rw [hml]; rfl) (Steps.refl _) (argsL := [(.int a1)]) (rest := []) (lenOf pd0_2 rfl) rfl (by show 2 * 0 + _ ≤ _; exact Nat.le_of_eq rfl) (hb hby at_67) (fun _ _ => ⟨rfl, rfl, (by decide : 2 + 0 ≤ _), (by decide : 18 + 0 ≤ _)⟩)
      dsimp only [Pt.U, Pt.locs, Pt.cells, Pt.slots] at X146 l146 y146 z146 st146 hQ146
      subst l146 y146 z146
      obtain ⟨rfl, N146q, K146, g146_0, g146_1, g146_2, g146_3⟩ := hQ146
      have E147_b134 := g144_0.keep K146
      have Z147 := Nat.le_trans Z145 K146.1
      have K147 : Keep h0 T146.heap [] := Keep.trans K145 K146 (allS (Or.inr sz_b134) (allS (Or.inr sz_b102_136) all0))
      have N146 := Fr.app N144 N146q
      refine Go.tr st146 ?_
      show Go _ _ _ _ _ _ _ (T146.setTop (mkF m 70 #[.val (.int a1), .val (.int b1), .val (.int c1), .val (.int k1), .val (.int s1), .val (.int q1), .val (.int (1 : Int32)), .val (.int (1 : Int32)), .val (.ref b134), .unset] []))
      refine Go.by (fun _ kont => XS.iload X146.here hx rfl (hb hby at_70) rfl (XS.iconst X146.here hx rfl (hb hby at_72) kont)) ?_
      show Go _ _ _ _ _ _ _ (T146.setTop (mkF m 73 #[.val (.int a1), .val (.int b1), .val (.int c1), .val (.int k1), .val (.int s1), .val (.int q1), .val (.int (1 : Int32)), .val (.int (1 : Int32)), .val (.ref b134), .unset] [(.int (2 : Int32)), (.int (1 : Int32))]))
      refine Go.by (fun _ kont => XS.icmpYes X146.here hx rfl (pc0 := 73) (pc' := 82) rfl (hb hby at_73) rfl (by decide) (by decide) (by decide) kont) ?_
      show Go _ _ _ _ _ _ _ (T146.setTop (mkF m 82 #[.val (.int a1), .val (.int b1), .val (.int c1), .val (.int k1), .val (.int s1), .val (.int q1), .val (.int (1 : Int32)), .val (.int (1 : Int32)), .val (.ref b134), .unset] []))
      refine Go.by (fun _ kont => XS.iload X146.here hx rfl (hb hby at_82) rfl (XS.iconst X146.here hx rfl (hb hby at_84) kont)) ?_
      show Go _ _ _ _ _ _ _ (T146.setTop (mkF m 85 #[.val (.int a1), .val (.int b1), .val (.int c1), .val (.int k1), .val (.int s1), .val (.int q1), .val (.int (1 : Int32)), .val (.int (1 : Int32)), .val (.ref b134), .unset] [(.int (3 : Int32)), (.int (1 : Int32))]))
      refine Go.by (fun _ kont => XS.icmpYes X146.here hx rfl (pc0 := 85) (pc' := 94) rfl (hb hby at_85) rfl (by decide) (by decide) (by decide) kont) ?_
      show Go _ _ _ _ _ _ _ (T146.setTop (mkF m 94 #[.val (.int a1), .val (.int b1), .val (.int c1), .val (.int k1), .val (.int s1), .val (.int q1), .val (.int (1 : Int32)), .val (.int (1 : Int32)), .val (.ref b134), .unset] []))
      refine Go.by (fun _ kont => XS.iload X146.here hx rfl (hb hby at_94) rfl (XS.iconst X146.here hx rfl (hb hby at_96) kont)) ?_
      show Go _ _ _ _ _ _ _ (T146.setTop (mkF m 97 #[.val (.int a1), .val (.int b1), .val (.int c1), .val (.int k1), .val (.int s1), .val (.int q1), .val (.int (1 : Int32)), .val (.int (1 : Int32)), .val (.ref b134), .unset] [(.int (1 : Int32)), (.int (1 : Int32))]))
      refine Go.by (fun _ kont => XS.icmpNo X146.here hx rfl (hb hby at_97) rfl (by decide) kont) ?_
      show Go _ _ _ _ _ _ _ (T146.setTop (mkF m 100 #[.val (.int a1), .val (.int b1), .val (.int c1), .val (.int k1), .val (.int s1), .val (.int q1), .val (.int (1 : Int32)), .val (.int (1 : Int32)), .val (.ref b134), .unset] []))
      refine Go.by (fun _ kont => XS.iload X146.here hx rfl (hb hby at_100) rfl (XS.iloadN X146.here hx rfl (hb hby at_102) rfl kont)) ?_
      show Go _ _ _ _ _ _ _ (T146.setTop (mkF m 103 #[.val (.int a1), .val (.int b1), .val (.int c1), .val (.int k1), .val (.int s1), .val (.int q1), .val (.int (1 : Int32)), .val (.int (1 : Int32)), .val (.ref b134), .unset] [(.int a1), (.int q1)]))
      by_cases hc148 : q1 = a1
      · refine Go.by (fun _ kont => XS.icmpYes X146.here hx rfl (pc0 := 103) (pc' := 130) rfl (hb hby at_103) rfl (teq hc148).1 (by decide) (by decide) kont) ?_
        show Go _ _ _ _ _ _ _ (T146.setTop (mkF m 130 #[.val (.int a1), .val (.int b1), .val (.int c1), .val (.int k1), .val (.int s1), .val (.int q1), .val (.int (1 : Int32)), .val (.int (1 : Int32)), .val (.ref b134), .unset] []))
        refine Go.by (fun _ kont => XS.iconst X146.here hx rfl (hb hby at_130) (XS.goto X146.here hx rfl (pc0 := 131) (pc' := 135) rfl (hb hby at_131) (by decide) (by decide) (XS.istore X146.here hx rfl (hb hby at_135) rfl (l' := #[.val (.int a1), .val (.int b1), .val (.int c1), .val (.int k1), .val (.int s1), .val (.int q1), .val (.int (1 : Int32)), .val (.int (1 : Int32)), .val (.ref b134), .val (.int (1 : Int32))]) rfl (XS.aload X146.here hx rfl (hb hby at_137) rfl rfl (XS.iload X146.here hx rfl (hb hby at_139) rfl kont))))) ?_
        show Go _ _ _ _ _ _ _ (T146.setTop (mkF m 141 #[.val (.int a1), .val (.int b1), .val (.int c1), .val (.int k1), .val (.int s1), .val (.int q1), .val (.int (1 : Int32)), .val (.int (1 : Int32)), .val (.ref b134), .val (.int (1 : Int32))] [(.int q1), (.ref b134)]))
        obtain ⟨cq149, kq149, q149a, q149b, q149c⟩ := isOf hZ rfl g146_0
        obtain ⟨_, _, ⟨T149, L149, k149, n149⟩, -, X149, ⟨Lc149, hQ149, l149, y149, z149⟩, st149⟩ := X146.virtualBack hx (y := (⟨"com/example/quorumsmith/quorumsmith/protocols/quorum/IntList", "contains", "(I)Z"⟩ : MethodName)) (z := (⟨"com/example/quorumsmith/quorumsmith/protocols/quorum/IntList", "contains", "(I)Z"⟩ : MethodName)) hown (mvT hZ (hw _ (List.mem_of_getElem? (i := 19) rfl))) (mvT hZ (hw _ (List.mem_of_getElem? (i := 20) rfl))) (notFace_of_selects (args := #[]) (mvT hZ (hw _ (List.mem_of_getElem? (i := 22) rfl)))) (mvT hZ (hw _ (List.mem_of_getElem? (i := 22) rfl))) (mvT hZ (hw _ (List.mem_of_getElem? (i := 21) rfl))) (by decide) (backOf (W := 0) (rmD1 l Z a0 hw [] b134 q1 b102_136 k102_136 a1 s1 s1 T146.heap n0 Z147 g146_1 g146_2 g146_3) hZ (hw _ (List.mem_of_getElem? (i := 23) rfl)) (hw _ (List.mem_of_getElem? (i := 2) rfl)) (by decide) (by decide)) q149a q149c (g := (mkF m 141 #[.val (.int a1), .val (.int b1), .val (.int c1), .val (.int k1), .val (.int s1), .val (.int q1), .val (.int (1 : Int32)), .val (.int (1 : Int32)), .val (.ref b134), .val (.int (1 : Int32))] [(.int q1), (.ref b134)])) rfl (by rw [hml]; rfl) (Steps.refl _) (argsL := [(.int q1)]) (rest := []) (lenOf pd0_1 rfl) rfl (by show 2 * 0 + _ ≤ _; exact Nat.le_of_eq rfl) (hb hby at_141) (fun _ _ => ⟨rfl, rfl, (by decide : 2 + 0 ≤ _), (by decide : 18 + 0 ≤ _)⟩)
        dsimp only [Pt.U, Pt.locs, Pt.cells, Pt.slots] at X149 l149 y149 z149 st149 hQ149
        subst l149 y149 z149
        obtain ⟨rfl, N149q, eh149⟩ := hQ149
        have N149 := Fr.app N146 N149q
        refine Go.tr st149 ?_
        show Go _ _ _ _ _ _ _ (T149.setTop (mkF m 144 #[.val (.int a1), .val (.int b1), .val (.int c1), .val (.int k1), .val (.int s1), .val (.int q1), .val (.int (1 : Int32)), .val (.int (1 : Int32)), .val (.ref b134), .val (.int (1 : Int32))] [(.int (fD1 q1 a1))]))
        refine Go.by (fun _ kont => XS.iload X149.here hx rfl (hb hby at_144) rfl kont) ?_
        show Go _ _ _ _ _ _ _ (T149.setTop (mkF m 146 #[.val (.int a1), .val (.int b1), .val (.int c1), .val (.int k1), .val (.int s1), .val (.int q1), .val (.int (1 : Int32)), .val (.int (1 : Int32)), .val (.ref b134), .val (.int (1 : Int32))] [(.int (1 : Int32)), (.int (fD1 q1 a1))]))
        have hd150 : (fD1 q1 a1) = (1 : Int32) := by unfold fD1; rw [if_pos hc148.symm]
        refine Go.by (fun _ kont => XS.icmpNo X149.here hx rfl (hb hby at_146) rfl (teq hd150).2 kont) ?_
        show Go _ _ _ _ _ _ _ (T149.setTop (mkF m 149 #[.val (.int a1), .val (.int b1), .val (.int c1), .val (.int k1), .val (.int s1), .val (.int q1), .val (.int (1 : Int32)), .val (.int (1 : Int32)), .val (.ref b134), .val (.int (1 : Int32))] []))
        refine Go.by (fun _ kont => XS.iconst X149.here hx rfl (hb hby at_149) (XS.goto X149.here hx rfl (pc0 := 150) (pc' := 154) rfl (hb hby at_150) (by decide) (by decide) kont)) ?_
        show Go _ _ _ _ _ _ _ (T149.setTop (mkF m 154 #[.val (.int a1), .val (.int b1), .val (.int c1), .val (.int k1), .val (.int s1), .val (.int q1), .val (.int (1 : Int32)), .val (.int (1 : Int32)), .val (.ref b134), .val (.int (1 : Int32))] [(.int (1 : Int32))]))
        refine Go.retN X149 hx (t := .boolean) hret (by simp) hlk (hb hby at_154) ?_ (by decide) (by decide)
        show Q0 Z h0 n0 (some (.int (1 : Int32))) T149.heap _
        rw [eh149]
        exact ⟨rfl, N149⟩
      · refine Go.by (fun _ kont => XS.icmpNo X146.here hx rfl (hb hby at_103) rfl (feq hc148).1 kont) ?_
        show Go _ _ _ _ _ _ _ (T146.setTop (mkF m 106 #[.val (.int a1), .val (.int b1), .val (.int c1), .val (.int k1), .val (.int s1), .val (.int q1), .val (.int (1 : Int32)), .val (.int (1 : Int32)), .val (.ref b134), .unset] []))
        refine Go.by (fun _ kont => XS.iload X146.here hx rfl (hb hby at_106) rfl (XS.iconst X146.here hx rfl (hb hby at_108) kont)) ?_
        show Go _ _ _ _ _ _ _ (T146.setTop (mkF m 109 #[.val (.int a1), .val (.int b1), .val (.int c1), .val (.int k1), .val (.int s1), .val (.int q1), .val (.int (1 : Int32)), .val (.int (1 : Int32)), .val (.ref b134), .unset] [(.int (2 : Int32)), (.int (1 : Int32))]))
        refine Go.by (fun _ kont => XS.icmpYes X146.here hx rfl (pc0 := 109) (pc' := 118) rfl (hb hby at_109) rfl (by decide) (by decide) (by decide) kont) ?_
        show Go _ _ _ _ _ _ _ (T146.setTop (mkF m 118 #[.val (.int a1), .val (.int b1), .val (.int c1), .val (.int k1), .val (.int s1), .val (.int q1), .val (.int (1 : Int32)), .val (.int (1 : Int32)), .val (.ref b134), .unset] []))
        refine Go.by (fun _ kont => XS.iload X146.here hx rfl (hb hby at_118) rfl (XS.iconst X146.here hx rfl (hb hby at_120) kont)) ?_
        show Go _ _ _ _ _ _ _ (T146.setTop (mkF m 121 #[.val (.int a1), .val (.int b1), .val (.int c1), .val (.int k1), .val (.int s1), .val (.int q1), .val (.int (1 : Int32)), .val (.int (1 : Int32)), .val (.ref b134), .unset] [(.int (3 : Int32)), (.int (1 : Int32))]))
        refine Go.by (fun _ kont => XS.icmpYes X146.here hx rfl (pc0 := 121) (pc' := 134) rfl (hb hby at_121) rfl (by decide) (by decide) (by decide) kont) ?_
        show Go _ _ _ _ _ _ _ (T146.setTop (mkF m 134 #[.val (.int a1), .val (.int b1), .val (.int c1), .val (.int k1), .val (.int s1), .val (.int q1), .val (.int (1 : Int32)), .val (.int (1 : Int32)), .val (.ref b134), .unset] []))
        refine Go.by (fun _ kont => XS.iconst X146.here hx rfl (hb hby at_134) (XS.istore X146.here hx rfl (hb hby at_135) rfl (l' := #[.val (.int a1), .val (.int b1), .val (.int c1), .val (.int k1), .val (.int s1), .val (.int q1), .val (.int (1 : Int32)), .val (.int (1 : Int32)), .val (.ref b134), .val (.int (0 : Int32))]) rfl (XS.aload X146.here hx rfl (hb hby at_137) rfl rfl (XS.iload X146.here hx rfl (hb hby at_139) rfl kont)))) ?_
        show Go _ _ _ _ _ _ _ (T146.setTop (mkF m 141 #[.val (.int a1), .val (.int b1), .val (.int c1), .val (.int k1), .val (.int s1), .val (.int q1), .val (.int (1 : Int32)), .val (.int (1 : Int32)), .val (.ref b134), .val (.int (0 : Int32))] [(.int q1), (.ref b134)]))
        obtain ⟨cq151, kq151, q151a, q151b, q151c⟩ := isOf hZ rfl g146_0
        obtain ⟨_, _, ⟨T151, L151, k151, n151⟩, -, X151, ⟨Lc151, hQ151, l151, y151, z151⟩, st151⟩ := X146.virtualBack hx (y := (⟨"com/example/quorumsmith/quorumsmith/protocols/quorum/IntList", "contains", "(I)Z"⟩ : MethodName)) (z := (⟨"com/example/quorumsmith/quorumsmith/protocols/quorum/IntList", "contains", "(I)Z"⟩ : MethodName)) hown (mvT hZ (hw _ (List.mem_of_getElem? (i := 19) rfl))) (mvT hZ (hw _ (List.mem_of_getElem? (i := 20) rfl))) (notFace_of_selects (args := #[]) (mvT hZ (hw _ (List.mem_of_getElem? (i := 22) rfl)))) (mvT hZ (hw _ (List.mem_of_getElem? (i := 22) rfl))) (mvT hZ (hw _ (List.mem_of_getElem? (i := 21) rfl))) (by decide) (backOf (W := 0) (rmD1 l Z a0 hw [] b134 q1 b102_136 k102_136 a1 s1 s1 T146.heap n0 Z147 g146_1 g146_2 g146_3) hZ (hw _ (List.mem_of_getElem? (i := 23) rfl)) (hw _ (List.mem_of_getElem? (i := 2) rfl)) (by decide) (by decide)) q151a q151c (g := (mkF m 141 #[.val (.int a1), .val (.int b1), .val (.int c1), .val (.int k1), .val (.int s1), .val (.int q1), .val (.int (1 : Int32)), .val (.int (1 : Int32)), .val (.ref b134), .val (.int (0 : Int32))] [(.int q1), (.ref b134)])) rfl (by rw [hml]; rfl) (Steps.refl _) (argsL := [(.int q1)]) (rest := []) (lenOf pd0_1 rfl) rfl (by show 2 * 0 + _ ≤ _; exact Nat.le_of_eq rfl) (hb hby at_141) (fun _ _ => ⟨rfl, rfl, (by decide : 2 + 0 ≤ _), (by decide : 18 + 0 ≤ _)⟩)
        dsimp only [Pt.U, Pt.locs, Pt.cells, Pt.slots] at X151 l151 y151 z151 st151 hQ151
        subst l151 y151 z151
        obtain ⟨rfl, N151q, eh151⟩ := hQ151
        have N151 := Fr.app N146 N151q
        refine Go.tr st151 ?_
        show Go _ _ _ _ _ _ _ (T151.setTop (mkF m 144 #[.val (.int a1), .val (.int b1), .val (.int c1), .val (.int k1), .val (.int s1), .val (.int q1), .val (.int (1 : Int32)), .val (.int (1 : Int32)), .val (.ref b134), .val (.int (0 : Int32))] [(.int (fD1 q1 a1))]))
        refine Go.by (fun _ kont => XS.iload X151.here hx rfl (hb hby at_144) rfl kont) ?_
        show Go _ _ _ _ _ _ _ (T151.setTop (mkF m 146 #[.val (.int a1), .val (.int b1), .val (.int c1), .val (.int k1), .val (.int s1), .val (.int q1), .val (.int (1 : Int32)), .val (.int (1 : Int32)), .val (.ref b134), .val (.int (0 : Int32))] [(.int (0 : Int32)), (.int (fD1 q1 a1))]))
        have hd152 : (fD1 q1 a1) = (0 : Int32) := by unfold fD1; rw [if_neg (fun z => hc148 z.symm)]
        refine Go.by (fun _ kont => XS.icmpNo X151.here hx rfl (hb hby at_146) rfl (teq hd152).2 kont) ?_
        show Go _ _ _ _ _ _ _ (T151.setTop (mkF m 149 #[.val (.int a1), .val (.int b1), .val (.int c1), .val (.int k1), .val (.int s1), .val (.int q1), .val (.int (1 : Int32)), .val (.int (1 : Int32)), .val (.ref b134), .val (.int (0 : Int32))] []))
        refine Go.by (fun _ kont => XS.iconst X151.here hx rfl (hb hby at_149) (XS.goto X151.here hx rfl (pc0 := 150) (pc' := 154) rfl (hb hby at_150) (by decide) (by decide) kont)) ?_
        show Go _ _ _ _ _ _ _ (T151.setTop (mkF m 154 #[.val (.int a1), .val (.int b1), .val (.int c1), .val (.int k1), .val (.int s1), .val (.int q1), .val (.int (1 : Int32)), .val (.int (1 : Int32)), .val (.ref b134), .val (.int (0 : Int32))] [(.int (1 : Int32))]))
        refine Go.retN X151 hx (t := .boolean) hret (by simp) hlk (hb hby at_154) ?_ (by decide) (by decide)
        show Q0 Z h0 n0 (some (.int (1 : Int32))) T151.heap _
        rw [eh151]
        exact ⟨rfl, N151⟩
  · show Go _ _ _ _ _ _ _ (s₁.setTop (mkF m 5 #[.val (.int a1), .val (.int b1), .val (.int c1), .val (.int k1), .val (.int s1), .val (.int q1), .val (.int (2 : Int32)), .unset, .unset, .unset] []))
    refine Go.by (fun _ kont => XS.iloadN X0.here hx rfl (hb hby at_5) rfl (XS.iconst X0.here hx rfl (hb hby at_6) (XS.iand X0.here hx rfl (hb hby at_7) rfl kont))) ?_
    show Go _ _ _ _ _ _ _ (s₁.setTop (mkF m 8 #[.val (.int a1), .val (.int b1), .val (.int c1), .val (.int k1), .val (.int s1), .val (.int q1), .val (.int (2 : Int32)), .unset, .unset, .unset] [(.int (k1 &&& (4 : Int32)))]))
    by_cases hc153 : (k1 &&& (4 : Int32)) = (0 : Int32)
    · refine Go.by (fun _ kont => XS.ifYes X0.here hx rfl (pc0 := 8) (pc' := 15) rfl (hb hby at_8) rfl ((if0 _ _).trans (teq hc153).1) (by decide) (by decide) kont) ?_
      show Go _ _ _ _ _ _ _ (s₁.setTop (mkF m 15 #[.val (.int a1), .val (.int b1), .val (.int c1), .val (.int k1), .val (.int s1), .val (.int q1), .val (.int (2 : Int32)), .unset, .unset, .unset] []))
      refine Go.by (fun _ kont => XS.iconst X0.here hx rfl (hb hby at_15) (XS.istore X0.here hx rfl (hb hby at_16) rfl (l' := #[.val (.int a1), .val (.int b1), .val (.int c1), .val (.int k1), .val (.int s1), .val (.int q1), .val (.int (2 : Int32)), .val (.int (0 : Int32)), .unset, .unset]) rfl kont)) ?_
      show Go _ _ _ _ _ _ _ (s₁.setTop (mkF m 18 #[.val (.int a1), .val (.int b1), .val (.int c1), .val (.int k1), .val (.int s1), .val (.int q1), .val (.int (2 : Int32)), .val (.int (0 : Int32)), .unset, .unset] []))
      obtain ⟨T154, h154, X154, e154, X_154, A154, D154, -, st154⟩ := newO X0 hx hZ hown (hw _ (List.mem_of_getElem? (i := 0) rfl)) (hw _ (List.mem_of_getElem? (i := 1) rfl)) (hw _ (List.mem_of_getElem? (i := 2) rfl)) e0 (g := (mkF m 18 #[.val (.int a1), .val (.int b1), .val (.int c1), .val (.int k1), .val (.int s1), .val (.int q1), .val (.int (2 : Int32)), .val (.int (0 : Int32)), .unset, .unset] [])) rfl (hb hby at_18) (by decide) (by decide)
      obtain ⟨b154, g154⟩ : ∃ z, z = h0.size := ⟨_, rfl⟩
      rw [← g154] at A154 D154 st154
      have ge_b154 : n0 ≤ b154 := Nat.le_trans Z0 (Nat.le_of_eq g154.symm)
      have sz_b154 : h0.size ≤ b154 := Nat.le_trans (Keep.refl h0 []).1 (Nat.le_of_eq g154.symm)
      have Z155 := Nat.le_trans Z0 X_154.1
      have K155 : Keep h0 h154 [] := (Keep.refl h0 []).ext X_154
      have F154_values : Fld Z h154 b154 "com/example/quorumsmith/quorumsmith/protocols/quorum/IntList" "values" "[I" .null := D154 (Or.inl (hw _ (List.mem_of_getElem? (i := 11) rfl))) (ty := (.array .int)) (by decide)
      have F154_size : Fld Z h154 b154 "com/example/quorumsmith/quorumsmith/protocols/quorum/IntList" "size" "I" (.int (0 : Int32)) := D154 (Or.inl (hw _ (List.mem_of_getElem? (i := 18) rfl))) (ty := .int) (by decide)
      refine Go.by st154 ?_
      show Go _ _ _ _ _ _ _ (T154.setTop (mkF m 21 #[.val (.int a1), .val (.int b1), .val (.int c1), .val (.int k1), .val (.int s1), .val (.int q1), .val (.int (2 : Int32)), .val (.int (0 : Int32)), .unset, .unset] [(.ref b154)]))
      refine Go.by (fun _ kont => XS.dup X154.here hx rfl (hb hby at_21) rfl rfl kont) ?_
      show Go _ _ _ _ _ _ _ (T154.setTop (mkF m 22 #[.val (.int a1), .val (.int b1), .val (.int c1), .val (.int k1), .val (.int s1), .val (.int q1), .val (.int (2 : Int32)), .val (.int (0 : Int32)), .unset, .unset] [(.ref b154), (.ref b154)]))
      obtain ⟨_, _, ⟨T156, L156, k156, n156⟩, -, X156, ⟨Lc156, hQ156, l156, y156, z156⟩, st156⟩ := X154.specialBack hx (y := (⟨"com/example/quorumsmith/quorumsmith/protocols/quorum/IntList", "<init>", "()V"⟩ : MethodName)) rfl hown (mvT hZ (hw _ (List.mem_of_getElem? (i := 3) rfl))) (mvT hZ (hw _ (List.mem_of_getElem? (i := 4) rfl))) (mvT hZ (hw _ (List.mem_of_getElem? (i := 5) rfl))) (by decide) (backOf (W := 1) (rmI l Z a0 hw [] b154 h154 n0 Z155 A154 F154_values F154_size ge_b154) hZ (hw _ (List.mem_of_getElem? (i := 5) rfl)) (hw _ (List.mem_of_getElem? (i := 2) rfl)) (by decide) (by decide)) (g := (mkF m 22 #[.val (.int a1), .val (.int b1), .val (.int c1), .val (.int k1), .val (.int s1), .val (.int q1), .val (.int (2 : Int32)), .val (.int (0 : Int32)), .unset, .unset] [(.ref b154), (.ref b154)])) rfl (by rw [hml]; rfl) (Steps.refl _) (a := b154) (argsL := []) (rest := [(.ref b154)]) (lenOf pd0_0 rfl) rfl (by show 2 * 0 + _ ≤ _; exact Nat.le_of_eq rfl) (hb hby at_22) (fun _ _ => ⟨rfl, e154, (by decide : 1 + 1 ≤ _), (by decide : 2 + 16 ≤ _)⟩)
      dsimp only [Pt.U, Pt.locs, Pt.cells, Pt.slots] at X156 l156 y156 z156 st156 hQ156
      subst l156 y156 z156
      obtain ⟨b102_156, k102_156, rfl, N156q, K156, g156_0, g156_1, g156_2, ge_b102_156, szc_b102_156, g156_3⟩ := hQ156
      have ne_b154_b102_156 : b154 ≠ b102_156 := Nat.ne_of_lt (Nat.lt_of_lt_of_le F154_values.lt szc_b102_156)
      have sz_b102_156 : h0.size ≤ b102_156 := Nat.le_trans K155.1 szc_b102_156
      have E157_b154 := A154.keep K156
      have Z157 := Nat.le_trans Z155 K156.1
      have K157 : Keep h0 T156.heap [] := Keep.trans K155 K156 (allS (Or.inr sz_b154) all0)
      have N156 := Fr.app N0 N156q
      refine Go.tr st156 ?_
      show Go _ _ _ _ _ _ _ (T156.setTop (mkF m 25 #[.val (.int a1), .val (.int b1), .val (.int c1), .val (.int k1), .val (.int s1), .val (.int q1), .val (.int (2 : Int32)), .val (.int (0 : Int32)), .unset, .unset] [(.ref b154)]))
      refine Go.by (fun _ kont => XS.astore X156.here hx rfl (hb hby at_25) rfl rfl (l' := #[.val (.int a1), .val (.int b1), .val (.int c1), .val (.int k1), .val (.int s1), .val (.int q1), .val (.int (2 : Int32)), .val (.int (0 : Int32)), .val (.ref b154), .unset]) rfl (XS.iload X156.here hx rfl (hb hby at_27) rfl kont)) ?_
      show Go _ _ _ _ _ _ _ (T156.setTop (mkF m 29 #[.val (.int a1), .val (.int b1), .val (.int c1), .val (.int k1), .val (.int s1), .val (.int q1), .val (.int (2 : Int32)), .val (.int (0 : Int32)), .val (.ref b154), .unset] [(.int (0 : Int32))]))
      refine Go.by (fun _ kont => XS.ifYes X156.here hx rfl (pc0 := 29) (pc' := 58) rfl (hb hby at_29) rfl (by decide) (by decide) (by decide) kont) ?_
      show Go _ _ _ _ _ _ _ (T156.setTop (mkF m 58 #[.val (.int a1), .val (.int b1), .val (.int c1), .val (.int k1), .val (.int s1), .val (.int q1), .val (.int (2 : Int32)), .val (.int (0 : Int32)), .val (.ref b154), .unset] []))
      refine Go.by (fun _ kont => XS.iload X156.here hx rfl (hb hby at_58) rfl (XS.iconst X156.here hx rfl (hb hby at_60) kont)) ?_
      show Go _ _ _ _ _ _ _ (T156.setTop (mkF m 61 #[.val (.int a1), .val (.int b1), .val (.int c1), .val (.int k1), .val (.int s1), .val (.int q1), .val (.int (2 : Int32)), .val (.int (0 : Int32)), .val (.ref b154), .unset] [(.int (1 : Int32)), (.int (2 : Int32))]))
      refine Go.by (fun _ kont => XS.icmpNo X156.here hx rfl (hb hby at_61) rfl (by decide) kont) ?_
      show Go _ _ _ _ _ _ _ (T156.setTop (mkF m 64 #[.val (.int a1), .val (.int b1), .val (.int c1), .val (.int k1), .val (.int s1), .val (.int q1), .val (.int (2 : Int32)), .val (.int (0 : Int32)), .val (.ref b154), .unset] []))
      refine Go.by (fun _ kont => XS.aload X156.here hx rfl (hb hby at_64) rfl rfl (XS.iloadN X156.here hx rfl (hb hby at_66) rfl kont)) ?_
      show Go _ _ _ _ _ _ _ (T156.setTop (mkF m 67 #[.val (.int a1), .val (.int b1), .val (.int c1), .val (.int k1), .val (.int s1), .val (.int q1), .val (.int (2 : Int32)), .val (.int (0 : Int32)), .val (.ref b154), .unset] [(.int a1), (.ref b154)]))
      obtain ⟨cq158, kq158, q158a, q158b, q158c⟩ := isOf hZ rfl g156_0
      obtain ⟨_, _, ⟨T158, L158, k158, n158⟩, -, X158, ⟨Lc158, hQ158, l158, y158, z158⟩, st158⟩ := X156.virtualBack hx (y := (⟨"com/example/quorumsmith/quorumsmith/protocols/quorum/IntList", "add", "(I)V"⟩ : MethodName)) (z := (⟨"com/example/quorumsmith/quorumsmith/protocols/quorum/IntList", "add", "(I)V"⟩ : MethodName)) hown (mvT hZ (hw _ (List.mem_of_getElem? (i := 12) rfl))) (mvT hZ (hw _ (List.mem_of_getElem? (i := 13) rfl))) (notFace_of_selects (args := #[]) (mvT hZ (hw _ (List.mem_of_getElem? (i := 15) rfl)))) (mvT hZ (hw _ (List.mem_of_getElem? (i := 15) rfl))) (mvT hZ (hw _ (List.mem_of_getElem? (i := 14) rfl))) (by decide) (backOf (W := 0) (rmA0 l Z a0 hw [] b154 a1 b102_156 k102_156 (0 : Int32) (0 : Int32) (0 : Int32) T156.heap n0 Z157 g156_0 g156_1 g156_2 g156_3 ne_b154_b102_156 ge_b154 ge_b102_156) hZ (hw _ (List.mem_of_getElem? (i := 16) rfl)) (hw _ (List.mem_of_getElem? (i := 2) rfl)) (by decide) (by decide)) q158a q158c (g := (mkF m 67 #[.val (.int a1), .val (.int b1), .val (.int c1), .val (.int k1), .val (.int s1), .val (.int q1), .val (.int (2 : Int32)), .val (.int (0 : Int32)), .val (.ref b154), .unset] [(.int a1), (.ref b154)])) rfl (by rw [hml]; rfl) (Steps.refl _) (argsL := [(.int a1)]) (rest := []) (lenOf pd0_2 rfl) rfl (by show 2 * 0 + _ ≤ _; exact Nat.le_of_eq rfl) (hb hby at_67) (fun _ _ => ⟨rfl, rfl, (by decide : 2 + 0 ≤ _), (by decide : 18 + 0 ≤ _)⟩)
      dsimp only [Pt.U, Pt.locs, Pt.cells, Pt.slots] at X158 l158 y158 z158 st158 hQ158
      subst l158 y158 z158
      obtain ⟨rfl, N158q, K158, g158_0, g158_1, g158_2, g158_3⟩ := hQ158
      have E159_b154 := g156_0.keep K158
      have Z159 := Nat.le_trans Z157 K158.1
      have K159 : Keep h0 T158.heap [] := Keep.trans K157 K158 (allS (Or.inr sz_b154) (allS (Or.inr sz_b102_156) all0))
      have N158 := Fr.app N156 N158q
      refine Go.tr st158 ?_
      show Go _ _ _ _ _ _ _ (T158.setTop (mkF m 70 #[.val (.int a1), .val (.int b1), .val (.int c1), .val (.int k1), .val (.int s1), .val (.int q1), .val (.int (2 : Int32)), .val (.int (0 : Int32)), .val (.ref b154), .unset] []))
      refine Go.by (fun _ kont => XS.iload X158.here hx rfl (hb hby at_70) rfl (XS.iconst X158.here hx rfl (hb hby at_72) kont)) ?_
      show Go _ _ _ _ _ _ _ (T158.setTop (mkF m 73 #[.val (.int a1), .val (.int b1), .val (.int c1), .val (.int k1), .val (.int s1), .val (.int q1), .val (.int (2 : Int32)), .val (.int (0 : Int32)), .val (.ref b154), .unset] [(.int (2 : Int32)), (.int (2 : Int32))]))
      refine Go.by (fun _ kont => XS.icmpNo X158.here hx rfl (hb hby at_73) rfl (by decide) kont) ?_
      show Go _ _ _ _ _ _ _ (T158.setTop (mkF m 76 #[.val (.int a1), .val (.int b1), .val (.int c1), .val (.int k1), .val (.int s1), .val (.int q1), .val (.int (2 : Int32)), .val (.int (0 : Int32)), .val (.ref b154), .unset] []))
      refine Go.by (fun _ kont => XS.aload X158.here hx rfl (hb hby at_76) rfl rfl (XS.iloadN X158.here hx rfl (hb hby at_78) rfl kont)) ?_
      show Go _ _ _ _ _ _ _ (T158.setTop (mkF m 79 #[.val (.int a1), .val (.int b1), .val (.int c1), .val (.int k1), .val (.int s1), .val (.int q1), .val (.int (2 : Int32)), .val (.int (0 : Int32)), .val (.ref b154), .unset] [(.int b1), (.ref b154)]))
      obtain ⟨cq160, kq160, q160a, q160b, q160c⟩ := isOf hZ rfl g158_0
      obtain ⟨_, _, ⟨T160, L160, k160, n160⟩, -, X160, ⟨Lc160, hQ160, l160, y160, z160⟩, st160⟩ := X158.virtualBack hx (y := (⟨"com/example/quorumsmith/quorumsmith/protocols/quorum/IntList", "add", "(I)V"⟩ : MethodName)) (z := (⟨"com/example/quorumsmith/quorumsmith/protocols/quorum/IntList", "add", "(I)V"⟩ : MethodName)) hown (mvT hZ (hw _ (List.mem_of_getElem? (i := 12) rfl))) (mvT hZ (hw _ (List.mem_of_getElem? (i := 13) rfl))) (notFace_of_selects (args := #[]) (mvT hZ (hw _ (List.mem_of_getElem? (i := 15) rfl)))) (mvT hZ (hw _ (List.mem_of_getElem? (i := 15) rfl))) (mvT hZ (hw _ (List.mem_of_getElem? (i := 14) rfl))) (by decide) (backOf (W := 0) (rmA1 l Z a0 hw [] b154 b1 b102_156 k102_156 a1 (0 : Int32) (0 : Int32) T158.heap n0 Z159 g158_0 g158_1 g158_2 g158_3 ne_b154_b102_156 ge_b154 ge_b102_156) hZ (hw _ (List.mem_of_getElem? (i := 16) rfl)) (hw _ (List.mem_of_getElem? (i := 2) rfl)) (by decide) (by decide)) q160a q160c (g := (mkF m 79 #[.val (.int a1), .val (.int b1), .val (.int c1), .val (.int k1), .val (.int s1), .val (.int q1), .val (.int (2 : Int32)), .val (.int (0 : Int32)), .val (.ref b154), .unset] [(.int b1), (.ref b154)])) rfl (by rw [hml]; rfl) (Steps.refl _) (argsL := [(.int b1)]) (rest := []) (lenOf pd0_2 rfl) rfl (by show 2 * 0 + _ ≤ _; exact Nat.le_of_eq rfl) (hb hby at_79) (fun _ _ => ⟨rfl, rfl, (by decide : 2 + 0 ≤ _), (by decide : 18 + 0 ≤ _)⟩)
      dsimp only [Pt.U, Pt.locs, Pt.cells, Pt.slots] at X160 l160 y160 z160 st160 hQ160
      subst l160 y160 z160
      obtain ⟨rfl, N160q, K160, g160_0, g160_1, g160_2, g160_3⟩ := hQ160
      have E161_b154 := g158_0.keep K160
      have Z161 := Nat.le_trans Z159 K160.1
      have K161 : Keep h0 T160.heap [] := Keep.trans K159 K160 (allS (Or.inr sz_b154) (allS (Or.inr sz_b102_156) all0))
      have N160 := Fr.app N158 N160q
      refine Go.tr st160 ?_
      show Go _ _ _ _ _ _ _ (T160.setTop (mkF m 82 #[.val (.int a1), .val (.int b1), .val (.int c1), .val (.int k1), .val (.int s1), .val (.int q1), .val (.int (2 : Int32)), .val (.int (0 : Int32)), .val (.ref b154), .unset] []))
      refine Go.by (fun _ kont => XS.iload X160.here hx rfl (hb hby at_82) rfl (XS.iconst X160.here hx rfl (hb hby at_84) kont)) ?_
      show Go _ _ _ _ _ _ _ (T160.setTop (mkF m 85 #[.val (.int a1), .val (.int b1), .val (.int c1), .val (.int k1), .val (.int s1), .val (.int q1), .val (.int (2 : Int32)), .val (.int (0 : Int32)), .val (.ref b154), .unset] [(.int (3 : Int32)), (.int (2 : Int32))]))
      refine Go.by (fun _ kont => XS.icmpYes X160.here hx rfl (pc0 := 85) (pc' := 94) rfl (hb hby at_85) rfl (by decide) (by decide) (by decide) kont) ?_
      show Go _ _ _ _ _ _ _ (T160.setTop (mkF m 94 #[.val (.int a1), .val (.int b1), .val (.int c1), .val (.int k1), .val (.int s1), .val (.int q1), .val (.int (2 : Int32)), .val (.int (0 : Int32)), .val (.ref b154), .unset] []))
      refine Go.by (fun _ kont => XS.iload X160.here hx rfl (hb hby at_94) rfl (XS.iconst X160.here hx rfl (hb hby at_96) kont)) ?_
      show Go _ _ _ _ _ _ _ (T160.setTop (mkF m 97 #[.val (.int a1), .val (.int b1), .val (.int c1), .val (.int k1), .val (.int s1), .val (.int q1), .val (.int (2 : Int32)), .val (.int (0 : Int32)), .val (.ref b154), .unset] [(.int (1 : Int32)), (.int (2 : Int32))]))
      refine Go.by (fun _ kont => XS.icmpNo X160.here hx rfl (hb hby at_97) rfl (by decide) kont) ?_
      show Go _ _ _ _ _ _ _ (T160.setTop (mkF m 100 #[.val (.int a1), .val (.int b1), .val (.int c1), .val (.int k1), .val (.int s1), .val (.int q1), .val (.int (2 : Int32)), .val (.int (0 : Int32)), .val (.ref b154), .unset] []))
      refine Go.by (fun _ kont => XS.iload X160.here hx rfl (hb hby at_100) rfl (XS.iloadN X160.here hx rfl (hb hby at_102) rfl kont)) ?_
      show Go _ _ _ _ _ _ _ (T160.setTop (mkF m 103 #[.val (.int a1), .val (.int b1), .val (.int c1), .val (.int k1), .val (.int s1), .val (.int q1), .val (.int (2 : Int32)), .val (.int (0 : Int32)), .val (.ref b154), .unset] [(.int a1), (.int q1)]))
      by_cases hc162 : q1 = a1
      · refine Go.by (fun _ kont => XS.icmpYes X160.here hx rfl (pc0 := 103) (pc' := 130) rfl (hb hby at_103) rfl (teq hc162).1 (by decide) (by decide) kont) ?_
        show Go _ _ _ _ _ _ _ (T160.setTop (mkF m 130 #[.val (.int a1), .val (.int b1), .val (.int c1), .val (.int k1), .val (.int s1), .val (.int q1), .val (.int (2 : Int32)), .val (.int (0 : Int32)), .val (.ref b154), .unset] []))
        refine Go.by (fun _ kont => XS.iconst X160.here hx rfl (hb hby at_130) (XS.goto X160.here hx rfl (pc0 := 131) (pc' := 135) rfl (hb hby at_131) (by decide) (by decide) (XS.istore X160.here hx rfl (hb hby at_135) rfl (l' := #[.val (.int a1), .val (.int b1), .val (.int c1), .val (.int k1), .val (.int s1), .val (.int q1), .val (.int (2 : Int32)), .val (.int (0 : Int32)), .val (.ref b154), .val (.int (1 : Int32))]) rfl (XS.aload X160.here hx rfl (hb hby at_137) rfl rfl (XS.iload X160.here hx rfl (hb hby at_139) rfl kont))))) ?_
        show Go _ _ _ _ _ _ _ (T160.setTop (mkF m 141 #[.val (.int a1), .val (.int b1), .val (.int c1), .val (.int k1), .val (.int s1), .val (.int q1), .val (.int (2 : Int32)), .val (.int (0 : Int32)), .val (.ref b154), .val (.int (1 : Int32))] [(.int q1), (.ref b154)]))
        obtain ⟨cq163, kq163, q163a, q163b, q163c⟩ := isOf hZ rfl g160_0
        obtain ⟨_, _, ⟨T163, L163, k163, n163⟩, -, X163, ⟨Lc163, hQ163, l163, y163, z163⟩, st163⟩ := X160.virtualBack hx (y := (⟨"com/example/quorumsmith/quorumsmith/protocols/quorum/IntList", "contains", "(I)Z"⟩ : MethodName)) (z := (⟨"com/example/quorumsmith/quorumsmith/protocols/quorum/IntList", "contains", "(I)Z"⟩ : MethodName)) hown (mvT hZ (hw _ (List.mem_of_getElem? (i := 19) rfl))) (mvT hZ (hw _ (List.mem_of_getElem? (i := 20) rfl))) (notFace_of_selects (args := #[]) (mvT hZ (hw _ (List.mem_of_getElem? (i := 22) rfl)))) (mvT hZ (hw _ (List.mem_of_getElem? (i := 22) rfl))) (mvT hZ (hw _ (List.mem_of_getElem? (i := 21) rfl))) (by decide) (backOf (W := 0) (rmD2 l Z a0 hw [] b154 q1 b102_156 k102_156 a1 b1 (0 : Int32) T160.heap n0 Z161 g160_1 g160_2 g160_3) hZ (hw _ (List.mem_of_getElem? (i := 23) rfl)) (hw _ (List.mem_of_getElem? (i := 2) rfl)) (by decide) (by decide)) q163a q163c (g := (mkF m 141 #[.val (.int a1), .val (.int b1), .val (.int c1), .val (.int k1), .val (.int s1), .val (.int q1), .val (.int (2 : Int32)), .val (.int (0 : Int32)), .val (.ref b154), .val (.int (1 : Int32))] [(.int q1), (.ref b154)])) rfl (by rw [hml]; rfl) (Steps.refl _) (argsL := [(.int q1)]) (rest := []) (lenOf pd0_1 rfl) rfl (by show 2 * 0 + _ ≤ _; exact Nat.le_of_eq rfl) (hb hby at_141) (fun _ _ => ⟨rfl, rfl, (by decide : 2 + 0 ≤ _), (by decide : 18 + 0 ≤ _)⟩)
        dsimp only [Pt.U, Pt.locs, Pt.cells, Pt.slots] at X163 l163 y163 z163 st163 hQ163
        subst l163 y163 z163
        obtain ⟨rfl, N163q, eh163⟩ := hQ163
        have N163 := Fr.app N160 N163q
        refine Go.tr st163 ?_
        show Go _ _ _ _ _ _ _ (T163.setTop (mkF m 144 #[.val (.int a1), .val (.int b1), .val (.int c1), .val (.int k1), .val (.int s1), .val (.int q1), .val (.int (2 : Int32)), .val (.int (0 : Int32)), .val (.ref b154), .val (.int (1 : Int32))] [(.int (fD2 q1 a1 b1))]))
        refine Go.by (fun _ kont => XS.iload X163.here hx rfl (hb hby at_144) rfl kont) ?_
        show Go _ _ _ _ _ _ _ (T163.setTop (mkF m 146 #[.val (.int a1), .val (.int b1), .val (.int c1), .val (.int k1), .val (.int s1), .val (.int q1), .val (.int (2 : Int32)), .val (.int (0 : Int32)), .val (.ref b154), .val (.int (1 : Int32))] [(.int (1 : Int32)), (.int (fD2 q1 a1 b1))]))
        have hd164 : (fD2 q1 a1 b1) = (1 : Int32) := by unfold fD2; rw [if_pos hc162.symm]
        refine Go.by (fun _ kont => XS.icmpNo X163.here hx rfl (hb hby at_146) rfl (teq hd164).2 kont) ?_
        show Go _ _ _ _ _ _ _ (T163.setTop (mkF m 149 #[.val (.int a1), .val (.int b1), .val (.int c1), .val (.int k1), .val (.int s1), .val (.int q1), .val (.int (2 : Int32)), .val (.int (0 : Int32)), .val (.ref b154), .val (.int (1 : Int32))] []))
        refine Go.by (fun _ kont => XS.iconst X163.here hx rfl (hb hby at_149) (XS.goto X163.here hx rfl (pc0 := 150) (pc' := 154) rfl (hb hby at_150) (by decide) (by decide) kont)) ?_
        show Go _ _ _ _ _ _ _ (T163.setTop (mkF m 154 #[.val (.int a1), .val (.int b1), .val (.int c1), .val (.int k1), .val (.int s1), .val (.int q1), .val (.int (2 : Int32)), .val (.int (0 : Int32)), .val (.ref b154), .val (.int (1 : Int32))] [(.int (1 : Int32))]))
        refine Go.retN X163 hx (t := .boolean) hret (by simp) hlk (hb hby at_154) ?_ (by decide) (by decide)
        show Q0 Z h0 n0 (some (.int (1 : Int32))) T163.heap _
        rw [eh163]
        exact ⟨rfl, N163⟩
      · refine Go.by (fun _ kont => XS.icmpNo X160.here hx rfl (hb hby at_103) rfl (feq hc162).1 kont) ?_
        show Go _ _ _ _ _ _ _ (T160.setTop (mkF m 106 #[.val (.int a1), .val (.int b1), .val (.int c1), .val (.int k1), .val (.int s1), .val (.int q1), .val (.int (2 : Int32)), .val (.int (0 : Int32)), .val (.ref b154), .unset] []))
        refine Go.by (fun _ kont => XS.iload X160.here hx rfl (hb hby at_106) rfl (XS.iconst X160.here hx rfl (hb hby at_108) kont)) ?_
        show Go _ _ _ _ _ _ _ (T160.setTop (mkF m 109 #[.val (.int a1), .val (.int b1), .val (.int c1), .val (.int k1), .val (.int s1), .val (.int q1), .val (.int (2 : Int32)), .val (.int (0 : Int32)), .val (.ref b154), .unset] [(.int (2 : Int32)), (.int (2 : Int32))]))
        refine Go.by (fun _ kont => XS.icmpNo X160.here hx rfl (hb hby at_109) rfl (by decide) kont) ?_
        show Go _ _ _ _ _ _ _ (T160.setTop (mkF m 112 #[.val (.int a1), .val (.int b1), .val (.int c1), .val (.int k1), .val (.int s1), .val (.int q1), .val (.int (2 : Int32)), .val (.int (0 : Int32)), .val (.ref b154), .unset] []))
        refine Go.by (fun _ kont => XS.iload X160.here hx rfl (hb hby at_112) rfl (XS.iloadN X160.here hx rfl (hb hby at_114) rfl kont)) ?_
        show Go _ _ _ _ _ _ _ (T160.setTop (mkF m 115 #[.val (.int a1), .val (.int b1), .val (.int c1), .val (.int k1), .val (.int s1), .val (.int q1), .val (.int (2 : Int32)), .val (.int (0 : Int32)), .val (.ref b154), .unset] [(.int b1), (.int q1)]))
        by_cases hc165 : q1 = b1
        · refine Go.by (fun _ kont => XS.icmpYes X160.here hx rfl (pc0 := 115) (pc' := 130) rfl (hb hby at_115) rfl (teq hc165).1 (by decide) (by decide) kont) ?_
          show Go _ _ _ _ _ _ _ (T160.setTop (mkF m 130 #[.val (.int a1), .val (.int b1), .val (.int c1), .val (.int k1), .val (.int s1), .val (.int q1), .val (.int (2 : Int32)), .val (.int (0 : Int32)), .val (.ref b154), .unset] []))
          refine Go.by (fun _ kont => XS.iconst X160.here hx rfl (hb hby at_130) (XS.goto X160.here hx rfl (pc0 := 131) (pc' := 135) rfl (hb hby at_131) (by decide) (by decide) (XS.istore X160.here hx rfl (hb hby at_135) rfl (l' := #[.val (.int a1), .val (.int b1), .val (.int c1), .val (.int k1), .val (.int s1), .val (.int q1), .val (.int (2 : Int32)), .val (.int (0 : Int32)), .val (.ref b154), .val (.int (1 : Int32))]) rfl (XS.aload X160.here hx rfl (hb hby at_137) rfl rfl (XS.iload X160.here hx rfl (hb hby at_139) rfl kont))))) ?_
          show Go _ _ _ _ _ _ _ (T160.setTop (mkF m 141 #[.val (.int a1), .val (.int b1), .val (.int c1), .val (.int k1), .val (.int s1), .val (.int q1), .val (.int (2 : Int32)), .val (.int (0 : Int32)), .val (.ref b154), .val (.int (1 : Int32))] [(.int q1), (.ref b154)]))
          obtain ⟨cq166, kq166, q166a, q166b, q166c⟩ := isOf hZ rfl g160_0
          obtain ⟨_, _, ⟨T166, L166, k166, n166⟩, -, X166, ⟨Lc166, hQ166, l166, y166, z166⟩, st166⟩ := X160.virtualBack hx (y := (⟨"com/example/quorumsmith/quorumsmith/protocols/quorum/IntList", "contains", "(I)Z"⟩ : MethodName)) (z := (⟨"com/example/quorumsmith/quorumsmith/protocols/quorum/IntList", "contains", "(I)Z"⟩ : MethodName)) hown (mvT hZ (hw _ (List.mem_of_getElem? (i := 19) rfl))) (mvT hZ (hw _ (List.mem_of_getElem? (i := 20) rfl))) (notFace_of_selects (args := #[]) (mvT hZ (hw _ (List.mem_of_getElem? (i := 22) rfl)))) (mvT hZ (hw _ (List.mem_of_getElem? (i := 22) rfl))) (mvT hZ (hw _ (List.mem_of_getElem? (i := 21) rfl))) (by decide) (backOf (W := 0) (rmD2 l Z a0 hw [] b154 q1 b102_156 k102_156 a1 b1 (0 : Int32) T160.heap n0 Z161 g160_1 g160_2 g160_3) hZ (hw _ (List.mem_of_getElem? (i := 23) rfl)) (hw _ (List.mem_of_getElem? (i := 2) rfl)) (by decide) (by decide)) q166a q166c (g := (mkF m 141 #[.val (.int a1), .val (.int b1), .val (.int c1), .val (.int k1), .val (.int s1), .val (.int q1), .val (.int (2 : Int32)), .val (.int (0 : Int32)), .val (.ref b154), .val (.int (1 : Int32))] [(.int q1), (.ref b154)])) rfl (by rw [hml]; rfl) (Steps.refl _) (argsL := [(.int q1)]) (rest := []) (lenOf pd0_1 rfl) rfl (by show 2 * 0 + _ ≤ _; exact Nat.le_of_eq rfl) (hb hby at_141) (fun _ _ => ⟨rfl, rfl, (by decide : 2 + 0 ≤ _), (by decide : 18 + 0 ≤ _)⟩)
          dsimp only [Pt.U, Pt.locs, Pt.cells, Pt.slots] at X166 l166 y166 z166 st166 hQ166
          subst l166 y166 z166
          obtain ⟨rfl, N166q, eh166⟩ := hQ166
          have N166 := Fr.app N160 N166q
          refine Go.tr st166 ?_
          show Go _ _ _ _ _ _ _ (T166.setTop (mkF m 144 #[.val (.int a1), .val (.int b1), .val (.int c1), .val (.int k1), .val (.int s1), .val (.int q1), .val (.int (2 : Int32)), .val (.int (0 : Int32)), .val (.ref b154), .val (.int (1 : Int32))] [(.int (fD2 q1 a1 b1))]))
          refine Go.by (fun _ kont => XS.iload X166.here hx rfl (hb hby at_144) rfl kont) ?_
          show Go _ _ _ _ _ _ _ (T166.setTop (mkF m 146 #[.val (.int a1), .val (.int b1), .val (.int c1), .val (.int k1), .val (.int s1), .val (.int q1), .val (.int (2 : Int32)), .val (.int (0 : Int32)), .val (.ref b154), .val (.int (1 : Int32))] [(.int (1 : Int32)), (.int (fD2 q1 a1 b1))]))
          have hd167 : (fD2 q1 a1 b1) = (1 : Int32) := by unfold fD2; rw [if_neg (fun z => hc162 z.symm), if_pos hc165.symm]
          refine Go.by (fun _ kont => XS.icmpNo X166.here hx rfl (hb hby at_146) rfl (teq hd167).2 kont) ?_
          show Go _ _ _ _ _ _ _ (T166.setTop (mkF m 149 #[.val (.int a1), .val (.int b1), .val (.int c1), .val (.int k1), .val (.int s1), .val (.int q1), .val (.int (2 : Int32)), .val (.int (0 : Int32)), .val (.ref b154), .val (.int (1 : Int32))] []))
          refine Go.by (fun _ kont => XS.iconst X166.here hx rfl (hb hby at_149) (XS.goto X166.here hx rfl (pc0 := 150) (pc' := 154) rfl (hb hby at_150) (by decide) (by decide) kont)) ?_
          show Go _ _ _ _ _ _ _ (T166.setTop (mkF m 154 #[.val (.int a1), .val (.int b1), .val (.int c1), .val (.int k1), .val (.int s1), .val (.int q1), .val (.int (2 : Int32)), .val (.int (0 : Int32)), .val (.ref b154), .val (.int (1 : Int32))] [(.int (1 : Int32))]))
          refine Go.retN X166 hx (t := .boolean) hret (by simp) hlk (hb hby at_154) ?_ (by decide) (by decide)
          show Q0 Z h0 n0 (some (.int (1 : Int32))) T166.heap _
          rw [eh166]
          exact ⟨rfl, N166⟩
        · refine Go.by (fun _ kont => XS.icmpNo X160.here hx rfl (hb hby at_115) rfl (feq hc165).1 kont) ?_
          show Go _ _ _ _ _ _ _ (T160.setTop (mkF m 118 #[.val (.int a1), .val (.int b1), .val (.int c1), .val (.int k1), .val (.int s1), .val (.int q1), .val (.int (2 : Int32)), .val (.int (0 : Int32)), .val (.ref b154), .unset] []))
          refine Go.by (fun _ kont => XS.iload X160.here hx rfl (hb hby at_118) rfl (XS.iconst X160.here hx rfl (hb hby at_120) kont)) ?_
          show Go _ _ _ _ _ _ _ (T160.setTop (mkF m 121 #[.val (.int a1), .val (.int b1), .val (.int c1), .val (.int k1), .val (.int s1), .val (.int q1), .val (.int (2 : Int32)), .val (.int (0 : Int32)), .val (.ref b154), .unset] [(.int (3 : Int32)), (.int (2 : Int32))]))
          refine Go.by (fun _ kont => XS.icmpYes X160.here hx rfl (pc0 := 121) (pc' := 134) rfl (hb hby at_121) rfl (by decide) (by decide) (by decide) kont) ?_
          show Go _ _ _ _ _ _ _ (T160.setTop (mkF m 134 #[.val (.int a1), .val (.int b1), .val (.int c1), .val (.int k1), .val (.int s1), .val (.int q1), .val (.int (2 : Int32)), .val (.int (0 : Int32)), .val (.ref b154), .unset] []))
          refine Go.by (fun _ kont => XS.iconst X160.here hx rfl (hb hby at_134) (XS.istore X160.here hx rfl (hb hby at_135) rfl (l' := #[.val (.int a1), .val (.int b1), .val (.int c1), .val (.int k1), .val (.int s1), .val (.int q1), .val (.int (2 : Int32)), .val (.int (0 : Int32)), .val (.ref b154), .val (.int (0 : Int32))]) rfl (XS.aload X160.here hx rfl (hb hby at_137) rfl rfl (XS.iload X160.here hx rfl (hb hby at_139) rfl kont)))) ?_
          show Go _ _ _ _ _ _ _ (T160.setTop (mkF m 141 #[.val (.int a1), .val (.int b1), .val (.int c1), .val (.int k1), .val (.int s1), .val (.int q1), .val (.int (2 : Int32)), .val (.int (0 : Int32)), .val (.ref b154), .val (.int (0 : Int32))] [(.int q1), (.ref b154)]))
          obtain ⟨cq168, kq168, q168a, q168b, q168c⟩ := isOf hZ rfl g160_0
          obtain ⟨_, _, ⟨T168, L168, k168, n168⟩, -, X168, ⟨Lc168, hQ168, l168, y168, z168⟩, st168⟩ := X160.virtualBack hx (y := (⟨"com/example/quorumsmith/quorumsmith/protocols/quorum/IntList", "contains", "(I)Z"⟩ : MethodName)) (z := (⟨"com/example/quorumsmith/quorumsmith/protocols/quorum/IntList", "contains", "(I)Z"⟩ : MethodName)) hown (mvT hZ (hw _ (List.mem_of_getElem? (i := 19) rfl))) (mvT hZ (hw _ (List.mem_of_getElem? (i := 20) rfl))) (notFace_of_selects (args := #[]) (mvT hZ (hw _ (List.mem_of_getElem? (i := 22) rfl)))) (mvT hZ (hw _ (List.mem_of_getElem? (i := 22) rfl))) (mvT hZ (hw _ (List.mem_of_getElem? (i := 21) rfl))) (by decide) (backOf (W := 0) (rmD2 l Z a0 hw [] b154 q1 b102_156 k102_156 a1 b1 (0 : Int32) T160.heap n0 Z161 g160_1 g160_2 g160_3) hZ (hw _ (List.mem_of_getElem? (i := 23) rfl)) (hw _ (List.mem_of_getElem? (i := 2) rfl)) (by decide) (by decide)) q168a q168c (g := (mkF m 141 #[.val (.int a1), .val (.int b1), .val (.int c1), .val (.int k1), .val (.int s1), .val (.int q1), .val (.int (2 : Int32)), .val (.int (0 : Int32)), .val (.ref b154), .val (.int (0 : Int32))] [(.int q1), (.ref b154)])) rfl (by rw [hml]; rfl) (Steps.refl _) (argsL := [(.int q1)]) (rest := []) (lenOf pd0_1 rfl) rfl (by show 2 * 0 + _ ≤ _; exact Nat.le_of_eq rfl) (hb hby at_141) (fun _ _ => ⟨rfl, rfl, (by decide : 2 + 0 ≤ _), (by decide : 18 + 0 ≤ _)⟩)
          dsimp only [Pt.U, Pt.locs, Pt.cells, Pt.slots] at X168 l168 y168 z168 st168 hQ168
          subst l168 y168 z168
          obtain ⟨rfl, N168q, eh168⟩ := hQ168
          have N168 := Fr.app N160 N168q
          refine Go.tr st168 ?_
          show Go _ _ _ _ _ _ _ (T168.setTop (mkF m 144 #[.val (.int a1), .val (.int b1), .val (.int c1), .val (.int k1), .val (.int s1), .val (.int q1), .val (.int (2 : Int32)), .val (.int (0 : Int32)), .val (.ref b154), .val (.int (0 : Int32))] [(.int (fD2 q1 a1 b1))]))
          refine Go.by (fun _ kont => XS.iload X168.here hx rfl (hb hby at_144) rfl kont) ?_
          show Go _ _ _ _ _ _ _ (T168.setTop (mkF m 146 #[.val (.int a1), .val (.int b1), .val (.int c1), .val (.int k1), .val (.int s1), .val (.int q1), .val (.int (2 : Int32)), .val (.int (0 : Int32)), .val (.ref b154), .val (.int (0 : Int32))] [(.int (0 : Int32)), (.int (fD2 q1 a1 b1))]))
          have hd169 : (fD2 q1 a1 b1) = (0 : Int32) := by unfold fD2; rw [if_neg (fun z => hc162 z.symm), if_neg (fun z => hc165 z.symm)]
          refine Go.by (fun _ kont => XS.icmpNo X168.here hx rfl (hb hby at_146) rfl (teq hd169).2 kont) ?_
          show Go _ _ _ _ _ _ _ (T168.setTop (mkF m 149 #[.val (.int a1), .val (.int b1), .val (.int c1), .val (.int k1), .val (.int s1), .val (.int q1), .val (.int (2 : Int32)), .val (.int (0 : Int32)), .val (.ref b154), .val (.int (0 : Int32))] []))
          refine Go.by (fun _ kont => XS.iconst X168.here hx rfl (hb hby at_149) (XS.goto X168.here hx rfl (pc0 := 150) (pc' := 154) rfl (hb hby at_150) (by decide) (by decide) kont)) ?_
          show Go _ _ _ _ _ _ _ (T168.setTop (mkF m 154 #[.val (.int a1), .val (.int b1), .val (.int c1), .val (.int k1), .val (.int s1), .val (.int q1), .val (.int (2 : Int32)), .val (.int (0 : Int32)), .val (.ref b154), .val (.int (0 : Int32))] [(.int (1 : Int32))]))
          refine Go.retN X168 hx (t := .boolean) hret (by simp) hlk (hb hby at_154) ?_ (by decide) (by decide)
          show Q0 Z h0 n0 (some (.int (1 : Int32))) T168.heap _
          rw [eh168]
          exact ⟨rfl, N168⟩
    · refine Go.by (fun _ kont => XS.ifNo X0.here hx rfl (hb hby at_8) rfl ((if0 _ _).trans (feq hc153).1) kont) ?_
      show Go _ _ _ _ _ _ _ (s₁.setTop (mkF m 11 #[.val (.int a1), .val (.int b1), .val (.int c1), .val (.int k1), .val (.int s1), .val (.int q1), .val (.int (2 : Int32)), .unset, .unset, .unset] []))
      refine Go.by (fun _ kont => XS.iconst X0.here hx rfl (hb hby at_11) (XS.goto X0.here hx rfl (pc0 := 12) (pc' := 16) rfl (hb hby at_12) (by decide) (by decide) (XS.istore X0.here hx rfl (hb hby at_16) rfl (l' := #[.val (.int a1), .val (.int b1), .val (.int c1), .val (.int k1), .val (.int s1), .val (.int q1), .val (.int (2 : Int32)), .val (.int (1 : Int32)), .unset, .unset]) rfl kont))) ?_
      show Go _ _ _ _ _ _ _ (s₁.setTop (mkF m 18 #[.val (.int a1), .val (.int b1), .val (.int c1), .val (.int k1), .val (.int s1), .val (.int q1), .val (.int (2 : Int32)), .val (.int (1 : Int32)), .unset, .unset] []))
      obtain ⟨T170, h170, X170, e170, X_170, A170, D170, -, st170⟩ := newO X0 hx hZ hown (hw _ (List.mem_of_getElem? (i := 0) rfl)) (hw _ (List.mem_of_getElem? (i := 1) rfl)) (hw _ (List.mem_of_getElem? (i := 2) rfl)) e0 (g := (mkF m 18 #[.val (.int a1), .val (.int b1), .val (.int c1), .val (.int k1), .val (.int s1), .val (.int q1), .val (.int (2 : Int32)), .val (.int (1 : Int32)), .unset, .unset] [])) rfl (hb hby at_18) (by decide) (by decide)
      obtain ⟨b170, g170⟩ : ∃ z, z = h0.size := ⟨_, rfl⟩
      rw [← g170] at A170 D170 st170
      have ge_b170 : n0 ≤ b170 := Nat.le_trans Z0 (Nat.le_of_eq g170.symm)
      have sz_b170 : h0.size ≤ b170 := Nat.le_trans (Keep.refl h0 []).1 (Nat.le_of_eq g170.symm)
      have Z171 := Nat.le_trans Z0 X_170.1
      have K171 : Keep h0 h170 [] := (Keep.refl h0 []).ext X_170
      have F170_values : Fld Z h170 b170 "com/example/quorumsmith/quorumsmith/protocols/quorum/IntList" "values" "[I" .null := D170 (Or.inl (hw _ (List.mem_of_getElem? (i := 11) rfl))) (ty := (.array .int)) (by decide)
      have F170_size : Fld Z h170 b170 "com/example/quorumsmith/quorumsmith/protocols/quorum/IntList" "size" "I" (.int (0 : Int32)) := D170 (Or.inl (hw _ (List.mem_of_getElem? (i := 18) rfl))) (ty := .int) (by decide)
      refine Go.by st170 ?_
      show Go _ _ _ _ _ _ _ (T170.setTop (mkF m 21 #[.val (.int a1), .val (.int b1), .val (.int c1), .val (.int k1), .val (.int s1), .val (.int q1), .val (.int (2 : Int32)), .val (.int (1 : Int32)), .unset, .unset] [(.ref b170)]))
      refine Go.by (fun _ kont => XS.dup X170.here hx rfl (hb hby at_21) rfl rfl kont) ?_
      show Go _ _ _ _ _ _ _ (T170.setTop (mkF m 22 #[.val (.int a1), .val (.int b1), .val (.int c1), .val (.int k1), .val (.int s1), .val (.int q1), .val (.int (2 : Int32)), .val (.int (1 : Int32)), .unset, .unset] [(.ref b170), (.ref b170)]))
      obtain ⟨_, _, ⟨T172, L172, k172, n172⟩, -, X172, ⟨Lc172, hQ172, l172, y172, z172⟩, st172⟩ := X170.specialBack hx (y := (⟨"com/example/quorumsmith/quorumsmith/protocols/quorum/IntList", "<init>", "()V"⟩ : MethodName)) rfl hown (mvT hZ (hw _ (List.mem_of_getElem? (i := 3) rfl))) (mvT hZ (hw _ (List.mem_of_getElem? (i := 4) rfl))) (mvT hZ (hw _ (List.mem_of_getElem? (i := 5) rfl))) (by decide) (backOf (W := 1) (rmI l Z a0 hw [] b170 h170 n0 Z171 A170 F170_values F170_size ge_b170) hZ (hw _ (List.mem_of_getElem? (i := 5) rfl)) (hw _ (List.mem_of_getElem? (i := 2) rfl)) (by decide) (by decide)) (g := (mkF m 22 #[.val (.int a1), .val (.int b1), .val (.int c1), .val (.int k1), .val (.int s1), .val (.int q1), .val (.int (2 : Int32)), .val (.int (1 : Int32)), .unset, .unset] [(.ref b170), (.ref b170)])) rfl (by rw [hml]; rfl) (Steps.refl _) (a := b170) (argsL := []) (rest := [(.ref b170)]) (lenOf pd0_0 rfl) rfl (by show 2 * 0 + _ ≤ _; exact Nat.le_of_eq rfl) (hb hby at_22) (fun _ _ => ⟨rfl, e170, (by decide : 1 + 1 ≤ _), (by decide : 2 + 16 ≤ _)⟩)
      dsimp only [Pt.U, Pt.locs, Pt.cells, Pt.slots] at X172 l172 y172 z172 st172 hQ172
      subst l172 y172 z172
      obtain ⟨b102_172, k102_172, rfl, N172q, K172, g172_0, g172_1, g172_2, ge_b102_172, szc_b102_172, g172_3⟩ := hQ172
      have ne_b170_b102_172 : b170 ≠ b102_172 := Nat.ne_of_lt (Nat.lt_of_lt_of_le F170_values.lt szc_b102_172)
      have sz_b102_172 : h0.size ≤ b102_172 := Nat.le_trans K171.1 szc_b102_172
      have E173_b170 := A170.keep K172
      have Z173 := Nat.le_trans Z171 K172.1
      have K173 : Keep h0 T172.heap [] := Keep.trans K171 K172 (allS (Or.inr sz_b170) all0)
      have N172 := Fr.app N0 N172q
      refine Go.tr st172 ?_
      show Go _ _ _ _ _ _ _ (T172.setTop (mkF m 25 #[.val (.int a1), .val (.int b1), .val (.int c1), .val (.int k1), .val (.int s1), .val (.int q1), .val (.int (2 : Int32)), .val (.int (1 : Int32)), .unset, .unset] [(.ref b170)]))
      refine Go.by (fun _ kont => XS.astore X172.here hx rfl (hb hby at_25) rfl rfl (l' := #[.val (.int a1), .val (.int b1), .val (.int c1), .val (.int k1), .val (.int s1), .val (.int q1), .val (.int (2 : Int32)), .val (.int (1 : Int32)), .val (.ref b170), .unset]) rfl (XS.iload X172.here hx rfl (hb hby at_27) rfl kont)) ?_
      show Go _ _ _ _ _ _ _ (T172.setTop (mkF m 29 #[.val (.int a1), .val (.int b1), .val (.int c1), .val (.int k1), .val (.int s1), .val (.int q1), .val (.int (2 : Int32)), .val (.int (1 : Int32)), .val (.ref b170), .unset] [(.int (1 : Int32))]))
      refine Go.by (fun _ kont => XS.ifNo X172.here hx rfl (hb hby at_29) rfl (by decide) kont) ?_
      show Go _ _ _ _ _ _ _ (T172.setTop (mkF m 32 #[.val (.int a1), .val (.int b1), .val (.int c1), .val (.int k1), .val (.int s1), .val (.int q1), .val (.int (2 : Int32)), .val (.int (1 : Int32)), .val (.ref b170), .unset] []))
      refine Go.by (fun _ kont => XS.aload X172.here hx rfl (hb hby at_32) rfl rfl (XS.iload X172.here hx rfl (hb hby at_34) rfl kont)) ?_
      show Go _ _ _ _ _ _ _ (T172.setTop (mkF m 36 #[.val (.int a1), .val (.int b1), .val (.int c1), .val (.int k1), .val (.int s1), .val (.int q1), .val (.int (2 : Int32)), .val (.int (1 : Int32)), .val (.ref b170), .unset] [(.int s1), (.ref b170)]))
      obtain ⟨cq174, kq174, q174a, q174b, q174c⟩ := isOf hZ rfl g172_0
      obtain ⟨_, _, ⟨T174, L174, k174, n174⟩, -, X174, ⟨Lc174, hQ174, l174, y174, z174⟩, st174⟩ := X172.virtualBack hx (y := (⟨"com/example/quorumsmith/quorumsmith/protocols/quorum/IntList", "add", "(I)V"⟩ : MethodName)) (z := (⟨"com/example/quorumsmith/quorumsmith/protocols/quorum/IntList", "add", "(I)V"⟩ : MethodName)) hown (mvT hZ (hw _ (List.mem_of_getElem? (i := 12) rfl))) (mvT hZ (hw _ (List.mem_of_getElem? (i := 13) rfl))) (notFace_of_selects (args := #[]) (mvT hZ (hw _ (List.mem_of_getElem? (i := 15) rfl)))) (mvT hZ (hw _ (List.mem_of_getElem? (i := 15) rfl))) (mvT hZ (hw _ (List.mem_of_getElem? (i := 14) rfl))) (by decide) (backOf (W := 0) (rmA0 l Z a0 hw [] b170 s1 b102_172 k102_172 (0 : Int32) (0 : Int32) (0 : Int32) T172.heap n0 Z173 g172_0 g172_1 g172_2 g172_3 ne_b170_b102_172 ge_b170 ge_b102_172) hZ (hw _ (List.mem_of_getElem? (i := 16) rfl)) (hw _ (List.mem_of_getElem? (i := 2) rfl)) (by decide) (by decide)) q174a q174c (g := (mkF m 36 #[.val (.int a1), .val (.int b1), .val (.int c1), .val (.int k1), .val (.int s1), .val (.int q1), .val (.int (2 : Int32)), .val (.int (1 : Int32)), .val (.ref b170), .unset] [(.int s1), (.ref b170)])) rfl (by rw [hml]; rfl) (Steps.refl _) (argsL := [(.int s1)]) (rest := []) (lenOf pd0_2 rfl) rfl (by show 2 * 0 + _ ≤ _; exact Nat.le_of_eq rfl) (hb hby at_36) (fun _ _ => ⟨rfl, rfl, (by decide : 2 + 0 ≤ _), (by decide : 18 + 0 ≤ _)⟩)
      dsimp only [Pt.U, Pt.locs, Pt.cells, Pt.slots] at X174 l174 y174 z174 st174 hQ174
      subst l174 y174 z174
      obtain ⟨rfl, N174q, K174, g174_0, g174_1, g174_2, g174_3⟩ := hQ174
      have E175_b170 := g172_0.keep K174
      have Z175 := Nat.le_trans Z173 K174.1
      have K175 : Keep h0 T174.heap [] := Keep.trans K173 K174 (allS (Or.inr sz_b170) (allS (Or.inr sz_b102_172) all0))
      have N174 := Fr.app N172 N174q
      refine Go.tr st174 ?_
      show Go _ _ _ _ _ _ _ (T174.setTop (mkF m 39 #[.val (.int a1), .val (.int b1), .val (.int c1), .val (.int k1), .val (.int s1), .val (.int q1), .val (.int (2 : Int32)), .val (.int (1 : Int32)), .val (.ref b170), .unset] []))
      refine Go.by (fun _ kont => XS.aload X174.here hx rfl (hb hby at_39) rfl rfl (XS.iload X174.here hx rfl (hb hby at_41) rfl kont)) ?_
      show Go _ _ _ _ _ _ _ (T174.setTop (mkF m 43 #[.val (.int a1), .val (.int b1), .val (.int c1), .val (.int k1), .val (.int s1), .val (.int q1), .val (.int (2 : Int32)), .val (.int (1 : Int32)), .val (.ref b170), .unset] [(.int s1), (.ref b170)]))
      obtain ⟨cq176, kq176, q176a, q176b, q176c⟩ := isOf hZ rfl g174_0
      obtain ⟨_, _, ⟨T176, L176, k176, n176⟩, -, X176, ⟨Lc176, hQ176, l176, y176, z176⟩, st176⟩ := X174.virtualBack hx (y := (⟨"com/example/quorumsmith/quorumsmith/protocols/quorum/IntList", "add", "(I)V"⟩ : MethodName)) (z := (⟨"com/example/quorumsmith/quorumsmith/protocols/quorum/IntList", "add", "(I)V"⟩ : MethodName)) hown (mvT hZ (hw _ (List.mem_of_getElem? (i := 12) rfl))) (mvT hZ (hw _ (List.mem_of_getElem? (i := 13) rfl))) (notFace_of_selects (args := #[]) (mvT hZ (hw _ (List.mem_of_getElem? (i := 15) rfl)))) (mvT hZ (hw _ (List.mem_of_getElem? (i := 15) rfl))) (mvT hZ (hw _ (List.mem_of_getElem? (i := 14) rfl))) (by decide) (backOf (W := 0) (rmA1 l Z a0 hw [] b170 s1 b102_172 k102_172 s1 (0 : Int32) (0 : Int32) T174.heap n0 Z175 g174_0 g174_1 g174_2 g174_3 ne_b170_b102_172 ge_b170 ge_b102_172) hZ (hw _ (List.mem_of_getElem? (i := 16) rfl)) (hw _ (List.mem_of_getElem? (i := 2) rfl)) (by decide) (by decide)) q176a q176c (g := (mkF m 43 #[.val (.int a1), .val (.int b1), .val (.int c1), .val (.int k1), .val (.int s1), .val (.int q1), .val (.int (2 : Int32)), .val (.int (1 : Int32)), .val (.ref b170), .unset] [(.int s1), (.ref b170)])) rfl (by rw [hml]; rfl) (Steps.refl _) (argsL := [(.int s1)]) (rest := []) (lenOf pd0_2 rfl) rfl (by show 2 * 0 + _ ≤ _; exact Nat.le_of_eq rfl) (hb hby at_43) (fun _ _ => ⟨rfl, rfl, (by decide : 2 + 0 ≤ _), (by decide : 18 + 0 ≤ _)⟩)
      dsimp only [Pt.U, Pt.locs, Pt.cells, Pt.slots] at X176 l176 y176 z176 st176 hQ176
      subst l176 y176 z176
      obtain ⟨rfl, N176q, K176, g176_0, g176_1, g176_2, g176_3⟩ := hQ176
      have E177_b170 := g174_0.keep K176
      have Z177 := Nat.le_trans Z175 K176.1
      have K177 : Keep h0 T176.heap [] := Keep.trans K175 K176 (allS (Or.inr sz_b170) (allS (Or.inr sz_b102_172) all0))
      have N176 := Fr.app N174 N176q
      refine Go.tr st176 ?_
      show Go _ _ _ _ _ _ _ (T176.setTop (mkF m 46 #[.val (.int a1), .val (.int b1), .val (.int c1), .val (.int k1), .val (.int s1), .val (.int q1), .val (.int (2 : Int32)), .val (.int (1 : Int32)), .val (.ref b170), .unset] []))
      refine Go.by (fun _ kont => XS.aload X176.here hx rfl (hb hby at_46) rfl rfl (XS.iload X176.here hx rfl (hb hby at_48) rfl kont)) ?_
      show Go _ _ _ _ _ _ _ (T176.setTop (mkF m 50 #[.val (.int a1), .val (.int b1), .val (.int c1), .val (.int k1), .val (.int s1), .val (.int q1), .val (.int (2 : Int32)), .val (.int (1 : Int32)), .val (.ref b170), .unset] [(.int s1), (.ref b170)]))
      obtain ⟨cq178, kq178, q178a, q178b, q178c⟩ := isOf hZ rfl g176_0
      obtain ⟨_, _, ⟨T178, L178, k178, n178⟩, -, X178, ⟨Lc178, hQ178, l178, y178, z178⟩, st178⟩ := X176.virtualBack hx (y := (⟨"com/example/quorumsmith/quorumsmith/protocols/quorum/IntList", "add", "(I)V"⟩ : MethodName)) (z := (⟨"com/example/quorumsmith/quorumsmith/protocols/quorum/IntList", "add", "(I)V"⟩ : MethodName)) hown (mvT hZ (hw _ (List.mem_of_getElem? (i := 12) rfl))) (mvT hZ (hw _ (List.mem_of_getElem? (i := 13) rfl))) (notFace_of_selects (args := #[]) (mvT hZ (hw _ (List.mem_of_getElem? (i := 15) rfl)))) (mvT hZ (hw _ (List.mem_of_getElem? (i := 15) rfl))) (mvT hZ (hw _ (List.mem_of_getElem? (i := 14) rfl))) (by decide) (backOf (W := 0) (rmA2 l Z a0 hw [] b170 s1 b102_172 k102_172 s1 s1 (0 : Int32) T176.heap n0 Z177 g176_0 g176_1 g176_2 g176_3 ne_b170_b102_172 ge_b170 ge_b102_172) hZ (hw _ (List.mem_of_getElem? (i := 16) rfl)) (hw _ (List.mem_of_getElem? (i := 2) rfl)) (by decide) (by decide)) q178a q178c (g := (mkF m 50 #[.val (.int a1), .val (.int b1), .val (.int c1), .val (.int k1), .val (.int s1), .val (.int q1), .val (.int (2 : Int32)), .val (.int (1 : Int32)), .val (.ref b170), .unset] [(.int s1), (.ref b170)])) rfl (by rw [hml]; rfl) (Steps.refl _) (argsL := [(.int s1)]) (rest := []) (lenOf pd0_2 rfl) rfl (by show 2 * 0 + _ ≤ _; exact Nat.le_of_eq rfl) (hb hby at_50) (fun _ _ => ⟨rfl, rfl, (by decide : 2 + 0 ≤ _), (by decide : 18 + 0 ≤ _)⟩)
      dsimp only [Pt.U, Pt.locs, Pt.cells, Pt.slots] at X178 l178 y178 z178 st178 hQ178
      subst l178 y178 z178
      obtain ⟨rfl, N178q, K178, g178_0, g178_1, g178_2, g178_3⟩ := hQ178
      have E179_b170 := g176_0.keep K178
      have Z179 := Nat.le_trans Z177 K178.1
      have K179 : Keep h0 T178.heap [] := Keep.trans K177 K178 (allS (Or.inr sz_b170) (allS (Or.inr sz_b102_172) all0))
      have N178 := Fr.app N176 N178q
      refine Go.tr st178 ?_
      show Go _ _ _ _ _ _ _ (T178.setTop (mkF m 53 #[.val (.int a1), .val (.int b1), .val (.int c1), .val (.int k1), .val (.int s1), .val (.int q1), .val (.int (2 : Int32)), .val (.int (1 : Int32)), .val (.ref b170), .unset] []))
      refine Go.by (fun _ kont => XS.aload X178.here hx rfl (hb hby at_53) rfl rfl kont) ?_
      show Go _ _ _ _ _ _ _ (T178.setTop (mkF m 55 #[.val (.int a1), .val (.int b1), .val (.int c1), .val (.int k1), .val (.int s1), .val (.int q1), .val (.int (2 : Int32)), .val (.int (1 : Int32)), .val (.ref b170), .unset] [(.ref b170)]))
      obtain ⟨cq180, kq180, q180a, q180b, q180c⟩ := isOf hZ rfl g178_0
      obtain ⟨_, _, ⟨T180, L180, k180, n180⟩, -, X180, ⟨Lc180, hQ180, l180, y180, z180⟩, st180⟩ := X178.virtualBack hx (y := (⟨"com/example/quorumsmith/quorumsmith/protocols/quorum/IntList", "clear", "()V"⟩ : MethodName)) (z := (⟨"com/example/quorumsmith/quorumsmith/protocols/quorum/IntList", "clear", "()V"⟩ : MethodName)) hown (mvT hZ (hw _ (List.mem_of_getElem? (i := 24) rfl))) (mvT hZ (hw _ (List.mem_of_getElem? (i := 25) rfl))) (notFace_of_selects (args := #[]) (mvT hZ (hw _ (List.mem_of_getElem? (i := 27) rfl)))) (mvT hZ (hw _ (List.mem_of_getElem? (i := 27) rfl))) (mvT hZ (hw _ (List.mem_of_getElem? (i := 26) rfl))) (by decide) (backOf (W := 0) (rmC l Z a0 hw [] b170 b102_172 (3 : Int32) T178.heap n0 Z179 g178_0 g178_1 g178_2 ge_b170) hZ (hw _ (List.mem_of_getElem? (i := 28) rfl)) (hw _ (List.mem_of_getElem? (i := 2) rfl)) (by decide) (by decide)) q180a q180c (g := (mkF m 55 #[.val (.int a1), .val (.int b1), .val (.int c1), .val (.int k1), .val (.int s1), .val (.int q1), .val (.int (2 : Int32)), .val (.int (1 : Int32)), .val (.ref b170), .unset] [(.ref b170)])) rfl (by rw [hml]; rfl) (Steps.refl _) (argsL := []) (rest := []) (lenOf pd0_0 rfl) rfl (by show 2 * 0 + _ ≤ _; exact Nat.le_of_eq rfl) (hb hby at_55) (fun _ _ => ⟨rfl, rfl, (by decide : 2 + 0 ≤ _), (by decide : 18 + 0 ≤ _)⟩)
      dsimp only [Pt.U, Pt.locs, Pt.cells, Pt.slots] at X180 l180 y180 z180 st180 hQ180
      subst l180 y180 z180
      obtain ⟨rfl, N180q, K180, g180_0, g180_1, g180_2⟩ := hQ180
      have E181_b170 := g178_0.keep K180
      have V181_b102_172 := g178_3.keep K180 (ninS (Ne.symm ne_b170_b102_172) nin0)
      have Z181 := Nat.le_trans Z179 K180.1
      have K181 : Keep h0 T180.heap [] := Keep.trans K179 K180 (allS (Or.inr sz_b170) all0)
      have N180 := Fr.app N178 N180q
      refine Go.tr st180 ?_
      show Go _ _ _ _ _ _ _ (T180.setTop (mkF m 58 #[.val (.int a1), .val (.int b1), .val (.int c1), .val (.int k1), .val (.int s1), .val (.int q1), .val (.int (2 : Int32)), .val (.int (1 : Int32)), .val (.ref b170), .unset] []))
      refine Go.by (fun _ kont => XS.iload X180.here hx rfl (hb hby at_58) rfl (XS.iconst X180.here hx rfl (hb hby at_60) kont)) ?_
      show Go _ _ _ _ _ _ _ (T180.setTop (mkF m 61 #[.val (.int a1), .val (.int b1), .val (.int c1), .val (.int k1), .val (.int s1), .val (.int q1), .val (.int (2 : Int32)), .val (.int (1 : Int32)), .val (.ref b170), .unset] [(.int (1 : Int32)), (.int (2 : Int32))]))
      refine Go.by (fun _ kont => XS.icmpNo X180.here hx rfl (hb hby at_61) rfl (by decide) kont) ?_
      show Go _ _ _ _ _ _ _ (T180.setTop (mkF m 64 #[.val (.int a1), .val (.int b1), .val (.int c1), .val (.int k1), .val (.int s1), .val (.int q1), .val (.int (2 : Int32)), .val (.int (1 : Int32)), .val (.ref b170), .unset] []))
      refine Go.by (fun _ kont => XS.aload X180.here hx rfl (hb hby at_64) rfl rfl (XS.iloadN X180.here hx rfl (hb hby at_66) rfl kont)) ?_
      show Go _ _ _ _ _ _ _ (T180.setTop (mkF m 67 #[.val (.int a1), .val (.int b1), .val (.int c1), .val (.int k1), .val (.int s1), .val (.int q1), .val (.int (2 : Int32)), .val (.int (1 : Int32)), .val (.ref b170), .unset] [(.int a1), (.ref b170)]))
      obtain ⟨cq182, kq182, q182a, q182b, q182c⟩ := isOf hZ rfl g180_0
      obtain ⟨_, _, ⟨T182, L182, k182, n182⟩, -, X182, ⟨Lc182, hQ182, l182, y182, z182⟩, st182⟩ := X180.virtualBack hx (y := (⟨"com/example/quorumsmith/quorumsmith/protocols/quorum/IntList", "add", "(I)V"⟩ : MethodName)) (z := (⟨"com/example/quorumsmith/quorumsmith/protocols/quorum/IntList", "add", "(I)V"⟩ : MethodName)) hown (mvT hZ (hw _ (List.mem_of_getElem? (i := 12) rfl))) (mvT hZ (hw _ (List.mem_of_getElem? (i := 13) rfl))) (notFace_of_selects (args := #[]) (mvT hZ (hw _ (List.mem_of_getElem? (i := 15) rfl)))) (mvT hZ (hw _ (List.mem_of_getElem? (i := 15) rfl))) (mvT hZ (hw _ (List.mem_of_getElem? (i := 14) rfl))) (by decide) (backOf (W := 0) (rmA0 l Z a0 hw [] b170 a1 b102_172 k102_172 s1 s1 s1 T180.heap n0 Z181 g180_0 g180_1 g180_2 V181_b102_172 ne_b170_b102_172 ge_b170 ge_b102_172) hZ (hw _ (List.mem_of_getElem? (i := 16) rfl)) (hw _ (List.mem_of_getElem? (i := 2) rfl)) (by decide) (by decide)) q182a q182c (g := (mkF m 67 #[.val (.int a1), .val (.int b1), .val (.int c1), .val (.int k1), .val (.int s1), .val (.int q1), .val (.int (2 : Int32)), .val (.int (1 : Int32)), .val (.ref b170), .unset] [(.int a1), (.ref b170)])) rfl (by rw [hml]; rfl) (Steps.refl _) (argsL := [(.int a1)]) (rest := []) (lenOf pd0_2 rfl) rfl (by show 2 * 0 + _ ≤ _; exact Nat.le_of_eq rfl) (hb hby at_67) (fun _ _ => ⟨rfl, rfl, (by decide : 2 + 0 ≤ _), (by decide : 18 + 0 ≤ _)⟩)
      dsimp only [Pt.U, Pt.locs, Pt.cells, Pt.slots] at X182 l182 y182 z182 st182 hQ182
      subst l182 y182 z182
      obtain ⟨rfl, N182q, K182, g182_0, g182_1, g182_2, g182_3⟩ := hQ182
      have E183_b170 := g180_0.keep K182
      have Z183 := Nat.le_trans Z181 K182.1
      have K183 : Keep h0 T182.heap [] := Keep.trans K181 K182 (allS (Or.inr sz_b170) (allS (Or.inr sz_b102_172) all0))
      have N182 := Fr.app N180 N182q
      refine Go.tr st182 ?_
      show Go _ _ _ _ _ _ _ (T182.setTop (mkF m 70 #[.val (.int a1), .val (.int b1), .val (.int c1), .val (.int k1), .val (.int s1), .val (.int q1), .val (.int (2 : Int32)), .val (.int (1 : Int32)), .val (.ref b170), .unset] []))
      refine Go.by (fun _ kont => XS.iload X182.here hx rfl (hb hby at_70) rfl (XS.iconst X182.here hx rfl (hb hby at_72) kont)) ?_
      show Go _ _ _ _ _ _ _ (T182.setTop (mkF m 73 #[.val (.int a1), .val (.int b1), .val (.int c1), .val (.int k1), .val (.int s1), .val (.int q1), .val (.int (2 : Int32)), .val (.int (1 : Int32)), .val (.ref b170), .unset] [(.int (2 : Int32)), (.int (2 : Int32))]))
      refine Go.by (fun _ kont => XS.icmpNo X182.here hx rfl (hb hby at_73) rfl (by decide) kont) ?_
      show Go _ _ _ _ _ _ _ (T182.setTop (mkF m 76 #[.val (.int a1), .val (.int b1), .val (.int c1), .val (.int k1), .val (.int s1), .val (.int q1), .val (.int (2 : Int32)), .val (.int (1 : Int32)), .val (.ref b170), .unset] []))
      refine Go.by (fun _ kont => XS.aload X182.here hx rfl (hb hby at_76) rfl rfl (XS.iloadN X182.here hx rfl (hb hby at_78) rfl kont)) ?_
      show Go _ _ _ _ _ _ _ (T182.setTop (mkF m 79 #[.val (.int a1), .val (.int b1), .val (.int c1), .val (.int k1), .val (.int s1), .val (.int q1), .val (.int (2 : Int32)), .val (.int (1 : Int32)), .val (.ref b170), .unset] [(.int b1), (.ref b170)]))
      obtain ⟨cq184, kq184, q184a, q184b, q184c⟩ := isOf hZ rfl g182_0
      obtain ⟨_, _, ⟨T184, L184, k184, n184⟩, -, X184, ⟨Lc184, hQ184, l184, y184, z184⟩, st184⟩ := X182.virtualBack hx (y := (⟨"com/example/quorumsmith/quorumsmith/protocols/quorum/IntList", "add", "(I)V"⟩ : MethodName)) (z := (⟨"com/example/quorumsmith/quorumsmith/protocols/quorum/IntList", "add", "(I)V"⟩ : MethodName)) hown (mvT hZ (hw _ (List.mem_of_getElem? (i := 12) rfl))) (mvT hZ (hw _ (List.mem_of_getElem? (i := 13) rfl))) (notFace_of_selects (args := #[]) (mvT hZ (hw _ (List.mem_of_getElem? (i := 15) rfl)))) (mvT hZ (hw _ (List.mem_of_getElem? (i := 15) rfl))) (mvT hZ (hw _ (List.mem_of_getElem? (i := 14) rfl))) (by decide) (backOf (W := 0) (rmA1 l Z a0 hw [] b170 b1 b102_172 k102_172 a1 s1 s1 T182.heap n0 Z183 g182_0 g182_1 g182_2 g182_3 ne_b170_b102_172 ge_b170 ge_b102_172) hZ (hw _ (List.mem_of_getElem? (i := 16) rfl)) (hw _ (List.mem_of_getElem? (i := 2) rfl)) (by decide) (by decide)) q184a q184c (g := (mkF m 79 #[.val (.int a1), .val (.int b1), .val (.int c1), .val (.int k1), .val (.int s1), .val (.int q1), .val (.int (2 : Int32)), .val (.int (1 : Int32)), .val (.ref b170), .unset] [(.int b1), (.ref b170)])) rfl (by rw [hml]; rfl) (Steps.refl _) (argsL := [(.int b1)]) (rest := []) (lenOf pd0_2 rfl) rfl (by show 2 * 0 + _ ≤ _; exact Nat.le_of_eq rfl) (hb hby at_79) (fun _ _ => ⟨rfl, rfl, (by decide : 2 + 0 ≤ _), (by decide : 18 + 0 ≤ _)⟩)
      dsimp only [Pt.U, Pt.locs, Pt.cells, Pt.slots] at X184 l184 y184 z184 st184 hQ184
      subst l184 y184 z184
      obtain ⟨rfl, N184q, K184, g184_0, g184_1, g184_2, g184_3⟩ := hQ184
      have E185_b170 := g182_0.keep K184
      have Z185 := Nat.le_trans Z183 K184.1
      have K185 : Keep h0 T184.heap [] := Keep.trans K183 K184 (allS (Or.inr sz_b170) (allS (Or.inr sz_b102_172) all0))
      have N184 := Fr.app N182 N184q
      refine Go.tr st184 ?_
      show Go _ _ _ _ _ _ _ (T184.setTop (mkF m 82 #[.val (.int a1), .val (.int b1), .val (.int c1), .val (.int k1), .val (.int s1), .val (.int q1), .val (.int (2 : Int32)), .val (.int (1 : Int32)), .val (.ref b170), .unset] []))
      refine Go.by (fun _ kont => XS.iload X184.here hx rfl (hb hby at_82) rfl (XS.iconst X184.here hx rfl (hb hby at_84) kont)) ?_
      show Go _ _ _ _ _ _ _ (T184.setTop (mkF m 85 #[.val (.int a1), .val (.int b1), .val (.int c1), .val (.int k1), .val (.int s1), .val (.int q1), .val (.int (2 : Int32)), .val (.int (1 : Int32)), .val (.ref b170), .unset] [(.int (3 : Int32)), (.int (2 : Int32))]))
      refine Go.by (fun _ kont => XS.icmpYes X184.here hx rfl (pc0 := 85) (pc' := 94) rfl (hb hby at_85) rfl (by decide) (by decide) (by decide) kont) ?_
      show Go _ _ _ _ _ _ _ (T184.setTop (mkF m 94 #[.val (.int a1), .val (.int b1), .val (.int c1), .val (.int k1), .val (.int s1), .val (.int q1), .val (.int (2 : Int32)), .val (.int (1 : Int32)), .val (.ref b170), .unset] []))
      refine Go.by (fun _ kont => XS.iload X184.here hx rfl (hb hby at_94) rfl (XS.iconst X184.here hx rfl (hb hby at_96) kont)) ?_
      show Go _ _ _ _ _ _ _ (T184.setTop (mkF m 97 #[.val (.int a1), .val (.int b1), .val (.int c1), .val (.int k1), .val (.int s1), .val (.int q1), .val (.int (2 : Int32)), .val (.int (1 : Int32)), .val (.ref b170), .unset] [(.int (1 : Int32)), (.int (2 : Int32))]))
      refine Go.by (fun _ kont => XS.icmpNo X184.here hx rfl (hb hby at_97) rfl (by decide) kont) ?_
      show Go _ _ _ _ _ _ _ (T184.setTop (mkF m 100 #[.val (.int a1), .val (.int b1), .val (.int c1), .val (.int k1), .val (.int s1), .val (.int q1), .val (.int (2 : Int32)), .val (.int (1 : Int32)), .val (.ref b170), .unset] []))
      refine Go.by (fun _ kont => XS.iload X184.here hx rfl (hb hby at_100) rfl (XS.iloadN X184.here hx rfl (hb hby at_102) rfl kont)) ?_
      show Go _ _ _ _ _ _ _ (T184.setTop (mkF m 103 #[.val (.int a1), .val (.int b1), .val (.int c1), .val (.int k1), .val (.int s1), .val (.int q1), .val (.int (2 : Int32)), .val (.int (1 : Int32)), .val (.ref b170), .unset] [(.int a1), (.int q1)]))
      by_cases hc186 : q1 = a1
      · refine Go.by (fun _ kont => XS.icmpYes X184.here hx rfl (pc0 := 103) (pc' := 130) rfl (hb hby at_103) rfl (teq hc186).1 (by decide) (by decide) kont) ?_
        show Go _ _ _ _ _ _ _ (T184.setTop (mkF m 130 #[.val (.int a1), .val (.int b1), .val (.int c1), .val (.int k1), .val (.int s1), .val (.int q1), .val (.int (2 : Int32)), .val (.int (1 : Int32)), .val (.ref b170), .unset] []))
        refine Go.by (fun _ kont => XS.iconst X184.here hx rfl (hb hby at_130) (XS.goto X184.here hx rfl (pc0 := 131) (pc' := 135) rfl (hb hby at_131) (by decide) (by decide) (XS.istore X184.here hx rfl (hb hby at_135) rfl (l' := #[.val (.int a1), .val (.int b1), .val (.int c1), .val (.int k1), .val (.int s1), .val (.int q1), .val (.int (2 : Int32)), .val (.int (1 : Int32)), .val (.ref b170), .val (.int (1 : Int32))]) rfl (XS.aload X184.here hx rfl (hb hby at_137) rfl rfl (XS.iload X184.here hx rfl (hb hby at_139) rfl kont))))) ?_
        show Go _ _ _ _ _ _ _ (T184.setTop (mkF m 141 #[.val (.int a1), .val (.int b1), .val (.int c1), .val (.int k1), .val (.int s1), .val (.int q1), .val (.int (2 : Int32)), .val (.int (1 : Int32)), .val (.ref b170), .val (.int (1 : Int32))] [(.int q1), (.ref b170)]))
        obtain ⟨cq187, kq187, q187a, q187b, q187c⟩ := isOf hZ rfl g184_0
        obtain ⟨_, _, ⟨T187, L187, k187, n187⟩, -, X187, ⟨Lc187, hQ187, l187, y187, z187⟩, st187⟩ := X184.virtualBack hx (y := (⟨"com/example/quorumsmith/quorumsmith/protocols/quorum/IntList", "contains", "(I)Z"⟩ : MethodName)) (z := (⟨"com/example/quorumsmith/quorumsmith/protocols/quorum/IntList", "contains", "(I)Z"⟩ : MethodName)) hown (mvT hZ (hw _ (List.mem_of_getElem? (i := 19) rfl))) (mvT hZ (hw _ (List.mem_of_getElem? (i := 20) rfl))) (notFace_of_selects (args := #[]) (mvT hZ (hw _ (List.mem_of_getElem? (i := 22) rfl)))) (mvT hZ (hw _ (List.mem_of_getElem? (i := 22) rfl))) (mvT hZ (hw _ (List.mem_of_getElem? (i := 21) rfl))) (by decide) (backOf (W := 0) (rmD2 l Z a0 hw [] b170 q1 b102_172 k102_172 a1 b1 s1 T184.heap n0 Z185 g184_1 g184_2 g184_3) hZ (hw _ (List.mem_of_getElem? (i := 23) rfl)) (hw _ (List.mem_of_getElem? (i := 2) rfl)) (by decide) (by decide)) q187a q187c (g := (mkF m 141 #[.val (.int a1), .val (.int b1), .val (.int c1), .val (.int k1), .val (.int s1), .val (.int q1), .val (.int (2 : Int32)), .val (.int (1 : Int32)), .val (.ref b170), .val (.int (1 : Int32))] [(.int q1), (.ref b170)])) rfl (by rw [hml]; rfl) (Steps.refl _) (argsL := [(.int q1)]) (rest := []) (lenOf pd0_1 rfl) rfl (by show 2 * 0 + _ ≤ _; exact Nat.le_of_eq rfl) (hb hby at_141) (fun _ _ => ⟨rfl, rfl, (by decide : 2 + 0 ≤ _), (by decide : 18 + 0 ≤ _)⟩)
        dsimp only [Pt.U, Pt.locs, Pt.cells, Pt.slots] at X187 l187 y187 z187 st187 hQ187
        subst l187 y187 z187
        obtain ⟨rfl, N187q, eh187⟩ := hQ187
        have N187 := Fr.app N184 N187q
        refine Go.tr st187 ?_
        show Go _ _ _ _ _ _ _ (T187.setTop (mkF m 144 #[.val (.int a1), .val (.int b1), .val (.int c1), .val (.int k1), .val (.int s1), .val (.int q1), .val (.int (2 : Int32)), .val (.int (1 : Int32)), .val (.ref b170), .val (.int (1 : Int32))] [(.int (fD2 q1 a1 b1))]))
        refine Go.by (fun _ kont => XS.iload X187.here hx rfl (hb hby at_144) rfl kont) ?_
        show Go _ _ _ _ _ _ _ (T187.setTop (mkF m 146 #[.val (.int a1), .val (.int b1), .val (.int c1), .val (.int k1), .val (.int s1), .val (.int q1), .val (.int (2 : Int32)), .val (.int (1 : Int32)), .val (.ref b170), .val (.int (1 : Int32))] [(.int (1 : Int32)), (.int (fD2 q1 a1 b1))]))
        have hd188 : (fD2 q1 a1 b1) = (1 : Int32) := by unfold fD2; rw [if_pos hc186.symm]
        refine Go.by (fun _ kont => XS.icmpNo X187.here hx rfl (hb hby at_146) rfl (teq hd188).2 kont) ?_
        show Go _ _ _ _ _ _ _ (T187.setTop (mkF m 149 #[.val (.int a1), .val (.int b1), .val (.int c1), .val (.int k1), .val (.int s1), .val (.int q1), .val (.int (2 : Int32)), .val (.int (1 : Int32)), .val (.ref b170), .val (.int (1 : Int32))] []))
        refine Go.by (fun _ kont => XS.iconst X187.here hx rfl (hb hby at_149) (XS.goto X187.here hx rfl (pc0 := 150) (pc' := 154) rfl (hb hby at_150) (by decide) (by decide) kont)) ?_
        show Go _ _ _ _ _ _ _ (T187.setTop (mkF m 154 #[.val (.int a1), .val (.int b1), .val (.int c1), .val (.int k1), .val (.int s1), .val (.int q1), .val (.int (2 : Int32)), .val (.int (1 : Int32)), .val (.ref b170), .val (.int (1 : Int32))] [(.int (1 : Int32))]))
        refine Go.retN X187 hx (t := .boolean) hret (by simp) hlk (hb hby at_154) ?_ (by decide) (by decide)
        show Q0 Z h0 n0 (some (.int (1 : Int32))) T187.heap _
        rw [eh187]
        exact ⟨rfl, N187⟩
      · refine Go.by (fun _ kont => XS.icmpNo X184.here hx rfl (hb hby at_103) rfl (feq hc186).1 kont) ?_
        show Go _ _ _ _ _ _ _ (T184.setTop (mkF m 106 #[.val (.int a1), .val (.int b1), .val (.int c1), .val (.int k1), .val (.int s1), .val (.int q1), .val (.int (2 : Int32)), .val (.int (1 : Int32)), .val (.ref b170), .unset] []))
        refine Go.by (fun _ kont => XS.iload X184.here hx rfl (hb hby at_106) rfl (XS.iconst X184.here hx rfl (hb hby at_108) kont)) ?_
        show Go _ _ _ _ _ _ _ (T184.setTop (mkF m 109 #[.val (.int a1), .val (.int b1), .val (.int c1), .val (.int k1), .val (.int s1), .val (.int q1), .val (.int (2 : Int32)), .val (.int (1 : Int32)), .val (.ref b170), .unset] [(.int (2 : Int32)), (.int (2 : Int32))]))
        refine Go.by (fun _ kont => XS.icmpNo X184.here hx rfl (hb hby at_109) rfl (by decide) kont) ?_
        show Go _ _ _ _ _ _ _ (T184.setTop (mkF m 112 #[.val (.int a1), .val (.int b1), .val (.int c1), .val (.int k1), .val (.int s1), .val (.int q1), .val (.int (2 : Int32)), .val (.int (1 : Int32)), .val (.ref b170), .unset] []))
        refine Go.by (fun _ kont => XS.iload X184.here hx rfl (hb hby at_112) rfl (XS.iloadN X184.here hx rfl (hb hby at_114) rfl kont)) ?_
        show Go _ _ _ _ _ _ _ (T184.setTop (mkF m 115 #[.val (.int a1), .val (.int b1), .val (.int c1), .val (.int k1), .val (.int s1), .val (.int q1), .val (.int (2 : Int32)), .val (.int (1 : Int32)), .val (.ref b170), .unset] [(.int b1), (.int q1)]))
        by_cases hc189 : q1 = b1
        · refine Go.by (fun _ kont => XS.icmpYes X184.here hx rfl (pc0 := 115) (pc' := 130) rfl (hb hby at_115) rfl (teq hc189).1 (by decide) (by decide) kont) ?_
          show Go _ _ _ _ _ _ _ (T184.setTop (mkF m 130 #[.val (.int a1), .val (.int b1), .val (.int c1), .val (.int k1), .val (.int s1), .val (.int q1), .val (.int (2 : Int32)), .val (.int (1 : Int32)), .val (.ref b170), .unset] []))
          refine Go.by (fun _ kont => XS.iconst X184.here hx rfl (hb hby at_130) (XS.goto X184.here hx rfl (pc0 := 131) (pc' := 135) rfl (hb hby at_131) (by decide) (by decide) (XS.istore X184.here hx rfl (hb hby at_135) rfl (l' := #[.val (.int a1), .val (.int b1), .val (.int c1), .val (.int k1), .val (.int s1), .val (.int q1), .val (.int (2 : Int32)), .val (.int (1 : Int32)), .val (.ref b170), .val (.int (1 : Int32))]) rfl (XS.aload X184.here hx rfl (hb hby at_137) rfl rfl (XS.iload X184.here hx rfl (hb hby at_139) rfl kont))))) ?_
          show Go _ _ _ _ _ _ _ (T184.setTop (mkF m 141 #[.val (.int a1), .val (.int b1), .val (.int c1), .val (.int k1), .val (.int s1), .val (.int q1), .val (.int (2 : Int32)), .val (.int (1 : Int32)), .val (.ref b170), .val (.int (1 : Int32))] [(.int q1), (.ref b170)]))
          obtain ⟨cq190, kq190, q190a, q190b, q190c⟩ := isOf hZ rfl g184_0
          obtain ⟨_, _, ⟨T190, L190, k190, n190⟩, -, X190, ⟨Lc190, hQ190, l190, y190, z190⟩, st190⟩ := X184.virtualBack hx (y := (⟨"com/example/quorumsmith/quorumsmith/protocols/quorum/IntList", "contains", "(I)Z"⟩ : MethodName)) (z := (⟨"com/example/quorumsmith/quorumsmith/protocols/quorum/IntList", "contains", "(I)Z"⟩ : MethodName)) hown (mvT hZ (hw _ (List.mem_of_getElem? (i := 19) rfl))) (mvT hZ (hw _ (List.mem_of_getElem? (i := 20) rfl))) (notFace_of_selects (args := #[]) (mvT hZ (hw _ (List.mem_of_getElem? (i := 22) rfl)))) (mvT hZ (hw _ (List.mem_of_getElem? (i := 22) rfl))) (mvT hZ (hw _ (List.mem_of_getElem? (i := 21) rfl))) (by decide) (backOf (W := 0) (rmD2 l Z a0 hw [] b170 q1 b102_172 k102_172 a1 b1 s1 T184.heap n0 Z185 g184_1 g184_2 g184_3) hZ (hw _ (List.mem_of_getElem? (i := 23) rfl)) (hw _ (List.mem_of_getElem? (i := 2) rfl)) (by decide) (by decide)) q190a q190c (g := (mkF m 141 #[.val (.int a1), .val (.int b1), .val (.int c1), .val (.int k1), .val (.int s1), .val (.int q1), .val (.int (2 : Int32)), .val (.int (1 : Int32)), .val (.ref b170), .val (.int (1 : Int32))] [(.int q1), (.ref b170)])) rfl (by rw [hml]; rfl) (Steps.refl _) (argsL := [(.int q1)]) (rest := []) (lenOf pd0_1 rfl) rfl (by show 2 * 0 + _ ≤ _; exact Nat.le_of_eq rfl) (hb hby at_141) (fun _ _ => ⟨rfl, rfl, (by decide : 2 + 0 ≤ _), (by decide : 18 + 0 ≤ _)⟩)
          dsimp only [Pt.U, Pt.locs, Pt.cells, Pt.slots] at X190 l190 y190 z190 st190 hQ190
          subst l190 y190 z190
          obtain ⟨rfl, N190q, eh190⟩ := hQ190
          have N190 := Fr.app N184 N190q
          refine Go.tr st190 ?_
          show Go _ _ _ _ _ _ _ (T190.setTop (mkF m 144 #[.val (.int a1), .val (.int b1), .val (.int c1), .val (.int k1), .val (.int s1), .val (.int q1), .val (.int (2 : Int32)), .val (.int (1 : Int32)), .val (.ref b170), .val (.int (1 : Int32))] [(.int (fD2 q1 a1 b1))]))
          refine Go.by (fun _ kont => XS.iload X190.here hx rfl (hb hby at_144) rfl kont) ?_
          show Go _ _ _ _ _ _ _ (T190.setTop (mkF m 146 #[.val (.int a1), .val (.int b1), .val (.int c1), .val (.int k1), .val (.int s1), .val (.int q1), .val (.int (2 : Int32)), .val (.int (1 : Int32)), .val (.ref b170), .val (.int (1 : Int32))] [(.int (1 : Int32)), (.int (fD2 q1 a1 b1))]))
          have hd191 : (fD2 q1 a1 b1) = (1 : Int32) := by unfold fD2; rw [if_neg (fun z => hc186 z.symm), if_pos hc189.symm]
          refine Go.by (fun _ kont => XS.icmpNo X190.here hx rfl (hb hby at_146) rfl (teq hd191).2 kont) ?_
          show Go _ _ _ _ _ _ _ (T190.setTop (mkF m 149 #[.val (.int a1), .val (.int b1), .val (.int c1), .val (.int k1), .val (.int s1), .val (.int q1), .val (.int (2 : Int32)), .val (.int (1 : Int32)), .val (.ref b170), .val (.int (1 : Int32))] []))
          refine Go.by (fun _ kont => XS.iconst X190.here hx rfl (hb hby at_149) (XS.goto X190.here hx rfl (pc0 := 150) (pc' := 154) rfl (hb hby at_150) (by decide) (by decide) kont)) ?_
          show Go _ _ _ _ _ _ _ (T190.setTop (mkF m 154 #[.val (.int a1), .val (.int b1), .val (.int c1), .val (.int k1), .val (.int s1), .val (.int q1), .val (.int (2 : Int32)), .val (.int (1 : Int32)), .val (.ref b170), .val (.int (1 : Int32))] [(.int (1 : Int32))]))
          refine Go.retN X190 hx (t := .boolean) hret (by simp) hlk (hb hby at_154) ?_ (by decide) (by decide)
          show Q0 Z h0 n0 (some (.int (1 : Int32))) T190.heap _
          rw [eh190]
          exact ⟨rfl, N190⟩
        · refine Go.by (fun _ kont => XS.icmpNo X184.here hx rfl (hb hby at_115) rfl (feq hc189).1 kont) ?_
          show Go _ _ _ _ _ _ _ (T184.setTop (mkF m 118 #[.val (.int a1), .val (.int b1), .val (.int c1), .val (.int k1), .val (.int s1), .val (.int q1), .val (.int (2 : Int32)), .val (.int (1 : Int32)), .val (.ref b170), .unset] []))
          refine Go.by (fun _ kont => XS.iload X184.here hx rfl (hb hby at_118) rfl (XS.iconst X184.here hx rfl (hb hby at_120) kont)) ?_
          show Go _ _ _ _ _ _ _ (T184.setTop (mkF m 121 #[.val (.int a1), .val (.int b1), .val (.int c1), .val (.int k1), .val (.int s1), .val (.int q1), .val (.int (2 : Int32)), .val (.int (1 : Int32)), .val (.ref b170), .unset] [(.int (3 : Int32)), (.int (2 : Int32))]))
          refine Go.by (fun _ kont => XS.icmpYes X184.here hx rfl (pc0 := 121) (pc' := 134) rfl (hb hby at_121) rfl (by decide) (by decide) (by decide) kont) ?_
          show Go _ _ _ _ _ _ _ (T184.setTop (mkF m 134 #[.val (.int a1), .val (.int b1), .val (.int c1), .val (.int k1), .val (.int s1), .val (.int q1), .val (.int (2 : Int32)), .val (.int (1 : Int32)), .val (.ref b170), .unset] []))
          refine Go.by (fun _ kont => XS.iconst X184.here hx rfl (hb hby at_134) (XS.istore X184.here hx rfl (hb hby at_135) rfl (l' := #[.val (.int a1), .val (.int b1), .val (.int c1), .val (.int k1), .val (.int s1), .val (.int q1), .val (.int (2 : Int32)), .val (.int (1 : Int32)), .val (.ref b170), .val (.int (0 : Int32))]) rfl (XS.aload X184.here hx rfl (hb hby at_137) rfl rfl (XS.iload X184.here hx rfl (hb hby at_139) rfl kont)))) ?_
          show Go _ _ _ _ _ _ _ (T184.setTop (mkF m 141 #[.val (.int a1), .val (.int b1), .val (.int c1), .val (.int k1), .val (.int s1), .val (.int q1), .val (.int (2 : Int32)), .val (.int (1 : Int32)), .val (.ref b170), .val (.int (0 : Int32))] [(.int q1), (.ref b170)]))
          obtain ⟨cq192, kq192, q192a, q192b, q192c⟩ := isOf hZ rfl g184_0
          obtain ⟨_, _, ⟨T192, L192, k192, n192⟩, -, X192, ⟨Lc192, hQ192, l192, y192, z192⟩, st192⟩ := X184.virtualBack hx (y := (⟨"com/example/quorumsmith/quorumsmith/protocols/quorum/IntList", "contains", "(I)Z"⟩ : MethodName)) (z := (⟨"com/example/quorumsmith/quorumsmith/protocols/quorum/IntList", "contains", "(I)Z"⟩ : MethodName)) hown (mvT hZ (hw _ (List.mem_of_getElem? (i := 19) rfl))) (mvT hZ (hw _ (List.mem_of_getElem? (i := 20) rfl))) (notFace_of_selects (args := #[]) (mvT hZ (hw _ (List.mem_of_getElem? (i := 22) rfl)))) (mvT hZ (hw _ (List.mem_of_getElem? (i := 22) rfl))) (mvT hZ (hw _ (List.mem_of_getElem? (i := 21) rfl))) (by decide) (backOf (W := 0) (rmD2 l Z a0 hw [] b170 q1 b102_172 k102_172 a1 b1 s1 T184.heap n0 Z185 g184_1 g184_2 g184_3) hZ (hw _ (List.mem_of_getElem? (i := 23) rfl)) (hw _ (List.mem_of_getElem? (i := 2) rfl)) (by decide) (by decide)) q192a q192c (g := (mkF m 141 #[.val (.int a1), .val (.int b1), .val (.int c1), .val (.int k1), .val (.int s1), .val (.int q1), .val (.int (2 : Int32)), .val (.int (1 : Int32)), .val (.ref b170), .val (.int (0 : Int32))] [(.int q1), (.ref b170)])) rfl (by rw [hml]; rfl) (Steps.refl _) (argsL := [(.int q1)]) (rest := []) (lenOf pd0_1 rfl) rfl (by show 2 * 0 + _ ≤ _; exact Nat.le_of_eq rfl) (hb hby at_141) (fun _ _ => ⟨rfl, rfl, (by decide : 2 + 0 ≤ _), (by decide : 18 + 0 ≤ _)⟩)
          dsimp only [Pt.U, Pt.locs, Pt.cells, Pt.slots] at X192 l192 y192 z192 st192 hQ192
          subst l192 y192 z192
          obtain ⟨rfl, N192q, eh192⟩ := hQ192
          have N192 := Fr.app N184 N192q
          refine Go.tr st192 ?_
          show Go _ _ _ _ _ _ _ (T192.setTop (mkF m 144 #[.val (.int a1), .val (.int b1), .val (.int c1), .val (.int k1), .val (.int s1), .val (.int q1), .val (.int (2 : Int32)), .val (.int (1 : Int32)), .val (.ref b170), .val (.int (0 : Int32))] [(.int (fD2 q1 a1 b1))]))
          refine Go.by (fun _ kont => XS.iload X192.here hx rfl (hb hby at_144) rfl kont) ?_
          show Go _ _ _ _ _ _ _ (T192.setTop (mkF m 146 #[.val (.int a1), .val (.int b1), .val (.int c1), .val (.int k1), .val (.int s1), .val (.int q1), .val (.int (2 : Int32)), .val (.int (1 : Int32)), .val (.ref b170), .val (.int (0 : Int32))] [(.int (0 : Int32)), (.int (fD2 q1 a1 b1))]))
          have hd193 : (fD2 q1 a1 b1) = (0 : Int32) := by unfold fD2; rw [if_neg (fun z => hc186 z.symm), if_neg (fun z => hc189 z.symm)]
          refine Go.by (fun _ kont => XS.icmpNo X192.here hx rfl (hb hby at_146) rfl (teq hd193).2 kont) ?_
          show Go _ _ _ _ _ _ _ (T192.setTop (mkF m 149 #[.val (.int a1), .val (.int b1), .val (.int c1), .val (.int k1), .val (.int s1), .val (.int q1), .val (.int (2 : Int32)), .val (.int (1 : Int32)), .val (.ref b170), .val (.int (0 : Int32))] []))
          refine Go.by (fun _ kont => XS.iconst X192.here hx rfl (hb hby at_149) (XS.goto X192.here hx rfl (pc0 := 150) (pc' := 154) rfl (hb hby at_150) (by decide) (by decide) kont)) ?_
          show Go _ _ _ _ _ _ _ (T192.setTop (mkF m 154 #[.val (.int a1), .val (.int b1), .val (.int c1), .val (.int k1), .val (.int s1), .val (.int q1), .val (.int (2 : Int32)), .val (.int (1 : Int32)), .val (.ref b170), .val (.int (0 : Int32))] [(.int (1 : Int32))]))
          refine Go.retN X192 hx (t := .boolean) hret (by simp) hlk (hb hby at_154) ?_ (by decide) (by decide)
          show Q0 Z h0 n0 (some (.int (1 : Int32))) T192.heap _
          rw [eh192]
          exact ⟨rfl, N192⟩
  · show Go _ _ _ _ _ _ _ (s₁.setTop (mkF m 5 #[.val (.int a1), .val (.int b1), .val (.int c1), .val (.int k1), .val (.int s1), .val (.int q1), .val (.int (3 : Int32)), .unset, .unset, .unset] []))
    refine Go.by (fun _ kont => XS.iloadN X0.here hx rfl (hb hby at_5) rfl (XS.iconst X0.here hx rfl (hb hby at_6) (XS.iand X0.here hx rfl (hb hby at_7) rfl kont))) ?_
    show Go _ _ _ _ _ _ _ (s₁.setTop (mkF m 8 #[.val (.int a1), .val (.int b1), .val (.int c1), .val (.int k1), .val (.int s1), .val (.int q1), .val (.int (3 : Int32)), .unset, .unset, .unset] [(.int (k1 &&& (4 : Int32)))]))
    by_cases hc194 : (k1 &&& (4 : Int32)) = (0 : Int32)
    · refine Go.by (fun _ kont => XS.ifYes X0.here hx rfl (pc0 := 8) (pc' := 15) rfl (hb hby at_8) rfl ((if0 _ _).trans (teq hc194).1) (by decide) (by decide) kont) ?_
      show Go _ _ _ _ _ _ _ (s₁.setTop (mkF m 15 #[.val (.int a1), .val (.int b1), .val (.int c1), .val (.int k1), .val (.int s1), .val (.int q1), .val (.int (3 : Int32)), .unset, .unset, .unset] []))
      refine Go.by (fun _ kont => XS.iconst X0.here hx rfl (hb hby at_15) (XS.istore X0.here hx rfl (hb hby at_16) rfl (l' := #[.val (.int a1), .val (.int b1), .val (.int c1), .val (.int k1), .val (.int s1), .val (.int q1), .val (.int (3 : Int32)), .val (.int (0 : Int32)), .unset, .unset]) rfl kont)) ?_
      show Go _ _ _ _ _ _ _ (s₁.setTop (mkF m 18 #[.val (.int a1), .val (.int b1), .val (.int c1), .val (.int k1), .val (.int s1), .val (.int q1), .val (.int (3 : Int32)), .val (.int (0 : Int32)), .unset, .unset] []))
      obtain ⟨T195, h195, X195, e195, X_195, A195, D195, -, st195⟩ := newO X0 hx hZ hown (hw _ (List.mem_of_getElem? (i := 0) rfl)) (hw _ (List.mem_of_getElem? (i := 1) rfl)) (hw _ (List.mem_of_getElem? (i := 2) rfl)) e0 (g := (mkF m 18 #[.val (.int a1), .val (.int b1), .val (.int c1), .val (.int k1), .val (.int s1), .val (.int q1), .val (.int (3 : Int32)), .val (.int (0 : Int32)), .unset, .unset] [])) rfl (hb hby at_18) (by decide) (by decide)
      obtain ⟨b195, g195⟩ : ∃ z, z = h0.size := ⟨_, rfl⟩
      rw [← g195] at A195 D195 st195
      have ge_b195 : n0 ≤ b195 := Nat.le_trans Z0 (Nat.le_of_eq g195.symm)
      have sz_b195 : h0.size ≤ b195 := Nat.le_trans (Keep.refl h0 []).1 (Nat.le_of_eq g195.symm)
      have Z196 := Nat.le_trans Z0 X_195.1
      have K196 : Keep h0 h195 [] := (Keep.refl h0 []).ext X_195
      have F195_values : Fld Z h195 b195 "com/example/quorumsmith/quorumsmith/protocols/quorum/IntList" "values" "[I" .null := D195 (Or.inl (hw _ (List.mem_of_getElem? (i := 11) rfl))) (ty := (.array .int)) (by decide)
      have F195_size : Fld Z h195 b195 "com/example/quorumsmith/quorumsmith/protocols/quorum/IntList" "size" "I" (.int (0 : Int32)) := D195 (Or.inl (hw _ (List.mem_of_getElem? (i := 18) rfl))) (ty := .int) (by decide)
      refine Go.by st195 ?_
      show Go _ _ _ _ _ _ _ (T195.setTop (mkF m 21 #[.val (.int a1), .val (.int b1), .val (.int c1), .val (.int k1), .val (.int s1), .val (.int q1), .val (.int (3 : Int32)), .val (.int (0 : Int32)), .unset, .unset] [(.ref b195)]))
      refine Go.by (fun _ kont => XS.dup X195.here hx rfl (hb hby at_21) rfl rfl kont) ?_
      show Go _ _ _ _ _ _ _ (T195.setTop (mkF m 22 #[.val (.int a1), .val (.int b1), .val (.int c1), .val (.int k1), .val (.int s1), .val (.int q1), .val (.int (3 : Int32)), .val (.int (0 : Int32)), .unset, .unset] [(.ref b195), (.ref b195)]))
      obtain ⟨_, _, ⟨T197, L197, k197, n197⟩, -, X197, ⟨Lc197, hQ197, l197, y197, z197⟩, st197⟩ := X195.specialBack hx (y := (⟨"com/example/quorumsmith/quorumsmith/protocols/quorum/IntList", "<init>", "()V"⟩ : MethodName)) rfl hown (mvT hZ (hw _ (List.mem_of_getElem? (i := 3) rfl))) (mvT hZ (hw _ (List.mem_of_getElem? (i := 4) rfl))) (mvT hZ (hw _ (List.mem_of_getElem? (i := 5) rfl))) (by decide) (backOf (W := 1) (rmI l Z a0 hw [] b195 h195 n0 Z196 A195 F195_values F195_size ge_b195) hZ (hw _ (List.mem_of_getElem? (i := 5) rfl)) (hw _ (List.mem_of_getElem? (i := 2) rfl)) (by decide) (by decide)) (g := (mkF m 22 #[.val (.int a1), .val (.int b1), .val (.int c1), .val (.int k1), .val (.int s1), .val (.int q1), .val (.int (3 : Int32)), .val (.int (0 : Int32)), .unset, .unset] [(.ref b195), (.ref b195)])) rfl (by rw [hml]; rfl) (Steps.refl _) (a := b195) (argsL := []) (rest := [(.ref b195)]) (lenOf pd0_0 rfl) rfl (by show 2 * 0 + _ ≤ _; exact Nat.le_of_eq rfl) (hb hby at_22) (fun _ _ => ⟨rfl, e195, (by decide : 1 + 1 ≤ _), (by decide : 2 + 16 ≤ _)⟩)
      dsimp only [Pt.U, Pt.locs, Pt.cells, Pt.slots] at X197 l197 y197 z197 st197 hQ197
      subst l197 y197 z197
      obtain ⟨b102_197, k102_197, rfl, N197q, K197, g197_0, g197_1, g197_2, ge_b102_197, szc_b102_197, g197_3⟩ := hQ197
      have ne_b195_b102_197 : b195 ≠ b102_197 := Nat.ne_of_lt (Nat.lt_of_lt_of_le F195_values.lt szc_b102_197)
      have sz_b102_197 : h0.size ≤ b102_197 := Nat.le_trans K196.1 szc_b102_197
      have E198_b195 := A195.keep K197
      have Z198 := Nat.le_trans Z196 K197.1
      have K198 : Keep h0 T197.heap [] := Keep.trans K196 K197 (allS (Or.inr sz_b195) all0)
      have N197 := Fr.app N0 N197q
      refine Go.tr st197 ?_
      show Go _ _ _ _ _ _ _ (T197.setTop (mkF m 25 #[.val (.int a1), .val (.int b1), .val (.int c1), .val (.int k1), .val (.int s1), .val (.int q1), .val (.int (3 : Int32)), .val (.int (0 : Int32)), .unset, .unset] [(.ref b195)]))
      refine Go.by (fun _ kont => XS.astore X197.here hx rfl (hb hby at_25) rfl rfl (l' := #[.val (.int a1), .val (.int b1), .val (.int c1), .val (.int k1), .val (.int s1), .val (.int q1), .val (.int (3 : Int32)), .val (.int (0 : Int32)), .val (.ref b195), .unset]) rfl (XS.iload X197.here hx rfl (hb hby at_27) rfl kont)) ?_
      show Go _ _ _ _ _ _ _ (T197.setTop (mkF m 29 #[.val (.int a1), .val (.int b1), .val (.int c1), .val (.int k1), .val (.int s1), .val (.int q1), .val (.int (3 : Int32)), .val (.int (0 : Int32)), .val (.ref b195), .unset] [(.int (0 : Int32))]))
      refine Go.by (fun _ kont => XS.ifYes X197.here hx rfl (pc0 := 29) (pc' := 58) rfl (hb hby at_29) rfl (by decide) (by decide) (by decide) kont) ?_
      show Go _ _ _ _ _ _ _ (T197.setTop (mkF m 58 #[.val (.int a1), .val (.int b1), .val (.int c1), .val (.int k1), .val (.int s1), .val (.int q1), .val (.int (3 : Int32)), .val (.int (0 : Int32)), .val (.ref b195), .unset] []))
      refine Go.by (fun _ kont => XS.iload X197.here hx rfl (hb hby at_58) rfl (XS.iconst X197.here hx rfl (hb hby at_60) kont)) ?_
      show Go _ _ _ _ _ _ _ (T197.setTop (mkF m 61 #[.val (.int a1), .val (.int b1), .val (.int c1), .val (.int k1), .val (.int s1), .val (.int q1), .val (.int (3 : Int32)), .val (.int (0 : Int32)), .val (.ref b195), .unset] [(.int (1 : Int32)), (.int (3 : Int32))]))
      refine Go.by (fun _ kont => XS.icmpNo X197.here hx rfl (hb hby at_61) rfl (by decide) kont) ?_
      show Go _ _ _ _ _ _ _ (T197.setTop (mkF m 64 #[.val (.int a1), .val (.int b1), .val (.int c1), .val (.int k1), .val (.int s1), .val (.int q1), .val (.int (3 : Int32)), .val (.int (0 : Int32)), .val (.ref b195), .unset] []))
      refine Go.by (fun _ kont => XS.aload X197.here hx rfl (hb hby at_64) rfl rfl (XS.iloadN X197.here hx rfl (hb hby at_66) rfl kont)) ?_
      show Go _ _ _ _ _ _ _ (T197.setTop (mkF m 67 #[.val (.int a1), .val (.int b1), .val (.int c1), .val (.int k1), .val (.int s1), .val (.int q1), .val (.int (3 : Int32)), .val (.int (0 : Int32)), .val (.ref b195), .unset] [(.int a1), (.ref b195)]))
      obtain ⟨cq199, kq199, q199a, q199b, q199c⟩ := isOf hZ rfl g197_0
      obtain ⟨_, _, ⟨T199, L199, k199, n199⟩, -, X199, ⟨Lc199, hQ199, l199, y199, z199⟩, st199⟩ := X197.virtualBack hx (y := (⟨"com/example/quorumsmith/quorumsmith/protocols/quorum/IntList", "add", "(I)V"⟩ : MethodName)) (z := (⟨"com/example/quorumsmith/quorumsmith/protocols/quorum/IntList", "add", "(I)V"⟩ : MethodName)) hown (mvT hZ (hw _ (List.mem_of_getElem? (i := 12) rfl))) (mvT hZ (hw _ (List.mem_of_getElem? (i := 13) rfl))) (notFace_of_selects (args := #[]) (mvT hZ (hw _ (List.mem_of_getElem? (i := 15) rfl)))) (mvT hZ (hw _ (List.mem_of_getElem? (i := 15) rfl))) (mvT hZ (hw _ (List.mem_of_getElem? (i := 14) rfl))) (by decide) (backOf (W := 0) (rmA0 l Z a0 hw [] b195 a1 b102_197 k102_197 (0 : Int32) (0 : Int32) (0 : Int32) T197.heap n0 Z198 g197_0 g197_1 g197_2 g197_3 ne_b195_b102_197 ge_b195 ge_b102_197) hZ (hw _ (List.mem_of_getElem? (i := 16) rfl)) (hw _ (List.mem_of_getElem? (i := 2) rfl)) (by decide) (by decide)) q199a q199c (g := (mkF m 67 #[.val (.int a1), .val (.int b1), .val (.int c1), .val (.int k1), .val (.int s1), .val (.int q1), .val (.int (3 : Int32)), .val (.int (0 : Int32)), .val (.ref b195), .unset] [(.int a1), (.ref b195)])) rfl (by rw [hml]; rfl) (Steps.refl _) (argsL := [(.int a1)]) (rest := []) (lenOf pd0_2 rfl) rfl (by show 2 * 0 + _ ≤ _; exact Nat.le_of_eq rfl) (hb hby at_67) (fun _ _ => ⟨rfl, rfl, (by decide : 2 + 0 ≤ _), (by decide : 18 + 0 ≤ _)⟩)
      dsimp only [Pt.U, Pt.locs, Pt.cells, Pt.slots] at X199 l199 y199 z199 st199 hQ199
      subst l199 y199 z199
      obtain ⟨rfl, N199q, K199, g199_0, g199_1, g199_2, g199_3⟩ := hQ199
      have E200_b195 := g197_0.keep K199
      have Z200 := Nat.le_trans Z198 K199.1
      have K200 : Keep h0 T199.heap [] := Keep.trans K198 K199 (allS (Or.inr sz_b195) (allS (Or.inr sz_b102_197) all0))
      have N199 := Fr.app N197 N199q
      refine Go.tr st199 ?_
      show Go _ _ _ _ _ _ _ (T199.setTop (mkF m 70 #[.val (.int a1), .val (.int b1), .val (.int c1), .val (.int k1), .val (.int s1), .val (.int q1), .val (.int (3 : Int32)), .val (.int (0 : Int32)), .val (.ref b195), .unset] []))
      refine Go.by (fun _ kont => XS.iload X199.here hx rfl (hb hby at_70) rfl (XS.iconst X199.here hx rfl (hb hby at_72) kont)) ?_
      show Go _ _ _ _ _ _ _ (T199.setTop (mkF m 73 #[.val (.int a1), .val (.int b1), .val (.int c1), .val (.int k1), .val (.int s1), .val (.int q1), .val (.int (3 : Int32)), .val (.int (0 : Int32)), .val (.ref b195), .unset] [(.int (2 : Int32)), (.int (3 : Int32))]))
      refine Go.by (fun _ kont => XS.icmpNo X199.here hx rfl (hb hby at_73) rfl (by decide) kont) ?_
      show Go _ _ _ _ _ _ _ (T199.setTop (mkF m 76 #[.val (.int a1), .val (.int b1), .val (.int c1), .val (.int k1), .val (.int s1), .val (.int q1), .val (.int (3 : Int32)), .val (.int (0 : Int32)), .val (.ref b195), .unset] []))
      refine Go.by (fun _ kont => XS.aload X199.here hx rfl (hb hby at_76) rfl rfl (XS.iloadN X199.here hx rfl (hb hby at_78) rfl kont)) ?_
      show Go _ _ _ _ _ _ _ (T199.setTop (mkF m 79 #[.val (.int a1), .val (.int b1), .val (.int c1), .val (.int k1), .val (.int s1), .val (.int q1), .val (.int (3 : Int32)), .val (.int (0 : Int32)), .val (.ref b195), .unset] [(.int b1), (.ref b195)]))
      obtain ⟨cq201, kq201, q201a, q201b, q201c⟩ := isOf hZ rfl g199_0
      obtain ⟨_, _, ⟨T201, L201, k201, n201⟩, -, X201, ⟨Lc201, hQ201, l201, y201, z201⟩, st201⟩ := X199.virtualBack hx (y := (⟨"com/example/quorumsmith/quorumsmith/protocols/quorum/IntList", "add", "(I)V"⟩ : MethodName)) (z := (⟨"com/example/quorumsmith/quorumsmith/protocols/quorum/IntList", "add", "(I)V"⟩ : MethodName)) hown (mvT hZ (hw _ (List.mem_of_getElem? (i := 12) rfl))) (mvT hZ (hw _ (List.mem_of_getElem? (i := 13) rfl))) (notFace_of_selects (args := #[]) (mvT hZ (hw _ (List.mem_of_getElem? (i := 15) rfl)))) (mvT hZ (hw _ (List.mem_of_getElem? (i := 15) rfl))) (mvT hZ (hw _ (List.mem_of_getElem? (i := 14) rfl))) (by decide) (backOf (W := 0) (rmA1 l Z a0 hw [] b195 b1 b102_197 k102_197 a1 (0 : Int32) (0 : Int32) T199.heap n0 Z200 g199_0 g199_1 g199_2 g199_3 ne_b195_b102_197 ge_b195 ge_b102_197) hZ (hw _ (List.mem_of_getElem? (i := 16) rfl)) (hw _ (List.mem_of_getElem? (i := 2) rfl)) (by decide) (by decide)) q201a q201c (g := (mkF m 79 #[.val (.int a1), .val (.int b1), .val (.int c1), .val (.int k1), .val (.int s1), .val (.int q1), .val (.int (3 : Int32)), .val (.int (0 : Int32)), .val (.ref b195), .unset] [(.int b1), (.ref b195)])) rfl (by rw [hml]; rfl) (Steps.refl _) (argsL := [(.int b1)]) (rest := []) (lenOf pd0_2 rfl) rfl (by show 2 * 0 + _ ≤ _; exact Nat.le_of_eq rfl) (hb hby at_79) (fun _ _ => ⟨rfl, rfl, (by decide : 2 + 0 ≤ _), (by decide : 18 + 0 ≤ _)⟩)
      dsimp only [Pt.U, Pt.locs, Pt.cells, Pt.slots] at X201 l201 y201 z201 st201 hQ201
      subst l201 y201 z201
      obtain ⟨rfl, N201q, K201, g201_0, g201_1, g201_2, g201_3⟩ := hQ201
      have E202_b195 := g199_0.keep K201
      have Z202 := Nat.le_trans Z200 K201.1
      have K202 : Keep h0 T201.heap [] := Keep.trans K200 K201 (allS (Or.inr sz_b195) (allS (Or.inr sz_b102_197) all0))
      have N201 := Fr.app N199 N201q
      refine Go.tr st201 ?_
      show Go _ _ _ _ _ _ _ (T201.setTop (mkF m 82 #[.val (.int a1), .val (.int b1), .val (.int c1), .val (.int k1), .val (.int s1), .val (.int q1), .val (.int (3 : Int32)), .val (.int (0 : Int32)), .val (.ref b195), .unset] []))
      refine Go.by (fun _ kont => XS.iload X201.here hx rfl (hb hby at_82) rfl (XS.iconst X201.here hx rfl (hb hby at_84) kont)) ?_
      show Go _ _ _ _ _ _ _ (T201.setTop (mkF m 85 #[.val (.int a1), .val (.int b1), .val (.int c1), .val (.int k1), .val (.int s1), .val (.int q1), .val (.int (3 : Int32)), .val (.int (0 : Int32)), .val (.ref b195), .unset] [(.int (3 : Int32)), (.int (3 : Int32))]))
      refine Go.by (fun _ kont => XS.icmpNo X201.here hx rfl (hb hby at_85) rfl (by decide) kont) ?_
      show Go _ _ _ _ _ _ _ (T201.setTop (mkF m 88 #[.val (.int a1), .val (.int b1), .val (.int c1), .val (.int k1), .val (.int s1), .val (.int q1), .val (.int (3 : Int32)), .val (.int (0 : Int32)), .val (.ref b195), .unset] []))
      refine Go.by (fun _ kont => XS.aload X201.here hx rfl (hb hby at_88) rfl rfl (XS.iloadN X201.here hx rfl (hb hby at_90) rfl kont)) ?_
      show Go _ _ _ _ _ _ _ (T201.setTop (mkF m 91 #[.val (.int a1), .val (.int b1), .val (.int c1), .val (.int k1), .val (.int s1), .val (.int q1), .val (.int (3 : Int32)), .val (.int (0 : Int32)), .val (.ref b195), .unset] [(.int c1), (.ref b195)]))
      obtain ⟨cq203, kq203, q203a, q203b, q203c⟩ := isOf hZ rfl g201_0
      obtain ⟨_, _, ⟨T203, L203, k203, n203⟩, -, X203, ⟨Lc203, hQ203, l203, y203, z203⟩, st203⟩ := X201.virtualBack hx (y := (⟨"com/example/quorumsmith/quorumsmith/protocols/quorum/IntList", "add", "(I)V"⟩ : MethodName)) (z := (⟨"com/example/quorumsmith/quorumsmith/protocols/quorum/IntList", "add", "(I)V"⟩ : MethodName)) hown (mvT hZ (hw _ (List.mem_of_getElem? (i := 12) rfl))) (mvT hZ (hw _ (List.mem_of_getElem? (i := 13) rfl))) (notFace_of_selects (args := #[]) (mvT hZ (hw _ (List.mem_of_getElem? (i := 15) rfl)))) (mvT hZ (hw _ (List.mem_of_getElem? (i := 15) rfl))) (mvT hZ (hw _ (List.mem_of_getElem? (i := 14) rfl))) (by decide) (backOf (W := 0) (rmA2 l Z a0 hw [] b195 c1 b102_197 k102_197 a1 b1 (0 : Int32) T201.heap n0 Z202 g201_0 g201_1 g201_2 g201_3 ne_b195_b102_197 ge_b195 ge_b102_197) hZ (hw _ (List.mem_of_getElem? (i := 16) rfl)) (hw _ (List.mem_of_getElem? (i := 2) rfl)) (by decide) (by decide)) q203a q203c (g := (mkF m 91 #[.val (.int a1), .val (.int b1), .val (.int c1), .val (.int k1), .val (.int s1), .val (.int q1), .val (.int (3 : Int32)), .val (.int (0 : Int32)), .val (.ref b195), .unset] [(.int c1), (.ref b195)])) rfl (by rw [hml]; rfl) (Steps.refl _) (argsL := [(.int c1)]) (rest := []) (lenOf pd0_2 rfl) rfl (by show 2 * 0 + _ ≤ _; exact Nat.le_of_eq rfl) (hb hby at_91) (fun _ _ => ⟨rfl, rfl, (by decide : 2 + 0 ≤ _), (by decide : 18 + 0 ≤ _)⟩)
      dsimp only [Pt.U, Pt.locs, Pt.cells, Pt.slots] at X203 l203 y203 z203 st203 hQ203
      subst l203 y203 z203
      obtain ⟨rfl, N203q, K203, g203_0, g203_1, g203_2, g203_3⟩ := hQ203
      have E204_b195 := g201_0.keep K203
      have Z204 := Nat.le_trans Z202 K203.1
      have K204 : Keep h0 T203.heap [] := Keep.trans K202 K203 (allS (Or.inr sz_b195) (allS (Or.inr sz_b102_197) all0))
      have N203 := Fr.app N201 N203q
      refine Go.tr st203 ?_
      show Go _ _ _ _ _ _ _ (T203.setTop (mkF m 94 #[.val (.int a1), .val (.int b1), .val (.int c1), .val (.int k1), .val (.int s1), .val (.int q1), .val (.int (3 : Int32)), .val (.int (0 : Int32)), .val (.ref b195), .unset] []))
      refine Go.by (fun _ kont => XS.iload X203.here hx rfl (hb hby at_94) rfl (XS.iconst X203.here hx rfl (hb hby at_96) kont)) ?_
      show Go _ _ _ _ _ _ _ (T203.setTop (mkF m 97 #[.val (.int a1), .val (.int b1), .val (.int c1), .val (.int k1), .val (.int s1), .val (.int q1), .val (.int (3 : Int32)), .val (.int (0 : Int32)), .val (.ref b195), .unset] [(.int (1 : Int32)), (.int (3 : Int32))]))
      refine Go.by (fun _ kont => XS.icmpNo X203.here hx rfl (hb hby at_97) rfl (by decide) kont) ?_
      show Go _ _ _ _ _ _ _ (T203.setTop (mkF m 100 #[.val (.int a1), .val (.int b1), .val (.int c1), .val (.int k1), .val (.int s1), .val (.int q1), .val (.int (3 : Int32)), .val (.int (0 : Int32)), .val (.ref b195), .unset] []))
      refine Go.by (fun _ kont => XS.iload X203.here hx rfl (hb hby at_100) rfl (XS.iloadN X203.here hx rfl (hb hby at_102) rfl kont)) ?_
      show Go _ _ _ _ _ _ _ (T203.setTop (mkF m 103 #[.val (.int a1), .val (.int b1), .val (.int c1), .val (.int k1), .val (.int s1), .val (.int q1), .val (.int (3 : Int32)), .val (.int (0 : Int32)), .val (.ref b195), .unset] [(.int a1), (.int q1)]))
      by_cases hc205 : q1 = a1
      · refine Go.by (fun _ kont => XS.icmpYes X203.here hx rfl (pc0 := 103) (pc' := 130) rfl (hb hby at_103) rfl (teq hc205).1 (by decide) (by decide) kont) ?_
        show Go _ _ _ _ _ _ _ (T203.setTop (mkF m 130 #[.val (.int a1), .val (.int b1), .val (.int c1), .val (.int k1), .val (.int s1), .val (.int q1), .val (.int (3 : Int32)), .val (.int (0 : Int32)), .val (.ref b195), .unset] []))
        refine Go.by (fun _ kont => XS.iconst X203.here hx rfl (hb hby at_130) (XS.goto X203.here hx rfl (pc0 := 131) (pc' := 135) rfl (hb hby at_131) (by decide) (by decide) (XS.istore X203.here hx rfl (hb hby at_135) rfl (l' := #[.val (.int a1), .val (.int b1), .val (.int c1), .val (.int k1), .val (.int s1), .val (.int q1), .val (.int (3 : Int32)), .val (.int (0 : Int32)), .val (.ref b195), .val (.int (1 : Int32))]) rfl (XS.aload X203.here hx rfl (hb hby at_137) rfl rfl (XS.iload X203.here hx rfl (hb hby at_139) rfl kont))))) ?_
        show Go _ _ _ _ _ _ _ (T203.setTop (mkF m 141 #[.val (.int a1), .val (.int b1), .val (.int c1), .val (.int k1), .val (.int s1), .val (.int q1), .val (.int (3 : Int32)), .val (.int (0 : Int32)), .val (.ref b195), .val (.int (1 : Int32))] [(.int q1), (.ref b195)]))
        obtain ⟨cq206, kq206, q206a, q206b, q206c⟩ := isOf hZ rfl g203_0
        obtain ⟨_, _, ⟨T206, L206, k206, n206⟩, -, X206, ⟨Lc206, hQ206, l206, y206, z206⟩, st206⟩ := X203.virtualBack hx (y := (⟨"com/example/quorumsmith/quorumsmith/protocols/quorum/IntList", "contains", "(I)Z"⟩ : MethodName)) (z := (⟨"com/example/quorumsmith/quorumsmith/protocols/quorum/IntList", "contains", "(I)Z"⟩ : MethodName)) hown (mvT hZ (hw _ (List.mem_of_getElem? (i := 19) rfl))) (mvT hZ (hw _ (List.mem_of_getElem? (i := 20) rfl))) (notFace_of_selects (args := #[]) (mvT hZ (hw _ (List.mem_of_getElem? (i := 22) rfl)))) (mvT hZ (hw _ (List.mem_of_getElem? (i := 22) rfl))) (mvT hZ (hw _ (List.mem_of_getElem? (i := 21) rfl))) (by decide) (backOf (W := 0) (rmD3 l Z a0 hw [] b195 q1 b102_197 k102_197 a1 b1 c1 T203.heap n0 Z204 g203_1 g203_2 g203_3) hZ (hw _ (List.mem_of_getElem? (i := 23) rfl)) (hw _ (List.mem_of_getElem? (i := 2) rfl)) (by decide) (by decide)) q206a q206c (g := (mkF m 141 #[.val (.int a1), .val (.int b1), .val (.int c1), .val (.int k1), .val (.int s1), .val (.int q1), .val (.int (3 : Int32)), .val (.int (0 : Int32)), .val (.ref b195), .val (.int (1 : Int32))] [(.int q1), (.ref b195)])) rfl (by rw [hml]; rfl) (Steps.refl _) (argsL := [(.int q1)]) (rest := []) (lenOf pd0_1 rfl) rfl (by show 2 * 0 + _ ≤ _; exact Nat.le_of_eq rfl) (hb hby at_141) (fun _ _ => ⟨rfl, rfl, (by decide : 2 + 0 ≤ _), (by decide : 18 + 0 ≤ _)⟩)
        dsimp only [Pt.U, Pt.locs, Pt.cells, Pt.slots] at X206 l206 y206 z206 st206 hQ206
        subst l206 y206 z206
        obtain ⟨rfl, N206q, eh206⟩ := hQ206
        have N206 := Fr.app N203 N206q
        refine Go.tr st206 ?_
        show Go _ _ _ _ _ _ _ (T206.setTop (mkF m 144 #[.val (.int a1), .val (.int b1), .val (.int c1), .val (.int k1), .val (.int s1), .val (.int q1), .val (.int (3 : Int32)), .val (.int (0 : Int32)), .val (.ref b195), .val (.int (1 : Int32))] [(.int (fD3 q1 a1 b1 c1))]))
        refine Go.by (fun _ kont => XS.iload X206.here hx rfl (hb hby at_144) rfl kont) ?_
        show Go _ _ _ _ _ _ _ (T206.setTop (mkF m 146 #[.val (.int a1), .val (.int b1), .val (.int c1), .val (.int k1), .val (.int s1), .val (.int q1), .val (.int (3 : Int32)), .val (.int (0 : Int32)), .val (.ref b195), .val (.int (1 : Int32))] [(.int (1 : Int32)), (.int (fD3 q1 a1 b1 c1))]))
        have hd207 : (fD3 q1 a1 b1 c1) = (1 : Int32) := by unfold fD3; rw [if_pos hc205.symm]
        refine Go.by (fun _ kont => XS.icmpNo X206.here hx rfl (hb hby at_146) rfl (teq hd207).2 kont) ?_
        show Go _ _ _ _ _ _ _ (T206.setTop (mkF m 149 #[.val (.int a1), .val (.int b1), .val (.int c1), .val (.int k1), .val (.int s1), .val (.int q1), .val (.int (3 : Int32)), .val (.int (0 : Int32)), .val (.ref b195), .val (.int (1 : Int32))] []))
        refine Go.by (fun _ kont => XS.iconst X206.here hx rfl (hb hby at_149) (XS.goto X206.here hx rfl (pc0 := 150) (pc' := 154) rfl (hb hby at_150) (by decide) (by decide) kont)) ?_
        show Go _ _ _ _ _ _ _ (T206.setTop (mkF m 154 #[.val (.int a1), .val (.int b1), .val (.int c1), .val (.int k1), .val (.int s1), .val (.int q1), .val (.int (3 : Int32)), .val (.int (0 : Int32)), .val (.ref b195), .val (.int (1 : Int32))] [(.int (1 : Int32))]))
        refine Go.retN X206 hx (t := .boolean) hret (by simp) hlk (hb hby at_154) ?_ (by decide) (by decide)
        show Q0 Z h0 n0 (some (.int (1 : Int32))) T206.heap _
        rw [eh206]
        exact ⟨rfl, N206⟩
      · refine Go.by (fun _ kont => XS.icmpNo X203.here hx rfl (hb hby at_103) rfl (feq hc205).1 kont) ?_
        show Go _ _ _ _ _ _ _ (T203.setTop (mkF m 106 #[.val (.int a1), .val (.int b1), .val (.int c1), .val (.int k1), .val (.int s1), .val (.int q1), .val (.int (3 : Int32)), .val (.int (0 : Int32)), .val (.ref b195), .unset] []))
        refine Go.by (fun _ kont => XS.iload X203.here hx rfl (hb hby at_106) rfl (XS.iconst X203.here hx rfl (hb hby at_108) kont)) ?_
        show Go _ _ _ _ _ _ _ (T203.setTop (mkF m 109 #[.val (.int a1), .val (.int b1), .val (.int c1), .val (.int k1), .val (.int s1), .val (.int q1), .val (.int (3 : Int32)), .val (.int (0 : Int32)), .val (.ref b195), .unset] [(.int (2 : Int32)), (.int (3 : Int32))]))
        refine Go.by (fun _ kont => XS.icmpNo X203.here hx rfl (hb hby at_109) rfl (by decide) kont) ?_
        show Go _ _ _ _ _ _ _ (T203.setTop (mkF m 112 #[.val (.int a1), .val (.int b1), .val (.int c1), .val (.int k1), .val (.int s1), .val (.int q1), .val (.int (3 : Int32)), .val (.int (0 : Int32)), .val (.ref b195), .unset] []))
        refine Go.by (fun _ kont => XS.iload X203.here hx rfl (hb hby at_112) rfl (XS.iloadN X203.here hx rfl (hb hby at_114) rfl kont)) ?_
        show Go _ _ _ _ _ _ _ (T203.setTop (mkF m 115 #[.val (.int a1), .val (.int b1), .val (.int c1), .val (.int k1), .val (.int s1), .val (.int q1), .val (.int (3 : Int32)), .val (.int (0 : Int32)), .val (.ref b195), .unset] [(.int b1), (.int q1)]))
        by_cases hc208 : q1 = b1
        · refine Go.by (fun _ kont => XS.icmpYes X203.here hx rfl (pc0 := 115) (pc' := 130) rfl (hb hby at_115) rfl (teq hc208).1 (by decide) (by decide) kont) ?_
          show Go _ _ _ _ _ _ _ (T203.setTop (mkF m 130 #[.val (.int a1), .val (.int b1), .val (.int c1), .val (.int k1), .val (.int s1), .val (.int q1), .val (.int (3 : Int32)), .val (.int (0 : Int32)), .val (.ref b195), .unset] []))
          refine Go.by (fun _ kont => XS.iconst X203.here hx rfl (hb hby at_130) (XS.goto X203.here hx rfl (pc0 := 131) (pc' := 135) rfl (hb hby at_131) (by decide) (by decide) (XS.istore X203.here hx rfl (hb hby at_135) rfl (l' := #[.val (.int a1), .val (.int b1), .val (.int c1), .val (.int k1), .val (.int s1), .val (.int q1), .val (.int (3 : Int32)), .val (.int (0 : Int32)), .val (.ref b195), .val (.int (1 : Int32))]) rfl (XS.aload X203.here hx rfl (hb hby at_137) rfl rfl (XS.iload X203.here hx rfl (hb hby at_139) rfl kont))))) ?_
          show Go _ _ _ _ _ _ _ (T203.setTop (mkF m 141 #[.val (.int a1), .val (.int b1), .val (.int c1), .val (.int k1), .val (.int s1), .val (.int q1), .val (.int (3 : Int32)), .val (.int (0 : Int32)), .val (.ref b195), .val (.int (1 : Int32))] [(.int q1), (.ref b195)]))
          obtain ⟨cq209, kq209, q209a, q209b, q209c⟩ := isOf hZ rfl g203_0
          obtain ⟨_, _, ⟨T209, L209, k209, n209⟩, -, X209, ⟨Lc209, hQ209, l209, y209, z209⟩, st209⟩ := X203.virtualBack hx (y := (⟨"com/example/quorumsmith/quorumsmith/protocols/quorum/IntList", "contains", "(I)Z"⟩ : MethodName)) (z := (⟨"com/example/quorumsmith/quorumsmith/protocols/quorum/IntList", "contains", "(I)Z"⟩ : MethodName)) hown (mvT hZ (hw _ (List.mem_of_getElem? (i := 19) rfl))) (mvT hZ (hw _ (List.mem_of_getElem? (i := 20) rfl))) (notFace_of_selects (args := #[]) (mvT hZ (hw _ (List.mem_of_getElem? (i := 22) rfl)))) (mvT hZ (hw _ (List.mem_of_getElem? (i := 22) rfl))) (mvT hZ (hw _ (List.mem_of_getElem? (i := 21) rfl))) (by decide) (backOf (W := 0) (rmD3 l Z a0 hw [] b195 q1 b102_197 k102_197 a1 b1 c1 T203.heap n0 Z204 g203_1 g203_2 g203_3) hZ (hw _ (List.mem_of_getElem? (i := 23) rfl)) (hw _ (List.mem_of_getElem? (i := 2) rfl)) (by decide) (by decide)) q209a q209c (g := (mkF m 141 #[.val (.int a1), .val (.int b1), .val (.int c1), .val (.int k1), .val (.int s1), .val (.int q1), .val (.int (3 : Int32)), .val (.int (0 : Int32)), .val (.ref b195), .val (.int (1 : Int32))] [(.int q1), (.ref b195)])) rfl (by rw [hml]; rfl) (Steps.refl _) (argsL := [(.int q1)]) (rest := []) (lenOf pd0_1 rfl) rfl (by show 2 * 0 + _ ≤ _; exact Nat.le_of_eq rfl) (hb hby at_141) (fun _ _ => ⟨rfl, rfl, (by decide : 2 + 0 ≤ _), (by decide : 18 + 0 ≤ _)⟩)
          dsimp only [Pt.U, Pt.locs, Pt.cells, Pt.slots] at X209 l209 y209 z209 st209 hQ209
          subst l209 y209 z209
          obtain ⟨rfl, N209q, eh209⟩ := hQ209
          have N209 := Fr.app N203 N209q
          refine Go.tr st209 ?_
          show Go _ _ _ _ _ _ _ (T209.setTop (mkF m 144 #[.val (.int a1), .val (.int b1), .val (.int c1), .val (.int k1), .val (.int s1), .val (.int q1), .val (.int (3 : Int32)), .val (.int (0 : Int32)), .val (.ref b195), .val (.int (1 : Int32))] [(.int (fD3 q1 a1 b1 c1))]))
          refine Go.by (fun _ kont => XS.iload X209.here hx rfl (hb hby at_144) rfl kont) ?_
          show Go _ _ _ _ _ _ _ (T209.setTop (mkF m 146 #[.val (.int a1), .val (.int b1), .val (.int c1), .val (.int k1), .val (.int s1), .val (.int q1), .val (.int (3 : Int32)), .val (.int (0 : Int32)), .val (.ref b195), .val (.int (1 : Int32))] [(.int (1 : Int32)), (.int (fD3 q1 a1 b1 c1))]))
          have hd210 : (fD3 q1 a1 b1 c1) = (1 : Int32) := by unfold fD3; rw [if_neg (fun z => hc205 z.symm), if_pos hc208.symm]
          refine Go.by (fun _ kont => XS.icmpNo X209.here hx rfl (hb hby at_146) rfl (teq hd210).2 kont) ?_
          show Go _ _ _ _ _ _ _ (T209.setTop (mkF m 149 #[.val (.int a1), .val (.int b1), .val (.int c1), .val (.int k1), .val (.int s1), .val (.int q1), .val (.int (3 : Int32)), .val (.int (0 : Int32)), .val (.ref b195), .val (.int (1 : Int32))] []))
          refine Go.by (fun _ kont => XS.iconst X209.here hx rfl (hb hby at_149) (XS.goto X209.here hx rfl (pc0 := 150) (pc' := 154) rfl (hb hby at_150) (by decide) (by decide) kont)) ?_
          show Go _ _ _ _ _ _ _ (T209.setTop (mkF m 154 #[.val (.int a1), .val (.int b1), .val (.int c1), .val (.int k1), .val (.int s1), .val (.int q1), .val (.int (3 : Int32)), .val (.int (0 : Int32)), .val (.ref b195), .val (.int (1 : Int32))] [(.int (1 : Int32))]))
          refine Go.retN X209 hx (t := .boolean) hret (by simp) hlk (hb hby at_154) ?_ (by decide) (by decide)
          show Q0 Z h0 n0 (some (.int (1 : Int32))) T209.heap _
          rw [eh209]
          exact ⟨rfl, N209⟩
        · refine Go.by (fun _ kont => XS.icmpNo X203.here hx rfl (hb hby at_115) rfl (feq hc208).1 kont) ?_
          show Go _ _ _ _ _ _ _ (T203.setTop (mkF m 118 #[.val (.int a1), .val (.int b1), .val (.int c1), .val (.int k1), .val (.int s1), .val (.int q1), .val (.int (3 : Int32)), .val (.int (0 : Int32)), .val (.ref b195), .unset] []))
          refine Go.by (fun _ kont => XS.iload X203.here hx rfl (hb hby at_118) rfl (XS.iconst X203.here hx rfl (hb hby at_120) kont)) ?_
          show Go _ _ _ _ _ _ _ (T203.setTop (mkF m 121 #[.val (.int a1), .val (.int b1), .val (.int c1), .val (.int k1), .val (.int s1), .val (.int q1), .val (.int (3 : Int32)), .val (.int (0 : Int32)), .val (.ref b195), .unset] [(.int (3 : Int32)), (.int (3 : Int32))]))
          refine Go.by (fun _ kont => XS.icmpNo X203.here hx rfl (hb hby at_121) rfl (by decide) kont) ?_
          show Go _ _ _ _ _ _ _ (T203.setTop (mkF m 124 #[.val (.int a1), .val (.int b1), .val (.int c1), .val (.int k1), .val (.int s1), .val (.int q1), .val (.int (3 : Int32)), .val (.int (0 : Int32)), .val (.ref b195), .unset] []))
          refine Go.by (fun _ kont => XS.iload X203.here hx rfl (hb hby at_124) rfl (XS.iloadN X203.here hx rfl (hb hby at_126) rfl kont)) ?_
          show Go _ _ _ _ _ _ _ (T203.setTop (mkF m 127 #[.val (.int a1), .val (.int b1), .val (.int c1), .val (.int k1), .val (.int s1), .val (.int q1), .val (.int (3 : Int32)), .val (.int (0 : Int32)), .val (.ref b195), .unset] [(.int c1), (.int q1)]))
          by_cases hc211 : q1 = c1
          · refine Go.by (fun _ kont => XS.icmpNo X203.here hx rfl (hb hby at_127) rfl (teq hc211).2 kont) ?_
            show Go _ _ _ _ _ _ _ (T203.setTop (mkF m 130 #[.val (.int a1), .val (.int b1), .val (.int c1), .val (.int k1), .val (.int s1), .val (.int q1), .val (.int (3 : Int32)), .val (.int (0 : Int32)), .val (.ref b195), .unset] []))
            refine Go.by (fun _ kont => XS.iconst X203.here hx rfl (hb hby at_130) (XS.goto X203.here hx rfl (pc0 := 131) (pc' := 135) rfl (hb hby at_131) (by decide) (by decide) (XS.istore X203.here hx rfl (hb hby at_135) rfl (l' := #[.val (.int a1), .val (.int b1), .val (.int c1), .val (.int k1), .val (.int s1), .val (.int q1), .val (.int (3 : Int32)), .val (.int (0 : Int32)), .val (.ref b195), .val (.int (1 : Int32))]) rfl (XS.aload X203.here hx rfl (hb hby at_137) rfl rfl (XS.iload X203.here hx rfl (hb hby at_139) rfl kont))))) ?_
            show Go _ _ _ _ _ _ _ (T203.setTop (mkF m 141 #[.val (.int a1), .val (.int b1), .val (.int c1), .val (.int k1), .val (.int s1), .val (.int q1), .val (.int (3 : Int32)), .val (.int (0 : Int32)), .val (.ref b195), .val (.int (1 : Int32))] [(.int q1), (.ref b195)]))
            obtain ⟨cq212, kq212, q212a, q212b, q212c⟩ := isOf hZ rfl g203_0
            obtain ⟨_, _, ⟨T212, L212, k212, n212⟩, -, X212, ⟨Lc212, hQ212, l212, y212, z212⟩, st212⟩ := X203.virtualBack hx (y := (⟨"com/example/quorumsmith/quorumsmith/protocols/quorum/IntList", "contains", "(I)Z"⟩ : MethodName)) (z := (⟨"com/example/quorumsmith/quorumsmith/protocols/quorum/IntList", "contains", "(I)Z"⟩ : MethodName)) hown (mvT hZ (hw _ (List.mem_of_getElem? (i := 19) rfl))) (mvT hZ (hw _ (List.mem_of_getElem? (i := 20) rfl))) (notFace_of_selects (args := #[]) (mvT hZ (hw _ (List.mem_of_getElem? (i := 22) rfl)))) (mvT hZ (hw _ (List.mem_of_getElem? (i := 22) rfl))) (mvT hZ (hw _ (List.mem_of_getElem? (i := 21) rfl))) (by decide) (backOf (W := 0) (rmD3 l Z a0 hw [] b195 q1 b102_197 k102_197 a1 b1 c1 T203.heap n0 Z204 g203_1 g203_2 g203_3) hZ (hw _ (List.mem_of_getElem? (i := 23) rfl)) (hw _ (List.mem_of_getElem? (i := 2) rfl)) (by decide) (by decide)) q212a q212c (g := (mkF m 141 #[.val (.int a1), .val (.int b1), .val (.int c1), .val (.int k1), .val (.int s1), .val (.int q1), .val (.int (3 : Int32)), .val (.int (0 : Int32)), .val (.ref b195), .val (.int (1 : Int32))] [(.int q1), (.ref b195)])) rfl (by rw [hml]; rfl) (Steps.refl _) (argsL := [(.int q1)]) (rest := []) (lenOf pd0_1 rfl) rfl (by show 2 * 0 + _ ≤ _; exact Nat.le_of_eq rfl) (hb hby at_141) (fun _ _ => ⟨rfl, rfl, (by decide : 2 + 0 ≤ _), (by decide : 18 + 0 ≤ _)⟩)
            dsimp only [Pt.U, Pt.locs, Pt.cells, Pt.slots] at X212 l212 y212 z212 st212 hQ212
            subst l212 y212 z212
            obtain ⟨rfl, N212q, eh212⟩ := hQ212
            have N212 := Fr.app N203 N212q
            refine Go.tr st212 ?_
            show Go _ _ _ _ _ _ _ (T212.setTop (mkF m 144 #[.val (.int a1), .val (.int b1), .val (.int c1), .val (.int k1), .val (.int s1), .val (.int q1), .val (.int (3 : Int32)), .val (.int (0 : Int32)), .val (.ref b195), .val (.int (1 : Int32))] [(.int (fD3 q1 a1 b1 c1))]))
            refine Go.by (fun _ kont => XS.iload X212.here hx rfl (hb hby at_144) rfl kont) ?_
            show Go _ _ _ _ _ _ _ (T212.setTop (mkF m 146 #[.val (.int a1), .val (.int b1), .val (.int c1), .val (.int k1), .val (.int s1), .val (.int q1), .val (.int (3 : Int32)), .val (.int (0 : Int32)), .val (.ref b195), .val (.int (1 : Int32))] [(.int (1 : Int32)), (.int (fD3 q1 a1 b1 c1))]))
            have hd213 : (fD3 q1 a1 b1 c1) = (1 : Int32) := by unfold fD3; rw [if_neg (fun z => hc205 z.symm), if_neg (fun z => hc208 z.symm), if_pos hc211.symm]
            refine Go.by (fun _ kont => XS.icmpNo X212.here hx rfl (hb hby at_146) rfl (teq hd213).2 kont) ?_
            show Go _ _ _ _ _ _ _ (T212.setTop (mkF m 149 #[.val (.int a1), .val (.int b1), .val (.int c1), .val (.int k1), .val (.int s1), .val (.int q1), .val (.int (3 : Int32)), .val (.int (0 : Int32)), .val (.ref b195), .val (.int (1 : Int32))] []))
            refine Go.by (fun _ kont => XS.iconst X212.here hx rfl (hb hby at_149) (XS.goto X212.here hx rfl (pc0 := 150) (pc' := 154) rfl (hb hby at_150) (by decide) (by decide) kont)) ?_
            show Go _ _ _ _ _ _ _ (T212.setTop (mkF m 154 #[.val (.int a1), .val (.int b1), .val (.int c1), .val (.int k1), .val (.int s1), .val (.int q1), .val (.int (3 : Int32)), .val (.int (0 : Int32)), .val (.ref b195), .val (.int (1 : Int32))] [(.int (1 : Int32))]))
            refine Go.retN X212 hx (t := .boolean) hret (by simp) hlk (hb hby at_154) ?_ (by decide) (by decide)
            show Q0 Z h0 n0 (some (.int (1 : Int32))) T212.heap _
            rw [eh212]
            exact ⟨rfl, N212⟩
          · refine Go.by (fun _ kont => XS.icmpYes X203.here hx rfl (pc0 := 127) (pc' := 134) rfl (hb hby at_127) rfl (feq hc211).2 (by decide) (by decide) kont) ?_
            show Go _ _ _ _ _ _ _ (T203.setTop (mkF m 134 #[.val (.int a1), .val (.int b1), .val (.int c1), .val (.int k1), .val (.int s1), .val (.int q1), .val (.int (3 : Int32)), .val (.int (0 : Int32)), .val (.ref b195), .unset] []))
            refine Go.by (fun _ kont => XS.iconst X203.here hx rfl (hb hby at_134) (XS.istore X203.here hx rfl (hb hby at_135) rfl (l' := #[.val (.int a1), .val (.int b1), .val (.int c1), .val (.int k1), .val (.int s1), .val (.int q1), .val (.int (3 : Int32)), .val (.int (0 : Int32)), .val (.ref b195), .val (.int (0 : Int32))]) rfl (XS.aload X203.here hx rfl (hb hby at_137) rfl rfl (XS.iload X203.here hx rfl (hb hby at_139) rfl kont)))) ?_
            show Go _ _ _ _ _ _ _ (T203.setTop (mkF m 141 #[.val (.int a1), .val (.int b1), .val (.int c1), .val (.int k1), .val (.int s1), .val (.int q1), .val (.int (3 : Int32)), .val (.int (0 : Int32)), .val (.ref b195), .val (.int (0 : Int32))] [(.int q1), (.ref b195)]))
            obtain ⟨cq214, kq214, q214a, q214b, q214c⟩ := isOf hZ rfl g203_0
            obtain ⟨_, _, ⟨T214, L214, k214, n214⟩, -, X214, ⟨Lc214, hQ214, l214, y214, z214⟩, st214⟩ := X203.virtualBack hx (y := (⟨"com/example/quorumsmith/quorumsmith/protocols/quorum/IntList", "contains", "(I)Z"⟩ : MethodName)) (z := (⟨"com/example/quorumsmith/quorumsmith/protocols/quorum/IntList", "contains", "(I)Z"⟩ : MethodName)) hown (mvT hZ (hw _ (List.mem_of_getElem? (i := 19) rfl))) (mvT hZ (hw _ (List.mem_of_getElem? (i := 20) rfl))) (notFace_of_selects (args := #[]) (mvT hZ (hw _ (List.mem_of_getElem? (i := 22) rfl)))) (mvT hZ (hw _ (List.mem_of_getElem? (i := 22) rfl))) (mvT hZ (hw _ (List.mem_of_getElem? (i := 21) rfl))) (by decide) (backOf (W := 0) (rmD3 l Z a0 hw [] b195 q1 b102_197 k102_197 a1 b1 c1 T203.heap n0 Z204 g203_1 g203_2 g203_3) hZ (hw _ (List.mem_of_getElem? (i := 23) rfl)) (hw _ (List.mem_of_getElem? (i := 2) rfl)) (by decide) (by decide)) q214a q214c (g := (mkF m 141 #[.val (.int a1), .val (.int b1), .val (.int c1), .val (.int k1), .val (.int s1), .val (.int q1), .val (.int (3 : Int32)), .val (.int (0 : Int32)), .val (.ref b195), .val (.int (0 : Int32))] [(.int q1), (.ref b195)])) rfl (by rw [hml]; rfl) (Steps.refl _) (argsL := [(.int q1)]) (rest := []) (lenOf pd0_1 rfl) rfl (by show 2 * 0 + _ ≤ _; exact Nat.le_of_eq rfl) (hb hby at_141) (fun _ _ => ⟨rfl, rfl, (by decide : 2 + 0 ≤ _), (by decide : 18 + 0 ≤ _)⟩)
            dsimp only [Pt.U, Pt.locs, Pt.cells, Pt.slots] at X214 l214 y214 z214 st214 hQ214
            subst l214 y214 z214
            obtain ⟨rfl, N214q, eh214⟩ := hQ214
            have N214 := Fr.app N203 N214q
            refine Go.tr st214 ?_
            show Go _ _ _ _ _ _ _ (T214.setTop (mkF m 144 #[.val (.int a1), .val (.int b1), .val (.int c1), .val (.int k1), .val (.int s1), .val (.int q1), .val (.int (3 : Int32)), .val (.int (0 : Int32)), .val (.ref b195), .val (.int (0 : Int32))] [(.int (fD3 q1 a1 b1 c1))]))
            refine Go.by (fun _ kont => XS.iload X214.here hx rfl (hb hby at_144) rfl kont) ?_
            show Go _ _ _ _ _ _ _ (T214.setTop (mkF m 146 #[.val (.int a1), .val (.int b1), .val (.int c1), .val (.int k1), .val (.int s1), .val (.int q1), .val (.int (3 : Int32)), .val (.int (0 : Int32)), .val (.ref b195), .val (.int (0 : Int32))] [(.int (0 : Int32)), (.int (fD3 q1 a1 b1 c1))]))
            have hd215 : (fD3 q1 a1 b1 c1) = (0 : Int32) := by unfold fD3; rw [if_neg (fun z => hc205 z.symm), if_neg (fun z => hc208 z.symm), if_neg (fun z => hc211 z.symm)]
            refine Go.by (fun _ kont => XS.icmpNo X214.here hx rfl (hb hby at_146) rfl (teq hd215).2 kont) ?_
            show Go _ _ _ _ _ _ _ (T214.setTop (mkF m 149 #[.val (.int a1), .val (.int b1), .val (.int c1), .val (.int k1), .val (.int s1), .val (.int q1), .val (.int (3 : Int32)), .val (.int (0 : Int32)), .val (.ref b195), .val (.int (0 : Int32))] []))
            refine Go.by (fun _ kont => XS.iconst X214.here hx rfl (hb hby at_149) (XS.goto X214.here hx rfl (pc0 := 150) (pc' := 154) rfl (hb hby at_150) (by decide) (by decide) kont)) ?_
            show Go _ _ _ _ _ _ _ (T214.setTop (mkF m 154 #[.val (.int a1), .val (.int b1), .val (.int c1), .val (.int k1), .val (.int s1), .val (.int q1), .val (.int (3 : Int32)), .val (.int (0 : Int32)), .val (.ref b195), .val (.int (0 : Int32))] [(.int (1 : Int32))]))
            refine Go.retN X214 hx (t := .boolean) hret (by simp) hlk (hb hby at_154) ?_ (by decide) (by decide)
            show Q0 Z h0 n0 (some (.int (1 : Int32))) T214.heap _
            rw [eh214]
            exact ⟨rfl, N214⟩
    · refine Go.by (fun _ kont => XS.ifNo X0.here hx rfl (hb hby at_8) rfl ((if0 _ _).trans (feq hc194).1) kont) ?_
      show Go _ _ _ _ _ _ _ (s₁.setTop (mkF m 11 #[.val (.int a1), .val (.int b1), .val (.int c1), .val (.int k1), .val (.int s1), .val (.int q1), .val (.int (3 : Int32)), .unset, .unset, .unset] []))
      refine Go.by (fun _ kont => XS.iconst X0.here hx rfl (hb hby at_11) (XS.goto X0.here hx rfl (pc0 := 12) (pc' := 16) rfl (hb hby at_12) (by decide) (by decide) (XS.istore X0.here hx rfl (hb hby at_16) rfl (l' := #[.val (.int a1), .val (.int b1), .val (.int c1), .val (.int k1), .val (.int s1), .val (.int q1), .val (.int (3 : Int32)), .val (.int (1 : Int32)), .unset, .unset]) rfl kont))) ?_
      show Go _ _ _ _ _ _ _ (s₁.setTop (mkF m 18 #[.val (.int a1), .val (.int b1), .val (.int c1), .val (.int k1), .val (.int s1), .val (.int q1), .val (.int (3 : Int32)), .val (.int (1 : Int32)), .unset, .unset] []))
      obtain ⟨T216, h216, X216, e216, X_216, A216, D216, -, st216⟩ := newO X0 hx hZ hown (hw _ (List.mem_of_getElem? (i := 0) rfl)) (hw _ (List.mem_of_getElem? (i := 1) rfl)) (hw _ (List.mem_of_getElem? (i := 2) rfl)) e0 (g := (mkF m 18 #[.val (.int a1), .val (.int b1), .val (.int c1), .val (.int k1), .val (.int s1), .val (.int q1), .val (.int (3 : Int32)), .val (.int (1 : Int32)), .unset, .unset] [])) rfl (hb hby at_18) (by decide) (by decide)
      obtain ⟨b216, g216⟩ : ∃ z, z = h0.size := ⟨_, rfl⟩
      rw [← g216] at A216 D216 st216
      have ge_b216 : n0 ≤ b216 := Nat.le_trans Z0 (Nat.le_of_eq g216.symm)
      have sz_b216 : h0.size ≤ b216 := Nat.le_trans (Keep.refl h0 []).1 (Nat.le_of_eq g216.symm)
      have Z217 := Nat.le_trans Z0 X_216.1
      have K217 : Keep h0 h216 [] := (Keep.refl h0 []).ext X_216
      have F216_values : Fld Z h216 b216 "com/example/quorumsmith/quorumsmith/protocols/quorum/IntList" "values" "[I" .null := D216 (Or.inl (hw _ (List.mem_of_getElem? (i := 11) rfl))) (ty := (.array .int)) (by decide)
      have F216_size : Fld Z h216 b216 "com/example/quorumsmith/quorumsmith/protocols/quorum/IntList" "size" "I" (.int (0 : Int32)) := D216 (Or.inl (hw _ (List.mem_of_getElem? (i := 18) rfl))) (ty := .int) (by decide)
      refine Go.by st216 ?_
      show Go _ _ _ _ _ _ _ (T216.setTop (mkF m 21 #[.val (.int a1), .val (.int b1), .val (.int c1), .val (.int k1), .val (.int s1), .val (.int q1), .val (.int (3 : Int32)), .val (.int (1 : Int32)), .unset, .unset] [(.ref b216)]))
      refine Go.by (fun _ kont => XS.dup X216.here hx rfl (hb hby at_21) rfl rfl kont) ?_
      show Go _ _ _ _ _ _ _ (T216.setTop (mkF m 22 #[.val (.int a1), .val (.int b1), .val (.int c1), .val (.int k1), .val (.int s1), .val (.int q1), .val (.int (3 : Int32)), .val (.int (1 : Int32)), .unset, .unset] [(.ref b216), (.ref b216)]))
      obtain ⟨_, _, ⟨T218, L218, k218, n218⟩, -, X218, ⟨Lc218, hQ218, l218, y218, z218⟩, st218⟩ := X216.specialBack hx (y := (⟨"com/example/quorumsmith/quorumsmith/protocols/quorum/IntList", "<init>", "()V"⟩ : MethodName)) rfl hown (mvT hZ (hw _ (List.mem_of_getElem? (i := 3) rfl))) (mvT hZ (hw _ (List.mem_of_getElem? (i := 4) rfl))) (mvT hZ (hw _ (List.mem_of_getElem? (i := 5) rfl))) (by decide) (backOf (W := 1) (rmI l Z a0 hw [] b216 h216 n0 Z217 A216 F216_values F216_size ge_b216) hZ (hw _ (List.mem_of_getElem? (i := 5) rfl)) (hw _ (List.mem_of_getElem? (i := 2) rfl)) (by decide) (by decide)) (g := (mkF m 22 #[.val (.int a1), .val (.int b1), .val (.int c1), .val (.int k1), .val (.int s1), .val (.int q1), .val (.int (3 : Int32)), .val (.int (1 : Int32)), .unset, .unset] [(.ref b216), (.ref b216)])) rfl (by rw [hml]; rfl) (Steps.refl _) (a := b216) (argsL := []) (rest := [(.ref b216)]) (lenOf pd0_0 rfl) rfl (by show 2 * 0 + _ ≤ _; exact Nat.le_of_eq rfl) (hb hby at_22) (fun _ _ => ⟨rfl, e216, (by decide : 1 + 1 ≤ _), (by decide : 2 + 16 ≤ _)⟩)
      dsimp only [Pt.U, Pt.locs, Pt.cells, Pt.slots] at X218 l218 y218 z218 st218 hQ218
      subst l218 y218 z218
      obtain ⟨b102_218, k102_218, rfl, N218q, K218, g218_0, g218_1, g218_2, ge_b102_218, szc_b102_218, g218_3⟩ := hQ218
      have ne_b216_b102_218 : b216 ≠ b102_218 := Nat.ne_of_lt (Nat.lt_of_lt_of_le F216_values.lt szc_b102_218)
      have sz_b102_218 : h0.size ≤ b102_218 := Nat.le_trans K217.1 szc_b102_218
      have E219_b216 := A216.keep K218
      have Z219 := Nat.le_trans Z217 K218.1
      have K219 : Keep h0 T218.heap [] := Keep.trans K217 K218 (allS (Or.inr sz_b216) all0)
      have N218 := Fr.app N0 N218q
      refine Go.tr st218 ?_
      show Go _ _ _ _ _ _ _ (T218.setTop (mkF m 25 #[.val (.int a1), .val (.int b1), .val (.int c1), .val (.int k1), .val (.int s1), .val (.int q1), .val (.int (3 : Int32)), .val (.int (1 : Int32)), .unset, .unset] [(.ref b216)]))
      refine Go.by (fun _ kont => XS.astore X218.here hx rfl (hb hby at_25) rfl rfl (l' := #[.val (.int a1), .val (.int b1), .val (.int c1), .val (.int k1), .val (.int s1), .val (.int q1), .val (.int (3 : Int32)), .val (.int (1 : Int32)), .val (.ref b216), .unset]) rfl (XS.iload X218.here hx rfl (hb hby at_27) rfl kont)) ?_
      show Go _ _ _ _ _ _ _ (T218.setTop (mkF m 29 #[.val (.int a1), .val (.int b1), .val (.int c1), .val (.int k1), .val (.int s1), .val (.int q1), .val (.int (3 : Int32)), .val (.int (1 : Int32)), .val (.ref b216), .unset] [(.int (1 : Int32))]))
      refine Go.by (fun _ kont => XS.ifNo X218.here hx rfl (hb hby at_29) rfl (by decide) kont) ?_
      show Go _ _ _ _ _ _ _ (T218.setTop (mkF m 32 #[.val (.int a1), .val (.int b1), .val (.int c1), .val (.int k1), .val (.int s1), .val (.int q1), .val (.int (3 : Int32)), .val (.int (1 : Int32)), .val (.ref b216), .unset] []))
      refine Go.by (fun _ kont => XS.aload X218.here hx rfl (hb hby at_32) rfl rfl (XS.iload X218.here hx rfl (hb hby at_34) rfl kont)) ?_
      show Go _ _ _ _ _ _ _ (T218.setTop (mkF m 36 #[.val (.int a1), .val (.int b1), .val (.int c1), .val (.int k1), .val (.int s1), .val (.int q1), .val (.int (3 : Int32)), .val (.int (1 : Int32)), .val (.ref b216), .unset] [(.int s1), (.ref b216)]))
      obtain ⟨cq220, kq220, q220a, q220b, q220c⟩ := isOf hZ rfl g218_0
      obtain ⟨_, _, ⟨T220, L220, k220, n220⟩, -, X220, ⟨Lc220, hQ220, l220, y220, z220⟩, st220⟩ := X218.virtualBack hx (y := (⟨"com/example/quorumsmith/quorumsmith/protocols/quorum/IntList", "add", "(I)V"⟩ : MethodName)) (z := (⟨"com/example/quorumsmith/quorumsmith/protocols/quorum/IntList", "add", "(I)V"⟩ : MethodName)) hown (mvT hZ (hw _ (List.mem_of_getElem? (i := 12) rfl))) (mvT hZ (hw _ (List.mem_of_getElem? (i := 13) rfl))) (notFace_of_selects (args := #[]) (mvT hZ (hw _ (List.mem_of_getElem? (i := 15) rfl)))) (mvT hZ (hw _ (List.mem_of_getElem? (i := 15) rfl))) (mvT hZ (hw _ (List.mem_of_getElem? (i := 14) rfl))) (by decide) (backOf (W := 0) (rmA0 l Z a0 hw [] b216 s1 b102_218 k102_218 (0 : Int32) (0 : Int32) (0 : Int32) T218.heap n0 Z219 g218_0 g218_1 g218_2 g218_3 ne_b216_b102_218 ge_b216 ge_b102_218) hZ (hw _ (List.mem_of_getElem? (i := 16) rfl)) (hw _ (List.mem_of_getElem? (i := 2) rfl)) (by decide) (by decide)) q220a q220c (g := (mkF m 36 #[.val (.int a1), .val (.int b1), .val (.int c1), .val (.int k1), .val (.int s1), .val (.int q1), .val (.int (3 : Int32)), .val (.int (1 : Int32)), .val (.ref b216), .unset] [(.int s1), (.ref b216)])) rfl (by rw [hml]; rfl) (Steps.refl _) (argsL := [(.int s1)]) (rest := []) (lenOf pd0_2 rfl) rfl (by show 2 * 0 + _ ≤ _; exact Nat.le_of_eq rfl) (hb hby at_36) (fun _ _ => ⟨rfl, rfl, (by decide : 2 + 0 ≤ _), (by decide : 18 + 0 ≤ _)⟩)
      dsimp only [Pt.U, Pt.locs, Pt.cells, Pt.slots] at X220 l220 y220 z220 st220 hQ220
      subst l220 y220 z220
      obtain ⟨rfl, N220q, K220, g220_0, g220_1, g220_2, g220_3⟩ := hQ220
      have E221_b216 := g218_0.keep K220
      have Z221 := Nat.le_trans Z219 K220.1
      have K221 : Keep h0 T220.heap [] := Keep.trans K219 K220 (allS (Or.inr sz_b216) (allS (Or.inr sz_b102_218) all0))
      have N220 := Fr.app N218 N220q
      refine Go.tr st220 ?_
      show Go _ _ _ _ _ _ _ (T220.setTop (mkF m 39 #[.val (.int a1), .val (.int b1), .val (.int c1), .val (.int k1), .val (.int s1), .val (.int q1), .val (.int (3 : Int32)), .val (.int (1 : Int32)), .val (.ref b216), .unset] []))
      refine Go.by (fun _ kont => XS.aload X220.here hx rfl (hb hby at_39) rfl rfl (XS.iload X220.here hx rfl (hb hby at_41) rfl kont)) ?_
      show Go _ _ _ _ _ _ _ (T220.setTop (mkF m 43 #[.val (.int a1), .val (.int b1), .val (.int c1), .val (.int k1), .val (.int s1), .val (.int q1), .val (.int (3 : Int32)), .val (.int (1 : Int32)), .val (.ref b216), .unset] [(.int s1), (.ref b216)]))
      obtain ⟨cq222, kq222, q222a, q222b, q222c⟩ := isOf hZ rfl g220_0
      obtain ⟨_, _, ⟨T222, L222, k222, n222⟩, -, X222, ⟨Lc222, hQ222, l222, y222, z222⟩, st222⟩ := X220.virtualBack hx (y := (⟨"com/example/quorumsmith/quorumsmith/protocols/quorum/IntList", "add", "(I)V"⟩ : MethodName)) (z := (⟨"com/example/quorumsmith/quorumsmith/protocols/quorum/IntList", "add", "(I)V"⟩ : MethodName)) hown (mvT hZ (hw _ (List.mem_of_getElem? (i := 12) rfl))) (mvT hZ (hw _ (List.mem_of_getElem? (i := 13) rfl))) (notFace_of_selects (args := #[]) (mvT hZ (hw _ (List.mem_of_getElem? (i := 15) rfl)))) (mvT hZ (hw _ (List.mem_of_getElem? (i := 15) rfl))) (mvT hZ (hw _ (List.mem_of_getElem? (i := 14) rfl))) (by decide) (backOf (W := 0) (rmA1 l Z a0 hw [] b216 s1 b102_218 k102_218 s1 (0 : Int32) (0 : Int32) T220.heap n0 Z221 g220_0 g220_1 g220_2 g220_3 ne_b216_b102_218 ge_b216 ge_b102_218) hZ (hw _ (List.mem_of_getElem? (i := 16) rfl)) (hw _ (List.mem_of_getElem? (i := 2) rfl)) (by decide) (by decide)) q222a q222c (g := (mkF m 43 #[.val (.int a1), .val (.int b1), .val (.int c1), .val (.int k1), .val (.int s1), .val (.int q1), .val (.int (3 : Int32)), .val (.int (1 : Int32)), .val (.ref b216), .unset] [(.int s1), (.ref b216)])) rfl (by rw [hml]; rfl) (Steps.refl _) (argsL := [(.int s1)]) (rest := []) (lenOf pd0_2 rfl) rfl (by show 2 * 0 + _ ≤ _; exact Nat.le_of_eq rfl) (hb hby at_43) (fun _ _ => ⟨rfl, rfl, (by decide : 2 + 0 ≤ _), (by decide : 18 + 0 ≤ _)⟩)
      dsimp only [Pt.U, Pt.locs, Pt.cells, Pt.slots] at X222 l222 y222 z222 st222 hQ222
      subst l222 y222 z222
      obtain ⟨rfl, N222q, K222, g222_0, g222_1, g222_2, g222_3⟩ := hQ222
      have E223_b216 := g220_0.keep K222
      have Z223 := Nat.le_trans Z221 K222.1
      have K223 : Keep h0 T222.heap [] := Keep.trans K221 K222 (allS (Or.inr sz_b216) (allS (Or.inr sz_b102_218) all0))
      have N222 := Fr.app N220 N222q
      refine Go.tr st222 ?_
      show Go _ _ _ _ _ _ _ (T222.setTop (mkF m 46 #[.val (.int a1), .val (.int b1), .val (.int c1), .val (.int k1), .val (.int s1), .val (.int q1), .val (.int (3 : Int32)), .val (.int (1 : Int32)), .val (.ref b216), .unset] []))
      refine Go.by (fun _ kont => XS.aload X222.here hx rfl (hb hby at_46) rfl rfl (XS.iload X222.here hx rfl (hb hby at_48) rfl kont)) ?_
      show Go _ _ _ _ _ _ _ (T222.setTop (mkF m 50 #[.val (.int a1), .val (.int b1), .val (.int c1), .val (.int k1), .val (.int s1), .val (.int q1), .val (.int (3 : Int32)), .val (.int (1 : Int32)), .val (.ref b216), .unset] [(.int s1), (.ref b216)]))
      obtain ⟨cq224, kq224, q224a, q224b, q224c⟩ := isOf hZ rfl g222_0
      obtain ⟨_, _, ⟨T224, L224, k224, n224⟩, -, X224, ⟨Lc224, hQ224, l224, y224, z224⟩, st224⟩ := X222.virtualBack hx (y := (⟨"com/example/quorumsmith/quorumsmith/protocols/quorum/IntList", "add", "(I)V"⟩ : MethodName)) (z := (⟨"com/example/quorumsmith/quorumsmith/protocols/quorum/IntList", "add", "(I)V"⟩ : MethodName)) hown (mvT hZ (hw _ (List.mem_of_getElem? (i := 12) rfl))) (mvT hZ (hw _ (List.mem_of_getElem? (i := 13) rfl))) (notFace_of_selects (args := #[]) (mvT hZ (hw _ (List.mem_of_getElem? (i := 15) rfl)))) (mvT hZ (hw _ (List.mem_of_getElem? (i := 15) rfl))) (mvT hZ (hw _ (List.mem_of_getElem? (i := 14) rfl))) (by decide) (backOf (W := 0) (rmA2 l Z a0 hw [] b216 s1 b102_218 k102_218 s1 s1 (0 : Int32) T222.heap n0 Z223 g222_0 g222_1 g222_2 g222_3 ne_b216_b102_218 ge_b216 ge_b102_218) hZ (hw _ (List.mem_of_getElem? (i := 16) rfl)) (hw _ (List.mem_of_getElem? (i := 2) rfl)) (by decide) (by decide)) q224a q224c (g := (mkF m 50 #[.val (.int a1), .val (.int b1), .val (.int c1), .val (.int k1), .val (.int s1), .val (.int q1), .val (.int (3 : Int32)), .val (.int (1 : Int32)), .val (.ref b216), .unset] [(.int s1), (.ref b216)])) rfl (by rw [hml]; rfl) (Steps.refl _) (argsL := [(.int s1)]) (rest := []) (lenOf pd0_2 rfl) rfl (by show 2 * 0 + _ ≤ _; exact Nat.le_of_eq rfl) (hb hby at_50) (fun _ _ => ⟨rfl, rfl, (by decide : 2 + 0 ≤ _), (by decide : 18 + 0 ≤ _)⟩)
      dsimp only [Pt.U, Pt.locs, Pt.cells, Pt.slots] at X224 l224 y224 z224 st224 hQ224
      subst l224 y224 z224
      obtain ⟨rfl, N224q, K224, g224_0, g224_1, g224_2, g224_3⟩ := hQ224
      have E225_b216 := g222_0.keep K224
      have Z225 := Nat.le_trans Z223 K224.1
      have K225 : Keep h0 T224.heap [] := Keep.trans K223 K224 (allS (Or.inr sz_b216) (allS (Or.inr sz_b102_218) all0))
      have N224 := Fr.app N222 N224q
      refine Go.tr st224 ?_
      show Go _ _ _ _ _ _ _ (T224.setTop (mkF m 53 #[.val (.int a1), .val (.int b1), .val (.int c1), .val (.int k1), .val (.int s1), .val (.int q1), .val (.int (3 : Int32)), .val (.int (1 : Int32)), .val (.ref b216), .unset] []))
      refine Go.by (fun _ kont => XS.aload X224.here hx rfl (hb hby at_53) rfl rfl kont) ?_
      show Go _ _ _ _ _ _ _ (T224.setTop (mkF m 55 #[.val (.int a1), .val (.int b1), .val (.int c1), .val (.int k1), .val (.int s1), .val (.int q1), .val (.int (3 : Int32)), .val (.int (1 : Int32)), .val (.ref b216), .unset] [(.ref b216)]))
      obtain ⟨cq226, kq226, q226a, q226b, q226c⟩ := isOf hZ rfl g224_0
      obtain ⟨_, _, ⟨T226, L226, k226, n226⟩, -, X226, ⟨Lc226, hQ226, l226, y226, z226⟩, st226⟩ := X224.virtualBack hx (y := (⟨"com/example/quorumsmith/quorumsmith/protocols/quorum/IntList", "clear", "()V"⟩ : MethodName)) (z := (⟨"com/example/quorumsmith/quorumsmith/protocols/quorum/IntList", "clear", "()V"⟩ : MethodName)) hown (mvT hZ (hw _ (List.mem_of_getElem? (i := 24) rfl))) (mvT hZ (hw _ (List.mem_of_getElem? (i := 25) rfl))) (notFace_of_selects (args := #[]) (mvT hZ (hw _ (List.mem_of_getElem? (i := 27) rfl)))) (mvT hZ (hw _ (List.mem_of_getElem? (i := 27) rfl))) (mvT hZ (hw _ (List.mem_of_getElem? (i := 26) rfl))) (by decide) (backOf (W := 0) (rmC l Z a0 hw [] b216 b102_218 (3 : Int32) T224.heap n0 Z225 g224_0 g224_1 g224_2 ge_b216) hZ (hw _ (List.mem_of_getElem? (i := 28) rfl)) (hw _ (List.mem_of_getElem? (i := 2) rfl)) (by decide) (by decide)) q226a q226c (g := (mkF m 55 #[.val (.int a1), .val (.int b1), .val (.int c1), .val (.int k1), .val (.int s1), .val (.int q1), .val (.int (3 : Int32)), .val (.int (1 : Int32)), .val (.ref b216), .unset] [(.ref b216)])) rfl (by rw [hml]; rfl) (Steps.refl _) (argsL := []) (rest := []) (lenOf pd0_0 rfl) rfl (by show 2 * 0 + _ ≤ _; exact Nat.le_of_eq rfl) (hb hby at_55) (fun _ _ => ⟨rfl, rfl, (by decide : 2 + 0 ≤ _), (by decide : 18 + 0 ≤ _)⟩)
      dsimp only [Pt.U, Pt.locs, Pt.cells, Pt.slots] at X226 l226 y226 z226 st226 hQ226
      subst l226 y226 z226
      obtain ⟨rfl, N226q, K226, g226_0, g226_1, g226_2⟩ := hQ226
      have E227_b216 := g224_0.keep K226
      have V227_b102_218 := g224_3.keep K226 (ninS (Ne.symm ne_b216_b102_218) nin0)
      have Z227 := Nat.le_trans Z225 K226.1
      have K227 : Keep h0 T226.heap [] := Keep.trans K225 K226 (allS (Or.inr sz_b216) all0)
      have N226 := Fr.app N224 N226q
      refine Go.tr st226 ?_
      show Go _ _ _ _ _ _ _ (T226.setTop (mkF m 58 #[.val (.int a1), .val (.int b1), .val (.int c1), .val (.int k1), .val (.int s1), .val (.int q1), .val (.int (3 : Int32)), .val (.int (1 : Int32)), .val (.ref b216), .unset] []))
      refine Go.by (fun _ kont => XS.iload X226.here hx rfl (hb hby at_58) rfl (XS.iconst X226.here hx rfl (hb hby at_60) kont)) ?_
      show Go _ _ _ _ _ _ _ (T226.setTop (mkF m 61 #[.val (.int a1), .val (.int b1), .val (.int c1), .val (.int k1), .val (.int s1), .val (.int q1), .val (.int (3 : Int32)), .val (.int (1 : Int32)), .val (.ref b216), .unset] [(.int (1 : Int32)), (.int (3 : Int32))]))
      refine Go.by (fun _ kont => XS.icmpNo X226.here hx rfl (hb hby at_61) rfl (by decide) kont) ?_
      show Go _ _ _ _ _ _ _ (T226.setTop (mkF m 64 #[.val (.int a1), .val (.int b1), .val (.int c1), .val (.int k1), .val (.int s1), .val (.int q1), .val (.int (3 : Int32)), .val (.int (1 : Int32)), .val (.ref b216), .unset] []))
      refine Go.by (fun _ kont => XS.aload X226.here hx rfl (hb hby at_64) rfl rfl (XS.iloadN X226.here hx rfl (hb hby at_66) rfl kont)) ?_
      show Go _ _ _ _ _ _ _ (T226.setTop (mkF m 67 #[.val (.int a1), .val (.int b1), .val (.int c1), .val (.int k1), .val (.int s1), .val (.int q1), .val (.int (3 : Int32)), .val (.int (1 : Int32)), .val (.ref b216), .unset] [(.int a1), (.ref b216)]))
      obtain ⟨cq228, kq228, q228a, q228b, q228c⟩ := isOf hZ rfl g226_0
      obtain ⟨_, _, ⟨T228, L228, k228, n228⟩, -, X228, ⟨Lc228, hQ228, l228, y228, z228⟩, st228⟩ := X226.virtualBack hx (y := (⟨"com/example/quorumsmith/quorumsmith/protocols/quorum/IntList", "add", "(I)V"⟩ : MethodName)) (z := (⟨"com/example/quorumsmith/quorumsmith/protocols/quorum/IntList", "add", "(I)V"⟩ : MethodName)) hown (mvT hZ (hw _ (List.mem_of_getElem? (i := 12) rfl))) (mvT hZ (hw _ (List.mem_of_getElem? (i := 13) rfl))) (notFace_of_selects (args := #[]) (mvT hZ (hw _ (List.mem_of_getElem? (i := 15) rfl)))) (mvT hZ (hw _ (List.mem_of_getElem? (i := 15) rfl))) (mvT hZ (hw _ (List.mem_of_getElem? (i := 14) rfl))) (by decide) (backOf (W := 0) (rmA0 l Z a0 hw [] b216 a1 b102_218 k102_218 s1 s1 s1 T226.heap n0 Z227 g226_0 g226_1 g226_2 V227_b102_218 ne_b216_b102_218 ge_b216 ge_b102_218) hZ (hw _ (List.mem_of_getElem? (i := 16) rfl)) (hw _ (List.mem_of_getElem? (i := 2) rfl)) (by decide) (by decide)) q228a q228c (g := (mkF m 67 #[.val (.int a1), .val (.int b1), .val (.int c1), .val (.int k1), .val (.int s1), .val (.int q1), .val (.int (3 : Int32)), .val (.int (1 : Int32)), .val (.ref b216), .unset] [(.int a1), (.ref b216)])) rfl (by rw [hml]; rfl) (Steps.refl _) (argsL := [(.int a1)]) (rest := []) (lenOf pd0_2 rfl) rfl (by show 2 * 0 + _ ≤ _; exact Nat.le_of_eq rfl) (hb hby at_67) (fun _ _ => ⟨rfl, rfl, (by decide : 2 + 0 ≤ _), (by decide : 18 + 0 ≤ _)⟩)
      dsimp only [Pt.U, Pt.locs, Pt.cells, Pt.slots] at X228 l228 y228 z228 st228 hQ228
      subst l228 y228 z228
      obtain ⟨rfl, N228q, K228, g228_0, g228_1, g228_2, g228_3⟩ := hQ228
      have E229_b216 := g226_0.keep K228
      have Z229 := Nat.le_trans Z227 K228.1
      have K229 : Keep h0 T228.heap [] := Keep.trans K227 K228 (allS (Or.inr sz_b216) (allS (Or.inr sz_b102_218) all0))
      have N228 := Fr.app N226 N228q
      refine Go.tr st228 ?_
      show Go _ _ _ _ _ _ _ (T228.setTop (mkF m 70 #[.val (.int a1), .val (.int b1), .val (.int c1), .val (.int k1), .val (.int s1), .val (.int q1), .val (.int (3 : Int32)), .val (.int (1 : Int32)), .val (.ref b216), .unset] []))
      refine Go.by (fun _ kont => XS.iload X228.here hx rfl (hb hby at_70) rfl (XS.iconst X228.here hx rfl (hb hby at_72) kont)) ?_
      show Go _ _ _ _ _ _ _ (T228.setTop (mkF m 73 #[.val (.int a1), .val (.int b1), .val (.int c1), .val (.int k1), .val (.int s1), .val (.int q1), .val (.int (3 : Int32)), .val (.int (1 : Int32)), .val (.ref b216), .unset] [(.int (2 : Int32)), (.int (3 : Int32))]))
      refine Go.by (fun _ kont => XS.icmpNo X228.here hx rfl (hb hby at_73) rfl (by decide) kont) ?_
      show Go _ _ _ _ _ _ _ (T228.setTop (mkF m 76 #[.val (.int a1), .val (.int b1), .val (.int c1), .val (.int k1), .val (.int s1), .val (.int q1), .val (.int (3 : Int32)), .val (.int (1 : Int32)), .val (.ref b216), .unset] []))
      refine Go.by (fun _ kont => XS.aload X228.here hx rfl (hb hby at_76) rfl rfl (XS.iloadN X228.here hx rfl (hb hby at_78) rfl kont)) ?_
      show Go _ _ _ _ _ _ _ (T228.setTop (mkF m 79 #[.val (.int a1), .val (.int b1), .val (.int c1), .val (.int k1), .val (.int s1), .val (.int q1), .val (.int (3 : Int32)), .val (.int (1 : Int32)), .val (.ref b216), .unset] [(.int b1), (.ref b216)]))
      obtain ⟨cq230, kq230, q230a, q230b, q230c⟩ := isOf hZ rfl g228_0
      obtain ⟨_, _, ⟨T230, L230, k230, n230⟩, -, X230, ⟨Lc230, hQ230, l230, y230, z230⟩, st230⟩ := X228.virtualBack hx (y := (⟨"com/example/quorumsmith/quorumsmith/protocols/quorum/IntList", "add", "(I)V"⟩ : MethodName)) (z := (⟨"com/example/quorumsmith/quorumsmith/protocols/quorum/IntList", "add", "(I)V"⟩ : MethodName)) hown (mvT hZ (hw _ (List.mem_of_getElem? (i := 12) rfl))) (mvT hZ (hw _ (List.mem_of_getElem? (i := 13) rfl))) (notFace_of_selects (args := #[]) (mvT hZ (hw _ (List.mem_of_getElem? (i := 15) rfl)))) (mvT hZ (hw _ (List.mem_of_getElem? (i := 15) rfl))) (mvT hZ (hw _ (List.mem_of_getElem? (i := 14) rfl))) (by decide) (backOf (W := 0) (rmA1 l Z a0 hw [] b216 b1 b102_218 k102_218 a1 s1 s1 T228.heap n0 Z229 g228_0 g228_1 g228_2 g228_3 ne_b216_b102_218 ge_b216 ge_b102_218) hZ (hw _ (List.mem_of_getElem? (i := 16) rfl)) (hw _ (List.mem_of_getElem? (i := 2) rfl)) (by decide) (by decide)) q230a q230c (g := (mkF m 79 #[.val (.int a1), .val (.int b1), .val (.int c1), .val (.int k1), .val (.int s1), .val (.int q1), .val (.int (3 : Int32)), .val (.int (1 : Int32)), .val (.ref b216), .unset] [(.int b1), (.ref b216)])) rfl (by rw [hml]; rfl) (Steps.refl _) (argsL := [(.int b1)]) (rest := []) (lenOf pd0_2 rfl) rfl (by show 2 * 0 + _ ≤ _; exact Nat.le_of_eq rfl) (hb hby at_79) (fun _ _ => ⟨rfl, rfl, (by decide : 2 + 0 ≤ _), (by decide : 18 + 0 ≤ _)⟩)
      dsimp only [Pt.U, Pt.locs, Pt.cells, Pt.slots] at X230 l230 y230 z230 st230 hQ230
      subst l230 y230 z230
      obtain ⟨rfl, N230q, K230, g230_0, g230_1, g230_2, g230_3⟩ := hQ230
      have E231_b216 := g228_0.keep K230
      have Z231 := Nat.le_trans Z229 K230.1
      have K231 : Keep h0 T230.heap [] := Keep.trans K229 K230 (allS (Or.inr sz_b216) (allS (Or.inr sz_b102_218) all0))
      have N230 := Fr.app N228 N230q
      refine Go.tr st230 ?_
      show Go _ _ _ _ _ _ _ (T230.setTop (mkF m 82 #[.val (.int a1), .val (.int b1), .val (.int c1), .val (.int k1), .val (.int s1), .val (.int q1), .val (.int (3 : Int32)), .val (.int (1 : Int32)), .val (.ref b216), .unset] []))
      refine Go.by (fun _ kont => XS.iload X230.here hx rfl (hb hby at_82) rfl (XS.iconst X230.here hx rfl (hb hby at_84) kont)) ?_
      show Go _ _ _ _ _ _ _ (T230.setTop (mkF m 85 #[.val (.int a1), .val (.int b1), .val (.int c1), .val (.int k1), .val (.int s1), .val (.int q1), .val (.int (3 : Int32)), .val (.int (1 : Int32)), .val (.ref b216), .unset] [(.int (3 : Int32)), (.int (3 : Int32))]))
      refine Go.by (fun _ kont => XS.icmpNo X230.here hx rfl (hb hby at_85) rfl (by decide) kont) ?_
      show Go _ _ _ _ _ _ _ (T230.setTop (mkF m 88 #[.val (.int a1), .val (.int b1), .val (.int c1), .val (.int k1), .val (.int s1), .val (.int q1), .val (.int (3 : Int32)), .val (.int (1 : Int32)), .val (.ref b216), .unset] []))
      refine Go.by (fun _ kont => XS.aload X230.here hx rfl (hb hby at_88) rfl rfl (XS.iloadN X230.here hx rfl (hb hby at_90) rfl kont)) ?_
      show Go _ _ _ _ _ _ _ (T230.setTop (mkF m 91 #[.val (.int a1), .val (.int b1), .val (.int c1), .val (.int k1), .val (.int s1), .val (.int q1), .val (.int (3 : Int32)), .val (.int (1 : Int32)), .val (.ref b216), .unset] [(.int c1), (.ref b216)]))
      obtain ⟨cq232, kq232, q232a, q232b, q232c⟩ := isOf hZ rfl g230_0
      obtain ⟨_, _, ⟨T232, L232, k232, n232⟩, -, X232, ⟨Lc232, hQ232, l232, y232, z232⟩, st232⟩ := X230.virtualBack hx (y := (⟨"com/example/quorumsmith/quorumsmith/protocols/quorum/IntList", "add", "(I)V"⟩ : MethodName)) (z := (⟨"com/example/quorumsmith/quorumsmith/protocols/quorum/IntList", "add", "(I)V"⟩ : MethodName)) hown (mvT hZ (hw _ (List.mem_of_getElem? (i := 12) rfl))) (mvT hZ (hw _ (List.mem_of_getElem? (i := 13) rfl))) (notFace_of_selects (args := #[]) (mvT hZ (hw _ (List.mem_of_getElem? (i := 15) rfl)))) (mvT hZ (hw _ (List.mem_of_getElem? (i := 15) rfl))) (mvT hZ (hw _ (List.mem_of_getElem? (i := 14) rfl))) (by decide) (backOf (W := 0) (rmA2 l Z a0 hw [] b216 c1 b102_218 k102_218 a1 b1 s1 T230.heap n0 Z231 g230_0 g230_1 g230_2 g230_3 ne_b216_b102_218 ge_b216 ge_b102_218) hZ (hw _ (List.mem_of_getElem? (i := 16) rfl)) (hw _ (List.mem_of_getElem? (i := 2) rfl)) (by decide) (by decide)) q232a q232c (g := (mkF m 91 #[.val (.int a1), .val (.int b1), .val (.int c1), .val (.int k1), .val (.int s1), .val (.int q1), .val (.int (3 : Int32)), .val (.int (1 : Int32)), .val (.ref b216), .unset] [(.int c1), (.ref b216)])) rfl (by rw [hml]; rfl) (Steps.refl _) (argsL := [(.int c1)]) (rest := []) (lenOf pd0_2 rfl) rfl (by show 2 * 0 + _ ≤ _; exact Nat.le_of_eq rfl) (hb hby at_91) (fun _ _ => ⟨rfl, rfl, (by decide : 2 + 0 ≤ _), (by decide : 18 + 0 ≤ _)⟩)
      dsimp only [Pt.U, Pt.locs, Pt.cells, Pt.slots] at X232 l232 y232 z232 st232 hQ232
      subst l232 y232 z232
      obtain ⟨rfl, N232q, K232, g232_0, g232_1, g232_2, g232_3⟩ := hQ232
      have E233_b216 := g230_0.keep K232
      have Z233 := Nat.le_trans Z231 K232.1
      have K233 : Keep h0 T232.heap [] := Keep.trans K231 K232 (allS (Or.inr sz_b216) (allS (Or.inr sz_b102_218) all0))
      have N232 := Fr.app N230 N232q
      refine Go.tr st232 ?_
      show Go _ _ _ _ _ _ _ (T232.setTop (mkF m 94 #[.val (.int a1), .val (.int b1), .val (.int c1), .val (.int k1), .val (.int s1), .val (.int q1), .val (.int (3 : Int32)), .val (.int (1 : Int32)), .val (.ref b216), .unset] []))
      refine Go.by (fun _ kont => XS.iload X232.here hx rfl (hb hby at_94) rfl (XS.iconst X232.here hx rfl (hb hby at_96) kont)) ?_
      show Go _ _ _ _ _ _ _ (T232.setTop (mkF m 97 #[.val (.int a1), .val (.int b1), .val (.int c1), .val (.int k1), .val (.int s1), .val (.int q1), .val (.int (3 : Int32)), .val (.int (1 : Int32)), .val (.ref b216), .unset] [(.int (1 : Int32)), (.int (3 : Int32))]))
      refine Go.by (fun _ kont => XS.icmpNo X232.here hx rfl (hb hby at_97) rfl (by decide) kont) ?_
      show Go _ _ _ _ _ _ _ (T232.setTop (mkF m 100 #[.val (.int a1), .val (.int b1), .val (.int c1), .val (.int k1), .val (.int s1), .val (.int q1), .val (.int (3 : Int32)), .val (.int (1 : Int32)), .val (.ref b216), .unset] []))
      refine Go.by (fun _ kont => XS.iload X232.here hx rfl (hb hby at_100) rfl (XS.iloadN X232.here hx rfl (hb hby at_102) rfl kont)) ?_
      show Go _ _ _ _ _ _ _ (T232.setTop (mkF m 103 #[.val (.int a1), .val (.int b1), .val (.int c1), .val (.int k1), .val (.int s1), .val (.int q1), .val (.int (3 : Int32)), .val (.int (1 : Int32)), .val (.ref b216), .unset] [(.int a1), (.int q1)]))
      by_cases hc234 : q1 = a1
      · refine Go.by (fun _ kont => XS.icmpYes X232.here hx rfl (pc0 := 103) (pc' := 130) rfl (hb hby at_103) rfl (teq hc234).1 (by decide) (by decide) kont) ?_
        show Go _ _ _ _ _ _ _ (T232.setTop (mkF m 130 #[.val (.int a1), .val (.int b1), .val (.int c1), .val (.int k1), .val (.int s1), .val (.int q1), .val (.int (3 : Int32)), .val (.int (1 : Int32)), .val (.ref b216), .unset] []))
        refine Go.by (fun _ kont => XS.iconst X232.here hx rfl (hb hby at_130) (XS.goto X232.here hx rfl (pc0 := 131) (pc' := 135) rfl (hb hby at_131) (by decide) (by decide) (XS.istore X232.here hx rfl (hb hby at_135) rfl (l' := #[.val (.int a1), .val (.int b1), .val (.int c1), .val (.int k1), .val (.int s1), .val (.int q1), .val (.int (3 : Int32)), .val (.int (1 : Int32)), .val (.ref b216), .val (.int (1 : Int32))]) rfl (XS.aload X232.here hx rfl (hb hby at_137) rfl rfl (XS.iload X232.here hx rfl (hb hby at_139) rfl kont))))) ?_
        show Go _ _ _ _ _ _ _ (T232.setTop (mkF m 141 #[.val (.int a1), .val (.int b1), .val (.int c1), .val (.int k1), .val (.int s1), .val (.int q1), .val (.int (3 : Int32)), .val (.int (1 : Int32)), .val (.ref b216), .val (.int (1 : Int32))] [(.int q1), (.ref b216)]))
        obtain ⟨cq235, kq235, q235a, q235b, q235c⟩ := isOf hZ rfl g232_0
        obtain ⟨_, _, ⟨T235, L235, k235, n235⟩, -, X235, ⟨Lc235, hQ235, l235, y235, z235⟩, st235⟩ := X232.virtualBack hx (y := (⟨"com/example/quorumsmith/quorumsmith/protocols/quorum/IntList", "contains", "(I)Z"⟩ : MethodName)) (z := (⟨"com/example/quorumsmith/quorumsmith/protocols/quorum/IntList", "contains", "(I)Z"⟩ : MethodName)) hown (mvT hZ (hw _ (List.mem_of_getElem? (i := 19) rfl))) (mvT hZ (hw _ (List.mem_of_getElem? (i := 20) rfl))) (notFace_of_selects (args := #[]) (mvT hZ (hw _ (List.mem_of_getElem? (i := 22) rfl)))) (mvT hZ (hw _ (List.mem_of_getElem? (i := 22) rfl))) (mvT hZ (hw _ (List.mem_of_getElem? (i := 21) rfl))) (by decide) (backOf (W := 0) (rmD3 l Z a0 hw [] b216 q1 b102_218 k102_218 a1 b1 c1 T232.heap n0 Z233 g232_1 g232_2 g232_3) hZ (hw _ (List.mem_of_getElem? (i := 23) rfl)) (hw _ (List.mem_of_getElem? (i := 2) rfl)) (by decide) (by decide)) q235a q235c (g := (mkF m 141 #[.val (.int a1), .val (.int b1), .val (.int c1), .val (.int k1), .val (.int s1), .val (.int q1), .val (.int (3 : Int32)), .val (.int (1 : Int32)), .val (.ref b216), .val (.int (1 : Int32))] [(.int q1), (.ref b216)])) rfl (by rw [hml]; rfl) (Steps.refl _) (argsL := [(.int q1)]) (rest := []) (lenOf pd0_1 rfl) rfl (by show 2 * 0 + _ ≤ _; exact Nat.le_of_eq rfl) (hb hby at_141) (fun _ _ => ⟨rfl, rfl, (by decide : 2 + 0 ≤ _), (by decide : 18 + 0 ≤ _)⟩)
        dsimp only [Pt.U, Pt.locs, Pt.cells, Pt.slots] at X235 l235 y235 z235 st235 hQ235
        subst l235 y235 z235
        obtain ⟨rfl, N235q, eh235⟩ := hQ235
        have N235 := Fr.app N232 N235q
        refine Go.tr st235 ?_
        show Go _ _ _ _ _ _ _ (T235.setTop (mkF m 144 #[.val (.int a1), .val (.int b1), .val (.int c1), .val (.int k1), .val (.int s1), .val (.int q1), .val (.int (3 : Int32)), .val (.int (1 : Int32)), .val (.ref b216), .val (.int (1 : Int32))] [(.int (fD3 q1 a1 b1 c1))]))
        refine Go.by (fun _ kont => XS.iload X235.here hx rfl (hb hby at_144) rfl kont) ?_
        show Go _ _ _ _ _ _ _ (T235.setTop (mkF m 146 #[.val (.int a1), .val (.int b1), .val (.int c1), .val (.int k1), .val (.int s1), .val (.int q1), .val (.int (3 : Int32)), .val (.int (1 : Int32)), .val (.ref b216), .val (.int (1 : Int32))] [(.int (1 : Int32)), (.int (fD3 q1 a1 b1 c1))]))
        have hd236 : (fD3 q1 a1 b1 c1) = (1 : Int32) := by unfold fD3; rw [if_pos hc234.symm]
        refine Go.by (fun _ kont => XS.icmpNo X235.here hx rfl (hb hby at_146) rfl (teq hd236).2 kont) ?_
        show Go _ _ _ _ _ _ _ (T235.setTop (mkF m 149 #[.val (.int a1), .val (.int b1), .val (.int c1), .val (.int k1), .val (.int s1), .val (.int q1), .val (.int (3 : Int32)), .val (.int (1 : Int32)), .val (.ref b216), .val (.int (1 : Int32))] []))
        refine Go.by (fun _ kont => XS.iconst X235.here hx rfl (hb hby at_149) (XS.goto X235.here hx rfl (pc0 := 150) (pc' := 154) rfl (hb hby at_150) (by decide) (by decide) kont)) ?_
        show Go _ _ _ _ _ _ _ (T235.setTop (mkF m 154 #[.val (.int a1), .val (.int b1), .val (.int c1), .val (.int k1), .val (.int s1), .val (.int q1), .val (.int (3 : Int32)), .val (.int (1 : Int32)), .val (.ref b216), .val (.int (1 : Int32))] [(.int (1 : Int32))]))
        refine Go.retN X235 hx (t := .boolean) hret (by simp) hlk (hb hby at_154) ?_ (by decide) (by decide)
        show Q0 Z h0 n0 (some (.int (1 : Int32))) T235.heap _
        rw [eh235]
        exact ⟨rfl, N235⟩
      · refine Go.by (fun _ kont => XS.icmpNo X232.here hx rfl (hb hby at_103) rfl (feq hc234).1 kont) ?_
        show Go _ _ _ _ _ _ _ (T232.setTop (mkF m 106 #[.val (.int a1), .val (.int b1), .val (.int c1), .val (.int k1), .val (.int s1), .val (.int q1), .val (.int (3 : Int32)), .val (.int (1 : Int32)), .val (.ref b216), .unset] []))
        refine Go.by (fun _ kont => XS.iload X232.here hx rfl (hb hby at_106) rfl (XS.iconst X232.here hx rfl (hb hby at_108) kont)) ?_
        show Go _ _ _ _ _ _ _ (T232.setTop (mkF m 109 #[.val (.int a1), .val (.int b1), .val (.int c1), .val (.int k1), .val (.int s1), .val (.int q1), .val (.int (3 : Int32)), .val (.int (1 : Int32)), .val (.ref b216), .unset] [(.int (2 : Int32)), (.int (3 : Int32))]))
        refine Go.by (fun _ kont => XS.icmpNo X232.here hx rfl (hb hby at_109) rfl (by decide) kont) ?_
        show Go _ _ _ _ _ _ _ (T232.setTop (mkF m 112 #[.val (.int a1), .val (.int b1), .val (.int c1), .val (.int k1), .val (.int s1), .val (.int q1), .val (.int (3 : Int32)), .val (.int (1 : Int32)), .val (.ref b216), .unset] []))
        refine Go.by (fun _ kont => XS.iload X232.here hx rfl (hb hby at_112) rfl (XS.iloadN X232.here hx rfl (hb hby at_114) rfl kont)) ?_
        show Go _ _ _ _ _ _ _ (T232.setTop (mkF m 115 #[.val (.int a1), .val (.int b1), .val (.int c1), .val (.int k1), .val (.int s1), .val (.int q1), .val (.int (3 : Int32)), .val (.int (1 : Int32)), .val (.ref b216), .unset] [(.int b1), (.int q1)]))
        by_cases hc237 : q1 = b1
        · refine Go.by (fun _ kont => XS.icmpYes X232.here hx rfl (pc0 := 115) (pc' := 130) rfl (hb hby at_115) rfl (teq hc237).1 (by decide) (by decide) kont) ?_
          show Go _ _ _ _ _ _ _ (T232.setTop (mkF m 130 #[.val (.int a1), .val (.int b1), .val (.int c1), .val (.int k1), .val (.int s1), .val (.int q1), .val (.int (3 : Int32)), .val (.int (1 : Int32)), .val (.ref b216), .unset] []))
          refine Go.by (fun _ kont => XS.iconst X232.here hx rfl (hb hby at_130) (XS.goto X232.here hx rfl (pc0 := 131) (pc' := 135) rfl (hb hby at_131) (by decide) (by decide) (XS.istore X232.here hx rfl (hb hby at_135) rfl (l' := #[.val (.int a1), .val (.int b1), .val (.int c1), .val (.int k1), .val (.int s1), .val (.int q1), .val (.int (3 : Int32)), .val (.int (1 : Int32)), .val (.ref b216), .val (.int (1 : Int32))]) rfl (XS.aload X232.here hx rfl (hb hby at_137) rfl rfl (XS.iload X232.here hx rfl (hb hby at_139) rfl kont))))) ?_
          show Go _ _ _ _ _ _ _ (T232.setTop (mkF m 141 #[.val (.int a1), .val (.int b1), .val (.int c1), .val (.int k1), .val (.int s1), .val (.int q1), .val (.int (3 : Int32)), .val (.int (1 : Int32)), .val (.ref b216), .val (.int (1 : Int32))] [(.int q1), (.ref b216)]))
          obtain ⟨cq238, kq238, q238a, q238b, q238c⟩ := isOf hZ rfl g232_0
          obtain ⟨_, _, ⟨T238, L238, k238, n238⟩, -, X238, ⟨Lc238, hQ238, l238, y238, z238⟩, st238⟩ := X232.virtualBack hx (y := (⟨"com/example/quorumsmith/quorumsmith/protocols/quorum/IntList", "contains", "(I)Z"⟩ : MethodName)) (z := (⟨"com/example/quorumsmith/quorumsmith/protocols/quorum/IntList", "contains", "(I)Z"⟩ : MethodName)) hown (mvT hZ (hw _ (List.mem_of_getElem? (i := 19) rfl))) (mvT hZ (hw _ (List.mem_of_getElem? (i := 20) rfl))) (notFace_of_selects (args := #[]) (mvT hZ (hw _ (List.mem_of_getElem? (i := 22) rfl)))) (mvT hZ (hw _ (List.mem_of_getElem? (i := 22) rfl))) (mvT hZ (hw _ (List.mem_of_getElem? (i := 21) rfl))) (by decide) (backOf (W := 0) (rmD3 l Z a0 hw [] b216 q1 b102_218 k102_218 a1 b1 c1 T232.heap n0 Z233 g232_1 g232_2 g232_3) hZ (hw _ (List.mem_of_getElem? (i := 23) rfl)) (hw _ (List.mem_of_getElem? (i := 2) rfl)) (by decide) (by decide)) q238a q238c (g := (mkF m 141 #[.val (.int a1), .val (.int b1), .val (.int c1), .val (.int k1), .val (.int s1), .val (.int q1), .val (.int (3 : Int32)), .val (.int (1 : Int32)), .val (.ref b216), .val (.int (1 : Int32))] [(.int q1), (.ref b216)])) rfl (by rw [hml]; rfl) (Steps.refl _) (argsL := [(.int q1)]) (rest := []) (lenOf pd0_1 rfl) rfl (by show 2 * 0 + _ ≤ _; exact Nat.le_of_eq rfl) (hb hby at_141) (fun _ _ => ⟨rfl, rfl, (by decide : 2 + 0 ≤ _), (by decide : 18 + 0 ≤ _)⟩)
          dsimp only [Pt.U, Pt.locs, Pt.cells, Pt.slots] at X238 l238 y238 z238 st238 hQ238
          subst l238 y238 z238
          obtain ⟨rfl, N238q, eh238⟩ := hQ238
          have N238 := Fr.app N232 N238q
          refine Go.tr st238 ?_
          show Go _ _ _ _ _ _ _ (T238.setTop (mkF m 144 #[.val (.int a1), .val (.int b1), .val (.int c1), .val (.int k1), .val (.int s1), .val (.int q1), .val (.int (3 : Int32)), .val (.int (1 : Int32)), .val (.ref b216), .val (.int (1 : Int32))] [(.int (fD3 q1 a1 b1 c1))]))
          refine Go.by (fun _ kont => XS.iload X238.here hx rfl (hb hby at_144) rfl kont) ?_
          show Go _ _ _ _ _ _ _ (T238.setTop (mkF m 146 #[.val (.int a1), .val (.int b1), .val (.int c1), .val (.int k1), .val (.int s1), .val (.int q1), .val (.int (3 : Int32)), .val (.int (1 : Int32)), .val (.ref b216), .val (.int (1 : Int32))] [(.int (1 : Int32)), (.int (fD3 q1 a1 b1 c1))]))
          have hd239 : (fD3 q1 a1 b1 c1) = (1 : Int32) := by unfold fD3; rw [if_neg (fun z => hc234 z.symm), if_pos hc237.symm]
          refine Go.by (fun _ kont => XS.icmpNo X238.here hx rfl (hb hby at_146) rfl (teq hd239).2 kont) ?_
          show Go _ _ _ _ _ _ _ (T238.setTop (mkF m 149 #[.val (.int a1), .val (.int b1), .val (.int c1), .val (.int k1), .val (.int s1), .val (.int q1), .val (.int (3 : Int32)), .val (.int (1 : Int32)), .val (.ref b216), .val (.int (1 : Int32))] []))
          refine Go.by (fun _ kont => XS.iconst X238.here hx rfl (hb hby at_149) (XS.goto X238.here hx rfl (pc0 := 150) (pc' := 154) rfl (hb hby at_150) (by decide) (by decide) kont)) ?_
          show Go _ _ _ _ _ _ _ (T238.setTop (mkF m 154 #[.val (.int a1), .val (.int b1), .val (.int c1), .val (.int k1), .val (.int s1), .val (.int q1), .val (.int (3 : Int32)), .val (.int (1 : Int32)), .val (.ref b216), .val (.int (1 : Int32))] [(.int (1 : Int32))]))
          refine Go.retN X238 hx (t := .boolean) hret (by simp) hlk (hb hby at_154) ?_ (by decide) (by decide)
          show Q0 Z h0 n0 (some (.int (1 : Int32))) T238.heap _
          rw [eh238]
          exact ⟨rfl, N238⟩
        · refine Go.by (fun _ kont => XS.icmpNo X232.here hx rfl (hb hby at_115) rfl (feq hc237).1 kont) ?_
          show Go _ _ _ _ _ _ _ (T232.setTop (mkF m 118 #[.val (.int a1), .val (.int b1), .val (.int c1), .val (.int k1), .val (.int s1), .val (.int q1), .val (.int (3 : Int32)), .val (.int (1 : Int32)), .val (.ref b216), .unset] []))
          refine Go.by (fun _ kont => XS.iload X232.here hx rfl (hb hby at_118) rfl (XS.iconst X232.here hx rfl (hb hby at_120) kont)) ?_
          show Go _ _ _ _ _ _ _ (T232.setTop (mkF m 121 #[.val (.int a1), .val (.int b1), .val (.int c1), .val (.int k1), .val (.int s1), .val (.int q1), .val (.int (3 : Int32)), .val (.int (1 : Int32)), .val (.ref b216), .unset] [(.int (3 : Int32)), (.int (3 : Int32))]))
          refine Go.by (fun _ kont => XS.icmpNo X232.here hx rfl (hb hby at_121) rfl (by decide) kont) ?_
          show Go _ _ _ _ _ _ _ (T232.setTop (mkF m 124 #[.val (.int a1), .val (.int b1), .val (.int c1), .val (.int k1), .val (.int s1), .val (.int q1), .val (.int (3 : Int32)), .val (.int (1 : Int32)), .val (.ref b216), .unset] []))
          refine Go.by (fun _ kont => XS.iload X232.here hx rfl (hb hby at_124) rfl (XS.iloadN X232.here hx rfl (hb hby at_126) rfl kont)) ?_
          show Go _ _ _ _ _ _ _ (T232.setTop (mkF m 127 #[.val (.int a1), .val (.int b1), .val (.int c1), .val (.int k1), .val (.int s1), .val (.int q1), .val (.int (3 : Int32)), .val (.int (1 : Int32)), .val (.ref b216), .unset] [(.int c1), (.int q1)]))
          by_cases hc240 : q1 = c1
          · refine Go.by (fun _ kont => XS.icmpNo X232.here hx rfl (hb hby at_127) rfl (teq hc240).2 kont) ?_
            show Go _ _ _ _ _ _ _ (T232.setTop (mkF m 130 #[.val (.int a1), .val (.int b1), .val (.int c1), .val (.int k1), .val (.int s1), .val (.int q1), .val (.int (3 : Int32)), .val (.int (1 : Int32)), .val (.ref b216), .unset] []))
            refine Go.by (fun _ kont => XS.iconst X232.here hx rfl (hb hby at_130) (XS.goto X232.here hx rfl (pc0 := 131) (pc' := 135) rfl (hb hby at_131) (by decide) (by decide) (XS.istore X232.here hx rfl (hb hby at_135) rfl (l' := #[.val (.int a1), .val (.int b1), .val (.int c1), .val (.int k1), .val (.int s1), .val (.int q1), .val (.int (3 : Int32)), .val (.int (1 : Int32)), .val (.ref b216), .val (.int (1 : Int32))]) rfl (XS.aload X232.here hx rfl (hb hby at_137) rfl rfl (XS.iload X232.here hx rfl (hb hby at_139) rfl kont))))) ?_
            show Go _ _ _ _ _ _ _ (T232.setTop (mkF m 141 #[.val (.int a1), .val (.int b1), .val (.int c1), .val (.int k1), .val (.int s1), .val (.int q1), .val (.int (3 : Int32)), .val (.int (1 : Int32)), .val (.ref b216), .val (.int (1 : Int32))] [(.int q1), (.ref b216)]))
            obtain ⟨cq241, kq241, q241a, q241b, q241c⟩ := isOf hZ rfl g232_0
            obtain ⟨_, _, ⟨T241, L241, k241, n241⟩, -, X241, ⟨Lc241, hQ241, l241, y241, z241⟩, st241⟩ := X232.virtualBack hx (y := (⟨"com/example/quorumsmith/quorumsmith/protocols/quorum/IntList", "contains", "(I)Z"⟩ : MethodName)) (z := (⟨"com/example/quorumsmith/quorumsmith/protocols/quorum/IntList", "contains", "(I)Z"⟩ : MethodName)) hown (mvT hZ (hw _ (List.mem_of_getElem? (i := 19) rfl))) (mvT hZ (hw _ (List.mem_of_getElem? (i := 20) rfl))) (notFace_of_selects (args := #[]) (mvT hZ (hw _ (List.mem_of_getElem? (i := 22) rfl)))) (mvT hZ (hw _ (List.mem_of_getElem? (i := 22) rfl))) (mvT hZ (hw _ (List.mem_of_getElem? (i := 21) rfl))) (by decide) (backOf (W := 0) (rmD3 l Z a0 hw [] b216 q1 b102_218 k102_218 a1 b1 c1 T232.heap n0 Z233 g232_1 g232_2 g232_3) hZ (hw _ (List.mem_of_getElem? (i := 23) rfl)) (hw _ (List.mem_of_getElem? (i := 2) rfl)) (by decide) (by decide)) q241a q241c (g := (mkF m 141 #[.val (.int a1), .val (.int b1), .val (.int c1), .val (.int k1), .val (.int s1), .val (.int q1), .val (.int (3 : Int32)), .val (.int (1 : Int32)), .val (.ref b216), .val (.int (1 : Int32))] [(.int q1), (.ref b216)])) rfl (by rw [hml]; rfl) (Steps.refl _) (argsL := [(.int q1)]) (rest := []) (lenOf pd0_1 rfl) rfl (by show 2 * 0 + _ ≤ _; exact Nat.le_of_eq rfl) (hb hby at_141) (fun _ _ => ⟨rfl, rfl, (by decide : 2 + 0 ≤ _), (by decide : 18 + 0 ≤ _)⟩)
            dsimp only [Pt.U, Pt.locs, Pt.cells, Pt.slots] at X241 l241 y241 z241 st241 hQ241
            subst l241 y241 z241
            obtain ⟨rfl, N241q, eh241⟩ := hQ241
            have N241 := Fr.app N232 N241q
            refine Go.tr st241 ?_
            show Go _ _ _ _ _ _ _ (T241.setTop (mkF m 144 #[.val (.int a1), .val (.int b1), .val (.int c1), .val (.int k1), .val (.int s1), .val (.int q1), .val (.int (3 : Int32)), .val (.int (1 : Int32)), .val (.ref b216), .val (.int (1 : Int32))] [(.int (fD3 q1 a1 b1 c1))]))
            refine Go.by (fun _ kont => XS.iload X241.here hx rfl (hb hby at_144) rfl kont) ?_
            show Go _ _ _ _ _ _ _ (T241.setTop (mkF m 146 #[.val (.int a1), .val (.int b1), .val (.int c1), .val (.int k1), .val (.int s1), .val (.int q1), .val (.int (3 : Int32)), .val (.int (1 : Int32)), .val (.ref b216), .val (.int (1 : Int32))] [(.int (1 : Int32)), (.int (fD3 q1 a1 b1 c1))]))
            have hd242 : (fD3 q1 a1 b1 c1) = (1 : Int32) := by unfold fD3; rw [if_neg (fun z => hc234 z.symm), if_neg (fun z => hc237 z.symm), if_pos hc240.symm]
            refine Go.by (fun _ kont => XS.icmpNo X241.here hx rfl (hb hby at_146) rfl (teq hd242).2 kont) ?_
            show Go _ _ _ _ _ _ _ (T241.setTop (mkF m 149 #[.val (.int a1), .val (.int b1), .val (.int c1), .val (.int k1), .val (.int s1), .val (.int q1), .val (.int (3 : Int32)), .val (.int (1 : Int32)), .val (.ref b216), .val (.int (1 : Int32))] []))
            refine Go.by (fun _ kont => XS.iconst X241.here hx rfl (hb hby at_149) (XS.goto X241.here hx rfl (pc0 := 150) (pc' := 154) rfl (hb hby at_150) (by decide) (by decide) kont)) ?_
            show Go _ _ _ _ _ _ _ (T241.setTop (mkF m 154 #[.val (.int a1), .val (.int b1), .val (.int c1), .val (.int k1), .val (.int s1), .val (.int q1), .val (.int (3 : Int32)), .val (.int (1 : Int32)), .val (.ref b216), .val (.int (1 : Int32))] [(.int (1 : Int32))]))
            refine Go.retN X241 hx (t := .boolean) hret (by simp) hlk (hb hby at_154) ?_ (by decide) (by decide)
            show Q0 Z h0 n0 (some (.int (1 : Int32))) T241.heap _
            rw [eh241]
            exact ⟨rfl, N241⟩
          · refine Go.by (fun _ kont => XS.icmpYes X232.here hx rfl (pc0 := 127) (pc' := 134) rfl (hb hby at_127) rfl (feq hc240).2 (by decide) (by decide) kont) ?_
            show Go _ _ _ _ _ _ _ (T232.setTop (mkF m 134 #[.val (.int a1), .val (.int b1), .val (.int c1), .val (.int k1), .val (.int s1), .val (.int q1), .val (.int (3 : Int32)), .val (.int (1 : Int32)), .val (.ref b216), .unset] []))
            refine Go.by (fun _ kont => XS.iconst X232.here hx rfl (hb hby at_134) (XS.istore X232.here hx rfl (hb hby at_135) rfl (l' := #[.val (.int a1), .val (.int b1), .val (.int c1), .val (.int k1), .val (.int s1), .val (.int q1), .val (.int (3 : Int32)), .val (.int (1 : Int32)), .val (.ref b216), .val (.int (0 : Int32))]) rfl (XS.aload X232.here hx rfl (hb hby at_137) rfl rfl (XS.iload X232.here hx rfl (hb hby at_139) rfl kont)))) ?_
            show Go _ _ _ _ _ _ _ (T232.setTop (mkF m 141 #[.val (.int a1), .val (.int b1), .val (.int c1), .val (.int k1), .val (.int s1), .val (.int q1), .val (.int (3 : Int32)), .val (.int (1 : Int32)), .val (.ref b216), .val (.int (0 : Int32))] [(.int q1), (.ref b216)]))
            obtain ⟨cq243, kq243, q243a, q243b, q243c⟩ := isOf hZ rfl g232_0
            obtain ⟨_, _, ⟨T243, L243, k243, n243⟩, -, X243, ⟨Lc243, hQ243, l243, y243, z243⟩, st243⟩ := X232.virtualBack hx (y := (⟨"com/example/quorumsmith/quorumsmith/protocols/quorum/IntList", "contains", "(I)Z"⟩ : MethodName)) (z := (⟨"com/example/quorumsmith/quorumsmith/protocols/quorum/IntList", "contains", "(I)Z"⟩ : MethodName)) hown (mvT hZ (hw _ (List.mem_of_getElem? (i := 19) rfl))) (mvT hZ (hw _ (List.mem_of_getElem? (i := 20) rfl))) (notFace_of_selects (args := #[]) (mvT hZ (hw _ (List.mem_of_getElem? (i := 22) rfl)))) (mvT hZ (hw _ (List.mem_of_getElem? (i := 22) rfl))) (mvT hZ (hw _ (List.mem_of_getElem? (i := 21) rfl))) (by decide) (backOf (W := 0) (rmD3 l Z a0 hw [] b216 q1 b102_218 k102_218 a1 b1 c1 T232.heap n0 Z233 g232_1 g232_2 g232_3) hZ (hw _ (List.mem_of_getElem? (i := 23) rfl)) (hw _ (List.mem_of_getElem? (i := 2) rfl)) (by decide) (by decide)) q243a q243c (g := (mkF m 141 #[.val (.int a1), .val (.int b1), .val (.int c1), .val (.int k1), .val (.int s1), .val (.int q1), .val (.int (3 : Int32)), .val (.int (1 : Int32)), .val (.ref b216), .val (.int (0 : Int32))] [(.int q1), (.ref b216)])) rfl (by rw [hml]; rfl) (Steps.refl _) (argsL := [(.int q1)]) (rest := []) (lenOf pd0_1 rfl) rfl (by show 2 * 0 + _ ≤ _; exact Nat.le_of_eq rfl) (hb hby at_141) (fun _ _ => ⟨rfl, rfl, (by decide : 2 + 0 ≤ _), (by decide : 18 + 0 ≤ _)⟩)
            dsimp only [Pt.U, Pt.locs, Pt.cells, Pt.slots] at X243 l243 y243 z243 st243 hQ243
            subst l243 y243 z243
            obtain ⟨rfl, N243q, eh243⟩ := hQ243
            have N243 := Fr.app N232 N243q
            refine Go.tr st243 ?_
            show Go _ _ _ _ _ _ _ (T243.setTop (mkF m 144 #[.val (.int a1), .val (.int b1), .val (.int c1), .val (.int k1), .val (.int s1), .val (.int q1), .val (.int (3 : Int32)), .val (.int (1 : Int32)), .val (.ref b216), .val (.int (0 : Int32))] [(.int (fD3 q1 a1 b1 c1))]))
            refine Go.by (fun _ kont => XS.iload X243.here hx rfl (hb hby at_144) rfl kont) ?_
            show Go _ _ _ _ _ _ _ (T243.setTop (mkF m 146 #[.val (.int a1), .val (.int b1), .val (.int c1), .val (.int k1), .val (.int s1), .val (.int q1), .val (.int (3 : Int32)), .val (.int (1 : Int32)), .val (.ref b216), .val (.int (0 : Int32))] [(.int (0 : Int32)), (.int (fD3 q1 a1 b1 c1))]))
            have hd244 : (fD3 q1 a1 b1 c1) = (0 : Int32) := by unfold fD3; rw [if_neg (fun z => hc234 z.symm), if_neg (fun z => hc237 z.symm), if_neg (fun z => hc240 z.symm)]
            refine Go.by (fun _ kont => XS.icmpNo X243.here hx rfl (hb hby at_146) rfl (teq hd244).2 kont) ?_
            show Go _ _ _ _ _ _ _ (T243.setTop (mkF m 149 #[.val (.int a1), .val (.int b1), .val (.int c1), .val (.int k1), .val (.int s1), .val (.int q1), .val (.int (3 : Int32)), .val (.int (1 : Int32)), .val (.ref b216), .val (.int (0 : Int32))] []))
            refine Go.by (fun _ kont => XS.iconst X243.here hx rfl (hb hby at_149) (XS.goto X243.here hx rfl (pc0 := 150) (pc' := 154) rfl (hb hby at_150) (by decide) (by decide) kont)) ?_
            show Go _ _ _ _ _ _ _ (T243.setTop (mkF m 154 #[.val (.int a1), .val (.int b1), .val (.int c1), .val (.int k1), .val (.int s1), .val (.int q1), .val (.int (3 : Int32)), .val (.int (1 : Int32)), .val (.ref b216), .val (.int (0 : Int32))] [(.int (1 : Int32))]))
            refine Go.retN X243 hx (t := .boolean) hret (by simp) hlk (hb hby at_154) ?_ (by decide) (by decide)
            show Q0 Z h0 n0 (some (.int (1 : Int32))) T243.heap _
            rw [eh243]
            exact ⟨rfl, N243⟩

set_option maxRecDepth 65536 in
set_option maxHeartbeats 40000000 in
theorem comes_1 {Post : Tables → Env → Array Value → State → Outcome → State → Prop} (hpost : ∀ tb e args s v u, (limb_1_1.after args s (.returned v) u = true ∧ limb_1_2.after args s (.returned v) u = true ∧ True) → FrameEnd s (.returned v) u (Jvm.fieldLocs frame_1_writes args s ++ Jvm.arrayLocs frame_1_arrays args s ++ Jvm.staticLocs frame_1_statics s) 16 128 → Post tb e args s (.returned v) u) :
    ArmFor flags0 classFile x code maxLocals ret World_1 tables_1 room_1 Calls_1 rest_1 Pre_1 Post := by
  intro l hfl _ _ p e ha hc hk s m args below hf hA hF happ hP
  obtain ⟨hcalls, hrest, hpre⟩ := hP
  obtain ⟨-, -, -, hnamed, -, -, -, hat⟩ := (Spec.applies_iff hf).mp happ
  obtain ⟨hg, hn⟩ := and_e (Cond.before_iff.mp (show (Jvm.Cond.and given_1 narrow_1).before args s = true from hpre))
  obtain ⟨hh1, hh2⟩ := and_e hg
  obtain ⟨hh3, hh4⟩ := and_e hh2
  obtain ⟨hh5, hh6⟩ := and_e hh4
  obtain ⟨hh7, hh8⟩ := and_e hh6
  obtain ⟨hh9, hh10⟩ := and_e hh8
  obtain ⟨hh11, hh12⟩ := and_e hh10
  obtain ⟨w0, w1, w2, w3, w4, w5, rfl⟩ : ∃ w0 w1 w2 w3 w4 w5 : Value, args = #[w0, w1, w2, w3, w4, w5] := by
    have hs : args.size = 6 := by simpa [Cond.value, given_1] using hh1
    obtain ⟨L⟩ := args
    match L, hs with
    | [w0, w1, w2, w3, w4, w5], _ => exact ⟨w0, w1, w2, w3, w4, w5, rfl⟩
  have hw := fun d (hd : d ∈ tables_1) => atoms_spec (ws := Jvm.Cond.code x code maxLocals ret :: tables_1) hat d (List.mem_cons_of_mem _ hd)
  obtain ⟨i0, ei0⟩ := is_v hh3
  obtain rfl : w0 = (.int i0) := Option.some.inj ei0
  obtain ⟨i1, ei1⟩ := is_v hh5
  obtain rfl : w1 = (.int i1) := Option.some.inj ei1
  obtain ⟨i2, ei2⟩ := is_v hh7
  obtain rfl : w2 = (.int i2) := Option.some.inj ei2
  obtain ⟨i3, ei3⟩ := is_v hh9
  obtain rfl : w3 = (.int i3) := Option.some.inj ei3
  obtain ⟨i4, ei4⟩ := is_v hh11
  obtain rfl : w4 = (.int i4) := Option.some.inj ei4
  obtain ⟨i5, ei5⟩ := is_v hh12
  obtain rfl : w5 = (.int i5) := Option.some.inj ei5
  obtain ⟨n, o, h1, h2, h3, _, L, rfl, ⟨rfl, N⟩, hq⟩ := rm0 l s _ hw tables_1 i0 i1 i2 i3 i4 i5  s.heap s.heap.size (Nat.le_refl _)  p e ha hc hk s m _ below hf ((Spec.applies_iff_loose hf).mp happ).1 ⟨rfl, State.Warmed39.refl s, rfl⟩ trivial
  refine ⟨n, _, h1, h2, h3, hpost _ _ _ _ _ _ ⟨Cond.after_iff.mpr rfl, Cond.after_iff.mpr (eq_i res_at (Term.int_eval (1)) rfl), trivial⟩ ⟨hq.1, hq.2.1, (hq.2.2.sift fun y hy => Or.inr (N y hy)).mono (by decide) (by decide)⟩⟩
theorem main_1_1 : Claimed_1_1 := comes_1 fun _ _ _ _ _ _ h hF => ⟨h.1, hF⟩
theorem main_1_2 : Claimed_1_2 := comes_1 fun _ _ _ _ _ _ h hF => ⟨h.2.1, hF⟩

end Jvm.Pilot.@@N@@
namespace Jvm.Pilot.@@N@@
open Jvm Jvm.ClassFile Sem Op Lib Jvm.Free Jvm.Stand Jvm.Pilot.@@N@@.Jvm.D
/-! MADE BY PROGRAM (witnessworld.py) out of the Statement's table words and the real class files: 9 classes; the members and pool entries that the words name. The judged class is class 1, her method 1. -/
namespace start1
open Jvm.ClassFile
def u (s : String) : CpInfo := .utf8 (stringToUtf16 s)
/-- a pool by its gaps: so many unusable entries, then the entry; so many at the end -/
def gap : Nat → List CpInfo → List CpInfo
  | 0, r => r
  | n + 1, r => .unusable :: gap n r
def poolList (es : List (Nat × CpInfo)) (last : Nat) : List CpInfo := es.foldr (fun e r => gap e.1 (e.2 :: r)) (gap last [])
def pool (es : List (Nat × CpInfo)) (last : Nat) : Array CpInfo := ⟨poolList es last⟩
def fileOf (pool : Array CpInfo) (this : Nat) (attrs : Array Attribute := #[]) (ms : Array MethodInfo := #[]) (fl : Nat := 33) (sup : Nat := 0) (ifs : Array Nat := #[]) (fds : Array FieldInfo := #[]) : ClassFile where
  minorVersion := 0
  majorVersion := 65
  constantPool := pool
  accessFlags := fl
  thisClass := this
  superClass := sup
  interfaces := ifs
  fields := fds
  methods := ms
  attributes := attrs
def plain (name : String) (sup : Option ClassId) : Class where
  name := name
  kind := .ordinary
  loader := none
  accessFlags := 33
  super := sup
  interfaces := #[]
  cf := none
  fields := #[]
  methods := #[]
  instanceTypes := #[]
  staticTypes := #[]
  resolved := #[]
  callSites := []
  init := .initialized
  statics := none
  mirror := none

def pool0 : Array CpInfo := pool [(5, u "<init>"), (0, u "()V"), (1, .class_ 10), (1, u "java/lang/Object")] 113

def k0c0 : Code := { maxStack := 0, maxLocals := 1, code := object_method_1_code, exceptionTable := #[], attributes := #[] }
def k0m0 : Method := { name := "<init>", desc := "()V", sig := { parameters := [], returnType := none }, accessFlags := 1, code := some k0c0 }
/-- java/lang/Object -/
def k0 : Class := { plain "java/lang/Object" none with
  accessFlags := 33
  interfaces := #[]
  cf := some (fileOf pool0 8 #[] #[{ accessFlags := 1, nameIndex := 5, descriptorIndex := 6, attributes := #[] }] 33 0 #[] #[])
  fields := #[]
  methods := #[k0m0]
  instanceTypes := #[]
  staticTypes := #[]
  resolved := Array.replicate 124 none
  statics := none }

def pool1 : Array CpInfo := pool [(2, .class_ 4), (0, .nameAndType 5 6), (0, u "java/lang/Object"), (0, u "<init>"), (0, u "()V"), (0, .class_ 8), (0, u "com/example/quorumsmith/quorumsmith/protocols/quorum/IntList"), (0, .methodref 7 3), (0, .methodref 7 11), (0, .nameAndType 12 13), (0, u "add"), (0, u "(I)V"), (0, .methodref 7 15), (0, .nameAndType 16 6), (0, u "clear"), (0, .methodref 7 18), (0, .nameAndType 19 20), (0, u "contains"), (0, u "(I)Z"), (0, .class_ 22), (0, u "com/example/quorumsmith/quorumsmith/protocols/quorum/IntListContainsPinLaw"), (2, u "law"), (0, u "(IIIIII)Z")] 3

def k1m0 : Method := { name := "<init>", desc := "()V", sig := { parameters := [], returnType := none }, accessFlags := 1, code := none }
def k1c1 : Code := { maxStack := 2, maxLocals := 10, code := code, exceptionTable := #[], attributes := #[] }
def k1m1 : Method := { name := "law", desc := "(IIIIII)Z", sig := { parameters := [.int, .int, .int, .int, .int, .int], returnType := some .boolean }, accessFlags := 9, code := some k1c1 }
/-- com/example/quorumsmith/quorumsmith/protocols/quorum/IntListContainsPinLaw -/
def k1 : Class := { plain "com/example/quorumsmith/quorumsmith/protocols/quorum/IntListContainsPinLaw" (some 0) with
  accessFlags := 49
  interfaces := #[]
  cf := some (fileOf pool1 21 #[] #[{ accessFlags := 1, nameIndex := 5, descriptorIndex := 6, attributes := #[] }, { accessFlags := 9, nameIndex := 25, descriptorIndex := 26, attributes := #[] }] 49 2 #[] #[])
  fields := #[]
  methods := #[k1m0, k1m1]
  instanceTypes := #[]
  staticTypes := #[]
  resolved := Array.replicate 30 none
  statics := none }

def pool2 : Array CpInfo := pool [(1, .methodref 2 3), (0, .class_ 4), (0, .nameAndType 5 6), (0, u "java/lang/Object"), (0, u "<init>"), (0, u "()V"), (0, .fieldref 8 9), (0, .class_ 10), (0, .nameAndType 11 12), (0, u "com/example/quorumsmith/quorumsmith/protocols/quorum/IntList"), (0, u "values"), (0, u "[I"), (0, .fieldref 8 14), (0, .nameAndType 15 16), (0, u "size"), (0, u "I"), (20, u "contains"), (0, u "(I)Z"), (2, u "add"), (0, u "(I)V"), (11, u "clear")] 2

def k2c0 : Code := { maxStack := 2, maxLocals := 1, code := prog_44_method_1_code, exceptionTable := #[], attributes := #[] }
def k2m0 : Method := { name := "<init>", desc := "()V", sig := { parameters := [], returnType := none }, accessFlags := 0, code := some k2c0 }
def k2c1 : Code := { maxStack := 5, maxLocals := 2, code := prog_44_method_2_code, exceptionTable := #[], attributes := #[] }
def k2m1 : Method := { name := "add", desc := "(I)V", sig := { parameters := [.int], returnType := none }, accessFlags := 0, code := some k2c1 }
def k2c2 : Code := { maxStack := 2, maxLocals := 3, code := prog_44_method_6_code, exceptionTable := #[], attributes := #[] }
def k2m2 : Method := { name := "contains", desc := "(I)Z", sig := { parameters := [.int], returnType := some .boolean }, accessFlags := 0, code := some k2c2 }
def k2c3 : Code := { maxStack := 2, maxLocals := 1, code := prog_44_method_9_code, exceptionTable := #[], attributes := #[] }
def k2m3 : Method := { name := "clear", desc := "()V", sig := { parameters := [], returnType := none }, accessFlags := 0, code := some k2c3 }
/-- com/example/quorumsmith/quorumsmith/protocols/quorum/IntList -/
def k2 : Class := { plain "com/example/quorumsmith/quorumsmith/protocols/quorum/IntList" (some 0) with
  accessFlags := 48
  interfaces := #[]
  cf := some (fileOf pool2 8 #[] #[{ accessFlags := 0, nameIndex := 5, descriptorIndex := 6, attributes := #[] }, { accessFlags := 0, nameIndex := 41, descriptorIndex := 42, attributes := #[] }, { accessFlags := 0, nameIndex := 37, descriptorIndex := 38, attributes := #[] }, { accessFlags := 0, nameIndex := 54, descriptorIndex := 6, attributes := #[] }] 48 2 #[] #[{ accessFlags := 2, nameIndex := 11, descriptorIndex := 12, attributes := #[] }, { accessFlags := 2, nameIndex := 15, descriptorIndex := 16, attributes := #[] }])
  fields := #[{ name := "values", type := (.array .int), accessFlags := 2, slot := 0, constantValue := 0 }, { name := "size", type := .int, accessFlags := 2, slot := 1, constantValue := 0 }]
  methods := #[k2m0, k2m1, k2m2, k2m3]
  instanceTypes := #[(.array .int), .int]
  staticTypes := #[]
  resolved := Array.replicate 57 none
  statics := none }

def pool3 : Array CpInfo := pool [(1, u "java/lang/Cloneable"), (0, .class_ 1), (0, u "java/lang/Object"), (0, .class_ 3)] 3

/-- java/lang/Cloneable -/
def k3 : Class := { plain "java/lang/Cloneable" (some 0) with
  accessFlags := 1537
  interfaces := #[]
  cf := some (fileOf pool3 2 #[] #[] 1537 4 #[] #[])
  fields := #[]
  methods := #[]
  instanceTypes := #[]
  staticTypes := #[]
  resolved := Array.replicate 8 none
  statics := none }

def pool4 : Array CpInfo := pool [(1, u "java/io/Serializable"), (0, .class_ 1), (0, u "java/lang/Object"), (0, .class_ 3)] 3

/-- java/io/Serializable -/
def k4 : Class := { plain "java/io/Serializable" (some 0) with
  accessFlags := 1537
  interfaces := #[]
  cf := some (fileOf pool4 2 #[] #[] 1537 4 #[] #[])
  fields := #[]
  methods := #[]
  instanceTypes := #[]
  staticTypes := #[]
  resolved := Array.replicate 8 none
  statics := none }

/-- the primitive byte -/
def k5 : Class := { plain "byte" none with kind := .primitive 'B', accessFlags := 0x411 }
/-- [B -/
def k6 : Class := { plain "[B" (some 0) with kind := .array 5 .byte, interfaces := #[3, 4], accessFlags := 1041 }

/-- the primitive int -/
def k7 : Class := { plain "int" none with kind := .primitive 'I', accessFlags := 0x411 }
/-- [I -/
def k8 : Class := { plain "[I" (some 0) with kind := .array 7 .int, interfaces := #[3, 4], accessFlags := 1041 }

def heap : Heap := #[]
def classes : Array Class := #[k0, k1, k2, k3, k4, k5, k6, k7, k8]
def interned : List (Array UInt16 × Addr) := []
def slotsUsed : Nat := 0
def theMethod : MethodId := ⟨1, 1⟩
def args0 : Array Value := #[.int 1, .int 2, .int 3, .int 7, .int 9, .int 2]
def aboutOver (below : List Frame) : State where
  vm := { classes := classes, interned := interned.toArray }
  heap := heap
  slotsUsed := slotsUsed
  threads := #[{ frames := .invoking theMethod args0 :: below }]
def below0 : List Frame := [.native { method := ⟨0, 0⟩, args := #[] }]
def about1 : State := aboutOver below0
def p0 : Program := .bare "" "" ""
def e0 : Env := launch0.env 0 0 0
theorem w_frames : about1.frames = Frame.invoking theMethod args0 :: below0 := rfl
set_option maxRecDepth 65536 in
theorem w_args : argsFit about1.vm theMethod args0 = true := by decide +kernel
set_option maxRecDepth 65536 in
theorem w_heap : heapFits about1 = true := by decide +kernel
set_option maxRecDepth 65536 in
theorem w_runnable : about1.curStatus? = some .runnable := by decide +kernel
set_option maxRecDepth 65536 in
theorem w_alone : about1.alone = true := by decide +kernel
set_option maxRecDepth 65536 in
theorem w_named : about1.methodNamed? x = some theMethod := by decide +kernel
set_option maxRecDepth 65536 in
theorem w_hears : about1.hears theMethod below0 = true := by decide +kernel
set_option maxRecDepth 65536 in
theorem w_ripe : about1.ripe theMethod args0 below0 = true := by decide +kernel
theorem w_running : about1.status = .running := rfl
set_option maxRecDepth 65536 in
theorem w_room : about1.hasRoom e0.platform room_1 = true :=
  launch0.hasRoom_least _ room_1 (by decide +kernel) (by decide +kernel) (by decide +kernel) (by decide +kernel) (by decide +kernel) (by decide +kernel)
theorem allAtoms_all (ts : List Jvm.Cond) (a : Array Jvm.Value) (st : Jvm.State) : (allAtoms ts).before a st = ts.all (fun c => c.before a st) := by
  induction ts with
  | nil => rfl
  | cons c t ih =>
    show (Jvm.Cond.and c (allAtoms t)).before a st = _
    rw [Jvm.Cond.before_and, ih, List.all_cons]
def words1 : List Jvm.Cond := Jvm.Cond.code x code maxLocals ret :: tables_1
/-- a 'code' word, met by the world's own term for the bytes: nothing is compared byte by byte -/
theorem code_word {y : MethodName} {bytes : ByteArray} {mx : Nat} {rt : Option FieldType} {a : Array Value} {s : State} {m : MethodId} {meth : Method} {c : Code} (h1 : s.methodNamed? y = some m) (h2 : s.vm.method? m = some meth) (h3 : meth.code = some c) (h4 : c.code = bytes)
    (h5 : (c.maxLocals == mx && c.exceptionTable.isEmpty && decide (c.maxStack ≤ mostOperands) && decide (meth.sig.returnType = rt) && !meth.locks && decide (parseMethodDescriptor y.desc = some meth.sig)) = true) : (Jvm.Cond.code y bytes mx rt).before a s = true := by
  simp only [Bool.and_eq_true, beq_iff_eq, Bool.not_eq_true', decide_eq_true_eq] at h5
  obtain ⟨⟨⟨⟨⟨g1, g2⟩, g3⟩, g4⟩, g5⟩, g6⟩ := h5
  simp [Cond.before, Cond.holds, Cond.value, h1, h2, h3, h4, g1, g2, g3, g4, g5, g6]
def isCode : Jvm.Cond → Bool
  | .code _ _ _ _ => true
  | _ => false
theorem all_split {L : List Jvm.Cond} {P : Jvm.Cond → Bool} (h1 : L.all (fun c => isCode c || P c) = true) (h2 : ∀ c ∈ L.filter isCode, P c = true) : L.all P = true := by
  refine List.all_eq_true.mpr fun c hc => ?_
  have h := List.all_eq_true.mp h1 c hc
  rcases Bool.eq_false_or_eq_true (isCode c) with hi | hi
  · exact h2 c (List.mem_filter.mpr ⟨hc, hi⟩)
  · simpa [hi] using h
set_option maxRecDepth 65536 in
theorem w_c0 : (Jvm.Cond.code x code maxLocals ret).before args0 about1 = true := code_word (m := ⟨1, 1⟩) (meth := k1m1) (c := k1c1) (by decide +kernel) rfl rfl rfl (by decide +kernel)
set_option maxRecDepth 65536 in
theorem w_c1 : (Jvm.Cond.code ({ cls := "com/example/quorumsmith/quorumsmith/protocols/quorum/IntList", name := "<init>", desc := "()V" } : Jvm.MethodName) prog_44_method_1_code (1 : Nat) (Option.none : Option Jvm.ClassFile.FieldType)).before args0 about1 = true := code_word (m := ⟨2, 0⟩) (meth := k2m0) (c := k2c0) (by decide +kernel) rfl rfl rfl (by decide +kernel)
set_option maxRecDepth 65536 in
theorem w_c2 : (Jvm.Cond.code ({ cls := "java/lang/Object", name := "<init>", desc := "()V" } : Jvm.MethodName) object_method_1_code (1 : Nat) (Option.none : Option Jvm.ClassFile.FieldType)).before args0 about1 = true := code_word (m := ⟨0, 0⟩) (meth := k0m0) (c := k0c0) (by decide +kernel) rfl rfl rfl (by decide +kernel)
set_option maxRecDepth 65536 in
theorem w_c3 : (Jvm.Cond.code ({ cls := "com/example/quorumsmith/quorumsmith/protocols/quorum/IntList", name := "add", desc := "(I)V" } : Jvm.MethodName) prog_44_method_2_code (2 : Nat) (Option.none : Option Jvm.ClassFile.FieldType)).before args0 about1 = true := code_word (m := ⟨2, 1⟩) (meth := k2m1) (c := k2c1) (by decide +kernel) rfl rfl rfl (by decide +kernel)
set_option maxRecDepth 65536 in
theorem w_c4 : (Jvm.Cond.code ({ cls := "com/example/quorumsmith/quorumsmith/protocols/quorum/IntList", name := "contains", desc := "(I)Z" } : Jvm.MethodName) prog_44_method_6_code (3 : Nat) (Option.some Jvm.ClassFile.FieldType.boolean)).before args0 about1 = true := code_word (m := ⟨2, 2⟩) (meth := k2m2) (c := k2c2) (by decide +kernel) rfl rfl rfl (by decide +kernel)
set_option maxRecDepth 65536 in
theorem w_c5 : (Jvm.Cond.code ({ cls := "com/example/quorumsmith/quorumsmith/protocols/quorum/IntList", name := "clear", desc := "()V" } : Jvm.MethodName) prog_44_method_9_code (1 : Nat) (Option.none : Option Jvm.ClassFile.FieldType)).before args0 about1 = true := code_word (m := ⟨2, 3⟩) (meth := k2m3) (c := k2c3) (by decide +kernel) rfl rfl rfl (by decide +kernel)
def codes1 : List Jvm.Cond := [Jvm.Cond.code x code maxLocals ret, Jvm.Cond.code ({ cls := "com/example/quorumsmith/quorumsmith/protocols/quorum/IntList", name := "<init>", desc := "()V" } : Jvm.MethodName) prog_44_method_1_code (1 : Nat) (Option.none : Option Jvm.ClassFile.FieldType), Jvm.Cond.code ({ cls := "java/lang/Object", name := "<init>", desc := "()V" } : Jvm.MethodName) object_method_1_code (1 : Nat) (Option.none : Option Jvm.ClassFile.FieldType), Jvm.Cond.code ({ cls := "com/example/quorumsmith/quorumsmith/protocols/quorum/IntList", name := "add", desc := "(I)V" } : Jvm.MethodName) prog_44_method_2_code (2 : Nat) (Option.none : Option Jvm.ClassFile.FieldType), Jvm.Cond.code ({ cls := "com/example/quorumsmith/quorumsmith/protocols/quorum/IntList", name := "contains", desc := "(I)Z" } : Jvm.MethodName) prog_44_method_6_code (3 : Nat) (Option.some Jvm.ClassFile.FieldType.boolean), Jvm.Cond.code ({ cls := "com/example/quorumsmith/quorumsmith/protocols/quorum/IntList", name := "clear", desc := "()V" } : Jvm.MethodName) prog_44_method_9_code (1 : Nat) (Option.none : Option Jvm.ClassFile.FieldType)]
set_option maxRecDepth 65536 in
theorem codes_eq : words1.filter isCode = codes1 := rfl
theorem w_codes : ∀ c ∈ words1.filter isCode, c.before args0 about1 = true := by
  rw [codes_eq]
  intro c hc
  simp only [codes1, List.mem_cons, List.not_mem_nil, or_false] at hc
  rcases hc with rfl | rfl | rfl | rfl | rfl | rfl
  · exact w_c0
  · exact w_c1
  · exact w_c2
  · exact w_c3
  · exact w_c4
  · exact w_c5
set_option maxRecDepth 65536 in
theorem w_t1 : (words1.take 24).all (fun c => isCode c || c.before args0 about1) = true := by decide +kernel
set_option maxRecDepth 65536 in
theorem w_t2 : (words1.drop 24).all (fun c => isCode c || c.before args0 about1) = true := by decide +kernel
theorem w_tables : (allAtoms (Jvm.Cond.code x code maxLocals ret :: tables_1)).before args0 about1 = true := by
  rw [allAtoms_all]
  show words1.all (fun c => c.before args0 about1) = true
  refine all_split ?_ w_codes
  rw [← List.take_append_drop 24 words1, List.all_append, w_t1, w_t2]
  rfl
set_option maxRecDepth 65536 in
theorem w_case : (Jvm.Cond.and given_1 narrow_1).before args0 about1 = true := by decide +kernel
theorem w_applies : (headSpec (Jvm.Cond.code x code maxLocals ret :: tables_1) room_1).applies x e0.platform about1 = true :=
  (Spec.applies_iff w_frames).mpr ⟨w_running, w_runnable, w_alone, w_named, w_hears, w_ripe, w_room, w_tables⟩
theorem atStart : AtStart classFile x code maxLocals ret World_1 tables_1 room_1 Calls_1 rest_1 Pre_1 launch0 p0 e0 about1 theMethod args0 below0 :=
  ⟨lists_1, trivial, launch0.admits_env _ _ _, launch0.least_env, fairChoices_fair.cas, fairChoices_fair.clock, w_frames, w_args, w_heap, w_applies, trivial, trivial, w_case⟩
end start1
theorem witness_1 : WitnessClaimed_1 := ⟨start1.p0, start1.e0, start1.about1, start1.theMethod, start1.args0, start1.below0, start1.atStart⟩
end Jvm.Pilot.@@N@@
