import JvmDerived
import JvmDerived.Pilot.@@N@@Statement
import JvmDerived.Pilot.@@N@@Code
set_option linter.unusedVariables false
set_option linter.unusedSimpArgs false
namespace Jvm.RoadKit
open Sem ClassFile Op Lib Jvm.Stand Jvm.Free Jvm.LawKit
section OwnGo
variable {p : Program} {l : Launch} {e : Env} {R : Room} {s : State} {m : MethodId} {args : Array Value} {below : List Frame} {meth : Method} {c : Code} {T T' : State} {locs : List Loc} {cells slots ck sk : Nat} {Q : Option Value → Heap → List Loc → Prop}
/-- from the state T the body comes to its end, with Q -/
def Go (p : Program) (e : Env) (below : List Frame) (s : State) (ck sk : Nat) (Q : Option Value → Heap → List Loc → Prop) (T : State) : Prop :=
  ∃ s₂ o, Steps p.tables e below T s₂ ∧ s₂.status = .running ∧ Ended s₂ below o ∧ ∃ v L, o = .returned v ∧ Q v s₂.heap L ∧ FrameEnd s o s₂ L ck sk
theorem Go.by (h : ∀ t, Steps p.tables e below T' t → Steps p.tables e below T t) (g : Go p e below s ck sk Q T') : Go p e below s ck sk Q T := by
  obtain ⟨s₂, o, h1, r⟩ := g
  exact ⟨s₂, o, h _ h1, r⟩
theorem Go.tr (h : Steps p.tables e below T T') (g : Go p e below s ck sk Q T') : Go p e below s ck sk Q T := by
  obtain ⟨s₂, o, h1, r⟩ := g
  exact ⟨s₂, o, h.trans h1, r⟩
theorem Go.fin (X : Stand p l e R s m args below meth c T locs cells slots) {v : Option Value} (hv : meth.sig.returnType = none → v = none) (hlk : meth.locks = false)
    (st : ∀ fs : List Frame, (∀ (f : JFrame) (acts : List Action), f.method = m → f.locked = none → f.entered = [] → (doReturn e (T.setTop f) acts v).1 = T.setFrames fs) → Steps p.tables e below T' (T.setFrames fs))
    (hq : Q v T.heap locs) (hc : cells ≤ ck) (hs : slots ≤ sk) : Go p e below s ck sk Q T' := by
  obtain ⟨fs, hr, hrun, hended, hW, hsame⟩ := X.leave hv hlk
  exact ⟨_, _, st fs hr, hrun, hended, _, _, rfl, hq, ⟨_, rfl⟩, hW, hsame.mono hc hs⟩
theorem Go.retV (X : Stand p l e R s m args below meth c T locs cells slots) (hx : p.tables.exec = Jvm.exec) {pc : Nat} {Ls : Array Slot} (hret : meth.sig.returnType = none) (hlk : meth.locks = false) (hd : decode c.code pc = .ok (.return_, 1))
    (hq : Q none T.heap locs) (hc : cells ≤ ck) (hs : slots ≤ sk) : Go p e below s ck sk Q (T.setTop (mkF m pc Ls [])) :=
  Go.fin X (fun _ => rfl) hlk (fun fs hr => X.returnOut hx hret hd hr) hq hc hs
theorem Go.retN (X : Stand p l e R s m args below meth c T locs cells slots) (hx : p.tables.exec = Jvm.exec) {pc : Nat} {Ls : Array Slot} {z : Int32} {t : FieldType} {rest : List Value} (hret : meth.sig.returnType = some t) (ht : t = .boolean ∨ t = .byte ∨ t = .char ∨ t = .short) (hlk : meth.locks = false) (hd : decode c.code pc = .ok (.ireturn, 1))
    (hq : Q (some (.int (nar t z))) T.heap locs) (hc : cells ≤ ck) (hs : slots ≤ sk) : Go p e below s ck sk Q (T.setTop (mkF m pc Ls (.int z :: rest))) :=
  Go.fin X (fun h => by rw [hret] at h; cases h) hlk (fun fs hr => Jvm.RoadKit.retN X hx hret ht hd hr) hq hc hs
theorem Go.retI (X : Stand p l e R s m args below meth c T locs cells slots) (hx : p.tables.exec = Jvm.exec) {pc : Nat} {Ls : Array Slot} {z : Int32} {rest : List Value} (hret : meth.sig.returnType = some .int) (hlk : meth.locks = false) (hd : decode c.code pc = .ok (.ireturn, 1))
    (hq : Q (some (.int z)) T.heap locs) (hc : cells ≤ ck) (hs : slots ≤ sk) : Go p e below s ck sk Q (T.setTop (mkF m pc Ls (.int z :: rest))) :=
  Go.fin X (fun h => by rw [hret] at h; cases h) hlk (fun fs hr => retOut X hx hret rfl (Or.inl ⟨rfl, Or.inl rfl, z, rfl⟩) hd hr) hq hc hs
theorem Go.retJ (X : Stand p l e R s m args below meth c T locs cells slots) (hx : p.tables.exec = Jvm.exec) {pc : Nat} {Ls : Array Slot} {z : Int64} {rest : List Value} (hret : meth.sig.returnType = some .long) (hlk : meth.locks = false) (hd : decode c.code pc = .ok (.lreturn, 1))
    (hq : Q (some (.long z)) T.heap locs) (hc : cells ≤ ck) (hs : slots ≤ sk) : Go p e below s ck sk Q (T.setTop (mkF m pc Ls (.long z :: rest))) :=
  Go.fin X (fun h => by rw [hret] at h; cases h) hlk (fun fs hr => retOut X hx hret rfl (Or.inr (Or.inl ⟨rfl, rfl, z, rfl⟩)) hd hr) hq hc hs
theorem Go.retR (X : Stand p l e R s m args below meth c T locs cells slots) (hx : p.tables.exec = Jvm.exec) {pc : Nat} {Ls : Array Slot} {w : Value} {t : FieldType} {rest : List Value} (hret : meth.sig.returnType = some t) (ht : t.isReference = true) (hw : w.isRef = true) (hlk : meth.locks = false) (hd : decode c.code pc = .ok (.areturn, 1))
    (hq : Q (some w) T.heap locs) (hc : cells ≤ ck) (hs : slots ≤ sk) : Go p e below s ck sk Q (T.setTop (mkF m pc Ls (w :: rest))) := by
  refine Go.fin X (fun h => by rw [hret] at h; cases h) hlk (fun fs hr => retOut X hx hret ?_ (Or.inr (Or.inr (Or.inr (Or.inr ⟨rfl, ht, hw⟩)))) hd hr) hq hc hs
  rcases ref_cases hw with rfl | ⟨a, rfl⟩ <;> cases t <;> first | rfl | cases ht
/-- the same where Strings may be interned on the way -/
def GoW (p : Program) (e : Env) (below : List Frame) (s : State) (ck sk : Nat) (Q : Option Value → Heap → List Loc → Prop) (T : State) : Prop :=
  ∃ s₂ o, Steps p.tables e below T s₂ ∧ s₂.status = .running ∧ Ended s₂ below o ∧ ∃ v L, o = .returned v ∧ Q v s₂.heap L ∧ ReturnedEndW s o s₂ L ck sk
theorem GoW.by (h : ∀ t, Steps p.tables e below T' t → Steps p.tables e below T t) (g : GoW p e below s ck sk Q T') : GoW p e below s ck sk Q T := by
  obtain ⟨s₂, o, h1, r⟩ := g
  exact ⟨s₂, o, h _ h1, r⟩
theorem GoW.tr (h : Steps p.tables e below T T') (g : GoW p e below s ck sk Q T') : GoW p e below s ck sk Q T := by
  obtain ⟨s₂, o, h1, r⟩ := g
  exact ⟨s₂, o, h.trans h1, r⟩
theorem GoW.fin {vm1 : Vm} {k1 : Nat} (X : Stand p l e R (s.setVm vm1) m args below meth c T locs cells slots) (hS : s.Since vm1 k1) (hk : k1 ≤ T.heap.size) {v : Option Value} (hv : meth.sig.returnType = none → v = none) (hlk : meth.locks = false)
    (st : ∀ fs : List Frame, (∀ (f : JFrame) (acts : List Action), f.method = m → f.locked = none → f.entered = [] → (doReturn e (T.setTop f) acts v).1 = T.setFrames fs) → Steps p.tables e below T' (T.setFrames fs))
    (hq : Q v T.heap locs) (hc : cells ≤ ck) (hs : slots ≤ sk) : GoW p e below s ck sk Q T' := by
  obtain ⟨fs, hr, hrun, hended, hW, hsame⟩ := X.leave hv hlk
  obtain ⟨q1, q2, q3⟩ := hS.ended (U := T.setFrames fs) hW hk hsame
  exact ⟨_, _, st fs hr, hrun, hended, _, _, rfl, hq, ⟨_, rfl⟩, q1, q2, q3.mono hc hs⟩
theorem GoW.retV {vm1 : Vm} {k1 : Nat} (X : Stand p l e R (s.setVm vm1) m args below meth c T locs cells slots) (hS : s.Since vm1 k1) (hk : k1 ≤ T.heap.size) (hx : p.tables.exec = Jvm.exec) {pc : Nat} {Ls : Array Slot} (hret : meth.sig.returnType = none) (hlk : meth.locks = false) (hd : decode c.code pc = .ok (.return_, 1))
    (hq : Q none T.heap locs) (hc : cells ≤ ck) (hs : slots ≤ sk) : GoW p e below s ck sk Q (T.setTop (mkF m pc Ls [])) :=
  GoW.fin X hS hk (fun _ => rfl) hlk (fun fs hr => X.returnOut hx hret hd hr) hq hc hs
theorem GoW.retN {vm1 : Vm} {k1 : Nat} (X : Stand p l e R (s.setVm vm1) m args below meth c T locs cells slots) (hS : s.Since vm1 k1) (hk : k1 ≤ T.heap.size) (hx : p.tables.exec = Jvm.exec) {pc : Nat} {Ls : Array Slot} {z : Int32} {t : FieldType} {rest : List Value} (hret : meth.sig.returnType = some t) (ht : t = .boolean ∨ t = .byte ∨ t = .char ∨ t = .short) (hlk : meth.locks = false) (hd : decode c.code pc = .ok (.ireturn, 1))
    (hq : Q (some (.int (nar t z))) T.heap locs) (hc : cells ≤ ck) (hs : slots ≤ sk) : GoW p e below s ck sk Q (T.setTop (mkF m pc Ls (.int z :: rest))) :=
  GoW.fin X hS hk (fun h => by rw [hret] at h; cases h) hlk (fun fs hr => Jvm.RoadKit.retN X hx hret ht hd hr) hq hc hs
theorem GoW.retR {vm1 : Vm} {k1 : Nat} (X : Stand p l e R (s.setVm vm1) m args below meth c T locs cells slots) (hS : s.Since vm1 k1) (hk : k1 ≤ T.heap.size) (hx : p.tables.exec = Jvm.exec) {pc : Nat} {Ls : Array Slot} {w : Value} {t : FieldType} {rest : List Value} (hret : meth.sig.returnType = some t) (ht : t.isReference = true) (hw : w.isRef = true) (hlk : meth.locks = false) (hd : decode c.code pc = .ok (.areturn, 1))
    (hq : Q (some w) T.heap locs) (hc : cells ≤ ck) (hs : slots ≤ sk) : GoW p e below s ck sk Q (T.setTop (mkF m pc Ls (w :: rest))) := by
  refine GoW.fin X hS hk (fun h => by rw [hret] at h; cases h) hlk (fun fs hr => retOut X hx hret ?_ (Or.inr (Or.inr (Or.inr (Or.inr ⟨rfl, ht, hw⟩)))) hd hr) hq hc hs
  rcases ref_cases hw with rfl | ⟨a, rfl⟩ <;> cases t <;> first | rfl | cases ht
end OwnGo
theorem own_selp {Z s : State} {a0 args : Array Value} {y : MethodName} {n : Nat} (hZ : Z.Warmed39 s.vm) (wi : (Cond.instantiable y.cls n).before a0 Z = true) (wp : (Cond.privateMethod y).before a0 Z = true) (wm : (Cond.instanceMethod y).before a0 Z = true) (hy : y.cls ≠ "java/lang/invoke/MethodHandle" ∧ y.cls ≠ "java/lang/invoke/VarHandle") : (Cond.selects y.cls y y).before args s = true := by
  obtain ⟨c, k, h1, h2, -, h4, -⟩ := Cond.instantiable_spec (mv (args := args) hZ wi)
  exact selects_self_of_private h1 h2 (by simpa using (Bool.or_eq_false_iff.mp h4).1) (Cond.privateMethod_at (mvP (args := args) hZ wp)) (mv hZ wm) hy
theorem own_zn {z : Int32} (h : z = (0 : Int32) ∨ z = (1 : Int32)) : narrow .boolean (.int z) = .int z := by rcases h with rfl | rfl <;> rfl
theorem own_zf {z : Int32} (h : z = (0 : Int32) ∨ z = (1 : Int32)) : fits .boolean (.int z) = true := by rcases h with rfl | rfl <;> rfl
theorem own_ns {Z : State} {h : Heap} {b : Addr} {C : String} (E : Exa Z h b C) : ∀ cell : Cell, h[b]? = some cell → cell.vm.isStatics = false := fun cell hc => by
  obtain ⟨c, _, h1, -, -, h4, -⟩ := E
  cases h1.symm.trans hc
  exact h4
theorem own_stakeep {Z : State} {h h' : Heap} {C n d : String} {v : Value} {ws : List Addr} (F : Sta Z h C n d v) (K : Keep h h' ws) (q : ∀ x ∈ ws, ∀ cell : Cell, h[x]? = some cell → cell.vm.isStatics = false) : Sta Z h' C n d v := by
  obtain ⟨cf, i, k, f, st, cell, h1, h2, h3, h4, h5, h6, h7⟩ := F
  refine ⟨cf, i, k, f, st, cell, h1, h2, h3, h4, K.2.1 st cell h5 fun z => ?_, h6, h7⟩
  rw [q st z cell h5] at h6
  cases h6
section OwnLong
variable {Z : State} {h h' : Heap} {a b : Addr} {k : ClassId} {n j : Int32} {x : Int64} {ws : List Addr} {sl : Nat} {v : Value}
/-- a long[] of the length n, whatever it holds -/
def LA (Z : State) (h : Heap) (a : Addr) (k : ClassId) (n : Int32) : Prop := ∃ c : Cell, Arr Z h a c .long ∧ c.cls = k ∧ c.slots.size = n.toNatClampNeg ∧ ¬ n < 0 ∧ ∀ i, i < c.slots.size → ∃ x : Int64, c.slots[i]? = some (.long x)
theorem LA.lt (F : LA Z h a k n) : a < h.size := by obtain ⟨c, A, -⟩ := F; exact A.lt
theorem LA.ext (F : LA Z h a k n) (E : Ext h h') : LA Z h' a k n := by obtain ⟨c, A, r⟩ := F; exact ⟨c, A.ext E, r⟩
theorem LA.other (F : LA Z h b k n) (W : Wr h h' a sl v) (q : b ≠ a) : LA Z h' b k n := by obtain ⟨c, A, r⟩ := F; exact ⟨c, A.other W q, r⟩
theorem LA.keep (F : LA Z h a k n) (K : Keep h h' ws) (q : a ∉ ws) : LA Z h' a k n := by obtain ⟨c, A, r⟩ := F; exact ⟨c, ⟨K.2.1 a c A.1 q, A.2⟩, r⟩
theorem LA.new (A : Arr Z h a (newA k .long n) .long) (q : ¬ n < 0) : LA Z h a k n := ⟨_, A, rfl, sz_new _ _ _, q, fun i hi => ⟨0, by
  have hi' : i < n.toNatClampNeg := by rw [sz_new] at hi; exact hi
  show (Array.replicate n.toNatClampNeg (defaultValue .long))[i]? = _
  simp [hi', defaultValue]⟩⟩
theorem LA.set {c : Cell} (A : Arr Z h a c .long) (q1 : c.cls = k) (S : c.slots.size = n.toNatClampNeg) (q3 : ¬ n < 0) (G : ∀ i, i < c.slots.size → ∃ x : Int64, c.slots[i]? = some (.long x)) (W : Wr h h' a sl (.long x)) : LA Z h' a k n := by
  refine ⟨_, A.same W, q1, by rw [sz_set]; exact S, q3, fun i hi => ?_⟩
  rw [sz_set] at hi
  by_cases e : sl = i
  · subst e; exact ⟨x, by simp [Cell.setSlot, hi]⟩
  · obtain ⟨y, hy⟩ := G i hi
    exact ⟨y, by rw [← hy]; exact Array.getElem?_setIfInBounds_ne e⟩
end OwnLong
section OwnStart
variable {args : Array Value} {s : State} {a b t : Term}
theorem own_eqI {n : Int32} (h : (Cond.eq a (.int n)).value args s none s [] = some true) : a.eval args s none [] s = some (.int n) := by
  cases ha : a.eval args s none [] s with
  | none => simp [Cond.value, ha] at h
  | some x => cases x <;> simp [Cond.value, ha, Term.eval] at h ⊢ <;> exact h
theorem own_eqL {n : Int64} (h : (Cond.eq a (.long n)).value args s none s [] = some true) : a.eval args s none [] s = some (.long n) := by
  cases ha : a.eval args s none [] s with
  | none => simp [Cond.value, ha] at h
  | some x => cases x <;> simp [Cond.value, ha, Term.eval] at h ⊢ <;> exact h
theorem own_eqR {x : Addr} (h : (Cond.eq a b).value args s none s [] = some true) (hb : b.eval args s none [] s = some (.ref x)) : a.eval args s none [] s = some (.ref x) := by
  cases ha : a.eval args s none [] s with
  | none => simp [Cond.value, ha] at h
  | some y => cases y <;> simp [Cond.value, ha, hb] at h ⊢ <;> exact h
theorem own_neR {x y : Addr} (h : (Cond.not (Cond.eq a b)).value args s none s [] = some true) (ha : a.eval args s none [] s = some (.ref x)) (hb : b.eval args s none [] s = some (.ref y)) : x ≠ y := by
  intro e
  subst e
  simp [Cond.value, ha, hb] at h
theorem own_lenv {n : Int32} {x : Addr} {cl : Cell} (h : (Term.length t).eval args s none [] s = some (.int n)) (ht : t.eval args s none [] s = some (.ref x)) (hc : s.heap[x]? = some cl) : cl.slots.size < 2 ^ 31 ∧ cl.slots.size.toInt32 = n := by
  obtain ⟨a', cell, e1, e2, e3⟩ := Term.length_spec h
  cases ht.symm.trans e1
  have hcl : cell = cl := by
    simp only [State.arrayAt?, hc, Option.bind_eq_bind, Option.bind_some] at e2
    cases hk : s.vm.classes[cl.cls]? with
    | none => simp [hk] at e2
    | some k =>
      simp only [hk, Option.bind_some] at e2
      split at e2
      · cases e2
      · split at e2
        · exact (Option.some.inj e2).symm
        · cases e2
  subst hcl
  refine ⟨?_, (Value.int.inj e3).symm⟩
  simp only [Term.eval, ht, e2, Option.bind_eq_bind, Option.bind_some] at h
  split at h
  · assumption
  · cases h
end OwnStart
end Jvm.RoadKit
namespace Jvm.Pilot.@@N@@
open Jvm Jvm.ClassFile Sem Op Lib Jvm.Free Jvm.Stand Jvm.LawKit Jvm.RoadKit Bundle Jvm.Pilot.@@N@@.Jvm.D
theorem own_m5 (a : Int32) : (a &&& (2147483647 : Int32)) % (5 : Int32) = 0 ∨ (a &&& (2147483647 : Int32)) % (5 : Int32) = 1 ∨ (a &&& (2147483647 : Int32)) % (5 : Int32) = 2 ∨ (a &&& (2147483647 : Int32)) % (5 : Int32) = 3 ∨ (a &&& (2147483647 : Int32)) % (5 : Int32) = 4 := by
  have h1 := c_mask a 2147483647 31 (by decide) (by decide)
  have h2 := (c_irem (a &&& 2147483647) 5 5 (by decide)).1 (by rw [h1]; omega)
  simp only [← Int32.toInt_inj, h2]
  have e0 : (0 : Int32).toInt = 0 := by decide
  have e1 : (1 : Int32).toInt = 1 := by decide
  have e2 : (2 : Int32).toInt = 2 := by decide
  have e3 : (3 : Int32).toInt = 3 := by decide
  have e4 : (4 : Int32).toInt = 4 := by decide
  rw [e0, e1, e2, e3, e4]; omega
theorem own_by (y : Int32) : ((nar .byte (y.toInt8.toInt32)) &&& (255 : Int32)).toInt = y.toInt % 256 := by
  have h1 := c_mask (nar .byte (y.toInt8.toInt32)) 255 8 (by decide) (by decide)
  have h2 := c_i2b y
  have h3 := c_i2b (y.toInt8.toInt32)
  have h4 : nar .byte (y.toInt8.toInt32) = (y.toInt8.toInt32).toInt8.toInt32 := rfl
  rw [h1, h4]
  omega
theorem own_asm (A B C D y : Int32) (hA : A.toInt = y.toInt % 4294967296 / (2 ^ 24 : Nat) % 256) (hB : B.toInt = y.toInt % 4294967296 / (2 ^ 16 : Nat) % 256) (hC : C.toInt = y.toInt % 4294967296 / (2 ^ 8 : Nat) % 256) (hD : D.toInt = y.toInt % 256) :
    (((A <<< ((24 : Int32) &&& 31)) ||| (B <<< ((16 : Int32) &&& 31))) ||| (C <<< ((8 : Int32) &&& 31))) ||| D = y := by
  have s1 := c_ishl A 24 24 (by decide)
  have s2 := c_ishl B 16 16 (by decide)
  have s3 := c_ishl C 8 8 (by decide)
  have r1 := rng32 (A <<< ((24 : Int32) &&& 31))
  have r2 := rng32 (B <<< ((16 : Int32) &&& 31))
  have r3 := rng32 (C <<< ((8 : Int32) &&& 31))
  have ry := rng32 y
  generalize A <<< ((24 : Int32) &&& 31) = P at s1 r1 ⊢
  generalize B <<< ((16 : Int32) &&& 31) = Q at s2 r2 ⊢
  generalize C <<< ((8 : Int32) &&& 31) = S at s3 r3 ⊢
  have o1 := c_or P Q 24 (by decide) 16777216 (by decide) (by omega) (by omega) (by omega)
  have p1 := rng32 (P ||| Q)
  generalize P ||| Q = U at o1 p1 ⊢
  have o2 := c_or U S 16 (by decide) 65536 (by decide) (by omega) (by omega) (by omega)
  have p2 := rng32 (U ||| S)
  generalize U ||| S = W at o2 p2 ⊢
  have o3 := c_or W D 8 (by decide) 256 (by decide) (by omega) (by omega) (by omega)
  have p3 := rng32 (W ||| D)
  rw [← Int32.toInt_inj]
  omega

theorem dU0_0 : decode prog_21_method_15_code 0 = .ok (.aload_n 0, 1) := by decide +kernel
theorem dU0_1 : decode prog_21_method_15_code 1 = .ok (.iload_n 1, 1) := by decide +kernel
theorem dU0_2 : decode prog_21_method_15_code 2 = .ok (.baload, 1) := by decide +kernel
theorem dU0_3 : decode prog_21_method_15_code 3 = .ok (.sipush 255, 3) := by decide +kernel
theorem dU0_6 : decode prog_21_method_15_code 6 = .ok (.iand, 1) := by decide +kernel
theorem dU0_7 : decode prog_21_method_15_code 7 = .ok (.bipush 24, 2) := by decide +kernel
theorem dU0_9 : decode prog_21_method_15_code 9 = .ok (.ishl, 1) := by decide +kernel
theorem dU0_10 : decode prog_21_method_15_code 10 = .ok (.aload_n 0, 1) := by decide +kernel
theorem dU0_11 : decode prog_21_method_15_code 11 = .ok (.iload_n 1, 1) := by decide +kernel
theorem dU0_12 : decode prog_21_method_15_code 12 = .ok (.iconst 1, 1) := by decide +kernel
theorem dU0_13 : decode prog_21_method_15_code 13 = .ok (.iadd, 1) := by decide +kernel
theorem dU0_14 : decode prog_21_method_15_code 14 = .ok (.baload, 1) := by decide +kernel
theorem dU0_15 : decode prog_21_method_15_code 15 = .ok (.sipush 255, 3) := by decide +kernel
theorem dU0_18 : decode prog_21_method_15_code 18 = .ok (.iand, 1) := by decide +kernel
theorem dU0_19 : decode prog_21_method_15_code 19 = .ok (.bipush 16, 2) := by decide +kernel
theorem dU0_21 : decode prog_21_method_15_code 21 = .ok (.ishl, 1) := by decide +kernel
theorem dU0_22 : decode prog_21_method_15_code 22 = .ok (.ior, 1) := by decide +kernel
theorem dU0_23 : decode prog_21_method_15_code 23 = .ok (.aload_n 0, 1) := by decide +kernel
theorem dU0_24 : decode prog_21_method_15_code 24 = .ok (.iload_n 1, 1) := by decide +kernel
theorem dU0_25 : decode prog_21_method_15_code 25 = .ok (.iconst 2, 1) := by decide +kernel
theorem dU0_26 : decode prog_21_method_15_code 26 = .ok (.iadd, 1) := by decide +kernel
theorem dU0_27 : decode prog_21_method_15_code 27 = .ok (.baload, 1) := by decide +kernel
theorem dU0_28 : decode prog_21_method_15_code 28 = .ok (.sipush 255, 3) := by decide +kernel
theorem dU0_31 : decode prog_21_method_15_code 31 = .ok (.iand, 1) := by decide +kernel
theorem dU0_32 : decode prog_21_method_15_code 32 = .ok (.bipush 8, 2) := by decide +kernel
theorem dU0_34 : decode prog_21_method_15_code 34 = .ok (.ishl, 1) := by decide +kernel
theorem dU0_35 : decode prog_21_method_15_code 35 = .ok (.ior, 1) := by decide +kernel
theorem dU0_36 : decode prog_21_method_15_code 36 = .ok (.aload_n 0, 1) := by decide +kernel
theorem dU0_37 : decode prog_21_method_15_code 37 = .ok (.iload_n 1, 1) := by decide +kernel
theorem dU0_38 : decode prog_21_method_15_code 38 = .ok (.iconst 3, 1) := by decide +kernel
theorem dU0_39 : decode prog_21_method_15_code 39 = .ok (.iadd, 1) := by decide +kernel
theorem dU0_40 : decode prog_21_method_15_code 40 = .ok (.baload, 1) := by decide +kernel
theorem dU0_41 : decode prog_21_method_15_code 41 = .ok (.sipush 255, 3) := by decide +kernel
theorem dU0_44 : decode prog_21_method_15_code 44 = .ok (.iand, 1) := by decide +kernel
theorem dU0_45 : decode prog_21_method_15_code 45 = .ok (.ior, 1) := by decide +kernel
theorem dU0_46 : decode prog_21_method_15_code 46 = .ok (.ireturn, 1) := by decide +kernel
theorem pnU0 : plainName "com/example/classwright/classwright/ClassBytes" = true := by first | (simp [plainName, overriddenIn]; done) | decide +kernel
theorem efU0 (m : MethodId) (a : Addr) : entryFrame m #[(.ref a), (.int (0 : Int32))] 2 = mkF m 0 #[.val (.ref a), .val (.int (0 : Int32))] [] := by first | (simp [entryFrame, mkF, argsToLocals, Value.category]; done) | rfl
def QU0 (Z : State) (a : Addr) (kc_a : ClassId) (B0 : Int32) (B1 : Int32) (B2 : Int32) (B3 : Int32) (B4 : Int32) (B5 : Int32) (B6 : Int32) (B7 : Int32) (h0 : Heap) (n0 : Nat) (v : Option Value) (h : Heap) (L : List Loc) : Prop := (v = some (.int (((((B0 &&& (255 : Int32)) <<< ((24 : Int32) &&& 31)) ||| ((B1 &&& (255 : Int32)) <<< ((16 : Int32) &&& 31))) ||| ((B2 &&& (255 : Int32)) <<< ((8 : Int32) &&& 31))) ||| (B3 &&& (255 : Int32)))) ∧ Fr n0 L ∧ h = h0)
set_option maxRecDepth 65536 in
set_option maxHeartbeats 40000000 in
theorem rmU0 (l : Launch) (Z : State) (a0 : Array Value) (hw : ∀ d ∈ tables_1, d.before a0 Z = true) (ws : List Jvm.Cond) (a : Addr) (kc_a : ClassId) (B0 : Int32) (B1 : Int32) (B2 : Int32) (B3 : Int32) (B4 : Int32) (B5 : Int32) (B6 : Int32) (B7 : Int32) (h0 : Heap) (n0 : Nat) (Z0 : n0 ≤ h0.size) (V0_a : Arv Z h0 a kc_a .byte (8 : Int32) [(.int B0), (.int B1), (.int B2), (.int B3), (.int B4), (.int B5), (.int B6), (.int B7)] (.int (0 : Int32))) :
    MetFree l (⟨"com/example/classwright/classwright/ClassBytes", "u4", "([BI)I"⟩ : MethodName) (head1 (Jvm.Cond.code (⟨"com/example/classwright/classwright/ClassBytes", "u4", "([BI)I"⟩ : MethodName) prog_21_method_15_code 2 (some .int) :: ws) ({ frames := 0, cells := 0, slots := 0, locals := 0 } : Room)) (fun aa U => aa = #[(.ref a), (.int (0 : Int32))] ∧ Z.Warmed39 U.vm ∧ U.heap = h0) (fun _ _ _ _ _ => True) (fun _ U o U' => ∃ v L, o = .returned v ∧ QU0 Z a kc_a B0 B1 B2 B3 B4 B5 B6 B7 h0 n0 v U'.heap L ∧ FrameEnd U o U' L ({ frames := 0, cells := 0, slots := 0, locals := 0 } : Room).cells ({ frames := 0, cells := 0, slots := 0, locals := 0 } : Room).slots) := by
  refine MetFree.of_bodySF (plainFor_of_name pnU0) hisR ?_
  intro p e s m args below meth c s₁ Bd hml0 hP hK
  obtain ⟨rfl, hZ, hh⟩ := hP
  have hx := Bd.exec
  have hby := Bd.bytes
  have hml : c.maxLocals = 2 := hml0
  have hown : s.vm.findClass "com/example/classwright/classwright/ClassBytes" = some m.cls := findClass_of_methodNamed Bd.named
  have hnm := (name_of_methodNamed Bd.named Bd.method).1
  have hlk : meth.locks = false := BodyLoose.notSynchronized Bd
  have hret : meth.sig.returnType = (some .int) := Bd.returns
  have X0 : Stand p l e ({ frames := 0, cells := 0, slots := 0, locals := 0 } : Room) s m #[(.ref a), (.int (0 : Int32))] below meth c s₁ [] 0 0 := Stand.of_body Bd
  have e0 : s₁.heap = h0 := by rw [← hh, Bd.state]; rfl
  have N0 := Fr.nil n0
  show Go p e below s ({ frames := 0, cells := 0, slots := 0, locals := 0 } : Room).cells ({ frames := 0, cells := 0, slots := 0, locals := 0 } : Room).slots (QU0 Z a kc_a B0 B1 B2 B3 B4 B5 B6 B7 h0 n0) (s₁.setTop (entryFrame m #[(.ref a), (.int (0 : Int32))] 2))
  rw [efU0]
  refine Go.by (fun _ kont => XS.aloadN X0.here hx rfl (hb hby dU0_0) rfl rfl (XS.iloadN X0.here hx rfl (hb hby dU0_1) rfl kont)) ?_
  show Go _ _ _ _ _ _ _ (s₁.setTop (mkF m 2 #[.val (.ref a), .val (.int (0 : Int32))] [(.int (0 : Int32)), (.ref a)]))
  obtain ⟨cl_q101, Ar_q101, q1_q101, S_q101, N_q101, H_q101, G_q101⟩ := id V0_a
  have hin_q101 : ¬ ((0 : Int32) < 0 ∨ cl_q101.slots.size ≤ ((0 : Int32)).toNatClampNeg) := inb_of S_q101 ⟨by decide, by decide⟩
  have hat_q101 : cl_q101.slots[((0 : Int32)).toNatClampNeg]? = some (.int B0) := Has.at H_q101 hin_q101 rfl
  refine Go.by (X0.baloadBytes hx (j := (0 : Int32)) (v := (.int B0)) (by rw [e0]; exact Ar_q101.1) (State.isArrayOf_alike hZ.alike Ar_q101.2.1) Ar_q101.2.2 hin_q101 hat_q101 (g := (mkF m 2 #[.val (.ref a), .val (.int (0 : Int32))] [(.int (0 : Int32)), (.ref a)])) rfl rfl (hb hby dU0_2)) ?_
  show Go _ _ _ _ _ _ _ (s₁.setTop (mkF m 3 #[.val (.ref a), .val (.int (0 : Int32))] [(.int B0)]))
  refine Go.by (fun _ kont => XS.sipush X0.here hx rfl (hb hby dU0_3) (XS.iand X0.here hx rfl (hb hby dU0_6) rfl (XS.bipush X0.here hx rfl (hb hby dU0_7) (XS.ishl X0.here hx rfl (hb hby dU0_9) rfl (XS.aloadN X0.here hx rfl (hb hby dU0_10) rfl rfl (XS.iloadN X0.here hx rfl (hb hby dU0_11) rfl kont)))))) ?_
  show Go _ _ _ _ _ _ _ (s₁.setTop (mkF m 12 #[.val (.ref a), .val (.int (0 : Int32))] [(.int (0 : Int32)), (.ref a), (.int ((B0 &&& (255 : Int32)) <<< ((24 : Int32) &&& 31)))]))
  refine Go.by (fun _ kont => XS.iconst X0.here hx rfl (hb hby dU0_12) (XS.iadd X0.here hx rfl (hb hby dU0_13) rfl kont)) ?_
  show Go _ _ _ _ _ _ _ (s₁.setTop (mkF m 14 #[.val (.ref a), .val (.int (0 : Int32))] [(.int ((0 : Int32) + (1 : Int32))), (.ref a), (.int ((B0 &&& (255 : Int32)) <<< ((24 : Int32) &&& 31)))]))
  rw [show ((0 : Int32) + (1 : Int32)) = (1 : Int32) from by decide]
  show Go _ _ _ _ _ _ _ (s₁.setTop (mkF m 14 #[.val (.ref a), .val (.int (0 : Int32))] [(.int (1 : Int32)), (.ref a), (.int ((B0 &&& (255 : Int32)) <<< ((24 : Int32) &&& 31)))]))
  obtain ⟨cl_q102, Ar_q102, q1_q102, S_q102, N_q102, H_q102, G_q102⟩ := id V0_a
  have hin_q102 : ¬ ((1 : Int32) < 0 ∨ cl_q102.slots.size ≤ ((1 : Int32)).toNatClampNeg) := inb_of S_q102 ⟨by decide, by decide⟩
  have hat_q102 : cl_q102.slots[((1 : Int32)).toNatClampNeg]? = some (.int B1) := Has.at H_q102 hin_q102 rfl
  refine Go.by (X0.baloadBytes hx (j := (1 : Int32)) (v := (.int B1)) (by rw [e0]; exact Ar_q102.1) (State.isArrayOf_alike hZ.alike Ar_q102.2.1) Ar_q102.2.2 hin_q102 hat_q102 (g := (mkF m 14 #[.val (.ref a), .val (.int (0 : Int32))] [(.int (1 : Int32)), (.ref a), (.int ((B0 &&& (255 : Int32)) <<< ((24 : Int32) &&& 31)))])) rfl rfl (hb hby dU0_14)) ?_
  show Go _ _ _ _ _ _ _ (s₁.setTop (mkF m 15 #[.val (.ref a), .val (.int (0 : Int32))] [(.int B1), (.int ((B0 &&& (255 : Int32)) <<< ((24 : Int32) &&& 31)))]))
  refine Go.by (fun _ kont => XS.sipush X0.here hx rfl (hb hby dU0_15) (XS.iand X0.here hx rfl (hb hby dU0_18) rfl (XS.bipush X0.here hx rfl (hb hby dU0_19) (XS.ishl X0.here hx rfl (hb hby dU0_21) rfl (XS.ior X0.here hx rfl (hb hby dU0_22) rfl (XS.aloadN X0.here hx rfl (hb hby dU0_23) rfl rfl kont)))))) ?_
  show Go _ _ _ _ _ _ _ (s₁.setTop (mkF m 24 #[.val (.ref a), .val (.int (0 : Int32))] [(.ref a), (.int (((B0 &&& (255 : Int32)) <<< ((24 : Int32) &&& 31)) ||| ((B1 &&& (255 : Int32)) <<< ((16 : Int32) &&& 31))))]))
  refine Go.by (fun _ kont => XS.iloadN X0.here hx rfl (hb hby dU0_24) rfl (XS.iconst X0.here hx rfl (hb hby dU0_25) (XS.iadd X0.here hx rfl (hb hby dU0_26) rfl kont))) ?_
  show Go _ _ _ _ _ _ _ (s₁.setTop (mkF m 27 #[.val (.ref a), .val (.int (0 : Int32))] [(.int ((0 : Int32) + (2 : Int32))), (.ref a), (.int (((B0 &&& (255 : Int32)) <<< ((24 : Int32) &&& 31)) ||| ((B1 &&& (255 : Int32)) <<< ((16 : Int32) &&& 31))))]))
  rw [show ((0 : Int32) + (2 : Int32)) = (2 : Int32) from by decide]
  show Go _ _ _ _ _ _ _ (s₁.setTop (mkF m 27 #[.val (.ref a), .val (.int (0 : Int32))] [(.int (2 : Int32)), (.ref a), (.int (((B0 &&& (255 : Int32)) <<< ((24 : Int32) &&& 31)) ||| ((B1 &&& (255 : Int32)) <<< ((16 : Int32) &&& 31))))]))
  obtain ⟨cl_q103, Ar_q103, q1_q103, S_q103, N_q103, H_q103, G_q103⟩ := id V0_a
  have hin_q103 : ¬ ((2 : Int32) < 0 ∨ cl_q103.slots.size ≤ ((2 : Int32)).toNatClampNeg) := inb_of S_q103 ⟨by decide, by decide⟩
  have hat_q103 : cl_q103.slots[((2 : Int32)).toNatClampNeg]? = some (.int B2) := Has.at H_q103 hin_q103 rfl
  refine Go.by (X0.baloadBytes hx (j := (2 : Int32)) (v := (.int B2)) (by rw [e0]; exact Ar_q103.1) (State.isArrayOf_alike hZ.alike Ar_q103.2.1) Ar_q103.2.2 hin_q103 hat_q103 (g := (mkF m 27 #[.val (.ref a), .val (.int (0 : Int32))] [(.int (2 : Int32)), (.ref a), (.int (((B0 &&& (255 : Int32)) <<< ((24 : Int32) &&& 31)) ||| ((B1 &&& (255 : Int32)) <<< ((16 : Int32) &&& 31))))])) rfl rfl (hb hby dU0_27)) ?_
  show Go _ _ _ _ _ _ _ (s₁.setTop (mkF m 28 #[.val (.ref a), .val (.int (0 : Int32))] [(.int B2), (.int (((B0 &&& (255 : Int32)) <<< ((24 : Int32) &&& 31)) ||| ((B1 &&& (255 : Int32)) <<< ((16 : Int32) &&& 31))))]))
  refine Go.by (fun _ kont => XS.sipush X0.here hx rfl (hb hby dU0_28) (XS.iand X0.here hx rfl (hb hby dU0_31) rfl (XS.bipush X0.here hx rfl (hb hby dU0_32) (XS.ishl X0.here hx rfl (hb hby dU0_34) rfl (XS.ior X0.here hx rfl (hb hby dU0_35) rfl (XS.aloadN X0.here hx rfl (hb hby dU0_36) rfl rfl kont)))))) ?_
  show Go _ _ _ _ _ _ _ (s₁.setTop (mkF m 37 #[.val (.ref a), .val (.int (0 : Int32))] [(.ref a), (.int ((((B0 &&& (255 : Int32)) <<< ((24 : Int32) &&& 31)) ||| ((B1 &&& (255 : Int32)) <<< ((16 : Int32) &&& 31))) ||| ((B2 &&& (255 : Int32)) <<< ((8 : Int32) &&& 31))))]))
  refine Go.by (fun _ kont => XS.iloadN X0.here hx rfl (hb hby dU0_37) rfl (XS.iconst X0.here hx rfl (hb hby dU0_38) (XS.iadd X0.here hx rfl (hb hby dU0_39) rfl kont))) ?_
  show Go _ _ _ _ _ _ _ (s₁.setTop (mkF m 40 #[.val (.ref a), .val (.int (0 : Int32))] [(.int ((0 : Int32) + (3 : Int32))), (.ref a), (.int ((((B0 &&& (255 : Int32)) <<< ((24 : Int32) &&& 31)) ||| ((B1 &&& (255 : Int32)) <<< ((16 : Int32) &&& 31))) ||| ((B2 &&& (255 : Int32)) <<< ((8 : Int32) &&& 31))))]))
  rw [show ((0 : Int32) + (3 : Int32)) = (3 : Int32) from by decide]
  show Go _ _ _ _ _ _ _ (s₁.setTop (mkF m 40 #[.val (.ref a), .val (.int (0 : Int32))] [(.int (3 : Int32)), (.ref a), (.int ((((B0 &&& (255 : Int32)) <<< ((24 : Int32) &&& 31)) ||| ((B1 &&& (255 : Int32)) <<< ((16 : Int32) &&& 31))) ||| ((B2 &&& (255 : Int32)) <<< ((8 : Int32) &&& 31))))]))
  obtain ⟨cl_q104, Ar_q104, q1_q104, S_q104, N_q104, H_q104, G_q104⟩ := id V0_a
  have hin_q104 : ¬ ((3 : Int32) < 0 ∨ cl_q104.slots.size ≤ ((3 : Int32)).toNatClampNeg) := inb_of S_q104 ⟨by decide, by decide⟩
  have hat_q104 : cl_q104.slots[((3 : Int32)).toNatClampNeg]? = some (.int B3) := Has.at H_q104 hin_q104 rfl
  refine Go.by (X0.baloadBytes hx (j := (3 : Int32)) (v := (.int B3)) (by rw [e0]; exact Ar_q104.1) (State.isArrayOf_alike hZ.alike Ar_q104.2.1) Ar_q104.2.2 hin_q104 hat_q104 (g := (mkF m 40 #[.val (.ref a), .val (.int (0 : Int32))] [(.int (3 : Int32)), (.ref a), (.int ((((B0 &&& (255 : Int32)) <<< ((24 : Int32) &&& 31)) ||| ((B1 &&& (255 : Int32)) <<< ((16 : Int32) &&& 31))) ||| ((B2 &&& (255 : Int32)) <<< ((8 : Int32) &&& 31))))])) rfl rfl (hb hby dU0_40)) ?_
  show Go _ _ _ _ _ _ _ (s₁.setTop (mkF m 41 #[.val (.ref a), .val (.int (0 : Int32))] [(.int B3), (.int ((((B0 &&& (255 : Int32)) <<< ((24 : Int32) &&& 31)) ||| ((B1 &&& (255 : Int32)) <<< ((16 : Int32) &&& 31))) ||| ((B2 &&& (255 : Int32)) <<< ((8 : Int32) &&& 31))))]))
  refine Go.by (fun _ kont => XS.sipush X0.here hx rfl (hb hby dU0_41) (XS.iand X0.here hx rfl (hb hby dU0_44) rfl (XS.ior X0.here hx rfl (hb hby dU0_45) rfl kont))) ?_
  show Go _ _ _ _ _ _ _ (s₁.setTop (mkF m 46 #[.val (.ref a), .val (.int (0 : Int32))] [(.int (((((B0 &&& (255 : Int32)) <<< ((24 : Int32) &&& 31)) ||| ((B1 &&& (255 : Int32)) <<< ((16 : Int32) &&& 31))) ||| ((B2 &&& (255 : Int32)) <<< ((8 : Int32) &&& 31))) ||| (B3 &&& (255 : Int32))))]))
  refine Go.retI X0 hx hret hlk (hb hby dU0_46) ?_ (by decide) (by decide)
  show QU0 Z a kc_a B0 B1 B2 B3 B4 B5 B6 B7 h0 n0 (some (.int (((((B0 &&& (255 : Int32)) <<< ((24 : Int32) &&& 31)) ||| ((B1 &&& (255 : Int32)) <<< ((16 : Int32) &&& 31))) ||| ((B2 &&& (255 : Int32)) <<< ((8 : Int32) &&& 31))) ||| (B3 &&& (255 : Int32))))) s₁.heap _
  rw [e0]
  exact ⟨rfl, N0, rfl⟩

theorem dU1_0 : decode prog_21_method_15_code 0 = .ok (.aload_n 0, 1) := by decide +kernel
theorem dU1_1 : decode prog_21_method_15_code 1 = .ok (.iload_n 1, 1) := by decide +kernel
theorem dU1_2 : decode prog_21_method_15_code 2 = .ok (.baload, 1) := by decide +kernel
theorem dU1_3 : decode prog_21_method_15_code 3 = .ok (.sipush 255, 3) := by decide +kernel
theorem dU1_6 : decode prog_21_method_15_code 6 = .ok (.iand, 1) := by decide +kernel
theorem dU1_7 : decode prog_21_method_15_code 7 = .ok (.bipush 24, 2) := by decide +kernel
theorem dU1_9 : decode prog_21_method_15_code 9 = .ok (.ishl, 1) := by decide +kernel
theorem dU1_10 : decode prog_21_method_15_code 10 = .ok (.aload_n 0, 1) := by decide +kernel
theorem dU1_11 : decode prog_21_method_15_code 11 = .ok (.iload_n 1, 1) := by decide +kernel
theorem dU1_12 : decode prog_21_method_15_code 12 = .ok (.iconst 1, 1) := by decide +kernel
theorem dU1_13 : decode prog_21_method_15_code 13 = .ok (.iadd, 1) := by decide +kernel
theorem dU1_14 : decode prog_21_method_15_code 14 = .ok (.baload, 1) := by decide +kernel
theorem dU1_15 : decode prog_21_method_15_code 15 = .ok (.sipush 255, 3) := by decide +kernel
theorem dU1_18 : decode prog_21_method_15_code 18 = .ok (.iand, 1) := by decide +kernel
theorem dU1_19 : decode prog_21_method_15_code 19 = .ok (.bipush 16, 2) := by decide +kernel
theorem dU1_21 : decode prog_21_method_15_code 21 = .ok (.ishl, 1) := by decide +kernel
theorem dU1_22 : decode prog_21_method_15_code 22 = .ok (.ior, 1) := by decide +kernel
theorem dU1_23 : decode prog_21_method_15_code 23 = .ok (.aload_n 0, 1) := by decide +kernel
theorem dU1_24 : decode prog_21_method_15_code 24 = .ok (.iload_n 1, 1) := by decide +kernel
theorem dU1_25 : decode prog_21_method_15_code 25 = .ok (.iconst 2, 1) := by decide +kernel
theorem dU1_26 : decode prog_21_method_15_code 26 = .ok (.iadd, 1) := by decide +kernel
theorem dU1_27 : decode prog_21_method_15_code 27 = .ok (.baload, 1) := by decide +kernel
theorem dU1_28 : decode prog_21_method_15_code 28 = .ok (.sipush 255, 3) := by decide +kernel
theorem dU1_31 : decode prog_21_method_15_code 31 = .ok (.iand, 1) := by decide +kernel
theorem dU1_32 : decode prog_21_method_15_code 32 = .ok (.bipush 8, 2) := by decide +kernel
theorem dU1_34 : decode prog_21_method_15_code 34 = .ok (.ishl, 1) := by decide +kernel
theorem dU1_35 : decode prog_21_method_15_code 35 = .ok (.ior, 1) := by decide +kernel
theorem dU1_36 : decode prog_21_method_15_code 36 = .ok (.aload_n 0, 1) := by decide +kernel
theorem dU1_37 : decode prog_21_method_15_code 37 = .ok (.iload_n 1, 1) := by decide +kernel
theorem dU1_38 : decode prog_21_method_15_code 38 = .ok (.iconst 3, 1) := by decide +kernel
theorem dU1_39 : decode prog_21_method_15_code 39 = .ok (.iadd, 1) := by decide +kernel
theorem dU1_40 : decode prog_21_method_15_code 40 = .ok (.baload, 1) := by decide +kernel
theorem dU1_41 : decode prog_21_method_15_code 41 = .ok (.sipush 255, 3) := by decide +kernel
theorem dU1_44 : decode prog_21_method_15_code 44 = .ok (.iand, 1) := by decide +kernel
theorem dU1_45 : decode prog_21_method_15_code 45 = .ok (.ior, 1) := by decide +kernel
theorem dU1_46 : decode prog_21_method_15_code 46 = .ok (.ireturn, 1) := by decide +kernel
theorem pnU1 : plainName "com/example/classwright/classwright/ClassBytes" = true := by first | (simp [plainName, overriddenIn]; done) | decide +kernel
theorem efU1 (m : MethodId) (a : Addr) : entryFrame m #[(.ref a), (.int (1 : Int32))] 2 = mkF m 0 #[.val (.ref a), .val (.int (1 : Int32))] [] := by first | (simp [entryFrame, mkF, argsToLocals, Value.category]; done) | rfl
def QU1 (Z : State) (a : Addr) (kc_a : ClassId) (B0 : Int32) (B1 : Int32) (B2 : Int32) (B3 : Int32) (B4 : Int32) (B5 : Int32) (B6 : Int32) (B7 : Int32) (h0 : Heap) (n0 : Nat) (v : Option Value) (h : Heap) (L : List Loc) : Prop := (v = some (.int (((((B1 &&& (255 : Int32)) <<< ((24 : Int32) &&& 31)) ||| ((B2 &&& (255 : Int32)) <<< ((16 : Int32) &&& 31))) ||| ((B3 &&& (255 : Int32)) <<< ((8 : Int32) &&& 31))) ||| (B4 &&& (255 : Int32)))) ∧ Fr n0 L ∧ h = h0)
set_option maxRecDepth 65536 in
set_option maxHeartbeats 40000000 in
theorem rmU1 (l : Launch) (Z : State) (a0 : Array Value) (hw : ∀ d ∈ tables_1, d.before a0 Z = true) (ws : List Jvm.Cond) (a : Addr) (kc_a : ClassId) (B0 : Int32) (B1 : Int32) (B2 : Int32) (B3 : Int32) (B4 : Int32) (B5 : Int32) (B6 : Int32) (B7 : Int32) (h0 : Heap) (n0 : Nat) (Z0 : n0 ≤ h0.size) (V0_a : Arv Z h0 a kc_a .byte (8 : Int32) [(.int B0), (.int B1), (.int B2), (.int B3), (.int B4), (.int B5), (.int B6), (.int B7)] (.int (0 : Int32))) :
    MetFree l (⟨"com/example/classwright/classwright/ClassBytes", "u4", "([BI)I"⟩ : MethodName) (head1 (Jvm.Cond.code (⟨"com/example/classwright/classwright/ClassBytes", "u4", "([BI)I"⟩ : MethodName) prog_21_method_15_code 2 (some .int) :: ws) ({ frames := 0, cells := 0, slots := 0, locals := 0 } : Room)) (fun aa U => aa = #[(.ref a), (.int (1 : Int32))] ∧ Z.Warmed39 U.vm ∧ U.heap = h0) (fun _ _ _ _ _ => True) (fun _ U o U' => ∃ v L, o = .returned v ∧ QU1 Z a kc_a B0 B1 B2 B3 B4 B5 B6 B7 h0 n0 v U'.heap L ∧ FrameEnd U o U' L ({ frames := 0, cells := 0, slots := 0, locals := 0 } : Room).cells ({ frames := 0, cells := 0, slots := 0, locals := 0 } : Room).slots) := by
  refine MetFree.of_bodySF (plainFor_of_name pnU1) hisR ?_
  intro p e s m args below meth c s₁ Bd hml0 hP hK
  obtain ⟨rfl, hZ, hh⟩ := hP
  have hx := Bd.exec
  have hby := Bd.bytes
  have hml : c.maxLocals = 2 := hml0
  have hown : s.vm.findClass "com/example/classwright/classwright/ClassBytes" = some m.cls := findClass_of_methodNamed Bd.named
  have hnm := (name_of_methodNamed Bd.named Bd.method).1
  have hlk : meth.locks = false := BodyLoose.notSynchronized Bd
  have hret : meth.sig.returnType = (some .int) := Bd.returns
  have X0 : Stand p l e ({ frames := 0, cells := 0, slots := 0, locals := 0 } : Room) s m #[(.ref a), (.int (1 : Int32))] below meth c s₁ [] 0 0 := Stand.of_body Bd
  have e0 : s₁.heap = h0 := by rw [← hh, Bd.state]; rfl
  have N0 := Fr.nil n0
  show Go p e below s ({ frames := 0, cells := 0, slots := 0, locals := 0 } : Room).cells ({ frames := 0, cells := 0, slots := 0, locals := 0 } : Room).slots (QU1 Z a kc_a B0 B1 B2 B3 B4 B5 B6 B7 h0 n0) (s₁.setTop (entryFrame m #[(.ref a), (.int (1 : Int32))] 2))
  rw [efU1]
  refine Go.by (fun _ kont => XS.aloadN X0.here hx rfl (hb hby dU1_0) rfl rfl (XS.iloadN X0.here hx rfl (hb hby dU1_1) rfl kont)) ?_
  show Go _ _ _ _ _ _ _ (s₁.setTop (mkF m 2 #[.val (.ref a), .val (.int (1 : Int32))] [(.int (1 : Int32)), (.ref a)]))
  obtain ⟨cl_q101, Ar_q101, q1_q101, S_q101, N_q101, H_q101, G_q101⟩ := id V0_a
  have hin_q101 : ¬ ((1 : Int32) < 0 ∨ cl_q101.slots.size ≤ ((1 : Int32)).toNatClampNeg) := inb_of S_q101 ⟨by decide, by decide⟩
  have hat_q101 : cl_q101.slots[((1 : Int32)).toNatClampNeg]? = some (.int B1) := Has.at H_q101 hin_q101 rfl
  refine Go.by (X0.baloadBytes hx (j := (1 : Int32)) (v := (.int B1)) (by rw [e0]; exact Ar_q101.1) (State.isArrayOf_alike hZ.alike Ar_q101.2.1) Ar_q101.2.2 hin_q101 hat_q101 (g := (mkF m 2 #[.val (.ref a), .val (.int (1 : Int32))] [(.int (1 : Int32)), (.ref a)])) rfl rfl (hb hby dU1_2)) ?_
  show Go _ _ _ _ _ _ _ (s₁.setTop (mkF m 3 #[.val (.ref a), .val (.int (1 : Int32))] [(.int B1)]))
  refine Go.by (fun _ kont => XS.sipush X0.here hx rfl (hb hby dU1_3) (XS.iand X0.here hx rfl (hb hby dU1_6) rfl (XS.bipush X0.here hx rfl (hb hby dU1_7) (XS.ishl X0.here hx rfl (hb hby dU1_9) rfl (XS.aloadN X0.here hx rfl (hb hby dU1_10) rfl rfl (XS.iloadN X0.here hx rfl (hb hby dU1_11) rfl kont)))))) ?_
  show Go _ _ _ _ _ _ _ (s₁.setTop (mkF m 12 #[.val (.ref a), .val (.int (1 : Int32))] [(.int (1 : Int32)), (.ref a), (.int ((B1 &&& (255 : Int32)) <<< ((24 : Int32) &&& 31)))]))
  refine Go.by (fun _ kont => XS.iconst X0.here hx rfl (hb hby dU1_12) (XS.iadd X0.here hx rfl (hb hby dU1_13) rfl kont)) ?_
  show Go _ _ _ _ _ _ _ (s₁.setTop (mkF m 14 #[.val (.ref a), .val (.int (1 : Int32))] [(.int ((1 : Int32) + (1 : Int32))), (.ref a), (.int ((B1 &&& (255 : Int32)) <<< ((24 : Int32) &&& 31)))]))
  rw [show ((1 : Int32) + (1 : Int32)) = (2 : Int32) from by decide]
  show Go _ _ _ _ _ _ _ (s₁.setTop (mkF m 14 #[.val (.ref a), .val (.int (1 : Int32))] [(.int (2 : Int32)), (.ref a), (.int ((B1 &&& (255 : Int32)) <<< ((24 : Int32) &&& 31)))]))
  obtain ⟨cl_q102, Ar_q102, q1_q102, S_q102, N_q102, H_q102, G_q102⟩ := id V0_a
  have hin_q102 : ¬ ((2 : Int32) < 0 ∨ cl_q102.slots.size ≤ ((2 : Int32)).toNatClampNeg) := inb_of S_q102 ⟨by decide, by decide⟩
  have hat_q102 : cl_q102.slots[((2 : Int32)).toNatClampNeg]? = some (.int B2) := Has.at H_q102 hin_q102 rfl
  refine Go.by (X0.baloadBytes hx (j := (2 : Int32)) (v := (.int B2)) (by rw [e0]; exact Ar_q102.1) (State.isArrayOf_alike hZ.alike Ar_q102.2.1) Ar_q102.2.2 hin_q102 hat_q102 (g := (mkF m 14 #[.val (.ref a), .val (.int (1 : Int32))] [(.int (2 : Int32)), (.ref a), (.int ((B1 &&& (255 : Int32)) <<< ((24 : Int32) &&& 31)))])) rfl rfl (hb hby dU1_14)) ?_
  show Go _ _ _ _ _ _ _ (s₁.setTop (mkF m 15 #[.val (.ref a), .val (.int (1 : Int32))] [(.int B2), (.int ((B1 &&& (255 : Int32)) <<< ((24 : Int32) &&& 31)))]))
  refine Go.by (fun _ kont => XS.sipush X0.here hx rfl (hb hby dU1_15) (XS.iand X0.here hx rfl (hb hby dU1_18) rfl (XS.bipush X0.here hx rfl (hb hby dU1_19) (XS.ishl X0.here hx rfl (hb hby dU1_21) rfl (XS.ior X0.here hx rfl (hb hby dU1_22) rfl (XS.aloadN X0.here hx rfl (hb hby dU1_23) rfl rfl kont)))))) ?_
  show Go _ _ _ _ _ _ _ (s₁.setTop (mkF m 24 #[.val (.ref a), .val (.int (1 : Int32))] [(.ref a), (.int (((B1 &&& (255 : Int32)) <<< ((24 : Int32) &&& 31)) ||| ((B2 &&& (255 : Int32)) <<< ((16 : Int32) &&& 31))))]))
  refine Go.by (fun _ kont => XS.iloadN X0.here hx rfl (hb hby dU1_24) rfl (XS.iconst X0.here hx rfl (hb hby dU1_25) (XS.iadd X0.here hx rfl (hb hby dU1_26) rfl kont))) ?_
  show Go _ _ _ _ _ _ _ (s₁.setTop (mkF m 27 #[.val (.ref a), .val (.int (1 : Int32))] [(.int ((1 : Int32) + (2 : Int32))), (.ref a), (.int (((B1 &&& (255 : Int32)) <<< ((24 : Int32) &&& 31)) ||| ((B2 &&& (255 : Int32)) <<< ((16 : Int32) &&& 31))))]))
  rw [show ((1 : Int32) + (2 : Int32)) = (3 : Int32) from by decide]
  show Go _ _ _ _ _ _ _ (s₁.setTop (mkF m 27 #[.val (.ref a), .val (.int (1 : Int32))] [(.int (3 : Int32)), (.ref a), (.int (((B1 &&& (255 : Int32)) <<< ((24 : Int32) &&& 31)) ||| ((B2 &&& (255 : Int32)) <<< ((16 : Int32) &&& 31))))]))
  obtain ⟨cl_q103, Ar_q103, q1_q103, S_q103, N_q103, H_q103, G_q103⟩ := id V0_a
  have hin_q103 : ¬ ((3 : Int32) < 0 ∨ cl_q103.slots.size ≤ ((3 : Int32)).toNatClampNeg) := inb_of S_q103 ⟨by decide, by decide⟩
  have hat_q103 : cl_q103.slots[((3 : Int32)).toNatClampNeg]? = some (.int B3) := Has.at H_q103 hin_q103 rfl
  refine Go.by (X0.baloadBytes hx (j := (3 : Int32)) (v := (.int B3)) (by rw [e0]; exact Ar_q103.1) (State.isArrayOf_alike hZ.alike Ar_q103.2.1) Ar_q103.2.2 hin_q103 hat_q103 (g := (mkF m 27 #[.val (.ref a), .val (.int (1 : Int32))] [(.int (3 : Int32)), (.ref a), (.int (((B1 &&& (255 : Int32)) <<< ((24 : Int32) &&& 31)) ||| ((B2 &&& (255 : Int32)) <<< ((16 : Int32) &&& 31))))])) rfl rfl (hb hby dU1_27)) ?_
  show Go _ _ _ _ _ _ _ (s₁.setTop (mkF m 28 #[.val (.ref a), .val (.int (1 : Int32))] [(.int B3), (.int (((B1 &&& (255 : Int32)) <<< ((24 : Int32) &&& 31)) ||| ((B2 &&& (255 : Int32)) <<< ((16 : Int32) &&& 31))))]))
  refine Go.by (fun _ kont => XS.sipush X0.here hx rfl (hb hby dU1_28) (XS.iand X0.here hx rfl (hb hby dU1_31) rfl (XS.bipush X0.here hx rfl (hb hby dU1_32) (XS.ishl X0.here hx rfl (hb hby dU1_34) rfl (XS.ior X0.here hx rfl (hb hby dU1_35) rfl (XS.aloadN X0.here hx rfl (hb hby dU1_36) rfl rfl kont)))))) ?_
  show Go _ _ _ _ _ _ _ (s₁.setTop (mkF m 37 #[.val (.ref a), .val (.int (1 : Int32))] [(.ref a), (.int ((((B1 &&& (255 : Int32)) <<< ((24 : Int32) &&& 31)) ||| ((B2 &&& (255 : Int32)) <<< ((16 : Int32) &&& 31))) ||| ((B3 &&& (255 : Int32)) <<< ((8 : Int32) &&& 31))))]))
  refine Go.by (fun _ kont => XS.iloadN X0.here hx rfl (hb hby dU1_37) rfl (XS.iconst X0.here hx rfl (hb hby dU1_38) (XS.iadd X0.here hx rfl (hb hby dU1_39) rfl kont))) ?_
  show Go _ _ _ _ _ _ _ (s₁.setTop (mkF m 40 #[.val (.ref a), .val (.int (1 : Int32))] [(.int ((1 : Int32) + (3 : Int32))), (.ref a), (.int ((((B1 &&& (255 : Int32)) <<< ((24 : Int32) &&& 31)) ||| ((B2 &&& (255 : Int32)) <<< ((16 : Int32) &&& 31))) ||| ((B3 &&& (255 : Int32)) <<< ((8 : Int32) &&& 31))))]))
  rw [show ((1 : Int32) + (3 : Int32)) = (4 : Int32) from by decide]
  show Go _ _ _ _ _ _ _ (s₁.setTop (mkF m 40 #[.val (.ref a), .val (.int (1 : Int32))] [(.int (4 : Int32)), (.ref a), (.int ((((B1 &&& (255 : Int32)) <<< ((24 : Int32) &&& 31)) ||| ((B2 &&& (255 : Int32)) <<< ((16 : Int32) &&& 31))) ||| ((B3 &&& (255 : Int32)) <<< ((8 : Int32) &&& 31))))]))
  obtain ⟨cl_q104, Ar_q104, q1_q104, S_q104, N_q104, H_q104, G_q104⟩ := id V0_a
  have hin_q104 : ¬ ((4 : Int32) < 0 ∨ cl_q104.slots.size ≤ ((4 : Int32)).toNatClampNeg) := inb_of S_q104 ⟨by decide, by decide⟩
  have hat_q104 : cl_q104.slots[((4 : Int32)).toNatClampNeg]? = some (.int B4) := Has.at H_q104 hin_q104 rfl
  refine Go.by (X0.baloadBytes hx (j := (4 : Int32)) (v := (.int B4)) (by rw [e0]; exact Ar_q104.1) (State.isArrayOf_alike hZ.alike Ar_q104.2.1) Ar_q104.2.2 hin_q104 hat_q104 (g := (mkF m 40 #[.val (.ref a), .val (.int (1 : Int32))] [(.int (4 : Int32)), (.ref a), (.int ((((B1 &&& (255 : Int32)) <<< ((24 : Int32) &&& 31)) ||| ((B2 &&& (255 : Int32)) <<< ((16 : Int32) &&& 31))) ||| ((B3 &&& (255 : Int32)) <<< ((8 : Int32) &&& 31))))])) rfl rfl (hb hby dU1_40)) ?_
  show Go _ _ _ _ _ _ _ (s₁.setTop (mkF m 41 #[.val (.ref a), .val (.int (1 : Int32))] [(.int B4), (.int ((((B1 &&& (255 : Int32)) <<< ((24 : Int32) &&& 31)) ||| ((B2 &&& (255 : Int32)) <<< ((16 : Int32) &&& 31))) ||| ((B3 &&& (255 : Int32)) <<< ((8 : Int32) &&& 31))))]))
  refine Go.by (fun _ kont => XS.sipush X0.here hx rfl (hb hby dU1_41) (XS.iand X0.here hx rfl (hb hby dU1_44) rfl (XS.ior X0.here hx rfl (hb hby dU1_45) rfl kont))) ?_
  show Go _ _ _ _ _ _ _ (s₁.setTop (mkF m 46 #[.val (.ref a), .val (.int (1 : Int32))] [(.int (((((B1 &&& (255 : Int32)) <<< ((24 : Int32) &&& 31)) ||| ((B2 &&& (255 : Int32)) <<< ((16 : Int32) &&& 31))) ||| ((B3 &&& (255 : Int32)) <<< ((8 : Int32) &&& 31))) ||| (B4 &&& (255 : Int32))))]))
  refine Go.retI X0 hx hret hlk (hb hby dU1_46) ?_ (by decide) (by decide)
  show QU1 Z a kc_a B0 B1 B2 B3 B4 B5 B6 B7 h0 n0 (some (.int (((((B1 &&& (255 : Int32)) <<< ((24 : Int32) &&& 31)) ||| ((B2 &&& (255 : Int32)) <<< ((16 : Int32) &&& 31))) ||| ((B3 &&& (255 : Int32)) <<< ((8 : Int32) &&& 31))) ||| (B4 &&& (255 : Int32))))) s₁.heap _
  rw [e0]
  exact ⟨rfl, N0, rfl⟩

theorem dU2_0 : decode prog_21_method_15_code 0 = .ok (.aload_n 0, 1) := by decide +kernel
theorem dU2_1 : decode prog_21_method_15_code 1 = .ok (.iload_n 1, 1) := by decide +kernel
theorem dU2_2 : decode prog_21_method_15_code 2 = .ok (.baload, 1) := by decide +kernel
theorem dU2_3 : decode prog_21_method_15_code 3 = .ok (.sipush 255, 3) := by decide +kernel
theorem dU2_6 : decode prog_21_method_15_code 6 = .ok (.iand, 1) := by decide +kernel
theorem dU2_7 : decode prog_21_method_15_code 7 = .ok (.bipush 24, 2) := by decide +kernel
theorem dU2_9 : decode prog_21_method_15_code 9 = .ok (.ishl, 1) := by decide +kernel
theorem dU2_10 : decode prog_21_method_15_code 10 = .ok (.aload_n 0, 1) := by decide +kernel
theorem dU2_11 : decode prog_21_method_15_code 11 = .ok (.iload_n 1, 1) := by decide +kernel
theorem dU2_12 : decode prog_21_method_15_code 12 = .ok (.iconst 1, 1) := by decide +kernel
theorem dU2_13 : decode prog_21_method_15_code 13 = .ok (.iadd, 1) := by decide +kernel
theorem dU2_14 : decode prog_21_method_15_code 14 = .ok (.baload, 1) := by decide +kernel
theorem dU2_15 : decode prog_21_method_15_code 15 = .ok (.sipush 255, 3) := by decide +kernel
theorem dU2_18 : decode prog_21_method_15_code 18 = .ok (.iand, 1) := by decide +kernel
theorem dU2_19 : decode prog_21_method_15_code 19 = .ok (.bipush 16, 2) := by decide +kernel
theorem dU2_21 : decode prog_21_method_15_code 21 = .ok (.ishl, 1) := by decide +kernel
theorem dU2_22 : decode prog_21_method_15_code 22 = .ok (.ior, 1) := by decide +kernel
theorem dU2_23 : decode prog_21_method_15_code 23 = .ok (.aload_n 0, 1) := by decide +kernel
theorem dU2_24 : decode prog_21_method_15_code 24 = .ok (.iload_n 1, 1) := by decide +kernel
theorem dU2_25 : decode prog_21_method_15_code 25 = .ok (.iconst 2, 1) := by decide +kernel
theorem dU2_26 : decode prog_21_method_15_code 26 = .ok (.iadd, 1) := by decide +kernel
theorem dU2_27 : decode prog_21_method_15_code 27 = .ok (.baload, 1) := by decide +kernel
theorem dU2_28 : decode prog_21_method_15_code 28 = .ok (.sipush 255, 3) := by decide +kernel
theorem dU2_31 : decode prog_21_method_15_code 31 = .ok (.iand, 1) := by decide +kernel
theorem dU2_32 : decode prog_21_method_15_code 32 = .ok (.bipush 8, 2) := by decide +kernel
theorem dU2_34 : decode prog_21_method_15_code 34 = .ok (.ishl, 1) := by decide +kernel
theorem dU2_35 : decode prog_21_method_15_code 35 = .ok (.ior, 1) := by decide +kernel
theorem dU2_36 : decode prog_21_method_15_code 36 = .ok (.aload_n 0, 1) := by decide +kernel
theorem dU2_37 : decode prog_21_method_15_code 37 = .ok (.iload_n 1, 1) := by decide +kernel
theorem dU2_38 : decode prog_21_method_15_code 38 = .ok (.iconst 3, 1) := by decide +kernel
theorem dU2_39 : decode prog_21_method_15_code 39 = .ok (.iadd, 1) := by decide +kernel
theorem dU2_40 : decode prog_21_method_15_code 40 = .ok (.baload, 1) := by decide +kernel
theorem dU2_41 : decode prog_21_method_15_code 41 = .ok (.sipush 255, 3) := by decide +kernel
theorem dU2_44 : decode prog_21_method_15_code 44 = .ok (.iand, 1) := by decide +kernel
theorem dU2_45 : decode prog_21_method_15_code 45 = .ok (.ior, 1) := by decide +kernel
theorem dU2_46 : decode prog_21_method_15_code 46 = .ok (.ireturn, 1) := by decide +kernel
theorem pnU2 : plainName "com/example/classwright/classwright/ClassBytes" = true := by first | (simp [plainName, overriddenIn]; done) | decide +kernel
theorem efU2 (m : MethodId) (a : Addr) : entryFrame m #[(.ref a), (.int (2 : Int32))] 2 = mkF m 0 #[.val (.ref a), .val (.int (2 : Int32))] [] := by first | (simp [entryFrame, mkF, argsToLocals, Value.category]; done) | rfl
def QU2 (Z : State) (a : Addr) (kc_a : ClassId) (B0 : Int32) (B1 : Int32) (B2 : Int32) (B3 : Int32) (B4 : Int32) (B5 : Int32) (B6 : Int32) (B7 : Int32) (h0 : Heap) (n0 : Nat) (v : Option Value) (h : Heap) (L : List Loc) : Prop := (v = some (.int (((((B2 &&& (255 : Int32)) <<< ((24 : Int32) &&& 31)) ||| ((B3 &&& (255 : Int32)) <<< ((16 : Int32) &&& 31))) ||| ((B4 &&& (255 : Int32)) <<< ((8 : Int32) &&& 31))) ||| (B5 &&& (255 : Int32)))) ∧ Fr n0 L ∧ h = h0)
set_option maxRecDepth 65536 in
set_option maxHeartbeats 40000000 in
theorem rmU2 (l : Launch) (Z : State) (a0 : Array Value) (hw : ∀ d ∈ tables_1, d.before a0 Z = true) (ws : List Jvm.Cond) (a : Addr) (kc_a : ClassId) (B0 : Int32) (B1 : Int32) (B2 : Int32) (B3 : Int32) (B4 : Int32) (B5 : Int32) (B6 : Int32) (B7 : Int32) (h0 : Heap) (n0 : Nat) (Z0 : n0 ≤ h0.size) (V0_a : Arv Z h0 a kc_a .byte (8 : Int32) [(.int B0), (.int B1), (.int B2), (.int B3), (.int B4), (.int B5), (.int B6), (.int B7)] (.int (0 : Int32))) :
    MetFree l (⟨"com/example/classwright/classwright/ClassBytes", "u4", "([BI)I"⟩ : MethodName) (head1 (Jvm.Cond.code (⟨"com/example/classwright/classwright/ClassBytes", "u4", "([BI)I"⟩ : MethodName) prog_21_method_15_code 2 (some .int) :: ws) ({ frames := 0, cells := 0, slots := 0, locals := 0 } : Room)) (fun aa U => aa = #[(.ref a), (.int (2 : Int32))] ∧ Z.Warmed39 U.vm ∧ U.heap = h0) (fun _ _ _ _ _ => True) (fun _ U o U' => ∃ v L, o = .returned v ∧ QU2 Z a kc_a B0 B1 B2 B3 B4 B5 B6 B7 h0 n0 v U'.heap L ∧ FrameEnd U o U' L ({ frames := 0, cells := 0, slots := 0, locals := 0 } : Room).cells ({ frames := 0, cells := 0, slots := 0, locals := 0 } : Room).slots) := by
  refine MetFree.of_bodySF (plainFor_of_name pnU2) hisR ?_
  intro p e s m args below meth c s₁ Bd hml0 hP hK
  obtain ⟨rfl, hZ, hh⟩ := hP
  have hx := Bd.exec
  have hby := Bd.bytes
  have hml : c.maxLocals = 2 := hml0
  have hown : s.vm.findClass "com/example/classwright/classwright/ClassBytes" = some m.cls := findClass_of_methodNamed Bd.named
  have hnm := (name_of_methodNamed Bd.named Bd.method).1
  have hlk : meth.locks = false := BodyLoose.notSynchronized Bd
  have hret : meth.sig.returnType = (some .int) := Bd.returns
  have X0 : Stand p l e ({ frames := 0, cells := 0, slots := 0, locals := 0 } : Room) s m #[(.ref a), (.int (2 : Int32))] below meth c s₁ [] 0 0 := Stand.of_body Bd
  have e0 : s₁.heap = h0 := by rw [← hh, Bd.state]; rfl
  have N0 := Fr.nil n0
  show Go p e below s ({ frames := 0, cells := 0, slots := 0, locals := 0 } : Room).cells ({ frames := 0, cells := 0, slots := 0, locals := 0 } : Room).slots (QU2 Z a kc_a B0 B1 B2 B3 B4 B5 B6 B7 h0 n0) (s₁.setTop (entryFrame m #[(.ref a), (.int (2 : Int32))] 2))
  rw [efU2]
  refine Go.by (fun _ kont => XS.aloadN X0.here hx rfl (hb hby dU2_0) rfl rfl (XS.iloadN X0.here hx rfl (hb hby dU2_1) rfl kont)) ?_
  show Go _ _ _ _ _ _ _ (s₁.setTop (mkF m 2 #[.val (.ref a), .val (.int (2 : Int32))] [(.int (2 : Int32)), (.ref a)]))
  obtain ⟨cl_q101, Ar_q101, q1_q101, S_q101, N_q101, H_q101, G_q101⟩ := id V0_a
  have hin_q101 : ¬ ((2 : Int32) < 0 ∨ cl_q101.slots.size ≤ ((2 : Int32)).toNatClampNeg) := inb_of S_q101 ⟨by decide, by decide⟩
  have hat_q101 : cl_q101.slots[((2 : Int32)).toNatClampNeg]? = some (.int B2) := Has.at H_q101 hin_q101 rfl
  refine Go.by (X0.baloadBytes hx (j := (2 : Int32)) (v := (.int B2)) (by rw [e0]; exact Ar_q101.1) (State.isArrayOf_alike hZ.alike Ar_q101.2.1) Ar_q101.2.2 hin_q101 hat_q101 (g := (mkF m 2 #[.val (.ref a), .val (.int (2 : Int32))] [(.int (2 : Int32)), (.ref a)])) rfl rfl (hb hby dU2_2)) ?_
  show Go _ _ _ _ _ _ _ (s₁.setTop (mkF m 3 #[.val (.ref a), .val (.int (2 : Int32))] [(.int B2)]))
  refine Go.by (fun _ kont => XS.sipush X0.here hx rfl (hb hby dU2_3) (XS.iand X0.here hx rfl (hb hby dU2_6) rfl (XS.bipush X0.here hx rfl (hb hby dU2_7) (XS.ishl X0.here hx rfl (hb hby dU2_9) rfl (XS.aloadN X0.here hx rfl (hb hby dU2_10) rfl rfl (XS.iloadN X0.here hx rfl (hb hby dU2_11) rfl kont)))))) ?_
  show Go _ _ _ _ _ _ _ (s₁.setTop (mkF m 12 #[.val (.ref a), .val (.int (2 : Int32))] [(.int (2 : Int32)), (.ref a), (.int ((B2 &&& (255 : Int32)) <<< ((24 : Int32) &&& 31)))]))
  refine Go.by (fun _ kont => XS.iconst X0.here hx rfl (hb hby dU2_12) (XS.iadd X0.here hx rfl (hb hby dU2_13) rfl kont)) ?_
  show Go _ _ _ _ _ _ _ (s₁.setTop (mkF m 14 #[.val (.ref a), .val (.int (2 : Int32))] [(.int ((2 : Int32) + (1 : Int32))), (.ref a), (.int ((B2 &&& (255 : Int32)) <<< ((24 : Int32) &&& 31)))]))
  rw [show ((2 : Int32) + (1 : Int32)) = (3 : Int32) from by decide]
  show Go _ _ _ _ _ _ _ (s₁.setTop (mkF m 14 #[.val (.ref a), .val (.int (2 : Int32))] [(.int (3 : Int32)), (.ref a), (.int ((B2 &&& (255 : Int32)) <<< ((24 : Int32) &&& 31)))]))
  obtain ⟨cl_q102, Ar_q102, q1_q102, S_q102, N_q102, H_q102, G_q102⟩ := id V0_a
  have hin_q102 : ¬ ((3 : Int32) < 0 ∨ cl_q102.slots.size ≤ ((3 : Int32)).toNatClampNeg) := inb_of S_q102 ⟨by decide, by decide⟩
  have hat_q102 : cl_q102.slots[((3 : Int32)).toNatClampNeg]? = some (.int B3) := Has.at H_q102 hin_q102 rfl
  refine Go.by (X0.baloadBytes hx (j := (3 : Int32)) (v := (.int B3)) (by rw [e0]; exact Ar_q102.1) (State.isArrayOf_alike hZ.alike Ar_q102.2.1) Ar_q102.2.2 hin_q102 hat_q102 (g := (mkF m 14 #[.val (.ref a), .val (.int (2 : Int32))] [(.int (3 : Int32)), (.ref a), (.int ((B2 &&& (255 : Int32)) <<< ((24 : Int32) &&& 31)))])) rfl rfl (hb hby dU2_14)) ?_
  show Go _ _ _ _ _ _ _ (s₁.setTop (mkF m 15 #[.val (.ref a), .val (.int (2 : Int32))] [(.int B3), (.int ((B2 &&& (255 : Int32)) <<< ((24 : Int32) &&& 31)))]))
  refine Go.by (fun _ kont => XS.sipush X0.here hx rfl (hb hby dU2_15) (XS.iand X0.here hx rfl (hb hby dU2_18) rfl (XS.bipush X0.here hx rfl (hb hby dU2_19) (XS.ishl X0.here hx rfl (hb hby dU2_21) rfl (XS.ior X0.here hx rfl (hb hby dU2_22) rfl (XS.aloadN X0.here hx rfl (hb hby dU2_23) rfl rfl kont)))))) ?_
  show Go _ _ _ _ _ _ _ (s₁.setTop (mkF m 24 #[.val (.ref a), .val (.int (2 : Int32))] [(.ref a), (.int (((B2 &&& (255 : Int32)) <<< ((24 : Int32) &&& 31)) ||| ((B3 &&& (255 : Int32)) <<< ((16 : Int32) &&& 31))))]))
  refine Go.by (fun _ kont => XS.iloadN X0.here hx rfl (hb hby dU2_24) rfl (XS.iconst X0.here hx rfl (hb hby dU2_25) (XS.iadd X0.here hx rfl (hb hby dU2_26) rfl kont))) ?_
  show Go _ _ _ _ _ _ _ (s₁.setTop (mkF m 27 #[.val (.ref a), .val (.int (2 : Int32))] [(.int ((2 : Int32) + (2 : Int32))), (.ref a), (.int (((B2 &&& (255 : Int32)) <<< ((24 : Int32) &&& 31)) ||| ((B3 &&& (255 : Int32)) <<< ((16 : Int32) &&& 31))))]))
  rw [show ((2 : Int32) + (2 : Int32)) = (4 : Int32) from by decide]
  show Go _ _ _ _ _ _ _ (s₁.setTop (mkF m 27 #[.val (.ref a), .val (.int (2 : Int32))] [(.int (4 : Int32)), (.ref a), (.int (((B2 &&& (255 : Int32)) <<< ((24 : Int32) &&& 31)) ||| ((B3 &&& (255 : Int32)) <<< ((16 : Int32) &&& 31))))]))
  obtain ⟨cl_q103, Ar_q103, q1_q103, S_q103, N_q103, H_q103, G_q103⟩ := id V0_a
  have hin_q103 : ¬ ((4 : Int32) < 0 ∨ cl_q103.slots.size ≤ ((4 : Int32)).toNatClampNeg) := inb_of S_q103 ⟨by decide, by decide⟩
  have hat_q103 : cl_q103.slots[((4 : Int32)).toNatClampNeg]? = some (.int B4) := Has.at H_q103 hin_q103 rfl
  refine Go.by (X0.baloadBytes hx (j := (4 : Int32)) (v := (.int B4)) (by rw [e0]; exact Ar_q103.1) (State.isArrayOf_alike hZ.alike Ar_q103.2.1) Ar_q103.2.2 hin_q103 hat_q103 (g := (mkF m 27 #[.val (.ref a), .val (.int (2 : Int32))] [(.int (4 : Int32)), (.ref a), (.int (((B2 &&& (255 : Int32)) <<< ((24 : Int32) &&& 31)) ||| ((B3 &&& (255 : Int32)) <<< ((16 : Int32) &&& 31))))])) rfl rfl (hb hby dU2_27)) ?_
  show Go _ _ _ _ _ _ _ (s₁.setTop (mkF m 28 #[.val (.ref a), .val (.int (2 : Int32))] [(.int B4), (.int (((B2 &&& (255 : Int32)) <<< ((24 : Int32) &&& 31)) ||| ((B3 &&& (255 : Int32)) <<< ((16 : Int32) &&& 31))))]))
  refine Go.by (fun _ kont => XS.sipush X0.here hx rfl (hb hby dU2_28) (XS.iand X0.here hx rfl (hb hby dU2_31) rfl (XS.bipush X0.here hx rfl (hb hby dU2_32) (XS.ishl X0.here hx rfl (hb hby dU2_34) rfl (XS.ior X0.here hx rfl (hb hby dU2_35) rfl (XS.aloadN X0.here hx rfl (hb hby dU2_36) rfl rfl kont)))))) ?_
  show Go _ _ _ _ _ _ _ (s₁.setTop (mkF m 37 #[.val (.ref a), .val (.int (2 : Int32))] [(.ref a), (.int ((((B2 &&& (255 : Int32)) <<< ((24 : Int32) &&& 31)) ||| ((B3 &&& (255 : Int32)) <<< ((16 : Int32) &&& 31))) ||| ((B4 &&& (255 : Int32)) <<< ((8 : Int32) &&& 31))))]))
  refine Go.by (fun _ kont => XS.iloadN X0.here hx rfl (hb hby dU2_37) rfl (XS.iconst X0.here hx rfl (hb hby dU2_38) (XS.iadd X0.here hx rfl (hb hby dU2_39) rfl kont))) ?_
  show Go _ _ _ _ _ _ _ (s₁.setTop (mkF m 40 #[.val (.ref a), .val (.int (2 : Int32))] [(.int ((2 : Int32) + (3 : Int32))), (.ref a), (.int ((((B2 &&& (255 : Int32)) <<< ((24 : Int32) &&& 31)) ||| ((B3 &&& (255 : Int32)) <<< ((16 : Int32) &&& 31))) ||| ((B4 &&& (255 : Int32)) <<< ((8 : Int32) &&& 31))))]))
  rw [show ((2 : Int32) + (3 : Int32)) = (5 : Int32) from by decide]
  show Go _ _ _ _ _ _ _ (s₁.setTop (mkF m 40 #[.val (.ref a), .val (.int (2 : Int32))] [(.int (5 : Int32)), (.ref a), (.int ((((B2 &&& (255 : Int32)) <<< ((24 : Int32) &&& 31)) ||| ((B3 &&& (255 : Int32)) <<< ((16 : Int32) &&& 31))) ||| ((B4 &&& (255 : Int32)) <<< ((8 : Int32) &&& 31))))]))
  obtain ⟨cl_q104, Ar_q104, q1_q104, S_q104, N_q104, H_q104, G_q104⟩ := id V0_a
  have hin_q104 : ¬ ((5 : Int32) < 0 ∨ cl_q104.slots.size ≤ ((5 : Int32)).toNatClampNeg) := inb_of S_q104 ⟨by decide, by decide⟩
  have hat_q104 : cl_q104.slots[((5 : Int32)).toNatClampNeg]? = some (.int B5) := Has.at H_q104 hin_q104 rfl
  refine Go.by (X0.baloadBytes hx (j := (5 : Int32)) (v := (.int B5)) (by rw [e0]; exact Ar_q104.1) (State.isArrayOf_alike hZ.alike Ar_q104.2.1) Ar_q104.2.2 hin_q104 hat_q104 (g := (mkF m 40 #[.val (.ref a), .val (.int (2 : Int32))] [(.int (5 : Int32)), (.ref a), (.int ((((B2 &&& (255 : Int32)) <<< ((24 : Int32) &&& 31)) ||| ((B3 &&& (255 : Int32)) <<< ((16 : Int32) &&& 31))) ||| ((B4 &&& (255 : Int32)) <<< ((8 : Int32) &&& 31))))])) rfl rfl (hb hby dU2_40)) ?_
  show Go _ _ _ _ _ _ _ (s₁.setTop (mkF m 41 #[.val (.ref a), .val (.int (2 : Int32))] [(.int B5), (.int ((((B2 &&& (255 : Int32)) <<< ((24 : Int32) &&& 31)) ||| ((B3 &&& (255 : Int32)) <<< ((16 : Int32) &&& 31))) ||| ((B4 &&& (255 : Int32)) <<< ((8 : Int32) &&& 31))))]))
  refine Go.by (fun _ kont => XS.sipush X0.here hx rfl (hb hby dU2_41) (XS.iand X0.here hx rfl (hb hby dU2_44) rfl (XS.ior X0.here hx rfl (hb hby dU2_45) rfl kont))) ?_
  show Go _ _ _ _ _ _ _ (s₁.setTop (mkF m 46 #[.val (.ref a), .val (.int (2 : Int32))] [(.int (((((B2 &&& (255 : Int32)) <<< ((24 : Int32) &&& 31)) ||| ((B3 &&& (255 : Int32)) <<< ((16 : Int32) &&& 31))) ||| ((B4 &&& (255 : Int32)) <<< ((8 : Int32) &&& 31))) ||| (B5 &&& (255 : Int32))))]))
  refine Go.retI X0 hx hret hlk (hb hby dU2_46) ?_ (by decide) (by decide)
  show QU2 Z a kc_a B0 B1 B2 B3 B4 B5 B6 B7 h0 n0 (some (.int (((((B2 &&& (255 : Int32)) <<< ((24 : Int32) &&& 31)) ||| ((B3 &&& (255 : Int32)) <<< ((16 : Int32) &&& 31))) ||| ((B4 &&& (255 : Int32)) <<< ((8 : Int32) &&& 31))) ||| (B5 &&& (255 : Int32))))) s₁.heap _
  rw [e0]
  exact ⟨rfl, N0, rfl⟩

theorem dU3_0 : decode prog_21_method_15_code 0 = .ok (.aload_n 0, 1) := by decide +kernel
theorem dU3_1 : decode prog_21_method_15_code 1 = .ok (.iload_n 1, 1) := by decide +kernel
theorem dU3_2 : decode prog_21_method_15_code 2 = .ok (.baload, 1) := by decide +kernel
theorem dU3_3 : decode prog_21_method_15_code 3 = .ok (.sipush 255, 3) := by decide +kernel
theorem dU3_6 : decode prog_21_method_15_code 6 = .ok (.iand, 1) := by decide +kernel
theorem dU3_7 : decode prog_21_method_15_code 7 = .ok (.bipush 24, 2) := by decide +kernel
theorem dU3_9 : decode prog_21_method_15_code 9 = .ok (.ishl, 1) := by decide +kernel
theorem dU3_10 : decode prog_21_method_15_code 10 = .ok (.aload_n 0, 1) := by decide +kernel
theorem dU3_11 : decode prog_21_method_15_code 11 = .ok (.iload_n 1, 1) := by decide +kernel
theorem dU3_12 : decode prog_21_method_15_code 12 = .ok (.iconst 1, 1) := by decide +kernel
theorem dU3_13 : decode prog_21_method_15_code 13 = .ok (.iadd, 1) := by decide +kernel
theorem dU3_14 : decode prog_21_method_15_code 14 = .ok (.baload, 1) := by decide +kernel
theorem dU3_15 : decode prog_21_method_15_code 15 = .ok (.sipush 255, 3) := by decide +kernel
theorem dU3_18 : decode prog_21_method_15_code 18 = .ok (.iand, 1) := by decide +kernel
theorem dU3_19 : decode prog_21_method_15_code 19 = .ok (.bipush 16, 2) := by decide +kernel
theorem dU3_21 : decode prog_21_method_15_code 21 = .ok (.ishl, 1) := by decide +kernel
theorem dU3_22 : decode prog_21_method_15_code 22 = .ok (.ior, 1) := by decide +kernel
theorem dU3_23 : decode prog_21_method_15_code 23 = .ok (.aload_n 0, 1) := by decide +kernel
theorem dU3_24 : decode prog_21_method_15_code 24 = .ok (.iload_n 1, 1) := by decide +kernel
theorem dU3_25 : decode prog_21_method_15_code 25 = .ok (.iconst 2, 1) := by decide +kernel
theorem dU3_26 : decode prog_21_method_15_code 26 = .ok (.iadd, 1) := by decide +kernel
theorem dU3_27 : decode prog_21_method_15_code 27 = .ok (.baload, 1) := by decide +kernel
theorem dU3_28 : decode prog_21_method_15_code 28 = .ok (.sipush 255, 3) := by decide +kernel
theorem dU3_31 : decode prog_21_method_15_code 31 = .ok (.iand, 1) := by decide +kernel
theorem dU3_32 : decode prog_21_method_15_code 32 = .ok (.bipush 8, 2) := by decide +kernel
theorem dU3_34 : decode prog_21_method_15_code 34 = .ok (.ishl, 1) := by decide +kernel
theorem dU3_35 : decode prog_21_method_15_code 35 = .ok (.ior, 1) := by decide +kernel
theorem dU3_36 : decode prog_21_method_15_code 36 = .ok (.aload_n 0, 1) := by decide +kernel
theorem dU3_37 : decode prog_21_method_15_code 37 = .ok (.iload_n 1, 1) := by decide +kernel
theorem dU3_38 : decode prog_21_method_15_code 38 = .ok (.iconst 3, 1) := by decide +kernel
theorem dU3_39 : decode prog_21_method_15_code 39 = .ok (.iadd, 1) := by decide +kernel
theorem dU3_40 : decode prog_21_method_15_code 40 = .ok (.baload, 1) := by decide +kernel
theorem dU3_41 : decode prog_21_method_15_code 41 = .ok (.sipush 255, 3) := by decide +kernel
theorem dU3_44 : decode prog_21_method_15_code 44 = .ok (.iand, 1) := by decide +kernel
theorem dU3_45 : decode prog_21_method_15_code 45 = .ok (.ior, 1) := by decide +kernel
theorem dU3_46 : decode prog_21_method_15_code 46 = .ok (.ireturn, 1) := by decide +kernel
theorem pnU3 : plainName "com/example/classwright/classwright/ClassBytes" = true := by first | (simp [plainName, overriddenIn]; done) | decide +kernel
theorem efU3 (m : MethodId) (a : Addr) : entryFrame m #[(.ref a), (.int (3 : Int32))] 2 = mkF m 0 #[.val (.ref a), .val (.int (3 : Int32))] [] := by first | (simp [entryFrame, mkF, argsToLocals, Value.category]; done) | rfl
def QU3 (Z : State) (a : Addr) (kc_a : ClassId) (B0 : Int32) (B1 : Int32) (B2 : Int32) (B3 : Int32) (B4 : Int32) (B5 : Int32) (B6 : Int32) (B7 : Int32) (h0 : Heap) (n0 : Nat) (v : Option Value) (h : Heap) (L : List Loc) : Prop := (v = some (.int (((((B3 &&& (255 : Int32)) <<< ((24 : Int32) &&& 31)) ||| ((B4 &&& (255 : Int32)) <<< ((16 : Int32) &&& 31))) ||| ((B5 &&& (255 : Int32)) <<< ((8 : Int32) &&& 31))) ||| (B6 &&& (255 : Int32)))) ∧ Fr n0 L ∧ h = h0)
set_option maxRecDepth 65536 in
set_option maxHeartbeats 40000000 in
theorem rmU3 (l : Launch) (Z : State) (a0 : Array Value) (hw : ∀ d ∈ tables_1, d.before a0 Z = true) (ws : List Jvm.Cond) (a : Addr) (kc_a : ClassId) (B0 : Int32) (B1 : Int32) (B2 : Int32) (B3 : Int32) (B4 : Int32) (B5 : Int32) (B6 : Int32) (B7 : Int32) (h0 : Heap) (n0 : Nat) (Z0 : n0 ≤ h0.size) (V0_a : Arv Z h0 a kc_a .byte (8 : Int32) [(.int B0), (.int B1), (.int B2), (.int B3), (.int B4), (.int B5), (.int B6), (.int B7)] (.int (0 : Int32))) :
    MetFree l (⟨"com/example/classwright/classwright/ClassBytes", "u4", "([BI)I"⟩ : MethodName) (head1 (Jvm.Cond.code (⟨"com/example/classwright/classwright/ClassBytes", "u4", "([BI)I"⟩ : MethodName) prog_21_method_15_code 2 (some .int) :: ws) ({ frames := 0, cells := 0, slots := 0, locals := 0 } : Room)) (fun aa U => aa = #[(.ref a), (.int (3 : Int32))] ∧ Z.Warmed39 U.vm ∧ U.heap = h0) (fun _ _ _ _ _ => True) (fun _ U o U' => ∃ v L, o = .returned v ∧ QU3 Z a kc_a B0 B1 B2 B3 B4 B5 B6 B7 h0 n0 v U'.heap L ∧ FrameEnd U o U' L ({ frames := 0, cells := 0, slots := 0, locals := 0 } : Room).cells ({ frames := 0, cells := 0, slots := 0, locals := 0 } : Room).slots) := by
  refine MetFree.of_bodySF (plainFor_of_name pnU3) hisR ?_
  intro p e s m args below meth c s₁ Bd hml0 hP hK
  obtain ⟨rfl, hZ, hh⟩ := hP
  have hx := Bd.exec
  have hby := Bd.bytes
  have hml : c.maxLocals = 2 := hml0
  have hown : s.vm.findClass "com/example/classwright/classwright/ClassBytes" = some m.cls := findClass_of_methodNamed Bd.named
  have hnm := (name_of_methodNamed Bd.named Bd.method).1
  have hlk : meth.locks = false := BodyLoose.notSynchronized Bd
  have hret : meth.sig.returnType = (some .int) := Bd.returns
  have X0 : Stand p l e ({ frames := 0, cells := 0, slots := 0, locals := 0 } : Room) s m #[(.ref a), (.int (3 : Int32))] below meth c s₁ [] 0 0 := Stand.of_body Bd
  have e0 : s₁.heap = h0 := by rw [← hh, Bd.state]; rfl
  have N0 := Fr.nil n0
  show Go p e below s ({ frames := 0, cells := 0, slots := 0, locals := 0 } : Room).cells ({ frames := 0, cells := 0, slots := 0, locals := 0 } : Room).slots (QU3 Z a kc_a B0 B1 B2 B3 B4 B5 B6 B7 h0 n0) (s₁.setTop (entryFrame m #[(.ref a), (.int (3 : Int32))] 2))
  rw [efU3]
  refine Go.by (fun _ kont => XS.aloadN X0.here hx rfl (hb hby dU3_0) rfl rfl (XS.iloadN X0.here hx rfl (hb hby dU3_1) rfl kont)) ?_
  show Go _ _ _ _ _ _ _ (s₁.setTop (mkF m 2 #[.val (.ref a), .val (.int (3 : Int32))] [(.int (3 : Int32)), (.ref a)]))
  obtain ⟨cl_q101, Ar_q101, q1_q101, S_q101, N_q101, H_q101, G_q101⟩ := id V0_a
  have hin_q101 : ¬ ((3 : Int32) < 0 ∨ cl_q101.slots.size ≤ ((3 : Int32)).toNatClampNeg) := inb_of S_q101 ⟨by decide, by decide⟩
  have hat_q101 : cl_q101.slots[((3 : Int32)).toNatClampNeg]? = some (.int B3) := Has.at H_q101 hin_q101 rfl
  refine Go.by (X0.baloadBytes hx (j := (3 : Int32)) (v := (.int B3)) (by rw [e0]; exact Ar_q101.1) (State.isArrayOf_alike hZ.alike Ar_q101.2.1) Ar_q101.2.2 hin_q101 hat_q101 (g := (mkF m 2 #[.val (.ref a), .val (.int (3 : Int32))] [(.int (3 : Int32)), (.ref a)])) rfl rfl (hb hby dU3_2)) ?_
  show Go _ _ _ _ _ _ _ (s₁.setTop (mkF m 3 #[.val (.ref a), .val (.int (3 : Int32))] [(.int B3)]))
  refine Go.by (fun _ kont => XS.sipush X0.here hx rfl (hb hby dU3_3) (XS.iand X0.here hx rfl (hb hby dU3_6) rfl (XS.bipush X0.here hx rfl (hb hby dU3_7) (XS.ishl X0.here hx rfl (hb hby dU3_9) rfl (XS.aloadN X0.here hx rfl (hb hby dU3_10) rfl rfl (XS.iloadN X0.here hx rfl (hb hby dU3_11) rfl kont)))))) ?_
  show Go _ _ _ _ _ _ _ (s₁.setTop (mkF m 12 #[.val (.ref a), .val (.int (3 : Int32))] [(.int (3 : Int32)), (.ref a), (.int ((B3 &&& (255 : Int32)) <<< ((24 : Int32) &&& 31)))]))
  refine Go.by (fun _ kont => XS.iconst X0.here hx rfl (hb hby dU3_12) (XS.iadd X0.here hx rfl (hb hby dU3_13) rfl kont)) ?_
  show Go _ _ _ _ _ _ _ (s₁.setTop (mkF m 14 #[.val (.ref a), .val (.int (3 : Int32))] [(.int ((3 : Int32) + (1 : Int32))), (.ref a), (.int ((B3 &&& (255 : Int32)) <<< ((24 : Int32) &&& 31)))]))
  rw [show ((3 : Int32) + (1 : Int32)) = (4 : Int32) from by decide]
  show Go _ _ _ _ _ _ _ (s₁.setTop (mkF m 14 #[.val (.ref a), .val (.int (3 : Int32))] [(.int (4 : Int32)), (.ref a), (.int ((B3 &&& (255 : Int32)) <<< ((24 : Int32) &&& 31)))]))
  obtain ⟨cl_q102, Ar_q102, q1_q102, S_q102, N_q102, H_q102, G_q102⟩ := id V0_a
  have hin_q102 : ¬ ((4 : Int32) < 0 ∨ cl_q102.slots.size ≤ ((4 : Int32)).toNatClampNeg) := inb_of S_q102 ⟨by decide, by decide⟩
  have hat_q102 : cl_q102.slots[((4 : Int32)).toNatClampNeg]? = some (.int B4) := Has.at H_q102 hin_q102 rfl
  refine Go.by (X0.baloadBytes hx (j := (4 : Int32)) (v := (.int B4)) (by rw [e0]; exact Ar_q102.1) (State.isArrayOf_alike hZ.alike Ar_q102.2.1) Ar_q102.2.2 hin_q102 hat_q102 (g := (mkF m 14 #[.val (.ref a), .val (.int (3 : Int32))] [(.int (4 : Int32)), (.ref a), (.int ((B3 &&& (255 : Int32)) <<< ((24 : Int32) &&& 31)))])) rfl rfl (hb hby dU3_14)) ?_
  show Go _ _ _ _ _ _ _ (s₁.setTop (mkF m 15 #[.val (.ref a), .val (.int (3 : Int32))] [(.int B4), (.int ((B3 &&& (255 : Int32)) <<< ((24 : Int32) &&& 31)))]))
  refine Go.by (fun _ kont => XS.sipush X0.here hx rfl (hb hby dU3_15) (XS.iand X0.here hx rfl (hb hby dU3_18) rfl (XS.bipush X0.here hx rfl (hb hby dU3_19) (XS.ishl X0.here hx rfl (hb hby dU3_21) rfl (XS.ior X0.here hx rfl (hb hby dU3_22) rfl (XS.aloadN X0.here hx rfl (hb hby dU3_23) rfl rfl kont)))))) ?_
  show Go _ _ _ _ _ _ _ (s₁.setTop (mkF m 24 #[.val (.ref a), .val (.int (3 : Int32))] [(.ref a), (.int (((B3 &&& (255 : Int32)) <<< ((24 : Int32) &&& 31)) ||| ((B4 &&& (255 : Int32)) <<< ((16 : Int32) &&& 31))))]))
  refine Go.by (fun _ kont => XS.iloadN X0.here hx rfl (hb hby dU3_24) rfl (XS.iconst X0.here hx rfl (hb hby dU3_25) (XS.iadd X0.here hx rfl (hb hby dU3_26) rfl kont))) ?_
  show Go _ _ _ _ _ _ _ (s₁.setTop (mkF m 27 #[.val (.ref a), .val (.int (3 : Int32))] [(.int ((3 : Int32) + (2 : Int32))), (.ref a), (.int (((B3 &&& (255 : Int32)) <<< ((24 : Int32) &&& 31)) ||| ((B4 &&& (255 : Int32)) <<< ((16 : Int32) &&& 31))))]))
  rw [show ((3 : Int32) + (2 : Int32)) = (5 : Int32) from by decide]
  show Go _ _ _ _ _ _ _ (s₁.setTop (mkF m 27 #[.val (.ref a), .val (.int (3 : Int32))] [(.int (5 : Int32)), (.ref a), (.int (((B3 &&& (255 : Int32)) <<< ((24 : Int32) &&& 31)) ||| ((B4 &&& (255 : Int32)) <<< ((16 : Int32) &&& 31))))]))
  obtain ⟨cl_q103, Ar_q103, q1_q103, S_q103, N_q103, H_q103, G_q103⟩ := id V0_a
  have hin_q103 : ¬ ((5 : Int32) < 0 ∨ cl_q103.slots.size ≤ ((5 : Int32)).toNatClampNeg) := inb_of S_q103 ⟨by decide, by decide⟩
  have hat_q103 : cl_q103.slots[((5 : Int32)).toNatClampNeg]? = some (.int B5) := Has.at H_q103 hin_q103 rfl
  refine Go.by (X0.baloadBytes hx (j := (5 : Int32)) (v := (.int B5)) (by rw [e0]; exact Ar_q103.1) (State.isArrayOf_alike hZ.alike Ar_q103.2.1) Ar_q103.2.2 hin_q103 hat_q103 (g := (mkF m 27 #[.val (.ref a), .val (.int (3 : Int32))] [(.int (5 : Int32)), (.ref a), (.int (((B3 &&& (255 : Int32)) <<< ((24 : Int32) &&& 31)) ||| ((B4 &&& (255 : Int32)) <<< ((16 : Int32) &&& 31))))])) rfl rfl (hb hby dU3_27)) ?_
  show Go _ _ _ _ _ _ _ (s₁.setTop (mkF m 28 #[.val (.ref a), .val (.int (3 : Int32))] [(.int B5), (.int (((B3 &&& (255 : Int32)) <<< ((24 : Int32) &&& 31)) ||| ((B4 &&& (255 : Int32)) <<< ((16 : Int32) &&& 31))))]))
  refine Go.by (fun _ kont => XS.sipush X0.here hx rfl (hb hby dU3_28) (XS.iand X0.here hx rfl (hb hby dU3_31) rfl (XS.bipush X0.here hx rfl (hb hby dU3_32) (XS.ishl X0.here hx rfl (hb hby dU3_34) rfl (XS.ior X0.here hx rfl (hb hby dU3_35) rfl (XS.aloadN X0.here hx rfl (hb hby dU3_36) rfl rfl kont)))))) ?_
  show Go _ _ _ _ _ _ _ (s₁.setTop (mkF m 37 #[.val (.ref a), .val (.int (3 : Int32))] [(.ref a), (.int ((((B3 &&& (255 : Int32)) <<< ((24 : Int32) &&& 31)) ||| ((B4 &&& (255 : Int32)) <<< ((16 : Int32) &&& 31))) ||| ((B5 &&& (255 : Int32)) <<< ((8 : Int32) &&& 31))))]))
  refine Go.by (fun _ kont => XS.iloadN X0.here hx rfl (hb hby dU3_37) rfl (XS.iconst X0.here hx rfl (hb hby dU3_38) (XS.iadd X0.here hx rfl (hb hby dU3_39) rfl kont))) ?_
  show Go _ _ _ _ _ _ _ (s₁.setTop (mkF m 40 #[.val (.ref a), .val (.int (3 : Int32))] [(.int ((3 : Int32) + (3 : Int32))), (.ref a), (.int ((((B3 &&& (255 : Int32)) <<< ((24 : Int32) &&& 31)) ||| ((B4 &&& (255 : Int32)) <<< ((16 : Int32) &&& 31))) ||| ((B5 &&& (255 : Int32)) <<< ((8 : Int32) &&& 31))))]))
  rw [show ((3 : Int32) + (3 : Int32)) = (6 : Int32) from by decide]
  show Go _ _ _ _ _ _ _ (s₁.setTop (mkF m 40 #[.val (.ref a), .val (.int (3 : Int32))] [(.int (6 : Int32)), (.ref a), (.int ((((B3 &&& (255 : Int32)) <<< ((24 : Int32) &&& 31)) ||| ((B4 &&& (255 : Int32)) <<< ((16 : Int32) &&& 31))) ||| ((B5 &&& (255 : Int32)) <<< ((8 : Int32) &&& 31))))]))
  obtain ⟨cl_q104, Ar_q104, q1_q104, S_q104, N_q104, H_q104, G_q104⟩ := id V0_a
  have hin_q104 : ¬ ((6 : Int32) < 0 ∨ cl_q104.slots.size ≤ ((6 : Int32)).toNatClampNeg) := inb_of S_q104 ⟨by decide, by decide⟩
  have hat_q104 : cl_q104.slots[((6 : Int32)).toNatClampNeg]? = some (.int B6) := Has.at H_q104 hin_q104 rfl
  refine Go.by (X0.baloadBytes hx (j := (6 : Int32)) (v := (.int B6)) (by rw [e0]; exact Ar_q104.1) (State.isArrayOf_alike hZ.alike Ar_q104.2.1) Ar_q104.2.2 hin_q104 hat_q104 (g := (mkF m 40 #[.val (.ref a), .val (.int (3 : Int32))] [(.int (6 : Int32)), (.ref a), (.int ((((B3 &&& (255 : Int32)) <<< ((24 : Int32) &&& 31)) ||| ((B4 &&& (255 : Int32)) <<< ((16 : Int32) &&& 31))) ||| ((B5 &&& (255 : Int32)) <<< ((8 : Int32) &&& 31))))])) rfl rfl (hb hby dU3_40)) ?_
  show Go _ _ _ _ _ _ _ (s₁.setTop (mkF m 41 #[.val (.ref a), .val (.int (3 : Int32))] [(.int B6), (.int ((((B3 &&& (255 : Int32)) <<< ((24 : Int32) &&& 31)) ||| ((B4 &&& (255 : Int32)) <<< ((16 : Int32) &&& 31))) ||| ((B5 &&& (255 : Int32)) <<< ((8 : Int32) &&& 31))))]))
  refine Go.by (fun _ kont => XS.sipush X0.here hx rfl (hb hby dU3_41) (XS.iand X0.here hx rfl (hb hby dU3_44) rfl (XS.ior X0.here hx rfl (hb hby dU3_45) rfl kont))) ?_
  show Go _ _ _ _ _ _ _ (s₁.setTop (mkF m 46 #[.val (.ref a), .val (.int (3 : Int32))] [(.int (((((B3 &&& (255 : Int32)) <<< ((24 : Int32) &&& 31)) ||| ((B4 &&& (255 : Int32)) <<< ((16 : Int32) &&& 31))) ||| ((B5 &&& (255 : Int32)) <<< ((8 : Int32) &&& 31))) ||| (B6 &&& (255 : Int32))))]))
  refine Go.retI X0 hx hret hlk (hb hby dU3_46) ?_ (by decide) (by decide)
  show QU3 Z a kc_a B0 B1 B2 B3 B4 B5 B6 B7 h0 n0 (some (.int (((((B3 &&& (255 : Int32)) <<< ((24 : Int32) &&& 31)) ||| ((B4 &&& (255 : Int32)) <<< ((16 : Int32) &&& 31))) ||| ((B5 &&& (255 : Int32)) <<< ((8 : Int32) &&& 31))) ||| (B6 &&& (255 : Int32))))) s₁.heap _
  rw [e0]
  exact ⟨rfl, N0, rfl⟩

theorem dU4_0 : decode prog_21_method_15_code 0 = .ok (.aload_n 0, 1) := by decide +kernel
theorem dU4_1 : decode prog_21_method_15_code 1 = .ok (.iload_n 1, 1) := by decide +kernel
theorem dU4_2 : decode prog_21_method_15_code 2 = .ok (.baload, 1) := by decide +kernel
theorem dU4_3 : decode prog_21_method_15_code 3 = .ok (.sipush 255, 3) := by decide +kernel
theorem dU4_6 : decode prog_21_method_15_code 6 = .ok (.iand, 1) := by decide +kernel
theorem dU4_7 : decode prog_21_method_15_code 7 = .ok (.bipush 24, 2) := by decide +kernel
theorem dU4_9 : decode prog_21_method_15_code 9 = .ok (.ishl, 1) := by decide +kernel
theorem dU4_10 : decode prog_21_method_15_code 10 = .ok (.aload_n 0, 1) := by decide +kernel
theorem dU4_11 : decode prog_21_method_15_code 11 = .ok (.iload_n 1, 1) := by decide +kernel
theorem dU4_12 : decode prog_21_method_15_code 12 = .ok (.iconst 1, 1) := by decide +kernel
theorem dU4_13 : decode prog_21_method_15_code 13 = .ok (.iadd, 1) := by decide +kernel
theorem dU4_14 : decode prog_21_method_15_code 14 = .ok (.baload, 1) := by decide +kernel
theorem dU4_15 : decode prog_21_method_15_code 15 = .ok (.sipush 255, 3) := by decide +kernel
theorem dU4_18 : decode prog_21_method_15_code 18 = .ok (.iand, 1) := by decide +kernel
theorem dU4_19 : decode prog_21_method_15_code 19 = .ok (.bipush 16, 2) := by decide +kernel
theorem dU4_21 : decode prog_21_method_15_code 21 = .ok (.ishl, 1) := by decide +kernel
theorem dU4_22 : decode prog_21_method_15_code 22 = .ok (.ior, 1) := by decide +kernel
theorem dU4_23 : decode prog_21_method_15_code 23 = .ok (.aload_n 0, 1) := by decide +kernel
theorem dU4_24 : decode prog_21_method_15_code 24 = .ok (.iload_n 1, 1) := by decide +kernel
theorem dU4_25 : decode prog_21_method_15_code 25 = .ok (.iconst 2, 1) := by decide +kernel
theorem dU4_26 : decode prog_21_method_15_code 26 = .ok (.iadd, 1) := by decide +kernel
theorem dU4_27 : decode prog_21_method_15_code 27 = .ok (.baload, 1) := by decide +kernel
theorem dU4_28 : decode prog_21_method_15_code 28 = .ok (.sipush 255, 3) := by decide +kernel
theorem dU4_31 : decode prog_21_method_15_code 31 = .ok (.iand, 1) := by decide +kernel
theorem dU4_32 : decode prog_21_method_15_code 32 = .ok (.bipush 8, 2) := by decide +kernel
theorem dU4_34 : decode prog_21_method_15_code 34 = .ok (.ishl, 1) := by decide +kernel
theorem dU4_35 : decode prog_21_method_15_code 35 = .ok (.ior, 1) := by decide +kernel
theorem dU4_36 : decode prog_21_method_15_code 36 = .ok (.aload_n 0, 1) := by decide +kernel
theorem dU4_37 : decode prog_21_method_15_code 37 = .ok (.iload_n 1, 1) := by decide +kernel
theorem dU4_38 : decode prog_21_method_15_code 38 = .ok (.iconst 3, 1) := by decide +kernel
theorem dU4_39 : decode prog_21_method_15_code 39 = .ok (.iadd, 1) := by decide +kernel
theorem dU4_40 : decode prog_21_method_15_code 40 = .ok (.baload, 1) := by decide +kernel
theorem dU4_41 : decode prog_21_method_15_code 41 = .ok (.sipush 255, 3) := by decide +kernel
theorem dU4_44 : decode prog_21_method_15_code 44 = .ok (.iand, 1) := by decide +kernel
theorem dU4_45 : decode prog_21_method_15_code 45 = .ok (.ior, 1) := by decide +kernel
theorem dU4_46 : decode prog_21_method_15_code 46 = .ok (.ireturn, 1) := by decide +kernel
theorem pnU4 : plainName "com/example/classwright/classwright/ClassBytes" = true := by first | (simp [plainName, overriddenIn]; done) | decide +kernel
theorem efU4 (m : MethodId) (a : Addr) : entryFrame m #[(.ref a), (.int (4 : Int32))] 2 = mkF m 0 #[.val (.ref a), .val (.int (4 : Int32))] [] := by first | (simp [entryFrame, mkF, argsToLocals, Value.category]; done) | rfl
def QU4 (Z : State) (a : Addr) (kc_a : ClassId) (B0 : Int32) (B1 : Int32) (B2 : Int32) (B3 : Int32) (B4 : Int32) (B5 : Int32) (B6 : Int32) (B7 : Int32) (h0 : Heap) (n0 : Nat) (v : Option Value) (h : Heap) (L : List Loc) : Prop := (v = some (.int (((((B4 &&& (255 : Int32)) <<< ((24 : Int32) &&& 31)) ||| ((B5 &&& (255 : Int32)) <<< ((16 : Int32) &&& 31))) ||| ((B6 &&& (255 : Int32)) <<< ((8 : Int32) &&& 31))) ||| (B7 &&& (255 : Int32)))) ∧ Fr n0 L ∧ h = h0)
set_option maxRecDepth 65536 in
set_option maxHeartbeats 40000000 in
theorem rmU4 (l : Launch) (Z : State) (a0 : Array Value) (hw : ∀ d ∈ tables_1, d.before a0 Z = true) (ws : List Jvm.Cond) (a : Addr) (kc_a : ClassId) (B0 : Int32) (B1 : Int32) (B2 : Int32) (B3 : Int32) (B4 : Int32) (B5 : Int32) (B6 : Int32) (B7 : Int32) (h0 : Heap) (n0 : Nat) (Z0 : n0 ≤ h0.size) (V0_a : Arv Z h0 a kc_a .byte (8 : Int32) [(.int B0), (.int B1), (.int B2), (.int B3), (.int B4), (.int B5), (.int B6), (.int B7)] (.int (0 : Int32))) :
    MetFree l (⟨"com/example/classwright/classwright/ClassBytes", "u4", "([BI)I"⟩ : MethodName) (head1 (Jvm.Cond.code (⟨"com/example/classwright/classwright/ClassBytes", "u4", "([BI)I"⟩ : MethodName) prog_21_method_15_code 2 (some .int) :: ws) ({ frames := 0, cells := 0, slots := 0, locals := 0 } : Room)) (fun aa U => aa = #[(.ref a), (.int (4 : Int32))] ∧ Z.Warmed39 U.vm ∧ U.heap = h0) (fun _ _ _ _ _ => True) (fun _ U o U' => ∃ v L, o = .returned v ∧ QU4 Z a kc_a B0 B1 B2 B3 B4 B5 B6 B7 h0 n0 v U'.heap L ∧ FrameEnd U o U' L ({ frames := 0, cells := 0, slots := 0, locals := 0 } : Room).cells ({ frames := 0, cells := 0, slots := 0, locals := 0 } : Room).slots) := by
  refine MetFree.of_bodySF (plainFor_of_name pnU4) hisR ?_
  intro p e s m args below meth c s₁ Bd hml0 hP hK
  obtain ⟨rfl, hZ, hh⟩ := hP
  have hx := Bd.exec
  have hby := Bd.bytes
  have hml : c.maxLocals = 2 := hml0
  have hown : s.vm.findClass "com/example/classwright/classwright/ClassBytes" = some m.cls := findClass_of_methodNamed Bd.named
  have hnm := (name_of_methodNamed Bd.named Bd.method).1
  have hlk : meth.locks = false := BodyLoose.notSynchronized Bd
  have hret : meth.sig.returnType = (some .int) := Bd.returns
  have X0 : Stand p l e ({ frames := 0, cells := 0, slots := 0, locals := 0 } : Room) s m #[(.ref a), (.int (4 : Int32))] below meth c s₁ [] 0 0 := Stand.of_body Bd
  have e0 : s₁.heap = h0 := by rw [← hh, Bd.state]; rfl
  have N0 := Fr.nil n0
  show Go p e below s ({ frames := 0, cells := 0, slots := 0, locals := 0 } : Room).cells ({ frames := 0, cells := 0, slots := 0, locals := 0 } : Room).slots (QU4 Z a kc_a B0 B1 B2 B3 B4 B5 B6 B7 h0 n0) (s₁.setTop (entryFrame m #[(.ref a), (.int (4 : Int32))] 2))
  rw [efU4]
  refine Go.by (fun _ kont => XS.aloadN X0.here hx rfl (hb hby dU4_0) rfl rfl (XS.iloadN X0.here hx rfl (hb hby dU4_1) rfl kont)) ?_
  show Go _ _ _ _ _ _ _ (s₁.setTop (mkF m 2 #[.val (.ref a), .val (.int (4 : Int32))] [(.int (4 : Int32)), (.ref a)]))
  obtain ⟨cl_q101, Ar_q101, q1_q101, S_q101, N_q101, H_q101, G_q101⟩ := id V0_a
  have hin_q101 : ¬ ((4 : Int32) < 0 ∨ cl_q101.slots.size ≤ ((4 : Int32)).toNatClampNeg) := inb_of S_q101 ⟨by decide, by decide⟩
  have hat_q101 : cl_q101.slots[((4 : Int32)).toNatClampNeg]? = some (.int B4) := Has.at H_q101 hin_q101 rfl
  refine Go.by (X0.baloadBytes hx (j := (4 : Int32)) (v := (.int B4)) (by rw [e0]; exact Ar_q101.1) (State.isArrayOf_alike hZ.alike Ar_q101.2.1) Ar_q101.2.2 hin_q101 hat_q101 (g := (mkF m 2 #[.val (.ref a), .val (.int (4 : Int32))] [(.int (4 : Int32)), (.ref a)])) rfl rfl (hb hby dU4_2)) ?_
  show Go _ _ _ _ _ _ _ (s₁.setTop (mkF m 3 #[.val (.ref a), .val (.int (4 : Int32))] [(.int B4)]))
  refine Go.by (fun _ kont => XS.sipush X0.here hx rfl (hb hby dU4_3) (XS.iand X0.here hx rfl (hb hby dU4_6) rfl (XS.bipush X0.here hx rfl (hb hby dU4_7) (XS.ishl X0.here hx rfl (hb hby dU4_9) rfl (XS.aloadN X0.here hx rfl (hb hby dU4_10) rfl rfl (XS.iloadN X0.here hx rfl (hb hby dU4_11) rfl kont)))))) ?_
  show Go _ _ _ _ _ _ _ (s₁.setTop (mkF m 12 #[.val (.ref a), .val (.int (4 : Int32))] [(.int (4 : Int32)), (.ref a), (.int ((B4 &&& (255 : Int32)) <<< ((24 : Int32) &&& 31)))]))
  refine Go.by (fun _ kont => XS.iconst X0.here hx rfl (hb hby dU4_12) (XS.iadd X0.here hx rfl (hb hby dU4_13) rfl kont)) ?_
  show Go _ _ _ _ _ _ _ (s₁.setTop (mkF m 14 #[.val (.ref a), .val (.int (4 : Int32))] [(.int ((4 : Int32) + (1 : Int32))), (.ref a), (.int ((B4 &&& (255 : Int32)) <<< ((24 : Int32) &&& 31)))]))
  rw [show ((4 : Int32) + (1 : Int32)) = (5 : Int32) from by decide]
  show Go _ _ _ _ _ _ _ (s₁.setTop (mkF m 14 #[.val (.ref a), .val (.int (4 : Int32))] [(.int (5 : Int32)), (.ref a), (.int ((B4 &&& (255 : Int32)) <<< ((24 : Int32) &&& 31)))]))
  obtain ⟨cl_q102, Ar_q102, q1_q102, S_q102, N_q102, H_q102, G_q102⟩ := id V0_a
  have hin_q102 : ¬ ((5 : Int32) < 0 ∨ cl_q102.slots.size ≤ ((5 : Int32)).toNatClampNeg) := inb_of S_q102 ⟨by decide, by decide⟩
  have hat_q102 : cl_q102.slots[((5 : Int32)).toNatClampNeg]? = some (.int B5) := Has.at H_q102 hin_q102 rfl
  refine Go.by (X0.baloadBytes hx (j := (5 : Int32)) (v := (.int B5)) (by rw [e0]; exact Ar_q102.1) (State.isArrayOf_alike hZ.alike Ar_q102.2.1) Ar_q102.2.2 hin_q102 hat_q102 (g := (mkF m 14 #[.val (.ref a), .val (.int (4 : Int32))] [(.int (5 : Int32)), (.ref a), (.int ((B4 &&& (255 : Int32)) <<< ((24 : Int32) &&& 31)))])) rfl rfl (hb hby dU4_14)) ?_
  show Go _ _ _ _ _ _ _ (s₁.setTop (mkF m 15 #[.val (.ref a), .val (.int (4 : Int32))] [(.int B5), (.int ((B4 &&& (255 : Int32)) <<< ((24 : Int32) &&& 31)))]))
  refine Go.by (fun _ kont => XS.sipush X0.here hx rfl (hb hby dU4_15) (XS.iand X0.here hx rfl (hb hby dU4_18) rfl (XS.bipush X0.here hx rfl (hb hby dU4_19) (XS.ishl X0.here hx rfl (hb hby dU4_21) rfl (XS.ior X0.here hx rfl (hb hby dU4_22) rfl (XS.aloadN X0.here hx rfl (hb hby dU4_23) rfl rfl kont)))))) ?_
  show Go _ _ _ _ _ _ _ (s₁.setTop (mkF m 24 #[.val (.ref a), .val (.int (4 : Int32))] [(.ref a), (.int (((B4 &&& (255 : Int32)) <<< ((24 : Int32) &&& 31)) ||| ((B5 &&& (255 : Int32)) <<< ((16 : Int32) &&& 31))))]))
  refine Go.by (fun _ kont => XS.iloadN X0.here hx rfl (hb hby dU4_24) rfl (XS.iconst X0.here hx rfl (hb hby dU4_25) (XS.iadd X0.here hx rfl (hb hby dU4_26) rfl kont))) ?_
  show Go _ _ _ _ _ _ _ (s₁.setTop (mkF m 27 #[.val (.ref a), .val (.int (4 : Int32))] [(.int ((4 : Int32) + (2 : Int32))), (.ref a), (.int (((B4 &&& (255 : Int32)) <<< ((24 : Int32) &&& 31)) ||| ((B5 &&& (255 : Int32)) <<< ((16 : Int32) &&& 31))))]))
  rw [show ((4 : Int32) + (2 : Int32)) = (6 : Int32) from by decide]
  show Go _ _ _ _ _ _ _ (s₁.setTop (mkF m 27 #[.val (.ref a), .val (.int (4 : Int32))] [(.int (6 : Int32)), (.ref a), (.int (((B4 &&& (255 : Int32)) <<< ((24 : Int32) &&& 31)) ||| ((B5 &&& (255 : Int32)) <<< ((16 : Int32) &&& 31))))]))
  obtain ⟨cl_q103, Ar_q103, q1_q103, S_q103, N_q103, H_q103, G_q103⟩ := id V0_a
  have hin_q103 : ¬ ((6 : Int32) < 0 ∨ cl_q103.slots.size ≤ ((6 : Int32)).toNatClampNeg) := inb_of S_q103 ⟨by decide, by decide⟩
  have hat_q103 : cl_q103.slots[((6 : Int32)).toNatClampNeg]? = some (.int B6) := Has.at H_q103 hin_q103 rfl
  refine Go.by (X0.baloadBytes hx (j := (6 : Int32)) (v := (.int B6)) (by rw [e0]; exact Ar_q103.1) (State.isArrayOf_alike hZ.alike Ar_q103.2.1) Ar_q103.2.2 hin_q103 hat_q103 (g := (mkF m 27 #[.val (.ref a), .val (.int (4 : Int32))] [(.int (6 : Int32)), (.ref a), (.int (((B4 &&& (255 : Int32)) <<< ((24 : Int32) &&& 31)) ||| ((B5 &&& (255 : Int32)) <<< ((16 : Int32) &&& 31))))])) rfl rfl (hb hby dU4_27)) ?_
  show Go _ _ _ _ _ _ _ (s₁.setTop (mkF m 28 #[.val (.ref a), .val (.int (4 : Int32))] [(.int B6), (.int (((B4 &&& (255 : Int32)) <<< ((24 : Int32) &&& 31)) ||| ((B5 &&& (255 : Int32)) <<< ((16 : Int32) &&& 31))))]))
  refine Go.by (fun _ kont => XS.sipush X0.here hx rfl (hb hby dU4_28) (XS.iand X0.here hx rfl (hb hby dU4_31) rfl (XS.bipush X0.here hx rfl (hb hby dU4_32) (XS.ishl X0.here hx rfl (hb hby dU4_34) rfl (XS.ior X0.here hx rfl (hb hby dU4_35) rfl (XS.aloadN X0.here hx rfl (hb hby dU4_36) rfl rfl kont)))))) ?_
  show Go _ _ _ _ _ _ _ (s₁.setTop (mkF m 37 #[.val (.ref a), .val (.int (4 : Int32))] [(.ref a), (.int ((((B4 &&& (255 : Int32)) <<< ((24 : Int32) &&& 31)) ||| ((B5 &&& (255 : Int32)) <<< ((16 : Int32) &&& 31))) ||| ((B6 &&& (255 : Int32)) <<< ((8 : Int32) &&& 31))))]))
  refine Go.by (fun _ kont => XS.iloadN X0.here hx rfl (hb hby dU4_37) rfl (XS.iconst X0.here hx rfl (hb hby dU4_38) (XS.iadd X0.here hx rfl (hb hby dU4_39) rfl kont))) ?_
  show Go _ _ _ _ _ _ _ (s₁.setTop (mkF m 40 #[.val (.ref a), .val (.int (4 : Int32))] [(.int ((4 : Int32) + (3 : Int32))), (.ref a), (.int ((((B4 &&& (255 : Int32)) <<< ((24 : Int32) &&& 31)) ||| ((B5 &&& (255 : Int32)) <<< ((16 : Int32) &&& 31))) ||| ((B6 &&& (255 : Int32)) <<< ((8 : Int32) &&& 31))))]))
  rw [show ((4 : Int32) + (3 : Int32)) = (7 : Int32) from by decide]
  show Go _ _ _ _ _ _ _ (s₁.setTop (mkF m 40 #[.val (.ref a), .val (.int (4 : Int32))] [(.int (7 : Int32)), (.ref a), (.int ((((B4 &&& (255 : Int32)) <<< ((24 : Int32) &&& 31)) ||| ((B5 &&& (255 : Int32)) <<< ((16 : Int32) &&& 31))) ||| ((B6 &&& (255 : Int32)) <<< ((8 : Int32) &&& 31))))]))
  obtain ⟨cl_q104, Ar_q104, q1_q104, S_q104, N_q104, H_q104, G_q104⟩ := id V0_a
  have hin_q104 : ¬ ((7 : Int32) < 0 ∨ cl_q104.slots.size ≤ ((7 : Int32)).toNatClampNeg) := inb_of S_q104 ⟨by decide, by decide⟩
  have hat_q104 : cl_q104.slots[((7 : Int32)).toNatClampNeg]? = some (.int B7) := Has.at H_q104 hin_q104 rfl
  refine Go.by (X0.baloadBytes hx (j := (7 : Int32)) (v := (.int B7)) (by rw [e0]; exact Ar_q104.1) (State.isArrayOf_alike hZ.alike Ar_q104.2.1) Ar_q104.2.2 hin_q104 hat_q104 (g := (mkF m 40 #[.val (.ref a), .val (.int (4 : Int32))] [(.int (7 : Int32)), (.ref a), (.int ((((B4 &&& (255 : Int32)) <<< ((24 : Int32) &&& 31)) ||| ((B5 &&& (255 : Int32)) <<< ((16 : Int32) &&& 31))) ||| ((B6 &&& (255 : Int32)) <<< ((8 : Int32) &&& 31))))])) rfl rfl (hb hby dU4_40)) ?_
  show Go _ _ _ _ _ _ _ (s₁.setTop (mkF m 41 #[.val (.ref a), .val (.int (4 : Int32))] [(.int B7), (.int ((((B4 &&& (255 : Int32)) <<< ((24 : Int32) &&& 31)) ||| ((B5 &&& (255 : Int32)) <<< ((16 : Int32) &&& 31))) ||| ((B6 &&& (255 : Int32)) <<< ((8 : Int32) &&& 31))))]))
  refine Go.by (fun _ kont => XS.sipush X0.here hx rfl (hb hby dU4_41) (XS.iand X0.here hx rfl (hb hby dU4_44) rfl (XS.ior X0.here hx rfl (hb hby dU4_45) rfl kont))) ?_
  show Go _ _ _ _ _ _ _ (s₁.setTop (mkF m 46 #[.val (.ref a), .val (.int (4 : Int32))] [(.int (((((B4 &&& (255 : Int32)) <<< ((24 : Int32) &&& 31)) ||| ((B5 &&& (255 : Int32)) <<< ((16 : Int32) &&& 31))) ||| ((B6 &&& (255 : Int32)) <<< ((8 : Int32) &&& 31))) ||| (B7 &&& (255 : Int32))))]))
  refine Go.retI X0 hx hret hlk (hb hby dU4_46) ?_ (by decide) (by decide)
  show QU4 Z a kc_a B0 B1 B2 B3 B4 B5 B6 B7 h0 n0 (some (.int (((((B4 &&& (255 : Int32)) <<< ((24 : Int32) &&& 31)) ||| ((B5 &&& (255 : Int32)) <<< ((16 : Int32) &&& 31))) ||| ((B6 &&& (255 : Int32)) <<< ((8 : Int32) &&& 31))) ||| (B7 &&& (255 : Int32))))) s₁.heap _
  rw [e0]
  exact ⟨rfl, N0, rfl⟩

theorem pd0_0 : parseMethodDescriptor "([BI)I" = some ⟨[(.array .byte), .int], some .int⟩ := by decide +kernel
theorem pn0 : plainName "com/example/classwright/classwright/ClassBytesU4PinLaw" = true := by first | (simp [plainName, overriddenIn]; done) | decide +kernel
theorem ef0 (m : MethodId) (x0 : Int32) (ps : Int32) (jk : Int64) : entryFrame m #[(.int x0), (.int ps), (.long jk)] maxLocals = mkF m 0 #[.val (.int x0), .val (.int ps), .val (.long jk), .second, .unset, .unset] [] := by first | (simp [entryFrame, mkF, argsToLocals, Value.category, maxLocals]; done) | rfl
def Q0 (Z : State) (h0 : Heap) (n0 : Nat) (v : Option Value) (h : Heap) (L : List Loc) : Prop := v = some (.int 1) ∧ Fr n0 L
set_option maxRecDepth 65536 in
set_option maxHeartbeats 40000000 in
theorem rm0 (l : Launch) (Z : State) (a0 : Array Value) (hw : ∀ d ∈ tables_1, d.before a0 Z = true) (ws : List Jvm.Cond) (x0 : Int32) (ps : Int32) (jk : Int64) (h0 : Heap) (n0 : Nat) (Z0 : n0 ≤ h0.size) :
    MetFree l x (head1 (Jvm.Cond.code x code maxLocals ret :: ws) room_1) (fun aa U => aa = #[(.int x0), (.int ps), (.long jk)] ∧ Z.Warmed39 U.vm ∧ U.heap = h0) (fun _ _ _ _ _ => True) (fun _ U o U' => ∃ v L, o = .returned v ∧ Q0 Z h0 n0 v U'.heap L ∧ FrameEnd U o U' L 16 128) := by
  refine MetFree.of_bodySF (plainFor_of_name pn0) hisR ?_
  intro p e s m args below meth c s₁ Bd hml0 hP hK
  obtain ⟨rfl, hZ, hh⟩ := hP
  have hx := Bd.exec
  have hby := Bd.bytes
  have hml : c.maxLocals = 6 := hml0
  have hown : s.vm.findClass "com/example/classwright/classwright/ClassBytesU4PinLaw" = some m.cls := findClass_of_methodNamed Bd.named
  have hnm := (name_of_methodNamed Bd.named Bd.method).1
  have hlk : meth.locks = false := BodyLoose.notSynchronized Bd
  have hret : meth.sig.returnType = (some .boolean) := Bd.returns
  have X0 : Stand p l e room_1 s m #[(.int x0), (.int ps), (.long jk)] below meth c s₁ [] 0 0 := Stand.of_body Bd
  have e0 : s₁.heap = h0 := by rw [← hh, Bd.state]; rfl
  have N0 := Fr.nil n0
  show Go p e below s 16 128 (Q0 Z h0 n0) (s₁.setTop (entryFrame m #[(.int x0), (.int ps), (.long jk)] maxLocals))
  rw [ef0]
  refine Go.by (fun _ kont => XS.iloadN X0.here hx rfl (hb hby at_0) rfl (X0.ldcInt hx hown (mvT hZ (hw _ (List.mem_of_getElem? (i := 0) rfl))) (g := (mkF m 1 #[.val (.int x0), .val (.int ps), .val (.long jk), .second, .unset, .unset] [(.int ps)])) rfl (hb hby at_1) _ (XS.iand X0.here hx rfl (hb hby at_3) rfl (XS.iconst X0.here hx rfl (hb hby at_4) (iremM X0 hx rfl (hb hby at_5) rfl (by decide) (XS.istore X0.here hx rfl (hb hby at_6) rfl (l' := #[.val (.int x0), .val (.int ps), .val (.long jk), .second, .val (.int ((ps &&& (2147483647 : Int32)) % (5 : Int32))), .unset]) rfl kont)))))) ?_
  show Go _ _ _ _ _ _ _ (s₁.setTop (mkF m 8 #[.val (.int x0), .val (.int ps), .val (.long jk), .second, .val (.int ((ps &&& (2147483647 : Int32)) % (5 : Int32))), .unset] []))
  refine Go.by (fun _ kont => XS.bipush X0.here hx rfl (hb hby at_8) kont) ?_
  show Go _ _ _ _ _ _ _ (s₁.setTop (mkF m 10 #[.val (.int x0), .val (.int ps), .val (.long jk), .second, .val (.int ((ps &&& (2147483647 : Int32)) % (5 : Int32))), .unset] [(.int (8 : Int32))]))
  obtain ⟨T101, h101, k101, X101, e101, X_101, A101, st101⟩ := newP X0 hx hZ (hw _ (List.mem_of_getElem? (i := 1) rfl)) e0 (g := (mkF m 10 #[.val (.int x0), .val (.int ps), .val (.long jk), .second, .val (.int ((ps &&& (2147483647 : Int32)) % (5 : Int32))), .unset] [(.int (8 : Int32))])) rfl (hb hby at_10) rfl (by decide) (cap := 8) (by decide) (by decide) (by decide) (by decide)
  obtain ⟨b101, g101⟩ : ∃ z, z = h0.size := ⟨_, rfl⟩
  rw [← g101] at A101 st101
  have ge_b101 : n0 ≤ b101 := Nat.le_trans Z0 (Nat.le_of_eq g101.symm)
  have sz_b101 : h0.size ≤ b101 := Nat.le_trans (Keep.refl h0 []).1 (Nat.le_of_eq g101.symm)
  have Z102 := Nat.le_trans Z0 X_101.1
  have K102 : Keep h0 h101 [] := (Keep.refl h0 []).ext X_101
  have V101 : Arv Z h101 b101 k101 .byte (8 : Int32) [(.int (0 : Int32)), (.int (0 : Int32)), (.int (0 : Int32)), (.int (0 : Int32)), (.int (0 : Int32)), (.int (0 : Int32)), (.int (0 : Int32)), (.int (0 : Int32))] (.int (0 : Int32)) := (Arv.new A101 (by decide)).pad (pad_rep [] (.int (0 : Int32)) 8)
  refine Go.by st101 ?_
  show Go _ _ _ _ _ _ _ (T101.setTop (mkF m 12 #[.val (.int x0), .val (.int ps), .val (.long jk), .second, .val (.int ((ps &&& (2147483647 : Int32)) % (5 : Int32))), .unset] [(.ref b101)]))
  refine Go.by (fun _ kont => XS.astore X101.here hx rfl (hb hby at_12) rfl rfl (l' := #[.val (.int x0), .val (.int ps), .val (.long jk), .second, .val (.int ((ps &&& (2147483647 : Int32)) % (5 : Int32))), .val (.ref b101)]) rfl (XS.aload X101.here hx rfl (hb hby at_14) rfl rfl (XS.iconst X101.here hx rfl (hb hby at_16) (XS.lloadN X101.here hx rfl (hb hby at_17) rfl (XS.l2i X101.here hx rfl (hb hby at_18) rfl (XS.i2b X101.here hx rfl (hb hby at_19) rfl kont)))))) ?_
  show Go _ _ _ _ _ _ _ (T101.setTop (mkF m 20 #[.val (.int x0), .val (.int ps), .val (.long jk), .second, .val (.int ((ps &&& (2147483647 : Int32)) % (5 : Int32))), .val (.ref b101)] [(.int ((jk.toInt32).toInt8.toInt32)), (.int (0 : Int32)), (.ref b101)]))
  obtain ⟨cl_q103, Ar_q103, q1_q103, S_q103, N_q103, H_q103, G_q103⟩ := id V101
  have hin_q103 : ¬ ((0 : Int32) < 0 ∨ cl_q103.slots.size ≤ ((0 : Int32)).toNatClampNeg) := inb_of S_q103 ⟨by decide, by decide⟩
  obtain ⟨T104, h104, X104, e104, W104, st104⟩ := stB X101 hx hZ e101 Ar_q103 (j := (0 : Int32)) hin_q103 (g := (mkF m 20 #[.val (.int x0), .val (.int ps), .val (.long jk), .second, .val (.int ((ps &&& (2147483647 : Int32)) % (5 : Int32))), .val (.ref b101)] [(.int ((jk.toInt32).toInt8.toInt32)), (.int (0 : Int32)), (.ref b101)])) rfl rfl (hb hby at_20)
  have V104 : Arv Z h104 b101 k101 .byte (8 : Int32) [(.int (nar .byte ((jk.toInt32).toInt8.toInt32))), (.int (0 : Int32)), (.int (0 : Int32)), (.int (0 : Int32)), (.int (0 : Int32)), (.int (0 : Int32)), (.int (0 : Int32)), (.int (0 : Int32))] (.int (0 : Int32)) := Arv.set Ar_q103 q1_q103 S_q103 N_q103 H_q103 G_q103 (fits_nar_byte _) W104 0 rfl (Nat.le_of_ble_eq_true rfl)
  have Z105 := Nat.le_trans Z102 (Keep.of_wr W104).1
  have K105 : Keep h0 h104 [] := K102.wr W104 (Or.inr sz_b101)
  have N104 := Fr.snoc X104 N0 ge_b101
  refine Go.by st104 ?_
  show Go _ _ _ _ _ _ _ (T104.setTop (mkF m 21 #[.val (.int x0), .val (.int ps), .val (.long jk), .second, .val (.int ((ps &&& (2147483647 : Int32)) % (5 : Int32))), .val (.ref b101)] []))
  refine Go.by (fun _ kont => XS.aload X104.here hx rfl (hb hby at_21) rfl rfl (XS.iconst X104.here hx rfl (hb hby at_23) (XS.lloadN X104.here hx rfl (hb hby at_24) rfl (XS.bipush X104.here hx rfl (hb hby at_25) (XS.lushr X104.here hx rfl (hb hby at_27) rfl (XS.l2i X104.here hx rfl (hb hby at_28) rfl kont)))))) ?_
  show Go _ _ _ _ _ _ _ (T104.setTop (mkF m 29 #[.val (.int x0), .val (.int ps), .val (.long jk), .second, .val (.int ((ps &&& (2147483647 : Int32)) % (5 : Int32))), .val (.ref b101)] [(.int (((jk.toUInt64 >>> ((8 : Int32) &&& 0x3f).toInt64.toUInt64).toInt64).toInt32)), (.int (1 : Int32)), (.ref b101)]))
  refine Go.by (fun _ kont => XS.i2b X104.here hx rfl (hb hby at_29) rfl kont) ?_
  show Go _ _ _ _ _ _ _ (T104.setTop (mkF m 30 #[.val (.int x0), .val (.int ps), .val (.long jk), .second, .val (.int ((ps &&& (2147483647 : Int32)) % (5 : Int32))), .val (.ref b101)] [(.int ((((jk.toUInt64 >>> ((8 : Int32) &&& 0x3f).toInt64.toUInt64).toInt64).toInt32).toInt8.toInt32)), (.int (1 : Int32)), (.ref b101)]))
  obtain ⟨cl_q106, Ar_q106, q1_q106, S_q106, N_q106, H_q106, G_q106⟩ := id V104
  have hin_q106 : ¬ ((1 : Int32) < 0 ∨ cl_q106.slots.size ≤ ((1 : Int32)).toNatClampNeg) := inb_of S_q106 ⟨by decide, by decide⟩
  obtain ⟨T107, h107, X107, e107, W107, st107⟩ := stB X104 hx hZ e104 Ar_q106 (j := (1 : Int32)) hin_q106 (g := (mkF m 30 #[.val (.int x0), .val (.int ps), .val (.long jk), .second, .val (.int ((ps &&& (2147483647 : Int32)) % (5 : Int32))), .val (.ref b101)] [(.int ((((jk.toUInt64 >>> ((8 : Int32) &&& 0x3f).toInt64.toUInt64).toInt64).toInt32).toInt8.toInt32)), (.int (1 : Int32)), (.ref b101)])) rfl rfl (hb hby at_30)
  have V107 : Arv Z h107 b101 k101 .byte (8 : Int32) [(.int (nar .byte ((jk.toInt32).toInt8.toInt32))), (.int (nar .byte ((((jk.toUInt64 >>> ((8 : Int32) &&& 0x3f).toInt64.toUInt64).toInt64).toInt32).toInt8.toInt32))), (.int (0 : Int32)), (.int (0 : Int32)), (.int (0 : Int32)), (.int (0 : Int32)), (.int (0 : Int32)), (.int (0 : Int32))] (.int (0 : Int32)) := Arv.set Ar_q106 q1_q106 S_q106 N_q106 H_q106 G_q106 (fits_nar_byte _) W107 1 rfl (Nat.le_of_ble_eq_true rfl)
  have Z108 := Nat.le_trans Z105 (Keep.of_wr W107).1
  have K108 : Keep h0 h107 [] := K105.wr W107 (Or.inr sz_b101)
  have N107 := Fr.snoc X107 N104 ge_b101
  refine Go.by st107 ?_
  show Go _ _ _ _ _ _ _ (T107.setTop (mkF m 31 #[.val (.int x0), .val (.int ps), .val (.long jk), .second, .val (.int ((ps &&& (2147483647 : Int32)) % (5 : Int32))), .val (.ref b101)] []))
  refine Go.by (fun _ kont => XS.aload X107.here hx rfl (hb hby at_31) rfl rfl (XS.iconst X107.here hx rfl (hb hby at_33) (XS.lloadN X107.here hx rfl (hb hby at_34) rfl (XS.bipush X107.here hx rfl (hb hby at_35) (XS.lushr X107.here hx rfl (hb hby at_37) rfl (XS.l2i X107.here hx rfl (hb hby at_38) rfl kont)))))) ?_
  show Go _ _ _ _ _ _ _ (T107.setTop (mkF m 39 #[.val (.int x0), .val (.int ps), .val (.long jk), .second, .val (.int ((ps &&& (2147483647 : Int32)) % (5 : Int32))), .val (.ref b101)] [(.int (((jk.toUInt64 >>> ((16 : Int32) &&& 0x3f).toInt64.toUInt64).toInt64).toInt32)), (.int (2 : Int32)), (.ref b101)]))
  refine Go.by (fun _ kont => XS.i2b X107.here hx rfl (hb hby at_39) rfl kont) ?_
  show Go _ _ _ _ _ _ _ (T107.setTop (mkF m 40 #[.val (.int x0), .val (.int ps), .val (.long jk), .second, .val (.int ((ps &&& (2147483647 : Int32)) % (5 : Int32))), .val (.ref b101)] [(.int ((((jk.toUInt64 >>> ((16 : Int32) &&& 0x3f).toInt64.toUInt64).toInt64).toInt32).toInt8.toInt32)), (.int (2 : Int32)), (.ref b101)]))
  obtain ⟨cl_q109, Ar_q109, q1_q109, S_q109, N_q109, H_q109, G_q109⟩ := id V107
  have hin_q109 : ¬ ((2 : Int32) < 0 ∨ cl_q109.slots.size ≤ ((2 : Int32)).toNatClampNeg) := inb_of S_q109 ⟨by decide, by decide⟩
  obtain ⟨T110, h110, X110, e110, W110, st110⟩ := stB X107 hx hZ e107 Ar_q109 (j := (2 : Int32)) hin_q109 (g := (mkF m 40 #[.val (.int x0), .val (.int ps), .val (.long jk), .second, .val (.int ((ps &&& (2147483647 : Int32)) % (5 : Int32))), .val (.ref b101)] [(.int ((((jk.toUInt64 >>> ((16 : Int32) &&& 0x3f).toInt64.toUInt64).toInt64).toInt32).toInt8.toInt32)), (.int (2 : Int32)), (.ref b101)])) rfl rfl (hb hby at_40)
  have V110 : Arv Z h110 b101 k101 .byte (8 : Int32) [(.int (nar .byte ((jk.toInt32).toInt8.toInt32))), (.int (nar .byte ((((jk.toUInt64 >>> ((8 : Int32) &&& 0x3f).toInt64.toUInt64).toInt64).toInt32).toInt8.toInt32))), (.int (nar .byte ((((jk.toUInt64 >>> ((16 : Int32) &&& 0x3f).toInt64.toUInt64).toInt64).toInt32).toInt8.toInt32))), (.int (0 : Int32)), (.int (0 : Int32)), (.int (0 : Int32)), (.int (0 : Int32)), (.int (0 : Int32))] (.int (0 : Int32)) := Arv.set Ar_q109 q1_q109 S_q109 N_q109 H_q109 G_q109 (fits_nar_byte _) W110 2 rfl (Nat.le_of_ble_eq_true rfl)
  have Z111 := Nat.le_trans Z108 (Keep.of_wr W110).1
  have K111 : Keep h0 h110 [] := K108.wr W110 (Or.inr sz_b101)
  have N110 := Fr.snoc X110 N107 ge_b101
  refine Go.by st110 ?_
  show Go _ _ _ _ _ _ _ (T110.setTop (mkF m 41 #[.val (.int x0), .val (.int ps), .val (.long jk), .second, .val (.int ((ps &&& (2147483647 : Int32)) % (5 : Int32))), .val (.ref b101)] []))
  refine Go.by (fun _ kont => XS.aload X110.here hx rfl (hb hby at_41) rfl rfl (XS.iconst X110.here hx rfl (hb hby at_43) (XS.lloadN X110.here hx rfl (hb hby at_44) rfl (XS.bipush X110.here hx rfl (hb hby at_45) (XS.lushr X110.here hx rfl (hb hby at_47) rfl (XS.l2i X110.here hx rfl (hb hby at_48) rfl kont)))))) ?_
  show Go _ _ _ _ _ _ _ (T110.setTop (mkF m 49 #[.val (.int x0), .val (.int ps), .val (.long jk), .second, .val (.int ((ps &&& (2147483647 : Int32)) % (5 : Int32))), .val (.ref b101)] [(.int (((jk.toUInt64 >>> ((24 : Int32) &&& 0x3f).toInt64.toUInt64).toInt64).toInt32)), (.int (3 : Int32)), (.ref b101)]))
  refine Go.by (fun _ kont => XS.i2b X110.here hx rfl (hb hby at_49) rfl kont) ?_
  show Go _ _ _ _ _ _ _ (T110.setTop (mkF m 50 #[.val (.int x0), .val (.int ps), .val (.long jk), .second, .val (.int ((ps &&& (2147483647 : Int32)) % (5 : Int32))), .val (.ref b101)] [(.int ((((jk.toUInt64 >>> ((24 : Int32) &&& 0x3f).toInt64.toUInt64).toInt64).toInt32).toInt8.toInt32)), (.int (3 : Int32)), (.ref b101)]))
  obtain ⟨cl_q112, Ar_q112, q1_q112, S_q112, N_q112, H_q112, G_q112⟩ := id V110
  have hin_q112 : ¬ ((3 : Int32) < 0 ∨ cl_q112.slots.size ≤ ((3 : Int32)).toNatClampNeg) := inb_of S_q112 ⟨by decide, by decide⟩
  obtain ⟨T113, h113, X113, e113, W113, st113⟩ := stB X110 hx hZ e110 Ar_q112 (j := (3 : Int32)) hin_q112 (g := (mkF m 50 #[.val (.int x0), .val (.int ps), .val (.long jk), .second, .val (.int ((ps &&& (2147483647 : Int32)) % (5 : Int32))), .val (.ref b101)] [(.int ((((jk.toUInt64 >>> ((24 : Int32) &&& 0x3f).toInt64.toUInt64).toInt64).toInt32).toInt8.toInt32)), (.int (3 : Int32)), (.ref b101)])) rfl rfl (hb hby at_50)
  have V113 : Arv Z h113 b101 k101 .byte (8 : Int32) [(.int (nar .byte ((jk.toInt32).toInt8.toInt32))), (.int (nar .byte ((((jk.toUInt64 >>> ((8 : Int32) &&& 0x3f).toInt64.toUInt64).toInt64).toInt32).toInt8.toInt32))), (.int (nar .byte ((((jk.toUInt64 >>> ((16 : Int32) &&& 0x3f).toInt64.toUInt64).toInt64).toInt32).toInt8.toInt32))), (.int (nar .byte ((((jk.toUInt64 >>> ((24 : Int32) &&& 0x3f).toInt64.toUInt64).toInt64).toInt32).toInt8.toInt32))), (.int (0 : Int32)), (.int (0 : Int32)), (.int (0 : Int32)), (.int (0 : Int32))] (.int (0 : Int32)) := Arv.set Ar_q112 q1_q112 S_q112 N_q112 H_q112 G_q112 (fits_nar_byte _) W113 3 rfl (Nat.le_of_ble_eq_true rfl)
  have Z114 := Nat.le_trans Z111 (Keep.of_wr W113).1
  have K114 : Keep h0 h113 [] := K111.wr W113 (Or.inr sz_b101)
  have N113 := Fr.snoc X113 N110 ge_b101
  refine Go.by st113 ?_
  show Go _ _ _ _ _ _ _ (T113.setTop (mkF m 51 #[.val (.int x0), .val (.int ps), .val (.long jk), .second, .val (.int ((ps &&& (2147483647 : Int32)) % (5 : Int32))), .val (.ref b101)] []))
  refine Go.by (fun _ kont => XS.aload X113.here hx rfl (hb hby at_51) rfl rfl (XS.iconst X113.here hx rfl (hb hby at_53) (XS.lloadN X113.here hx rfl (hb hby at_54) rfl (XS.bipush X113.here hx rfl (hb hby at_55) (XS.lushr X113.here hx rfl (hb hby at_57) rfl (XS.l2i X113.here hx rfl (hb hby at_58) rfl kont)))))) ?_
  show Go _ _ _ _ _ _ _ (T113.setTop (mkF m 59 #[.val (.int x0), .val (.int ps), .val (.long jk), .second, .val (.int ((ps &&& (2147483647 : Int32)) % (5 : Int32))), .val (.ref b101)] [(.int (((jk.toUInt64 >>> ((32 : Int32) &&& 0x3f).toInt64.toUInt64).toInt64).toInt32)), (.int (4 : Int32)), (.ref b101)]))
  refine Go.by (fun _ kont => XS.i2b X113.here hx rfl (hb hby at_59) rfl kont) ?_
  show Go _ _ _ _ _ _ _ (T113.setTop (mkF m 60 #[.val (.int x0), .val (.int ps), .val (.long jk), .second, .val (.int ((ps &&& (2147483647 : Int32)) % (5 : Int32))), .val (.ref b101)] [(.int ((((jk.toUInt64 >>> ((32 : Int32) &&& 0x3f).toInt64.toUInt64).toInt64).toInt32).toInt8.toInt32)), (.int (4 : Int32)), (.ref b101)]))
  obtain ⟨cl_q115, Ar_q115, q1_q115, S_q115, N_q115, H_q115, G_q115⟩ := id V113
  have hin_q115 : ¬ ((4 : Int32) < 0 ∨ cl_q115.slots.size ≤ ((4 : Int32)).toNatClampNeg) := inb_of S_q115 ⟨by decide, by decide⟩
  obtain ⟨T116, h116, X116, e116, W116, st116⟩ := stB X113 hx hZ e113 Ar_q115 (j := (4 : Int32)) hin_q115 (g := (mkF m 60 #[.val (.int x0), .val (.int ps), .val (.long jk), .second, .val (.int ((ps &&& (2147483647 : Int32)) % (5 : Int32))), .val (.ref b101)] [(.int ((((jk.toUInt64 >>> ((32 : Int32) &&& 0x3f).toInt64.toUInt64).toInt64).toInt32).toInt8.toInt32)), (.int (4 : Int32)), (.ref b101)])) rfl rfl (hb hby at_60)
  have V116 : Arv Z h116 b101 k101 .byte (8 : Int32) [(.int (nar .byte ((jk.toInt32).toInt8.toInt32))), (.int (nar .byte ((((jk.toUInt64 >>> ((8 : Int32) &&& 0x3f).toInt64.toUInt64).toInt64).toInt32).toInt8.toInt32))), (.int (nar .byte ((((jk.toUInt64 >>> ((16 : Int32) &&& 0x3f).toInt64.toUInt64).toInt64).toInt32).toInt8.toInt32))), (.int (nar .byte ((((jk.toUInt64 >>> ((24 : Int32) &&& 0x3f).toInt64.toUInt64).toInt64).toInt32).toInt8.toInt32))), (.int (nar .byte ((((jk.toUInt64 >>> ((32 : Int32) &&& 0x3f).toInt64.toUInt64).toInt64).toInt32).toInt8.toInt32))), (.int (0 : Int32)), (.int (0 : Int32)), (.int (0 : Int32))] (.int (0 : Int32)) := Arv.set Ar_q115 q1_q115 S_q115 N_q115 H_q115 G_q115 (fits_nar_byte _) W116 4 rfl (Nat.le_of_ble_eq_true rfl)
  have Z117 := Nat.le_trans Z114 (Keep.of_wr W116).1
  have K117 : Keep h0 h116 [] := K114.wr W116 (Or.inr sz_b101)
  have N116 := Fr.snoc X116 N113 ge_b101
  refine Go.by st116 ?_
  show Go _ _ _ _ _ _ _ (T116.setTop (mkF m 61 #[.val (.int x0), .val (.int ps), .val (.long jk), .second, .val (.int ((ps &&& (2147483647 : Int32)) % (5 : Int32))), .val (.ref b101)] []))
  refine Go.by (fun _ kont => XS.aload X116.here hx rfl (hb hby at_61) rfl rfl (XS.iconst X116.here hx rfl (hb hby at_63) (XS.lloadN X116.here hx rfl (hb hby at_64) rfl (XS.bipush X116.here hx rfl (hb hby at_65) (XS.lushr X116.here hx rfl (hb hby at_67) rfl (XS.l2i X116.here hx rfl (hb hby at_68) rfl kont)))))) ?_
  show Go _ _ _ _ _ _ _ (T116.setTop (mkF m 69 #[.val (.int x0), .val (.int ps), .val (.long jk), .second, .val (.int ((ps &&& (2147483647 : Int32)) % (5 : Int32))), .val (.ref b101)] [(.int (((jk.toUInt64 >>> ((40 : Int32) &&& 0x3f).toInt64.toUInt64).toInt64).toInt32)), (.int (5 : Int32)), (.ref b101)]))
  refine Go.by (fun _ kont => XS.i2b X116.here hx rfl (hb hby at_69) rfl kont) ?_
  show Go _ _ _ _ _ _ _ (T116.setTop (mkF m 70 #[.val (.int x0), .val (.int ps), .val (.long jk), .second, .val (.int ((ps &&& (2147483647 : Int32)) % (5 : Int32))), .val (.ref b101)] [(.int ((((jk.toUInt64 >>> ((40 : Int32) &&& 0x3f).toInt64.toUInt64).toInt64).toInt32).toInt8.toInt32)), (.int (5 : Int32)), (.ref b101)]))
  obtain ⟨cl_q118, Ar_q118, q1_q118, S_q118, N_q118, H_q118, G_q118⟩ := id V116
  have hin_q118 : ¬ ((5 : Int32) < 0 ∨ cl_q118.slots.size ≤ ((5 : Int32)).toNatClampNeg) := inb_of S_q118 ⟨by decide, by decide⟩
  obtain ⟨T119, h119, X119, e119, W119, st119⟩ := stB X116 hx hZ e116 Ar_q118 (j := (5 : Int32)) hin_q118 (g := (mkF m 70 #[.val (.int x0), .val (.int ps), .val (.long jk), .second, .val (.int ((ps &&& (2147483647 : Int32)) % (5 : Int32))), .val (.ref b101)] [(.int ((((jk.toUInt64 >>> ((40 : Int32) &&& 0x3f).toInt64.toUInt64).toInt64).toInt32).toInt8.toInt32)), (.int (5 : Int32)), (.ref b101)])) rfl rfl (hb hby at_70)
  have V119 : Arv Z h119 b101 k101 .byte (8 : Int32) [(.int (nar .byte ((jk.toInt32).toInt8.toInt32))), (.int (nar .byte ((((jk.toUInt64 >>> ((8 : Int32) &&& 0x3f).toInt64.toUInt64).toInt64).toInt32).toInt8.toInt32))), (.int (nar .byte ((((jk.toUInt64 >>> ((16 : Int32) &&& 0x3f).toInt64.toUInt64).toInt64).toInt32).toInt8.toInt32))), (.int (nar .byte ((((jk.toUInt64 >>> ((24 : Int32) &&& 0x3f).toInt64.toUInt64).toInt64).toInt32).toInt8.toInt32))), (.int (nar .byte ((((jk.toUInt64 >>> ((32 : Int32) &&& 0x3f).toInt64.toUInt64).toInt64).toInt32).toInt8.toInt32))), (.int (nar .byte ((((jk.toUInt64 >>> ((40 : Int32) &&& 0x3f).toInt64.toUInt64).toInt64).toInt32).toInt8.toInt32))), (.int (0 : Int32)), (.int (0 : Int32))] (.int (0 : Int32)) := Arv.set Ar_q118 q1_q118 S_q118 N_q118 H_q118 G_q118 (fits_nar_byte _) W119 5 rfl (Nat.le_of_ble_eq_true rfl)
  have Z120 := Nat.le_trans Z117 (Keep.of_wr W119).1
  have K120 : Keep h0 h119 [] := K117.wr W119 (Or.inr sz_b101)
  have N119 := Fr.snoc X119 N116 ge_b101
  refine Go.by st119 ?_
  show Go _ _ _ _ _ _ _ (T119.setTop (mkF m 71 #[.val (.int x0), .val (.int ps), .val (.long jk), .second, .val (.int ((ps &&& (2147483647 : Int32)) % (5 : Int32))), .val (.ref b101)] []))
  refine Go.by (fun _ kont => XS.aload X119.here hx rfl (hb hby at_71) rfl rfl (XS.bipush X119.here hx rfl (hb hby at_73) (XS.lloadN X119.here hx rfl (hb hby at_75) rfl (XS.bipush X119.here hx rfl (hb hby at_76) (XS.lushr X119.here hx rfl (hb hby at_78) rfl (XS.l2i X119.here hx rfl (hb hby at_79) rfl kont)))))) ?_
  show Go _ _ _ _ _ _ _ (T119.setTop (mkF m 80 #[.val (.int x0), .val (.int ps), .val (.long jk), .second, .val (.int ((ps &&& (2147483647 : Int32)) % (5 : Int32))), .val (.ref b101)] [(.int (((jk.toUInt64 >>> ((48 : Int32) &&& 0x3f).toInt64.toUInt64).toInt64).toInt32)), (.int (6 : Int32)), (.ref b101)]))
  refine Go.by (fun _ kont => XS.i2b X119.here hx rfl (hb hby at_80) rfl kont) ?_
  show Go _ _ _ _ _ _ _ (T119.setTop (mkF m 81 #[.val (.int x0), .val (.int ps), .val (.long jk), .second, .val (.int ((ps &&& (2147483647 : Int32)) % (5 : Int32))), .val (.ref b101)] [(.int ((((jk.toUInt64 >>> ((48 : Int32) &&& 0x3f).toInt64.toUInt64).toInt64).toInt32).toInt8.toInt32)), (.int (6 : Int32)), (.ref b101)]))
  obtain ⟨cl_q121, Ar_q121, q1_q121, S_q121, N_q121, H_q121, G_q121⟩ := id V119
  have hin_q121 : ¬ ((6 : Int32) < 0 ∨ cl_q121.slots.size ≤ ((6 : Int32)).toNatClampNeg) := inb_of S_q121 ⟨by decide, by decide⟩
  obtain ⟨T122, h122, X122, e122, W122, st122⟩ := stB X119 hx hZ e119 Ar_q121 (j := (6 : Int32)) hin_q121 (g := (mkF m 81 #[.val (.int x0), .val (.int ps), .val (.long jk), .second, .val (.int ((ps &&& (2147483647 : Int32)) % (5 : Int32))), .val (.ref b101)] [(.int ((((jk.toUInt64 >>> ((48 : Int32) &&& 0x3f).toInt64.toUInt64).toInt64).toInt32).toInt8.toInt32)), (.int (6 : Int32)), (.ref b101)])) rfl rfl (hb hby at_81)
  have V122 : Arv Z h122 b101 k101 .byte (8 : Int32) [(.int (nar .byte ((jk.toInt32).toInt8.toInt32))), (.int (nar .byte ((((jk.toUInt64 >>> ((8 : Int32) &&& 0x3f).toInt64.toUInt64).toInt64).toInt32).toInt8.toInt32))), (.int (nar .byte ((((jk.toUInt64 >>> ((16 : Int32) &&& 0x3f).toInt64.toUInt64).toInt64).toInt32).toInt8.toInt32))), (.int (nar .byte ((((jk.toUInt64 >>> ((24 : Int32) &&& 0x3f).toInt64.toUInt64).toInt64).toInt32).toInt8.toInt32))), (.int (nar .byte ((((jk.toUInt64 >>> ((32 : Int32) &&& 0x3f).toInt64.toUInt64).toInt64).toInt32).toInt8.toInt32))), (.int (nar .byte ((((jk.toUInt64 >>> ((40 : Int32) &&& 0x3f).toInt64.toUInt64).toInt64).toInt32).toInt8.toInt32))), (.int (nar .byte ((((jk.toUInt64 >>> ((48 : Int32) &&& 0x3f).toInt64.toUInt64).toInt64).toInt32).toInt8.toInt32))), (.int (0 : Int32))] (.int (0 : Int32)) := Arv.set Ar_q121 q1_q121 S_q121 N_q121 H_q121 G_q121 (fits_nar_byte _) W122 6 rfl (Nat.le_of_ble_eq_true rfl)
  have Z123 := Nat.le_trans Z120 (Keep.of_wr W122).1
  have K123 : Keep h0 h122 [] := K120.wr W122 (Or.inr sz_b101)
  have N122 := Fr.snoc X122 N119 ge_b101
  refine Go.by st122 ?_
  show Go _ _ _ _ _ _ _ (T122.setTop (mkF m 82 #[.val (.int x0), .val (.int ps), .val (.long jk), .second, .val (.int ((ps &&& (2147483647 : Int32)) % (5 : Int32))), .val (.ref b101)] []))
  refine Go.by (fun _ kont => XS.aload X122.here hx rfl (hb hby at_82) rfl rfl (XS.bipush X122.here hx rfl (hb hby at_84) (XS.lloadN X122.here hx rfl (hb hby at_86) rfl (XS.bipush X122.here hx rfl (hb hby at_87) (XS.lushr X122.here hx rfl (hb hby at_89) rfl (XS.l2i X122.here hx rfl (hb hby at_90) rfl kont)))))) ?_
  show Go _ _ _ _ _ _ _ (T122.setTop (mkF m 91 #[.val (.int x0), .val (.int ps), .val (.long jk), .second, .val (.int ((ps &&& (2147483647 : Int32)) % (5 : Int32))), .val (.ref b101)] [(.int (((jk.toUInt64 >>> ((56 : Int32) &&& 0x3f).toInt64.toUInt64).toInt64).toInt32)), (.int (7 : Int32)), (.ref b101)]))
  refine Go.by (fun _ kont => XS.i2b X122.here hx rfl (hb hby at_91) rfl kont) ?_
  show Go _ _ _ _ _ _ _ (T122.setTop (mkF m 92 #[.val (.int x0), .val (.int ps), .val (.long jk), .second, .val (.int ((ps &&& (2147483647 : Int32)) % (5 : Int32))), .val (.ref b101)] [(.int ((((jk.toUInt64 >>> ((56 : Int32) &&& 0x3f).toInt64.toUInt64).toInt64).toInt32).toInt8.toInt32)), (.int (7 : Int32)), (.ref b101)]))
  obtain ⟨cl_q124, Ar_q124, q1_q124, S_q124, N_q124, H_q124, G_q124⟩ := id V122
  have hin_q124 : ¬ ((7 : Int32) < 0 ∨ cl_q124.slots.size ≤ ((7 : Int32)).toNatClampNeg) := inb_of S_q124 ⟨by decide, by decide⟩
  obtain ⟨T125, h125, X125, e125, W125, st125⟩ := stB X122 hx hZ e122 Ar_q124 (j := (7 : Int32)) hin_q124 (g := (mkF m 92 #[.val (.int x0), .val (.int ps), .val (.long jk), .second, .val (.int ((ps &&& (2147483647 : Int32)) % (5 : Int32))), .val (.ref b101)] [(.int ((((jk.toUInt64 >>> ((56 : Int32) &&& 0x3f).toInt64.toUInt64).toInt64).toInt32).toInt8.toInt32)), (.int (7 : Int32)), (.ref b101)])) rfl rfl (hb hby at_92)
  have V125 : Arv Z h125 b101 k101 .byte (8 : Int32) [(.int (nar .byte ((jk.toInt32).toInt8.toInt32))), (.int (nar .byte ((((jk.toUInt64 >>> ((8 : Int32) &&& 0x3f).toInt64.toUInt64).toInt64).toInt32).toInt8.toInt32))), (.int (nar .byte ((((jk.toUInt64 >>> ((16 : Int32) &&& 0x3f).toInt64.toUInt64).toInt64).toInt32).toInt8.toInt32))), (.int (nar .byte ((((jk.toUInt64 >>> ((24 : Int32) &&& 0x3f).toInt64.toUInt64).toInt64).toInt32).toInt8.toInt32))), (.int (nar .byte ((((jk.toUInt64 >>> ((32 : Int32) &&& 0x3f).toInt64.toUInt64).toInt64).toInt32).toInt8.toInt32))), (.int (nar .byte ((((jk.toUInt64 >>> ((40 : Int32) &&& 0x3f).toInt64.toUInt64).toInt64).toInt32).toInt8.toInt32))), (.int (nar .byte ((((jk.toUInt64 >>> ((48 : Int32) &&& 0x3f).toInt64.toUInt64).toInt64).toInt32).toInt8.toInt32))), (.int (nar .byte ((((jk.toUInt64 >>> ((56 : Int32) &&& 0x3f).toInt64.toUInt64).toInt64).toInt32).toInt8.toInt32)))] (.int (0 : Int32)) := Arv.set Ar_q124 q1_q124 S_q124 N_q124 H_q124 G_q124 (fits_nar_byte _) W125 7 rfl (Nat.le_of_ble_eq_true rfl)
  have Z126 := Nat.le_trans Z123 (Keep.of_wr W125).1
  have K126 : Keep h0 h125 [] := K123.wr W125 (Or.inr sz_b101)
  have N125 := Fr.snoc X125 N122 ge_b101
  refine Go.by st125 ?_
  show Go _ _ _ _ _ _ _ (T125.setTop (mkF m 93 #[.val (.int x0), .val (.int ps), .val (.long jk), .second, .val (.int ((ps &&& (2147483647 : Int32)) % (5 : Int32))), .val (.ref b101)] []))
  have C_aa := own_m5 ps
  generalize hg_aa : ((ps &&& (2147483647 : Int32)) % (5 : Int32)) = aa at C_aa ⊢
  rcases C_aa with rfl | rfl | rfl | rfl | rfl
  · show Go _ _ _ _ _ _ _ (T125.setTop (mkF m 93 #[.val (.int x0), .val (.int ps), .val (.long jk), .second, .val (.int (0 : Int32)), .val (.ref b101)] []))
    refine Go.by (fun _ kont => XS.aload X125.here hx rfl (hb hby at_93) rfl rfl (XS.iload X125.here hx rfl (hb hby at_95) rfl (XS.iloadN X125.here hx rfl (hb hby at_97) rfl (XS.bipush X125.here hx rfl (hb hby at_98) (XS.iushr X125.here hx rfl (hb hby at_100) rfl (XS.i2b X125.here hx rfl (hb hby at_101) rfl kont)))))) ?_
    show Go _ _ _ _ _ _ _ (T125.setTop (mkF m 102 #[.val (.int x0), .val (.int ps), .val (.long jk), .second, .val (.int (0 : Int32)), .val (.ref b101)] [(.int (((x0.toUInt32 >>> ((24 : Int32) &&& 31).toUInt32).toInt32).toInt8.toInt32)), (.int (0 : Int32)), (.ref b101)]))
    obtain ⟨cl_q127, Ar_q127, q1_q127, S_q127, N_q127, H_q127, G_q127⟩ := id V125
    have hin_q127 : ¬ ((0 : Int32) < 0 ∨ cl_q127.slots.size ≤ ((0 : Int32)).toNatClampNeg) := inb_of S_q127 ⟨by decide, by decide⟩
    obtain ⟨T128, h128, X128, e128, W128, st128⟩ := stB X125 hx hZ e125 Ar_q127 (j := (0 : Int32)) hin_q127 (g := (mkF m 102 #[.val (.int x0), .val (.int ps), .val (.long jk), .second, .val (.int (0 : Int32)), .val (.ref b101)] [(.int (((x0.toUInt32 >>> ((24 : Int32) &&& 31).toUInt32).toInt32).toInt8.toInt32)), (.int (0 : Int32)), (.ref b101)])) rfl rfl (hb hby at_102)
    have V128 : Arv Z h128 b101 k101 .byte (8 : Int32) [(.int (nar .byte (((x0.toUInt32 >>> ((24 : Int32) &&& 31).toUInt32).toInt32).toInt8.toInt32))), (.int (nar .byte ((((jk.toUInt64 >>> ((8 : Int32) &&& 0x3f).toInt64.toUInt64).toInt64).toInt32).toInt8.toInt32))), (.int (nar .byte ((((jk.toUInt64 >>> ((16 : Int32) &&& 0x3f).toInt64.toUInt64).toInt64).toInt32).toInt8.toInt32))), (.int (nar .byte ((((jk.toUInt64 >>> ((24 : Int32) &&& 0x3f).toInt64.toUInt64).toInt64).toInt32).toInt8.toInt32))), (.int (nar .byte ((((jk.toUInt64 >>> ((32 : Int32) &&& 0x3f).toInt64.toUInt64).toInt64).toInt32).toInt8.toInt32))), (.int (nar .byte ((((jk.toUInt64 >>> ((40 : Int32) &&& 0x3f).toInt64.toUInt64).toInt64).toInt32).toInt8.toInt32))), (.int (nar .byte ((((jk.toUInt64 >>> ((48 : Int32) &&& 0x3f).toInt64.toUInt64).toInt64).toInt32).toInt8.toInt32))), (.int (nar .byte ((((jk.toUInt64 >>> ((56 : Int32) &&& 0x3f).toInt64.toUInt64).toInt64).toInt32).toInt8.toInt32)))] (.int (0 : Int32)) := Arv.set Ar_q127 q1_q127 S_q127 N_q127 H_q127 G_q127 (fits_nar_byte _) W128 0 rfl (Nat.le_of_ble_eq_true rfl)
    have Z129 := Nat.le_trans Z126 (Keep.of_wr W128).1
    have K129 : Keep h0 h128 [] := K126.wr W128 (Or.inr sz_b101)
    have N128 := Fr.snoc X128 N125 ge_b101
    refine Go.by st128 ?_
    show Go _ _ _ _ _ _ _ (T128.setTop (mkF m 103 #[.val (.int x0), .val (.int ps), .val (.long jk), .second, .val (.int (0 : Int32)), .val (.ref b101)] []))
    refine Go.by (fun _ kont => XS.aload X128.here hx rfl (hb hby at_103) rfl rfl (XS.iload X128.here hx rfl (hb hby at_105) rfl (XS.iconst X128.here hx rfl (hb hby at_107) (XS.iadd X128.here hx rfl (hb hby at_108) rfl kont)))) ?_
    show Go _ _ _ _ _ _ _ (T128.setTop (mkF m 109 #[.val (.int x0), .val (.int ps), .val (.long jk), .second, .val (.int (0 : Int32)), .val (.ref b101)] [(.int ((0 : Int32) + (1 : Int32))), (.ref b101)]))
    rw [show ((0 : Int32) + (1 : Int32)) = (1 : Int32) from by decide]
    show Go _ _ _ _ _ _ _ (T128.setTop (mkF m 109 #[.val (.int x0), .val (.int ps), .val (.long jk), .second, .val (.int (0 : Int32)), .val (.ref b101)] [(.int (1 : Int32)), (.ref b101)]))
    refine Go.by (fun _ kont => XS.iloadN X128.here hx rfl (hb hby at_109) rfl (XS.bipush X128.here hx rfl (hb hby at_110) (XS.iushr X128.here hx rfl (hb hby at_112) rfl (XS.i2b X128.here hx rfl (hb hby at_113) rfl kont)))) ?_
    show Go _ _ _ _ _ _ _ (T128.setTop (mkF m 114 #[.val (.int x0), .val (.int ps), .val (.long jk), .second, .val (.int (0 : Int32)), .val (.ref b101)] [(.int (((x0.toUInt32 >>> ((16 : Int32) &&& 31).toUInt32).toInt32).toInt8.toInt32)), (.int (1 : Int32)), (.ref b101)]))
    obtain ⟨cl_q130, Ar_q130, q1_q130, S_q130, N_q130, H_q130, G_q130⟩ := id V128
    have hin_q130 : ¬ ((1 : Int32) < 0 ∨ cl_q130.slots.size ≤ ((1 : Int32)).toNatClampNeg) := inb_of S_q130 ⟨by decide, by decide⟩
    obtain ⟨T131, h131, X131, e131, W131, st131⟩ := stB X128 hx hZ e128 Ar_q130 (j := (1 : Int32)) hin_q130 (g := (mkF m 114 #[.val (.int x0), .val (.int ps), .val (.long jk), .second, .val (.int (0 : Int32)), .val (.ref b101)] [(.int (((x0.toUInt32 >>> ((16 : Int32) &&& 31).toUInt32).toInt32).toInt8.toInt32)), (.int (1 : Int32)), (.ref b101)])) rfl rfl (hb hby at_114)
    have V131 : Arv Z h131 b101 k101 .byte (8 : Int32) [(.int (nar .byte (((x0.toUInt32 >>> ((24 : Int32) &&& 31).toUInt32).toInt32).toInt8.toInt32))), (.int (nar .byte (((x0.toUInt32 >>> ((16 : Int32) &&& 31).toUInt32).toInt32).toInt8.toInt32))), (.int (nar .byte ((((jk.toUInt64 >>> ((16 : Int32) &&& 0x3f).toInt64.toUInt64).toInt64).toInt32).toInt8.toInt32))), (.int (nar .byte ((((jk.toUInt64 >>> ((24 : Int32) &&& 0x3f).toInt64.toUInt64).toInt64).toInt32).toInt8.toInt32))), (.int (nar .byte ((((jk.toUInt64 >>> ((32 : Int32) &&& 0x3f).toInt64.toUInt64).toInt64).toInt32).toInt8.toInt32))), (.int (nar .byte ((((jk.toUInt64 >>> ((40 : Int32) &&& 0x3f).toInt64.toUInt64).toInt64).toInt32).toInt8.toInt32))), (.int (nar .byte ((((jk.toUInt64 >>> ((48 : Int32) &&& 0x3f).toInt64.toUInt64).toInt64).toInt32).toInt8.toInt32))), (.int (nar .byte ((((jk.toUInt64 >>> ((56 : Int32) &&& 0x3f).toInt64.toUInt64).toInt64).toInt32).toInt8.toInt32)))] (.int (0 : Int32)) := Arv.set Ar_q130 q1_q130 S_q130 N_q130 H_q130 G_q130 (fits_nar_byte _) W131 1 rfl (Nat.le_of_ble_eq_true rfl)
    have Z132 := Nat.le_trans Z129 (Keep.of_wr W131).1
    have K132 : Keep h0 h131 [] := K129.wr W131 (Or.inr sz_b101)
    have N131 := Fr.snoc X131 N128 ge_b101
    refine Go.by st131 ?_
    show Go _ _ _ _ _ _ _ (T131.setTop (mkF m 115 #[.val (.int x0), .val (.int ps), .val (.long jk), .second, .val (.int (0 : Int32)), .val (.ref b101)] []))
    refine Go.by (fun _ kont => XS.aload X131.here hx rfl (hb hby at_115) rfl rfl (XS.iload X131.here hx rfl (hb hby at_117) rfl (XS.iconst X131.here hx rfl (hb hby at_119) (XS.iadd X131.here hx rfl (hb hby at_120) rfl kont)))) ?_
    show Go _ _ _ _ _ _ _ (T131.setTop (mkF m 121 #[.val (.int x0), .val (.int ps), .val (.long jk), .second, .val (.int (0 : Int32)), .val (.ref b101)] [(.int ((0 : Int32) + (2 : Int32))), (.ref b101)]))
    rw [show ((0 : Int32) + (2 : Int32)) = (2 : Int32) from by decide]
    show Go _ _ _ _ _ _ _ (T131.setTop (mkF m 121 #[.val (.int x0), .val (.int ps), .val (.long jk), .second, .val (.int (0 : Int32)), .val (.ref b101)] [(.int (2 : Int32)), (.ref b101)]))
    refine Go.by (fun _ kont => XS.iloadN X131.here hx rfl (hb hby at_121) rfl (XS.bipush X131.here hx rfl (hb hby at_122) (XS.iushr X131.here hx rfl (hb hby at_124) rfl (XS.i2b X131.here hx rfl (hb hby at_125) rfl kont)))) ?_
    show Go _ _ _ _ _ _ _ (T131.setTop (mkF m 126 #[.val (.int x0), .val (.int ps), .val (.long jk), .second, .val (.int (0 : Int32)), .val (.ref b101)] [(.int (((x0.toUInt32 >>> ((8 : Int32) &&& 31).toUInt32).toInt32).toInt8.toInt32)), (.int (2 : Int32)), (.ref b101)]))
    obtain ⟨cl_q133, Ar_q133, q1_q133, S_q133, N_q133, H_q133, G_q133⟩ := id V131
    have hin_q133 : ¬ ((2 : Int32) < 0 ∨ cl_q133.slots.size ≤ ((2 : Int32)).toNatClampNeg) := inb_of S_q133 ⟨by decide, by decide⟩
    obtain ⟨T134, h134, X134, e134, W134, st134⟩ := stB X131 hx hZ e131 Ar_q133 (j := (2 : Int32)) hin_q133 (g := (mkF m 126 #[.val (.int x0), .val (.int ps), .val (.long jk), .second, .val (.int (0 : Int32)), .val (.ref b101)] [(.int (((x0.toUInt32 >>> ((8 : Int32) &&& 31).toUInt32).toInt32).toInt8.toInt32)), (.int (2 : Int32)), (.ref b101)])) rfl rfl (hb hby at_126)
    have V134 : Arv Z h134 b101 k101 .byte (8 : Int32) [(.int (nar .byte (((x0.toUInt32 >>> ((24 : Int32) &&& 31).toUInt32).toInt32).toInt8.toInt32))), (.int (nar .byte (((x0.toUInt32 >>> ((16 : Int32) &&& 31).toUInt32).toInt32).toInt8.toInt32))), (.int (nar .byte (((x0.toUInt32 >>> ((8 : Int32) &&& 31).toUInt32).toInt32).toInt8.toInt32))), (.int (nar .byte ((((jk.toUInt64 >>> ((24 : Int32) &&& 0x3f).toInt64.toUInt64).toInt64).toInt32).toInt8.toInt32))), (.int (nar .byte ((((jk.toUInt64 >>> ((32 : Int32) &&& 0x3f).toInt64.toUInt64).toInt64).toInt32).toInt8.toInt32))), (.int (nar .byte ((((jk.toUInt64 >>> ((40 : Int32) &&& 0x3f).toInt64.toUInt64).toInt64).toInt32).toInt8.toInt32))), (.int (nar .byte ((((jk.toUInt64 >>> ((48 : Int32) &&& 0x3f).toInt64.toUInt64).toInt64).toInt32).toInt8.toInt32))), (.int (nar .byte ((((jk.toUInt64 >>> ((56 : Int32) &&& 0x3f).toInt64.toUInt64).toInt64).toInt32).toInt8.toInt32)))] (.int (0 : Int32)) := Arv.set Ar_q133 q1_q133 S_q133 N_q133 H_q133 G_q133 (fits_nar_byte _) W134 2 rfl (Nat.le_of_ble_eq_true rfl)
    have Z135 := Nat.le_trans Z132 (Keep.of_wr W134).1
    have K135 : Keep h0 h134 [] := K132.wr W134 (Or.inr sz_b101)
    have N134 := Fr.snoc X134 N131 ge_b101
    refine Go.by st134 ?_
    show Go _ _ _ _ _ _ _ (T134.setTop (mkF m 127 #[.val (.int x0), .val (.int ps), .val (.long jk), .second, .val (.int (0 : Int32)), .val (.ref b101)] []))
    refine Go.by (fun _ kont => XS.aload X134.here hx rfl (hb hby at_127) rfl rfl (XS.iload X134.here hx rfl (hb hby at_129) rfl (XS.iconst X134.here hx rfl (hb hby at_131) (XS.iadd X134.here hx rfl (hb hby at_132) rfl kont)))) ?_
    show Go _ _ _ _ _ _ _ (T134.setTop (mkF m 133 #[.val (.int x0), .val (.int ps), .val (.long jk), .second, .val (.int (0 : Int32)), .val (.ref b101)] [(.int ((0 : Int32) + (3 : Int32))), (.ref b101)]))
    rw [show ((0 : Int32) + (3 : Int32)) = (3 : Int32) from by decide]
    show Go _ _ _ _ _ _ _ (T134.setTop (mkF m 133 #[.val (.int x0), .val (.int ps), .val (.long jk), .second, .val (.int (0 : Int32)), .val (.ref b101)] [(.int (3 : Int32)), (.ref b101)]))
    refine Go.by (fun _ kont => XS.iloadN X134.here hx rfl (hb hby at_133) rfl (XS.i2b X134.here hx rfl (hb hby at_134) rfl kont)) ?_
    show Go _ _ _ _ _ _ _ (T134.setTop (mkF m 135 #[.val (.int x0), .val (.int ps), .val (.long jk), .second, .val (.int (0 : Int32)), .val (.ref b101)] [(.int (x0.toInt8.toInt32)), (.int (3 : Int32)), (.ref b101)]))
    obtain ⟨cl_q136, Ar_q136, q1_q136, S_q136, N_q136, H_q136, G_q136⟩ := id V134
    have hin_q136 : ¬ ((3 : Int32) < 0 ∨ cl_q136.slots.size ≤ ((3 : Int32)).toNatClampNeg) := inb_of S_q136 ⟨by decide, by decide⟩
    obtain ⟨T137, h137, X137, e137, W137, st137⟩ := stB X134 hx hZ e134 Ar_q136 (j := (3 : Int32)) hin_q136 (g := (mkF m 135 #[.val (.int x0), .val (.int ps), .val (.long jk), .second, .val (.int (0 : Int32)), .val (.ref b101)] [(.int (x0.toInt8.toInt32)), (.int (3 : Int32)), (.ref b101)])) rfl rfl (hb hby at_135)
    have V137 : Arv Z h137 b101 k101 .byte (8 : Int32) [(.int (nar .byte (((x0.toUInt32 >>> ((24 : Int32) &&& 31).toUInt32).toInt32).toInt8.toInt32))), (.int (nar .byte (((x0.toUInt32 >>> ((16 : Int32) &&& 31).toUInt32).toInt32).toInt8.toInt32))), (.int (nar .byte (((x0.toUInt32 >>> ((8 : Int32) &&& 31).toUInt32).toInt32).toInt8.toInt32))), (.int (nar .byte (x0.toInt8.toInt32))), (.int (nar .byte ((((jk.toUInt64 >>> ((32 : Int32) &&& 0x3f).toInt64.toUInt64).toInt64).toInt32).toInt8.toInt32))), (.int (nar .byte ((((jk.toUInt64 >>> ((40 : Int32) &&& 0x3f).toInt64.toUInt64).toInt64).toInt32).toInt8.toInt32))), (.int (nar .byte ((((jk.toUInt64 >>> ((48 : Int32) &&& 0x3f).toInt64.toUInt64).toInt64).toInt32).toInt8.toInt32))), (.int (nar .byte ((((jk.toUInt64 >>> ((56 : Int32) &&& 0x3f).toInt64.toUInt64).toInt64).toInt32).toInt8.toInt32)))] (.int (0 : Int32)) := Arv.set Ar_q136 q1_q136 S_q136 N_q136 H_q136 G_q136 (fits_nar_byte _) W137 3 rfl (Nat.le_of_ble_eq_true rfl)
    have Z138 := Nat.le_trans Z135 (Keep.of_wr W137).1
    have K138 : Keep h0 h137 [] := K135.wr W137 (Or.inr sz_b101)
    have N137 := Fr.snoc X137 N134 ge_b101
    refine Go.by st137 ?_
    show Go _ _ _ _ _ _ _ (T137.setTop (mkF m 136 #[.val (.int x0), .val (.int ps), .val (.long jk), .second, .val (.int (0 : Int32)), .val (.ref b101)] []))
    refine Go.by (fun _ kont => XS.aload X137.here hx rfl (hb hby at_136) rfl rfl (XS.iload X137.here hx rfl (hb hby at_138) rfl kont)) ?_
    show Go _ _ _ _ _ _ _ (T137.setTop (mkF m 140 #[.val (.int x0), .val (.int ps), .val (.long jk), .second, .val (.int (0 : Int32)), .val (.ref b101)] [(.int (0 : Int32)), (.ref b101)]))
    obtain ⟨_, _, ⟨T139, L139, k139, n139⟩, -, X139, ⟨Lc139, hQ139, l139, y139, z139⟩, st139⟩ := Jvm.LawKit.callS X137 hx (y := (⟨"com/example/classwright/classwright/ClassBytes", "u4", "([BI)I"⟩ : MethodName)) hown (mvT hZ (hw _ (List.mem_of_getElem? (i := 2) rfl))) (mvT hZ (hw _ (List.mem_of_getElem? (i := 3) rfl))) (mvT hZ (hw _ (List.mem_of_getElem? (i := 4) rfl))) (mvT hZ (hw _ (List.mem_of_getElem? (i := 5) rfl))) (by decide) (backOf (W := 0) (rmU0 l Z a0 hw [] b101 k101 (nar .byte (((x0.toUInt32 >>> ((24 : Int32) &&& 31).toUInt32).toInt32).toInt8.toInt32)) (nar .byte (((x0.toUInt32 >>> ((16 : Int32) &&& 31).toUInt32).toInt32).toInt8.toInt32)) (nar .byte (((x0.toUInt32 >>> ((8 : Int32) &&& 31).toUInt32).toInt32).toInt8.toInt32)) (nar .byte (x0.toInt8.toInt32)) (nar .byte ((((jk.toUInt64 >>> ((32 : Int32) &&& 0x3f).toInt64.toUInt64).toInt64).toInt32).toInt8.toInt32)) (nar .byte ((((jk.toUInt64 >>> ((40 : Int32) &&& 0x3f).toInt64.toUInt64).toInt64).toInt32).toInt8.toInt32)) (nar .byte ((((jk.toUInt64 >>> ((48 : Int32) &&& 0x3f).toInt64.toUInt64).toInt64).toInt32).toInt8.toInt32)) (nar .byte ((((jk.toUInt64 >>> ((56 : Int32) &&& 0x3f).toInt64.toUInt64).toInt64).toInt32).toInt8.toInt32)) h137 n0 Z138 V137) hZ (hw _ (List.mem_of_getElem? (i := 5) rfl)) (hw _ (List.mem_of_getElem? (i := 4) rfl)) (by decide) (by decide)) (g := (mkF m 140 #[.val (.int x0), .val (.int ps), .val (.long jk), .second, .val (.int (0 : Int32)), .val (.ref b101)] [(.int (0 : Int32)), (.ref b101)])) rfl (by rw [hml]; rfl) (argsL := [(.ref b101), (.int (0 : Int32))]) (rest := []) (lenOf pd0_0 rfl) rfl (by show 2 * 0 + _ ≤ _; exact Nat.le_of_eq rfl) (hb hby at_140) (fun _ _ => ⟨rfl, e137, (by decide : 1 + 0 ≤ _), (by decide : 8 + 0 ≤ _)⟩)
    dsimp only [Pt.U, Pt.locs, Pt.cells, Pt.slots] at X139 l139 y139 z139 st139 hQ139
    subst l139 y139 z139
    obtain ⟨rfl, N139q, eh139⟩ := hQ139
    have N139 := Fr.app N137 N139q
    refine Go.by st139 ?_
    show Go _ _ _ _ _ _ _ (T139.setTop (mkF m 143 #[.val (.int x0), .val (.int ps), .val (.long jk), .second, .val (.int (0 : Int32)), .val (.ref b101)] [(.int ((((((nar .byte (((x0.toUInt32 >>> ((24 : Int32) &&& 31).toUInt32).toInt32).toInt8.toInt32)) &&& (255 : Int32)) <<< ((24 : Int32) &&& 31)) ||| (((nar .byte (((x0.toUInt32 >>> ((16 : Int32) &&& 31).toUInt32).toInt32).toInt8.toInt32)) &&& (255 : Int32)) <<< ((16 : Int32) &&& 31))) ||| (((nar .byte (((x0.toUInt32 >>> ((8 : Int32) &&& 31).toUInt32).toInt32).toInt8.toInt32)) &&& (255 : Int32)) <<< ((8 : Int32) &&& 31))) ||| ((nar .byte (x0.toInt8.toInt32)) &&& (255 : Int32))))]))
    refine Go.by (fun _ kont => XS.iloadN X139.here hx rfl (hb hby at_143) rfl kont) ?_
    show Go _ _ _ _ _ _ _ (T139.setTop (mkF m 144 #[.val (.int x0), .val (.int ps), .val (.long jk), .second, .val (.int (0 : Int32)), .val (.ref b101)] [(.int x0), (.int ((((((nar .byte (((x0.toUInt32 >>> ((24 : Int32) &&& 31).toUInt32).toInt32).toInt8.toInt32)) &&& (255 : Int32)) <<< ((24 : Int32) &&& 31)) ||| (((nar .byte (((x0.toUInt32 >>> ((16 : Int32) &&& 31).toUInt32).toInt32).toInt8.toInt32)) &&& (255 : Int32)) <<< ((16 : Int32) &&& 31))) ||| (((nar .byte (((x0.toUInt32 >>> ((8 : Int32) &&& 31).toUInt32).toInt32).toInt8.toInt32)) &&& (255 : Int32)) <<< ((8 : Int32) &&& 31))) ||| ((nar .byte (x0.toInt8.toInt32)) &&& (255 : Int32))))]))
    have hd140 : ((((((nar .byte (((x0.toUInt32 >>> ((24 : Int32) &&& 31).toUInt32).toInt32).toInt8.toInt32)) &&& (255 : Int32)) <<< ((24 : Int32) &&& 31)) ||| (((nar .byte (((x0.toUInt32 >>> ((16 : Int32) &&& 31).toUInt32).toInt32).toInt8.toInt32)) &&& (255 : Int32)) <<< ((16 : Int32) &&& 31))) ||| (((nar .byte (((x0.toUInt32 >>> ((8 : Int32) &&& 31).toUInt32).toInt32).toInt8.toInt32)) &&& (255 : Int32)) <<< ((8 : Int32) &&& 31))) ||| ((nar .byte (x0.toInt8.toInt32)) &&& (255 : Int32))) = x0 := own_asm _ _ _ _ x0 (by rw [own_by, c_iushr x0 24 24 (by decide) (by decide)]) (by rw [own_by, c_iushr x0 16 16 (by decide) (by decide)]) (by rw [own_by, c_iushr x0 8 8 (by decide) (by decide)]) (by rw [own_by])
    refine Go.by (fun _ kont => XS.icmpNo X139.here hx rfl (hb hby at_144) rfl (teq hd140).2 kont) ?_
    show Go _ _ _ _ _ _ _ (T139.setTop (mkF m 147 #[.val (.int x0), .val (.int ps), .val (.long jk), .second, .val (.int (0 : Int32)), .val (.ref b101)] []))
    refine Go.by (fun _ kont => XS.iconst X139.here hx rfl (hb hby at_147) (XS.goto X139.here hx rfl (pc0 := 148) (pc' := 152) rfl (hb hby at_148) (by decide) (by decide) kont)) ?_
    show Go _ _ _ _ _ _ _ (T139.setTop (mkF m 152 #[.val (.int x0), .val (.int ps), .val (.long jk), .second, .val (.int (0 : Int32)), .val (.ref b101)] [(.int (1 : Int32))]))
    refine Go.retN X139 hx (t := .boolean) hret (by simp) hlk (hb hby at_152) ?_ (by decide) (by decide)
    show Q0 Z h0 n0 (some (.int (1 : Int32))) T139.heap _
    rw [eh139]
    exact ⟨rfl, N139⟩
  · show Go _ _ _ _ _ _ _ (T125.setTop (mkF m 93 #[.val (.int x0), .val (.int ps), .val (.long jk), .second, .val (.int (1 : Int32)), .val (.ref b101)] []))
    refine Go.by (fun _ kont => XS.aload X125.here hx rfl (hb hby at_93) rfl rfl (XS.iload X125.here hx rfl (hb hby at_95) rfl (XS.iloadN X125.here hx rfl (hb hby at_97) rfl (XS.bipush X125.here hx rfl (hb hby at_98) (XS.iushr X125.here hx rfl (hb hby at_100) rfl (XS.i2b X125.here hx rfl (hb hby at_101) rfl kont)))))) ?_
    show Go _ _ _ _ _ _ _ (T125.setTop (mkF m 102 #[.val (.int x0), .val (.int ps), .val (.long jk), .second, .val (.int (1 : Int32)), .val (.ref b101)] [(.int (((x0.toUInt32 >>> ((24 : Int32) &&& 31).toUInt32).toInt32).toInt8.toInt32)), (.int (1 : Int32)), (.ref b101)]))
    obtain ⟨cl_q141, Ar_q141, q1_q141, S_q141, N_q141, H_q141, G_q141⟩ := id V125
    have hin_q141 : ¬ ((1 : Int32) < 0 ∨ cl_q141.slots.size ≤ ((1 : Int32)).toNatClampNeg) := inb_of S_q141 ⟨by decide, by decide⟩
    obtain ⟨T142, h142, X142, e142, W142, st142⟩ := stB X125 hx hZ e125 Ar_q141 (j := (1 : Int32)) hin_q141 (g := (mkF m 102 #[.val (.int x0), .val (.int ps), .val (.long jk), .second, .val (.int (1 : Int32)), .val (.ref b101)] [(.int (((x0.toUInt32 >>> ((24 : Int32) &&& 31).toUInt32).toInt32).toInt8.toInt32)), (.int (1 : Int32)), (.ref b101)])) rfl rfl (hb hby at_102)
    have V142 : Arv Z h142 b101 k101 .byte (8 : Int32) [(.int (nar .byte ((jk.toInt32).toInt8.toInt32))), (.int (nar .byte (((x0.toUInt32 >>> ((24 : Int32) &&& 31).toUInt32).toInt32).toInt8.toInt32))), (.int (nar .byte ((((jk.toUInt64 >>> ((16 : Int32) &&& 0x3f).toInt64.toUInt64).toInt64).toInt32).toInt8.toInt32))), (.int (nar .byte ((((jk.toUInt64 >>> ((24 : Int32) &&& 0x3f).toInt64.toUInt64).toInt64).toInt32).toInt8.toInt32))), (.int (nar .byte ((((jk.toUInt64 >>> ((32 : Int32) &&& 0x3f).toInt64.toUInt64).toInt64).toInt32).toInt8.toInt32))), (.int (nar .byte ((((jk.toUInt64 >>> ((40 : Int32) &&& 0x3f).toInt64.toUInt64).toInt64).toInt32).toInt8.toInt32))), (.int (nar .byte ((((jk.toUInt64 >>> ((48 : Int32) &&& 0x3f).toInt64.toUInt64).toInt64).toInt32).toInt8.toInt32))), (.int (nar .byte ((((jk.toUInt64 >>> ((56 : Int32) &&& 0x3f).toInt64.toUInt64).toInt64).toInt32).toInt8.toInt32)))] (.int (0 : Int32)) := Arv.set Ar_q141 q1_q141 S_q141 N_q141 H_q141 G_q141 (fits_nar_byte _) W142 1 rfl (Nat.le_of_ble_eq_true rfl)
    have Z143 := Nat.le_trans Z126 (Keep.of_wr W142).1
    have K143 : Keep h0 h142 [] := K126.wr W142 (Or.inr sz_b101)
    have N142 := Fr.snoc X142 N125 ge_b101
    refine Go.by st142 ?_
    show Go _ _ _ _ _ _ _ (T142.setTop (mkF m 103 #[.val (.int x0), .val (.int ps), .val (.long jk), .second, .val (.int (1 : Int32)), .val (.ref b101)] []))
    refine Go.by (fun _ kont => XS.aload X142.here hx rfl (hb hby at_103) rfl rfl (XS.iload X142.here hx rfl (hb hby at_105) rfl (XS.iconst X142.here hx rfl (hb hby at_107) (XS.iadd X142.here hx rfl (hb hby at_108) rfl kont)))) ?_
    show Go _ _ _ _ _ _ _ (T142.setTop (mkF m 109 #[.val (.int x0), .val (.int ps), .val (.long jk), .second, .val (.int (1 : Int32)), .val (.ref b101)] [(.int ((1 : Int32) + (1 : Int32))), (.ref b101)]))
    rw [show ((1 : Int32) + (1 : Int32)) = (2 : Int32) from by decide]
    show Go _ _ _ _ _ _ _ (T142.setTop (mkF m 109 #[.val (.int x0), .val (.int ps), .val (.long jk), .second, .val (.int (1 : Int32)), .val (.ref b101)] [(.int (2 : Int32)), (.ref b101)]))
    refine Go.by (fun _ kont => XS.iloadN X142.here hx rfl (hb hby at_109) rfl (XS.bipush X142.here hx rfl (hb hby at_110) (XS.iushr X142.here hx rfl (hb hby at_112) rfl (XS.i2b X142.here hx rfl (hb hby at_113) rfl kont)))) ?_
    show Go _ _ _ _ _ _ _ (T142.setTop (mkF m 114 #[.val (.int x0), .val (.int ps), .val (.long jk), .second, .val (.int (1 : Int32)), .val (.ref b101)] [(.int (((x0.toUInt32 >>> ((16 : Int32) &&& 31).toUInt32).toInt32).toInt8.toInt32)), (.int (2 : Int32)), (.ref b101)]))
    obtain ⟨cl_q144, Ar_q144, q1_q144, S_q144, N_q144, H_q144, G_q144⟩ := id V142
    have hin_q144 : ¬ ((2 : Int32) < 0 ∨ cl_q144.slots.size ≤ ((2 : Int32)).toNatClampNeg) := inb_of S_q144 ⟨by decide, by decide⟩
    obtain ⟨T145, h145, X145, e145, W145, st145⟩ := stB X142 hx hZ e142 Ar_q144 (j := (2 : Int32)) hin_q144 (g := (mkF m 114 #[.val (.int x0), .val (.int ps), .val (.long jk), .second, .val (.int (1 : Int32)), .val (.ref b101)] [(.int (((x0.toUInt32 >>> ((16 : Int32) &&& 31).toUInt32).toInt32).toInt8.toInt32)), (.int (2 : Int32)), (.ref b101)])) rfl rfl (hb hby at_114)
    have V145 : Arv Z h145 b101 k101 .byte (8 : Int32) [(.int (nar .byte ((jk.toInt32).toInt8.toInt32))), (.int (nar .byte (((x0.toUInt32 >>> ((24 : Int32) &&& 31).toUInt32).toInt32).toInt8.toInt32))), (.int (nar .byte (((x0.toUInt32 >>> ((16 : Int32) &&& 31).toUInt32).toInt32).toInt8.toInt32))), (.int (nar .byte ((((jk.toUInt64 >>> ((24 : Int32) &&& 0x3f).toInt64.toUInt64).toInt64).toInt32).toInt8.toInt32))), (.int (nar .byte ((((jk.toUInt64 >>> ((32 : Int32) &&& 0x3f).toInt64.toUInt64).toInt64).toInt32).toInt8.toInt32))), (.int (nar .byte ((((jk.toUInt64 >>> ((40 : Int32) &&& 0x3f).toInt64.toUInt64).toInt64).toInt32).toInt8.toInt32))), (.int (nar .byte ((((jk.toUInt64 >>> ((48 : Int32) &&& 0x3f).toInt64.toUInt64).toInt64).toInt32).toInt8.toInt32))), (.int (nar .byte ((((jk.toUInt64 >>> ((56 : Int32) &&& 0x3f).toInt64.toUInt64).toInt64).toInt32).toInt8.toInt32)))] (.int (0 : Int32)) := Arv.set Ar_q144 q1_q144 S_q144 N_q144 H_q144 G_q144 (fits_nar_byte _) W145 2 rfl (Nat.le_of_ble_eq_true rfl)
    have Z146 := Nat.le_trans Z143 (Keep.of_wr W145).1
    have K146 : Keep h0 h145 [] := K143.wr W145 (Or.inr sz_b101)
    have N145 := Fr.snoc X145 N142 ge_b101
    refine Go.by st145 ?_
    show Go _ _ _ _ _ _ _ (T145.setTop (mkF m 115 #[.val (.int x0), .val (.int ps), .val (.long jk), .second, .val (.int (1 : Int32)), .val (.ref b101)] []))
    refine Go.by (fun _ kont => XS.aload X145.here hx rfl (hb hby at_115) rfl rfl (XS.iload X145.here hx rfl (hb hby at_117) rfl (XS.iconst X145.here hx rfl (hb hby at_119) (XS.iadd X145.here hx rfl (hb hby at_120) rfl kont)))) ?_
    show Go _ _ _ _ _ _ _ (T145.setTop (mkF m 121 #[.val (.int x0), .val (.int ps), .val (.long jk), .second, .val (.int (1 : Int32)), .val (.ref b101)] [(.int ((1 : Int32) + (2 : Int32))), (.ref b101)]))
    rw [show ((1 : Int32) + (2 : Int32)) = (3 : Int32) from by decide]
    show Go _ _ _ _ _ _ _ (T145.setTop (mkF m 121 #[.val (.int x0), .val (.int ps), .val (.long jk), .second, .val (.int (1 : Int32)), .val (.ref b101)] [(.int (3 : Int32)), (.ref b101)]))
    refine Go.by (fun _ kont => XS.iloadN X145.here hx rfl (hb hby at_121) rfl (XS.bipush X145.here hx rfl (hb hby at_122) (XS.iushr X145.here hx rfl (hb hby at_124) rfl (XS.i2b X145.here hx rfl (hb hby at_125) rfl kont)))) ?_
    show Go _ _ _ _ _ _ _ (T145.setTop (mkF m 126 #[.val (.int x0), .val (.int ps), .val (.long jk), .second, .val (.int (1 : Int32)), .val (.ref b101)] [(.int (((x0.toUInt32 >>> ((8 : Int32) &&& 31).toUInt32).toInt32).toInt8.toInt32)), (.int (3 : Int32)), (.ref b101)]))
    obtain ⟨cl_q147, Ar_q147, q1_q147, S_q147, N_q147, H_q147, G_q147⟩ := id V145
    have hin_q147 : ¬ ((3 : Int32) < 0 ∨ cl_q147.slots.size ≤ ((3 : Int32)).toNatClampNeg) := inb_of S_q147 ⟨by decide, by decide⟩
    obtain ⟨T148, h148, X148, e148, W148, st148⟩ := stB X145 hx hZ e145 Ar_q147 (j := (3 : Int32)) hin_q147 (g := (mkF m 126 #[.val (.int x0), .val (.int ps), .val (.long jk), .second, .val (.int (1 : Int32)), .val (.ref b101)] [(.int (((x0.toUInt32 >>> ((8 : Int32) &&& 31).toUInt32).toInt32).toInt8.toInt32)), (.int (3 : Int32)), (.ref b101)])) rfl rfl (hb hby at_126)
    have V148 : Arv Z h148 b101 k101 .byte (8 : Int32) [(.int (nar .byte ((jk.toInt32).toInt8.toInt32))), (.int (nar .byte (((x0.toUInt32 >>> ((24 : Int32) &&& 31).toUInt32).toInt32).toInt8.toInt32))), (.int (nar .byte (((x0.toUInt32 >>> ((16 : Int32) &&& 31).toUInt32).toInt32).toInt8.toInt32))), (.int (nar .byte (((x0.toUInt32 >>> ((8 : Int32) &&& 31).toUInt32).toInt32).toInt8.toInt32))), (.int (nar .byte ((((jk.toUInt64 >>> ((32 : Int32) &&& 0x3f).toInt64.toUInt64).toInt64).toInt32).toInt8.toInt32))), (.int (nar .byte ((((jk.toUInt64 >>> ((40 : Int32) &&& 0x3f).toInt64.toUInt64).toInt64).toInt32).toInt8.toInt32))), (.int (nar .byte ((((jk.toUInt64 >>> ((48 : Int32) &&& 0x3f).toInt64.toUInt64).toInt64).toInt32).toInt8.toInt32))), (.int (nar .byte ((((jk.toUInt64 >>> ((56 : Int32) &&& 0x3f).toInt64.toUInt64).toInt64).toInt32).toInt8.toInt32)))] (.int (0 : Int32)) := Arv.set Ar_q147 q1_q147 S_q147 N_q147 H_q147 G_q147 (fits_nar_byte _) W148 3 rfl (Nat.le_of_ble_eq_true rfl)
    have Z149 := Nat.le_trans Z146 (Keep.of_wr W148).1
    have K149 : Keep h0 h148 [] := K146.wr W148 (Or.inr sz_b101)
    have N148 := Fr.snoc X148 N145 ge_b101
    refine Go.by st148 ?_
    show Go _ _ _ _ _ _ _ (T148.setTop (mkF m 127 #[.val (.int x0), .val (.int ps), .val (.long jk), .second, .val (.int (1 : Int32)), .val (.ref b101)] []))
    refine Go.by (fun _ kont => XS.aload X148.here hx rfl (hb hby at_127) rfl rfl (XS.iload X148.here hx rfl (hb hby at_129) rfl (XS.iconst X148.here hx rfl (hb hby at_131) (XS.iadd X148.here hx rfl (hb hby at_132) rfl kont)))) ?_
    show Go _ _ _ _ _ _ _ (T148.setTop (mkF m 133 #[.val (.int x0), .val (.int ps), .val (.long jk), .second, .val (.int (1 : Int32)), .val (.ref b101)] [(.int ((1 : Int32) + (3 : Int32))), (.ref b101)]))
    rw [show ((1 : Int32) + (3 : Int32)) = (4 : Int32) from by decide]
    show Go _ _ _ _ _ _ _ (T148.setTop (mkF m 133 #[.val (.int x0), .val (.int ps), .val (.long jk), .second, .val (.int (1 : Int32)), .val (.ref b101)] [(.int (4 : Int32)), (.ref b101)]))
    refine Go.by (fun _ kont => XS.iloadN X148.here hx rfl (hb hby at_133) rfl (XS.i2b X148.here hx rfl (hb hby at_134) rfl kont)) ?_
    show Go _ _ _ _ _ _ _ (T148.setTop (mkF m 135 #[.val (.int x0), .val (.int ps), .val (.long jk), .second, .val (.int (1 : Int32)), .val (.ref b101)] [(.int (x0.toInt8.toInt32)), (.int (4 : Int32)), (.ref b101)]))
    obtain ⟨cl_q150, Ar_q150, q1_q150, S_q150, N_q150, H_q150, G_q150⟩ := id V148
    have hin_q150 : ¬ ((4 : Int32) < 0 ∨ cl_q150.slots.size ≤ ((4 : Int32)).toNatClampNeg) := inb_of S_q150 ⟨by decide, by decide⟩
    obtain ⟨T151, h151, X151, e151, W151, st151⟩ := stB X148 hx hZ e148 Ar_q150 (j := (4 : Int32)) hin_q150 (g := (mkF m 135 #[.val (.int x0), .val (.int ps), .val (.long jk), .second, .val (.int (1 : Int32)), .val (.ref b101)] [(.int (x0.toInt8.toInt32)), (.int (4 : Int32)), (.ref b101)])) rfl rfl (hb hby at_135)
    have V151 : Arv Z h151 b101 k101 .byte (8 : Int32) [(.int (nar .byte ((jk.toInt32).toInt8.toInt32))), (.int (nar .byte (((x0.toUInt32 >>> ((24 : Int32) &&& 31).toUInt32).toInt32).toInt8.toInt32))), (.int (nar .byte (((x0.toUInt32 >>> ((16 : Int32) &&& 31).toUInt32).toInt32).toInt8.toInt32))), (.int (nar .byte (((x0.toUInt32 >>> ((8 : Int32) &&& 31).toUInt32).toInt32).toInt8.toInt32))), (.int (nar .byte (x0.toInt8.toInt32))), (.int (nar .byte ((((jk.toUInt64 >>> ((40 : Int32) &&& 0x3f).toInt64.toUInt64).toInt64).toInt32).toInt8.toInt32))), (.int (nar .byte ((((jk.toUInt64 >>> ((48 : Int32) &&& 0x3f).toInt64.toUInt64).toInt64).toInt32).toInt8.toInt32))), (.int (nar .byte ((((jk.toUInt64 >>> ((56 : Int32) &&& 0x3f).toInt64.toUInt64).toInt64).toInt32).toInt8.toInt32)))] (.int (0 : Int32)) := Arv.set Ar_q150 q1_q150 S_q150 N_q150 H_q150 G_q150 (fits_nar_byte _) W151 4 rfl (Nat.le_of_ble_eq_true rfl)
    have Z152 := Nat.le_trans Z149 (Keep.of_wr W151).1
    have K152 : Keep h0 h151 [] := K149.wr W151 (Or.inr sz_b101)
    have N151 := Fr.snoc X151 N148 ge_b101
    refine Go.by st151 ?_
    show Go _ _ _ _ _ _ _ (T151.setTop (mkF m 136 #[.val (.int x0), .val (.int ps), .val (.long jk), .second, .val (.int (1 : Int32)), .val (.ref b101)] []))
    refine Go.by (fun _ kont => XS.aload X151.here hx rfl (hb hby at_136) rfl rfl (XS.iload X151.here hx rfl (hb hby at_138) rfl kont)) ?_
    show Go _ _ _ _ _ _ _ (T151.setTop (mkF m 140 #[.val (.int x0), .val (.int ps), .val (.long jk), .second, .val (.int (1 : Int32)), .val (.ref b101)] [(.int (1 : Int32)), (.ref b101)]))
    obtain ⟨_, _, ⟨T153, L153, k153, n153⟩, -, X153, ⟨Lc153, hQ153, l153, y153, z153⟩, st153⟩ := Jvm.LawKit.callS X151 hx (y := (⟨"com/example/classwright/classwright/ClassBytes", "u4", "([BI)I"⟩ : MethodName)) hown (mvT hZ (hw _ (List.mem_of_getElem? (i := 2) rfl))) (mvT hZ (hw _ (List.mem_of_getElem? (i := 3) rfl))) (mvT hZ (hw _ (List.mem_of_getElem? (i := 4) rfl))) (mvT hZ (hw _ (List.mem_of_getElem? (i := 5) rfl))) (by decide) (backOf (W := 0) (rmU1 l Z a0 hw [] b101 k101 (nar .byte ((jk.toInt32).toInt8.toInt32)) (nar .byte (((x0.toUInt32 >>> ((24 : Int32) &&& 31).toUInt32).toInt32).toInt8.toInt32)) (nar .byte (((x0.toUInt32 >>> ((16 : Int32) &&& 31).toUInt32).toInt32).toInt8.toInt32)) (nar .byte (((x0.toUInt32 >>> ((8 : Int32) &&& 31).toUInt32).toInt32).toInt8.toInt32)) (nar .byte (x0.toInt8.toInt32)) (nar .byte ((((jk.toUInt64 >>> ((40 : Int32) &&& 0x3f).toInt64.toUInt64).toInt64).toInt32).toInt8.toInt32)) (nar .byte ((((jk.toUInt64 >>> ((48 : Int32) &&& 0x3f).toInt64.toUInt64).toInt64).toInt32).toInt8.toInt32)) (nar .byte ((((jk.toUInt64 >>> ((56 : Int32) &&& 0x3f).toInt64.toUInt64).toInt64).toInt32).toInt8.toInt32)) h151 n0 Z152 V151) hZ (hw _ (List.mem_of_getElem? (i := 5) rfl)) (hw _ (List.mem_of_getElem? (i := 4) rfl)) (by decide) (by decide)) (g := (mkF m 140 #[.val (.int x0), .val (.int ps), .val (.long jk), .second, .val (.int (1 : Int32)), .val (.ref b101)] [(.int (1 : Int32)), (.ref b101)])) rfl (by rw [hml]; rfl) (argsL := [(.ref b101), (.int (1 : Int32))]) (rest := []) (lenOf pd0_0 rfl) rfl (by show 2 * 0 + _ ≤ _; exact Nat.le_of_eq rfl) (hb hby at_140) (fun _ _ => ⟨rfl, e151, (by decide : 1 + 0 ≤ _), (by decide : 8 + 0 ≤ _)⟩)
    dsimp only [Pt.U, Pt.locs, Pt.cells, Pt.slots] at X153 l153 y153 z153 st153 hQ153
    subst l153 y153 z153
    obtain ⟨rfl, N153q, eh153⟩ := hQ153
    have N153 := Fr.app N151 N153q
    refine Go.by st153 ?_
    show Go _ _ _ _ _ _ _ (T153.setTop (mkF m 143 #[.val (.int x0), .val (.int ps), .val (.long jk), .second, .val (.int (1 : Int32)), .val (.ref b101)] [(.int ((((((nar .byte (((x0.toUInt32 >>> ((24 : Int32) &&& 31).toUInt32).toInt32).toInt8.toInt32)) &&& (255 : Int32)) <<< ((24 : Int32) &&& 31)) ||| (((nar .byte (((x0.toUInt32 >>> ((16 : Int32) &&& 31).toUInt32).toInt32).toInt8.toInt32)) &&& (255 : Int32)) <<< ((16 : Int32) &&& 31))) ||| (((nar .byte (((x0.toUInt32 >>> ((8 : Int32) &&& 31).toUInt32).toInt32).toInt8.toInt32)) &&& (255 : Int32)) <<< ((8 : Int32) &&& 31))) ||| ((nar .byte (x0.toInt8.toInt32)) &&& (255 : Int32))))]))
    refine Go.by (fun _ kont => XS.iloadN X153.here hx rfl (hb hby at_143) rfl kont) ?_
    show Go _ _ _ _ _ _ _ (T153.setTop (mkF m 144 #[.val (.int x0), .val (.int ps), .val (.long jk), .second, .val (.int (1 : Int32)), .val (.ref b101)] [(.int x0), (.int ((((((nar .byte (((x0.toUInt32 >>> ((24 : Int32) &&& 31).toUInt32).toInt32).toInt8.toInt32)) &&& (255 : Int32)) <<< ((24 : Int32) &&& 31)) ||| (((nar .byte (((x0.toUInt32 >>> ((16 : Int32) &&& 31).toUInt32).toInt32).toInt8.toInt32)) &&& (255 : Int32)) <<< ((16 : Int32) &&& 31))) ||| (((nar .byte (((x0.toUInt32 >>> ((8 : Int32) &&& 31).toUInt32).toInt32).toInt8.toInt32)) &&& (255 : Int32)) <<< ((8 : Int32) &&& 31))) ||| ((nar .byte (x0.toInt8.toInt32)) &&& (255 : Int32))))]))
    have hd154 : ((((((nar .byte (((x0.toUInt32 >>> ((24 : Int32) &&& 31).toUInt32).toInt32).toInt8.toInt32)) &&& (255 : Int32)) <<< ((24 : Int32) &&& 31)) ||| (((nar .byte (((x0.toUInt32 >>> ((16 : Int32) &&& 31).toUInt32).toInt32).toInt8.toInt32)) &&& (255 : Int32)) <<< ((16 : Int32) &&& 31))) ||| (((nar .byte (((x0.toUInt32 >>> ((8 : Int32) &&& 31).toUInt32).toInt32).toInt8.toInt32)) &&& (255 : Int32)) <<< ((8 : Int32) &&& 31))) ||| ((nar .byte (x0.toInt8.toInt32)) &&& (255 : Int32))) = x0 := own_asm _ _ _ _ x0 (by rw [own_by, c_iushr x0 24 24 (by decide) (by decide)]) (by rw [own_by, c_iushr x0 16 16 (by decide) (by decide)]) (by rw [own_by, c_iushr x0 8 8 (by decide) (by decide)]) (by rw [own_by])
    refine Go.by (fun _ kont => XS.icmpNo X153.here hx rfl (hb hby at_144) rfl (teq hd154).2 kont) ?_
    show Go _ _ _ _ _ _ _ (T153.setTop (mkF m 147 #[.val (.int x0), .val (.int ps), .val (.long jk), .second, .val (.int (1 : Int32)), .val (.ref b101)] []))
    refine Go.by (fun _ kont => XS.iconst X153.here hx rfl (hb hby at_147) (XS.goto X153.here hx rfl (pc0 := 148) (pc' := 152) rfl (hb hby at_148) (by decide) (by decide) kont)) ?_
    show Go _ _ _ _ _ _ _ (T153.setTop (mkF m 152 #[.val (.int x0), .val (.int ps), .val (.long jk), .second, .val (.int (1 : Int32)), .val (.ref b101)] [(.int (1 : Int32))]))
    refine Go.retN X153 hx (t := .boolean) hret (by simp) hlk (hb hby at_152) ?_ (by decide) (by decide)
    show Q0 Z h0 n0 (some (.int (1 : Int32))) T153.heap _
    rw [eh153]
    exact ⟨rfl, N153⟩
  · show Go _ _ _ _ _ _ _ (T125.setTop (mkF m 93 #[.val (.int x0), .val (.int ps), .val (.long jk), .second, .val (.int (2 : Int32)), .val (.ref b101)] []))
    refine Go.by (fun _ kont => XS.aload X125.here hx rfl (hb hby at_93) rfl rfl (XS.iload X125.here hx rfl (hb hby at_95) rfl (XS.iloadN X125.here hx rfl (hb hby at_97) rfl (XS.bipush X125.here hx rfl (hb hby at_98) (XS.iushr X125.here hx rfl (hb hby at_100) rfl (XS.i2b X125.here hx rfl (hb hby at_101) rfl kont)))))) ?_
    show Go _ _ _ _ _ _ _ (T125.setTop (mkF m 102 #[.val (.int x0), .val (.int ps), .val (.long jk), .second, .val (.int (2 : Int32)), .val (.ref b101)] [(.int (((x0.toUInt32 >>> ((24 : Int32) &&& 31).toUInt32).toInt32).toInt8.toInt32)), (.int (2 : Int32)), (.ref b101)]))
    obtain ⟨cl_q155, Ar_q155, q1_q155, S_q155, N_q155, H_q155, G_q155⟩ := id V125
    have hin_q155 : ¬ ((2 : Int32) < 0 ∨ cl_q155.slots.size ≤ ((2 : Int32)).toNatClampNeg) := inb_of S_q155 ⟨by decide, by decide⟩
    obtain ⟨T156, h156, X156, e156, W156, st156⟩ := stB X125 hx hZ e125 Ar_q155 (j := (2 : Int32)) hin_q155 (g := (mkF m 102 #[.val (.int x0), .val (.int ps), .val (.long jk), .second, .val (.int (2 : Int32)), .val (.ref b101)] [(.int (((x0.toUInt32 >>> ((24 : Int32) &&& 31).toUInt32).toInt32).toInt8.toInt32)), (.int (2 : Int32)), (.ref b101)])) rfl rfl (hb hby at_102)
    have V156 : Arv Z h156 b101 k101 .byte (8 : Int32) [(.int (nar .byte ((jk.toInt32).toInt8.toInt32))), (.int (nar .byte ((((jk.toUInt64 >>> ((8 : Int32) &&& 0x3f).toInt64.toUInt64).toInt64).toInt32).toInt8.toInt32))), (.int (nar .byte (((x0.toUInt32 >>> ((24 : Int32) &&& 31).toUInt32).toInt32).toInt8.toInt32))), (.int (nar .byte ((((jk.toUInt64 >>> ((24 : Int32) &&& 0x3f).toInt64.toUInt64).toInt64).toInt32).toInt8.toInt32))), (.int (nar .byte ((((jk.toUInt64 >>> ((32 : Int32) &&& 0x3f).toInt64.toUInt64).toInt64).toInt32).toInt8.toInt32))), (.int (nar .byte ((((jk.toUInt64 >>> ((40 : Int32) &&& 0x3f).toInt64.toUInt64).toInt64).toInt32).toInt8.toInt32))), (.int (nar .byte ((((jk.toUInt64 >>> ((48 : Int32) &&& 0x3f).toInt64.toUInt64).toInt64).toInt32).toInt8.toInt32))), (.int (nar .byte ((((jk.toUInt64 >>> ((56 : Int32) &&& 0x3f).toInt64.toUInt64).toInt64).toInt32).toInt8.toInt32)))] (.int (0 : Int32)) := Arv.set Ar_q155 q1_q155 S_q155 N_q155 H_q155 G_q155 (fits_nar_byte _) W156 2 rfl (Nat.le_of_ble_eq_true rfl)
    have Z157 := Nat.le_trans Z126 (Keep.of_wr W156).1
    have K157 : Keep h0 h156 [] := K126.wr W156 (Or.inr sz_b101)
    have N156 := Fr.snoc X156 N125 ge_b101
    refine Go.by st156 ?_
    show Go _ _ _ _ _ _ _ (T156.setTop (mkF m 103 #[.val (.int x0), .val (.int ps), .val (.long jk), .second, .val (.int (2 : Int32)), .val (.ref b101)] []))
    refine Go.by (fun _ kont => XS.aload X156.here hx rfl (hb hby at_103) rfl rfl (XS.iload X156.here hx rfl (hb hby at_105) rfl (XS.iconst X156.here hx rfl (hb hby at_107) (XS.iadd X156.here hx rfl (hb hby at_108) rfl kont)))) ?_
    show Go _ _ _ _ _ _ _ (T156.setTop (mkF m 109 #[.val (.int x0), .val (.int ps), .val (.long jk), .second, .val (.int (2 : Int32)), .val (.ref b101)] [(.int ((2 : Int32) + (1 : Int32))), (.ref b101)]))
    rw [show ((2 : Int32) + (1 : Int32)) = (3 : Int32) from by decide]
    show Go _ _ _ _ _ _ _ (T156.setTop (mkF m 109 #[.val (.int x0), .val (.int ps), .val (.long jk), .second, .val (.int (2 : Int32)), .val (.ref b101)] [(.int (3 : Int32)), (.ref b101)]))
    refine Go.by (fun _ kont => XS.iloadN X156.here hx rfl (hb hby at_109) rfl (XS.bipush X156.here hx rfl (hb hby at_110) (XS.iushr X156.here hx rfl (hb hby at_112) rfl (XS.i2b X156.here hx rfl (hb hby at_113) rfl kont)))) ?_
    show Go _ _ _ _ _ _ _ (T156.setTop (mkF m 114 #[.val (.int x0), .val (.int ps), .val (.long jk), .second, .val (.int (2 : Int32)), .val (.ref b101)] [(.int (((x0.toUInt32 >>> ((16 : Int32) &&& 31).toUInt32).toInt32).toInt8.toInt32)), (.int (3 : Int32)), (.ref b101)]))
    obtain ⟨cl_q158, Ar_q158, q1_q158, S_q158, N_q158, H_q158, G_q158⟩ := id V156
    have hin_q158 : ¬ ((3 : Int32) < 0 ∨ cl_q158.slots.size ≤ ((3 : Int32)).toNatClampNeg) := inb_of S_q158 ⟨by decide, by decide⟩
    obtain ⟨T159, h159, X159, e159, W159, st159⟩ := stB X156 hx hZ e156 Ar_q158 (j := (3 : Int32)) hin_q158 (g := (mkF m 114 #[.val (.int x0), .val (.int ps), .val (.long jk), .second, .val (.int (2 : Int32)), .val (.ref b101)] [(.int (((x0.toUInt32 >>> ((16 : Int32) &&& 31).toUInt32).toInt32).toInt8.toInt32)), (.int (3 : Int32)), (.ref b101)])) rfl rfl (hb hby at_114)
    have V159 : Arv Z h159 b101 k101 .byte (8 : Int32) [(.int (nar .byte ((jk.toInt32).toInt8.toInt32))), (.int (nar .byte ((((jk.toUInt64 >>> ((8 : Int32) &&& 0x3f).toInt64.toUInt64).toInt64).toInt32).toInt8.toInt32))), (.int (nar .byte (((x0.toUInt32 >>> ((24 : Int32) &&& 31).toUInt32).toInt32).toInt8.toInt32))), (.int (nar .byte (((x0.toUInt32 >>> ((16 : Int32) &&& 31).toUInt32).toInt32).toInt8.toInt32))), (.int (nar .byte ((((jk.toUInt64 >>> ((32 : Int32) &&& 0x3f).toInt64.toUInt64).toInt64).toInt32).toInt8.toInt32))), (.int (nar .byte ((((jk.toUInt64 >>> ((40 : Int32) &&& 0x3f).toInt64.toUInt64).toInt64).toInt32).toInt8.toInt32))), (.int (nar .byte ((((jk.toUInt64 >>> ((48 : Int32) &&& 0x3f).toInt64.toUInt64).toInt64).toInt32).toInt8.toInt32))), (.int (nar .byte ((((jk.toUInt64 >>> ((56 : Int32) &&& 0x3f).toInt64.toUInt64).toInt64).toInt32).toInt8.toInt32)))] (.int (0 : Int32)) := Arv.set Ar_q158 q1_q158 S_q158 N_q158 H_q158 G_q158 (fits_nar_byte _) W159 3 rfl (Nat.le_of_ble_eq_true rfl)
    have Z160 := Nat.le_trans Z157 (Keep.of_wr W159).1
    have K160 : Keep h0 h159 [] := K157.wr W159 (Or.inr sz_b101)
    have N159 := Fr.snoc X159 N156 ge_b101
    refine Go.by st159 ?_
    show Go _ _ _ _ _ _ _ (T159.setTop (mkF m 115 #[.val (.int x0), .val (.int ps), .val (.long jk), .second, .val (.int (2 : Int32)), .val (.ref b101)] []))
    refine Go.by (fun _ kont => XS.aload X159.here hx rfl (hb hby at_115) rfl rfl (XS.iload X159.here hx rfl (hb hby at_117) rfl (XS.iconst X159.here hx rfl (hb hby at_119) (XS.iadd X159.here hx rfl (hb hby at_120) rfl kont)))) ?_
    show Go _ _ _ _ _ _ _ (T159.setTop (mkF m 121 #[.val (.int x0), .val (.int ps), .val (.long jk), .second, .val (.int (2 : Int32)), .val (.ref b101)] [(.int ((2 : Int32) + (2 : Int32))), (.ref b101)]))
    rw [show ((2 : Int32) + (2 : Int32)) = (4 : Int32) from by decide]
    show Go _ _ _ _ _ _ _ (T159.setTop (mkF m 121 #[.val (.int x0), .val (.int ps), .val (.long jk), .second, .val (.int (2 : Int32)), .val (.ref b101)] [(.int (4 : Int32)), (.ref b101)]))
    refine Go.by (fun _ kont => XS.iloadN X159.here hx rfl (hb hby at_121) rfl (XS.bipush X159.here hx rfl (hb hby at_122) (XS.iushr X159.here hx rfl (hb hby at_124) rfl (XS.i2b X159.here hx rfl (hb hby at_125) rfl kont)))) ?_
    show Go _ _ _ _ _ _ _ (T159.setTop (mkF m 126 #[.val (.int x0), .val (.int ps), .val (.long jk), .second, .val (.int (2 : Int32)), .val (.ref b101)] [(.int (((x0.toUInt32 >>> ((8 : Int32) &&& 31).toUInt32).toInt32).toInt8.toInt32)), (.int (4 : Int32)), (.ref b101)]))
    obtain ⟨cl_q161, Ar_q161, q1_q161, S_q161, N_q161, H_q161, G_q161⟩ := id V159
    have hin_q161 : ¬ ((4 : Int32) < 0 ∨ cl_q161.slots.size ≤ ((4 : Int32)).toNatClampNeg) := inb_of S_q161 ⟨by decide, by decide⟩
    obtain ⟨T162, h162, X162, e162, W162, st162⟩ := stB X159 hx hZ e159 Ar_q161 (j := (4 : Int32)) hin_q161 (g := (mkF m 126 #[.val (.int x0), .val (.int ps), .val (.long jk), .second, .val (.int (2 : Int32)), .val (.ref b101)] [(.int (((x0.toUInt32 >>> ((8 : Int32) &&& 31).toUInt32).toInt32).toInt8.toInt32)), (.int (4 : Int32)), (.ref b101)])) rfl rfl (hb hby at_126)
    have V162 : Arv Z h162 b101 k101 .byte (8 : Int32) [(.int (nar .byte ((jk.toInt32).toInt8.toInt32))), (.int (nar .byte ((((jk.toUInt64 >>> ((8 : Int32) &&& 0x3f).toInt64.toUInt64).toInt64).toInt32).toInt8.toInt32))), (.int (nar .byte (((x0.toUInt32 >>> ((24 : Int32) &&& 31).toUInt32).toInt32).toInt8.toInt32))), (.int (nar .byte (((x0.toUInt32 >>> ((16 : Int32) &&& 31).toUInt32).toInt32).toInt8.toInt32))), (.int (nar .byte (((x0.toUInt32 >>> ((8 : Int32) &&& 31).toUInt32).toInt32).toInt8.toInt32))), (.int (nar .byte ((((jk.toUInt64 >>> ((40 : Int32) &&& 0x3f).toInt64.toUInt64).toInt64).toInt32).toInt8.toInt32))), (.int (nar .byte ((((jk.toUInt64 >>> ((48 : Int32) &&& 0x3f).toInt64.toUInt64).toInt64).toInt32).toInt8.toInt32))), (.int (nar .byte ((((jk.toUInt64 >>> ((56 : Int32) &&& 0x3f).toInt64.toUInt64).toInt64).toInt32).toInt8.toInt32)))] (.int (0 : Int32)) := Arv.set Ar_q161 q1_q161 S_q161 N_q161 H_q161 G_q161 (fits_nar_byte _) W162 4 rfl (Nat.le_of_ble_eq_true rfl)
    have Z163 := Nat.le_trans Z160 (Keep.of_wr W162).1
    have K163 : Keep h0 h162 [] := K160.wr W162 (Or.inr sz_b101)
    have N162 := Fr.snoc X162 N159 ge_b101
    refine Go.by st162 ?_
    show Go _ _ _ _ _ _ _ (T162.setTop (mkF m 127 #[.val (.int x0), .val (.int ps), .val (.long jk), .second, .val (.int (2 : Int32)), .val (.ref b101)] []))
    refine Go.by (fun _ kont => XS.aload X162.here hx rfl (hb hby at_127) rfl rfl (XS.iload X162.here hx rfl (hb hby at_129) rfl (XS.iconst X162.here hx rfl (hb hby at_131) (XS.iadd X162.here hx rfl (hb hby at_132) rfl kont)))) ?_
    show Go _ _ _ _ _ _ _ (T162.setTop (mkF m 133 #[.val (.int x0), .val (.int ps), .val (.long jk), .second, .val (.int (2 : Int32)), .val (.ref b101)] [(.int ((2 : Int32) + (3 : Int32))), (.ref b101)]))
    rw [show ((2 : Int32) + (3 : Int32)) = (5 : Int32) from by decide]
    show Go _ _ _ _ _ _ _ (T162.setTop (mkF m 133 #[.val (.int x0), .val (.int ps), .val (.long jk), .second, .val (.int (2 : Int32)), .val (.ref b101)] [(.int (5 : Int32)), (.ref b101)]))
    refine Go.by (fun _ kont => XS.iloadN X162.here hx rfl (hb hby at_133) rfl (XS.i2b X162.here hx rfl (hb hby at_134) rfl kont)) ?_
    show Go _ _ _ _ _ _ _ (T162.setTop (mkF m 135 #[.val (.int x0), .val (.int ps), .val (.long jk), .second, .val (.int (2 : Int32)), .val (.ref b101)] [(.int (x0.toInt8.toInt32)), (.int (5 : Int32)), (.ref b101)]))
    obtain ⟨cl_q164, Ar_q164, q1_q164, S_q164, N_q164, H_q164, G_q164⟩ := id V162
    have hin_q164 : ¬ ((5 : Int32) < 0 ∨ cl_q164.slots.size ≤ ((5 : Int32)).toNatClampNeg) := inb_of S_q164 ⟨by decide, by decide⟩
    obtain ⟨T165, h165, X165, e165, W165, st165⟩ := stB X162 hx hZ e162 Ar_q164 (j := (5 : Int32)) hin_q164 (g := (mkF m 135 #[.val (.int x0), .val (.int ps), .val (.long jk), .second, .val (.int (2 : Int32)), .val (.ref b101)] [(.int (x0.toInt8.toInt32)), (.int (5 : Int32)), (.ref b101)])) rfl rfl (hb hby at_135)
    have V165 : Arv Z h165 b101 k101 .byte (8 : Int32) [(.int (nar .byte ((jk.toInt32).toInt8.toInt32))), (.int (nar .byte ((((jk.toUInt64 >>> ((8 : Int32) &&& 0x3f).toInt64.toUInt64).toInt64).toInt32).toInt8.toInt32))), (.int (nar .byte (((x0.toUInt32 >>> ((24 : Int32) &&& 31).toUInt32).toInt32).toInt8.toInt32))), (.int (nar .byte (((x0.toUInt32 >>> ((16 : Int32) &&& 31).toUInt32).toInt32).toInt8.toInt32))), (.int (nar .byte (((x0.toUInt32 >>> ((8 : Int32) &&& 31).toUInt32).toInt32).toInt8.toInt32))), (.int (nar .byte (x0.toInt8.toInt32))), (.int (nar .byte ((((jk.toUInt64 >>> ((48 : Int32) &&& 0x3f).toInt64.toUInt64).toInt64).toInt32).toInt8.toInt32))), (.int (nar .byte ((((jk.toUInt64 >>> ((56 : Int32) &&& 0x3f).toInt64.toUInt64).toInt64).toInt32).toInt8.toInt32)))] (.int (0 : Int32)) := Arv.set Ar_q164 q1_q164 S_q164 N_q164 H_q164 G_q164 (fits_nar_byte _) W165 5 rfl (Nat.le_of_ble_eq_true rfl)
    have Z166 := Nat.le_trans Z163 (Keep.of_wr W165).1
    have K166 : Keep h0 h165 [] := K163.wr W165 (Or.inr sz_b101)
    have N165 := Fr.snoc X165 N162 ge_b101
    refine Go.by st165 ?_
    show Go _ _ _ _ _ _ _ (T165.setTop (mkF m 136 #[.val (.int x0), .val (.int ps), .val (.long jk), .second, .val (.int (2 : Int32)), .val (.ref b101)] []))
    refine Go.by (fun _ kont => XS.aload X165.here hx rfl (hb hby at_136) rfl rfl (XS.iload X165.here hx rfl (hb hby at_138) rfl kont)) ?_
    show Go _ _ _ _ _ _ _ (T165.setTop (mkF m 140 #[.val (.int x0), .val (.int ps), .val (.long jk), .second, .val (.int (2 : Int32)), .val (.ref b101)] [(.int (2 : Int32)), (.ref b101)]))
    obtain ⟨_, _, ⟨T167, L167, k167, n167⟩, -, X167, ⟨Lc167, hQ167, l167, y167, z167⟩, st167⟩ := Jvm.LawKit.callS X165 hx (y := (⟨"com/example/classwright/classwright/ClassBytes", "u4", "([BI)I"⟩ : MethodName)) hown (mvT hZ (hw _ (List.mem_of_getElem? (i := 2) rfl))) (mvT hZ (hw _ (List.mem_of_getElem? (i := 3) rfl))) (mvT hZ (hw _ (List.mem_of_getElem? (i := 4) rfl))) (mvT hZ (hw _ (List.mem_of_getElem? (i := 5) rfl))) (by decide) (backOf (W := 0) (rmU2 l Z a0 hw [] b101 k101 (nar .byte ((jk.toInt32).toInt8.toInt32)) (nar .byte ((((jk.toUInt64 >>> ((8 : Int32) &&& 0x3f).toInt64.toUInt64).toInt64).toInt32).toInt8.toInt32)) (nar .byte (((x0.toUInt32 >>> ((24 : Int32) &&& 31).toUInt32).toInt32).toInt8.toInt32)) (nar .byte (((x0.toUInt32 >>> ((16 : Int32) &&& 31).toUInt32).toInt32).toInt8.toInt32)) (nar .byte (((x0.toUInt32 >>> ((8 : Int32) &&& 31).toUInt32).toInt32).toInt8.toInt32)) (nar .byte (x0.toInt8.toInt32)) (nar .byte ((((jk.toUInt64 >>> ((48 : Int32) &&& 0x3f).toInt64.toUInt64).toInt64).toInt32).toInt8.toInt32)) (nar .byte ((((jk.toUInt64 >>> ((56 : Int32) &&& 0x3f).toInt64.toUInt64).toInt64).toInt32).toInt8.toInt32)) h165 n0 Z166 V165) hZ (hw _ (List.mem_of_getElem? (i := 5) rfl)) (hw _ (List.mem_of_getElem? (i := 4) rfl)) (by decide) (by decide)) (g := (mkF m 140 #[.val (.int x0), .val (.int ps), .val (.long jk), .second, .val (.int (2 : Int32)), .val (.ref b101)] [(.int (2 : Int32)), (.ref b101)])) rfl (by rw [hml]; rfl) (argsL := [(.ref b101), (.int (2 : Int32))]) (rest := []) (lenOf pd0_0 rfl) rfl (by show 2 * 0 + _ ≤ _; exact Nat.le_of_eq rfl) (hb hby at_140) (fun _ _ => ⟨rfl, e165, (by decide : 1 + 0 ≤ _), (by decide : 8 + 0 ≤ _)⟩)
    dsimp only [Pt.U, Pt.locs, Pt.cells, Pt.slots] at X167 l167 y167 z167 st167 hQ167
    subst l167 y167 z167
    obtain ⟨rfl, N167q, eh167⟩ := hQ167
    have N167 := Fr.app N165 N167q
    refine Go.by st167 ?_
    show Go _ _ _ _ _ _ _ (T167.setTop (mkF m 143 #[.val (.int x0), .val (.int ps), .val (.long jk), .second, .val (.int (2 : Int32)), .val (.ref b101)] [(.int ((((((nar .byte (((x0.toUInt32 >>> ((24 : Int32) &&& 31).toUInt32).toInt32).toInt8.toInt32)) &&& (255 : Int32)) <<< ((24 : Int32) &&& 31)) ||| (((nar .byte (((x0.toUInt32 >>> ((16 : Int32) &&& 31).toUInt32).toInt32).toInt8.toInt32)) &&& (255 : Int32)) <<< ((16 : Int32) &&& 31))) ||| (((nar .byte (((x0.toUInt32 >>> ((8 : Int32) &&& 31).toUInt32).toInt32).toInt8.toInt32)) &&& (255 : Int32)) <<< ((8 : Int32) &&& 31))) ||| ((nar .byte (x0.toInt8.toInt32)) &&& (255 : Int32))))]))
    refine Go.by (fun _ kont => XS.iloadN X167.here hx rfl (hb hby at_143) rfl kont) ?_
    show Go _ _ _ _ _ _ _ (T167.setTop (mkF m 144 #[.val (.int x0), .val (.int ps), .val (.long jk), .second, .val (.int (2 : Int32)), .val (.ref b101)] [(.int x0), (.int ((((((nar .byte (((x0.toUInt32 >>> ((24 : Int32) &&& 31).toUInt32).toInt32).toInt8.toInt32)) &&& (255 : Int32)) <<< ((24 : Int32) &&& 31)) ||| (((nar .byte (((x0.toUInt32 >>> ((16 : Int32) &&& 31).toUInt32).toInt32).toInt8.toInt32)) &&& (255 : Int32)) <<< ((16 : Int32) &&& 31))) ||| (((nar .byte (((x0.toUInt32 >>> ((8 : Int32) &&& 31).toUInt32).toInt32).toInt8.toInt32)) &&& (255 : Int32)) <<< ((8 : Int32) &&& 31))) ||| ((nar .byte (x0.toInt8.toInt32)) &&& (255 : Int32))))]))
    have hd168 : ((((((nar .byte (((x0.toUInt32 >>> ((24 : Int32) &&& 31).toUInt32).toInt32).toInt8.toInt32)) &&& (255 : Int32)) <<< ((24 : Int32) &&& 31)) ||| (((nar .byte (((x0.toUInt32 >>> ((16 : Int32) &&& 31).toUInt32).toInt32).toInt8.toInt32)) &&& (255 : Int32)) <<< ((16 : Int32) &&& 31))) ||| (((nar .byte (((x0.toUInt32 >>> ((8 : Int32) &&& 31).toUInt32).toInt32).toInt8.toInt32)) &&& (255 : Int32)) <<< ((8 : Int32) &&& 31))) ||| ((nar .byte (x0.toInt8.toInt32)) &&& (255 : Int32))) = x0 := own_asm _ _ _ _ x0 (by rw [own_by, c_iushr x0 24 24 (by decide) (by decide)]) (by rw [own_by, c_iushr x0 16 16 (by decide) (by decide)]) (by rw [own_by, c_iushr x0 8 8 (by decide) (by decide)]) (by rw [own_by])
    refine Go.by (fun _ kont => XS.icmpNo X167.here hx rfl (hb hby at_144) rfl (teq hd168).2 kont) ?_
    show Go _ _ _ _ _ _ _ (T167.setTop (mkF m 147 #[.val (.int x0), .val (.int ps), .val (.long jk), .second, .val (.int (2 : Int32)), .val (.ref b101)] []))
    refine Go.by (fun _ kont => XS.iconst X167.here hx rfl (hb hby at_147) (XS.goto X167.here hx rfl (pc0 := 148) (pc' := 152) rfl (hb hby at_148) (by decide) (by decide) kont)) ?_
    show Go _ _ _ _ _ _ _ (T167.setTop (mkF m 152 #[.val (.int x0), .val (.int ps), .val (.long jk), .second, .val (.int (2 : Int32)), .val (.ref b101)] [(.int (1 : Int32))]))
    refine Go.retN X167 hx (t := .boolean) hret (by simp) hlk (hb hby at_152) ?_ (by decide) (by decide)
    show Q0 Z h0 n0 (some (.int (1 : Int32))) T167.heap _
    rw [eh167]
    exact ⟨rfl, N167⟩
  · show Go _ _ _ _ _ _ _ (T125.setTop (mkF m 93 #[.val (.int x0), .val (.int ps), .val (.long jk), .second, .val (.int (3 : Int32)), .val (.ref b101)] []))
    refine Go.by (fun _ kont => XS.aload X125.here hx rfl (hb hby at_93) rfl rfl (XS.iload X125.here hx rfl (hb hby at_95) rfl (XS.iloadN X125.here hx rfl (hb hby at_97) rfl (XS.bipush X125.here hx rfl (hb hby at_98) (XS.iushr X125.here hx rfl (hb hby at_100) rfl (XS.i2b X125.here hx rfl (hb hby at_101) rfl kont)))))) ?_
    show Go _ _ _ _ _ _ _ (T125.setTop (mkF m 102 #[.val (.int x0), .val (.int ps), .val (.long jk), .second, .val (.int (3 : Int32)), .val (.ref b101)] [(.int (((x0.toUInt32 >>> ((24 : Int32) &&& 31).toUInt32).toInt32).toInt8.toInt32)), (.int (3 : Int32)), (.ref b101)]))
    obtain ⟨cl_q169, Ar_q169, q1_q169, S_q169, N_q169, H_q169, G_q169⟩ := id V125
    have hin_q169 : ¬ ((3 : Int32) < 0 ∨ cl_q169.slots.size ≤ ((3 : Int32)).toNatClampNeg) := inb_of S_q169 ⟨by decide, by decide⟩
    obtain ⟨T170, h170, X170, e170, W170, st170⟩ := stB X125 hx hZ e125 Ar_q169 (j := (3 : Int32)) hin_q169 (g := (mkF m 102 #[.val (.int x0), .val (.int ps), .val (.long jk), .second, .val (.int (3 : Int32)), .val (.ref b101)] [(.int (((x0.toUInt32 >>> ((24 : Int32) &&& 31).toUInt32).toInt32).toInt8.toInt32)), (.int (3 : Int32)), (.ref b101)])) rfl rfl (hb hby at_102)
    have V170 : Arv Z h170 b101 k101 .byte (8 : Int32) [(.int (nar .byte ((jk.toInt32).toInt8.toInt32))), (.int (nar .byte ((((jk.toUInt64 >>> ((8 : Int32) &&& 0x3f).toInt64.toUInt64).toInt64).toInt32).toInt8.toInt32))), (.int (nar .byte ((((jk.toUInt64 >>> ((16 : Int32) &&& 0x3f).toInt64.toUInt64).toInt64).toInt32).toInt8.toInt32))), (.int (nar .byte (((x0.toUInt32 >>> ((24 : Int32) &&& 31).toUInt32).toInt32).toInt8.toInt32))), (.int (nar .byte ((((jk.toUInt64 >>> ((32 : Int32) &&& 0x3f).toInt64.toUInt64).toInt64).toInt32).toInt8.toInt32))), (.int (nar .byte ((((jk.toUInt64 >>> ((40 : Int32) &&& 0x3f).toInt64.toUInt64).toInt64).toInt32).toInt8.toInt32))), (.int (nar .byte ((((jk.toUInt64 >>> ((48 : Int32) &&& 0x3f).toInt64.toUInt64).toInt64).toInt32).toInt8.toInt32))), (.int (nar .byte ((((jk.toUInt64 >>> ((56 : Int32) &&& 0x3f).toInt64.toUInt64).toInt64).toInt32).toInt8.toInt32)))] (.int (0 : Int32)) := Arv.set Ar_q169 q1_q169 S_q169 N_q169 H_q169 G_q169 (fits_nar_byte _) W170 3 rfl (Nat.le_of_ble_eq_true rfl)
    have Z171 := Nat.le_trans Z126 (Keep.of_wr W170).1
    have K171 : Keep h0 h170 [] := K126.wr W170 (Or.inr sz_b101)
    have N170 := Fr.snoc X170 N125 ge_b101
    refine Go.by st170 ?_
    show Go _ _ _ _ _ _ _ (T170.setTop (mkF m 103 #[.val (.int x0), .val (.int ps), .val (.long jk), .second, .val (.int (3 : Int32)), .val (.ref b101)] []))
    refine Go.by (fun _ kont => XS.aload X170.here hx rfl (hb hby at_103) rfl rfl (XS.iload X170.here hx rfl (hb hby at_105) rfl (XS.iconst X170.here hx rfl (hb hby at_107) (XS.iadd X170.here hx rfl (hb hby at_108) rfl kont)))) ?_
    show Go _ _ _ _ _ _ _ (T170.setTop (mkF m 109 #[.val (.int x0), .val (.int ps), .val (.long jk), .second, .val (.int (3 : Int32)), .val (.ref b101)] [(.int ((3 : Int32) + (1 : Int32))), (.ref b101)]))
    rw [show ((3 : Int32) + (1 : Int32)) = (4 : Int32) from by decide]
    show Go _ _ _ _ _ _ _ (T170.setTop (mkF m 109 #[.val (.int x0), .val (.int ps), .val (.long jk), .second, .val (.int (3 : Int32)), .val (.ref b101)] [(.int (4 : Int32)), (.ref b101)]))
    refine Go.by (fun _ kont => XS.iloadN X170.here hx rfl (hb hby at_109) rfl (XS.bipush X170.here hx rfl (hb hby at_110) (XS.iushr X170.here hx rfl (hb hby at_112) rfl (XS.i2b X170.here hx rfl (hb hby at_113) rfl kont)))) ?_
    show Go _ _ _ _ _ _ _ (T170.setTop (mkF m 114 #[.val (.int x0), .val (.int ps), .val (.long jk), .second, .val (.int (3 : Int32)), .val (.ref b101)] [(.int (((x0.toUInt32 >>> ((16 : Int32) &&& 31).toUInt32).toInt32).toInt8.toInt32)), (.int (4 : Int32)), (.ref b101)]))
    obtain ⟨cl_q172, Ar_q172, q1_q172, S_q172, N_q172, H_q172, G_q172⟩ := id V170
    have hin_q172 : ¬ ((4 : Int32) < 0 ∨ cl_q172.slots.size ≤ ((4 : Int32)).toNatClampNeg) := inb_of S_q172 ⟨by decide, by decide⟩
    obtain ⟨T173, h173, X173, e173, W173, st173⟩ := stB X170 hx hZ e170 Ar_q172 (j := (4 : Int32)) hin_q172 (g := (mkF m 114 #[.val (.int x0), .val (.int ps), .val (.long jk), .second, .val (.int (3 : Int32)), .val (.ref b101)] [(.int (((x0.toUInt32 >>> ((16 : Int32) &&& 31).toUInt32).toInt32).toInt8.toInt32)), (.int (4 : Int32)), (.ref b101)])) rfl rfl (hb hby at_114)
    have V173 : Arv Z h173 b101 k101 .byte (8 : Int32) [(.int (nar .byte ((jk.toInt32).toInt8.toInt32))), (.int (nar .byte ((((jk.toUInt64 >>> ((8 : Int32) &&& 0x3f).toInt64.toUInt64).toInt64).toInt32).toInt8.toInt32))), (.int (nar .byte ((((jk.toUInt64 >>> ((16 : Int32) &&& 0x3f).toInt64.toUInt64).toInt64).toInt32).toInt8.toInt32))), (.int (nar .byte (((x0.toUInt32 >>> ((24 : Int32) &&& 31).toUInt32).toInt32).toInt8.toInt32))), (.int (nar .byte (((x0.toUInt32 >>> ((16 : Int32) &&& 31).toUInt32).toInt32).toInt8.toInt32))), (.int (nar .byte ((((jk.toUInt64 >>> ((40 : Int32) &&& 0x3f).toInt64.toUInt64).toInt64).toInt32).toInt8.toInt32))), (.int (nar .byte ((((jk.toUInt64 >>> ((48 : Int32) &&& 0x3f).toInt64.toUInt64).toInt64).toInt32).toInt8.toInt32))), (.int (nar .byte ((((jk.toUInt64 >>> ((56 : Int32) &&& 0x3f).toInt64.toUInt64).toInt64).toInt32).toInt8.toInt32)))] (.int (0 : Int32)) := Arv.set Ar_q172 q1_q172 S_q172 N_q172 H_q172 G_q172 (fits_nar_byte _) W173 4 rfl (Nat.le_of_ble_eq_true rfl)
    have Z174 := Nat.le_trans Z171 (Keep.of_wr W173).1
    have K174 : Keep h0 h173 [] := K171.wr W173 (Or.inr sz_b101)
    have N173 := Fr.snoc X173 N170 ge_b101
    refine Go.by st173 ?_
    show Go _ _ _ _ _ _ _ (T173.setTop (mkF m 115 #[.val (.int x0), .val (.int ps), .val (.long jk), .second, .val (.int (3 : Int32)), .val (.ref b101)] []))
    refine Go.by (fun _ kont => XS.aload X173.here hx rfl (hb hby at_115) rfl rfl (XS.iload X173.here hx rfl (hb hby at_117) rfl (XS.iconst X173.here hx rfl (hb hby at_119) (XS.iadd X173.here hx rfl (hb hby at_120) rfl kont)))) ?_
    show Go _ _ _ _ _ _ _ (T173.setTop (mkF m 121 #[.val (.int x0), .val (.int ps), .val (.long jk), .second, .val (.int (3 : Int32)), .val (.ref b101)] [(.int ((3 : Int32) + (2 : Int32))), (.ref b101)]))
    rw [show ((3 : Int32) + (2 : Int32)) = (5 : Int32) from by decide]
    show Go _ _ _ _ _ _ _ (T173.setTop (mkF m 121 #[.val (.int x0), .val (.int ps), .val (.long jk), .second, .val (.int (3 : Int32)), .val (.ref b101)] [(.int (5 : Int32)), (.ref b101)]))
    refine Go.by (fun _ kont => XS.iloadN X173.here hx rfl (hb hby at_121) rfl (XS.bipush X173.here hx rfl (hb hby at_122) (XS.iushr X173.here hx rfl (hb hby at_124) rfl (XS.i2b X173.here hx rfl (hb hby at_125) rfl kont)))) ?_
    show Go _ _ _ _ _ _ _ (T173.setTop (mkF m 126 #[.val (.int x0), .val (.int ps), .val (.long jk), .second, .val (.int (3 : Int32)), .val (.ref b101)] [(.int (((x0.toUInt32 >>> ((8 : Int32) &&& 31).toUInt32).toInt32).toInt8.toInt32)), (.int (5 : Int32)), (.ref b101)]))
    obtain ⟨cl_q175, Ar_q175, q1_q175, S_q175, N_q175, H_q175, G_q175⟩ := id V173
    have hin_q175 : ¬ ((5 : Int32) < 0 ∨ cl_q175.slots.size ≤ ((5 : Int32)).toNatClampNeg) := inb_of S_q175 ⟨by decide, by decide⟩
    obtain ⟨T176, h176, X176, e176, W176, st176⟩ := stB X173 hx hZ e173 Ar_q175 (j := (5 : Int32)) hin_q175 (g := (mkF m 126 #[.val (.int x0), .val (.int ps), .val (.long jk), .second, .val (.int (3 : Int32)), .val (.ref b101)] [(.int (((x0.toUInt32 >>> ((8 : Int32) &&& 31).toUInt32).toInt32).toInt8.toInt32)), (.int (5 : Int32)), (.ref b101)])) rfl rfl (hb hby at_126)
    have V176 : Arv Z h176 b101 k101 .byte (8 : Int32) [(.int (nar .byte ((jk.toInt32).toInt8.toInt32))), (.int (nar .byte ((((jk.toUInt64 >>> ((8 : Int32) &&& 0x3f).toInt64.toUInt64).toInt64).toInt32).toInt8.toInt32))), (.int (nar .byte ((((jk.toUInt64 >>> ((16 : Int32) &&& 0x3f).toInt64.toUInt64).toInt64).toInt32).toInt8.toInt32))), (.int (nar .byte (((x0.toUInt32 >>> ((24 : Int32) &&& 31).toUInt32).toInt32).toInt8.toInt32))), (.int (nar .byte (((x0.toUInt32 >>> ((16 : Int32) &&& 31).toUInt32).toInt32).toInt8.toInt32))), (.int (nar .byte (((x0.toUInt32 >>> ((8 : Int32) &&& 31).toUInt32).toInt32).toInt8.toInt32))), (.int (nar .byte ((((jk.toUInt64 >>> ((48 : Int32) &&& 0x3f).toInt64.toUInt64).toInt64).toInt32).toInt8.toInt32))), (.int (nar .byte ((((jk.toUInt64 >>> ((56 : Int32) &&& 0x3f).toInt64.toUInt64).toInt64).toInt32).toInt8.toInt32)))] (.int (0 : Int32)) := Arv.set Ar_q175 q1_q175 S_q175 N_q175 H_q175 G_q175 (fits_nar_byte _) W176 5 rfl (Nat.le_of_ble_eq_true rfl)
    have Z177 := Nat.le_trans Z174 (Keep.of_wr W176).1
    have K177 : Keep h0 h176 [] := K174.wr W176 (Or.inr sz_b101)
    have N176 := Fr.snoc X176 N173 ge_b101
    refine Go.by st176 ?_
    show Go _ _ _ _ _ _ _ (T176.setTop (mkF m 127 #[.val (.int x0), .val (.int ps), .val (.long jk), .second, .val (.int (3 : Int32)), .val (.ref b101)] []))
    refine Go.by (fun _ kont => XS.aload X176.here hx rfl (hb hby at_127) rfl rfl (XS.iload X176.here hx rfl (hb hby at_129) rfl (XS.iconst X176.here hx rfl (hb hby at_131) (XS.iadd X176.here hx rfl (hb hby at_132) rfl kont)))) ?_
    show Go _ _ _ _ _ _ _ (T176.setTop (mkF m 133 #[.val (.int x0), .val (.int ps), .val (.long jk), .second, .val (.int (3 : Int32)), .val (.ref b101)] [(.int ((3 : Int32) + (3 : Int32))), (.ref b101)]))
    rw [show ((3 : Int32) + (3 : Int32)) = (6 : Int32) from by decide]
    show Go _ _ _ _ _ _ _ (T176.setTop (mkF m 133 #[.val (.int x0), .val (.int ps), .val (.long jk), .second, .val (.int (3 : Int32)), .val (.ref b101)] [(.int (6 : Int32)), (.ref b101)]))
    refine Go.by (fun _ kont => XS.iloadN X176.here hx rfl (hb hby at_133) rfl (XS.i2b X176.here hx rfl (hb hby at_134) rfl kont)) ?_
    show Go _ _ _ _ _ _ _ (T176.setTop (mkF m 135 #[.val (.int x0), .val (.int ps), .val (.long jk), .second, .val (.int (3 : Int32)), .val (.ref b101)] [(.int (x0.toInt8.toInt32)), (.int (6 : Int32)), (.ref b101)]))
    obtain ⟨cl_q178, Ar_q178, q1_q178, S_q178, N_q178, H_q178, G_q178⟩ := id V176
    have hin_q178 : ¬ ((6 : Int32) < 0 ∨ cl_q178.slots.size ≤ ((6 : Int32)).toNatClampNeg) := inb_of S_q178 ⟨by decide, by decide⟩
    obtain ⟨T179, h179, X179, e179, W179, st179⟩ := stB X176 hx hZ e176 Ar_q178 (j := (6 : Int32)) hin_q178 (g := (mkF m 135 #[.val (.int x0), .val (.int ps), .val (.long jk), .second, .val (.int (3 : Int32)), .val (.ref b101)] [(.int (x0.toInt8.toInt32)), (.int (6 : Int32)), (.ref b101)])) rfl rfl (hb hby at_135)
    have V179 : Arv Z h179 b101 k101 .byte (8 : Int32) [(.int (nar .byte ((jk.toInt32).toInt8.toInt32))), (.int (nar .byte ((((jk.toUInt64 >>> ((8 : Int32) &&& 0x3f).toInt64.toUInt64).toInt64).toInt32).toInt8.toInt32))), (.int (nar .byte ((((jk.toUInt64 >>> ((16 : Int32) &&& 0x3f).toInt64.toUInt64).toInt64).toInt32).toInt8.toInt32))), (.int (nar .byte (((x0.toUInt32 >>> ((24 : Int32) &&& 31).toUInt32).toInt32).toInt8.toInt32))), (.int (nar .byte (((x0.toUInt32 >>> ((16 : Int32) &&& 31).toUInt32).toInt32).toInt8.toInt32))), (.int (nar .byte (((x0.toUInt32 >>> ((8 : Int32) &&& 31).toUInt32).toInt32).toInt8.toInt32))), (.int (nar .byte (x0.toInt8.toInt32))), (.int (nar .byte ((((jk.toUInt64 >>> ((56 : Int32) &&& 0x3f).toInt64.toUInt64).toInt64).toInt32).toInt8.toInt32)))] (.int (0 : Int32)) := Arv.set Ar_q178 q1_q178 S_q178 N_q178 H_q178 G_q178 (fits_nar_byte _) W179 6 rfl (Nat.le_of_ble_eq_true rfl)
    have Z180 := Nat.le_trans Z177 (Keep.of_wr W179).1
    have K180 : Keep h0 h179 [] := K177.wr W179 (Or.inr sz_b101)
    have N179 := Fr.snoc X179 N176 ge_b101
    refine Go.by st179 ?_
    show Go _ _ _ _ _ _ _ (T179.setTop (mkF m 136 #[.val (.int x0), .val (.int ps), .val (.long jk), .second, .val (.int (3 : Int32)), .val (.ref b101)] []))
    refine Go.by (fun _ kont => XS.aload X179.here hx rfl (hb hby at_136) rfl rfl (XS.iload X179.here hx rfl (hb hby at_138) rfl kont)) ?_
    show Go _ _ _ _ _ _ _ (T179.setTop (mkF m 140 #[.val (.int x0), .val (.int ps), .val (.long jk), .second, .val (.int (3 : Int32)), .val (.ref b101)] [(.int (3 : Int32)), (.ref b101)]))
    obtain ⟨_, _, ⟨T181, L181, k181, n181⟩, -, X181, ⟨Lc181, hQ181, l181, y181, z181⟩, st181⟩ := Jvm.LawKit.callS X179 hx (y := (⟨"com/example/classwright/classwright/ClassBytes", "u4", "([BI)I"⟩ : MethodName)) hown (mvT hZ (hw _ (List.mem_of_getElem? (i := 2) rfl))) (mvT hZ (hw _ (List.mem_of_getElem? (i := 3) rfl))) (mvT hZ (hw _ (List.mem_of_getElem? (i := 4) rfl))) (mvT hZ (hw _ (List.mem_of_getElem? (i := 5) rfl))) (by decide) (backOf (W := 0) (rmU3 l Z a0 hw [] b101 k101 (nar .byte ((jk.toInt32).toInt8.toInt32)) (nar .byte ((((jk.toUInt64 >>> ((8 : Int32) &&& 0x3f).toInt64.toUInt64).toInt64).toInt32).toInt8.toInt32)) (nar .byte ((((jk.toUInt64 >>> ((16 : Int32) &&& 0x3f).toInt64.toUInt64).toInt64).toInt32).toInt8.toInt32)) (nar .byte (((x0.toUInt32 >>> ((24 : Int32) &&& 31).toUInt32).toInt32).toInt8.toInt32)) (nar .byte (((x0.toUInt32 >>> ((16 : Int32) &&& 31).toUInt32).toInt32).toInt8.toInt32)) (nar .byte (((x0.toUInt32 >>> ((8 : Int32) &&& 31).toUInt32).toInt32).toInt8.toInt32)) (nar .byte (x0.toInt8.toInt32)) (nar .byte ((((jk.toUInt64 >>> ((56 : Int32) &&& 0x3f).toInt64.toUInt64).toInt64).toInt32).toInt8.toInt32)) h179 n0 Z180 V179) hZ (hw _ (List.mem_of_getElem? (i := 5) rfl)) (hw _ (List.mem_of_getElem? (i := 4) rfl)) (by decide) (by decide)) (g := (mkF m 140 #[.val (.int x0), .val (.int ps), .val (.long jk), .second, .val (.int (3 : Int32)), .val (.ref b101)] [(.int (3 : Int32)), (.ref b101)])) rfl (by rw [hml]; rfl) (argsL := [(.ref b101), (.int (3 : Int32))]) (rest := []) (lenOf pd0_0 rfl) rfl (by show 2 * 0 + _ ≤ _; exact Nat.le_of_eq rfl) (hb hby at_140) (fun _ _ => ⟨rfl, e179, (by decide : 1 + 0 ≤ _), (by decide : 8 + 0 ≤ _)⟩)
    dsimp only [Pt.U, Pt.locs, Pt.cells, Pt.slots] at X181 l181 y181 z181 st181 hQ181
    subst l181 y181 z181
    obtain ⟨rfl, N181q, eh181⟩ := hQ181
    have N181 := Fr.app N179 N181q
    refine Go.by st181 ?_
    show Go _ _ _ _ _ _ _ (T181.setTop (mkF m 143 #[.val (.int x0), .val (.int ps), .val (.long jk), .second, .val (.int (3 : Int32)), .val (.ref b101)] [(.int ((((((nar .byte (((x0.toUInt32 >>> ((24 : Int32) &&& 31).toUInt32).toInt32).toInt8.toInt32)) &&& (255 : Int32)) <<< ((24 : Int32) &&& 31)) ||| (((nar .byte (((x0.toUInt32 >>> ((16 : Int32) &&& 31).toUInt32).toInt32).toInt8.toInt32)) &&& (255 : Int32)) <<< ((16 : Int32) &&& 31))) ||| (((nar .byte (((x0.toUInt32 >>> ((8 : Int32) &&& 31).toUInt32).toInt32).toInt8.toInt32)) &&& (255 : Int32)) <<< ((8 : Int32) &&& 31))) ||| ((nar .byte (x0.toInt8.toInt32)) &&& (255 : Int32))))]))
    refine Go.by (fun _ kont => XS.iloadN X181.here hx rfl (hb hby at_143) rfl kont) ?_
    show Go _ _ _ _ _ _ _ (T181.setTop (mkF m 144 #[.val (.int x0), .val (.int ps), .val (.long jk), .second, .val (.int (3 : Int32)), .val (.ref b101)] [(.int x0), (.int ((((((nar .byte (((x0.toUInt32 >>> ((24 : Int32) &&& 31).toUInt32).toInt32).toInt8.toInt32)) &&& (255 : Int32)) <<< ((24 : Int32) &&& 31)) ||| (((nar .byte (((x0.toUInt32 >>> ((16 : Int32) &&& 31).toUInt32).toInt32).toInt8.toInt32)) &&& (255 : Int32)) <<< ((16 : Int32) &&& 31))) ||| (((nar .byte (((x0.toUInt32 >>> ((8 : Int32) &&& 31).toUInt32).toInt32).toInt8.toInt32)) &&& (255 : Int32)) <<< ((8 : Int32) &&& 31))) ||| ((nar .byte (x0.toInt8.toInt32)) &&& (255 : Int32))))]))
    have hd182 : ((((((nar .byte (((x0.toUInt32 >>> ((24 : Int32) &&& 31).toUInt32).toInt32).toInt8.toInt32)) &&& (255 : Int32)) <<< ((24 : Int32) &&& 31)) ||| (((nar .byte (((x0.toUInt32 >>> ((16 : Int32) &&& 31).toUInt32).toInt32).toInt8.toInt32)) &&& (255 : Int32)) <<< ((16 : Int32) &&& 31))) ||| (((nar .byte (((x0.toUInt32 >>> ((8 : Int32) &&& 31).toUInt32).toInt32).toInt8.toInt32)) &&& (255 : Int32)) <<< ((8 : Int32) &&& 31))) ||| ((nar .byte (x0.toInt8.toInt32)) &&& (255 : Int32))) = x0 := own_asm _ _ _ _ x0 (by rw [own_by, c_iushr x0 24 24 (by decide) (by decide)]) (by rw [own_by, c_iushr x0 16 16 (by decide) (by decide)]) (by rw [own_by, c_iushr x0 8 8 (by decide) (by decide)]) (by rw [own_by])
    refine Go.by (fun _ kont => XS.icmpNo X181.here hx rfl (hb hby at_144) rfl (teq hd182).2 kont) ?_
    show Go _ _ _ _ _ _ _ (T181.setTop (mkF m 147 #[.val (.int x0), .val (.int ps), .val (.long jk), .second, .val (.int (3 : Int32)), .val (.ref b101)] []))
    refine Go.by (fun _ kont => XS.iconst X181.here hx rfl (hb hby at_147) (XS.goto X181.here hx rfl (pc0 := 148) (pc' := 152) rfl (hb hby at_148) (by decide) (by decide) kont)) ?_
    show Go _ _ _ _ _ _ _ (T181.setTop (mkF m 152 #[.val (.int x0), .val (.int ps), .val (.long jk), .second, .val (.int (3 : Int32)), .val (.ref b101)] [(.int (1 : Int32))]))
    refine Go.retN X181 hx (t := .boolean) hret (by simp) hlk (hb hby at_152) ?_ (by decide) (by decide)
    show Q0 Z h0 n0 (some (.int (1 : Int32))) T181.heap _
    rw [eh181]
    exact ⟨rfl, N181⟩
  · show Go _ _ _ _ _ _ _ (T125.setTop (mkF m 93 #[.val (.int x0), .val (.int ps), .val (.long jk), .second, .val (.int (4 : Int32)), .val (.ref b101)] []))
    refine Go.by (fun _ kont => XS.aload X125.here hx rfl (hb hby at_93) rfl rfl (XS.iload X125.here hx rfl (hb hby at_95) rfl (XS.iloadN X125.here hx rfl (hb hby at_97) rfl (XS.bipush X125.here hx rfl (hb hby at_98) (XS.iushr X125.here hx rfl (hb hby at_100) rfl (XS.i2b X125.here hx rfl (hb hby at_101) rfl kont)))))) ?_
    show Go _ _ _ _ _ _ _ (T125.setTop (mkF m 102 #[.val (.int x0), .val (.int ps), .val (.long jk), .second, .val (.int (4 : Int32)), .val (.ref b101)] [(.int (((x0.toUInt32 >>> ((24 : Int32) &&& 31).toUInt32).toInt32).toInt8.toInt32)), (.int (4 : Int32)), (.ref b101)]))
    obtain ⟨cl_q183, Ar_q183, q1_q183, S_q183, N_q183, H_q183, G_q183⟩ := id V125
    have hin_q183 : ¬ ((4 : Int32) < 0 ∨ cl_q183.slots.size ≤ ((4 : Int32)).toNatClampNeg) := inb_of S_q183 ⟨by decide, by decide⟩
    obtain ⟨T184, h184, X184, e184, W184, st184⟩ := stB X125 hx hZ e125 Ar_q183 (j := (4 : Int32)) hin_q183 (g := (mkF m 102 #[.val (.int x0), .val (.int ps), .val (.long jk), .second, .val (.int (4 : Int32)), .val (.ref b101)] [(.int (((x0.toUInt32 >>> ((24 : Int32) &&& 31).toUInt32).toInt32).toInt8.toInt32)), (.int (4 : Int32)), (.ref b101)])) rfl rfl (hb hby at_102)
    have V184 : Arv Z h184 b101 k101 .byte (8 : Int32) [(.int (nar .byte ((jk.toInt32).toInt8.toInt32))), (.int (nar .byte ((((jk.toUInt64 >>> ((8 : Int32) &&& 0x3f).toInt64.toUInt64).toInt64).toInt32).toInt8.toInt32))), (.int (nar .byte ((((jk.toUInt64 >>> ((16 : Int32) &&& 0x3f).toInt64.toUInt64).toInt64).toInt32).toInt8.toInt32))), (.int (nar .byte ((((jk.toUInt64 >>> ((24 : Int32) &&& 0x3f).toInt64.toUInt64).toInt64).toInt32).toInt8.toInt32))), (.int (nar .byte (((x0.toUInt32 >>> ((24 : Int32) &&& 31).toUInt32).toInt32).toInt8.toInt32))), (.int (nar .byte ((((jk.toUInt64 >>> ((40 : Int32) &&& 0x3f).toInt64.toUInt64).toInt64).toInt32).toInt8.toInt32))), (.int (nar .byte ((((jk.toUInt64 >>> ((48 : Int32) &&& 0x3f).toInt64.toUInt64).toInt64).toInt32).toInt8.toInt32))), (.int (nar .byte ((((jk.toUInt64 >>> ((56 : Int32) &&& 0x3f).toInt64.toUInt64).toInt64).toInt32).toInt8.toInt32)))] (.int (0 : Int32)) := Arv.set Ar_q183 q1_q183 S_q183 N_q183 H_q183 G_q183 (fits_nar_byte _) W184 4 rfl (Nat.le_of_ble_eq_true rfl)
    have Z185 := Nat.le_trans Z126 (Keep.of_wr W184).1
    have K185 : Keep h0 h184 [] := K126.wr W184 (Or.inr sz_b101)
    have N184 := Fr.snoc X184 N125 ge_b101
    refine Go.by st184 ?_
    show Go _ _ _ _ _ _ _ (T184.setTop (mkF m 103 #[.val (.int x0), .val (.int ps), .val (.long jk), .second, .val (.int (4 : Int32)), .val (.ref b101)] []))
    refine Go.by (fun _ kont => XS.aload X184.here hx rfl (hb hby at_103) rfl rfl (XS.iload X184.here hx rfl (hb hby at_105) rfl (XS.iconst X184.here hx rfl (hb hby at_107) (XS.iadd X184.here hx rfl (hb hby at_108) rfl kont)))) ?_
    show Go _ _ _ _ _ _ _ (T184.setTop (mkF m 109 #[.val (.int x0), .val (.int ps), .val (.long jk), .second, .val (.int (4 : Int32)), .val (.ref b101)] [(.int ((4 : Int32) + (1 : Int32))), (.ref b101)]))
    rw [show ((4 : Int32) + (1 : Int32)) = (5 : Int32) from by decide]
    show Go _ _ _ _ _ _ _ (T184.setTop (mkF m 109 #[.val (.int x0), .val (.int ps), .val (.long jk), .second, .val (.int (4 : Int32)), .val (.ref b101)] [(.int (5 : Int32)), (.ref b101)]))
    refine Go.by (fun _ kont => XS.iloadN X184.here hx rfl (hb hby at_109) rfl (XS.bipush X184.here hx rfl (hb hby at_110) (XS.iushr X184.here hx rfl (hb hby at_112) rfl (XS.i2b X184.here hx rfl (hb hby at_113) rfl kont)))) ?_
    show Go _ _ _ _ _ _ _ (T184.setTop (mkF m 114 #[.val (.int x0), .val (.int ps), .val (.long jk), .second, .val (.int (4 : Int32)), .val (.ref b101)] [(.int (((x0.toUInt32 >>> ((16 : Int32) &&& 31).toUInt32).toInt32).toInt8.toInt32)), (.int (5 : Int32)), (.ref b101)]))
    obtain ⟨cl_q186, Ar_q186, q1_q186, S_q186, N_q186, H_q186, G_q186⟩ := id V184
    have hin_q186 : ¬ ((5 : Int32) < 0 ∨ cl_q186.slots.size ≤ ((5 : Int32)).toNatClampNeg) := inb_of S_q186 ⟨by decide, by decide⟩
    obtain ⟨T187, h187, X187, e187, W187, st187⟩ := stB X184 hx hZ e184 Ar_q186 (j := (5 : Int32)) hin_q186 (g := (mkF m 114 #[.val (.int x0), .val (.int ps), .val (.long jk), .second, .val (.int (4 : Int32)), .val (.ref b101)] [(.int (((x0.toUInt32 >>> ((16 : Int32) &&& 31).toUInt32).toInt32).toInt8.toInt32)), (.int (5 : Int32)), (.ref b101)])) rfl rfl (hb hby at_114)
    have V187 : Arv Z h187 b101 k101 .byte (8 : Int32) [(.int (nar .byte ((jk.toInt32).toInt8.toInt32))), (.int (nar .byte ((((jk.toUInt64 >>> ((8 : Int32) &&& 0x3f).toInt64.toUInt64).toInt64).toInt32).toInt8.toInt32))), (.int (nar .byte ((((jk.toUInt64 >>> ((16 : Int32) &&& 0x3f).toInt64.toUInt64).toInt64).toInt32).toInt8.toInt32))), (.int (nar .byte ((((jk.toUInt64 >>> ((24 : Int32) &&& 0x3f).toInt64.toUInt64).toInt64).toInt32).toInt8.toInt32))), (.int (nar .byte (((x0.toUInt32 >>> ((24 : Int32) &&& 31).toUInt32).toInt32).toInt8.toInt32))), (.int (nar .byte (((x0.toUInt32 >>> ((16 : Int32) &&& 31).toUInt32).toInt32).toInt8.toInt32))), (.int (nar .byte ((((jk.toUInt64 >>> ((48 : Int32) &&& 0x3f).toInt64.toUInt64).toInt64).toInt32).toInt8.toInt32))), (.int (nar .byte ((((jk.toUInt64 >>> ((56 : Int32) &&& 0x3f).toInt64.toUInt64).toInt64).toInt32).toInt8.toInt32)))] (.int (0 : Int32)) := Arv.set Ar_q186 q1_q186 S_q186 N_q186 H_q186 G_q186 (fits_nar_byte _) W187 5 rfl (Nat.le_of_ble_eq_true rfl)
    have Z188 := Nat.le_trans Z185 (Keep.of_wr W187).1
    have K188 : Keep h0 h187 [] := K185.wr W187 (Or.inr sz_b101)
    have N187 := Fr.snoc X187 N184 ge_b101
    refine Go.by st187 ?_
    show Go _ _ _ _ _ _ _ (T187.setTop (mkF m 115 #[.val (.int x0), .val (.int ps), .val (.long jk), .second, .val (.int (4 : Int32)), .val (.ref b101)] []))
    refine Go.by (fun _ kont => XS.aload X187.here hx rfl (hb hby at_115) rfl rfl (XS.iload X187.here hx rfl (hb hby at_117) rfl (XS.iconst X187.here hx rfl (hb hby at_119) (XS.iadd X187.here hx rfl (hb hby at_120) rfl kont)))) ?_
    show Go _ _ _ _ _ _ _ (T187.setTop (mkF m 121 #[.val (.int x0), .val (.int ps), .val (.long jk), .second, .val (.int (4 : Int32)), .val (.ref b101)] [(.int ((4 : Int32) + (2 : Int32))), (.ref b101)]))
    rw [show ((4 : Int32) + (2 : Int32)) = (6 : Int32) from by decide]
    show Go _ _ _ _ _ _ _ (T187.setTop (mkF m 121 #[.val (.int x0), .val (.int ps), .val (.long jk), .second, .val (.int (4 : Int32)), .val (.ref b101)] [(.int (6 : Int32)), (.ref b101)]))
    refine Go.by (fun _ kont => XS.iloadN X187.here hx rfl (hb hby at_121) rfl (XS.bipush X187.here hx rfl (hb hby at_122) (XS.iushr X187.here hx rfl (hb hby at_124) rfl (XS.i2b X187.here hx rfl (hb hby at_125) rfl kont)))) ?_
    show Go _ _ _ _ _ _ _ (T187.setTop (mkF m 126 #[.val (.int x0), .val (.int ps), .val (.long jk), .second, .val (.int (4 : Int32)), .val (.ref b101)] [(.int (((x0.toUInt32 >>> ((8 : Int32) &&& 31).toUInt32).toInt32).toInt8.toInt32)), (.int (6 : Int32)), (.ref b101)]))
    obtain ⟨cl_q189, Ar_q189, q1_q189, S_q189, N_q189, H_q189, G_q189⟩ := id V187
    have hin_q189 : ¬ ((6 : Int32) < 0 ∨ cl_q189.slots.size ≤ ((6 : Int32)).toNatClampNeg) := inb_of S_q189 ⟨by decide, by decide⟩
    obtain ⟨T190, h190, X190, e190, W190, st190⟩ := stB X187 hx hZ e187 Ar_q189 (j := (6 : Int32)) hin_q189 (g := (mkF m 126 #[.val (.int x0), .val (.int ps), .val (.long jk), .second, .val (.int (4 : Int32)), .val (.ref b101)] [(.int (((x0.toUInt32 >>> ((8 : Int32) &&& 31).toUInt32).toInt32).toInt8.toInt32)), (.int (6 : Int32)), (.ref b101)])) rfl rfl (hb hby at_126)
    have V190 : Arv Z h190 b101 k101 .byte (8 : Int32) [(.int (nar .byte ((jk.toInt32).toInt8.toInt32))), (.int (nar .byte ((((jk.toUInt64 >>> ((8 : Int32) &&& 0x3f).toInt64.toUInt64).toInt64).toInt32).toInt8.toInt32))), (.int (nar .byte ((((jk.toUInt64 >>> ((16 : Int32) &&& 0x3f).toInt64.toUInt64).toInt64).toInt32).toInt8.toInt32))), (.int (nar .byte ((((jk.toUInt64 >>> ((24 : Int32) &&& 0x3f).toInt64.toUInt64).toInt64).toInt32).toInt8.toInt32))), (.int (nar .byte (((x0.toUInt32 >>> ((24 : Int32) &&& 31).toUInt32).toInt32).toInt8.toInt32))), (.int (nar .byte (((x0.toUInt32 >>> ((16 : Int32) &&& 31).toUInt32).toInt32).toInt8.toInt32))), (.int (nar .byte (((x0.toUInt32 >>> ((8 : Int32) &&& 31).toUInt32).toInt32).toInt8.toInt32))), (.int (nar .byte ((((jk.toUInt64 >>> ((56 : Int32) &&& 0x3f).toInt64.toUInt64).toInt64).toInt32).toInt8.toInt32)))] (.int (0 : Int32)) := Arv.set Ar_q189 q1_q189 S_q189 N_q189 H_q189 G_q189 (fits_nar_byte _) W190 6 rfl (Nat.le_of_ble_eq_true rfl)
    have Z191 := Nat.le_trans Z188 (Keep.of_wr W190).1
    have K191 : Keep h0 h190 [] := K188.wr W190 (Or.inr sz_b101)
    have N190 := Fr.snoc X190 N187 ge_b101
    refine Go.by st190 ?_
    show Go _ _ _ _ _ _ _ (T190.setTop (mkF m 127 #[.val (.int x0), .val (.int ps), .val (.long jk), .second, .val (.int (4 : Int32)), .val (.ref b101)] []))
    refine Go.by (fun _ kont => XS.aload X190.here hx rfl (hb hby at_127) rfl rfl (XS.iload X190.here hx rfl (hb hby at_129) rfl (XS.iconst X190.here hx rfl (hb hby at_131) (XS.iadd X190.here hx rfl (hb hby at_132) rfl kont)))) ?_
    show Go _ _ _ _ _ _ _ (T190.setTop (mkF m 133 #[.val (.int x0), .val (.int ps), .val (.long jk), .second, .val (.int (4 : Int32)), .val (.ref b101)] [(.int ((4 : Int32) + (3 : Int32))), (.ref b101)]))
    rw [show ((4 : Int32) + (3 : Int32)) = (7 : Int32) from by decide]
    show Go _ _ _ _ _ _ _ (T190.setTop (mkF m 133 #[.val (.int x0), .val (.int ps), .val (.long jk), .second, .val (.int (4 : Int32)), .val (.ref b101)] [(.int (7 : Int32)), (.ref b101)]))
    refine Go.by (fun _ kont => XS.iloadN X190.here hx rfl (hb hby at_133) rfl (XS.i2b X190.here hx rfl (hb hby at_134) rfl kont)) ?_
    show Go _ _ _ _ _ _ _ (T190.setTop (mkF m 135 #[.val (.int x0), .val (.int ps), .val (.long jk), .second, .val (.int (4 : Int32)), .val (.ref b101)] [(.int (x0.toInt8.toInt32)), (.int (7 : Int32)), (.ref b101)]))
    obtain ⟨cl_q192, Ar_q192, q1_q192, S_q192, N_q192, H_q192, G_q192⟩ := id V190
    have hin_q192 : ¬ ((7 : Int32) < 0 ∨ cl_q192.slots.size ≤ ((7 : Int32)).toNatClampNeg) := inb_of S_q192 ⟨by decide, by decide⟩
    obtain ⟨T193, h193, X193, e193, W193, st193⟩ := stB X190 hx hZ e190 Ar_q192 (j := (7 : Int32)) hin_q192 (g := (mkF m 135 #[.val (.int x0), .val (.int ps), .val (.long jk), .second, .val (.int (4 : Int32)), .val (.ref b101)] [(.int (x0.toInt8.toInt32)), (.int (7 : Int32)), (.ref b101)])) rfl rfl (hb hby at_135)
    have V193 : Arv Z h193 b101 k101 .byte (8 : Int32) [(.int (nar .byte ((jk.toInt32).toInt8.toInt32))), (.int (nar .byte ((((jk.toUInt64 >>> ((8 : Int32) &&& 0x3f).toInt64.toUInt64).toInt64).toInt32).toInt8.toInt32))), (.int (nar .byte ((((jk.toUInt64 >>> ((16 : Int32) &&& 0x3f).toInt64.toUInt64).toInt64).toInt32).toInt8.toInt32))), (.int (nar .byte ((((jk.toUInt64 >>> ((24 : Int32) &&& 0x3f).toInt64.toUInt64).toInt64).toInt32).toInt8.toInt32))), (.int (nar .byte (((x0.toUInt32 >>> ((24 : Int32) &&& 31).toUInt32).toInt32).toInt8.toInt32))), (.int (nar .byte (((x0.toUInt32 >>> ((16 : Int32) &&& 31).toUInt32).toInt32).toInt8.toInt32))), (.int (nar .byte (((x0.toUInt32 >>> ((8 : Int32) &&& 31).toUInt32).toInt32).toInt8.toInt32))), (.int (nar .byte (x0.toInt8.toInt32)))] (.int (0 : Int32)) := Arv.set Ar_q192 q1_q192 S_q192 N_q192 H_q192 G_q192 (fits_nar_byte _) W193 7 rfl (Nat.le_of_ble_eq_true rfl)
    have Z194 := Nat.le_trans Z191 (Keep.of_wr W193).1
    have K194 : Keep h0 h193 [] := K191.wr W193 (Or.inr sz_b101)
    have N193 := Fr.snoc X193 N190 ge_b101
    refine Go.by st193 ?_
    show Go _ _ _ _ _ _ _ (T193.setTop (mkF m 136 #[.val (.int x0), .val (.int ps), .val (.long jk), .second, .val (.int (4 : Int32)), .val (.ref b101)] []))
    refine Go.by (fun _ kont => XS.aload X193.here hx rfl (hb hby at_136) rfl rfl (XS.iload X193.here hx rfl (hb hby at_138) rfl kont)) ?_
    show Go _ _ _ _ _ _ _ (T193.setTop (mkF m 140 #[.val (.int x0), .val (.int ps), .val (.long jk), .second, .val (.int (4 : Int32)), .val (.ref b101)] [(.int (4 : Int32)), (.ref b101)]))
    obtain ⟨_, _, ⟨T195, L195, k195, n195⟩, -, X195, ⟨Lc195, hQ195, l195, y195, z195⟩, st195⟩ := Jvm.LawKit.callS X193 hx (y := (⟨"com/example/classwright/classwright/ClassBytes", "u4", "([BI)I"⟩ : MethodName)) hown (mvT hZ (hw _ (List.mem_of_getElem? (i := 2) rfl))) (mvT hZ (hw _ (List.mem_of_getElem? (i := 3) rfl))) (mvT hZ (hw _ (List.mem_of_getElem? (i := 4) rfl))) (mvT hZ (hw _ (List.mem_of_getElem? (i := 5) rfl))) (by decide) (backOf (W := 0) (rmU4 l Z a0 hw [] b101 k101 (nar .byte ((jk.toInt32).toInt8.toInt32)) (nar .byte ((((jk.toUInt64 >>> ((8 : Int32) &&& 0x3f).toInt64.toUInt64).toInt64).toInt32).toInt8.toInt32)) (nar .byte ((((jk.toUInt64 >>> ((16 : Int32) &&& 0x3f).toInt64.toUInt64).toInt64).toInt32).toInt8.toInt32)) (nar .byte ((((jk.toUInt64 >>> ((24 : Int32) &&& 0x3f).toInt64.toUInt64).toInt64).toInt32).toInt8.toInt32)) (nar .byte (((x0.toUInt32 >>> ((24 : Int32) &&& 31).toUInt32).toInt32).toInt8.toInt32)) (nar .byte (((x0.toUInt32 >>> ((16 : Int32) &&& 31).toUInt32).toInt32).toInt8.toInt32)) (nar .byte (((x0.toUInt32 >>> ((8 : Int32) &&& 31).toUInt32).toInt32).toInt8.toInt32)) (nar .byte (x0.toInt8.toInt32)) h193 n0 Z194 V193) hZ (hw _ (List.mem_of_getElem? (i := 5) rfl)) (hw _ (List.mem_of_getElem? (i := 4) rfl)) (by decide) (by decide)) (g := (mkF m 140 #[.val (.int x0), .val (.int ps), .val (.long jk), .second, .val (.int (4 : Int32)), .val (.ref b101)] [(.int (4 : Int32)), (.ref b101)])) rfl (by rw [hml]; rfl) (argsL := [(.ref b101), (.int (4 : Int32))]) (rest := []) (lenOf pd0_0 rfl) rfl (by show 2 * 0 + _ ≤ _; exact Nat.le_of_eq rfl) (hb hby at_140) (fun _ _ => ⟨rfl, e193, (by decide : 1 + 0 ≤ _), (by decide : 8 + 0 ≤ _)⟩)
    dsimp only [Pt.U, Pt.locs, Pt.cells, Pt.slots] at X195 l195 y195 z195 st195 hQ195
    subst l195 y195 z195
    obtain ⟨rfl, N195q, eh195⟩ := hQ195
    have N195 := Fr.app N193 N195q
    refine Go.by st195 ?_
    show Go _ _ _ _ _ _ _ (T195.setTop (mkF m 143 #[.val (.int x0), .val (.int ps), .val (.long jk), .second, .val (.int (4 : Int32)), .val (.ref b101)] [(.int ((((((nar .byte (((x0.toUInt32 >>> ((24 : Int32) &&& 31).toUInt32).toInt32).toInt8.toInt32)) &&& (255 : Int32)) <<< ((24 : Int32) &&& 31)) ||| (((nar .byte (((x0.toUInt32 >>> ((16 : Int32) &&& 31).toUInt32).toInt32).toInt8.toInt32)) &&& (255 : Int32)) <<< ((16 : Int32) &&& 31))) ||| (((nar .byte (((x0.toUInt32 >>> ((8 : Int32) &&& 31).toUInt32).toInt32).toInt8.toInt32)) &&& (255 : Int32)) <<< ((8 : Int32) &&& 31))) ||| ((nar .byte (x0.toInt8.toInt32)) &&& (255 : Int32))))]))
    refine Go.by (fun _ kont => XS.iloadN X195.here hx rfl (hb hby at_143) rfl kont) ?_
    show Go _ _ _ _ _ _ _ (T195.setTop (mkF m 144 #[.val (.int x0), .val (.int ps), .val (.long jk), .second, .val (.int (4 : Int32)), .val (.ref b101)] [(.int x0), (.int ((((((nar .byte (((x0.toUInt32 >>> ((24 : Int32) &&& 31).toUInt32).toInt32).toInt8.toInt32)) &&& (255 : Int32)) <<< ((24 : Int32) &&& 31)) ||| (((nar .byte (((x0.toUInt32 >>> ((16 : Int32) &&& 31).toUInt32).toInt32).toInt8.toInt32)) &&& (255 : Int32)) <<< ((16 : Int32) &&& 31))) ||| (((nar .byte (((x0.toUInt32 >>> ((8 : Int32) &&& 31).toUInt32).toInt32).toInt8.toInt32)) &&& (255 : Int32)) <<< ((8 : Int32) &&& 31))) ||| ((nar .byte (x0.toInt8.toInt32)) &&& (255 : Int32))))]))
    have hd196 : ((((((nar .byte (((x0.toUInt32 >>> ((24 : Int32) &&& 31).toUInt32).toInt32).toInt8.toInt32)) &&& (255 : Int32)) <<< ((24 : Int32) &&& 31)) ||| (((nar .byte (((x0.toUInt32 >>> ((16 : Int32) &&& 31).toUInt32).toInt32).toInt8.toInt32)) &&& (255 : Int32)) <<< ((16 : Int32) &&& 31))) ||| (((nar .byte (((x0.toUInt32 >>> ((8 : Int32) &&& 31).toUInt32).toInt32).toInt8.toInt32)) &&& (255 : Int32)) <<< ((8 : Int32) &&& 31))) ||| ((nar .byte (x0.toInt8.toInt32)) &&& (255 : Int32))) = x0 := own_asm _ _ _ _ x0 (by rw [own_by, c_iushr x0 24 24 (by decide) (by decide)]) (by rw [own_by, c_iushr x0 16 16 (by decide) (by decide)]) (by rw [own_by, c_iushr x0 8 8 (by decide) (by decide)]) (by rw [own_by])
    refine Go.by (fun _ kont => XS.icmpNo X195.here hx rfl (hb hby at_144) rfl (teq hd196).2 kont) ?_
    show Go _ _ _ _ _ _ _ (T195.setTop (mkF m 147 #[.val (.int x0), .val (.int ps), .val (.long jk), .second, .val (.int (4 : Int32)), .val (.ref b101)] []))
    refine Go.by (fun _ kont => XS.iconst X195.here hx rfl (hb hby at_147) (XS.goto X195.here hx rfl (pc0 := 148) (pc' := 152) rfl (hb hby at_148) (by decide) (by decide) kont)) ?_
    show Go _ _ _ _ _ _ _ (T195.setTop (mkF m 152 #[.val (.int x0), .val (.int ps), .val (.long jk), .second, .val (.int (4 : Int32)), .val (.ref b101)] [(.int (1 : Int32))]))
    refine Go.retN X195 hx (t := .boolean) hret (by simp) hlk (hb hby at_152) ?_ (by decide) (by decide)
    show Q0 Z h0 n0 (some (.int (1 : Int32))) T195.heap _
    rw [eh195]
    exact ⟨rfl, N195⟩

set_option maxRecDepth 65536 in
set_option maxHeartbeats 40000000 in
theorem comes_1 {Post : Tables → Env → Array Value → State → Outcome → State → Prop} (hpost : ∀ tb e args s v u, (limb_1_1.after args s (.returned v) u = true ∧ limb_1_2.after args s (.returned v) u = true ∧ True) → FrameEnd s (.returned v) u (Jvm.fieldLocs frame_1_writes args s ++ Jvm.arrayLocs frame_1_arrays args s ++ Jvm.staticLocs frame_1_statics s) 16 128 → Post tb e args s (.returned v) u) :
    ArmFor flags0 classFile x code maxLocals ret World_1 tables_1 room_1 Calls_1 rest_1 Pre_1 Post := by
  intro l hfl _ _ p e ha hc hk s m args below hf hA hF happ hP
  obtain ⟨hcalls, hrest, hpre⟩ := hP
  obtain ⟨-, -, -, hnamed, -, -, -, hat⟩ := (Spec.applies_iff hf).mp happ
  obtain ⟨hg, hn⟩ := and_e (Cond.before_iff.mp (show (Jvm.Cond.and given_1 narrow_1).before args s = true from hpre))
  obtain ⟨hh1, hh2⟩ := and_e hg
  obtain ⟨hh3, hh4⟩ := and_e hh2
  obtain ⟨hh5, hh6⟩ := and_e hh4
  obtain ⟨w0, w1, w2, rfl⟩ : ∃ w0 w1 w2 : Value, args = #[w0, w1, w2] := by
    have hs : args.size = 3 := by simpa [Cond.value, given_1] using hh1
    obtain ⟨L⟩ := args
    match L, hs with
    | [w0, w1, w2], _ => exact ⟨w0, w1, w2, rfl⟩
  have hw := fun d (hd : d ∈ tables_1) => atoms_spec (ws := Jvm.Cond.code x code maxLocals ret :: tables_1) hat d (List.mem_cons_of_mem _ hd)
  obtain ⟨i0, ei0⟩ := is_v hh3
  obtain rfl : w0 = (.int i0) := Option.some.inj ei0
  obtain ⟨i1, ei1⟩ := is_v hh5
  obtain rfl : w1 = (.int i1) := Option.some.inj ei1
  obtain ⟨i2, ei2⟩ := isL_v hh6
  obtain rfl : w2 = (.long i2) := Option.some.inj ei2
  obtain ⟨n, o, h1, h2, h3, _, L, rfl, ⟨rfl, N⟩, hq⟩ := rm0 l s _ hw tables_1 i0 i1 i2  s.heap s.heap.size (Nat.le_refl _)  p e ha hc hk s m _ below hf ((Spec.applies_iff_loose hf).mp happ).1 ⟨rfl, State.Warmed39.refl s, rfl⟩ trivial
  refine ⟨n, _, h1, h2, h3, hpost _ _ _ _ _ _ ⟨Cond.after_iff.mpr rfl, Cond.after_iff.mpr (eq_i res_at (Term.int_eval (1)) rfl), trivial⟩ ⟨hq.1, hq.2.1, (hq.2.2.sift fun y hy => Or.inr (N y hy)).mono (by decide) (by decide)⟩⟩
theorem main_1_1 : Claimed_1_1 := comes_1 fun _ _ _ _ _ _ h hF => ⟨h.1, hF⟩
theorem main_1_2 : Claimed_1_2 := comes_1 fun _ _ _ _ _ _ h hF => ⟨h.2.1, hF⟩

end Jvm.Pilot.@@N@@
namespace Jvm.Pilot.@@N@@
open Jvm Jvm.ClassFile Sem Op Lib Jvm.Free Jvm.Stand Jvm.Pilot.@@N@@.Jvm.D
/-! MADE BY PROGRAM (witnessworld.py) out of the Statement's table words and the real class files: 9 classes; the members and pool entries that the words name. The judged class is class 1, her method 1. -/
namespace start1
open Jvm.ClassFile
def u (s : String) : CpInfo := .utf8 (stringToUtf16 s)
/-- a pool by its gaps: so many unusable entries, then the entry; so many at the end -/
def gap : Nat → List CpInfo → List CpInfo
  | 0, r => r
  | n + 1, r => .unusable :: gap n r
def poolList (es : List (Nat × CpInfo)) (last : Nat) : List CpInfo := es.foldr (fun e r => gap e.1 (e.2 :: r)) (gap last [])
def pool (es : List (Nat × CpInfo)) (last : Nat) : Array CpInfo := ⟨poolList es last⟩
def fileOf (pool : Array CpInfo) (this : Nat) (attrs : Array Attribute := #[]) (ms : Array MethodInfo := #[]) (fl : Nat := 33) (sup : Nat := 0) (ifs : Array Nat := #[]) (fds : Array FieldInfo := #[]) : ClassFile where
  minorVersion := 0
  majorVersion := 65
  constantPool := pool
  accessFlags := fl
  thisClass := this
  superClass := sup
  interfaces := ifs
  fields := fds
  methods := ms
  attributes := attrs
def plain (name : String) (sup : Option ClassId) : Class where
  name := name
  kind := .ordinary
  loader := none
  accessFlags := 33
  super := sup
  interfaces := #[]
  cf := none
  fields := #[]
  methods := #[]
  instanceTypes := #[]
  staticTypes := #[]
  resolved := #[]
  callSites := []
  init := .initialized
  statics := none
  mirror := none

def pool0 : Array CpInfo := pool [(5, u "<init>"), (0, u "()V"), (1, .class_ 10), (1, u "java/lang/Object")] 113

def k0m0 : Method := { name := "<init>", desc := "()V", sig := { parameters := [], returnType := none }, accessFlags := 1, code := none }
/-- java/lang/Object -/
def k0 : Class := { plain "java/lang/Object" none with
  accessFlags := 33
  interfaces := #[]
  cf := some (fileOf pool0 8 #[] #[{ accessFlags := 1, nameIndex := 5, descriptorIndex := 6, attributes := #[] }] 33 0 #[] #[])
  fields := #[]
  methods := #[k0m0]
  instanceTypes := #[]
  staticTypes := #[]
  resolved := Array.replicate 124 none
  statics := none }

def pool1 : Array CpInfo := pool [(2, .class_ 4), (1, u "java/lang/Object"), (0, u "<init>"), (0, u "()V"), (0, .integer 2147483647), (0, .methodref 9 10), (0, .class_ 11), (0, .nameAndType 12 13), (0, u "com/example/classwright/classwright/ClassBytes"), (0, u "u4"), (0, u "([BI)I"), (0, .class_ 15), (0, u "com/example/classwright/classwright/ClassBytesU4PinLaw"), (2, u "law"), (0, u "(IIJ)Z")] 5

def k1m0 : Method := { name := "<init>", desc := "()V", sig := { parameters := [], returnType := none }, accessFlags := 1, code := none }
def k1c1 : Code := { maxStack := 5, maxLocals := 6, code := code, exceptionTable := #[], attributes := #[] }
def k1m1 : Method := { name := "law", desc := "(IIJ)Z", sig := { parameters := [.int, .int, .long], returnType := some .boolean }, accessFlags := 9, code := some k1c1 }
/-- com/example/classwright/classwright/ClassBytesU4PinLaw -/
def k1 : Class := { plain "com/example/classwright/classwright/ClassBytesU4PinLaw" (some 0) with
  accessFlags := 49
  interfaces := #[]
  cf := some (fileOf pool1 14 #[] #[{ accessFlags := 1, nameIndex := 5, descriptorIndex := 6, attributes := #[] }, { accessFlags := 9, nameIndex := 18, descriptorIndex := 19, attributes := #[] }] 49 2 #[] #[])
  fields := #[]
  methods := #[k1m0, k1m1]
  instanceTypes := #[]
  staticTypes := #[]
  resolved := Array.replicate 25 none
  statics := none }

def pool2 : Array CpInfo := pool [(4, .class_ 6), (1, u "com/example/classwright/classwright/ClassBytes"), (3, .class_ 12), (1, u "java/lang/Object"), (3, u "bytes"), (0, u "[B"), (2, u "position"), (0, u "I"), (2, u "end"), (2, u "whole"), (0, u "Ljava/lang/String;"), (2, u "attributeStart"), (2, u "checks"), (0, u "Z"), (17, u "([BI)I"), (2, u "u4"), (3, .class_ 61), (0, u "com/example/classwright/classwright/ClassBytes$Count"), (2, u "counting"), (0, u "Lcom/example/classwright/classwright/ClassBytes$Count;"), (86, u "ATTRIBUTE_END")] 66

def k2c0 : Code := { maxStack := 4, maxLocals := 2, code := prog_21_method_15_code, exceptionTable := #[], attributes := #[] }
def k2m0 : Method := { name := "u4", desc := "([BI)I", sig := { parameters := [(.array .byte), .int], returnType := some .int }, accessFlags := 8, code := some k2c0 }
/-- com/example/classwright/classwright/ClassBytes -/
def k2 : Class := { plain "com/example/classwright/classwright/ClassBytes" (some 0) with
  accessFlags := 48
  interfaces := #[]
  cf := some (fileOf pool2 4 #[.nestMembers #[60]] #[{ accessFlags := 8, nameIndex := 56, descriptorIndex := 53, attributes := #[] }] 48 10 #[] #[{ accessFlags := 26, nameIndex := 152, descriptorIndex := 28, attributes := #[] }, { accessFlags := 18, nameIndex := 16, descriptorIndex := 17, attributes := #[] }, { accessFlags := 18, nameIndex := 24, descriptorIndex := 21, attributes := #[] }, { accessFlags := 18, nameIndex := 27, descriptorIndex := 28, attributes := #[] }, { accessFlags := 18, nameIndex := 31, descriptorIndex := 21, attributes := #[] }, { accessFlags := 18, nameIndex := 34, descriptorIndex := 35, attributes := #[] }, { accessFlags := 2, nameIndex := 20, descriptorIndex := 21, attributes := #[] }, { accessFlags := 2, nameIndex := 64, descriptorIndex := 65, attributes := #[] }])
  fields := #[{ name := "ATTRIBUTE_END", type := (.object "java/lang/String"), accessFlags := 26, slot := 0, constantValue := 0 }, { name := "bytes", type := (.array .byte), accessFlags := 18, slot := 0, constantValue := 0 }, { name := "end", type := .int, accessFlags := 18, slot := 1, constantValue := 0 }, { name := "whole", type := (.object "java/lang/String"), accessFlags := 18, slot := 2, constantValue := 0 }, { name := "attributeStart", type := .int, accessFlags := 18, slot := 3, constantValue := 0 }, { name := "checks", type := .boolean, accessFlags := 18, slot := 4, constantValue := 0 }, { name := "position", type := .int, accessFlags := 2, slot := 5, constantValue := 0 }, { name := "counting", type := (.object "com/example/classwright/classwright/ClassBytes$Count"), accessFlags := 2, slot := 6, constantValue := 0 }]
  methods := #[k2m0]
  instanceTypes := #[(.array .byte), .int, (.object "java/lang/String"), .int, .boolean, .int, (.object "com/example/classwright/classwright/ClassBytes$Count")]
  staticTypes := #[(.object "java/lang/String")]
  resolved := Array.replicate 219 none
  statics := none }

def pool3 : Array CpInfo := pool [(1, u "java/lang/Cloneable"), (0, .class_ 1), (0, u "java/lang/Object"), (0, .class_ 3)] 3

/-- java/lang/Cloneable -/
def k3 : Class := { plain "java/lang/Cloneable" (some 0) with
  accessFlags := 1537
  interfaces := #[]
  cf := some (fileOf pool3 2 #[] #[] 1537 4 #[] #[])
  fields := #[]
  methods := #[]
  instanceTypes := #[]
  staticTypes := #[]
  resolved := Array.replicate 8 none
  statics := none }

def pool4 : Array CpInfo := pool [(1, u "java/io/Serializable"), (0, .class_ 1), (0, u "java/lang/Object"), (0, .class_ 3)] 3

/-- java/io/Serializable -/
def k4 : Class := { plain "java/io/Serializable" (some 0) with
  accessFlags := 1537
  interfaces := #[]
  cf := some (fileOf pool4 2 #[] #[] 1537 4 #[] #[])
  fields := #[]
  methods := #[]
  instanceTypes := #[]
  staticTypes := #[]
  resolved := Array.replicate 8 none
  statics := none }

/-- the primitive byte -/
def k5 : Class := { plain "byte" none with kind := .primitive 'B', accessFlags := 0x411 }
/-- [B -/
def k6 : Class := { plain "[B" (some 0) with kind := .array 5 .byte, interfaces := #[3, 4], accessFlags := 1041 }

/-- the primitive int -/
def k7 : Class := { plain "int" none with kind := .primitive 'I', accessFlags := 0x411 }
/-- [I -/
def k8 : Class := { plain "[I" (some 0) with kind := .array 7 .int, interfaces := #[3, 4], accessFlags := 1041 }

def heap : Heap := #[]
def classes : Array Class := #[k0, k1, k2, k3, k4, k5, k6, k7, k8]
def interned : List (Array UInt16 × Addr) := []
def slotsUsed : Nat := 0
def theMethod : MethodId := ⟨1, 1⟩
def args0 : Array Value := #[.int 305419896, .int 7, .long 81985529216486895]
def aboutOver (below : List Frame) : State where
  vm := { classes := classes, interned := interned.toArray }
  heap := heap
  slotsUsed := slotsUsed
  threads := #[{ frames := .invoking theMethod args0 :: below }]
def below0 : List Frame := [.native { method := ⟨0, 0⟩, args := #[] }]
def about1 : State := aboutOver below0
def p0 : Program := .bare "" "" ""
def e0 : Env := launch0.env 0 0 0
theorem w_frames : about1.frames = Frame.invoking theMethod args0 :: below0 := rfl
set_option maxRecDepth 65536 in
theorem w_args : argsFit about1.vm theMethod args0 = true := by decide +kernel
set_option maxRecDepth 65536 in
theorem w_heap : heapFits about1 = true := by decide +kernel
set_option maxRecDepth 65536 in
theorem w_runnable : about1.curStatus? = some .runnable := by decide +kernel
set_option maxRecDepth 65536 in
theorem w_alone : about1.alone = true := by decide +kernel
set_option maxRecDepth 65536 in
theorem w_named : about1.methodNamed? x = some theMethod := by decide +kernel
set_option maxRecDepth 65536 in
theorem w_hears : about1.hears theMethod below0 = true := by decide +kernel
set_option maxRecDepth 65536 in
theorem w_ripe : about1.ripe theMethod args0 below0 = true := by decide +kernel
theorem w_running : about1.status = .running := rfl
set_option maxRecDepth 65536 in
theorem w_room : about1.hasRoom e0.platform room_1 = true :=
  launch0.hasRoom_least _ room_1 (by decide +kernel) (by decide +kernel) (by decide +kernel) (by decide +kernel) (by decide +kernel) (by decide +kernel)
theorem allAtoms_all (ts : List Jvm.Cond) (a : Array Jvm.Value) (st : Jvm.State) : (allAtoms ts).before a st = ts.all (fun c => c.before a st) := by
  induction ts with
  | nil => rfl
  | cons c t ih =>
    show (Jvm.Cond.and c (allAtoms t)).before a st = _
    rw [Jvm.Cond.before_and, ih, List.all_cons]
def words1 : List Jvm.Cond := Jvm.Cond.code x code maxLocals ret :: tables_1
/-- a 'code' word, met by the world's own term for the bytes: nothing is compared byte by byte -/
theorem code_word {y : MethodName} {bytes : ByteArray} {mx : Nat} {rt : Option FieldType} {a : Array Value} {s : State} {m : MethodId} {meth : Method} {c : Code} (h1 : s.methodNamed? y = some m) (h2 : s.vm.method? m = some meth) (h3 : meth.code = some c) (h4 : c.code = bytes)
    (h5 : (c.maxLocals == mx && c.exceptionTable.isEmpty && decide (c.maxStack ≤ mostOperands) && decide (meth.sig.returnType = rt) && !meth.locks && decide (parseMethodDescriptor y.desc = some meth.sig)) = true) : (Jvm.Cond.code y bytes mx rt).before a s = true := by
  simp only [Bool.and_eq_true, beq_iff_eq, Bool.not_eq_true', decide_eq_true_eq] at h5
  obtain ⟨⟨⟨⟨⟨g1, g2⟩, g3⟩, g4⟩, g5⟩, g6⟩ := h5
  simp [Cond.before, Cond.holds, Cond.value, h1, h2, h3, h4, g1, g2, g3, g4, g5, g6]
def isCode : Jvm.Cond → Bool
  | .code _ _ _ _ => true
  | _ => false
theorem all_split {L : List Jvm.Cond} {P : Jvm.Cond → Bool} (h1 : L.all (fun c => isCode c || P c) = true) (h2 : ∀ c ∈ L.filter isCode, P c = true) : L.all P = true := by
  refine List.all_eq_true.mpr fun c hc => ?_
  have h := List.all_eq_true.mp h1 c hc
  rcases Bool.eq_false_or_eq_true (isCode c) with hi | hi
  · exact h2 c (List.mem_filter.mpr ⟨hc, hi⟩)
  · simpa [hi] using h
set_option maxRecDepth 65536 in
theorem w_c0 : (Jvm.Cond.code x code maxLocals ret).before args0 about1 = true := code_word (m := ⟨1, 1⟩) (meth := k1m1) (c := k1c1) (by decide +kernel) rfl rfl rfl (by decide +kernel)
set_option maxRecDepth 65536 in
theorem w_c1 : (Jvm.Cond.code ({ cls := "com/example/classwright/classwright/ClassBytes", name := "u4", desc := "([BI)I" } : Jvm.MethodName) prog_21_method_15_code (2 : Nat) (Option.some Jvm.ClassFile.FieldType.int)).before args0 about1 = true := code_word (m := ⟨2, 0⟩) (meth := k2m0) (c := k2c0) (by decide +kernel) rfl rfl rfl (by decide +kernel)
def codes1 : List Jvm.Cond := [Jvm.Cond.code x code maxLocals ret, Jvm.Cond.code ({ cls := "com/example/classwright/classwright/ClassBytes", name := "u4", desc := "([BI)I" } : Jvm.MethodName) prog_21_method_15_code (2 : Nat) (Option.some Jvm.ClassFile.FieldType.int)]
set_option maxRecDepth 65536 in
theorem codes_eq : words1.filter isCode = codes1 := rfl
theorem w_codes : ∀ c ∈ words1.filter isCode, c.before args0 about1 = true := by
  rw [codes_eq]
  intro c hc
  simp only [codes1, List.mem_cons, List.not_mem_nil, or_false] at hc
  rcases hc with rfl | rfl
  · exact w_c0
  · exact w_c1
set_option maxRecDepth 65536 in
theorem w_t1 : words1.all (fun c => isCode c || c.before args0 about1) = true := by decide +kernel
theorem w_tables : (allAtoms (Jvm.Cond.code x code maxLocals ret :: tables_1)).before args0 about1 = true := by
  rw [allAtoms_all]
  show words1.all (fun c => c.before args0 about1) = true
  refine all_split ?_ w_codes
  rw [w_t1]
set_option maxRecDepth 65536 in
theorem w_case : (Jvm.Cond.and given_1 narrow_1).before args0 about1 = true := by decide +kernel
theorem w_applies : (headSpec (Jvm.Cond.code x code maxLocals ret :: tables_1) room_1).applies x e0.platform about1 = true :=
  (Spec.applies_iff w_frames).mpr ⟨w_running, w_runnable, w_alone, w_named, w_hears, w_ripe, w_room, w_tables⟩
theorem atStart : AtStart classFile x code maxLocals ret World_1 tables_1 room_1 Calls_1 rest_1 Pre_1 launch0 p0 e0 about1 theMethod args0 below0 :=
  ⟨lists_1, trivial, launch0.admits_env _ _ _, launch0.least_env, fairChoices_fair.cas, fairChoices_fair.clock, w_frames, w_args, w_heap, w_applies, trivial, trivial, w_case⟩
end start1
theorem witness_1 : WitnessClaimed_1 := ⟨start1.p0, start1.e0, start1.about1, start1.theMethod, start1.args0, start1.below0, start1.atStart⟩
end Jvm.Pilot.@@N@@
