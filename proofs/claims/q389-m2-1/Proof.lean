import JvmDerived
import JvmDerived.Pilot.@@N@@Statement
import JvmDerived.Pilot.@@N@@Code
set_option linter.unusedVariables false
set_option linter.unusedSimpArgs false
namespace Jvm.RoadKit
open Sem ClassFile Op Lib Jvm.Stand Jvm.Free Jvm.LawKit
section OwnGo
variable {p : Program} {l : Launch} {e : Env} {R : Room} {s : State} {m : MethodId} {args : Array Value} {below : List Frame} {meth : Method} {c : Code} {T T' : State} {locs : List Loc} {cells slots ck sk : Nat} {Q : Option Value → Heap → List Loc → Prop}
/-- from the state T the body comes to its end, with Q -/
def Go (p : Program) (e : Env) (below : List Frame) (s : State) (ck sk : Nat) (Q : Option Value → Heap → List Loc → Prop) (T : State) : Prop :=
  ∃ s₂ o, Steps p.tables e below T s₂ ∧ s₂.status = .running ∧ Ended s₂ below o ∧ ∃ v L, o = .returned v ∧ Q v s₂.heap L ∧ FrameEnd s o s₂ L ck sk
theorem Go.by (h : ∀ t, Steps p.tables e below T' t → Steps p.tables e below T t) (g : Go p e below s ck sk Q T') : Go p e below s ck sk Q T := by
  obtain ⟨s₂, o, h1, r⟩ := g
  exact ⟨s₂, o, h _ h1, r⟩
theorem Go.tr (h : Steps p.tables e below T T') (g : Go p e below s ck sk Q T') : Go p e below s ck sk Q T := by
  obtain ⟨s₂, o, h1, r⟩ := g
  exact ⟨s₂, o, h.trans h1, r⟩
theorem Go.fin (X : Stand p l e R s m args below meth c T locs cells slots) {v : Option Value} (hv : meth.sig.returnType = none → v = none) (hlk : meth.locks = false)
    (st : ∀ fs : List Frame, (∀ (f : JFrame) (acts : List Action), f.method = m → f.locked = none → f.entered = [] → (doReturn e (T.setTop f) acts v).1 = T.setFrames fs) → Steps p.tables e below T' (T.setFrames fs))
    (hq : Q v T.heap locs) (hc : cells ≤ ck) (hs : slots ≤ sk) : Go p e below s ck sk Q T' := by
  obtain ⟨fs, hr, hrun, hended, hW, hsame⟩ := X.leave hv hlk
  exact ⟨_, _, st fs hr, hrun, hended, _, _, rfl, hq, ⟨_, rfl⟩, hW, hsame.mono hc hs⟩
theorem Go.retV (X : Stand p l e R s m args below meth c T locs cells slots) (hx : p.tables.exec = Jvm.exec) {pc : Nat} {Ls : Array Slot} (hret : meth.sig.returnType = none) (hlk : meth.locks = false) (hd : decode c.code pc = .ok (.return_, 1))
    (hq : Q none T.heap locs) (hc : cells ≤ ck) (hs : slots ≤ sk) : Go p e below s ck sk Q (T.setTop (mkF m pc Ls [])) :=
  Go.fin X (fun _ => rfl) hlk (fun fs hr => X.returnOut hx hret hd hr) hq hc hs
theorem Go.retN (X : Stand p l e R s m args below meth c T locs cells slots) (hx : p.tables.exec = Jvm.exec) {pc : Nat} {Ls : Array Slot} {z : Int32} {t : FieldType} {rest : List Value} (hret : meth.sig.returnType = some t) (ht : t = .boolean ∨ t = .byte ∨ t = .char ∨ t = .short) (hlk : meth.locks = false) (hd : decode c.code pc = .ok (.ireturn, 1))
    (hq : Q (some (.int (nar t z))) T.heap locs) (hc : cells ≤ ck) (hs : slots ≤ sk) : Go p e below s ck sk Q (T.setTop (mkF m pc Ls (.int z :: rest))) :=
  Go.fin X (fun h => by rw [hret] at h; cases h) hlk (fun fs hr => Jvm.RoadKit.retN X hx hret ht hd hr) hq hc hs
theorem Go.retI (X : Stand p l e R s m args below meth c T locs cells slots) (hx : p.tables.exec = Jvm.exec) {pc : Nat} {Ls : Array Slot} {z : Int32} {rest : List Value} (hret : meth.sig.returnType = some .int) (hlk : meth.locks = false) (hd : decode c.code pc = .ok (.ireturn, 1))
    (hq : Q (some (.int z)) T.heap locs) (hc : cells ≤ ck) (hs : slots ≤ sk) : Go p e below s ck sk Q (T.setTop (mkF m pc Ls (.int z :: rest))) :=
  Go.fin X (fun h => by rw [hret] at h; cases h) hlk (fun fs hr => retOut X hx hret rfl (Or.inl ⟨rfl, Or.inl rfl, z, rfl⟩) hd hr) hq hc hs
theorem Go.retJ (X : Stand p l e R s m args below meth c T locs cells slots) (hx : p.tables.exec = Jvm.exec) {pc : Nat} {Ls : Array Slot} {z : Int64} {rest : List Value} (hret : meth.sig.returnType = some .long) (hlk : meth.locks = false) (hd : decode c.code pc = .ok (.lreturn, 1))
    (hq : Q (some (.long z)) T.heap locs) (hc : cells ≤ ck) (hs : slots ≤ sk) : Go p e below s ck sk Q (T.setTop (mkF m pc Ls (.long z :: rest))) :=
  Go.fin X (fun h => by rw [hret] at h; cases h) hlk (fun fs hr => retOut X hx hret rfl (Or.inr (Or.inl ⟨rfl, rfl, z, rfl⟩)) hd hr) hq hc hs
theorem Go.retR (X : Stand p l e R s m args below meth c T locs cells slots) (hx : p.tables.exec = Jvm.exec) {pc : Nat} {Ls : Array Slot} {w : Value} {t : FieldType} {rest : List Value} (hret : meth.sig.returnType = some t) (ht : t.isReference = true) (hw : w.isRef = true) (hlk : meth.locks = false) (hd : decode c.code pc = .ok (.areturn, 1))
    (hq : Q (some w) T.heap locs) (hc : cells ≤ ck) (hs : slots ≤ sk) : Go p e below s ck sk Q (T.setTop (mkF m pc Ls (w :: rest))) := by
  refine Go.fin X (fun h => by rw [hret] at h; cases h) hlk (fun fs hr => retOut X hx hret ?_ (Or.inr (Or.inr (Or.inr (Or.inr ⟨rfl, ht, hw⟩)))) hd hr) hq hc hs
  rcases ref_cases hw with rfl | ⟨a, rfl⟩ <;> cases t <;> first | rfl | cases ht
/-- the same where Strings may be interned on the way -/
def GoW (p : Program) (e : Env) (below : List Frame) (s : State) (ck sk : Nat) (Q : Option Value → Heap → List Loc → Prop) (T : State) : Prop :=
  ∃ s₂ o, Steps p.tables e below T s₂ ∧ s₂.status = .running ∧ Ended s₂ below o ∧ ∃ v L, o = .returned v ∧ Q v s₂.heap L ∧ ReturnedEndW s o s₂ L ck sk
theorem GoW.by (h : ∀ t, Steps p.tables e below T' t → Steps p.tables e below T t) (g : GoW p e below s ck sk Q T') : GoW p e below s ck sk Q T := by
  obtain ⟨s₂, o, h1, r⟩ := g
  exact ⟨s₂, o, h _ h1, r⟩
theorem GoW.tr (h : Steps p.tables e below T T') (g : GoW p e below s ck sk Q T') : GoW p e below s ck sk Q T := by
  obtain ⟨s₂, o, h1, r⟩ := g
  exact ⟨s₂, o, h.trans h1, r⟩
theorem GoW.fin {vm1 : Vm} {k1 : Nat} (X : Stand p l e R (s.setVm vm1) m args below meth c T locs cells slots) (hS : s.Since vm1 k1) (hk : k1 ≤ T.heap.size) {v : Option Value} (hv : meth.sig.returnType = none → v = none) (hlk : meth.locks = false)
    (st : ∀ fs : List Frame, (∀ (f : JFrame) (acts : List Action), f.method = m → f.locked = none → f.entered = [] → (doReturn e (T.setTop f) acts v).1 = T.setFrames fs) → Steps p.tables e below T' (T.setFrames fs))
    (hq : Q v T.heap locs) (hc : cells ≤ ck) (hs : slots ≤ sk) : GoW p e below s ck sk Q T' := by
  obtain ⟨fs, hr, hrun, hended, hW, hsame⟩ := X.leave hv hlk
  obtain ⟨q1, q2, q3⟩ := hS.ended (U := T.setFrames fs) hW hk hsame
  exact ⟨_, _, st fs hr, hrun, hended, _, _, rfl, hq, ⟨_, rfl⟩, q1, q2, q3.mono hc hs⟩
theorem GoW.retV {vm1 : Vm} {k1 : Nat} (X : Stand p l e R (s.setVm vm1) m args below meth c T locs cells slots) (hS : s.Since vm1 k1) (hk : k1 ≤ T.heap.size) (hx : p.tables.exec = Jvm.exec) {pc : Nat} {Ls : Array Slot} (hret : meth.sig.returnType = none) (hlk : meth.locks = false) (hd : decode c.code pc = .ok (.return_, 1))
    (hq : Q none T.heap locs) (hc : cells ≤ ck) (hs : slots ≤ sk) : GoW p e below s ck sk Q (T.setTop (mkF m pc Ls [])) :=
  GoW.fin X hS hk (fun _ => rfl) hlk (fun fs hr => X.returnOut hx hret hd hr) hq hc hs
theorem GoW.retN {vm1 : Vm} {k1 : Nat} (X : Stand p l e R (s.setVm vm1) m args below meth c T locs cells slots) (hS : s.Since vm1 k1) (hk : k1 ≤ T.heap.size) (hx : p.tables.exec = Jvm.exec) {pc : Nat} {Ls : Array Slot} {z : Int32} {t : FieldType} {rest : List Value} (hret : meth.sig.returnType = some t) (ht : t = .boolean ∨ t = .byte ∨ t = .char ∨ t = .short) (hlk : meth.locks = false) (hd : decode c.code pc = .ok (.ireturn, 1))
    (hq : Q (some (.int (nar t z))) T.heap locs) (hc : cells ≤ ck) (hs : slots ≤ sk) : GoW p e below s ck sk Q (T.setTop (mkF m pc Ls (.int z :: rest))) :=
  GoW.fin X hS hk (fun h => by rw [hret] at h; cases h) hlk (fun fs hr => Jvm.RoadKit.retN X hx hret ht hd hr) hq hc hs
theorem GoW.retR {vm1 : Vm} {k1 : Nat} (X : Stand p l e R (s.setVm vm1) m args below meth c T locs cells slots) (hS : s.Since vm1 k1) (hk : k1 ≤ T.heap.size) (hx : p.tables.exec = Jvm.exec) {pc : Nat} {Ls : Array Slot} {w : Value} {t : FieldType} {rest : List Value} (hret : meth.sig.returnType = some t) (ht : t.isReference = true) (hw : w.isRef = true) (hlk : meth.locks = false) (hd : decode c.code pc = .ok (.areturn, 1))
    (hq : Q (some w) T.heap locs) (hc : cells ≤ ck) (hs : slots ≤ sk) : GoW p e below s ck sk Q (T.setTop (mkF m pc Ls (w :: rest))) := by
  refine GoW.fin X hS hk (fun h => by rw [hret] at h; cases h) hlk (fun fs hr => retOut X hx hret ?_ (Or.inr (Or.inr (Or.inr (Or.inr ⟨rfl, ht, hw⟩)))) hd hr) hq hc hs
  rcases ref_cases hw with rfl | ⟨a, rfl⟩ <;> cases t <;> first | rfl | cases ht
end OwnGo
theorem own_selp {Z s : State} {a0 args : Array Value} {y : MethodName} {n : Nat} (hZ : Z.Warmed39 s.vm) (wi : (Cond.instantiable y.cls n).before a0 Z = true) (wp : (Cond.privateMethod y).before a0 Z = true) (wm : (Cond.instanceMethod y).before a0 Z = true) (hy : y.cls ≠ "java/lang/invoke/MethodHandle" ∧ y.cls ≠ "java/lang/invoke/VarHandle") : (Cond.selects y.cls y y).before args s = true := by
  obtain ⟨c, k, h1, h2, -, h4, -⟩ := Cond.instantiable_spec (mv (args := args) hZ wi)
  exact selects_self_of_private h1 h2 (by simpa using (Bool.or_eq_false_iff.mp h4).1) (Cond.privateMethod_at (mvP (args := args) hZ wp)) (mv hZ wm) hy
theorem own_zn {z : Int32} (h : z = (0 : Int32) ∨ z = (1 : Int32)) : narrow .boolean (.int z) = .int z := by rcases h with rfl | rfl <;> rfl
theorem own_zf {z : Int32} (h : z = (0 : Int32) ∨ z = (1 : Int32)) : fits .boolean (.int z) = true := by rcases h with rfl | rfl <;> rfl
theorem own_ns {Z : State} {h : Heap} {b : Addr} {C : String} (E : Exa Z h b C) : ∀ cell : Cell, h[b]? = some cell → cell.vm.isStatics = false := fun cell hc => by
  obtain ⟨c, _, h1, -, -, h4, -⟩ := E
  cases h1.symm.trans hc
  exact h4
theorem own_stakeep {Z : State} {h h' : Heap} {C n d : String} {v : Value} {ws : List Addr} (F : Sta Z h C n d v) (K : Keep h h' ws) (q : ∀ x ∈ ws, ∀ cell : Cell, h[x]? = some cell → cell.vm.isStatics = false) : Sta Z h' C n d v := by
  obtain ⟨cf, i, k, f, st, cell, h1, h2, h3, h4, h5, h6, h7⟩ := F
  refine ⟨cf, i, k, f, st, cell, h1, h2, h3, h4, K.2.1 st cell h5 fun z => ?_, h6, h7⟩
  rw [q st z cell h5] at h6
  cases h6
section OwnLong
variable {Z : State} {h h' : Heap} {a b : Addr} {k : ClassId} {n j : Int32} {x : Int64} {ws : List Addr} {sl : Nat} {v : Value}
/-- a long[] of the length n, whatever it holds -/
def LA (Z : State) (h : Heap) (a : Addr) (k : ClassId) (n : Int32) : Prop := ∃ c : Cell, Arr Z h a c .long ∧ c.cls = k ∧ c.slots.size = n.toNatClampNeg ∧ ¬ n < 0 ∧ ∀ i, i < c.slots.size → ∃ x : Int64, c.slots[i]? = some (.long x)
theorem LA.lt (F : LA Z h a k n) : a < h.size := by obtain ⟨c, A, -⟩ := F; exact A.lt
theorem LA.ext (F : LA Z h a k n) (E : Ext h h') : LA Z h' a k n := by obtain ⟨c, A, r⟩ := F; exact ⟨c, A.ext E, r⟩
theorem LA.other (F : LA Z h b k n) (W : Wr h h' a sl v) (q : b ≠ a) : LA Z h' b k n := by obtain ⟨c, A, r⟩ := F; exact ⟨c, A.other W q, r⟩
theorem LA.keep (F : LA Z h a k n) (K : Keep h h' ws) (q : a ∉ ws) : LA Z h' a k n := by obtain ⟨c, A, r⟩ := F; exact ⟨c, ⟨K.2.1 a c A.1 q, A.2⟩, r⟩
theorem LA.new (A : Arr Z h a (newA k .long n) .long) (q : ¬ n < 0) : LA Z h a k n := ⟨_, A, rfl, sz_new _ _ _, q, fun i hi => ⟨0, by
  have hi' : i < n.toNatClampNeg := by rw [sz_new] at hi; exact hi
  show (Array.replicate n.toNatClampNeg (defaultValue .long))[i]? = _
  simp [hi', defaultValue]⟩⟩
theorem LA.set {c : Cell} (A : Arr Z h a c .long) (q1 : c.cls = k) (S : c.slots.size = n.toNatClampNeg) (q3 : ¬ n < 0) (G : ∀ i, i < c.slots.size → ∃ x : Int64, c.slots[i]? = some (.long x)) (W : Wr h h' a sl (.long x)) : LA Z h' a k n := by
  refine ⟨_, A.same W, q1, by rw [sz_set]; exact S, q3, fun i hi => ?_⟩
  rw [sz_set] at hi
  by_cases e : sl = i
  · subst e; exact ⟨x, by simp [Cell.setSlot, hi]⟩
  · obtain ⟨y, hy⟩ := G i hi
    exact ⟨y, by rw [← hy]; exact Array.getElem?_setIfInBounds_ne e⟩
end OwnLong
section OwnStart
variable {args : Array Value} {s : State} {a b t : Term}
theorem own_eqI {n : Int32} (h : (Cond.eq a (.int n)).value args s none s [] = some true) : a.eval args s none [] s = some (.int n) := by
  cases ha : a.eval args s none [] s with
  | none => simp [Cond.value, ha] at h
  | some x => cases x <;> simp [Cond.value, ha, Term.eval] at h ⊢ <;> exact h
theorem own_eqL {n : Int64} (h : (Cond.eq a (.long n)).value args s none s [] = some true) : a.eval args s none [] s = some (.long n) := by
  cases ha : a.eval args s none [] s with
  | none => simp [Cond.value, ha] at h
  | some x => cases x <;> simp [Cond.value, ha, Term.eval] at h ⊢ <;> exact h
theorem own_eqR {x : Addr} (h : (Cond.eq a b).value args s none s [] = some true) (hb : b.eval args s none [] s = some (.ref x)) : a.eval args s none [] s = some (.ref x) := by
  cases ha : a.eval args s none [] s with
  | none => simp [Cond.value, ha] at h
  | some y => cases y <;> simp [Cond.value, ha, hb] at h ⊢ <;> exact h
theorem own_neR {x y : Addr} (h : (Cond.not (Cond.eq a b)).value args s none s [] = some true) (ha : a.eval args s none [] s = some (.ref x)) (hb : b.eval args s none [] s = some (.ref y)) : x ≠ y := by
  intro e
  subst e
  simp [Cond.value, ha, hb] at h
theorem own_lenv {n : Int32} {x : Addr} {cl : Cell} (h : (Term.length t).eval args s none [] s = some (.int n)) (ht : t.eval args s none [] s = some (.ref x)) (hc : s.heap[x]? = some cl) : cl.slots.size < 2 ^ 31 ∧ cl.slots.size.toInt32 = n := by
  obtain ⟨a', cell, e1, e2, e3⟩ := Term.length_spec h
  cases ht.symm.trans e1
  have hcl : cell = cl := by
    simp only [State.arrayAt?, hc, Option.bind_eq_bind, Option.bind_some] at e2
    cases hk : s.vm.classes[cl.cls]? with
    | none => simp [hk] at e2
    | some k =>
      simp only [hk, Option.bind_some] at e2
      split at e2
      · cases e2
      · split at e2
        · exact (Option.some.inj e2).symm
        · cases e2
  subst hcl
  refine ⟨?_, (Value.int.inj e3).symm⟩
  simp only [Term.eval, ht, e2, Option.bind_eq_bind, Option.bind_some] at h
  split at h
  · assumption
  · cases h
end OwnStart
end Jvm.RoadKit
namespace Jvm.Pilot.@@N@@
open Jvm Jvm.ClassFile Sem Op Lib Jvm.Free Jvm.Stand Jvm.LawKit Jvm.RoadKit Bundle Jvm.Pilot.@@N@@.Jvm.D
theorem dF1_0 : decode prog_22_method_5_code 0 = .ok (.aconst_null, 1) := by decide +kernel
theorem dF1_1 : decode prog_22_method_5_code 1 = .ok (.astore_n 1, 1) := by decide +kernel
theorem dF1_2 : decode prog_22_method_5_code 2 = .ok (.getstatic 39, 3) := by decide +kernel
theorem dF1_5 : decode prog_22_method_5_code 5 = .ok (.astore_n 2, 1) := by decide +kernel
theorem dF1_6 : decode prog_22_method_5_code 6 = .ok (.aload_n 2, 1) := by decide +kernel
theorem dF1_7 : decode prog_22_method_5_code 7 = .ok (.arraylength, 1) := by decide +kernel
theorem dF1_8 : decode prog_22_method_5_code 8 = .ok (.istore_n 3, 1) := by decide +kernel
theorem dF1_9 : decode prog_22_method_5_code 9 = .ok (.iconst 0, 1) := by decide +kernel
theorem dF1_10 : decode prog_22_method_5_code 10 = .ok (.istore 4, 2) := by decide +kernel
theorem dF1_12 : decode prog_22_method_5_code 12 = .ok (.iload 4, 2) := by decide +kernel
theorem dF1_14 : decode prog_22_method_5_code 14 = .ok (.iload_n 3, 1) := by decide +kernel
theorem dF1_15 : decode prog_22_method_5_code 15 = .ok (.if_icmp .ge 30, 3) := by decide +kernel
theorem dF1_18 : decode prog_22_method_5_code 18 = .ok (.aload_n 2, 1) := by decide +kernel
theorem dF1_19 : decode prog_22_method_5_code 19 = .ok (.iload 4, 2) := by decide +kernel
theorem dF1_21 : decode prog_22_method_5_code 21 = .ok (.aaload, 1) := by decide +kernel
theorem dF1_22 : decode prog_22_method_5_code 22 = .ok (.astore 5, 2) := by decide +kernel
theorem dF1_24 : decode prog_22_method_5_code 24 = .ok (.aload 5, 2) := by decide +kernel
theorem dF1_26 : decode prog_22_method_5_code 26 = .ok (.getfield 35, 3) := by decide +kernel
theorem dF1_29 : decode prog_22_method_5_code 29 = .ok (.iload_n 0, 1) := by decide +kernel
theorem dF1_30 : decode prog_22_method_5_code 30 = .ok (.if_icmp .ne 9, 3) := by decide +kernel
theorem dF1_33 : decode prog_22_method_5_code 33 = .ok (.aload 5, 2) := by decide +kernel
theorem dF1_35 : decode prog_22_method_5_code 35 = .ok (.astore_n 1, 1) := by decide +kernel
theorem dF1_36 : decode prog_22_method_5_code 36 = .ok (.goto 9, 3) := by decide +kernel
theorem dF1_45 : decode prog_22_method_5_code 45 = .ok (.aload_n 1, 1) := by decide +kernel
theorem dF1_46 : decode prog_22_method_5_code 46 = .ok (.areturn, 1) := by decide +kernel
theorem pnF1 : plainName "com/example/kyu/kyu/wire/FrameType" = true := by first | (simp [plainName, overriddenIn]; done) | decide +kernel
theorem efF1 (m : MethodId)  : entryFrame m #[(.int (1 : Int32))] 6 = mkF m 0 #[.val (.int (1 : Int32)), .unset, .unset, .unset, .unset, .unset] [] := by first | (simp [entryFrame, mkF, argsToLocals, Value.category]; done) | rfl
def QF1 (Z : State) (s_METHOD : Addr) (s_HEADER : Addr) (s_BODY : Addr) (s_HEARTBEAT : Addr) (s_ALL : Addr) (kc_s_ALL : ClassId) (h0 : Heap) (n0 : Nat) (v : Option Value) (h : Heap) (L : List Loc) : Prop := (v = some (.ref s_METHOD) ∧ Fr n0 L ∧ h = h0)
set_option maxRecDepth 65536 in
set_option maxHeartbeats 40000000 in
theorem rmF1 (l : Launch) (Z : State) (a0 : Array Value) (hw : ∀ d ∈ tables_1, d.before a0 Z = true) (ws : List Jvm.Cond) (s_METHOD : Addr) (s_HEADER : Addr) (s_BODY : Addr) (s_HEARTBEAT : Addr) (s_ALL : Addr) (kc_s_ALL : ClassId) (h0 : Heap) (n0 : Nat) (Z0 : n0 ≤ h0.size) (E0_s_METHOD : Exa Z h0 s_METHOD "com/example/kyu/kyu/wire/FrameType") (F0_s_METHOD_octet : Fld Z h0 s_METHOD "com/example/kyu/kyu/wire/FrameType" "octet" "I" (.int (1 : Int32))) (E0_s_HEADER : Exa Z h0 s_HEADER "com/example/kyu/kyu/wire/FrameType") (F0_s_HEADER_octet : Fld Z h0 s_HEADER "com/example/kyu/kyu/wire/FrameType" "octet" "I" (.int (2 : Int32))) (E0_s_BODY : Exa Z h0 s_BODY "com/example/kyu/kyu/wire/FrameType") (F0_s_BODY_octet : Fld Z h0 s_BODY "com/example/kyu/kyu/wire/FrameType" "octet" "I" (.int (3 : Int32))) (E0_s_HEARTBEAT : Exa Z h0 s_HEARTBEAT "com/example/kyu/kyu/wire/FrameType") (F0_s_HEARTBEAT_octet : Fld Z h0 s_HEARTBEAT "com/example/kyu/kyu/wire/FrameType" "octet" "I" (.int (8 : Int32))) (V0_s_ALL : Arv Z h0 s_ALL kc_s_ALL (.object "com/example/kyu/kyu/wire/FrameType") (4 : Int32) [(.ref s_METHOD), (.ref s_HEADER), (.ref s_BODY), (.ref s_HEARTBEAT)] .null) (S0_ALL : Sta Z h0 "com/example/kyu/kyu/wire/FrameType" "ALL" "[Lcom/example/kyu/kyu/wire/FrameType;" (.ref s_ALL)) (S0_METHOD : Sta Z h0 "com/example/kyu/kyu/wire/FrameType" "METHOD" "Lcom/example/kyu/kyu/wire/FrameType;" (.ref s_METHOD)) (S0_HEADER : Sta Z h0 "com/example/kyu/kyu/wire/FrameType" "HEADER" "Lcom/example/kyu/kyu/wire/FrameType;" (.ref s_HEADER)) (S0_BODY : Sta Z h0 "com/example/kyu/kyu/wire/FrameType" "BODY" "Lcom/example/kyu/kyu/wire/FrameType;" (.ref s_BODY)) (S0_HEARTBEAT : Sta Z h0 "com/example/kyu/kyu/wire/FrameType" "HEARTBEAT" "Lcom/example/kyu/kyu/wire/FrameType;" (.ref s_HEARTBEAT)) :
    MetFree l (⟨"com/example/kyu/kyu/wire/FrameType", "fromOctet", "(I)Lcom/example/kyu/kyu/wire/FrameType;"⟩ : MethodName) (head1 (Jvm.Cond.code (⟨"com/example/kyu/kyu/wire/FrameType", "fromOctet", "(I)Lcom/example/kyu/kyu/wire/FrameType;"⟩ : MethodName) prog_22_method_5_code 6 (some (.object "com/example/kyu/kyu/wire/FrameType")) :: ws) ({ frames := 0, cells := 0, slots := 0, locals := 0 } : Room)) (fun aa U => aa = #[(.int (1 : Int32))] ∧ Z.Warmed39 U.vm ∧ U.heap = h0) (fun _ _ _ _ _ => True) (fun _ U o U' => ∃ v L, o = .returned v ∧ QF1 Z s_METHOD s_HEADER s_BODY s_HEARTBEAT s_ALL kc_s_ALL h0 n0 v U'.heap L ∧ FrameEnd U o U' L ({ frames := 0, cells := 0, slots := 0, locals := 0 } : Room).cells ({ frames := 0, cells := 0, slots := 0, locals := 0 } : Room).slots) := by
  refine MetFree.of_bodySF (plainFor_of_name pnF1) hisR ?_
  intro p e s m args below meth c s₁ Bd hml0 hP hK
  obtain ⟨rfl, hZ, hh⟩ := hP
  have hx := Bd.exec
  have hby := Bd.bytes
  have hml : c.maxLocals = 6 := hml0
  have hown : s.vm.findClass "com/example/kyu/kyu/wire/FrameType" = some m.cls := findClass_of_methodNamed Bd.named
  have hnm := (name_of_methodNamed Bd.named Bd.method).1
  have hlk : meth.locks = false := BodyLoose.notSynchronized Bd
  have hret : meth.sig.returnType = (some (.object "com/example/kyu/kyu/wire/FrameType")) := Bd.returns
  have X0 : Stand p l e ({ frames := 0, cells := 0, slots := 0, locals := 0 } : Room) s m #[(.int (1 : Int32))] below meth c s₁ [] 0 0 := Stand.of_body Bd
  have e0 : s₁.heap = h0 := by rw [← hh, Bd.state]; rfl
  have N0 := Fr.nil n0
  show Go p e below s ({ frames := 0, cells := 0, slots := 0, locals := 0 } : Room).cells ({ frames := 0, cells := 0, slots := 0, locals := 0 } : Room).slots (QF1 Z s_METHOD s_HEADER s_BODY s_HEARTBEAT s_ALL kc_s_ALL h0 n0) (s₁.setTop (entryFrame m #[(.int (1 : Int32))] 6))
  rw [efF1]
  refine Go.by (fun _ kont => XS.aconstNull X0.here hx rfl (hb hby dF1_0) (XS.astoreN X0.here hx rfl (hb hby dF1_1) rfl rfl (l' := #[.val (.int (1 : Int32)), .val .null, .unset, .unset, .unset, .unset]) rfl kont)) ?_
  show Go _ _ _ _ _ _ _ (s₁.setTop (mkF m 2 #[.val (.int (1 : Int32)), .val .null, .unset, .unset, .unset, .unset] []))
  obtain ⟨T101, X101, e101, st101⟩ := getS2 X0 hx hZ hown (host := "") (Or.inl (hw _ (List.mem_of_getElem? (i := 4) rfl))) Via.refl e0 S0_ALL (g := (mkF m 2 #[.val (.int (1 : Int32)), .val .null, .unset, .unset, .unset, .unset] [])) rfl (hb hby dF1_2)
  refine Go.by st101 ?_
  show Go _ _ _ _ _ _ _ (T101.setTop (mkF m 5 #[.val (.int (1 : Int32)), .val .null, .unset, .unset, .unset, .unset] [(.ref s_ALL)]))
  refine Go.by (fun _ kont => XS.astoreN X101.here hx rfl (hb hby dF1_5) rfl rfl (l' := #[.val (.int (1 : Int32)), .val .null, .val (.ref s_ALL), .unset, .unset, .unset]) rfl (XS.aloadN X101.here hx rfl (hb hby dF1_6) rfl rfl kont)) ?_
  show Go _ _ _ _ _ _ _ (T101.setTop (mkF m 7 #[.val (.int (1 : Int32)), .val .null, .val (.ref s_ALL), .unset, .unset, .unset] [(.ref s_ALL)]))
  obtain ⟨cl_q102, Ar_q102, q1_q102, S_q102, N_q102, H_q102, G_q102⟩ := id V0_s_ALL
  refine Go.by (X101.arraylength hx (by rw [e101]; exact Ar_q102.1) (State.isArrayOf_alike hZ.alike Ar_q102.2.1) (g := (mkF m 7 #[.val (.int (1 : Int32)), .val .null, .val (.ref s_ALL), .unset, .unset, .unset] [(.ref s_ALL)])) rfl rfl (hb hby dF1_7)) ?_
  rw [len_of S_q102 N_q102]
  show Go _ _ _ _ _ _ _ (T101.setTop (mkF m 8 #[.val (.int (1 : Int32)), .val .null, .val (.ref s_ALL), .unset, .unset, .unset] [(.int (4 : Int32))]))
  refine Go.by (fun _ kont => XS.istoreN X101.here hx rfl (hb hby dF1_8) rfl (l' := #[.val (.int (1 : Int32)), .val .null, .val (.ref s_ALL), .val (.int (4 : Int32)), .unset, .unset]) rfl (XS.iconst X101.here hx rfl (hb hby dF1_9) (XS.istore X101.here hx rfl (hb hby dF1_10) rfl (l' := #[.val (.int (1 : Int32)), .val .null, .val (.ref s_ALL), .val (.int (4 : Int32)), .val (.int (0 : Int32)), .unset]) rfl (XS.iload X101.here hx rfl (hb hby dF1_12) rfl (XS.iloadN X101.here hx rfl (hb hby dF1_14) rfl kont))))) ?_
  show Go _ _ _ _ _ _ _ (T101.setTop (mkF m 15 #[.val (.int (1 : Int32)), .val .null, .val (.ref s_ALL), .val (.int (4 : Int32)), .val (.int (0 : Int32)), .unset] [(.int (4 : Int32)), (.int (0 : Int32))]))
  refine Go.by (fun _ kont => XS.icmpNo X101.here hx rfl (hb hby dF1_15) rfl (by decide) kont) ?_
  show Go _ _ _ _ _ _ _ (T101.setTop (mkF m 18 #[.val (.int (1 : Int32)), .val .null, .val (.ref s_ALL), .val (.int (4 : Int32)), .val (.int (0 : Int32)), .unset] []))
  refine Go.by (fun _ kont => XS.aloadN X101.here hx rfl (hb hby dF1_18) rfl rfl (XS.iload X101.here hx rfl (hb hby dF1_19) rfl kont)) ?_
  show Go _ _ _ _ _ _ _ (T101.setTop (mkF m 21 #[.val (.int (1 : Int32)), .val .null, .val (.ref s_ALL), .val (.int (4 : Int32)), .val (.int (0 : Int32)), .unset] [(.int (0 : Int32)), (.ref s_ALL)]))
  obtain ⟨cl_q103, Ar_q103, q1_q103, S_q103, N_q103, H_q103, G_q103⟩ := id V0_s_ALL
  have hin_q103 : ¬ ((0 : Int32) < 0 ∨ cl_q103.slots.size ≤ ((0 : Int32)).toNatClampNeg) := inb_of S_q103 ⟨by decide, by decide⟩
  have hat_q103 : cl_q103.slots[((0 : Int32)).toNatClampNeg]? = some (.ref s_METHOD) := Has.at H_q103 hin_q103 rfl
  refine Go.by (X101.aaload hx (j := (0 : Int32)) (v := (.ref s_METHOD)) (by rw [e101]; exact Ar_q103.1) (State.isArrayOf_alike hZ.alike Ar_q103.2.1) rfl Ar_q103.2.2 hin_q103 hat_q103 (g := (mkF m 21 #[.val (.int (1 : Int32)), .val .null, .val (.ref s_ALL), .val (.int (4 : Int32)), .val (.int (0 : Int32)), .unset] [(.int (0 : Int32)), (.ref s_ALL)])) rfl rfl (hb hby dF1_21)) ?_
  show Go _ _ _ _ _ _ _ (T101.setTop (mkF m 22 #[.val (.int (1 : Int32)), .val .null, .val (.ref s_ALL), .val (.int (4 : Int32)), .val (.int (0 : Int32)), .unset] [(.ref s_METHOD)]))
  refine Go.by (fun _ kont => XS.astore X101.here hx rfl (hb hby dF1_22) rfl rfl (l' := #[.val (.int (1 : Int32)), .val .null, .val (.ref s_ALL), .val (.int (4 : Int32)), .val (.int (0 : Int32)), .val (.ref s_METHOD)]) rfl (XS.aload X101.here hx rfl (hb hby dF1_24) rfl rfl kont)) ?_
  show Go _ _ _ _ _ _ _ (T101.setTop (mkF m 26 #[.val (.int (1 : Int32)), .val .null, .val (.ref s_ALL), .val (.int (4 : Int32)), .val (.int (0 : Int32)), .val (.ref s_METHOD)] [(.ref s_METHOD)]))
  obtain ⟨T104, X104, e104, st104⟩ := getF X101 hx hZ hown (host := "") (Or.inl (hw _ (List.mem_of_getElem? (i := 7) rfl))) Via.refl e101 F0_s_METHOD_octet (g := (mkF m 26 #[.val (.int (1 : Int32)), .val .null, .val (.ref s_ALL), .val (.int (4 : Int32)), .val (.int (0 : Int32)), .val (.ref s_METHOD)] [(.ref s_METHOD)])) rfl rfl (hb hby dF1_26)
  refine Go.by st104 ?_
  show Go _ _ _ _ _ _ _ (T104.setTop (mkF m 29 #[.val (.int (1 : Int32)), .val .null, .val (.ref s_ALL), .val (.int (4 : Int32)), .val (.int (0 : Int32)), .val (.ref s_METHOD)] [(.int (1 : Int32))]))
  refine Go.by (fun _ kont => XS.iloadN X104.here hx rfl (hb hby dF1_29) rfl kont) ?_
  show Go _ _ _ _ _ _ _ (T104.setTop (mkF m 30 #[.val (.int (1 : Int32)), .val .null, .val (.ref s_ALL), .val (.int (4 : Int32)), .val (.int (0 : Int32)), .val (.ref s_METHOD)] [(.int (1 : Int32)), (.int (1 : Int32))]))
  refine Go.by (fun _ kont => XS.icmpNo X104.here hx rfl (hb hby dF1_30) rfl (by decide) kont) ?_
  show Go _ _ _ _ _ _ _ (T104.setTop (mkF m 33 #[.val (.int (1 : Int32)), .val .null, .val (.ref s_ALL), .val (.int (4 : Int32)), .val (.int (0 : Int32)), .val (.ref s_METHOD)] []))
  refine Go.by (fun _ kont => XS.aload X104.here hx rfl (hb hby dF1_33) rfl rfl (XS.astoreN X104.here hx rfl (hb hby dF1_35) rfl rfl (l' := #[.val (.int (1 : Int32)), .val (.ref s_METHOD), .val (.ref s_ALL), .val (.int (4 : Int32)), .val (.int (0 : Int32)), .val (.ref s_METHOD)]) rfl (XS.goto X104.here hx rfl (pc0 := 36) (pc' := 45) rfl (hb hby dF1_36) (by decide) (by decide) (XS.aloadN X104.here hx rfl (hb hby dF1_45) rfl rfl kont)))) ?_
  show Go _ _ _ _ _ _ _ (T104.setTop (mkF m 46 #[.val (.int (1 : Int32)), .val (.ref s_METHOD), .val (.ref s_ALL), .val (.int (4 : Int32)), .val (.int (0 : Int32)), .val (.ref s_METHOD)] [(.ref s_METHOD)]))
  refine Go.retR X104 hx hret rfl rfl hlk (hb hby dF1_46) ?_ (by decide) (by decide)
  show QF1 Z s_METHOD s_HEADER s_BODY s_HEARTBEAT s_ALL kc_s_ALL h0 n0 (some (.ref s_METHOD)) T104.heap _
  rw [e104]
  exact ⟨rfl, N0, rfl⟩

theorem dX1_0 : decode method_2_code 0 = .ok (.iload_n 0, 1) := by decide +kernel
theorem dX1_1 : decode method_2_code 1 = .ok (.iconst 1, 1) := by decide +kernel
theorem dX1_2 : decode method_2_code 2 = .ok (.if_icmp .ne 7, 3) := by decide +kernel
theorem dX1_5 : decode method_2_code 5 = .ok (.getstatic 7, 3) := by decide +kernel
theorem dX1_8 : decode method_2_code 8 = .ok (.areturn, 1) := by decide +kernel
theorem pnX1 : plainName "com/example/kyu/kyu/wire/FrameTypeFromOctetPinLaw" = true := by first | (simp [plainName, overriddenIn]; done) | decide +kernel
theorem efX1 (m : MethodId)  : entryFrame m #[(.int (1 : Int32))] 1 = mkF m 0 #[.val (.int (1 : Int32))] [] := by first | (simp [entryFrame, mkF, argsToLocals, Value.category]; done) | rfl
def QX1 (Z : State) (s_METHOD : Addr) (s_HEADER : Addr) (s_BODY : Addr) (s_HEARTBEAT : Addr) (s_ALL : Addr) (kc_s_ALL : ClassId) (h0 : Heap) (n0 : Nat) (v : Option Value) (h : Heap) (L : List Loc) : Prop := (v = some (.ref s_METHOD) ∧ Fr n0 L ∧ h = h0)
set_option maxRecDepth 65536 in
set_option maxHeartbeats 40000000 in
theorem rmX1 (l : Launch) (Z : State) (a0 : Array Value) (hw : ∀ d ∈ tables_1, d.before a0 Z = true) (ws : List Jvm.Cond) (s_METHOD : Addr) (s_HEADER : Addr) (s_BODY : Addr) (s_HEARTBEAT : Addr) (s_ALL : Addr) (kc_s_ALL : ClassId) (h0 : Heap) (n0 : Nat) (Z0 : n0 ≤ h0.size) (E0_s_METHOD : Exa Z h0 s_METHOD "com/example/kyu/kyu/wire/FrameType") (F0_s_METHOD_octet : Fld Z h0 s_METHOD "com/example/kyu/kyu/wire/FrameType" "octet" "I" (.int (1 : Int32))) (E0_s_HEADER : Exa Z h0 s_HEADER "com/example/kyu/kyu/wire/FrameType") (F0_s_HEADER_octet : Fld Z h0 s_HEADER "com/example/kyu/kyu/wire/FrameType" "octet" "I" (.int (2 : Int32))) (E0_s_BODY : Exa Z h0 s_BODY "com/example/kyu/kyu/wire/FrameType") (F0_s_BODY_octet : Fld Z h0 s_BODY "com/example/kyu/kyu/wire/FrameType" "octet" "I" (.int (3 : Int32))) (E0_s_HEARTBEAT : Exa Z h0 s_HEARTBEAT "com/example/kyu/kyu/wire/FrameType") (F0_s_HEARTBEAT_octet : Fld Z h0 s_HEARTBEAT "com/example/kyu/kyu/wire/FrameType" "octet" "I" (.int (8 : Int32))) (V0_s_ALL : Arv Z h0 s_ALL kc_s_ALL (.object "com/example/kyu/kyu/wire/FrameType") (4 : Int32) [(.ref s_METHOD), (.ref s_HEADER), (.ref s_BODY), (.ref s_HEARTBEAT)] .null) (S0_ALL : Sta Z h0 "com/example/kyu/kyu/wire/FrameType" "ALL" "[Lcom/example/kyu/kyu/wire/FrameType;" (.ref s_ALL)) (S0_METHOD : Sta Z h0 "com/example/kyu/kyu/wire/FrameType" "METHOD" "Lcom/example/kyu/kyu/wire/FrameType;" (.ref s_METHOD)) (S0_HEADER : Sta Z h0 "com/example/kyu/kyu/wire/FrameType" "HEADER" "Lcom/example/kyu/kyu/wire/FrameType;" (.ref s_HEADER)) (S0_BODY : Sta Z h0 "com/example/kyu/kyu/wire/FrameType" "BODY" "Lcom/example/kyu/kyu/wire/FrameType;" (.ref s_BODY)) (S0_HEARTBEAT : Sta Z h0 "com/example/kyu/kyu/wire/FrameType" "HEARTBEAT" "Lcom/example/kyu/kyu/wire/FrameType;" (.ref s_HEARTBEAT)) :
    MetFree l (⟨"com/example/kyu/kyu/wire/FrameTypeFromOctetPinLaw", "expected", "(I)Lcom/example/kyu/kyu/wire/FrameType;"⟩ : MethodName) (head1 (Jvm.Cond.code (⟨"com/example/kyu/kyu/wire/FrameTypeFromOctetPinLaw", "expected", "(I)Lcom/example/kyu/kyu/wire/FrameType;"⟩ : MethodName) method_2_code 1 (some (.object "com/example/kyu/kyu/wire/FrameType")) :: ws) ({ frames := 0, cells := 0, slots := 0, locals := 0 } : Room)) (fun aa U => aa = #[(.int (1 : Int32))] ∧ Z.Warmed39 U.vm ∧ U.heap = h0) (fun _ _ _ _ _ => True) (fun _ U o U' => ∃ v L, o = .returned v ∧ QX1 Z s_METHOD s_HEADER s_BODY s_HEARTBEAT s_ALL kc_s_ALL h0 n0 v U'.heap L ∧ FrameEnd U o U' L ({ frames := 0, cells := 0, slots := 0, locals := 0 } : Room).cells ({ frames := 0, cells := 0, slots := 0, locals := 0 } : Room).slots) := by
  refine MetFree.of_bodySF (plainFor_of_name pnX1) hisR ?_
  intro p e s m args below meth c s₁ Bd hml0 hP hK
  obtain ⟨rfl, hZ, hh⟩ := hP
  have hx := Bd.exec
  have hby := Bd.bytes
  have hml : c.maxLocals = 1 := hml0
  have hown : s.vm.findClass "com/example/kyu/kyu/wire/FrameTypeFromOctetPinLaw" = some m.cls := findClass_of_methodNamed Bd.named
  have hnm := (name_of_methodNamed Bd.named Bd.method).1
  have hlk : meth.locks = false := BodyLoose.notSynchronized Bd
  have hret : meth.sig.returnType = (some (.object "com/example/kyu/kyu/wire/FrameType")) := Bd.returns
  have X0 : Stand p l e ({ frames := 0, cells := 0, slots := 0, locals := 0 } : Room) s m #[(.int (1 : Int32))] below meth c s₁ [] 0 0 := Stand.of_body Bd
  have e0 : s₁.heap = h0 := by rw [← hh, Bd.state]; rfl
  have N0 := Fr.nil n0
  show Go p e below s ({ frames := 0, cells := 0, slots := 0, locals := 0 } : Room).cells ({ frames := 0, cells := 0, slots := 0, locals := 0 } : Room).slots (QX1 Z s_METHOD s_HEADER s_BODY s_HEARTBEAT s_ALL kc_s_ALL h0 n0) (s₁.setTop (entryFrame m #[(.int (1 : Int32))] 1))
  rw [efX1]
  refine Go.by (fun _ kont => XS.iloadN X0.here hx rfl (hb hby dX1_0) rfl (XS.iconst X0.here hx rfl (hb hby dX1_1) kont)) ?_
  show Go _ _ _ _ _ _ _ (s₁.setTop (mkF m 2 #[.val (.int (1 : Int32))] [(.int (1 : Int32)), (.int (1 : Int32))]))
  refine Go.by (fun _ kont => XS.icmpNo X0.here hx rfl (hb hby dX1_2) rfl (by decide) kont) ?_
  show Go _ _ _ _ _ _ _ (s₁.setTop (mkF m 5 #[.val (.int (1 : Int32))] []))
  obtain ⟨T101, X101, e101, st101⟩ := getS2 X0 hx hZ hown (host := "") (Or.inl (hw _ (List.mem_of_getElem? (i := 16) rfl))) Via.refl e0 S0_METHOD (g := (mkF m 5 #[.val (.int (1 : Int32))] [])) rfl (hb hby dX1_5)
  refine Go.by st101 ?_
  show Go _ _ _ _ _ _ _ (T101.setTop (mkF m 8 #[.val (.int (1 : Int32))] [(.ref s_METHOD)]))
  refine Go.retR X101 hx hret rfl rfl hlk (hb hby dX1_8) ?_ (by decide) (by decide)
  show QX1 Z s_METHOD s_HEADER s_BODY s_HEARTBEAT s_ALL kc_s_ALL h0 n0 (some (.ref s_METHOD)) T101.heap _
  rw [e101]
  exact ⟨rfl, N0, rfl⟩

theorem dF2_0 : decode prog_22_method_5_code 0 = .ok (.aconst_null, 1) := by decide +kernel
theorem dF2_1 : decode prog_22_method_5_code 1 = .ok (.astore_n 1, 1) := by decide +kernel
theorem dF2_2 : decode prog_22_method_5_code 2 = .ok (.getstatic 39, 3) := by decide +kernel
theorem dF2_5 : decode prog_22_method_5_code 5 = .ok (.astore_n 2, 1) := by decide +kernel
theorem dF2_6 : decode prog_22_method_5_code 6 = .ok (.aload_n 2, 1) := by decide +kernel
theorem dF2_7 : decode prog_22_method_5_code 7 = .ok (.arraylength, 1) := by decide +kernel
theorem dF2_8 : decode prog_22_method_5_code 8 = .ok (.istore_n 3, 1) := by decide +kernel
theorem dF2_9 : decode prog_22_method_5_code 9 = .ok (.iconst 0, 1) := by decide +kernel
theorem dF2_10 : decode prog_22_method_5_code 10 = .ok (.istore 4, 2) := by decide +kernel
theorem dF2_12 : decode prog_22_method_5_code 12 = .ok (.iload 4, 2) := by decide +kernel
theorem dF2_14 : decode prog_22_method_5_code 14 = .ok (.iload_n 3, 1) := by decide +kernel
theorem dF2_15 : decode prog_22_method_5_code 15 = .ok (.if_icmp .ge 30, 3) := by decide +kernel
theorem dF2_18 : decode prog_22_method_5_code 18 = .ok (.aload_n 2, 1) := by decide +kernel
theorem dF2_19 : decode prog_22_method_5_code 19 = .ok (.iload 4, 2) := by decide +kernel
theorem dF2_21 : decode prog_22_method_5_code 21 = .ok (.aaload, 1) := by decide +kernel
theorem dF2_22 : decode prog_22_method_5_code 22 = .ok (.astore 5, 2) := by decide +kernel
theorem dF2_24 : decode prog_22_method_5_code 24 = .ok (.aload 5, 2) := by decide +kernel
theorem dF2_26 : decode prog_22_method_5_code 26 = .ok (.getfield 35, 3) := by decide +kernel
theorem dF2_29 : decode prog_22_method_5_code 29 = .ok (.iload_n 0, 1) := by decide +kernel
theorem dF2_30 : decode prog_22_method_5_code 30 = .ok (.if_icmp .ne 9, 3) := by decide +kernel
theorem dF2_33 : decode prog_22_method_5_code 33 = .ok (.aload 5, 2) := by decide +kernel
theorem dF2_35 : decode prog_22_method_5_code 35 = .ok (.astore_n 1, 1) := by decide +kernel
theorem dF2_36 : decode prog_22_method_5_code 36 = .ok (.goto 9, 3) := by decide +kernel
theorem dF2_39 : decode prog_22_method_5_code 39 = .ok (.iinc 4 1, 3) := by decide +kernel
theorem dF2_42 : decode prog_22_method_5_code 42 = .ok (.goto (-30), 3) := by decide +kernel
theorem dF2_45 : decode prog_22_method_5_code 45 = .ok (.aload_n 1, 1) := by decide +kernel
theorem dF2_46 : decode prog_22_method_5_code 46 = .ok (.areturn, 1) := by decide +kernel
theorem pnF2 : plainName "com/example/kyu/kyu/wire/FrameType" = true := by first | (simp [plainName, overriddenIn]; done) | decide +kernel
theorem efF2 (m : MethodId)  : entryFrame m #[(.int (2 : Int32))] 6 = mkF m 0 #[.val (.int (2 : Int32)), .unset, .unset, .unset, .unset, .unset] [] := by first | (simp [entryFrame, mkF, argsToLocals, Value.category]; done) | rfl
def QF2 (Z : State) (s_METHOD : Addr) (s_HEADER : Addr) (s_BODY : Addr) (s_HEARTBEAT : Addr) (s_ALL : Addr) (kc_s_ALL : ClassId) (h0 : Heap) (n0 : Nat) (v : Option Value) (h : Heap) (L : List Loc) : Prop := (v = some (.ref s_HEADER) ∧ Fr n0 L ∧ h = h0)
set_option maxRecDepth 65536 in
set_option maxHeartbeats 40000000 in
theorem rmF2 (l : Launch) (Z : State) (a0 : Array Value) (hw : ∀ d ∈ tables_1, d.before a0 Z = true) (ws : List Jvm.Cond) (s_METHOD : Addr) (s_HEADER : Addr) (s_BODY : Addr) (s_HEARTBEAT : Addr) (s_ALL : Addr) (kc_s_ALL : ClassId) (h0 : Heap) (n0 : Nat) (Z0 : n0 ≤ h0.size) (E0_s_METHOD : Exa Z h0 s_METHOD "com/example/kyu/kyu/wire/FrameType") (F0_s_METHOD_octet : Fld Z h0 s_METHOD "com/example/kyu/kyu/wire/FrameType" "octet" "I" (.int (1 : Int32))) (E0_s_HEADER : Exa Z h0 s_HEADER "com/example/kyu/kyu/wire/FrameType") (F0_s_HEADER_octet : Fld Z h0 s_HEADER "com/example/kyu/kyu/wire/FrameType" "octet" "I" (.int (2 : Int32))) (E0_s_BODY : Exa Z h0 s_BODY "com/example/kyu/kyu/wire/FrameType") (F0_s_BODY_octet : Fld Z h0 s_BODY "com/example/kyu/kyu/wire/FrameType" "octet" "I" (.int (3 : Int32))) (E0_s_HEARTBEAT : Exa Z h0 s_HEARTBEAT "com/example/kyu/kyu/wire/FrameType") (F0_s_HEARTBEAT_octet : Fld Z h0 s_HEARTBEAT "com/example/kyu/kyu/wire/FrameType" "octet" "I" (.int (8 : Int32))) (V0_s_ALL : Arv Z h0 s_ALL kc_s_ALL (.object "com/example/kyu/kyu/wire/FrameType") (4 : Int32) [(.ref s_METHOD), (.ref s_HEADER), (.ref s_BODY), (.ref s_HEARTBEAT)] .null) (S0_ALL : Sta Z h0 "com/example/kyu/kyu/wire/FrameType" "ALL" "[Lcom/example/kyu/kyu/wire/FrameType;" (.ref s_ALL)) (S0_METHOD : Sta Z h0 "com/example/kyu/kyu/wire/FrameType" "METHOD" "Lcom/example/kyu/kyu/wire/FrameType;" (.ref s_METHOD)) (S0_HEADER : Sta Z h0 "com/example/kyu/kyu/wire/FrameType" "HEADER" "Lcom/example/kyu/kyu/wire/FrameType;" (.ref s_HEADER)) (S0_BODY : Sta Z h0 "com/example/kyu/kyu/wire/FrameType" "BODY" "Lcom/example/kyu/kyu/wire/FrameType;" (.ref s_BODY)) (S0_HEARTBEAT : Sta Z h0 "com/example/kyu/kyu/wire/FrameType" "HEARTBEAT" "Lcom/example/kyu/kyu/wire/FrameType;" (.ref s_HEARTBEAT)) :
    MetFree l (⟨"com/example/kyu/kyu/wire/FrameType", "fromOctet", "(I)Lcom/example/kyu/kyu/wire/FrameType;"⟩ : MethodName) (head1 (Jvm.Cond.code (⟨"com/example/kyu/kyu/wire/FrameType", "fromOctet", "(I)Lcom/example/kyu/kyu/wire/FrameType;"⟩ : MethodName) prog_22_method_5_code 6 (some (.object "com/example/kyu/kyu/wire/FrameType")) :: ws) ({ frames := 0, cells := 0, slots := 0, locals := 0 } : Room)) (fun aa U => aa = #[(.int (2 : Int32))] ∧ Z.Warmed39 U.vm ∧ U.heap = h0) (fun _ _ _ _ _ => True) (fun _ U o U' => ∃ v L, o = .returned v ∧ QF2 Z s_METHOD s_HEADER s_BODY s_HEARTBEAT s_ALL kc_s_ALL h0 n0 v U'.heap L ∧ FrameEnd U o U' L ({ frames := 0, cells := 0, slots := 0, locals := 0 } : Room).cells ({ frames := 0, cells := 0, slots := 0, locals := 0 } : Room).slots) := by
  refine MetFree.of_bodySF (plainFor_of_name pnF2) hisR ?_
  intro p e s m args below meth c s₁ Bd hml0 hP hK
  obtain ⟨rfl, hZ, hh⟩ := hP
  have hx := Bd.exec
  have hby := Bd.bytes
  have hml : c.maxLocals = 6 := hml0
  have hown : s.vm.findClass "com/example/kyu/kyu/wire/FrameType" = some m.cls := findClass_of_methodNamed Bd.named
  have hnm := (name_of_methodNamed Bd.named Bd.method).1
  have hlk : meth.locks = false := BodyLoose.notSynchronized Bd
  have hret : meth.sig.returnType = (some (.object "com/example/kyu/kyu/wire/FrameType")) := Bd.returns
  have X0 : Stand p l e ({ frames := 0, cells := 0, slots := 0, locals := 0 } : Room) s m #[(.int (2 : Int32))] below meth c s₁ [] 0 0 := Stand.of_body Bd
  have e0 : s₁.heap = h0 := by rw [← hh, Bd.state]; rfl
  have N0 := Fr.nil n0
  show Go p e below s ({ frames := 0, cells := 0, slots := 0, locals := 0 } : Room).cells ({ frames := 0, cells := 0, slots := 0, locals := 0 } : Room).slots (QF2 Z s_METHOD s_HEADER s_BODY s_HEARTBEAT s_ALL kc_s_ALL h0 n0) (s₁.setTop (entryFrame m #[(.int (2 : Int32))] 6))
  rw [efF2]
  refine Go.by (fun _ kont => XS.aconstNull X0.here hx rfl (hb hby dF2_0) (XS.astoreN X0.here hx rfl (hb hby dF2_1) rfl rfl (l' := #[.val (.int (2 : Int32)), .val .null, .unset, .unset, .unset, .unset]) rfl kont)) ?_
  show Go _ _ _ _ _ _ _ (s₁.setTop (mkF m 2 #[.val (.int (2 : Int32)), .val .null, .unset, .unset, .unset, .unset] []))
  obtain ⟨T101, X101, e101, st101⟩ := getS2 X0 hx hZ hown (host := "") (Or.inl (hw _ (List.mem_of_getElem? (i := 4) rfl))) Via.refl e0 S0_ALL (g := (mkF m 2 #[.val (.int (2 : Int32)), .val .null, .unset, .unset, .unset, .unset] [])) rfl (hb hby dF2_2)
  refine Go.by st101 ?_
  show Go _ _ _ _ _ _ _ (T101.setTop (mkF m 5 #[.val (.int (2 : Int32)), .val .null, .unset, .unset, .unset, .unset] [(.ref s_ALL)]))
  refine Go.by (fun _ kont => XS.astoreN X101.here hx rfl (hb hby dF2_5) rfl rfl (l' := #[.val (.int (2 : Int32)), .val .null, .val (.ref s_ALL), .unset, .unset, .unset]) rfl (XS.aloadN X101.here hx rfl (hb hby dF2_6) rfl rfl kont)) ?_
  show Go _ _ _ _ _ _ _ (T101.setTop (mkF m 7 #[.val (.int (2 : Int32)), .val .null, .val (.ref s_ALL), .unset, .unset, .unset] [(.ref s_ALL)]))
  obtain ⟨cl_q102, Ar_q102, q1_q102, S_q102, N_q102, H_q102, G_q102⟩ := id V0_s_ALL
  refine Go.by (X101.arraylength hx (by rw [e101]; exact Ar_q102.1) (State.isArrayOf_alike hZ.alike Ar_q102.2.1) (g := (mkF m 7 #[.val (.int (2 : Int32)), .val .null, .val (.ref s_ALL), .unset, .unset, .unset] [(.ref s_ALL)])) rfl rfl (hb hby dF2_7)) ?_
  rw [len_of S_q102 N_q102]
  show Go _ _ _ _ _ _ _ (T101.setTop (mkF m 8 #[.val (.int (2 : Int32)), .val .null, .val (.ref s_ALL), .unset, .unset, .unset] [(.int (4 : Int32))]))
  refine Go.by (fun _ kont => XS.istoreN X101.here hx rfl (hb hby dF2_8) rfl (l' := #[.val (.int (2 : Int32)), .val .null, .val (.ref s_ALL), .val (.int (4 : Int32)), .unset, .unset]) rfl (XS.iconst X101.here hx rfl (hb hby dF2_9) (XS.istore X101.here hx rfl (hb hby dF2_10) rfl (l' := #[.val (.int (2 : Int32)), .val .null, .val (.ref s_ALL), .val (.int (4 : Int32)), .val (.int (0 : Int32)), .unset]) rfl (XS.iload X101.here hx rfl (hb hby dF2_12) rfl (XS.iloadN X101.here hx rfl (hb hby dF2_14) rfl kont))))) ?_
  show Go _ _ _ _ _ _ _ (T101.setTop (mkF m 15 #[.val (.int (2 : Int32)), .val .null, .val (.ref s_ALL), .val (.int (4 : Int32)), .val (.int (0 : Int32)), .unset] [(.int (4 : Int32)), (.int (0 : Int32))]))
  refine Go.by (fun _ kont => XS.icmpNo X101.here hx rfl (hb hby dF2_15) rfl (by decide) kont) ?_
  show Go _ _ _ _ _ _ _ (T101.setTop (mkF m 18 #[.val (.int (2 : Int32)), .val .null, .val (.ref s_ALL), .val (.int (4 : Int32)), .val (.int (0 : Int32)), .unset] []))
  refine Go.by (fun _ kont => XS.aloadN X101.here hx rfl (hb hby dF2_18) rfl rfl (XS.iload X101.here hx rfl (hb hby dF2_19) rfl kont)) ?_
  show Go _ _ _ _ _ _ _ (T101.setTop (mkF m 21 #[.val (.int (2 : Int32)), .val .null, .val (.ref s_ALL), .val (.int (4 : Int32)), .val (.int (0 : Int32)), .unset] [(.int (0 : Int32)), (.ref s_ALL)]))
  obtain ⟨cl_q103, Ar_q103, q1_q103, S_q103, N_q103, H_q103, G_q103⟩ := id V0_s_ALL
  have hin_q103 : ¬ ((0 : Int32) < 0 ∨ cl_q103.slots.size ≤ ((0 : Int32)).toNatClampNeg) := inb_of S_q103 ⟨by decide, by decide⟩
  have hat_q103 : cl_q103.slots[((0 : Int32)).toNatClampNeg]? = some (.ref s_METHOD) := Has.at H_q103 hin_q103 rfl
  refine Go.by (X101.aaload hx (j := (0 : Int32)) (v := (.ref s_METHOD)) (by rw [e101]; exact Ar_q103.1) (State.isArrayOf_alike hZ.alike Ar_q103.2.1) rfl Ar_q103.2.2 hin_q103 hat_q103 (g := (mkF m 21 #[.val (.int (2 : Int32)), .val .null, .val (.ref s_ALL), .val (.int (4 : Int32)), .val (.int (0 : Int32)), .unset] [(.int (0 : Int32)), (.ref s_ALL)])) rfl rfl (hb hby dF2_21)) ?_
  show Go _ _ _ _ _ _ _ (T101.setTop (mkF m 22 #[.val (.int (2 : Int32)), .val .null, .val (.ref s_ALL), .val (.int (4 : Int32)), .val (.int (0 : Int32)), .unset] [(.ref s_METHOD)]))
  refine Go.by (fun _ kont => XS.astore X101.here hx rfl (hb hby dF2_22) rfl rfl (l' := #[.val (.int (2 : Int32)), .val .null, .val (.ref s_ALL), .val (.int (4 : Int32)), .val (.int (0 : Int32)), .val (.ref s_METHOD)]) rfl (XS.aload X101.here hx rfl (hb hby dF2_24) rfl rfl kont)) ?_
  show Go _ _ _ _ _ _ _ (T101.setTop (mkF m 26 #[.val (.int (2 : Int32)), .val .null, .val (.ref s_ALL), .val (.int (4 : Int32)), .val (.int (0 : Int32)), .val (.ref s_METHOD)] [(.ref s_METHOD)]))
  obtain ⟨T104, X104, e104, st104⟩ := getF X101 hx hZ hown (host := "") (Or.inl (hw _ (List.mem_of_getElem? (i := 7) rfl))) Via.refl e101 F0_s_METHOD_octet (g := (mkF m 26 #[.val (.int (2 : Int32)), .val .null, .val (.ref s_ALL), .val (.int (4 : Int32)), .val (.int (0 : Int32)), .val (.ref s_METHOD)] [(.ref s_METHOD)])) rfl rfl (hb hby dF2_26)
  refine Go.by st104 ?_
  show Go _ _ _ _ _ _ _ (T104.setTop (mkF m 29 #[.val (.int (2 : Int32)), .val .null, .val (.ref s_ALL), .val (.int (4 : Int32)), .val (.int (0 : Int32)), .val (.ref s_METHOD)] [(.int (1 : Int32))]))
  refine Go.by (fun _ kont => XS.iloadN X104.here hx rfl (hb hby dF2_29) rfl kont) ?_
  show Go _ _ _ _ _ _ _ (T104.setTop (mkF m 30 #[.val (.int (2 : Int32)), .val .null, .val (.ref s_ALL), .val (.int (4 : Int32)), .val (.int (0 : Int32)), .val (.ref s_METHOD)] [(.int (2 : Int32)), (.int (1 : Int32))]))
  refine Go.by (fun _ kont => XS.icmpYes X104.here hx rfl (pc0 := 30) (pc' := 39) rfl (hb hby dF2_30) rfl (by decide) (by decide) (by decide) kont) ?_
  show Go _ _ _ _ _ _ _ (T104.setTop (mkF m 39 #[.val (.int (2 : Int32)), .val .null, .val (.ref s_ALL), .val (.int (4 : Int32)), .val (.int (0 : Int32)), .val (.ref s_METHOD)] []))
  refine Go.by (fun _ kont => XS.iinc X104.here hx rfl (hb hby dF2_39) rfl (l' := #[.val (.int (2 : Int32)), .val .null, .val (.ref s_ALL), .val (.int (4 : Int32)), .val (.int (1 : Int32)), .val (.ref s_METHOD)]) rfl (XS.goto X104.here hx rfl (pc0 := 42) (pc' := 12) rfl (hb hby dF2_42) (by decide) (by decide) (XS.iload X104.here hx rfl (hb hby dF2_12) rfl (XS.iloadN X104.here hx rfl (hb hby dF2_14) rfl kont)))) ?_
  show Go _ _ _ _ _ _ _ (T104.setTop (mkF m 15 #[.val (.int (2 : Int32)), .val .null, .val (.ref s_ALL), .val (.int (4 : Int32)), .val (.int (1 : Int32)), .val (.ref s_METHOD)] [(.int (4 : Int32)), (.int (1 : Int32))]))
  refine Go.by (fun _ kont => XS.icmpNo X104.here hx rfl (hb hby dF2_15) rfl (by decide) kont) ?_
  show Go _ _ _ _ _ _ _ (T104.setTop (mkF m 18 #[.val (.int (2 : Int32)), .val .null, .val (.ref s_ALL), .val (.int (4 : Int32)), .val (.int (1 : Int32)), .val (.ref s_METHOD)] []))
  refine Go.by (fun _ kont => XS.aloadN X104.here hx rfl (hb hby dF2_18) rfl rfl (XS.iload X104.here hx rfl (hb hby dF2_19) rfl kont)) ?_
  show Go _ _ _ _ _ _ _ (T104.setTop (mkF m 21 #[.val (.int (2 : Int32)), .val .null, .val (.ref s_ALL), .val (.int (4 : Int32)), .val (.int (1 : Int32)), .val (.ref s_METHOD)] [(.int (1 : Int32)), (.ref s_ALL)]))
  obtain ⟨cl_q105, Ar_q105, q1_q105, S_q105, N_q105, H_q105, G_q105⟩ := id V0_s_ALL
  have hin_q105 : ¬ ((1 : Int32) < 0 ∨ cl_q105.slots.size ≤ ((1 : Int32)).toNatClampNeg) := inb_of S_q105 ⟨by decide, by decide⟩
  have hat_q105 : cl_q105.slots[((1 : Int32)).toNatClampNeg]? = some (.ref s_HEADER) := Has.at H_q105 hin_q105 rfl
  refine Go.by (X104.aaload hx (j := (1 : Int32)) (v := (.ref s_HEADER)) (by rw [e104]; exact Ar_q105.1) (State.isArrayOf_alike hZ.alike Ar_q105.2.1) rfl Ar_q105.2.2 hin_q105 hat_q105 (g := (mkF m 21 #[.val (.int (2 : Int32)), .val .null, .val (.ref s_ALL), .val (.int (4 : Int32)), .val (.int (1 : Int32)), .val (.ref s_METHOD)] [(.int (1 : Int32)), (.ref s_ALL)])) rfl rfl (hb hby dF2_21)) ?_
  show Go _ _ _ _ _ _ _ (T104.setTop (mkF m 22 #[.val (.int (2 : Int32)), .val .null, .val (.ref s_ALL), .val (.int (4 : Int32)), .val (.int (1 : Int32)), .val (.ref s_METHOD)] [(.ref s_HEADER)]))
  refine Go.by (fun _ kont => XS.astore X104.here hx rfl (hb hby dF2_22) rfl rfl (l' := #[.val (.int (2 : Int32)), .val .null, .val (.ref s_ALL), .val (.int (4 : Int32)), .val (.int (1 : Int32)), .val (.ref s_HEADER)]) rfl (XS.aload X104.here hx rfl (hb hby dF2_24) rfl rfl kont)) ?_
  show Go _ _ _ _ _ _ _ (T104.setTop (mkF m 26 #[.val (.int (2 : Int32)), .val .null, .val (.ref s_ALL), .val (.int (4 : Int32)), .val (.int (1 : Int32)), .val (.ref s_HEADER)] [(.ref s_HEADER)]))
  obtain ⟨T106, X106, e106, st106⟩ := getF X104 hx hZ hown (host := "") (Or.inl (hw _ (List.mem_of_getElem? (i := 7) rfl))) Via.refl e104 F0_s_HEADER_octet (g := (mkF m 26 #[.val (.int (2 : Int32)), .val .null, .val (.ref s_ALL), .val (.int (4 : Int32)), .val (.int (1 : Int32)), .val (.ref s_HEADER)] [(.ref s_HEADER)])) rfl rfl (hb hby dF2_26)
  refine Go.by st106 ?_
  show Go _ _ _ _ _ _ _ (T106.setTop (mkF m 29 #[.val (.int (2 : Int32)), .val .null, .val (.ref s_ALL), .val (.int (4 : Int32)), .val (.int (1 : Int32)), .val (.ref s_HEADER)] [(.int (2 : Int32))]))
  refine Go.by (fun _ kont => XS.iloadN X106.here hx rfl (hb hby dF2_29) rfl kont) ?_
  show Go _ _ _ _ _ _ _ (T106.setTop (mkF m 30 #[.val (.int (2 : Int32)), .val .null, .val (.ref s_ALL), .val (.int (4 : Int32)), .val (.int (1 : Int32)), .val (.ref s_HEADER)] [(.int (2 : Int32)), (.int (2 : Int32))]))
  refine Go.by (fun _ kont => XS.icmpNo X106.here hx rfl (hb hby dF2_30) rfl (by decide) kont) ?_
  show Go _ _ _ _ _ _ _ (T106.setTop (mkF m 33 #[.val (.int (2 : Int32)), .val .null, .val (.ref s_ALL), .val (.int (4 : Int32)), .val (.int (1 : Int32)), .val (.ref s_HEADER)] []))
  refine Go.by (fun _ kont => XS.aload X106.here hx rfl (hb hby dF2_33) rfl rfl (XS.astoreN X106.here hx rfl (hb hby dF2_35) rfl rfl (l' := #[.val (.int (2 : Int32)), .val (.ref s_HEADER), .val (.ref s_ALL), .val (.int (4 : Int32)), .val (.int (1 : Int32)), .val (.ref s_HEADER)]) rfl (XS.goto X106.here hx rfl (pc0 := 36) (pc' := 45) rfl (hb hby dF2_36) (by decide) (by decide) (XS.aloadN X106.here hx rfl (hb hby dF2_45) rfl rfl kont)))) ?_
  show Go _ _ _ _ _ _ _ (T106.setTop (mkF m 46 #[.val (.int (2 : Int32)), .val (.ref s_HEADER), .val (.ref s_ALL), .val (.int (4 : Int32)), .val (.int (1 : Int32)), .val (.ref s_HEADER)] [(.ref s_HEADER)]))
  refine Go.retR X106 hx hret rfl rfl hlk (hb hby dF2_46) ?_ (by decide) (by decide)
  show QF2 Z s_METHOD s_HEADER s_BODY s_HEARTBEAT s_ALL kc_s_ALL h0 n0 (some (.ref s_HEADER)) T106.heap _
  rw [e106]
  exact ⟨rfl, N0, rfl⟩

theorem dX2_0 : decode method_2_code 0 = .ok (.iload_n 0, 1) := by decide +kernel
theorem dX2_1 : decode method_2_code 1 = .ok (.iconst 1, 1) := by decide +kernel
theorem dX2_2 : decode method_2_code 2 = .ok (.if_icmp .ne 7, 3) := by decide +kernel
theorem dX2_9 : decode method_2_code 9 = .ok (.iload_n 0, 1) := by decide +kernel
theorem dX2_10 : decode method_2_code 10 = .ok (.iconst 2, 1) := by decide +kernel
theorem dX2_11 : decode method_2_code 11 = .ok (.if_icmp .ne 7, 3) := by decide +kernel
theorem dX2_14 : decode method_2_code 14 = .ok (.getstatic 13, 3) := by decide +kernel
theorem dX2_17 : decode method_2_code 17 = .ok (.areturn, 1) := by decide +kernel
theorem pnX2 : plainName "com/example/kyu/kyu/wire/FrameTypeFromOctetPinLaw" = true := by first | (simp [plainName, overriddenIn]; done) | decide +kernel
theorem efX2 (m : MethodId)  : entryFrame m #[(.int (2 : Int32))] 1 = mkF m 0 #[.val (.int (2 : Int32))] [] := by first | (simp [entryFrame, mkF, argsToLocals, Value.category]; done) | rfl
def QX2 (Z : State) (s_METHOD : Addr) (s_HEADER : Addr) (s_BODY : Addr) (s_HEARTBEAT : Addr) (s_ALL : Addr) (kc_s_ALL : ClassId) (h0 : Heap) (n0 : Nat) (v : Option Value) (h : Heap) (L : List Loc) : Prop := (v = some (.ref s_HEADER) ∧ Fr n0 L ∧ h = h0)
set_option maxRecDepth 65536 in
set_option maxHeartbeats 40000000 in
theorem rmX2 (l : Launch) (Z : State) (a0 : Array Value) (hw : ∀ d ∈ tables_1, d.before a0 Z = true) (ws : List Jvm.Cond) (s_METHOD : Addr) (s_HEADER : Addr) (s_BODY : Addr) (s_HEARTBEAT : Addr) (s_ALL : Addr) (kc_s_ALL : ClassId) (h0 : Heap) (n0 : Nat) (Z0 : n0 ≤ h0.size) (E0_s_METHOD : Exa Z h0 s_METHOD "com/example/kyu/kyu/wire/FrameType") (F0_s_METHOD_octet : Fld Z h0 s_METHOD "com/example/kyu/kyu/wire/FrameType" "octet" "I" (.int (1 : Int32))) (E0_s_HEADER : Exa Z h0 s_HEADER "com/example/kyu/kyu/wire/FrameType") (F0_s_HEADER_octet : Fld Z h0 s_HEADER "com/example/kyu/kyu/wire/FrameType" "octet" "I" (.int (2 : Int32))) (E0_s_BODY : Exa Z h0 s_BODY "com/example/kyu/kyu/wire/FrameType") (F0_s_BODY_octet : Fld Z h0 s_BODY "com/example/kyu/kyu/wire/FrameType" "octet" "I" (.int (3 : Int32))) (E0_s_HEARTBEAT : Exa Z h0 s_HEARTBEAT "com/example/kyu/kyu/wire/FrameType") (F0_s_HEARTBEAT_octet : Fld Z h0 s_HEARTBEAT "com/example/kyu/kyu/wire/FrameType" "octet" "I" (.int (8 : Int32))) (V0_s_ALL : Arv Z h0 s_ALL kc_s_ALL (.object "com/example/kyu/kyu/wire/FrameType") (4 : Int32) [(.ref s_METHOD), (.ref s_HEADER), (.ref s_BODY), (.ref s_HEARTBEAT)] .null) (S0_ALL : Sta Z h0 "com/example/kyu/kyu/wire/FrameType" "ALL" "[Lcom/example/kyu/kyu/wire/FrameType;" (.ref s_ALL)) (S0_METHOD : Sta Z h0 "com/example/kyu/kyu/wire/FrameType" "METHOD" "Lcom/example/kyu/kyu/wire/FrameType;" (.ref s_METHOD)) (S0_HEADER : Sta Z h0 "com/example/kyu/kyu/wire/FrameType" "HEADER" "Lcom/example/kyu/kyu/wire/FrameType;" (.ref s_HEADER)) (S0_BODY : Sta Z h0 "com/example/kyu/kyu/wire/FrameType" "BODY" "Lcom/example/kyu/kyu/wire/FrameType;" (.ref s_BODY)) (S0_HEARTBEAT : Sta Z h0 "com/example/kyu/kyu/wire/FrameType" "HEARTBEAT" "Lcom/example/kyu/kyu/wire/FrameType;" (.ref s_HEARTBEAT)) :
    MetFree l (⟨"com/example/kyu/kyu/wire/FrameTypeFromOctetPinLaw", "expected", "(I)Lcom/example/kyu/kyu/wire/FrameType;"⟩ : MethodName) (head1 (Jvm.Cond.code (⟨"com/example/kyu/kyu/wire/FrameTypeFromOctetPinLaw", "expected", "(I)Lcom/example/kyu/kyu/wire/FrameType;"⟩ : MethodName) method_2_code 1 (some (.object "com/example/kyu/kyu/wire/FrameType")) :: ws) ({ frames := 0, cells := 0, slots := 0, locals := 0 } : Room)) (fun aa U => aa = #[(.int (2 : Int32))] ∧ Z.Warmed39 U.vm ∧ U.heap = h0) (fun _ _ _ _ _ => True) (fun _ U o U' => ∃ v L, o = .returned v ∧ QX2 Z s_METHOD s_HEADER s_BODY s_HEARTBEAT s_ALL kc_s_ALL h0 n0 v U'.heap L ∧ FrameEnd U o U' L ({ frames := 0, cells := 0, slots := 0, locals := 0 } : Room).cells ({ frames := 0, cells := 0, slots := 0, locals := 0 } : Room).slots) := by
  refine MetFree.of_bodySF (plainFor_of_name pnX2) hisR ?_
  intro p e s m args below meth c s₁ Bd hml0 hP hK
  obtain ⟨rfl, hZ, hh⟩ := hP
  have hx := Bd.exec
  have hby := Bd.bytes
  have hml : c.maxLocals = 1 := hml0
  have hown : s.vm.findClass "com/example/kyu/kyu/wire/FrameTypeFromOctetPinLaw" = some m.cls := findClass_of_methodNamed Bd.named
  have hnm := (name_of_methodNamed Bd.named Bd.method).1
  have hlk : meth.locks = false := BodyLoose.notSynchronized Bd
  have hret : meth.sig.returnType = (some (.object "com/example/kyu/kyu/wire/FrameType")) := Bd.returns
  have X0 : Stand p l e ({ frames := 0, cells := 0, slots := 0, locals := 0 } : Room) s m #[(.int (2 : Int32))] below meth c s₁ [] 0 0 := Stand.of_body Bd
  have e0 : s₁.heap = h0 := by rw [← hh, Bd.state]; rfl
  have N0 := Fr.nil n0
  show Go p e below s ({ frames := 0, cells := 0, slots := 0, locals := 0 } : Room).cells ({ frames := 0, cells := 0, slots := 0, locals := 0 } : Room).slots (QX2 Z s_METHOD s_HEADER s_BODY s_HEARTBEAT s_ALL kc_s_ALL h0 n0) (s₁.setTop (entryFrame m #[(.int (2 : Int32))] 1))
  rw [efX2]
  refine Go.by (fun _ kont => XS.iloadN X0.here hx rfl (hb hby dX2_0) rfl (XS.iconst X0.here hx rfl (hb hby dX2_1) kont)) ?_
  show Go _ _ _ _ _ _ _ (s₁.setTop (mkF m 2 #[.val (.int (2 : Int32))] [(.int (1 : Int32)), (.int (2 : Int32))]))
  refine Go.by (fun _ kont => XS.icmpYes X0.here hx rfl (pc0 := 2) (pc' := 9) rfl (hb hby dX2_2) rfl (by decide) (by decide) (by decide) kont) ?_
  show Go _ _ _ _ _ _ _ (s₁.setTop (mkF m 9 #[.val (.int (2 : Int32))] []))
  refine Go.by (fun _ kont => XS.iloadN X0.here hx rfl (hb hby dX2_9) rfl (XS.iconst X0.here hx rfl (hb hby dX2_10) kont)) ?_
  show Go _ _ _ _ _ _ _ (s₁.setTop (mkF m 11 #[.val (.int (2 : Int32))] [(.int (2 : Int32)), (.int (2 : Int32))]))
  refine Go.by (fun _ kont => XS.icmpNo X0.here hx rfl (hb hby dX2_11) rfl (by decide) kont) ?_
  show Go _ _ _ _ _ _ _ (s₁.setTop (mkF m 14 #[.val (.int (2 : Int32))] []))
  obtain ⟨T101, X101, e101, st101⟩ := getS2 X0 hx hZ hown (host := "") (Or.inl (hw _ (List.mem_of_getElem? (i := 17) rfl))) Via.refl e0 S0_HEADER (g := (mkF m 14 #[.val (.int (2 : Int32))] [])) rfl (hb hby dX2_14)
  refine Go.by st101 ?_
  show Go _ _ _ _ _ _ _ (T101.setTop (mkF m 17 #[.val (.int (2 : Int32))] [(.ref s_HEADER)]))
  refine Go.retR X101 hx hret rfl rfl hlk (hb hby dX2_17) ?_ (by decide) (by decide)
  show QX2 Z s_METHOD s_HEADER s_BODY s_HEARTBEAT s_ALL kc_s_ALL h0 n0 (some (.ref s_HEADER)) T101.heap _
  rw [e101]
  exact ⟨rfl, N0, rfl⟩

theorem dF3_0 : decode prog_22_method_5_code 0 = .ok (.aconst_null, 1) := by decide +kernel
theorem dF3_1 : decode prog_22_method_5_code 1 = .ok (.astore_n 1, 1) := by decide +kernel
theorem dF3_2 : decode prog_22_method_5_code 2 = .ok (.getstatic 39, 3) := by decide +kernel
theorem dF3_5 : decode prog_22_method_5_code 5 = .ok (.astore_n 2, 1) := by decide +kernel
theorem dF3_6 : decode prog_22_method_5_code 6 = .ok (.aload_n 2, 1) := by decide +kernel
theorem dF3_7 : decode prog_22_method_5_code 7 = .ok (.arraylength, 1) := by decide +kernel
theorem dF3_8 : decode prog_22_method_5_code 8 = .ok (.istore_n 3, 1) := by decide +kernel
theorem dF3_9 : decode prog_22_method_5_code 9 = .ok (.iconst 0, 1) := by decide +kernel
theorem dF3_10 : decode prog_22_method_5_code 10 = .ok (.istore 4, 2) := by decide +kernel
theorem dF3_12 : decode prog_22_method_5_code 12 = .ok (.iload 4, 2) := by decide +kernel
theorem dF3_14 : decode prog_22_method_5_code 14 = .ok (.iload_n 3, 1) := by decide +kernel
theorem dF3_15 : decode prog_22_method_5_code 15 = .ok (.if_icmp .ge 30, 3) := by decide +kernel
theorem dF3_18 : decode prog_22_method_5_code 18 = .ok (.aload_n 2, 1) := by decide +kernel
theorem dF3_19 : decode prog_22_method_5_code 19 = .ok (.iload 4, 2) := by decide +kernel
theorem dF3_21 : decode prog_22_method_5_code 21 = .ok (.aaload, 1) := by decide +kernel
theorem dF3_22 : decode prog_22_method_5_code 22 = .ok (.astore 5, 2) := by decide +kernel
theorem dF3_24 : decode prog_22_method_5_code 24 = .ok (.aload 5, 2) := by decide +kernel
theorem dF3_26 : decode prog_22_method_5_code 26 = .ok (.getfield 35, 3) := by decide +kernel
theorem dF3_29 : decode prog_22_method_5_code 29 = .ok (.iload_n 0, 1) := by decide +kernel
theorem dF3_30 : decode prog_22_method_5_code 30 = .ok (.if_icmp .ne 9, 3) := by decide +kernel
theorem dF3_33 : decode prog_22_method_5_code 33 = .ok (.aload 5, 2) := by decide +kernel
theorem dF3_35 : decode prog_22_method_5_code 35 = .ok (.astore_n 1, 1) := by decide +kernel
theorem dF3_36 : decode prog_22_method_5_code 36 = .ok (.goto 9, 3) := by decide +kernel
theorem dF3_39 : decode prog_22_method_5_code 39 = .ok (.iinc 4 1, 3) := by decide +kernel
theorem dF3_42 : decode prog_22_method_5_code 42 = .ok (.goto (-30), 3) := by decide +kernel
theorem dF3_45 : decode prog_22_method_5_code 45 = .ok (.aload_n 1, 1) := by decide +kernel
theorem dF3_46 : decode prog_22_method_5_code 46 = .ok (.areturn, 1) := by decide +kernel
theorem pnF3 : plainName "com/example/kyu/kyu/wire/FrameType" = true := by first | (simp [plainName, overriddenIn]; done) | decide +kernel
theorem efF3 (m : MethodId)  : entryFrame m #[(.int (3 : Int32))] 6 = mkF m 0 #[.val (.int (3 : Int32)), .unset, .unset, .unset, .unset, .unset] [] := by first | (simp [entryFrame, mkF, argsToLocals, Value.category]; done) | rfl
def QF3 (Z : State) (s_METHOD : Addr) (s_HEADER : Addr) (s_BODY : Addr) (s_HEARTBEAT : Addr) (s_ALL : Addr) (kc_s_ALL : ClassId) (h0 : Heap) (n0 : Nat) (v : Option Value) (h : Heap) (L : List Loc) : Prop := (v = some (.ref s_BODY) ∧ Fr n0 L ∧ h = h0)
set_option maxRecDepth 65536 in
set_option maxHeartbeats 40000000 in
theorem rmF3 (l : Launch) (Z : State) (a0 : Array Value) (hw : ∀ d ∈ tables_1, d.before a0 Z = true) (ws : List Jvm.Cond) (s_METHOD : Addr) (s_HEADER : Addr) (s_BODY : Addr) (s_HEARTBEAT : Addr) (s_ALL : Addr) (kc_s_ALL : ClassId) (h0 : Heap) (n0 : Nat) (Z0 : n0 ≤ h0.size) (E0_s_METHOD : Exa Z h0 s_METHOD "com/example/kyu/kyu/wire/FrameType") (F0_s_METHOD_octet : Fld Z h0 s_METHOD "com/example/kyu/kyu/wire/FrameType" "octet" "I" (.int (1 : Int32))) (E0_s_HEADER : Exa Z h0 s_HEADER "com/example/kyu/kyu/wire/FrameType") (F0_s_HEADER_octet : Fld Z h0 s_HEADER "com/example/kyu/kyu/wire/FrameType" "octet" "I" (.int (2 : Int32))) (E0_s_BODY : Exa Z h0 s_BODY "com/example/kyu/kyu/wire/FrameType") (F0_s_BODY_octet : Fld Z h0 s_BODY "com/example/kyu/kyu/wire/FrameType" "octet" "I" (.int (3 : Int32))) (E0_s_HEARTBEAT : Exa Z h0 s_HEARTBEAT "com/example/kyu/kyu/wire/FrameType") (F0_s_HEARTBEAT_octet : Fld Z h0 s_HEARTBEAT "com/example/kyu/kyu/wire/FrameType" "octet" "I" (.int (8 : Int32))) (V0_s_ALL : Arv Z h0 s_ALL kc_s_ALL (.object "com/example/kyu/kyu/wire/FrameType") (4 : Int32) [(.ref s_METHOD), (.ref s_HEADER), (.ref s_BODY), (.ref s_HEARTBEAT)] .null) (S0_ALL : Sta Z h0 "com/example/kyu/kyu/wire/FrameType" "ALL" "[Lcom/example/kyu/kyu/wire/FrameType;" (.ref s_ALL)) (S0_METHOD : Sta Z h0 "com/example/kyu/kyu/wire/FrameType" "METHOD" "Lcom/example/kyu/kyu/wire/FrameType;" (.ref s_METHOD)) (S0_HEADER : Sta Z h0 "com/example/kyu/kyu/wire/FrameType" "HEADER" "Lcom/example/kyu/kyu/wire/FrameType;" (.ref s_HEADER)) (S0_BODY : Sta Z h0 "com/example/kyu/kyu/wire/FrameType" "BODY" "Lcom/example/kyu/kyu/wire/FrameType;" (.ref s_BODY)) (S0_HEARTBEAT : Sta Z h0 "com/example/kyu/kyu/wire/FrameType" "HEARTBEAT" "Lcom/example/kyu/kyu/wire/FrameType;" (.ref s_HEARTBEAT)) :
    MetFree l (⟨"com/example/kyu/kyu/wire/FrameType", "fromOctet", "(I)Lcom/example/kyu/kyu/wire/FrameType;"⟩ : MethodName) (head1 (Jvm.Cond.code (⟨"com/example/kyu/kyu/wire/FrameType", "fromOctet", "(I)Lcom/example/kyu/kyu/wire/FrameType;"⟩ : MethodName) prog_22_method_5_code 6 (some (.object "com/example/kyu/kyu/wire/FrameType")) :: ws) ({ frames := 0, cells := 0, slots := 0, locals := 0 } : Room)) (fun aa U => aa = #[(.int (3 : Int32))] ∧ Z.Warmed39 U.vm ∧ U.heap = h0) (fun _ _ _ _ _ => True) (fun _ U o U' => ∃ v L, o = .returned v ∧ QF3 Z s_METHOD s_HEADER s_BODY s_HEARTBEAT s_ALL kc_s_ALL h0 n0 v U'.heap L ∧ FrameEnd U o U' L ({ frames := 0, cells := 0, slots := 0, locals := 0 } : Room).cells ({ frames := 0, cells := 0, slots := 0, locals := 0 } : Room).slots) := by
  refine MetFree.of_bodySF (plainFor_of_name pnF3) hisR ?_
  intro p e s m args below meth c s₁ Bd hml0 hP hK
  obtain ⟨rfl, hZ, hh⟩ := hP
  have hx := Bd.exec
  have hby := Bd.bytes
  have hml : c.maxLocals = 6 := hml0
  have hown : s.vm.findClass "com/example/kyu/kyu/wire/FrameType" = some m.cls := findClass_of_methodNamed Bd.named
  have hnm := (name_of_methodNamed Bd.named Bd.method).1
  have hlk : meth.locks = false := BodyLoose.notSynchronized Bd
  have hret : meth.sig.returnType = (some (.object "com/example/kyu/kyu/wire/FrameType")) := Bd.returns
  have X0 : Stand p l e ({ frames := 0, cells := 0, slots := 0, locals := 0 } : Room) s m #[(.int (3 : Int32))] below meth c s₁ [] 0 0 := Stand.of_body Bd
  have e0 : s₁.heap = h0 := by rw [← hh, Bd.state]; rfl
  have N0 := Fr.nil n0
  show Go p e below s ({ frames := 0, cells := 0, slots := 0, locals := 0 } : Room).cells ({ frames := 0, cells := 0, slots := 0, locals := 0 } : Room).slots (QF3 Z s_METHOD s_HEADER s_BODY s_HEARTBEAT s_ALL kc_s_ALL h0 n0) (s₁.setTop (entryFrame m #[(.int (3 : Int32))] 6))
  rw [efF3]
  refine Go.by (fun _ kont => XS.aconstNull X0.here hx rfl (hb hby dF3_0) (XS.astoreN X0.here hx rfl (hb hby dF3_1) rfl rfl (l' := #[.val (.int (3 : Int32)), .val .null, .unset, .unset, .unset, .unset]) rfl kont)) ?_
  show Go _ _ _ _ _ _ _ (s₁.setTop (mkF m 2 #[.val (.int (3 : Int32)), .val .null, .unset, .unset, .unset, .unset] []))
  obtain ⟨T101, X101, e101, st101⟩ := getS2 X0 hx hZ hown (host := "") (Or.inl (hw _ (List.mem_of_getElem? (i := 4) rfl))) Via.refl e0 S0_ALL (g := (mkF m 2 #[.val (.int (3 : Int32)), .val .null, .unset, .unset, .unset, .unset] [])) rfl (hb hby dF3_2)
  refine Go.by st101 ?_
  show Go _ _ _ _ _ _ _ (T101.setTop (mkF m 5 #[.val (.int (3 : Int32)), .val .null, .unset, .unset, .unset, .unset] [(.ref s_ALL)]))
  refine Go.by (fun _ kont => XS.astoreN X101.here hx rfl (hb hby dF3_5) rfl rfl (l' := #[.val (.int (3 : Int32)), .val .null, .val (.ref s_ALL), .unset, .unset, .unset]) rfl (XS.aloadN X101.here hx rfl (hb hby dF3_6) rfl rfl kont)) ?_
  show Go _ _ _ _ _ _ _ (T101.setTop (mkF m 7 #[.val (.int (3 : Int32)), .val .null, .val (.ref s_ALL), .unset, .unset, .unset] [(.ref s_ALL)]))
  obtain ⟨cl_q102, Ar_q102, q1_q102, S_q102, N_q102, H_q102, G_q102⟩ := id V0_s_ALL
  refine Go.by (X101.arraylength hx (by rw [e101]; exact Ar_q102.1) (State.isArrayOf_alike hZ.alike Ar_q102.2.1) (g := (mkF m 7 #[.val (.int (3 : Int32)), .val .null, .val (.ref s_ALL), .unset, .unset, .unset] [(.ref s_ALL)])) rfl rfl (hb hby dF3_7)) ?_
  rw [len_of S_q102 N_q102]
  show Go _ _ _ _ _ _ _ (T101.setTop (mkF m 8 #[.val (.int (3 : Int32)), .val .null, .val (.ref s_ALL), .unset, .unset, .unset] [(.int (4 : Int32))]))
  refine Go.by (fun _ kont => XS.istoreN X101.here hx rfl (hb hby dF3_8) rfl (l' := #[.val (.int (3 : Int32)), .val .null, .val (.ref s_ALL), .val (.int (4 : Int32)), .unset, .unset]) rfl (XS.iconst X101.here hx rfl (hb hby dF3_9) (XS.istore X101.here hx rfl (hb hby dF3_10) rfl (l' := #[.val (.int (3 : Int32)), .val .null, .val (.ref s_ALL), .val (.int (4 : Int32)), .val (.int (0 : Int32)), .unset]) rfl (XS.iload X101.here hx rfl (hb hby dF3_12) rfl (XS.iloadN X101.here hx rfl (hb hby dF3_14) rfl kont))))) ?_
  show Go _ _ _ _ _ _ _ (T101.setTop (mkF m 15 #[.val (.int (3 : Int32)), .val .null, .val (.ref s_ALL), .val (.int (4 : Int32)), .val (.int (0 : Int32)), .unset] [(.int (4 : Int32)), (.int (0 : Int32))]))
  refine Go.by (fun _ kont => XS.icmpNo X101.here hx rfl (hb hby dF3_15) rfl (by decide) kont) ?_
  show Go _ _ _ _ _ _ _ (T101.setTop (mkF m 18 #[.val (.int (3 : Int32)), .val .null, .val (.ref s_ALL), .val (.int (4 : Int32)), .val (.int (0 : Int32)), .unset] []))
  refine Go.by (fun _ kont => XS.aloadN X101.here hx rfl (hb hby dF3_18) rfl rfl (XS.iload X101.here hx rfl (hb hby dF3_19) rfl kont)) ?_
  show Go _ _ _ _ _ _ _ (T101.setTop (mkF m 21 #[.val (.int (3 : Int32)), .val .null, .val (.ref s_ALL), .val (.int (4 : Int32)), .val (.int (0 : Int32)), .unset] [(.int (0 : Int32)), (.ref s_ALL)]))
  obtain ⟨cl_q103, Ar_q103, q1_q103, S_q103, N_q103, H_q103, G_q103⟩ := id V0_s_ALL
  have hin_q103 : ¬ ((0 : Int32) < 0 ∨ cl_q103.slots.size ≤ ((0 : Int32)).toNatClampNeg) := inb_of S_q103 ⟨by decide, by decide⟩
  have hat_q103 : cl_q103.slots[((0 : Int32)).toNatClampNeg]? = some (.ref s_METHOD) := Has.at H_q103 hin_q103 rfl
  refine Go.by (X101.aaload hx (j := (0 : Int32)) (v := (.ref s_METHOD)) (by rw [e101]; exact Ar_q103.1) (State.isArrayOf_alike hZ.alike Ar_q103.2.1) rfl Ar_q103.2.2 hin_q103 hat_q103 (g := (mkF m 21 #[.val (.int (3 : Int32)), .val .null, .val (.ref s_ALL), .val (.int (4 : Int32)), .val (.int (0 : Int32)), .unset] [(.int (0 : Int32)), (.ref s_ALL)])) rfl rfl (hb hby dF3_21)) ?_
  show Go _ _ _ _ _ _ _ (T101.setTop (mkF m 22 #[.val (.int (3 : Int32)), .val .null, .val (.ref s_ALL), .val (.int (4 : Int32)), .val (.int (0 : Int32)), .unset] [(.ref s_METHOD)]))
  refine Go.by (fun _ kont => XS.astore X101.here hx rfl (hb hby dF3_22) rfl rfl (l' := #[.val (.int (3 : Int32)), .val .null, .val (.ref s_ALL), .val (.int (4 : Int32)), .val (.int (0 : Int32)), .val (.ref s_METHOD)]) rfl (XS.aload X101.here hx rfl (hb hby dF3_24) rfl rfl kont)) ?_
  show Go _ _ _ _ _ _ _ (T101.setTop (mkF m 26 #[.val (.int (3 : Int32)), .val .null, .val (.ref s_ALL), .val (.int (4 : Int32)), .val (.int (0 : Int32)), .val (.ref s_METHOD)] [(.ref s_METHOD)]))
  obtain ⟨T104, X104, e104, st104⟩ := getF X101 hx hZ hown (host := "") (Or.inl (hw _ (List.mem_of_getElem? (i := 7) rfl))) Via.refl e101 F0_s_METHOD_octet (g := (mkF m 26 #[.val (.int (3 : Int32)), .val .null, .val (.ref s_ALL), .val (.int (4 : Int32)), .val (.int (0 : Int32)), .val (.ref s_METHOD)] [(.ref s_METHOD)])) rfl rfl (hb hby dF3_26)
  refine Go.by st104 ?_
  show Go _ _ _ _ _ _ _ (T104.setTop (mkF m 29 #[.val (.int (3 : Int32)), .val .null, .val (.ref s_ALL), .val (.int (4 : Int32)), .val (.int (0 : Int32)), .val (.ref s_METHOD)] [(.int (1 : Int32))]))
  refine Go.by (fun _ kont => XS.iloadN X104.here hx rfl (hb hby dF3_29) rfl kont) ?_
  show Go _ _ _ _ _ _ _ (T104.setTop (mkF m 30 #[.val (.int (3 : Int32)), .val .null, .val (.ref s_ALL), .val (.int (4 : Int32)), .val (.int (0 : Int32)), .val (.ref s_METHOD)] [(.int (3 : Int32)), (.int (1 : Int32))]))
  refine Go.by (fun _ kont => XS.icmpYes X104.here hx rfl (pc0 := 30) (pc' := 39) rfl (hb hby dF3_30) rfl (by decide) (by decide) (by decide) kont) ?_
  show Go _ _ _ _ _ _ _ (T104.setTop (mkF m 39 #[.val (.int (3 : Int32)), .val .null, .val (.ref s_ALL), .val (.int (4 : Int32)), .val (.int (0 : Int32)), .val (.ref s_METHOD)] []))
  refine Go.by (fun _ kont => XS.iinc X104.here hx rfl (hb hby dF3_39) rfl (l' := #[.val (.int (3 : Int32)), .val .null, .val (.ref s_ALL), .val (.int (4 : Int32)), .val (.int (1 : Int32)), .val (.ref s_METHOD)]) rfl (XS.goto X104.here hx rfl (pc0 := 42) (pc' := 12) rfl (hb hby dF3_42) (by decide) (by decide) (XS.iload X104.here hx rfl (hb hby dF3_12) rfl (XS.iloadN X104.here hx rfl (hb hby dF3_14) rfl kont)))) ?_
  show Go _ _ _ _ _ _ _ (T104.setTop (mkF m 15 #[.val (.int (3 : Int32)), .val .null, .val (.ref s_ALL), .val (.int (4 : Int32)), .val (.int (1 : Int32)), .val (.ref s_METHOD)] [(.int (4 : Int32)), (.int (1 : Int32))]))
  refine Go.by (fun _ kont => XS.icmpNo X104.here hx rfl (hb hby dF3_15) rfl (by decide) kont) ?_
  show Go _ _ _ _ _ _ _ (T104.setTop (mkF m 18 #[.val (.int (3 : Int32)), .val .null, .val (.ref s_ALL), .val (.int (4 : Int32)), .val (.int (1 : Int32)), .val (.ref s_METHOD)] []))
  refine Go.by (fun _ kont => XS.aloadN X104.here hx rfl (hb hby dF3_18) rfl rfl (XS.iload X104.here hx rfl (hb hby dF3_19) rfl kont)) ?_
  show Go _ _ _ _ _ _ _ (T104.setTop (mkF m 21 #[.val (.int (3 : Int32)), .val .null, .val (.ref s_ALL), .val (.int (4 : Int32)), .val (.int (1 : Int32)), .val (.ref s_METHOD)] [(.int (1 : Int32)), (.ref s_ALL)]))
  obtain ⟨cl_q105, Ar_q105, q1_q105, S_q105, N_q105, H_q105, G_q105⟩ := id V0_s_ALL
  have hin_q105 : ¬ ((1 : Int32) < 0 ∨ cl_q105.slots.size ≤ ((1 : Int32)).toNatClampNeg) := inb_of S_q105 ⟨by decide, by decide⟩
  have hat_q105 : cl_q105.slots[((1 : Int32)).toNatClampNeg]? = some (.ref s_HEADER) := Has.at H_q105 hin_q105 rfl
  refine Go.by (X104.aaload hx (j := (1 : Int32)) (v := (.ref s_HEADER)) (by rw [e104]; exact Ar_q105.1) (State.isArrayOf_alike hZ.alike Ar_q105.2.1) rfl Ar_q105.2.2 hin_q105 hat_q105 (g := (mkF m 21 #[.val (.int (3 : Int32)), .val .null, .val (.ref s_ALL), .val (.int (4 : Int32)), .val (.int (1 : Int32)), .val (.ref s_METHOD)] [(.int (1 : Int32)), (.ref s_ALL)])) rfl rfl (hb hby dF3_21)) ?_
  show Go _ _ _ _ _ _ _ (T104.setTop (mkF m 22 #[.val (.int (3 : Int32)), .val .null, .val (.ref s_ALL), .val (.int (4 : Int32)), .val (.int (1 : Int32)), .val (.ref s_METHOD)] [(.ref s_HEADER)]))
  refine Go.by (fun _ kont => XS.astore X104.here hx rfl (hb hby dF3_22) rfl rfl (l' := #[.val (.int (3 : Int32)), .val .null, .val (.ref s_ALL), .val (.int (4 : Int32)), .val (.int (1 : Int32)), .val (.ref s_HEADER)]) rfl (XS.aload X104.here hx rfl (hb hby dF3_24) rfl rfl kont)) ?_
  show Go _ _ _ _ _ _ _ (T104.setTop (mkF m 26 #[.val (.int (3 : Int32)), .val .null, .val (.ref s_ALL), .val (.int (4 : Int32)), .val (.int (1 : Int32)), .val (.ref s_HEADER)] [(.ref s_HEADER)]))
  obtain ⟨T106, X106, e106, st106⟩ := getF X104 hx hZ hown (host := "") (Or.inl (hw _ (List.mem_of_getElem? (i := 7) rfl))) Via.refl e104 F0_s_HEADER_octet (g := (mkF m 26 #[.val (.int (3 : Int32)), .val .null, .val (.ref s_ALL), .val (.int (4 : Int32)), .val (.int (1 : Int32)), .val (.ref s_HEADER)] [(.ref s_HEADER)])) rfl rfl (hb hby dF3_26)
  refine Go.by st106 ?_
  show Go _ _ _ _ _ _ _ (T106.setTop (mkF m 29 #[.val (.int (3 : Int32)), .val .null, .val (.ref s_ALL), .val (.int (4 : Int32)), .val (.int (1 : Int32)), .val (.ref s_HEADER)] [(.int (2 : Int32))]))
  refine Go.by (fun _ kont => XS.iloadN X106.here hx rfl (hb hby dF3_29) rfl kont) ?_
  show Go _ _ _ _ _ _ _ (T106.setTop (mkF m 30 #[.val (.int (3 : Int32)), .val .null, .val (.ref s_ALL), .val (.int (4 : Int32)), .val (.int (1 : Int32)), .val (.ref s_HEADER)] [(.int (3 : Int32)), (.int (2 : Int32))]))
  refine Go.by (fun _ kont => XS.icmpYes X106.here hx rfl (pc0 := 30) (pc' := 39) rfl (hb hby dF3_30) rfl (by decide) (by decide) (by decide) kont) ?_
  show Go _ _ _ _ _ _ _ (T106.setTop (mkF m 39 #[.val (.int (3 : Int32)), .val .null, .val (.ref s_ALL), .val (.int (4 : Int32)), .val (.int (1 : Int32)), .val (.ref s_HEADER)] []))
  refine Go.by (fun _ kont => XS.iinc X106.here hx rfl (hb hby dF3_39) rfl (l' := #[.val (.int (3 : Int32)), .val .null, .val (.ref s_ALL), .val (.int (4 : Int32)), .val (.int (2 : Int32)), .val (.ref s_HEADER)]) rfl (XS.goto X106.here hx rfl (pc0 := 42) (pc' := 12) rfl (hb hby dF3_42) (by decide) (by decide) (XS.iload X106.here hx rfl (hb hby dF3_12) rfl (XS.iloadN X106.here hx rfl (hb hby dF3_14) rfl kont)))) ?_
  show Go _ _ _ _ _ _ _ (T106.setTop (mkF m 15 #[.val (.int (3 : Int32)), .val .null, .val (.ref s_ALL), .val (.int (4 : Int32)), .val (.int (2 : Int32)), .val (.ref s_HEADER)] [(.int (4 : Int32)), (.int (2 : Int32))]))
  refine Go.by (fun _ kont => XS.icmpNo X106.here hx rfl (hb hby dF3_15) rfl (by decide) kont) ?_
  show Go _ _ _ _ _ _ _ (T106.setTop (mkF m 18 #[.val (.int (3 : Int32)), .val .null, .val (.ref s_ALL), .val (.int (4 : Int32)), .val (.int (2 : Int32)), .val (.ref s_HEADER)] []))
  refine Go.by (fun _ kont => XS.aloadN X106.here hx rfl (hb hby dF3_18) rfl rfl (XS.iload X106.here hx rfl (hb hby dF3_19) rfl kont)) ?_
  show Go _ _ _ _ _ _ _ (T106.setTop (mkF m 21 #[.val (.int (3 : Int32)), .val .null, .val (.ref s_ALL), .val (.int (4 : Int32)), .val (.int (2 : Int32)), .val (.ref s_HEADER)] [(.int (2 : Int32)), (.ref s_ALL)]))
  obtain ⟨cl_q107, Ar_q107, q1_q107, S_q107, N_q107, H_q107, G_q107⟩ := id V0_s_ALL
  have hin_q107 : ¬ ((2 : Int32) < 0 ∨ cl_q107.slots.size ≤ ((2 : Int32)).toNatClampNeg) := inb_of S_q107 ⟨by decide, by decide⟩
  have hat_q107 : cl_q107.slots[((2 : Int32)).toNatClampNeg]? = some (.ref s_BODY) := Has.at H_q107 hin_q107 rfl
  refine Go.by (X106.aaload hx (j := (2 : Int32)) (v := (.ref s_BODY)) (by rw [e106]; exact Ar_q107.1) (State.isArrayOf_alike hZ.alike Ar_q107.2.1) rfl Ar_q107.2.2 hin_q107 hat_q107 (g := (mkF m 21 #[.val (.int (3 : Int32)), .val .null, .val (.ref s_ALL), .val (.int (4 : Int32)), .val (.int (2 : Int32)), .val (.ref s_HEADER)] [(.int (2 : Int32)), (.ref s_ALL)])) rfl rfl (hb hby dF3_21)) ?_
  show Go _ _ _ _ _ _ _ (T106.setTop (mkF m 22 #[.val (.int (3 : Int32)), .val .null, .val (.ref s_ALL), .val (.int (4 : Int32)), .val (.int (2 : Int32)), .val (.ref s_HEADER)] [(.ref s_BODY)]))
  refine Go.by (fun _ kont => XS.astore X106.here hx rfl (hb hby dF3_22) rfl rfl (l' := #[.val (.int (3 : Int32)), .val .null, .val (.ref s_ALL), .val (.int (4 : Int32)), .val (.int (2 : Int32)), .val (.ref s_BODY)]) rfl (XS.aload X106.here hx rfl (hb hby dF3_24) rfl rfl kont)) ?_
  show Go _ _ _ _ _ _ _ (T106.setTop (mkF m 26 #[.val (.int (3 : Int32)), .val .null, .val (.ref s_ALL), .val (.int (4 : Int32)), .val (.int (2 : Int32)), .val (.ref s_BODY)] [(.ref s_BODY)]))
  obtain ⟨T108, X108, e108, st108⟩ := getF X106 hx hZ hown (host := "") (Or.inl (hw _ (List.mem_of_getElem? (i := 7) rfl))) Via.refl e106 F0_s_BODY_octet (g := (mkF m 26 #[.val (.int (3 : Int32)), .val .null, .val (.ref s_ALL), .val (.int (4 : Int32)), .val (.int (2 : Int32)), .val (.ref s_BODY)] [(.ref s_BODY)])) rfl rfl (hb hby dF3_26)
  refine Go.by st108 ?_
  show Go _ _ _ _ _ _ _ (T108.setTop (mkF m 29 #[.val (.int (3 : Int32)), .val .null, .val (.ref s_ALL), .val (.int (4 : Int32)), .val (.int (2 : Int32)), .val (.ref s_BODY)] [(.int (3 : Int32))]))
  refine Go.by (fun _ kont => XS.iloadN X108.here hx rfl (hb hby dF3_29) rfl kont) ?_
  show Go _ _ _ _ _ _ _ (T108.setTop (mkF m 30 #[.val (.int (3 : Int32)), .val .null, .val (.ref s_ALL), .val (.int (4 : Int32)), .val (.int (2 : Int32)), .val (.ref s_BODY)] [(.int (3 : Int32)), (.int (3 : Int32))]))
  refine Go.by (fun _ kont => XS.icmpNo X108.here hx rfl (hb hby dF3_30) rfl (by decide) kont) ?_
  show Go _ _ _ _ _ _ _ (T108.setTop (mkF m 33 #[.val (.int (3 : Int32)), .val .null, .val (.ref s_ALL), .val (.int (4 : Int32)), .val (.int (2 : Int32)), .val (.ref s_BODY)] []))
  refine Go.by (fun _ kont => XS.aload X108.here hx rfl (hb hby dF3_33) rfl rfl (XS.astoreN X108.here hx rfl (hb hby dF3_35) rfl rfl (l' := #[.val (.int (3 : Int32)), .val (.ref s_BODY), .val (.ref s_ALL), .val (.int (4 : Int32)), .val (.int (2 : Int32)), .val (.ref s_BODY)]) rfl (XS.goto X108.here hx rfl (pc0 := 36) (pc' := 45) rfl (hb hby dF3_36) (by decide) (by decide) (XS.aloadN X108.here hx rfl (hb hby dF3_45) rfl rfl kont)))) ?_
  show Go _ _ _ _ _ _ _ (T108.setTop (mkF m 46 #[.val (.int (3 : Int32)), .val (.ref s_BODY), .val (.ref s_ALL), .val (.int (4 : Int32)), .val (.int (2 : Int32)), .val (.ref s_BODY)] [(.ref s_BODY)]))
  refine Go.retR X108 hx hret rfl rfl hlk (hb hby dF3_46) ?_ (by decide) (by decide)
  show QF3 Z s_METHOD s_HEADER s_BODY s_HEARTBEAT s_ALL kc_s_ALL h0 n0 (some (.ref s_BODY)) T108.heap _
  rw [e108]
  exact ⟨rfl, N0, rfl⟩

theorem dX3_0 : decode method_2_code 0 = .ok (.iload_n 0, 1) := by decide +kernel
theorem dX3_1 : decode method_2_code 1 = .ok (.iconst 1, 1) := by decide +kernel
theorem dX3_2 : decode method_2_code 2 = .ok (.if_icmp .ne 7, 3) := by decide +kernel
theorem dX3_9 : decode method_2_code 9 = .ok (.iload_n 0, 1) := by decide +kernel
theorem dX3_10 : decode method_2_code 10 = .ok (.iconst 2, 1) := by decide +kernel
theorem dX3_11 : decode method_2_code 11 = .ok (.if_icmp .ne 7, 3) := by decide +kernel
theorem dX3_18 : decode method_2_code 18 = .ok (.iload_n 0, 1) := by decide +kernel
theorem dX3_19 : decode method_2_code 19 = .ok (.iconst 3, 1) := by decide +kernel
theorem dX3_20 : decode method_2_code 20 = .ok (.if_icmp .ne 7, 3) := by decide +kernel
theorem dX3_23 : decode method_2_code 23 = .ok (.getstatic 16, 3) := by decide +kernel
theorem dX3_26 : decode method_2_code 26 = .ok (.areturn, 1) := by decide +kernel
theorem pnX3 : plainName "com/example/kyu/kyu/wire/FrameTypeFromOctetPinLaw" = true := by first | (simp [plainName, overriddenIn]; done) | decide +kernel
theorem efX3 (m : MethodId)  : entryFrame m #[(.int (3 : Int32))] 1 = mkF m 0 #[.val (.int (3 : Int32))] [] := by first | (simp [entryFrame, mkF, argsToLocals, Value.category]; done) | rfl
def QX3 (Z : State) (s_METHOD : Addr) (s_HEADER : Addr) (s_BODY : Addr) (s_HEARTBEAT : Addr) (s_ALL : Addr) (kc_s_ALL : ClassId) (h0 : Heap) (n0 : Nat) (v : Option Value) (h : Heap) (L : List Loc) : Prop := (v = some (.ref s_BODY) ∧ Fr n0 L ∧ h = h0)
set_option maxRecDepth 65536 in
set_option maxHeartbeats 40000000 in
theorem rmX3 (l : Launch) (Z : State) (a0 : Array Value) (hw : ∀ d ∈ tables_1, d.before a0 Z = true) (ws : List Jvm.Cond) (s_METHOD : Addr) (s_HEADER : Addr) (s_BODY : Addr) (s_HEARTBEAT : Addr) (s_ALL : Addr) (kc_s_ALL : ClassId) (h0 : Heap) (n0 : Nat) (Z0 : n0 ≤ h0.size) (E0_s_METHOD : Exa Z h0 s_METHOD "com/example/kyu/kyu/wire/FrameType") (F0_s_METHOD_octet : Fld Z h0 s_METHOD "com/example/kyu/kyu/wire/FrameType" "octet" "I" (.int (1 : Int32))) (E0_s_HEADER : Exa Z h0 s_HEADER "com/example/kyu/kyu/wire/FrameType") (F0_s_HEADER_octet : Fld Z h0 s_HEADER "com/example/kyu/kyu/wire/FrameType" "octet" "I" (.int (2 : Int32))) (E0_s_BODY : Exa Z h0 s_BODY "com/example/kyu/kyu/wire/FrameType") (F0_s_BODY_octet : Fld Z h0 s_BODY "com/example/kyu/kyu/wire/FrameType" "octet" "I" (.int (3 : Int32))) (E0_s_HEARTBEAT : Exa Z h0 s_HEARTBEAT "com/example/kyu/kyu/wire/FrameType") (F0_s_HEARTBEAT_octet : Fld Z h0 s_HEARTBEAT "com/example/kyu/kyu/wire/FrameType" "octet" "I" (.int (8 : Int32))) (V0_s_ALL : Arv Z h0 s_ALL kc_s_ALL (.object "com/example/kyu/kyu/wire/FrameType") (4 : Int32) [(.ref s_METHOD), (.ref s_HEADER), (.ref s_BODY), (.ref s_HEARTBEAT)] .null) (S0_ALL : Sta Z h0 "com/example/kyu/kyu/wire/FrameType" "ALL" "[Lcom/example/kyu/kyu/wire/FrameType;" (.ref s_ALL)) (S0_METHOD : Sta Z h0 "com/example/kyu/kyu/wire/FrameType" "METHOD" "Lcom/example/kyu/kyu/wire/FrameType;" (.ref s_METHOD)) (S0_HEADER : Sta Z h0 "com/example/kyu/kyu/wire/FrameType" "HEADER" "Lcom/example/kyu/kyu/wire/FrameType;" (.ref s_HEADER)) (S0_BODY : Sta Z h0 "com/example/kyu/kyu/wire/FrameType" "BODY" "Lcom/example/kyu/kyu/wire/FrameType;" (.ref s_BODY)) (S0_HEARTBEAT : Sta Z h0 "com/example/kyu/kyu/wire/FrameType" "HEARTBEAT" "Lcom/example/kyu/kyu/wire/FrameType;" (.ref s_HEARTBEAT)) :
    MetFree l (⟨"com/example/kyu/kyu/wire/FrameTypeFromOctetPinLaw", "expected", "(I)Lcom/example/kyu/kyu/wire/FrameType;"⟩ : MethodName) (head1 (Jvm.Cond.code (⟨"com/example/kyu/kyu/wire/FrameTypeFromOctetPinLaw", "expected", "(I)Lcom/example/kyu/kyu/wire/FrameType;"⟩ : MethodName) method_2_code 1 (some (.object "com/example/kyu/kyu/wire/FrameType")) :: ws) ({ frames := 0, cells := 0, slots := 0, locals := 0 } : Room)) (fun aa U => aa = #[(.int (3 : Int32))] ∧ Z.Warmed39 U.vm ∧ U.heap = h0) (fun _ _ _ _ _ => True) (fun _ U o U' => ∃ v L, o = .returned v ∧ QX3 Z s_METHOD s_HEADER s_BODY s_HEARTBEAT s_ALL kc_s_ALL h0 n0 v U'.heap L ∧ FrameEnd U o U' L ({ frames := 0, cells := 0, slots := 0, locals := 0 } : Room).cells ({ frames := 0, cells := 0, slots := 0, locals := 0 } : Room).slots) := by
  refine MetFree.of_bodySF (plainFor_of_name pnX3) hisR ?_
  intro p e s m args below meth c s₁ Bd hml0 hP hK
  obtain ⟨rfl, hZ, hh⟩ := hP
  have hx := Bd.exec
  have hby := Bd.bytes
  have hml : c.maxLocals = 1 := hml0
  have hown : s.vm.findClass "com/example/kyu/kyu/wire/FrameTypeFromOctetPinLaw" = some m.cls := findClass_of_methodNamed Bd.named
  have hnm := (name_of_methodNamed Bd.named Bd.method).1
  have hlk : meth.locks = false := BodyLoose.notSynchronized Bd
  have hret : meth.sig.returnType = (some (.object "com/example/kyu/kyu/wire/FrameType")) := Bd.returns
  have X0 : Stand p l e ({ frames := 0, cells := 0, slots := 0, locals := 0 } : Room) s m #[(.int (3 : Int32))] below meth c s₁ [] 0 0 := Stand.of_body Bd
  have e0 : s₁.heap = h0 := by rw [← hh, Bd.state]; rfl
  have N0 := Fr.nil n0
  show Go p e below s ({ frames := 0, cells := 0, slots := 0, locals := 0 } : Room).cells ({ frames := 0, cells := 0, slots := 0, locals := 0 } : Room).slots (QX3 Z s_METHOD s_HEADER s_BODY s_HEARTBEAT s_ALL kc_s_ALL h0 n0) (s₁.setTop (entryFrame m #[(.int (3 : Int32))] 1))
  rw [efX3]
  refine Go.by (fun _ kont => XS.iloadN X0.here hx rfl (hb hby dX3_0) rfl (XS.iconst X0.here hx rfl (hb hby dX3_1) kont)) ?_
  show Go _ _ _ _ _ _ _ (s₁.setTop (mkF m 2 #[.val (.int (3 : Int32))] [(.int (1 : Int32)), (.int (3 : Int32))]))
  refine Go.by (fun _ kont => XS.icmpYes X0.here hx rfl (pc0 := 2) (pc' := 9) rfl (hb hby dX3_2) rfl (by decide) (by decide) (by decide) kont) ?_
  show Go _ _ _ _ _ _ _ (s₁.setTop (mkF m 9 #[.val (.int (3 : Int32))] []))
  refine Go.by (fun _ kont => XS.iloadN X0.here hx rfl (hb hby dX3_9) rfl (XS.iconst X0.here hx rfl (hb hby dX3_10) kont)) ?_
  show Go _ _ _ _ _ _ _ (s₁.setTop (mkF m 11 #[.val (.int (3 : Int32))] [(.int (2 : Int32)), (.int (3 : Int32))]))
  refine Go.by (fun _ kont => XS.icmpYes X0.here hx rfl (pc0 := 11) (pc' := 18) rfl (hb hby dX3_11) rfl (by decide) (by decide) (by decide) kont) ?_
  show Go _ _ _ _ _ _ _ (s₁.setTop (mkF m 18 #[.val (.int (3 : Int32))] []))
  refine Go.by (fun _ kont => XS.iloadN X0.here hx rfl (hb hby dX3_18) rfl (XS.iconst X0.here hx rfl (hb hby dX3_19) kont)) ?_
  show Go _ _ _ _ _ _ _ (s₁.setTop (mkF m 20 #[.val (.int (3 : Int32))] [(.int (3 : Int32)), (.int (3 : Int32))]))
  refine Go.by (fun _ kont => XS.icmpNo X0.here hx rfl (hb hby dX3_20) rfl (by decide) kont) ?_
  show Go _ _ _ _ _ _ _ (s₁.setTop (mkF m 23 #[.val (.int (3 : Int32))] []))
  obtain ⟨T101, X101, e101, st101⟩ := getS2 X0 hx hZ hown (host := "") (Or.inl (hw _ (List.mem_of_getElem? (i := 19) rfl))) Via.refl e0 S0_BODY (g := (mkF m 23 #[.val (.int (3 : Int32))] [])) rfl (hb hby dX3_23)
  refine Go.by st101 ?_
  show Go _ _ _ _ _ _ _ (T101.setTop (mkF m 26 #[.val (.int (3 : Int32))] [(.ref s_BODY)]))
  refine Go.retR X101 hx hret rfl rfl hlk (hb hby dX3_26) ?_ (by decide) (by decide)
  show QX3 Z s_METHOD s_HEADER s_BODY s_HEARTBEAT s_ALL kc_s_ALL h0 n0 (some (.ref s_BODY)) T101.heap _
  rw [e101]
  exact ⟨rfl, N0, rfl⟩

theorem dF8_0 : decode prog_22_method_5_code 0 = .ok (.aconst_null, 1) := by decide +kernel
theorem dF8_1 : decode prog_22_method_5_code 1 = .ok (.astore_n 1, 1) := by decide +kernel
theorem dF8_2 : decode prog_22_method_5_code 2 = .ok (.getstatic 39, 3) := by decide +kernel
theorem dF8_5 : decode prog_22_method_5_code 5 = .ok (.astore_n 2, 1) := by decide +kernel
theorem dF8_6 : decode prog_22_method_5_code 6 = .ok (.aload_n 2, 1) := by decide +kernel
theorem dF8_7 : decode prog_22_method_5_code 7 = .ok (.arraylength, 1) := by decide +kernel
theorem dF8_8 : decode prog_22_method_5_code 8 = .ok (.istore_n 3, 1) := by decide +kernel
theorem dF8_9 : decode prog_22_method_5_code 9 = .ok (.iconst 0, 1) := by decide +kernel
theorem dF8_10 : decode prog_22_method_5_code 10 = .ok (.istore 4, 2) := by decide +kernel
theorem dF8_12 : decode prog_22_method_5_code 12 = .ok (.iload 4, 2) := by decide +kernel
theorem dF8_14 : decode prog_22_method_5_code 14 = .ok (.iload_n 3, 1) := by decide +kernel
theorem dF8_15 : decode prog_22_method_5_code 15 = .ok (.if_icmp .ge 30, 3) := by decide +kernel
theorem dF8_18 : decode prog_22_method_5_code 18 = .ok (.aload_n 2, 1) := by decide +kernel
theorem dF8_19 : decode prog_22_method_5_code 19 = .ok (.iload 4, 2) := by decide +kernel
theorem dF8_21 : decode prog_22_method_5_code 21 = .ok (.aaload, 1) := by decide +kernel
theorem dF8_22 : decode prog_22_method_5_code 22 = .ok (.astore 5, 2) := by decide +kernel
theorem dF8_24 : decode prog_22_method_5_code 24 = .ok (.aload 5, 2) := by decide +kernel
theorem dF8_26 : decode prog_22_method_5_code 26 = .ok (.getfield 35, 3) := by decide +kernel
theorem dF8_29 : decode prog_22_method_5_code 29 = .ok (.iload_n 0, 1) := by decide +kernel
theorem dF8_30 : decode prog_22_method_5_code 30 = .ok (.if_icmp .ne 9, 3) := by decide +kernel
theorem dF8_33 : decode prog_22_method_5_code 33 = .ok (.aload 5, 2) := by decide +kernel
theorem dF8_35 : decode prog_22_method_5_code 35 = .ok (.astore_n 1, 1) := by decide +kernel
theorem dF8_36 : decode prog_22_method_5_code 36 = .ok (.goto 9, 3) := by decide +kernel
theorem dF8_39 : decode prog_22_method_5_code 39 = .ok (.iinc 4 1, 3) := by decide +kernel
theorem dF8_42 : decode prog_22_method_5_code 42 = .ok (.goto (-30), 3) := by decide +kernel
theorem dF8_45 : decode prog_22_method_5_code 45 = .ok (.aload_n 1, 1) := by decide +kernel
theorem dF8_46 : decode prog_22_method_5_code 46 = .ok (.areturn, 1) := by decide +kernel
theorem pnF8 : plainName "com/example/kyu/kyu/wire/FrameType" = true := by first | (simp [plainName, overriddenIn]; done) | decide +kernel
theorem efF8 (m : MethodId)  : entryFrame m #[(.int (8 : Int32))] 6 = mkF m 0 #[.val (.int (8 : Int32)), .unset, .unset, .unset, .unset, .unset] [] := by first | (simp [entryFrame, mkF, argsToLocals, Value.category]; done) | rfl
def QF8 (Z : State) (s_METHOD : Addr) (s_HEADER : Addr) (s_BODY : Addr) (s_HEARTBEAT : Addr) (s_ALL : Addr) (kc_s_ALL : ClassId) (h0 : Heap) (n0 : Nat) (v : Option Value) (h : Heap) (L : List Loc) : Prop := (v = some (.ref s_HEARTBEAT) ∧ Fr n0 L ∧ h = h0)
set_option maxRecDepth 65536 in
set_option maxHeartbeats 40000000 in
theorem rmF8 (l : Launch) (Z : State) (a0 : Array Value) (hw : ∀ d ∈ tables_1, d.before a0 Z = true) (ws : List Jvm.Cond) (s_METHOD : Addr) (s_HEADER : Addr) (s_BODY : Addr) (s_HEARTBEAT : Addr) (s_ALL : Addr) (kc_s_ALL : ClassId) (h0 : Heap) (n0 : Nat) (Z0 : n0 ≤ h0.size) (E0_s_METHOD : Exa Z h0 s_METHOD "com/example/kyu/kyu/wire/FrameType") (F0_s_METHOD_octet : Fld Z h0 s_METHOD "com/example/kyu/kyu/wire/FrameType" "octet" "I" (.int (1 : Int32))) (E0_s_HEADER : Exa Z h0 s_HEADER "com/example/kyu/kyu/wire/FrameType") (F0_s_HEADER_octet : Fld Z h0 s_HEADER "com/example/kyu/kyu/wire/FrameType" "octet" "I" (.int (2 : Int32))) (E0_s_BODY : Exa Z h0 s_BODY "com/example/kyu/kyu/wire/FrameType") (F0_s_BODY_octet : Fld Z h0 s_BODY "com/example/kyu/kyu/wire/FrameType" "octet" "I" (.int (3 : Int32))) (E0_s_HEARTBEAT : Exa Z h0 s_HEARTBEAT "com/example/kyu/kyu/wire/FrameType") (F0_s_HEARTBEAT_octet : Fld Z h0 s_HEARTBEAT "com/example/kyu/kyu/wire/FrameType" "octet" "I" (.int (8 : Int32))) (V0_s_ALL : Arv Z h0 s_ALL kc_s_ALL (.object "com/example/kyu/kyu/wire/FrameType") (4 : Int32) [(.ref s_METHOD), (.ref s_HEADER), (.ref s_BODY), (.ref s_HEARTBEAT)] .null) (S0_ALL : Sta Z h0 "com/example/kyu/kyu/wire/FrameType" "ALL" "[Lcom/example/kyu/kyu/wire/FrameType;" (.ref s_ALL)) (S0_METHOD : Sta Z h0 "com/example/kyu/kyu/wire/FrameType" "METHOD" "Lcom/example/kyu/kyu/wire/FrameType;" (.ref s_METHOD)) (S0_HEADER : Sta Z h0 "com/example/kyu/kyu/wire/FrameType" "HEADER" "Lcom/example/kyu/kyu/wire/FrameType;" (.ref s_HEADER)) (S0_BODY : Sta Z h0 "com/example/kyu/kyu/wire/FrameType" "BODY" "Lcom/example/kyu/kyu/wire/FrameType;" (.ref s_BODY)) (S0_HEARTBEAT : Sta Z h0 "com/example/kyu/kyu/wire/FrameType" "HEARTBEAT" "Lcom/example/kyu/kyu/wire/FrameType;" (.ref s_HEARTBEAT)) :
    MetFree l (⟨"com/example/kyu/kyu/wire/FrameType", "fromOctet", "(I)Lcom/example/kyu/kyu/wire/FrameType;"⟩ : MethodName) (head1 (Jvm.Cond.code (⟨"com/example/kyu/kyu/wire/FrameType", "fromOctet", "(I)Lcom/example/kyu/kyu/wire/FrameType;"⟩ : MethodName) prog_22_method_5_code 6 (some (.object "com/example/kyu/kyu/wire/FrameType")) :: ws) ({ frames := 0, cells := 0, slots := 0, locals := 0 } : Room)) (fun aa U => aa = #[(.int (8 : Int32))] ∧ Z.Warmed39 U.vm ∧ U.heap = h0) (fun _ _ _ _ _ => True) (fun _ U o U' => ∃ v L, o = .returned v ∧ QF8 Z s_METHOD s_HEADER s_BODY s_HEARTBEAT s_ALL kc_s_ALL h0 n0 v U'.heap L ∧ FrameEnd U o U' L ({ frames := 0, cells := 0, slots := 0, locals := 0 } : Room).cells ({ frames := 0, cells := 0, slots := 0, locals := 0 } : Room).slots) := by
  refine MetFree.of_bodySF (plainFor_of_name pnF8) hisR ?_
  intro p e s m args below meth c s₁ Bd hml0 hP hK
  obtain ⟨rfl, hZ, hh⟩ := hP
  have hx := Bd.exec
  have hby := Bd.bytes
  have hml : c.maxLocals = 6 := hml0
  have hown : s.vm.findClass "com/example/kyu/kyu/wire/FrameType" = some m.cls := findClass_of_methodNamed Bd.named
  have hnm := (name_of_methodNamed Bd.named Bd.method).1
  have hlk : meth.locks = false := BodyLoose.notSynchronized Bd
  have hret : meth.sig.returnType = (some (.object "com/example/kyu/kyu/wire/FrameType")) := Bd.returns
  have X0 : Stand p l e ({ frames := 0, cells := 0, slots := 0, locals := 0 } : Room) s m #[(.int (8 : Int32))] below meth c s₁ [] 0 0 := Stand.of_body Bd
  have e0 : s₁.heap = h0 := by rw [← hh, Bd.state]; rfl
  have N0 := Fr.nil n0
  show Go p e below s ({ frames := 0, cells := 0, slots := 0, locals := 0 } : Room).cells ({ frames := 0, cells := 0, slots := 0, locals := 0 } : Room).slots (QF8 Z s_METHOD s_HEADER s_BODY s_HEARTBEAT s_ALL kc_s_ALL h0 n0) (s₁.setTop (entryFrame m #[(.int (8 : Int32))] 6))
  rw [efF8]
  refine Go.by (fun _ kont => XS.aconstNull X0.here hx rfl (hb hby dF8_0) (XS.astoreN X0.here hx rfl (hb hby dF8_1) rfl rfl (l' := #[.val (.int (8 : Int32)), .val .null, .unset, .unset, .unset, .unset]) rfl kont)) ?_
  show Go _ _ _ _ _ _ _ (s₁.setTop (mkF m 2 #[.val (.int (8 : Int32)), .val .null, .unset, .unset, .unset, .unset] []))
  obtain ⟨T101, X101, e101, st101⟩ := getS2 X0 hx hZ hown (host := "") (Or.inl (hw _ (List.mem_of_getElem? (i := 4) rfl))) Via.refl e0 S0_ALL (g := (mkF m 2 #[.val (.int (8 : Int32)), .val .null, .unset, .unset, .unset, .unset] [])) rfl (hb hby dF8_2)
  refine Go.by st101 ?_
  show Go _ _ _ _ _ _ _ (T101.setTop (mkF m 5 #[.val (.int (8 : Int32)), .val .null, .unset, .unset, .unset, .unset] [(.ref s_ALL)]))
  refine Go.by (fun _ kont => XS.astoreN X101.here hx rfl (hb hby dF8_5) rfl rfl (l' := #[.val (.int (8 : Int32)), .val .null, .val (.ref s_ALL), .unset, .unset, .unset]) rfl (XS.aloadN X101.here hx rfl (hb hby dF8_6) rfl rfl kont)) ?_
  show Go _ _ _ _ _ _ _ (T101.setTop (mkF m 7 #[.val (.int (8 : Int32)), .val .null, .val (.ref s_ALL), .unset, .unset, .unset] [(.ref s_ALL)]))
  obtain ⟨cl_q102, Ar_q102, q1_q102, S_q102, N_q102, H_q102, G_q102⟩ := id V0_s_ALL
  refine Go.by (X101.arraylength hx (by rw [e101]; exact Ar_q102.1) (State.isArrayOf_alike hZ.alike Ar_q102.2.1) (g := (mkF m 7 #[.val (.int (8 : Int32)), .val .null, .val (.ref s_ALL), .unset, .unset, .unset] [(.ref s_ALL)])) rfl rfl (hb hby dF8_7)) ?_
  rw [len_of S_q102 N_q102]
  show Go _ _ _ _ _ _ _ (T101.setTop (mkF m 8 #[.val (.int (8 : Int32)), .val .null, .val (.ref s_ALL), .unset, .unset, .unset] [(.int (4 : Int32))]))
  refine Go.by (fun _ kont => XS.istoreN X101.here hx rfl (hb hby dF8_8) rfl (l' := #[.val (.int (8 : Int32)), .val .null, .val (.ref s_ALL), .val (.int (4 : Int32)), .unset, .unset]) rfl (XS.iconst X101.here hx rfl (hb hby dF8_9) (XS.istore X101.here hx rfl (hb hby dF8_10) rfl (l' := #[.val (.int (8 : Int32)), .val .null, .val (.ref s_ALL), .val (.int (4 : Int32)), .val (.int (0 : Int32)), .unset]) rfl (XS.iload X101.here hx rfl (hb hby dF8_12) rfl (XS.iloadN X101.here hx rfl (hb hby dF8_14) rfl kont))))) ?_
  show Go _ _ _ _ _ _ _ (T101.setTop (mkF m 15 #[.val (.int (8 : Int32)), .val .null, .val (.ref s_ALL), .val (.int (4 : Int32)), .val (.int (0 : Int32)), .unset] [(.int (4 : Int32)), (.int (0 : Int32))]))
  refine Go.by (fun _ kont => XS.icmpNo X101.here hx rfl (hb hby dF8_15) rfl (by decide) kont) ?_
  show Go _ _ _ _ _ _ _ (T101.setTop (mkF m 18 #[.val (.int (8 : Int32)), .val .null, .val (.ref s_ALL), .val (.int (4 : Int32)), .val (.int (0 : Int32)), .unset] []))
  refine Go.by (fun _ kont => XS.aloadN X101.here hx rfl (hb hby dF8_18) rfl rfl (XS.iload X101.here hx rfl (hb hby dF8_19) rfl kont)) ?_
  show Go _ _ _ _ _ _ _ (T101.setTop (mkF m 21 #[.val (.int (8 : Int32)), .val .null, .val (.ref s_ALL), .val (.int (4 : Int32)), .val (.int (0 : Int32)), .unset] [(.int (0 : Int32)), (.ref s_ALL)]))
  obtain ⟨cl_q103, Ar_q103, q1_q103, S_q103, N_q103, H_q103, G_q103⟩ := id V0_s_ALL
  have hin_q103 : ¬ ((0 : Int32) < 0 ∨ cl_q103.slots.size ≤ ((0 : Int32)).toNatClampNeg) := inb_of S_q103 ⟨by decide, by decide⟩
  have hat_q103 : cl_q103.slots[((0 : Int32)).toNatClampNeg]? = some (.ref s_METHOD) := Has.at H_q103 hin_q103 rfl
  refine Go.by (X101.aaload hx (j := (0 : Int32)) (v := (.ref s_METHOD)) (by rw [e101]; exact Ar_q103.1) (State.isArrayOf_alike hZ.alike Ar_q103.2.1) rfl Ar_q103.2.2 hin_q103 hat_q103 (g := (mkF m 21 #[.val (.int (8 : Int32)), .val .null, .val (.ref s_ALL), .val (.int (4 : Int32)), .val (.int (0 : Int32)), .unset] [(.int (0 : Int32)), (.ref s_ALL)])) rfl rfl (hb hby dF8_21)) ?_
  show Go _ _ _ _ _ _ _ (T101.setTop (mkF m 22 #[.val (.int (8 : Int32)), .val .null, .val (.ref s_ALL), .val (.int (4 : Int32)), .val (.int (0 : Int32)), .unset] [(.ref s_METHOD)]))
  refine Go.by (fun _ kont => XS.astore X101.here hx rfl (hb hby dF8_22) rfl rfl (l' := #[.val (.int (8 : Int32)), .val .null, .val (.ref s_ALL), .val (.int (4 : Int32)), .val (.int (0 : Int32)), .val (.ref s_METHOD)]) rfl (XS.aload X101.here hx rfl (hb hby dF8_24) rfl rfl kont)) ?_
  show Go _ _ _ _ _ _ _ (T101.setTop (mkF m 26 #[.val (.int (8 : Int32)), .val .null, .val (.ref s_ALL), .val (.int (4 : Int32)), .val (.int (0 : Int32)), .val (.ref s_METHOD)] [(.ref s_METHOD)]))
  obtain ⟨T104, X104, e104, st104⟩ := getF X101 hx hZ hown (host := "") (Or.inl (hw _ (List.mem_of_getElem? (i := 7) rfl))) Via.refl e101 F0_s_METHOD_octet (g := (mkF m 26 #[.val (.int (8 : Int32)), .val .null, .val (.ref s_ALL), .val (.int (4 : Int32)), .val (.int (0 : Int32)), .val (.ref s_METHOD)] [(.ref s_METHOD)])) rfl rfl (hb hby dF8_26)
  refine Go.by st104 ?_
  show Go _ _ _ _ _ _ _ (T104.setTop (mkF m 29 #[.val (.int (8 : Int32)), .val .null, .val (.ref s_ALL), .val (.int (4 : Int32)), .val (.int (0 : Int32)), .val (.ref s_METHOD)] [(.int (1 : Int32))]))
  refine Go.by (fun _ kont => XS.iloadN X104.here hx rfl (hb hby dF8_29) rfl kont) ?_
  show Go _ _ _ _ _ _ _ (T104.setTop (mkF m 30 #[.val (.int (8 : Int32)), .val .null, .val (.ref s_ALL), .val (.int (4 : Int32)), .val (.int (0 : Int32)), .val (.ref s_METHOD)] [(.int (8 : Int32)), (.int (1 : Int32))]))
  refine Go.by (fun _ kont => XS.icmpYes X104.here hx rfl (pc0 := 30) (pc' := 39) rfl (hb hby dF8_30) rfl (by decide) (by decide) (by decide) kont) ?_
  show Go _ _ _ _ _ _ _ (T104.setTop (mkF m 39 #[.val (.int (8 : Int32)), .val .null, .val (.ref s_ALL), .val (.int (4 : Int32)), .val (.int (0 : Int32)), .val (.ref s_METHOD)] []))
  refine Go.by (fun _ kont => XS.iinc X104.here hx rfl (hb hby dF8_39) rfl (l' := #[.val (.int (8 : Int32)), .val .null, .val (.ref s_ALL), .val (.int (4 : Int32)), .val (.int (1 : Int32)), .val (.ref s_METHOD)]) rfl (XS.goto X104.here hx rfl (pc0 := 42) (pc' := 12) rfl (hb hby dF8_42) (by decide) (by decide) (XS.iload X104.here hx rfl (hb hby dF8_12) rfl (XS.iloadN X104.here hx rfl (hb hby dF8_14) rfl kont)))) ?_
  show Go _ _ _ _ _ _ _ (T104.setTop (mkF m 15 #[.val (.int (8 : Int32)), .val .null, .val (.ref s_ALL), .val (.int (4 : Int32)), .val (.int (1 : Int32)), .val (.ref s_METHOD)] [(.int (4 : Int32)), (.int (1 : Int32))]))
  refine Go.by (fun _ kont => XS.icmpNo X104.here hx rfl (hb hby dF8_15) rfl (by decide) kont) ?_
  show Go _ _ _ _ _ _ _ (T104.setTop (mkF m 18 #[.val (.int (8 : Int32)), .val .null, .val (.ref s_ALL), .val (.int (4 : Int32)), .val (.int (1 : Int32)), .val (.ref s_METHOD)] []))
  refine Go.by (fun _ kont => XS.aloadN X104.here hx rfl (hb hby dF8_18) rfl rfl (XS.iload X104.here hx rfl (hb hby dF8_19) rfl kont)) ?_
  show Go _ _ _ _ _ _ _ (T104.setTop (mkF m 21 #[.val (.int (8 : Int32)), .val .null, .val (.ref s_ALL), .val (.int (4 : Int32)), .val (.int (1 : Int32)), .val (.ref s_METHOD)] [(.int (1 : Int32)), (.ref s_ALL)]))
  obtain ⟨cl_q105, Ar_q105, q1_q105, S_q105, N_q105, H_q105, G_q105⟩ := id V0_s_ALL
  have hin_q105 : ¬ ((1 : Int32) < 0 ∨ cl_q105.slots.size ≤ ((1 : Int32)).toNatClampNeg) := inb_of S_q105 ⟨by decide, by decide⟩
  have hat_q105 : cl_q105.slots[((1 : Int32)).toNatClampNeg]? = some (.ref s_HEADER) := Has.at H_q105 hin_q105 rfl
  refine Go.by (X104.aaload hx (j := (1 : Int32)) (v := (.ref s_HEADER)) (by rw [e104]; exact Ar_q105.1) (State.isArrayOf_alike hZ.alike Ar_q105.2.1) rfl Ar_q105.2.2 hin_q105 hat_q105 (g := (mkF m 21 #[.val (.int (8 : Int32)), .val .null, .val (.ref s_ALL), .val (.int (4 : Int32)), .val (.int (1 : Int32)), .val (.ref s_METHOD)] [(.int (1 : Int32)), (.ref s_ALL)])) rfl rfl (hb hby dF8_21)) ?_
  show Go _ _ _ _ _ _ _ (T104.setTop (mkF m 22 #[.val (.int (8 : Int32)), .val .null, .val (.ref s_ALL), .val (.int (4 : Int32)), .val (.int (1 : Int32)), .val (.ref s_METHOD)] [(.ref s_HEADER)]))
  refine Go.by (fun _ kont => XS.astore X104.here hx rfl (hb hby dF8_22) rfl rfl (l' := #[.val (.int (8 : Int32)), .val .null, .val (.ref s_ALL), .val (.int (4 : Int32)), .val (.int (1 : Int32)), .val (.ref s_HEADER)]) rfl (XS.aload X104.here hx rfl (hb hby dF8_24) rfl rfl kont)) ?_
  show Go _ _ _ _ _ _ _ (T104.setTop (mkF m 26 #[.val (.int (8 : Int32)), .val .null, .val (.ref s_ALL), .val (.int (4 : Int32)), .val (.int (1 : Int32)), .val (.ref s_HEADER)] [(.ref s_HEADER)]))
  obtain ⟨T106, X106, e106, st106⟩ := getF X104 hx hZ hown (host := "") (Or.inl (hw _ (List.mem_of_getElem? (i := 7) rfl))) Via.refl e104 F0_s_HEADER_octet (g := (mkF m 26 #[.val (.int (8 : Int32)), .val .null, .val (.ref s_ALL), .val (.int (4 : Int32)), .val (.int (1 : Int32)), .val (.ref s_HEADER)] [(.ref s_HEADER)])) rfl rfl (hb hby dF8_26)
  refine Go.by st106 ?_
  show Go _ _ _ _ _ _ _ (T106.setTop (mkF m 29 #[.val (.int (8 : Int32)), .val .null, .val (.ref s_ALL), .val (.int (4 : Int32)), .val (.int (1 : Int32)), .val (.ref s_HEADER)] [(.int (2 : Int32))]))
  refine Go.by (fun _ kont => XS.iloadN X106.here hx rfl (hb hby dF8_29) rfl kont) ?_
  show Go _ _ _ _ _ _ _ (T106.setTop (mkF m 30 #[.val (.int (8 : Int32)), .val .null, .val (.ref s_ALL), .val (.int (4 : Int32)), .val (.int (1 : Int32)), .val (.ref s_HEADER)] [(.int (8 : Int32)), (.int (2 : Int32))]))
  refine Go.by (fun _ kont => XS.icmpYes X106.here hx rfl (pc0 := 30) (pc' := 39) rfl (hb hby dF8_30) rfl (by decide) (by decide) (by decide) kont) ?_
  show Go _ _ _ _ _ _ _ (T106.setTop (mkF m 39 #[.val (.int (8 : Int32)), .val .null, .val (.ref s_ALL), .val (.int (4 : Int32)), .val (.int (1 : Int32)), .val (.ref s_HEADER)] []))
  refine Go.by (fun _ kont => XS.iinc X106.here hx rfl (hb hby dF8_39) rfl (l' := #[.val (.int (8 : Int32)), .val .null, .val (.ref s_ALL), .val (.int (4 : Int32)), .val (.int (2 : Int32)), .val (.ref s_HEADER)]) rfl (XS.goto X106.here hx rfl (pc0 := 42) (pc' := 12) rfl (hb hby dF8_42) (by decide) (by decide) (XS.iload X106.here hx rfl (hb hby dF8_12) rfl (XS.iloadN X106.here hx rfl (hb hby dF8_14) rfl kont)))) ?_
  show Go _ _ _ _ _ _ _ (T106.setTop (mkF m 15 #[.val (.int (8 : Int32)), .val .null, .val (.ref s_ALL), .val (.int (4 : Int32)), .val (.int (2 : Int32)), .val (.ref s_HEADER)] [(.int (4 : Int32)), (.int (2 : Int32))]))
  refine Go.by (fun _ kont => XS.icmpNo X106.here hx rfl (hb hby dF8_15) rfl (by decide) kont) ?_
  show Go _ _ _ _ _ _ _ (T106.setTop (mkF m 18 #[.val (.int (8 : Int32)), .val .null, .val (.ref s_ALL), .val (.int (4 : Int32)), .val (.int (2 : Int32)), .val (.ref s_HEADER)] []))
  refine Go.by (fun _ kont => XS.aloadN X106.here hx rfl (hb hby dF8_18) rfl rfl (XS.iload X106.here hx rfl (hb hby dF8_19) rfl kont)) ?_
  show Go _ _ _ _ _ _ _ (T106.setTop (mkF m 21 #[.val (.int (8 : Int32)), .val .null, .val (.ref s_ALL), .val (.int (4 : Int32)), .val (.int (2 : Int32)), .val (.ref s_HEADER)] [(.int (2 : Int32)), (.ref s_ALL)]))
  obtain ⟨cl_q107, Ar_q107, q1_q107, S_q107, N_q107, H_q107, G_q107⟩ := id V0_s_ALL
  have hin_q107 : ¬ ((2 : Int32) < 0 ∨ cl_q107.slots.size ≤ ((2 : Int32)).toNatClampNeg) := inb_of S_q107 ⟨by decide, by decide⟩
  have hat_q107 : cl_q107.slots[((2 : Int32)).toNatClampNeg]? = some (.ref s_BODY) := Has.at H_q107 hin_q107 rfl
  refine Go.by (X106.aaload hx (j := (2 : Int32)) (v := (.ref s_BODY)) (by rw [e106]; exact Ar_q107.1) (State.isArrayOf_alike hZ.alike Ar_q107.2.1) rfl Ar_q107.2.2 hin_q107 hat_q107 (g := (mkF m 21 #[.val (.int (8 : Int32)), .val .null, .val (.ref s_ALL), .val (.int (4 : Int32)), .val (.int (2 : Int32)), .val (.ref s_HEADER)] [(.int (2 : Int32)), (.ref s_ALL)])) rfl rfl (hb hby dF8_21)) ?_
  show Go _ _ _ _ _ _ _ (T106.setTop (mkF m 22 #[.val (.int (8 : Int32)), .val .null, .val (.ref s_ALL), .val (.int (4 : Int32)), .val (.int (2 : Int32)), .val (.ref s_HEADER)] [(.ref s_BODY)]))
  refine Go.by (fun _ kont => XS.astore X106.here hx rfl (hb hby dF8_22) rfl rfl (l' := #[.val (.int (8 : Int32)), .val .null, .val (.ref s_ALL), .val (.int (4 : Int32)), .val (.int (2 : Int32)), .val (.ref s_BODY)]) rfl (XS.aload X106.here hx rfl (hb hby dF8_24) rfl rfl kont)) ?_
  show Go _ _ _ _ _ _ _ (T106.setTop (mkF m 26 #[.val (.int (8 : Int32)), .val .null, .val (.ref s_ALL), .val (.int (4 : Int32)), .val (.int (2 : Int32)), .val (.ref s_BODY)] [(.ref s_BODY)]))
  obtain ⟨T108, X108, e108, st108⟩ := getF X106 hx hZ hown (host := "") (Or.inl (hw _ (List.mem_of_getElem? (i := 7) rfl))) Via.refl e106 F0_s_BODY_octet (g := (mkF m 26 #[.val (.int (8 : Int32)), .val .null, .val (.ref s_ALL), .val (.int (4 : Int32)), .val (.int (2 : Int32)), .val (.ref s_BODY)] [(.ref s_BODY)])) rfl rfl (hb hby dF8_26)
  refine Go.by st108 ?_
  show Go _ _ _ _ _ _ _ (T108.setTop (mkF m 29 #[.val (.int (8 : Int32)), .val .null, .val (.ref s_ALL), .val (.int (4 : Int32)), .val (.int (2 : Int32)), .val (.ref s_BODY)] [(.int (3 : Int32))]))
  refine Go.by (fun _ kont => XS.iloadN X108.here hx rfl (hb hby dF8_29) rfl kont) ?_
  show Go _ _ _ _ _ _ _ (T108.setTop (mkF m 30 #[.val (.int (8 : Int32)), .val .null, .val (.ref s_ALL), .val (.int (4 : Int32)), .val (.int (2 : Int32)), .val (.ref s_BODY)] [(.int (8 : Int32)), (.int (3 : Int32))]))
  refine Go.by (fun _ kont => XS.icmpYes X108.here hx rfl (pc0 := 30) (pc' := 39) rfl (hb hby dF8_30) rfl (by decide) (by decide) (by decide) kont) ?_
  show Go _ _ _ _ _ _ _ (T108.setTop (mkF m 39 #[.val (.int (8 : Int32)), .val .null, .val (.ref s_ALL), .val (.int (4 : Int32)), .val (.int (2 : Int32)), .val (.ref s_BODY)] []))
  refine Go.by (fun _ kont => XS.iinc X108.here hx rfl (hb hby dF8_39) rfl (l' := #[.val (.int (8 : Int32)), .val .null, .val (.ref s_ALL), .val (.int (4 : Int32)), .val (.int (3 : Int32)), .val (.ref s_BODY)]) rfl (XS.goto X108.here hx rfl (pc0 := 42) (pc' := 12) rfl (hb hby dF8_42) (by decide) (by decide) (XS.iload X108.here hx rfl (hb hby dF8_12) rfl (XS.iloadN X108.here hx rfl (hb hby dF8_14) rfl kont)))) ?_
  show Go _ _ _ _ _ _ _ (T108.setTop (mkF m 15 #[.val (.int (8 : Int32)), .val .null, .val (.ref s_ALL), .val (.int (4 : Int32)), .val (.int (3 : Int32)), .val (.ref s_BODY)] [(.int (4 : Int32)), (.int (3 : Int32))]))
  refine Go.by (fun _ kont => XS.icmpNo X108.here hx rfl (hb hby dF8_15) rfl (by decide) kont) ?_
  show Go _ _ _ _ _ _ _ (T108.setTop (mkF m 18 #[.val (.int (8 : Int32)), .val .null, .val (.ref s_ALL), .val (.int (4 : Int32)), .val (.int (3 : Int32)), .val (.ref s_BODY)] []))
  refine Go.by (fun _ kont => XS.aloadN X108.here hx rfl (hb hby dF8_18) rfl rfl (XS.iload X108.here hx rfl (hb hby dF8_19) rfl kont)) ?_
  show Go _ _ _ _ _ _ _ (T108.setTop (mkF m 21 #[.val (.int (8 : Int32)), .val .null, .val (.ref s_ALL), .val (.int (4 : Int32)), .val (.int (3 : Int32)), .val (.ref s_BODY)] [(.int (3 : Int32)), (.ref s_ALL)]))
  obtain ⟨cl_q109, Ar_q109, q1_q109, S_q109, N_q109, H_q109, G_q109⟩ := id V0_s_ALL
  have hin_q109 : ¬ ((3 : Int32) < 0 ∨ cl_q109.slots.size ≤ ((3 : Int32)).toNatClampNeg) := inb_of S_q109 ⟨by decide, by decide⟩
  have hat_q109 : cl_q109.slots[((3 : Int32)).toNatClampNeg]? = some (.ref s_HEARTBEAT) := Has.at H_q109 hin_q109 rfl
  refine Go.by (X108.aaload hx (j := (3 : Int32)) (v := (.ref s_HEARTBEAT)) (by rw [e108]; exact Ar_q109.1) (State.isArrayOf_alike hZ.alike Ar_q109.2.1) rfl Ar_q109.2.2 hin_q109 hat_q109 (g := (mkF m 21 #[.val (.int (8 : Int32)), .val .null, .val (.ref s_ALL), .val (.int (4 : Int32)), .val (.int (3 : Int32)), .val (.ref s_BODY)] [(.int (3 : Int32)), (.ref s_ALL)])) rfl rfl (hb hby dF8_21)) ?_
  show Go _ _ _ _ _ _ _ (T108.setTop (mkF m 22 #[.val (.int (8 : Int32)), .val .null, .val (.ref s_ALL), .val (.int (4 : Int32)), .val (.int (3 : Int32)), .val (.ref s_BODY)] [(.ref s_HEARTBEAT)]))
  refine Go.by (fun _ kont => XS.astore X108.here hx rfl (hb hby dF8_22) rfl rfl (l' := #[.val (.int (8 : Int32)), .val .null, .val (.ref s_ALL), .val (.int (4 : Int32)), .val (.int (3 : Int32)), .val (.ref s_HEARTBEAT)]) rfl (XS.aload X108.here hx rfl (hb hby dF8_24) rfl rfl kont)) ?_
  show Go _ _ _ _ _ _ _ (T108.setTop (mkF m 26 #[.val (.int (8 : Int32)), .val .null, .val (.ref s_ALL), .val (.int (4 : Int32)), .val (.int (3 : Int32)), .val (.ref s_HEARTBEAT)] [(.ref s_HEARTBEAT)]))
  obtain ⟨T110, X110, e110, st110⟩ := getF X108 hx hZ hown (host := "") (Or.inl (hw _ (List.mem_of_getElem? (i := 7) rfl))) Via.refl e108 F0_s_HEARTBEAT_octet (g := (mkF m 26 #[.val (.int (8 : Int32)), .val .null, .val (.ref s_ALL), .val (.int (4 : Int32)), .val (.int (3 : Int32)), .val (.ref s_HEARTBEAT)] [(.ref s_HEARTBEAT)])) rfl rfl (hb hby dF8_26)
  refine Go.by st110 ?_
  show Go _ _ _ _ _ _ _ (T110.setTop (mkF m 29 #[.val (.int (8 : Int32)), .val .null, .val (.ref s_ALL), .val (.int (4 : Int32)), .val (.int (3 : Int32)), .val (.ref s_HEARTBEAT)] [(.int (8 : Int32))]))
  refine Go.by (fun _ kont => XS.iloadN X110.here hx rfl (hb hby dF8_29) rfl kont) ?_
  show Go _ _ _ _ _ _ _ (T110.setTop (mkF m 30 #[.val (.int (8 : Int32)), .val .null, .val (.ref s_ALL), .val (.int (4 : Int32)), .val (.int (3 : Int32)), .val (.ref s_HEARTBEAT)] [(.int (8 : Int32)), (.int (8 : Int32))]))
  refine Go.by (fun _ kont => XS.icmpNo X110.here hx rfl (hb hby dF8_30) rfl (by decide) kont) ?_
  show Go _ _ _ _ _ _ _ (T110.setTop (mkF m 33 #[.val (.int (8 : Int32)), .val .null, .val (.ref s_ALL), .val (.int (4 : Int32)), .val (.int (3 : Int32)), .val (.ref s_HEARTBEAT)] []))
  refine Go.by (fun _ kont => XS.aload X110.here hx rfl (hb hby dF8_33) rfl rfl (XS.astoreN X110.here hx rfl (hb hby dF8_35) rfl rfl (l' := #[.val (.int (8 : Int32)), .val (.ref s_HEARTBEAT), .val (.ref s_ALL), .val (.int (4 : Int32)), .val (.int (3 : Int32)), .val (.ref s_HEARTBEAT)]) rfl (XS.goto X110.here hx rfl (pc0 := 36) (pc' := 45) rfl (hb hby dF8_36) (by decide) (by decide) (XS.aloadN X110.here hx rfl (hb hby dF8_45) rfl rfl kont)))) ?_
  show Go _ _ _ _ _ _ _ (T110.setTop (mkF m 46 #[.val (.int (8 : Int32)), .val (.ref s_HEARTBEAT), .val (.ref s_ALL), .val (.int (4 : Int32)), .val (.int (3 : Int32)), .val (.ref s_HEARTBEAT)] [(.ref s_HEARTBEAT)]))
  refine Go.retR X110 hx hret rfl rfl hlk (hb hby dF8_46) ?_ (by decide) (by decide)
  show QF8 Z s_METHOD s_HEADER s_BODY s_HEARTBEAT s_ALL kc_s_ALL h0 n0 (some (.ref s_HEARTBEAT)) T110.heap _
  rw [e110]
  exact ⟨rfl, N0, rfl⟩

theorem dX8_0 : decode method_2_code 0 = .ok (.iload_n 0, 1) := by decide +kernel
theorem dX8_1 : decode method_2_code 1 = .ok (.iconst 1, 1) := by decide +kernel
theorem dX8_2 : decode method_2_code 2 = .ok (.if_icmp .ne 7, 3) := by decide +kernel
theorem dX8_9 : decode method_2_code 9 = .ok (.iload_n 0, 1) := by decide +kernel
theorem dX8_10 : decode method_2_code 10 = .ok (.iconst 2, 1) := by decide +kernel
theorem dX8_11 : decode method_2_code 11 = .ok (.if_icmp .ne 7, 3) := by decide +kernel
theorem dX8_18 : decode method_2_code 18 = .ok (.iload_n 0, 1) := by decide +kernel
theorem dX8_19 : decode method_2_code 19 = .ok (.iconst 3, 1) := by decide +kernel
theorem dX8_20 : decode method_2_code 20 = .ok (.if_icmp .ne 7, 3) := by decide +kernel
theorem dX8_27 : decode method_2_code 27 = .ok (.iload_n 0, 1) := by decide +kernel
theorem dX8_28 : decode method_2_code 28 = .ok (.bipush 8, 2) := by decide +kernel
theorem dX8_30 : decode method_2_code 30 = .ok (.if_icmp .ne 7, 3) := by decide +kernel
theorem dX8_33 : decode method_2_code 33 = .ok (.getstatic 19, 3) := by decide +kernel
theorem dX8_36 : decode method_2_code 36 = .ok (.areturn, 1) := by decide +kernel
theorem pnX8 : plainName "com/example/kyu/kyu/wire/FrameTypeFromOctetPinLaw" = true := by first | (simp [plainName, overriddenIn]; done) | decide +kernel
theorem efX8 (m : MethodId)  : entryFrame m #[(.int (8 : Int32))] 1 = mkF m 0 #[.val (.int (8 : Int32))] [] := by first | (simp [entryFrame, mkF, argsToLocals, Value.category]; done) | rfl
def QX8 (Z : State) (s_METHOD : Addr) (s_HEADER : Addr) (s_BODY : Addr) (s_HEARTBEAT : Addr) (s_ALL : Addr) (kc_s_ALL : ClassId) (h0 : Heap) (n0 : Nat) (v : Option Value) (h : Heap) (L : List Loc) : Prop := (v = some (.ref s_HEARTBEAT) ∧ Fr n0 L ∧ h = h0)
set_option maxRecDepth 65536 in
set_option maxHeartbeats 40000000 in
theorem rmX8 (l : Launch) (Z : State) (a0 : Array Value) (hw : ∀ d ∈ tables_1, d.before a0 Z = true) (ws : List Jvm.Cond) (s_METHOD : Addr) (s_HEADER : Addr) (s_BODY : Addr) (s_HEARTBEAT : Addr) (s_ALL : Addr) (kc_s_ALL : ClassId) (h0 : Heap) (n0 : Nat) (Z0 : n0 ≤ h0.size) (E0_s_METHOD : Exa Z h0 s_METHOD "com/example/kyu/kyu/wire/FrameType") (F0_s_METHOD_octet : Fld Z h0 s_METHOD "com/example/kyu/kyu/wire/FrameType" "octet" "I" (.int (1 : Int32))) (E0_s_HEADER : Exa Z h0 s_HEADER "com/example/kyu/kyu/wire/FrameType") (F0_s_HEADER_octet : Fld Z h0 s_HEADER "com/example/kyu/kyu/wire/FrameType" "octet" "I" (.int (2 : Int32))) (E0_s_BODY : Exa Z h0 s_BODY "com/example/kyu/kyu/wire/FrameType") (F0_s_BODY_octet : Fld Z h0 s_BODY "com/example/kyu/kyu/wire/FrameType" "octet" "I" (.int (3 : Int32))) (E0_s_HEARTBEAT : Exa Z h0 s_HEARTBEAT "com/example/kyu/kyu/wire/FrameType") (F0_s_HEARTBEAT_octet : Fld Z h0 s_HEARTBEAT "com/example/kyu/kyu/wire/FrameType" "octet" "I" (.int (8 : Int32))) (V0_s_ALL : Arv Z h0 s_ALL kc_s_ALL (.object "com/example/kyu/kyu/wire/FrameType") (4 : Int32) [(.ref s_METHOD), (.ref s_HEADER), (.ref s_BODY), (.ref s_HEARTBEAT)] .null) (S0_ALL : Sta Z h0 "com/example/kyu/kyu/wire/FrameType" "ALL" "[Lcom/example/kyu/kyu/wire/FrameType;" (.ref s_ALL)) (S0_METHOD : Sta Z h0 "com/example/kyu/kyu/wire/FrameType" "METHOD" "Lcom/example/kyu/kyu/wire/FrameType;" (.ref s_METHOD)) (S0_HEADER : Sta Z h0 "com/example/kyu/kyu/wire/FrameType" "HEADER" "Lcom/example/kyu/kyu/wire/FrameType;" (.ref s_HEADER)) (S0_BODY : Sta Z h0 "com/example/kyu/kyu/wire/FrameType" "BODY" "Lcom/example/kyu/kyu/wire/FrameType;" (.ref s_BODY)) (S0_HEARTBEAT : Sta Z h0 "com/example/kyu/kyu/wire/FrameType" "HEARTBEAT" "Lcom/example/kyu/kyu/wire/FrameType;" (.ref s_HEARTBEAT)) :
    MetFree l (⟨"com/example/kyu/kyu/wire/FrameTypeFromOctetPinLaw", "expected", "(I)Lcom/example/kyu/kyu/wire/FrameType;"⟩ : MethodName) (head1 (Jvm.Cond.code (⟨"com/example/kyu/kyu/wire/FrameTypeFromOctetPinLaw", "expected", "(I)Lcom/example/kyu/kyu/wire/FrameType;"⟩ : MethodName) method_2_code 1 (some (.object "com/example/kyu/kyu/wire/FrameType")) :: ws) ({ frames := 0, cells := 0, slots := 0, locals := 0 } : Room)) (fun aa U => aa = #[(.int (8 : Int32))] ∧ Z.Warmed39 U.vm ∧ U.heap = h0) (fun _ _ _ _ _ => True) (fun _ U o U' => ∃ v L, o = .returned v ∧ QX8 Z s_METHOD s_HEADER s_BODY s_HEARTBEAT s_ALL kc_s_ALL h0 n0 v U'.heap L ∧ FrameEnd U o U' L ({ frames := 0, cells := 0, slots := 0, locals := 0 } : Room).cells ({ frames := 0, cells := 0, slots := 0, locals := 0 } : Room).slots) := by
  refine MetFree.of_bodySF (plainFor_of_name pnX8) hisR ?_
  intro p e s m args below meth c s₁ Bd hml0 hP hK
  obtain ⟨rfl, hZ, hh⟩ := hP
  have hx := Bd.exec
  have hby := Bd.bytes
  have hml : c.maxLocals = 1 := hml0
  have hown : s.vm.findClass "com/example/kyu/kyu/wire/FrameTypeFromOctetPinLaw" = some m.cls := findClass_of_methodNamed Bd.named
  have hnm := (name_of_methodNamed Bd.named Bd.method).1
  have hlk : meth.locks = false := BodyLoose.notSynchronized Bd
  have hret : meth.sig.returnType = (some (.object "com/example/kyu/kyu/wire/FrameType")) := Bd.returns
  have X0 : Stand p l e ({ frames := 0, cells := 0, slots := 0, locals := 0 } : Room) s m #[(.int (8 : Int32))] below meth c s₁ [] 0 0 := Stand.of_body Bd
  have e0 : s₁.heap = h0 := by rw [← hh, Bd.state]; rfl
  have N0 := Fr.nil n0
  show Go p e below s ({ frames := 0, cells := 0, slots := 0, locals := 0 } : Room).cells ({ frames := 0, cells := 0, slots := 0, locals := 0 } : Room).slots (QX8 Z s_METHOD s_HEADER s_BODY s_HEARTBEAT s_ALL kc_s_ALL h0 n0) (s₁.setTop (entryFrame m #[(.int (8 : Int32))] 1))
  rw [efX8]
  refine Go.by (fun _ kont => XS.iloadN X0.here hx rfl (hb hby dX8_0) rfl (XS.iconst X0.here hx rfl (hb hby dX8_1) kont)) ?_
  show Go _ _ _ _ _ _ _ (s₁.setTop (mkF m 2 #[.val (.int (8 : Int32))] [(.int (1 : Int32)), (.int (8 : Int32))]))
  refine Go.by (fun _ kont => XS.icmpYes X0.here hx rfl (pc0 := 2) (pc' := 9) rfl (hb hby dX8_2) rfl (by decide) (by decide) (by decide) kont) ?_
  show Go _ _ _ _ _ _ _ (s₁.setTop (mkF m 9 #[.val (.int (8 : Int32))] []))
  refine Go.by (fun _ kont => XS.iloadN X0.here hx rfl (hb hby dX8_9) rfl (XS.iconst X0.here hx rfl (hb hby dX8_10) kont)) ?_
  show Go _ _ _ _ _ _ _ (s₁.setTop (mkF m 11 #[.val (.int (8 : Int32))] [(.int (2 : Int32)), (.int (8 : Int32))]))
  refine Go.by (fun _ kont => XS.icmpYes X0.here hx rfl (pc0 := 11) (pc' := 18) rfl (hb hby dX8_11) rfl (by decide) (by decide) (by decide) kont) ?_
  show Go _ _ _ _ _ _ _ (s₁.setTop (mkF m 18 #[.val (.int (8 : Int32))] []))
  refine Go.by (fun _ kont => XS.iloadN X0.here hx rfl (hb hby dX8_18) rfl (XS.iconst X0.here hx rfl (hb hby dX8_19) kont)) ?_
  show Go _ _ _ _ _ _ _ (s₁.setTop (mkF m 20 #[.val (.int (8 : Int32))] [(.int (3 : Int32)), (.int (8 : Int32))]))
  refine Go.by (fun _ kont => XS.icmpYes X0.here hx rfl (pc0 := 20) (pc' := 27) rfl (hb hby dX8_20) rfl (by decide) (by decide) (by decide) kont) ?_
  show Go _ _ _ _ _ _ _ (s₁.setTop (mkF m 27 #[.val (.int (8 : Int32))] []))
  refine Go.by (fun _ kont => XS.iloadN X0.here hx rfl (hb hby dX8_27) rfl (XS.bipush X0.here hx rfl (hb hby dX8_28) kont)) ?_
  show Go _ _ _ _ _ _ _ (s₁.setTop (mkF m 30 #[.val (.int (8 : Int32))] [(.int (8 : Int32)), (.int (8 : Int32))]))
  refine Go.by (fun _ kont => XS.icmpNo X0.here hx rfl (hb hby dX8_30) rfl (by decide) kont) ?_
  show Go _ _ _ _ _ _ _ (s₁.setTop (mkF m 33 #[.val (.int (8 : Int32))] []))
  obtain ⟨T101, X101, e101, st101⟩ := getS2 X0 hx hZ hown (host := "") (Or.inl (hw _ (List.mem_of_getElem? (i := 18) rfl))) Via.refl e0 S0_HEARTBEAT (g := (mkF m 33 #[.val (.int (8 : Int32))] [])) rfl (hb hby dX8_33)
  refine Go.by st101 ?_
  show Go _ _ _ _ _ _ _ (T101.setTop (mkF m 36 #[.val (.int (8 : Int32))] [(.ref s_HEARTBEAT)]))
  refine Go.retR X101 hx hret rfl rfl hlk (hb hby dX8_36) ?_ (by decide) (by decide)
  show QX8 Z s_METHOD s_HEADER s_BODY s_HEARTBEAT s_ALL kc_s_ALL h0 n0 (some (.ref s_HEARTBEAT)) T101.heap _
  rw [e101]
  exact ⟨rfl, N0, rfl⟩

theorem dFN_0 : decode prog_22_method_5_code 0 = .ok (.aconst_null, 1) := by decide +kernel
theorem dFN_1 : decode prog_22_method_5_code 1 = .ok (.astore_n 1, 1) := by decide +kernel
theorem dFN_2 : decode prog_22_method_5_code 2 = .ok (.getstatic 39, 3) := by decide +kernel
theorem dFN_5 : decode prog_22_method_5_code 5 = .ok (.astore_n 2, 1) := by decide +kernel
theorem dFN_6 : decode prog_22_method_5_code 6 = .ok (.aload_n 2, 1) := by decide +kernel
theorem dFN_7 : decode prog_22_method_5_code 7 = .ok (.arraylength, 1) := by decide +kernel
theorem dFN_8 : decode prog_22_method_5_code 8 = .ok (.istore_n 3, 1) := by decide +kernel
theorem dFN_9 : decode prog_22_method_5_code 9 = .ok (.iconst 0, 1) := by decide +kernel
theorem dFN_10 : decode prog_22_method_5_code 10 = .ok (.istore 4, 2) := by decide +kernel
theorem dFN_12 : decode prog_22_method_5_code 12 = .ok (.iload 4, 2) := by decide +kernel
theorem dFN_14 : decode prog_22_method_5_code 14 = .ok (.iload_n 3, 1) := by decide +kernel
theorem dFN_15 : decode prog_22_method_5_code 15 = .ok (.if_icmp .ge 30, 3) := by decide +kernel
theorem dFN_18 : decode prog_22_method_5_code 18 = .ok (.aload_n 2, 1) := by decide +kernel
theorem dFN_19 : decode prog_22_method_5_code 19 = .ok (.iload 4, 2) := by decide +kernel
theorem dFN_21 : decode prog_22_method_5_code 21 = .ok (.aaload, 1) := by decide +kernel
theorem dFN_22 : decode prog_22_method_5_code 22 = .ok (.astore 5, 2) := by decide +kernel
theorem dFN_24 : decode prog_22_method_5_code 24 = .ok (.aload 5, 2) := by decide +kernel
theorem dFN_26 : decode prog_22_method_5_code 26 = .ok (.getfield 35, 3) := by decide +kernel
theorem dFN_29 : decode prog_22_method_5_code 29 = .ok (.iload_n 0, 1) := by decide +kernel
theorem dFN_30 : decode prog_22_method_5_code 30 = .ok (.if_icmp .ne 9, 3) := by decide +kernel
theorem dFN_39 : decode prog_22_method_5_code 39 = .ok (.iinc 4 1, 3) := by decide +kernel
theorem dFN_42 : decode prog_22_method_5_code 42 = .ok (.goto (-30), 3) := by decide +kernel
theorem dFN_45 : decode prog_22_method_5_code 45 = .ok (.aload_n 1, 1) := by decide +kernel
theorem dFN_46 : decode prog_22_method_5_code 46 = .ok (.areturn, 1) := by decide +kernel
theorem pnFN : plainName "com/example/kyu/kyu/wire/FrameType" = true := by first | (simp [plainName, overriddenIn]; done) | decide +kernel
theorem efFN (m : MethodId) (oo : Int32) : entryFrame m #[(.int oo)] 6 = mkF m 0 #[.val (.int oo), .unset, .unset, .unset, .unset, .unset] [] := by first | (simp [entryFrame, mkF, argsToLocals, Value.category]; done) | rfl
def QFN (Z : State) (oo : Int32) (s_METHOD : Addr) (s_HEADER : Addr) (s_BODY : Addr) (s_HEARTBEAT : Addr) (s_ALL : Addr) (kc_s_ALL : ClassId) (h0 : Heap) (n0 : Nat) (v : Option Value) (h : Heap) (L : List Loc) : Prop := (v = some .null ∧ Fr n0 L ∧ h = h0)
set_option maxRecDepth 65536 in
set_option maxHeartbeats 40000000 in
theorem rmFN (l : Launch) (Z : State) (a0 : Array Value) (hw : ∀ d ∈ tables_1, d.before a0 Z = true) (ws : List Jvm.Cond) (oo : Int32) (s_METHOD : Addr) (s_HEADER : Addr) (s_BODY : Addr) (s_HEARTBEAT : Addr) (s_ALL : Addr) (kc_s_ALL : ClassId) (h0 : Heap) (n0 : Nat) (Z0 : n0 ≤ h0.size) (E0_s_METHOD : Exa Z h0 s_METHOD "com/example/kyu/kyu/wire/FrameType") (F0_s_METHOD_octet : Fld Z h0 s_METHOD "com/example/kyu/kyu/wire/FrameType" "octet" "I" (.int (1 : Int32))) (E0_s_HEADER : Exa Z h0 s_HEADER "com/example/kyu/kyu/wire/FrameType") (F0_s_HEADER_octet : Fld Z h0 s_HEADER "com/example/kyu/kyu/wire/FrameType" "octet" "I" (.int (2 : Int32))) (E0_s_BODY : Exa Z h0 s_BODY "com/example/kyu/kyu/wire/FrameType") (F0_s_BODY_octet : Fld Z h0 s_BODY "com/example/kyu/kyu/wire/FrameType" "octet" "I" (.int (3 : Int32))) (E0_s_HEARTBEAT : Exa Z h0 s_HEARTBEAT "com/example/kyu/kyu/wire/FrameType") (F0_s_HEARTBEAT_octet : Fld Z h0 s_HEARTBEAT "com/example/kyu/kyu/wire/FrameType" "octet" "I" (.int (8 : Int32))) (V0_s_ALL : Arv Z h0 s_ALL kc_s_ALL (.object "com/example/kyu/kyu/wire/FrameType") (4 : Int32) [(.ref s_METHOD), (.ref s_HEADER), (.ref s_BODY), (.ref s_HEARTBEAT)] .null) (S0_ALL : Sta Z h0 "com/example/kyu/kyu/wire/FrameType" "ALL" "[Lcom/example/kyu/kyu/wire/FrameType;" (.ref s_ALL)) (S0_METHOD : Sta Z h0 "com/example/kyu/kyu/wire/FrameType" "METHOD" "Lcom/example/kyu/kyu/wire/FrameType;" (.ref s_METHOD)) (S0_HEADER : Sta Z h0 "com/example/kyu/kyu/wire/FrameType" "HEADER" "Lcom/example/kyu/kyu/wire/FrameType;" (.ref s_HEADER)) (S0_BODY : Sta Z h0 "com/example/kyu/kyu/wire/FrameType" "BODY" "Lcom/example/kyu/kyu/wire/FrameType;" (.ref s_BODY)) (S0_HEARTBEAT : Sta Z h0 "com/example/kyu/kyu/wire/FrameType" "HEARTBEAT" "Lcom/example/kyu/kyu/wire/FrameType;" (.ref s_HEARTBEAT)) (hq1 : ¬ (oo = (1 : Int32))) (hq2 : ¬ (oo = (2 : Int32))) (hq3 : ¬ (oo = (3 : Int32))) (hq8 : ¬ (oo = (8 : Int32))) (hr1 : ¬ ((1 : Int32) = oo)) (hr2 : ¬ ((2 : Int32) = oo)) (hr3 : ¬ ((3 : Int32) = oo)) (hr8 : ¬ ((8 : Int32) = oo)) :
    MetFree l (⟨"com/example/kyu/kyu/wire/FrameType", "fromOctet", "(I)Lcom/example/kyu/kyu/wire/FrameType;"⟩ : MethodName) (head1 (Jvm.Cond.code (⟨"com/example/kyu/kyu/wire/FrameType", "fromOctet", "(I)Lcom/example/kyu/kyu/wire/FrameType;"⟩ : MethodName) prog_22_method_5_code 6 (some (.object "com/example/kyu/kyu/wire/FrameType")) :: ws) ({ frames := 0, cells := 0, slots := 0, locals := 0 } : Room)) (fun aa U => aa = #[(.int oo)] ∧ Z.Warmed39 U.vm ∧ U.heap = h0) (fun _ _ _ _ _ => True) (fun _ U o U' => ∃ v L, o = .returned v ∧ QFN Z oo s_METHOD s_HEADER s_BODY s_HEARTBEAT s_ALL kc_s_ALL h0 n0 v U'.heap L ∧ FrameEnd U o U' L ({ frames := 0, cells := 0, slots := 0, locals := 0 } : Room).cells ({ frames := 0, cells := 0, slots := 0, locals := 0 } : Room).slots) := by
  refine MetFree.of_bodySF (plainFor_of_name pnFN) hisR ?_
  intro p e s m args below meth c s₁ Bd hml0 hP hK
  obtain ⟨rfl, hZ, hh⟩ := hP
  have hx := Bd.exec
  have hby := Bd.bytes
  have hml : c.maxLocals = 6 := hml0
  have hown : s.vm.findClass "com/example/kyu/kyu/wire/FrameType" = some m.cls := findClass_of_methodNamed Bd.named
  have hnm := (name_of_methodNamed Bd.named Bd.method).1
  have hlk : meth.locks = false := BodyLoose.notSynchronized Bd
  have hret : meth.sig.returnType = (some (.object "com/example/kyu/kyu/wire/FrameType")) := Bd.returns
  have X0 : Stand p l e ({ frames := 0, cells := 0, slots := 0, locals := 0 } : Room) s m #[(.int oo)] below meth c s₁ [] 0 0 := Stand.of_body Bd
  have e0 : s₁.heap = h0 := by rw [← hh, Bd.state]; rfl
  have N0 := Fr.nil n0
  show Go p e below s ({ frames := 0, cells := 0, slots := 0, locals := 0 } : Room).cells ({ frames := 0, cells := 0, slots := 0, locals := 0 } : Room).slots (QFN Z oo s_METHOD s_HEADER s_BODY s_HEARTBEAT s_ALL kc_s_ALL h0 n0) (s₁.setTop (entryFrame m #[(.int oo)] 6))
  rw [efFN]
  refine Go.by (fun _ kont => XS.aconstNull X0.here hx rfl (hb hby dFN_0) (XS.astoreN X0.here hx rfl (hb hby dFN_1) rfl rfl (l' := #[.val (.int oo), .val .null, .unset, .unset, .unset, .unset]) rfl kont)) ?_
  show Go _ _ _ _ _ _ _ (s₁.setTop (mkF m 2 #[.val (.int oo), .val .null, .unset, .unset, .unset, .unset] []))
  obtain ⟨T101, X101, e101, st101⟩ := getS2 X0 hx hZ hown (host := "") (Or.inl (hw _ (List.mem_of_getElem? (i := 4) rfl))) Via.refl e0 S0_ALL (g := (mkF m 2 #[.val (.int oo), .val .null, .unset, .unset, .unset, .unset] [])) rfl (hb hby dFN_2)
  refine Go.by st101 ?_
  show Go _ _ _ _ _ _ _ (T101.setTop (mkF m 5 #[.val (.int oo), .val .null, .unset, .unset, .unset, .unset] [(.ref s_ALL)]))
  refine Go.by (fun _ kont => XS.astoreN X101.here hx rfl (hb hby dFN_5) rfl rfl (l' := #[.val (.int oo), .val .null, .val (.ref s_ALL), .unset, .unset, .unset]) rfl (XS.aloadN X101.here hx rfl (hb hby dFN_6) rfl rfl kont)) ?_
  show Go _ _ _ _ _ _ _ (T101.setTop (mkF m 7 #[.val (.int oo), .val .null, .val (.ref s_ALL), .unset, .unset, .unset] [(.ref s_ALL)]))
  obtain ⟨cl_q102, Ar_q102, q1_q102, S_q102, N_q102, H_q102, G_q102⟩ := id V0_s_ALL
  refine Go.by (X101.arraylength hx (by rw [e101]; exact Ar_q102.1) (State.isArrayOf_alike hZ.alike Ar_q102.2.1) (g := (mkF m 7 #[.val (.int oo), .val .null, .val (.ref s_ALL), .unset, .unset, .unset] [(.ref s_ALL)])) rfl rfl (hb hby dFN_7)) ?_
  rw [len_of S_q102 N_q102]
  show Go _ _ _ _ _ _ _ (T101.setTop (mkF m 8 #[.val (.int oo), .val .null, .val (.ref s_ALL), .unset, .unset, .unset] [(.int (4 : Int32))]))
  refine Go.by (fun _ kont => XS.istoreN X101.here hx rfl (hb hby dFN_8) rfl (l' := #[.val (.int oo), .val .null, .val (.ref s_ALL), .val (.int (4 : Int32)), .unset, .unset]) rfl (XS.iconst X101.here hx rfl (hb hby dFN_9) (XS.istore X101.here hx rfl (hb hby dFN_10) rfl (l' := #[.val (.int oo), .val .null, .val (.ref s_ALL), .val (.int (4 : Int32)), .val (.int (0 : Int32)), .unset]) rfl (XS.iload X101.here hx rfl (hb hby dFN_12) rfl (XS.iloadN X101.here hx rfl (hb hby dFN_14) rfl kont))))) ?_
  show Go _ _ _ _ _ _ _ (T101.setTop (mkF m 15 #[.val (.int oo), .val .null, .val (.ref s_ALL), .val (.int (4 : Int32)), .val (.int (0 : Int32)), .unset] [(.int (4 : Int32)), (.int (0 : Int32))]))
  refine Go.by (fun _ kont => XS.icmpNo X101.here hx rfl (hb hby dFN_15) rfl (by decide) kont) ?_
  show Go _ _ _ _ _ _ _ (T101.setTop (mkF m 18 #[.val (.int oo), .val .null, .val (.ref s_ALL), .val (.int (4 : Int32)), .val (.int (0 : Int32)), .unset] []))
  refine Go.by (fun _ kont => XS.aloadN X101.here hx rfl (hb hby dFN_18) rfl rfl (XS.iload X101.here hx rfl (hb hby dFN_19) rfl kont)) ?_
  show Go _ _ _ _ _ _ _ (T101.setTop (mkF m 21 #[.val (.int oo), .val .null, .val (.ref s_ALL), .val (.int (4 : Int32)), .val (.int (0 : Int32)), .unset] [(.int (0 : Int32)), (.ref s_ALL)]))
  obtain ⟨cl_q103, Ar_q103, q1_q103, S_q103, N_q103, H_q103, G_q103⟩ := id V0_s_ALL
  have hin_q103 : ¬ ((0 : Int32) < 0 ∨ cl_q103.slots.size ≤ ((0 : Int32)).toNatClampNeg) := inb_of S_q103 ⟨by decide, by decide⟩
  have hat_q103 : cl_q103.slots[((0 : Int32)).toNatClampNeg]? = some (.ref s_METHOD) := Has.at H_q103 hin_q103 rfl
  refine Go.by (X101.aaload hx (j := (0 : Int32)) (v := (.ref s_METHOD)) (by rw [e101]; exact Ar_q103.1) (State.isArrayOf_alike hZ.alike Ar_q103.2.1) rfl Ar_q103.2.2 hin_q103 hat_q103 (g := (mkF m 21 #[.val (.int oo), .val .null, .val (.ref s_ALL), .val (.int (4 : Int32)), .val (.int (0 : Int32)), .unset] [(.int (0 : Int32)), (.ref s_ALL)])) rfl rfl (hb hby dFN_21)) ?_
  show Go _ _ _ _ _ _ _ (T101.setTop (mkF m 22 #[.val (.int oo), .val .null, .val (.ref s_ALL), .val (.int (4 : Int32)), .val (.int (0 : Int32)), .unset] [(.ref s_METHOD)]))
  refine Go.by (fun _ kont => XS.astore X101.here hx rfl (hb hby dFN_22) rfl rfl (l' := #[.val (.int oo), .val .null, .val (.ref s_ALL), .val (.int (4 : Int32)), .val (.int (0 : Int32)), .val (.ref s_METHOD)]) rfl (XS.aload X101.here hx rfl (hb hby dFN_24) rfl rfl kont)) ?_
  show Go _ _ _ _ _ _ _ (T101.setTop (mkF m 26 #[.val (.int oo), .val .null, .val (.ref s_ALL), .val (.int (4 : Int32)), .val (.int (0 : Int32)), .val (.ref s_METHOD)] [(.ref s_METHOD)]))
  obtain ⟨T104, X104, e104, st104⟩ := getF X101 hx hZ hown (host := "") (Or.inl (hw _ (List.mem_of_getElem? (i := 7) rfl))) Via.refl e101 F0_s_METHOD_octet (g := (mkF m 26 #[.val (.int oo), .val .null, .val (.ref s_ALL), .val (.int (4 : Int32)), .val (.int (0 : Int32)), .val (.ref s_METHOD)] [(.ref s_METHOD)])) rfl rfl (hb hby dFN_26)
  refine Go.by st104 ?_
  show Go _ _ _ _ _ _ _ (T104.setTop (mkF m 29 #[.val (.int oo), .val .null, .val (.ref s_ALL), .val (.int (4 : Int32)), .val (.int (0 : Int32)), .val (.ref s_METHOD)] [(.int (1 : Int32))]))
  refine Go.by (fun _ kont => XS.iloadN X104.here hx rfl (hb hby dFN_29) rfl kont) ?_
  show Go _ _ _ _ _ _ _ (T104.setTop (mkF m 30 #[.val (.int oo), .val .null, .val (.ref s_ALL), .val (.int (4 : Int32)), .val (.int (0 : Int32)), .val (.ref s_METHOD)] [(.int oo), (.int (1 : Int32))]))
  refine Go.by (fun _ kont => XS.icmpYes X104.here hx rfl (pc0 := 30) (pc' := 39) rfl (hb hby dFN_30) rfl (feq hr1).2 (by decide) (by decide) kont) ?_
  show Go _ _ _ _ _ _ _ (T104.setTop (mkF m 39 #[.val (.int oo), .val .null, .val (.ref s_ALL), .val (.int (4 : Int32)), .val (.int (0 : Int32)), .val (.ref s_METHOD)] []))
  refine Go.by (fun _ kont => XS.iinc X104.here hx rfl (hb hby dFN_39) rfl (l' := #[.val (.int oo), .val .null, .val (.ref s_ALL), .val (.int (4 : Int32)), .val (.int (1 : Int32)), .val (.ref s_METHOD)]) rfl (XS.goto X104.here hx rfl (pc0 := 42) (pc' := 12) rfl (hb hby dFN_42) (by decide) (by decide) (XS.iload X104.here hx rfl (hb hby dFN_12) rfl (XS.iloadN X104.here hx rfl (hb hby dFN_14) rfl kont)))) ?_
  show Go _ _ _ _ _ _ _ (T104.setTop (mkF m 15 #[.val (.int oo), .val .null, .val (.ref s_ALL), .val (.int (4 : Int32)), .val (.int (1 : Int32)), .val (.ref s_METHOD)] [(.int (4 : Int32)), (.int (1 : Int32))]))
  refine Go.by (fun _ kont => XS.icmpNo X104.here hx rfl (hb hby dFN_15) rfl (by decide) kont) ?_
  show Go _ _ _ _ _ _ _ (T104.setTop (mkF m 18 #[.val (.int oo), .val .null, .val (.ref s_ALL), .val (.int (4 : Int32)), .val (.int (1 : Int32)), .val (.ref s_METHOD)] []))
  refine Go.by (fun _ kont => XS.aloadN X104.here hx rfl (hb hby dFN_18) rfl rfl (XS.iload X104.here hx rfl (hb hby dFN_19) rfl kont)) ?_
  show Go _ _ _ _ _ _ _ (T104.setTop (mkF m 21 #[.val (.int oo), .val .null, .val (.ref s_ALL), .val (.int (4 : Int32)), .val (.int (1 : Int32)), .val (.ref s_METHOD)] [(.int (1 : Int32)), (.ref s_ALL)]))
  obtain ⟨cl_q105, Ar_q105, q1_q105, S_q105, N_q105, H_q105, G_q105⟩ := id V0_s_ALL
  have hin_q105 : ¬ ((1 : Int32) < 0 ∨ cl_q105.slots.size ≤ ((1 : Int32)).toNatClampNeg) := inb_of S_q105 ⟨by decide, by decide⟩
  have hat_q105 : cl_q105.slots[((1 : Int32)).toNatClampNeg]? = some (.ref s_HEADER) := Has.at H_q105 hin_q105 rfl
  refine Go.by (X104.aaload hx (j := (1 : Int32)) (v := (.ref s_HEADER)) (by rw [e104]; exact Ar_q105.1) (State.isArrayOf_alike hZ.alike Ar_q105.2.1) rfl Ar_q105.2.2 hin_q105 hat_q105 (g := (mkF m 21 #[.val (.int oo), .val .null, .val (.ref s_ALL), .val (.int (4 : Int32)), .val (.int (1 : Int32)), .val (.ref s_METHOD)] [(.int (1 : Int32)), (.ref s_ALL)])) rfl rfl (hb hby dFN_21)) ?_
  show Go _ _ _ _ _ _ _ (T104.setTop (mkF m 22 #[.val (.int oo), .val .null, .val (.ref s_ALL), .val (.int (4 : Int32)), .val (.int (1 : Int32)), .val (.ref s_METHOD)] [(.ref s_HEADER)]))
  refine Go.by (fun _ kont => XS.astore X104.here hx rfl (hb hby dFN_22) rfl rfl (l' := #[.val (.int oo), .val .null, .val (.ref s_ALL), .val (.int (4 : Int32)), .val (.int (1 : Int32)), .val (.ref s_HEADER)]) rfl (XS.aload X104.here hx rfl (hb hby dFN_24) rfl rfl kont)) ?_
  show Go _ _ _ _ _ _ _ (T104.setTop (mkF m 26 #[.val (.int oo), .val .null, .val (.ref s_ALL), .val (.int (4 : Int32)), .val (.int (1 : Int32)), .val (.ref s_HEADER)] [(.ref s_HEADER)]))
  obtain ⟨T106, X106, e106, st106⟩ := getF X104 hx hZ hown (host := "") (Or.inl (hw _ (List.mem_of_getElem? (i := 7) rfl))) Via.refl e104 F0_s_HEADER_octet (g := (mkF m 26 #[.val (.int oo), .val .null, .val (.ref s_ALL), .val (.int (4 : Int32)), .val (.int (1 : Int32)), .val (.ref s_HEADER)] [(.ref s_HEADER)])) rfl rfl (hb hby dFN_26)
  refine Go.by st106 ?_
  show Go _ _ _ _ _ _ _ (T106.setTop (mkF m 29 #[.val (.int oo), .val .null, .val (.ref s_ALL), .val (.int (4 : Int32)), .val (.int (1 : Int32)), .val (.ref s_HEADER)] [(.int (2 : Int32))]))
  refine Go.by (fun _ kont => XS.iloadN X106.here hx rfl (hb hby dFN_29) rfl kont) ?_
  show Go _ _ _ _ _ _ _ (T106.setTop (mkF m 30 #[.val (.int oo), .val .null, .val (.ref s_ALL), .val (.int (4 : Int32)), .val (.int (1 : Int32)), .val (.ref s_HEADER)] [(.int oo), (.int (2 : Int32))]))
  refine Go.by (fun _ kont => XS.icmpYes X106.here hx rfl (pc0 := 30) (pc' := 39) rfl (hb hby dFN_30) rfl (feq hr2).2 (by decide) (by decide) kont) ?_
  show Go _ _ _ _ _ _ _ (T106.setTop (mkF m 39 #[.val (.int oo), .val .null, .val (.ref s_ALL), .val (.int (4 : Int32)), .val (.int (1 : Int32)), .val (.ref s_HEADER)] []))
  refine Go.by (fun _ kont => XS.iinc X106.here hx rfl (hb hby dFN_39) rfl (l' := #[.val (.int oo), .val .null, .val (.ref s_ALL), .val (.int (4 : Int32)), .val (.int (2 : Int32)), .val (.ref s_HEADER)]) rfl (XS.goto X106.here hx rfl (pc0 := 42) (pc' := 12) rfl (hb hby dFN_42) (by decide) (by decide) (XS.iload X106.here hx rfl (hb hby dFN_12) rfl (XS.iloadN X106.here hx rfl (hb hby dFN_14) rfl kont)))) ?_
  show Go _ _ _ _ _ _ _ (T106.setTop (mkF m 15 #[.val (.int oo), .val .null, .val (.ref s_ALL), .val (.int (4 : Int32)), .val (.int (2 : Int32)), .val (.ref s_HEADER)] [(.int (4 : Int32)), (.int (2 : Int32))]))
  refine Go.by (fun _ kont => XS.icmpNo X106.here hx rfl (hb hby dFN_15) rfl (by decide) kont) ?_
  show Go _ _ _ _ _ _ _ (T106.setTop (mkF m 18 #[.val (.int oo), .val .null, .val (.ref s_ALL), .val (.int (4 : Int32)), .val (.int (2 : Int32)), .val (.ref s_HEADER)] []))
  refine Go.by (fun _ kont => XS.aloadN X106.here hx rfl (hb hby dFN_18) rfl rfl (XS.iload X106.here hx rfl (hb hby dFN_19) rfl kont)) ?_
  show Go _ _ _ _ _ _ _ (T106.setTop (mkF m 21 #[.val (.int oo), .val .null, .val (.ref s_ALL), .val (.int (4 : Int32)), .val (.int (2 : Int32)), .val (.ref s_HEADER)] [(.int (2 : Int32)), (.ref s_ALL)]))
  obtain ⟨cl_q107, Ar_q107, q1_q107, S_q107, N_q107, H_q107, G_q107⟩ := id V0_s_ALL
  have hin_q107 : ¬ ((2 : Int32) < 0 ∨ cl_q107.slots.size ≤ ((2 : Int32)).toNatClampNeg) := inb_of S_q107 ⟨by decide, by decide⟩
  have hat_q107 : cl_q107.slots[((2 : Int32)).toNatClampNeg]? = some (.ref s_BODY) := Has.at H_q107 hin_q107 rfl
  refine Go.by (X106.aaload hx (j := (2 : Int32)) (v := (.ref s_BODY)) (by rw [e106]; exact Ar_q107.1) (State.isArrayOf_alike hZ.alike Ar_q107.2.1) rfl Ar_q107.2.2 hin_q107 hat_q107 (g := (mkF m 21 #[.val (.int oo), .val .null, .val (.ref s_ALL), .val (.int (4 : Int32)), .val (.int (2 : Int32)), .val (.ref s_HEADER)] [(.int (2 : Int32)), (.ref s_ALL)])) rfl rfl (hb hby dFN_21)) ?_
  show Go _ _ _ _ _ _ _ (T106.setTop (mkF m 22 #[.val (.int oo), .val .null, .val (.ref s_ALL), .val (.int (4 : Int32)), .val (.int (2 : Int32)), .val (.ref s_HEADER)] [(.ref s_BODY)]))
  refine Go.by (fun _ kont => XS.astore X106.here hx rfl (hb hby dFN_22) rfl rfl (l' := #[.val (.int oo), .val .null, .val (.ref s_ALL), .val (.int (4 : Int32)), .val (.int (2 : Int32)), .val (.ref s_BODY)]) rfl (XS.aload X106.here hx rfl (hb hby dFN_24) rfl rfl kont)) ?_
  show Go _ _ _ _ _ _ _ (T106.setTop (mkF m 26 #[.val (.int oo), .val .null, .val (.ref s_ALL), .val (.int (4 : Int32)), .val (.int (2 : Int32)), .val (.ref s_BODY)] [(.ref s_BODY)]))
  obtain ⟨T108, X108, e108, st108⟩ := getF X106 hx hZ hown (host := "") (Or.inl (hw _ (List.mem_of_getElem? (i := 7) rfl))) Via.refl e106 F0_s_BODY_octet (g := (mkF m 26 #[.val (.int oo), .val .null, .val (.ref s_ALL), .val (.int (4 : Int32)), .val (.int (2 : Int32)), .val (.ref s_BODY)] [(.ref s_BODY)])) rfl rfl (hb hby dFN_26)
  refine Go.by st108 ?_
  show Go _ _ _ _ _ _ _ (T108.setTop (mkF m 29 #[.val (.int oo), .val .null, .val (.ref s_ALL), .val (.int (4 : Int32)), .val (.int (2 : Int32)), .val (.ref s_BODY)] [(.int (3 : Int32))]))
  refine Go.by (fun _ kont => XS.iloadN X108.here hx rfl (hb hby dFN_29) rfl kont) ?_
  show Go _ _ _ _ _ _ _ (T108.setTop (mkF m 30 #[.val (.int oo), .val .null, .val (.ref s_ALL), .val (.int (4 : Int32)), .val (.int (2 : Int32)), .val (.ref s_BODY)] [(.int oo), (.int (3 : Int32))]))
  refine Go.by (fun _ kont => XS.icmpYes X108.here hx rfl (pc0 := 30) (pc' := 39) rfl (hb hby dFN_30) rfl (feq hr3).2 (by decide) (by decide) kont) ?_
  show Go _ _ _ _ _ _ _ (T108.setTop (mkF m 39 #[.val (.int oo), .val .null, .val (.ref s_ALL), .val (.int (4 : Int32)), .val (.int (2 : Int32)), .val (.ref s_BODY)] []))
  refine Go.by (fun _ kont => XS.iinc X108.here hx rfl (hb hby dFN_39) rfl (l' := #[.val (.int oo), .val .null, .val (.ref s_ALL), .val (.int (4 : Int32)), .val (.int (3 : Int32)), .val (.ref s_BODY)]) rfl (XS.goto X108.here hx rfl (pc0 := 42) (pc' := 12) rfl (hb hby dFN_42) (by decide) (by decide) (XS.iload X108.here hx rfl (hb hby dFN_12) rfl (XS.iloadN X108.here hx rfl (hb hby dFN_14) rfl kont)))) ?_
  show Go _ _ _ _ _ _ _ (T108.setTop (mkF m 15 #[.val (.int oo), .val .null, .val (.ref s_ALL), .val (.int (4 : Int32)), .val (.int (3 : Int32)), .val (.ref s_BODY)] [(.int (4 : Int32)), (.int (3 : Int32))]))
  refine Go.by (fun _ kont => XS.icmpNo X108.here hx rfl (hb hby dFN_15) rfl (by decide) kont) ?_
  show Go _ _ _ _ _ _ _ (T108.setTop (mkF m 18 #[.val (.int oo), .val .null, .val (.ref s_ALL), .val (.int (4 : Int32)), .val (.int (3 : Int32)), .val (.ref s_BODY)] []))
  refine Go.by (fun _ kont => XS.aloadN X108.here hx rfl (hb hby dFN_18) rfl rfl (XS.iload X108.here hx rfl (hb hby dFN_19) rfl kont)) ?_
  show Go _ _ _ _ _ _ _ (T108.setTop (mkF m 21 #[.val (.int oo), .val .null, .val (.ref s_ALL), .val (.int (4 : Int32)), .val (.int (3 : Int32)), .val (.ref s_BODY)] [(.int (3 : Int32)), (.ref s_ALL)]))
  obtain ⟨cl_q109, Ar_q109, q1_q109, S_q109, N_q109, H_q109, G_q109⟩ := id V0_s_ALL
  have hin_q109 : ¬ ((3 : Int32) < 0 ∨ cl_q109.slots.size ≤ ((3 : Int32)).toNatClampNeg) := inb_of S_q109 ⟨by decide, by decide⟩
  have hat_q109 : cl_q109.slots[((3 : Int32)).toNatClampNeg]? = some (.ref s_HEARTBEAT) := Has.at H_q109 hin_q109 rfl
  refine Go.by (X108.aaload hx (j := (3 : Int32)) (v := (.ref s_HEARTBEAT)) (by rw [e108]; exact Ar_q109.1) (State.isArrayOf_alike hZ.alike Ar_q109.2.1) rfl Ar_q109.2.2 hin_q109 hat_q109 (g := (mkF m 21 #[.val (.int oo), .val .null, .val (.ref s_ALL), .val (.int (4 : Int32)), .val (.int (3 : Int32)), .val (.ref s_BODY)] [(.int (3 : Int32)), (.ref s_ALL)])) rfl rfl (hb hby dFN_21)) ?_
  show Go _ _ _ _ _ _ _ (T108.setTop (mkF m 22 #[.val (.int oo), .val .null, .val (.ref s_ALL), .val (.int (4 : Int32)), .val (.int (3 : Int32)), .val (.ref s_BODY)] [(.ref s_HEARTBEAT)]))
  refine Go.by (fun _ kont => XS.astore X108.here hx rfl (hb hby dFN_22) rfl rfl (l' := #[.val (.int oo), .val .null, .val (.ref s_ALL), .val (.int (4 : Int32)), .val (.int (3 : Int32)), .val (.ref s_HEARTBEAT)]) rfl (XS.aload X108.here hx rfl (hb hby dFN_24) rfl rfl kont)) ?_
  show Go _ _ _ _ _ _ _ (T108.setTop (mkF m 26 #[.val (.int oo), .val .null, .val (.ref s_ALL), .val (.int (4 : Int32)), .val (.int (3 : Int32)), .val (.ref s_HEARTBEAT)] [(.ref s_HEARTBEAT)]))
  obtain ⟨T110, X110, e110, st110⟩ := getF X108 hx hZ hown (host := "") (Or.inl (hw _ (List.mem_of_getElem? (i := 7) rfl))) Via.refl e108 F0_s_HEARTBEAT_octet (g := (mkF m 26 #[.val (.int oo), .val .null, .val (.ref s_ALL), .val (.int (4 : Int32)), .val (.int (3 : Int32)), .val (.ref s_HEARTBEAT)] [(.ref s_HEARTBEAT)])) rfl rfl (hb hby dFN_26)
  refine Go.by st110 ?_
  show Go _ _ _ _ _ _ _ (T110.setTop (mkF m 29 #[.val (.int oo), .val .null, .val (.ref s_ALL), .val (.int (4 : Int32)), .val (.int (3 : Int32)), .val (.ref s_HEARTBEAT)] [(.int (8 : Int32))]))
  refine Go.by (fun _ kont => XS.iloadN X110.here hx rfl (hb hby dFN_29) rfl kont) ?_
  show Go _ _ _ _ _ _ _ (T110.setTop (mkF m 30 #[.val (.int oo), .val .null, .val (.ref s_ALL), .val (.int (4 : Int32)), .val (.int (3 : Int32)), .val (.ref s_HEARTBEAT)] [(.int oo), (.int (8 : Int32))]))
  refine Go.by (fun _ kont => XS.icmpYes X110.here hx rfl (pc0 := 30) (pc' := 39) rfl (hb hby dFN_30) rfl (feq hr8).2 (by decide) (by decide) kont) ?_
  show Go _ _ _ _ _ _ _ (T110.setTop (mkF m 39 #[.val (.int oo), .val .null, .val (.ref s_ALL), .val (.int (4 : Int32)), .val (.int (3 : Int32)), .val (.ref s_HEARTBEAT)] []))
  refine Go.by (fun _ kont => XS.iinc X110.here hx rfl (hb hby dFN_39) rfl (l' := #[.val (.int oo), .val .null, .val (.ref s_ALL), .val (.int (4 : Int32)), .val (.int (4 : Int32)), .val (.ref s_HEARTBEAT)]) rfl (XS.goto X110.here hx rfl (pc0 := 42) (pc' := 12) rfl (hb hby dFN_42) (by decide) (by decide) (XS.iload X110.here hx rfl (hb hby dFN_12) rfl (XS.iloadN X110.here hx rfl (hb hby dFN_14) rfl kont)))) ?_
  show Go _ _ _ _ _ _ _ (T110.setTop (mkF m 15 #[.val (.int oo), .val .null, .val (.ref s_ALL), .val (.int (4 : Int32)), .val (.int (4 : Int32)), .val (.ref s_HEARTBEAT)] [(.int (4 : Int32)), (.int (4 : Int32))]))
  refine Go.by (fun _ kont => XS.icmpYes X110.here hx rfl (pc0 := 15) (pc' := 45) rfl (hb hby dFN_15) rfl (by decide) (by decide) (by decide) kont) ?_
  show Go _ _ _ _ _ _ _ (T110.setTop (mkF m 45 #[.val (.int oo), .val .null, .val (.ref s_ALL), .val (.int (4 : Int32)), .val (.int (4 : Int32)), .val (.ref s_HEARTBEAT)] []))
  refine Go.by (fun _ kont => XS.aloadN X110.here hx rfl (hb hby dFN_45) rfl rfl kont) ?_
  show Go _ _ _ _ _ _ _ (T110.setTop (mkF m 46 #[.val (.int oo), .val .null, .val (.ref s_ALL), .val (.int (4 : Int32)), .val (.int (4 : Int32)), .val (.ref s_HEARTBEAT)] [.null]))
  refine Go.retR X110 hx hret rfl rfl hlk (hb hby dFN_46) ?_ (by decide) (by decide)
  show QFN Z oo s_METHOD s_HEADER s_BODY s_HEARTBEAT s_ALL kc_s_ALL h0 n0 (some .null) T110.heap _
  rw [e110]
  exact ⟨rfl, N0, rfl⟩

theorem dXN_0 : decode method_2_code 0 = .ok (.iload_n 0, 1) := by decide +kernel
theorem dXN_1 : decode method_2_code 1 = .ok (.iconst 1, 1) := by decide +kernel
theorem dXN_2 : decode method_2_code 2 = .ok (.if_icmp .ne 7, 3) := by decide +kernel
theorem dXN_9 : decode method_2_code 9 = .ok (.iload_n 0, 1) := by decide +kernel
theorem dXN_10 : decode method_2_code 10 = .ok (.iconst 2, 1) := by decide +kernel
theorem dXN_11 : decode method_2_code 11 = .ok (.if_icmp .ne 7, 3) := by decide +kernel
theorem dXN_18 : decode method_2_code 18 = .ok (.iload_n 0, 1) := by decide +kernel
theorem dXN_19 : decode method_2_code 19 = .ok (.iconst 3, 1) := by decide +kernel
theorem dXN_20 : decode method_2_code 20 = .ok (.if_icmp .ne 7, 3) := by decide +kernel
theorem dXN_27 : decode method_2_code 27 = .ok (.iload_n 0, 1) := by decide +kernel
theorem dXN_28 : decode method_2_code 28 = .ok (.bipush 8, 2) := by decide +kernel
theorem dXN_30 : decode method_2_code 30 = .ok (.if_icmp .ne 7, 3) := by decide +kernel
theorem dXN_37 : decode method_2_code 37 = .ok (.aconst_null, 1) := by decide +kernel
theorem dXN_38 : decode method_2_code 38 = .ok (.areturn, 1) := by decide +kernel
theorem pnXN : plainName "com/example/kyu/kyu/wire/FrameTypeFromOctetPinLaw" = true := by first | (simp [plainName, overriddenIn]; done) | decide +kernel
theorem efXN (m : MethodId) (oo : Int32) : entryFrame m #[(.int oo)] 1 = mkF m 0 #[.val (.int oo)] [] := by first | (simp [entryFrame, mkF, argsToLocals, Value.category]; done) | rfl
def QXN (Z : State) (oo : Int32) (s_METHOD : Addr) (s_HEADER : Addr) (s_BODY : Addr) (s_HEARTBEAT : Addr) (s_ALL : Addr) (kc_s_ALL : ClassId) (h0 : Heap) (n0 : Nat) (v : Option Value) (h : Heap) (L : List Loc) : Prop := (v = some .null ∧ Fr n0 L ∧ h = h0)
set_option maxRecDepth 65536 in
set_option maxHeartbeats 40000000 in
theorem rmXN (l : Launch) (Z : State) (a0 : Array Value) (hw : ∀ d ∈ tables_1, d.before a0 Z = true) (ws : List Jvm.Cond) (oo : Int32) (s_METHOD : Addr) (s_HEADER : Addr) (s_BODY : Addr) (s_HEARTBEAT : Addr) (s_ALL : Addr) (kc_s_ALL : ClassId) (h0 : Heap) (n0 : Nat) (Z0 : n0 ≤ h0.size) (E0_s_METHOD : Exa Z h0 s_METHOD "com/example/kyu/kyu/wire/FrameType") (F0_s_METHOD_octet : Fld Z h0 s_METHOD "com/example/kyu/kyu/wire/FrameType" "octet" "I" (.int (1 : Int32))) (E0_s_HEADER : Exa Z h0 s_HEADER "com/example/kyu/kyu/wire/FrameType") (F0_s_HEADER_octet : Fld Z h0 s_HEADER "com/example/kyu/kyu/wire/FrameType" "octet" "I" (.int (2 : Int32))) (E0_s_BODY : Exa Z h0 s_BODY "com/example/kyu/kyu/wire/FrameType") (F0_s_BODY_octet : Fld Z h0 s_BODY "com/example/kyu/kyu/wire/FrameType" "octet" "I" (.int (3 : Int32))) (E0_s_HEARTBEAT : Exa Z h0 s_HEARTBEAT "com/example/kyu/kyu/wire/FrameType") (F0_s_HEARTBEAT_octet : Fld Z h0 s_HEARTBEAT "com/example/kyu/kyu/wire/FrameType" "octet" "I" (.int (8 : Int32))) (V0_s_ALL : Arv Z h0 s_ALL kc_s_ALL (.object "com/example/kyu/kyu/wire/FrameType") (4 : Int32) [(.ref s_METHOD), (.ref s_HEADER), (.ref s_BODY), (.ref s_HEARTBEAT)] .null) (S0_ALL : Sta Z h0 "com/example/kyu/kyu/wire/FrameType" "ALL" "[Lcom/example/kyu/kyu/wire/FrameType;" (.ref s_ALL)) (S0_METHOD : Sta Z h0 "com/example/kyu/kyu/wire/FrameType" "METHOD" "Lcom/example/kyu/kyu/wire/FrameType;" (.ref s_METHOD)) (S0_HEADER : Sta Z h0 "com/example/kyu/kyu/wire/FrameType" "HEADER" "Lcom/example/kyu/kyu/wire/FrameType;" (.ref s_HEADER)) (S0_BODY : Sta Z h0 "com/example/kyu/kyu/wire/FrameType" "BODY" "Lcom/example/kyu/kyu/wire/FrameType;" (.ref s_BODY)) (S0_HEARTBEAT : Sta Z h0 "com/example/kyu/kyu/wire/FrameType" "HEARTBEAT" "Lcom/example/kyu/kyu/wire/FrameType;" (.ref s_HEARTBEAT)) (hq1 : ¬ (oo = (1 : Int32))) (hq2 : ¬ (oo = (2 : Int32))) (hq3 : ¬ (oo = (3 : Int32))) (hq8 : ¬ (oo = (8 : Int32))) (hr1 : ¬ ((1 : Int32) = oo)) (hr2 : ¬ ((2 : Int32) = oo)) (hr3 : ¬ ((3 : Int32) = oo)) (hr8 : ¬ ((8 : Int32) = oo)) :
    MetFree l (⟨"com/example/kyu/kyu/wire/FrameTypeFromOctetPinLaw", "expected", "(I)Lcom/example/kyu/kyu/wire/FrameType;"⟩ : MethodName) (head1 (Jvm.Cond.code (⟨"com/example/kyu/kyu/wire/FrameTypeFromOctetPinLaw", "expected", "(I)Lcom/example/kyu/kyu/wire/FrameType;"⟩ : MethodName) method_2_code 1 (some (.object "com/example/kyu/kyu/wire/FrameType")) :: ws) ({ frames := 0, cells := 0, slots := 0, locals := 0 } : Room)) (fun aa U => aa = #[(.int oo)] ∧ Z.Warmed39 U.vm ∧ U.heap = h0) (fun _ _ _ _ _ => True) (fun _ U o U' => ∃ v L, o = .returned v ∧ QXN Z oo s_METHOD s_HEADER s_BODY s_HEARTBEAT s_ALL kc_s_ALL h0 n0 v U'.heap L ∧ FrameEnd U o U' L ({ frames := 0, cells := 0, slots := 0, locals := 0 } : Room).cells ({ frames := 0, cells := 0, slots := 0, locals := 0 } : Room).slots) := by
  refine MetFree.of_bodySF (plainFor_of_name pnXN) hisR ?_
  intro p e s m args below meth c s₁ Bd hml0 hP hK
  obtain ⟨rfl, hZ, hh⟩ := hP
  have hx := Bd.exec
  have hby := Bd.bytes
  have hml : c.maxLocals = 1 := hml0
  have hown : s.vm.findClass "com/example/kyu/kyu/wire/FrameTypeFromOctetPinLaw" = some m.cls := findClass_of_methodNamed Bd.named
  have hnm := (name_of_methodNamed Bd.named Bd.method).1
  have hlk : meth.locks = false := BodyLoose.notSynchronized Bd
  have hret : meth.sig.returnType = (some (.object "com/example/kyu/kyu/wire/FrameType")) := Bd.returns
  have X0 : Stand p l e ({ frames := 0, cells := 0, slots := 0, locals := 0 } : Room) s m #[(.int oo)] below meth c s₁ [] 0 0 := Stand.of_body Bd
  have e0 : s₁.heap = h0 := by rw [← hh, Bd.state]; rfl
  have N0 := Fr.nil n0
  show Go p e below s ({ frames := 0, cells := 0, slots := 0, locals := 0 } : Room).cells ({ frames := 0, cells := 0, slots := 0, locals := 0 } : Room).slots (QXN Z oo s_METHOD s_HEADER s_BODY s_HEARTBEAT s_ALL kc_s_ALL h0 n0) (s₁.setTop (entryFrame m #[(.int oo)] 1))
  rw [efXN]
  refine Go.by (fun _ kont => XS.iloadN X0.here hx rfl (hb hby dXN_0) rfl (XS.iconst X0.here hx rfl (hb hby dXN_1) kont)) ?_
  show Go _ _ _ _ _ _ _ (s₁.setTop (mkF m 2 #[.val (.int oo)] [(.int (1 : Int32)), (.int oo)]))
  refine Go.by (fun _ kont => XS.icmpYes X0.here hx rfl (pc0 := 2) (pc' := 9) rfl (hb hby dXN_2) rfl (feq hq1).2 (by decide) (by decide) kont) ?_
  show Go _ _ _ _ _ _ _ (s₁.setTop (mkF m 9 #[.val (.int oo)] []))
  refine Go.by (fun _ kont => XS.iloadN X0.here hx rfl (hb hby dXN_9) rfl (XS.iconst X0.here hx rfl (hb hby dXN_10) kont)) ?_
  show Go _ _ _ _ _ _ _ (s₁.setTop (mkF m 11 #[.val (.int oo)] [(.int (2 : Int32)), (.int oo)]))
  refine Go.by (fun _ kont => XS.icmpYes X0.here hx rfl (pc0 := 11) (pc' := 18) rfl (hb hby dXN_11) rfl (feq hq2).2 (by decide) (by decide) kont) ?_
  show Go _ _ _ _ _ _ _ (s₁.setTop (mkF m 18 #[.val (.int oo)] []))
  refine Go.by (fun _ kont => XS.iloadN X0.here hx rfl (hb hby dXN_18) rfl (XS.iconst X0.here hx rfl (hb hby dXN_19) kont)) ?_
  show Go _ _ _ _ _ _ _ (s₁.setTop (mkF m 20 #[.val (.int oo)] [(.int (3 : Int32)), (.int oo)]))
  refine Go.by (fun _ kont => XS.icmpYes X0.here hx rfl (pc0 := 20) (pc' := 27) rfl (hb hby dXN_20) rfl (feq hq3).2 (by decide) (by decide) kont) ?_
  show Go _ _ _ _ _ _ _ (s₁.setTop (mkF m 27 #[.val (.int oo)] []))
  refine Go.by (fun _ kont => XS.iloadN X0.here hx rfl (hb hby dXN_27) rfl (XS.bipush X0.here hx rfl (hb hby dXN_28) kont)) ?_
  show Go _ _ _ _ _ _ _ (s₁.setTop (mkF m 30 #[.val (.int oo)] [(.int (8 : Int32)), (.int oo)]))
  refine Go.by (fun _ kont => XS.icmpYes X0.here hx rfl (pc0 := 30) (pc' := 37) rfl (hb hby dXN_30) rfl (feq hq8).2 (by decide) (by decide) kont) ?_
  show Go _ _ _ _ _ _ _ (s₁.setTop (mkF m 37 #[.val (.int oo)] []))
  refine Go.by (fun _ kont => XS.aconstNull X0.here hx rfl (hb hby dXN_37) kont) ?_
  show Go _ _ _ _ _ _ _ (s₁.setTop (mkF m 38 #[.val (.int oo)] [.null]))
  refine Go.retR X0 hx hret rfl rfl hlk (hb hby dXN_38) ?_ (by decide) (by decide)
  show QXN Z oo s_METHOD s_HEADER s_BODY s_HEARTBEAT s_ALL kc_s_ALL h0 n0 (some .null) s₁.heap _
  rw [e0]
  exact ⟨rfl, N0, rfl⟩

theorem pd0_0 : parseMethodDescriptor "(I)Lcom/example/kyu/kyu/wire/FrameType;" = some ⟨[.int], some (.object "com/example/kyu/kyu/wire/FrameType")⟩ := by decide +kernel
theorem pn0 : plainName "com/example/kyu/kyu/wire/FrameTypeFromOctetPinLaw" = true := by first | (simp [plainName, overriddenIn]; done) | decide +kernel
theorem ef0 (m : MethodId) (x0 : Int32) (sel : Int32) : entryFrame m #[(.int x0), (.int sel)] maxLocals = mkF m 0 #[.val (.int x0), .val (.int sel), .unset, .unset, .unset, .unset] [] := by first | (simp [entryFrame, mkF, argsToLocals, Value.category, maxLocals]; done) | rfl
def Q0 (Z : State) (h0 : Heap) (n0 : Nat) (v : Option Value) (h : Heap) (L : List Loc) : Prop := v = some (.int 1) ∧ Fr n0 L
set_option maxRecDepth 65536 in
set_option maxHeartbeats 40000000 in
theorem rm0 (l : Launch) (Z : State) (a0 : Array Value) (hw : ∀ d ∈ tables_1, d.before a0 Z = true) (ws : List Jvm.Cond) (x0 : Int32) (sel : Int32) (s_ALL : Addr) (s_METHOD : Addr) (s_HEADER : Addr) (s_BODY : Addr) (s_HEARTBEAT : Addr) (kc_s_ALL : ClassId) (h0 : Heap) (n0 : Nat) (Z0 : n0 ≤ h0.size) (S_ALL : Sta Z h0 "com/example/kyu/kyu/wire/FrameType" "ALL" "[Lcom/example/kyu/kyu/wire/FrameType;" (.ref s_ALL)) (S_METHOD : Sta Z h0 "com/example/kyu/kyu/wire/FrameType" "METHOD" "Lcom/example/kyu/kyu/wire/FrameType;" (.ref s_METHOD)) (S_HEADER : Sta Z h0 "com/example/kyu/kyu/wire/FrameType" "HEADER" "Lcom/example/kyu/kyu/wire/FrameType;" (.ref s_HEADER)) (S_BODY : Sta Z h0 "com/example/kyu/kyu/wire/FrameType" "BODY" "Lcom/example/kyu/kyu/wire/FrameType;" (.ref s_BODY)) (S_HEARTBEAT : Sta Z h0 "com/example/kyu/kyu/wire/FrameType" "HEARTBEAT" "Lcom/example/kyu/kyu/wire/FrameType;" (.ref s_HEARTBEAT)) (E_s_METHOD : Exa Z h0 s_METHOD "com/example/kyu/kyu/wire/FrameType") (E_s_HEADER : Exa Z h0 s_HEADER "com/example/kyu/kyu/wire/FrameType") (E_s_BODY : Exa Z h0 s_BODY "com/example/kyu/kyu/wire/FrameType") (E_s_HEARTBEAT : Exa Z h0 s_HEARTBEAT "com/example/kyu/kyu/wire/FrameType") (F_s_METHOD_octet : Fld Z h0 s_METHOD "com/example/kyu/kyu/wire/FrameType" "octet" "I" (.int (1 : Int32))) (F_s_HEADER_octet : Fld Z h0 s_HEADER "com/example/kyu/kyu/wire/FrameType" "octet" "I" (.int (2 : Int32))) (F_s_BODY_octet : Fld Z h0 s_BODY "com/example/kyu/kyu/wire/FrameType" "octet" "I" (.int (3 : Int32))) (F_s_HEARTBEAT_octet : Fld Z h0 s_HEARTBEAT "com/example/kyu/kyu/wire/FrameType" "octet" "I" (.int (8 : Int32))) (V_s_ALL : Arv Z h0 s_ALL kc_s_ALL (.object "com/example/kyu/kyu/wire/FrameType") (4 : Int32) [(.ref s_METHOD), (.ref s_HEADER), (.ref s_BODY), (.ref s_HEARTBEAT)] .null) :
    MetFree l x (head1 (Jvm.Cond.code x code maxLocals ret :: ws) room_1) (fun aa U => aa = #[(.int x0), (.int sel)] ∧ Z.Warmed39 U.vm ∧ U.heap = h0) (fun _ _ _ _ _ => True) (fun _ U o U' => ∃ v L, o = .returned v ∧ Q0 Z h0 n0 v U'.heap L ∧ FrameEnd U o U' L 0 0) := by
  refine MetFree.of_bodySF (plainFor_of_name pn0) hisR ?_
  intro p e s m args below meth c s₁ Bd hml0 hP hK
  obtain ⟨rfl, hZ, hh⟩ := hP
  have hx := Bd.exec
  have hby := Bd.bytes
  have hml : c.maxLocals = 6 := hml0
  have hown : s.vm.findClass "com/example/kyu/kyu/wire/FrameTypeFromOctetPinLaw" = some m.cls := findClass_of_methodNamed Bd.named
  have hnm := (name_of_methodNamed Bd.named Bd.method).1
  have hlk : meth.locks = false := BodyLoose.notSynchronized Bd
  have hret : meth.sig.returnType = (some .boolean) := Bd.returns
  have X0 : Stand p l e room_1 s m #[(.int x0), (.int sel)] below meth c s₁ [] 0 0 := Stand.of_body Bd
  have e0 : s₁.heap = h0 := by rw [← hh, Bd.state]; rfl
  have N0 := Fr.nil n0
  show Go p e below s 0 0 (Q0 Z h0 n0) (s₁.setTop (entryFrame m #[(.int x0), (.int sel)] maxLocals))
  rw [ef0]
  refine Go.by (fun _ kont => XS.iloadN X0.here hx rfl (hb hby at_0) rfl (XS.iconst X0.here hx rfl (hb hby at_1) (XS.iand X0.here hx rfl (hb hby at_2) rfl kont))) ?_
  show Go _ _ _ _ _ _ _ (s₁.setTop (mkF m 3 #[.val (.int x0), .val (.int sel), .unset, .unset, .unset, .unset] [(.int (sel &&& (1 : Int32)))]))
  by_cases hc101 : (sel &&& (1 : Int32)) = (0 : Int32)
  · refine Go.by (fun _ kont => XS.ifYes X0.here hx rfl (pc0 := 3) (pc' := 10) rfl (hb hby at_3) rfl ((if0 _ _).trans (teq hc101).1) (by decide) (by decide) kont) ?_
    show Go _ _ _ _ _ _ _ (s₁.setTop (mkF m 10 #[.val (.int x0), .val (.int sel), .unset, .unset, .unset, .unset] []))
    refine Go.by (fun _ kont => XS.iconst X0.here hx rfl (hb hby at_10) (XS.istoreN X0.here hx rfl (hb hby at_11) rfl (l' := #[.val (.int x0), .val (.int sel), .val (.int (0 : Int32)), .unset, .unset, .unset]) rfl (XS.iloadN X0.here hx rfl (hb hby at_12) rfl kont))) ?_
    show Go _ _ _ _ _ _ _ (s₁.setTop (mkF m 13 #[.val (.int x0), .val (.int sel), .val (.int (0 : Int32)), .unset, .unset, .unset] [(.int (0 : Int32))]))
    refine Go.by (fun _ kont => XS.ifYes X0.here hx rfl (pc0 := 13) (pc' := 25) rfl (hb hby at_13) rfl (by decide) (by decide) (by decide) kont) ?_
    show Go _ _ _ _ _ _ _ (s₁.setTop (mkF m 25 #[.val (.int x0), .val (.int sel), .val (.int (0 : Int32)), .unset, .unset, .unset] []))
    refine Go.by (fun _ kont => XS.iloadN X0.here hx rfl (hb hby at_25) rfl (XS.istoreN X0.here hx rfl (hb hby at_26) rfl (l' := #[.val (.int x0), .val (.int sel), .val (.int (0 : Int32)), .val (.int x0), .unset, .unset]) rfl kont)) ?_
    show Go _ _ _ _ _ _ _ (s₁.setTop (mkF m 27 #[.val (.int x0), .val (.int sel), .val (.int (0 : Int32)), .val (.int x0), .unset, .unset] []))
    by_cases hq1 : x0 = (1 : Int32)
    · subst hq1
      show Go _ _ _ _ _ _ _ (s₁.setTop (mkF m 27 #[.val (.int (1 : Int32)), .val (.int sel), .val (.int (0 : Int32)), .val (.int (1 : Int32)), .unset, .unset] []))
      refine Go.by (fun _ kont => XS.iloadN X0.here hx rfl (hb hby at_27) rfl kont) ?_
      show Go _ _ _ _ _ _ _ (s₁.setTop (mkF m 28 #[.val (.int (1 : Int32)), .val (.int sel), .val (.int (0 : Int32)), .val (.int (1 : Int32)), .unset, .unset] [(.int (1 : Int32))]))
      obtain ⟨_, _, ⟨T102, L102, k102, n102⟩, -, X102, ⟨Lc102, hQ102, l102, y102, z102⟩, st102⟩ := Jvm.LawKit.callS X0 hx (y := (⟨"com/example/kyu/kyu/wire/FrameType", "fromOctet", "(I)Lcom/example/kyu/kyu/wire/FrameType;"⟩ : MethodName)) hown (mvT hZ (hw _ (List.mem_of_getElem? (i := 0) rfl))) (mvT hZ (hw _ (List.mem_of_getElem? (i := 1) rfl))) (mvT hZ (hw _ (List.mem_of_getElem? (i := 2) rfl))) (mvT hZ (hw _ (List.mem_of_getElem? (i := 3) rfl))) (by decide) (backOf (W := 0) (rmF1 l Z a0 hw [] s_METHOD s_HEADER s_BODY s_HEARTBEAT s_ALL kc_s_ALL h0 n0 Z0 E_s_METHOD F_s_METHOD_octet E_s_HEADER F_s_HEADER_octet E_s_BODY F_s_BODY_octet E_s_HEARTBEAT F_s_HEARTBEAT_octet V_s_ALL S_ALL S_METHOD S_HEADER S_BODY S_HEARTBEAT) hZ (hw _ (List.mem_of_getElem? (i := 3) rfl)) (hw _ (List.mem_of_getElem? (i := 2) rfl)) (by decide) (by decide)) (g := (mkF m 28 #[.val (.int (1 : Int32)), .val (.int sel), .val (.int (0 : Int32)), .val (.int (1 : Int32)), .unset, .unset] [(.int (1 : Int32))])) rfl (by rw [hml]; rfl) (argsL := [(.int (1 : Int32))]) (rest := []) (lenOf pd0_0 rfl) rfl (by show 2 * 0 + _ ≤ _; exact Nat.le_of_eq rfl) (hb hby at_28) (fun _ _ => ⟨rfl, e0, (by decide : 0 + 0 ≤ _), (by decide : 0 + 0 ≤ _)⟩)
      dsimp only [Pt.U, Pt.locs, Pt.cells, Pt.slots] at X102 l102 y102 z102 st102 hQ102
      subst l102 y102 z102
      obtain ⟨rfl, N102q, eh102⟩ := hQ102
      have N102 := Fr.app N0 N102q
      refine Go.by st102 ?_
      show Go _ _ _ _ _ _ _ (T102.setTop (mkF m 31 #[.val (.int (1 : Int32)), .val (.int sel), .val (.int (0 : Int32)), .val (.int (1 : Int32)), .unset, .unset] [(.ref s_METHOD)]))
      refine Go.by (fun _ kont => XS.astore X102.here hx rfl (hb hby at_31) rfl rfl (l' := #[.val (.int (1 : Int32)), .val (.int sel), .val (.int (0 : Int32)), .val (.int (1 : Int32)), .val (.ref s_METHOD), .unset]) rfl (XS.iloadN X102.here hx rfl (hb hby at_33) rfl kont)) ?_
      show Go _ _ _ _ _ _ _ (T102.setTop (mkF m 34 #[.val (.int (1 : Int32)), .val (.int sel), .val (.int (0 : Int32)), .val (.int (1 : Int32)), .val (.ref s_METHOD), .unset] [(.int (1 : Int32))]))
      obtain ⟨_, _, ⟨T103, L103, k103, n103⟩, -, X103, ⟨Lc103, hQ103, l103, y103, z103⟩, st103⟩ := Jvm.LawKit.callS X102 hx (y := (⟨"com/example/kyu/kyu/wire/FrameTypeFromOctetPinLaw", "expected", "(I)Lcom/example/kyu/kyu/wire/FrameType;"⟩ : MethodName)) hown (mvT hZ (hw _ (List.mem_of_getElem? (i := 12) rfl))) (mvT hZ (hw _ (List.mem_of_getElem? (i := 13) rfl))) (mvT hZ (hw _ (List.mem_of_getElem? (i := 14) rfl))) (mvT hZ (hw _ (List.mem_of_getElem? (i := 15) rfl))) (by decide) (backOf (W := 0) (rmX1 l Z a0 hw [] s_METHOD s_HEADER s_BODY s_HEARTBEAT s_ALL kc_s_ALL h0 n0 Z0 E_s_METHOD F_s_METHOD_octet E_s_HEADER F_s_HEADER_octet E_s_BODY F_s_BODY_octet E_s_HEARTBEAT F_s_HEARTBEAT_octet V_s_ALL S_ALL S_METHOD S_HEADER S_BODY S_HEARTBEAT) hZ (hw _ (List.mem_of_getElem? (i := 15) rfl)) (hw _ (List.mem_of_getElem? (i := 14) rfl)) (by decide) (by decide)) (g := (mkF m 34 #[.val (.int (1 : Int32)), .val (.int sel), .val (.int (0 : Int32)), .val (.int (1 : Int32)), .val (.ref s_METHOD), .unset] [(.int (1 : Int32))])) rfl (by rw [hml]; rfl) (argsL := [(.int (1 : Int32))]) (rest := []) (lenOf pd0_0 rfl) rfl (by show 2 * 0 + _ ≤ _; exact Nat.le_of_eq rfl) (hb hby at_34) (fun _ _ => ⟨rfl, eh102, (by decide : 0 + 0 ≤ _), (by decide : 0 + 0 ≤ _)⟩)
      dsimp only [Pt.U, Pt.locs, Pt.cells, Pt.slots] at X103 l103 y103 z103 st103 hQ103
      subst l103 y103 z103
      obtain ⟨rfl, N103q, eh103⟩ := hQ103
      have N103 := Fr.app N102 N103q
      refine Go.by st103 ?_
      show Go _ _ _ _ _ _ _ (T103.setTop (mkF m 37 #[.val (.int (1 : Int32)), .val (.int sel), .val (.int (0 : Int32)), .val (.int (1 : Int32)), .val (.ref s_METHOD), .unset] [(.ref s_METHOD)]))
      refine Go.by (fun _ kont => XS.astore X103.here hx rfl (hb hby at_37) rfl rfl (l' := #[.val (.int (1 : Int32)), .val (.int sel), .val (.int (0 : Int32)), .val (.int (1 : Int32)), .val (.ref s_METHOD), .val (.ref s_METHOD)]) rfl (XS.aload X103.here hx rfl (hb hby at_39) rfl rfl (XS.aload X103.here hx rfl (hb hby at_41) rfl rfl kont))) ?_
      show Go _ _ _ _ _ _ _ (T103.setTop (mkF m 43 #[.val (.int (1 : Int32)), .val (.int sel), .val (.int (0 : Int32)), .val (.int (1 : Int32)), .val (.ref s_METHOD), .val (.ref s_METHOD)] [(.ref s_METHOD), (.ref s_METHOD)]))
      refine Go.by (fun _ kont => Jvm.RoadKit.acmp (g := (mkF m 43 #[.val (.int (1 : Int32)), .val (.int sel), .val (.int (0 : Int32)), .val (.int (1 : Int32)), .val (.ref s_METHOD), .val (.ref s_METHOD)] [(.ref s_METHOD), (.ref s_METHOD)])) X103 hx rfl rfl rfl (pc0 := 43) (pc' := 46) (same := true) rfl (hb hby at_43) rfl (decide_eq_true rfl) (by decide) (by decide) kont) ?_
      show Go _ _ _ _ _ _ _ (T103.setTop (mkF m 46 #[.val (.int (1 : Int32)), .val (.int sel), .val (.int (0 : Int32)), .val (.int (1 : Int32)), .val (.ref s_METHOD), .val (.ref s_METHOD)] []))
      refine Go.by (fun _ kont => XS.iconst X103.here hx rfl (hb hby at_46) (XS.goto X103.here hx rfl (pc0 := 47) (pc' := 51) rfl (hb hby at_47) (by decide) (by decide) kont)) ?_
      show Go _ _ _ _ _ _ _ (T103.setTop (mkF m 51 #[.val (.int (1 : Int32)), .val (.int sel), .val (.int (0 : Int32)), .val (.int (1 : Int32)), .val (.ref s_METHOD), .val (.ref s_METHOD)] [(.int (1 : Int32))]))
      refine Go.retN X103 hx (t := .boolean) hret (by simp) hlk (hb hby at_51) ?_ (by decide) (by decide)
      show Q0 Z h0 n0 (some (.int (1 : Int32))) T103.heap _
      rw [eh103]
      exact ⟨rfl, N103⟩
    · by_cases hq2 : x0 = (2 : Int32)
      · subst hq2
        show Go _ _ _ _ _ _ _ (s₁.setTop (mkF m 27 #[.val (.int (2 : Int32)), .val (.int sel), .val (.int (0 : Int32)), .val (.int (2 : Int32)), .unset, .unset] []))
        refine Go.by (fun _ kont => XS.iloadN X0.here hx rfl (hb hby at_27) rfl kont) ?_
        show Go _ _ _ _ _ _ _ (s₁.setTop (mkF m 28 #[.val (.int (2 : Int32)), .val (.int sel), .val (.int (0 : Int32)), .val (.int (2 : Int32)), .unset, .unset] [(.int (2 : Int32))]))
        obtain ⟨_, _, ⟨T104, L104, k104, n104⟩, -, X104, ⟨Lc104, hQ104, l104, y104, z104⟩, st104⟩ := Jvm.LawKit.callS X0 hx (y := (⟨"com/example/kyu/kyu/wire/FrameType", "fromOctet", "(I)Lcom/example/kyu/kyu/wire/FrameType;"⟩ : MethodName)) hown (mvT hZ (hw _ (List.mem_of_getElem? (i := 0) rfl))) (mvT hZ (hw _ (List.mem_of_getElem? (i := 1) rfl))) (mvT hZ (hw _ (List.mem_of_getElem? (i := 2) rfl))) (mvT hZ (hw _ (List.mem_of_getElem? (i := 3) rfl))) (by decide) (backOf (W := 0) (rmF2 l Z a0 hw [] s_METHOD s_HEADER s_BODY s_HEARTBEAT s_ALL kc_s_ALL h0 n0 Z0 E_s_METHOD F_s_METHOD_octet E_s_HEADER F_s_HEADER_octet E_s_BODY F_s_BODY_octet E_s_HEARTBEAT F_s_HEARTBEAT_octet V_s_ALL S_ALL S_METHOD S_HEADER S_BODY S_HEARTBEAT) hZ (hw _ (List.mem_of_getElem? (i := 3) rfl)) (hw _ (List.mem_of_getElem? (i := 2) rfl)) (by decide) (by decide)) (g := (mkF m 28 #[.val (.int (2 : Int32)), .val (.int sel), .val (.int (0 : Int32)), .val (.int (2 : Int32)), .unset, .unset] [(.int (2 : Int32))])) rfl (by rw [hml]; rfl) (argsL := [(.int (2 : Int32))]) (rest := []) (lenOf pd0_0 rfl) rfl (by show 2 * 0 + _ ≤ _; exact Nat.le_of_eq rfl) (hb hby at_28) (fun _ _ => ⟨rfl, e0, (by decide : 0 + 0 ≤ _), (by decide : 0 + 0 ≤ _)⟩)
        dsimp only [Pt.U, Pt.locs, Pt.cells, Pt.slots] at X104 l104 y104 z104 st104 hQ104
        subst l104 y104 z104
        obtain ⟨rfl, N104q, eh104⟩ := hQ104
        have N104 := Fr.app N0 N104q
        refine Go.by st104 ?_
        show Go _ _ _ _ _ _ _ (T104.setTop (mkF m 31 #[.val (.int (2 : Int32)), .val (.int sel), .val (.int (0 : Int32)), .val (.int (2 : Int32)), .unset, .unset] [(.ref s_HEADER)]))
        refine Go.by (fun _ kont => XS.astore X104.here hx rfl (hb hby at_31) rfl rfl (l' := #[.val (.int (2 : Int32)), .val (.int sel), .val (.int (0 : Int32)), .val (.int (2 : Int32)), .val (.ref s_HEADER), .unset]) rfl (XS.iloadN X104.here hx rfl (hb hby at_33) rfl kont)) ?_
        show Go _ _ _ _ _ _ _ (T104.setTop (mkF m 34 #[.val (.int (2 : Int32)), .val (.int sel), .val (.int (0 : Int32)), .val (.int (2 : Int32)), .val (.ref s_HEADER), .unset] [(.int (2 : Int32))]))
        obtain ⟨_, _, ⟨T105, L105, k105, n105⟩, -, X105, ⟨Lc105, hQ105, l105, y105, z105⟩, st105⟩ := Jvm.LawKit.callS X104 hx (y := (⟨"com/example/kyu/kyu/wire/FrameTypeFromOctetPinLaw", "expected", "(I)Lcom/example/kyu/kyu/wire/FrameType;"⟩ : MethodName)) hown (mvT hZ (hw _ (List.mem_of_getElem? (i := 12) rfl))) (mvT hZ (hw _ (List.mem_of_getElem? (i := 13) rfl))) (mvT hZ (hw _ (List.mem_of_getElem? (i := 14) rfl))) (mvT hZ (hw _ (List.mem_of_getElem? (i := 15) rfl))) (by decide) (backOf (W := 0) (rmX2 l Z a0 hw [] s_METHOD s_HEADER s_BODY s_HEARTBEAT s_ALL kc_s_ALL h0 n0 Z0 E_s_METHOD F_s_METHOD_octet E_s_HEADER F_s_HEADER_octet E_s_BODY F_s_BODY_octet E_s_HEARTBEAT F_s_HEARTBEAT_octet V_s_ALL S_ALL S_METHOD S_HEADER S_BODY S_HEARTBEAT) hZ (hw _ (List.mem_of_getElem? (i := 15) rfl)) (hw _ (List.mem_of_getElem? (i := 14) rfl)) (by decide) (by decide)) (g := (mkF m 34 #[.val (.int (2 : Int32)), .val (.int sel), .val (.int (0 : Int32)), .val (.int (2 : Int32)), .val (.ref s_HEADER), .unset] [(.int (2 : Int32))])) rfl (by rw [hml]; rfl) (argsL := [(.int (2 : Int32))]) (rest := []) (lenOf pd0_0 rfl) rfl (by show 2 * 0 + _ ≤ _; exact Nat.le_of_eq rfl) (hb hby at_34) (fun _ _ => ⟨rfl, eh104, (by decide : 0 + 0 ≤ _), (by decide : 0 + 0 ≤ _)⟩)
        dsimp only [Pt.U, Pt.locs, Pt.cells, Pt.slots] at X105 l105 y105 z105 st105 hQ105
        subst l105 y105 z105
        obtain ⟨rfl, N105q, eh105⟩ := hQ105
        have N105 := Fr.app N104 N105q
        refine Go.by st105 ?_
        show Go _ _ _ _ _ _ _ (T105.setTop (mkF m 37 #[.val (.int (2 : Int32)), .val (.int sel), .val (.int (0 : Int32)), .val (.int (2 : Int32)), .val (.ref s_HEADER), .unset] [(.ref s_HEADER)]))
        refine Go.by (fun _ kont => XS.astore X105.here hx rfl (hb hby at_37) rfl rfl (l' := #[.val (.int (2 : Int32)), .val (.int sel), .val (.int (0 : Int32)), .val (.int (2 : Int32)), .val (.ref s_HEADER), .val (.ref s_HEADER)]) rfl (XS.aload X105.here hx rfl (hb hby at_39) rfl rfl (XS.aload X105.here hx rfl (hb hby at_41) rfl rfl kont))) ?_
        show Go _ _ _ _ _ _ _ (T105.setTop (mkF m 43 #[.val (.int (2 : Int32)), .val (.int sel), .val (.int (0 : Int32)), .val (.int (2 : Int32)), .val (.ref s_HEADER), .val (.ref s_HEADER)] [(.ref s_HEADER), (.ref s_HEADER)]))
        refine Go.by (fun _ kont => Jvm.RoadKit.acmp (g := (mkF m 43 #[.val (.int (2 : Int32)), .val (.int sel), .val (.int (0 : Int32)), .val (.int (2 : Int32)), .val (.ref s_HEADER), .val (.ref s_HEADER)] [(.ref s_HEADER), (.ref s_HEADER)])) X105 hx rfl rfl rfl (pc0 := 43) (pc' := 46) (same := true) rfl (hb hby at_43) rfl (decide_eq_true rfl) (by decide) (by decide) kont) ?_
        show Go _ _ _ _ _ _ _ (T105.setTop (mkF m 46 #[.val (.int (2 : Int32)), .val (.int sel), .val (.int (0 : Int32)), .val (.int (2 : Int32)), .val (.ref s_HEADER), .val (.ref s_HEADER)] []))
        refine Go.by (fun _ kont => XS.iconst X105.here hx rfl (hb hby at_46) (XS.goto X105.here hx rfl (pc0 := 47) (pc' := 51) rfl (hb hby at_47) (by decide) (by decide) kont)) ?_
        show Go _ _ _ _ _ _ _ (T105.setTop (mkF m 51 #[.val (.int (2 : Int32)), .val (.int sel), .val (.int (0 : Int32)), .val (.int (2 : Int32)), .val (.ref s_HEADER), .val (.ref s_HEADER)] [(.int (1 : Int32))]))
        refine Go.retN X105 hx (t := .boolean) hret (by simp) hlk (hb hby at_51) ?_ (by decide) (by decide)
        show Q0 Z h0 n0 (some (.int (1 : Int32))) T105.heap _
        rw [eh105]
        exact ⟨rfl, N105⟩
      · by_cases hq3 : x0 = (3 : Int32)
        · subst hq3
          show Go _ _ _ _ _ _ _ (s₁.setTop (mkF m 27 #[.val (.int (3 : Int32)), .val (.int sel), .val (.int (0 : Int32)), .val (.int (3 : Int32)), .unset, .unset] []))
          refine Go.by (fun _ kont => XS.iloadN X0.here hx rfl (hb hby at_27) rfl kont) ?_
          show Go _ _ _ _ _ _ _ (s₁.setTop (mkF m 28 #[.val (.int (3 : Int32)), .val (.int sel), .val (.int (0 : Int32)), .val (.int (3 : Int32)), .unset, .unset] [(.int (3 : Int32))]))
          obtain ⟨_, _, ⟨T106, L106, k106, n106⟩, -, X106, ⟨Lc106, hQ106, l106, y106, z106⟩, st106⟩ := Jvm.LawKit.callS X0 hx (y := (⟨"com/example/kyu/kyu/wire/FrameType", "fromOctet", "(I)Lcom/example/kyu/kyu/wire/FrameType;"⟩ : MethodName)) hown (mvT hZ (hw _ (List.mem_of_getElem? (i := 0) rfl))) (mvT hZ (hw _ (List.mem_of_getElem? (i := 1) rfl))) (mvT hZ (hw _ (List.mem_of_getElem? (i := 2) rfl))) (mvT hZ (hw _ (List.mem_of_getElem? (i := 3) rfl))) (by decide) (backOf (W := 0) (rmF3 l Z a0 hw [] s_METHOD s_HEADER s_BODY s_HEARTBEAT s_ALL kc_s_ALL h0 n0 Z0 E_s_METHOD F_s_METHOD_octet E_s_HEADER F_s_HEADER_octet E_s_BODY F_s_BODY_octet E_s_HEARTBEAT F_s_HEARTBEAT_octet V_s_ALL S_ALL S_METHOD S_HEADER S_BODY S_HEARTBEAT) hZ (hw _ (List.mem_of_getElem? (i := 3) rfl)) (hw _ (List.mem_of_getElem? (i := 2) rfl)) (by decide) (by decide)) (g := (mkF m 28 #[.val (.int (3 : Int32)), .val (.int sel), .val (.int (0 : Int32)), .val (.int (3 : Int32)), .unset, .unset] [(.int (3 : Int32))])) rfl (by rw [hml]; rfl) (argsL := [(.int (3 : Int32))]) (rest := []) (lenOf pd0_0 rfl) rfl (by show 2 * 0 + _ ≤ _; exact Nat.le_of_eq rfl) (hb hby at_28) (fun _ _ => ⟨rfl, e0, (by decide : 0 + 0 ≤ _), (by decide : 0 + 0 ≤ _)⟩)
          dsimp only [Pt.U, Pt.locs, Pt.cells, Pt.slots] at X106 l106 y106 z106 st106 hQ106
          subst l106 y106 z106
          obtain ⟨rfl, N106q, eh106⟩ := hQ106
          have N106 := Fr.app N0 N106q
          refine Go.by st106 ?_
          show Go _ _ _ _ _ _ _ (T106.setTop (mkF m 31 #[.val (.int (3 : Int32)), .val (.int sel), .val (.int (0 : Int32)), .val (.int (3 : Int32)), .unset, .unset] [(.ref s_BODY)]))
          refine Go.by (fun _ kont => XS.astore X106.here hx rfl (hb hby at_31) rfl rfl (l' := #[.val (.int (3 : Int32)), .val (.int sel), .val (.int (0 : Int32)), .val (.int (3 : Int32)), .val (.ref s_BODY), .unset]) rfl (XS.iloadN X106.here hx rfl (hb hby at_33) rfl kont)) ?_
          show Go _ _ _ _ _ _ _ (T106.setTop (mkF m 34 #[.val (.int (3 : Int32)), .val (.int sel), .val (.int (0 : Int32)), .val (.int (3 : Int32)), .val (.ref s_BODY), .unset] [(.int (3 : Int32))]))
          obtain ⟨_, _, ⟨T107, L107, k107, n107⟩, -, X107, ⟨Lc107, hQ107, l107, y107, z107⟩, st107⟩ := Jvm.LawKit.callS X106 hx (y := (⟨"com/example/kyu/kyu/wire/FrameTypeFromOctetPinLaw", "expected", "(I)Lcom/example/kyu/kyu/wire/FrameType;"⟩ : MethodName)) hown (mvT hZ (hw _ (List.mem_of_getElem? (i := 12) rfl))) (mvT hZ (hw _ (List.mem_of_getElem? (i := 13) rfl))) (mvT hZ (hw _ (List.mem_of_getElem? (i := 14) rfl))) (mvT hZ (hw _ (List.mem_of_getElem? (i := 15) rfl))) (by decide) (backOf (W := 0) (rmX3 l Z a0 hw [] s_METHOD s_HEADER s_BODY s_HEARTBEAT s_ALL kc_s_ALL h0 n0 Z0 E_s_METHOD F_s_METHOD_octet E_s_HEADER F_s_HEADER_octet E_s_BODY F_s_BODY_octet E_s_HEARTBEAT F_s_HEARTBEAT_octet V_s_ALL S_ALL S_METHOD S_HEADER S_BODY S_HEARTBEAT) hZ (hw _ (List.mem_of_getElem? (i := 15) rfl)) (hw _ (List.mem_of_getElem? (i := 14) rfl)) (by decide) (by decide)) (g := (mkF m 34 #[.val (.int (3 : Int32)), .val (.int sel), .val (.int (0 : Int32)), .val (.int (3 : Int32)), .val (.ref s_BODY), .unset] [(.int (3 : Int32))])) rfl (by rw [hml]; rfl) (argsL := [(.int (3 : Int32))]) (rest := []) (lenOf pd0_0 rfl) rfl (by show 2 * 0 + _ ≤ _; exact Nat.le_of_eq rfl) (hb hby at_34) (fun _ _ => ⟨rfl, eh106, (by decide : 0 + 0 ≤ _), (by decide : 0 + 0 ≤ _)⟩)
          dsimp only [Pt.U, Pt.locs, Pt.cells, Pt.slots] at X107 l107 y107 z107 st107 hQ107
          subst l107 y107 z107
          obtain ⟨rfl, N107q, eh107⟩ := hQ107
          have N107 := Fr.app N106 N107q
          refine Go.by st107 ?_
          show Go _ _ _ _ _ _ _ (T107.setTop (mkF m 37 #[.val (.int (3 : Int32)), .val (.int sel), .val (.int (0 : Int32)), .val (.int (3 : Int32)), .val (.ref s_BODY), .unset] [(.ref s_BODY)]))
          refine Go.by (fun _ kont => XS.astore X107.here hx rfl (hb hby at_37) rfl rfl (l' := #[.val (.int (3 : Int32)), .val (.int sel), .val (.int (0 : Int32)), .val (.int (3 : Int32)), .val (.ref s_BODY), .val (.ref s_BODY)]) rfl (XS.aload X107.here hx rfl (hb hby at_39) rfl rfl (XS.aload X107.here hx rfl (hb hby at_41) rfl rfl kont))) ?_
          show Go _ _ _ _ _ _ _ (T107.setTop (mkF m 43 #[.val (.int (3 : Int32)), .val (.int sel), .val (.int (0 : Int32)), .val (.int (3 : Int32)), .val (.ref s_BODY), .val (.ref s_BODY)] [(.ref s_BODY), (.ref s_BODY)]))
          refine Go.by (fun _ kont => Jvm.RoadKit.acmp (g := (mkF m 43 #[.val (.int (3 : Int32)), .val (.int sel), .val (.int (0 : Int32)), .val (.int (3 : Int32)), .val (.ref s_BODY), .val (.ref s_BODY)] [(.ref s_BODY), (.ref s_BODY)])) X107 hx rfl rfl rfl (pc0 := 43) (pc' := 46) (same := true) rfl (hb hby at_43) rfl (decide_eq_true rfl) (by decide) (by decide) kont) ?_
          show Go _ _ _ _ _ _ _ (T107.setTop (mkF m 46 #[.val (.int (3 : Int32)), .val (.int sel), .val (.int (0 : Int32)), .val (.int (3 : Int32)), .val (.ref s_BODY), .val (.ref s_BODY)] []))
          refine Go.by (fun _ kont => XS.iconst X107.here hx rfl (hb hby at_46) (XS.goto X107.here hx rfl (pc0 := 47) (pc' := 51) rfl (hb hby at_47) (by decide) (by decide) kont)) ?_
          show Go _ _ _ _ _ _ _ (T107.setTop (mkF m 51 #[.val (.int (3 : Int32)), .val (.int sel), .val (.int (0 : Int32)), .val (.int (3 : Int32)), .val (.ref s_BODY), .val (.ref s_BODY)] [(.int (1 : Int32))]))
          refine Go.retN X107 hx (t := .boolean) hret (by simp) hlk (hb hby at_51) ?_ (by decide) (by decide)
          show Q0 Z h0 n0 (some (.int (1 : Int32))) T107.heap _
          rw [eh107]
          exact ⟨rfl, N107⟩
        · by_cases hq8 : x0 = (8 : Int32)
          · subst hq8
            show Go _ _ _ _ _ _ _ (s₁.setTop (mkF m 27 #[.val (.int (8 : Int32)), .val (.int sel), .val (.int (0 : Int32)), .val (.int (8 : Int32)), .unset, .unset] []))
            refine Go.by (fun _ kont => XS.iloadN X0.here hx rfl (hb hby at_27) rfl kont) ?_
            show Go _ _ _ _ _ _ _ (s₁.setTop (mkF m 28 #[.val (.int (8 : Int32)), .val (.int sel), .val (.int (0 : Int32)), .val (.int (8 : Int32)), .unset, .unset] [(.int (8 : Int32))]))
            obtain ⟨_, _, ⟨T108, L108, k108, n108⟩, -, X108, ⟨Lc108, hQ108, l108, y108, z108⟩, st108⟩ := Jvm.LawKit.callS X0 hx (y := (⟨"com/example/kyu/kyu/wire/FrameType", "fromOctet", "(I)Lcom/example/kyu/kyu/wire/FrameType;"⟩ : MethodName)) hown (mvT hZ (hw _ (List.mem_of_getElem? (i := 0) rfl))) (mvT hZ (hw _ (List.mem_of_getElem? (i := 1) rfl))) (mvT hZ (hw _ (List.mem_of_getElem? (i := 2) rfl))) (mvT hZ (hw _ (List.mem_of_getElem? (i := 3) rfl))) (by decide) (backOf (W := 0) (rmF8 l Z a0 hw [] s_METHOD s_HEADER s_BODY s_HEARTBEAT s_ALL kc_s_ALL h0 n0 Z0 E_s_METHOD F_s_METHOD_octet E_s_HEADER F_s_HEADER_octet E_s_BODY F_s_BODY_octet E_s_HEARTBEAT F_s_HEARTBEAT_octet V_s_ALL S_ALL S_METHOD S_HEADER S_BODY S_HEARTBEAT) hZ (hw _ (List.mem_of_getElem? (i := 3) rfl)) (hw _ (List.mem_of_getElem? (i := 2) rfl)) (by decide) (by decide)) (g := (mkF m 28 #[.val (.int (8 : Int32)), .val (.int sel), .val (.int (0 : Int32)), .val (.int (8 : Int32)), .unset, .unset] [(.int (8 : Int32))])) rfl (by rw [hml]; rfl) (argsL := [(.int (8 : Int32))]) (rest := []) (lenOf pd0_0 rfl) rfl (by show 2 * 0 + _ ≤ _; exact Nat.le_of_eq rfl) (hb hby at_28) (fun _ _ => ⟨rfl, e0, (by decide : 0 + 0 ≤ _), (by decide : 0 + 0 ≤ _)⟩)
            dsimp only [Pt.U, Pt.locs, Pt.cells, Pt.slots] at X108 l108 y108 z108 st108 hQ108
            subst l108 y108 z108
            obtain ⟨rfl, N108q, eh108⟩ := hQ108
            have N108 := Fr.app N0 N108q
            refine Go.by st108 ?_
            show Go _ _ _ _ _ _ _ (T108.setTop (mkF m 31 #[.val (.int (8 : Int32)), .val (.int sel), .val (.int (0 : Int32)), .val (.int (8 : Int32)), .unset, .unset] [(.ref s_HEARTBEAT)]))
            refine Go.by (fun _ kont => XS.astore X108.here hx rfl (hb hby at_31) rfl rfl (l' := #[.val (.int (8 : Int32)), .val (.int sel), .val (.int (0 : Int32)), .val (.int (8 : Int32)), .val (.ref s_HEARTBEAT), .unset]) rfl (XS.iloadN X108.here hx rfl (hb hby at_33) rfl kont)) ?_
            show Go _ _ _ _ _ _ _ (T108.setTop (mkF m 34 #[.val (.int (8 : Int32)), .val (.int sel), .val (.int (0 : Int32)), .val (.int (8 : Int32)), .val (.ref s_HEARTBEAT), .unset] [(.int (8 : Int32))]))
            obtain ⟨_, _, ⟨T109, L109, k109, n109⟩, -, X109, ⟨Lc109, hQ109, l109, y109, z109⟩, st109⟩ := Jvm.LawKit.callS X108 hx (y := (⟨"com/example/kyu/kyu/wire/FrameTypeFromOctetPinLaw", "expected", "(I)Lcom/example/kyu/kyu/wire/FrameType;"⟩ : MethodName)) hown (mvT hZ (hw _ (List.mem_of_getElem? (i := 12) rfl))) (mvT hZ (hw _ (List.mem_of_getElem? (i := 13) rfl))) (mvT hZ (hw _ (List.mem_of_getElem? (i := 14) rfl))) (mvT hZ (hw _ (List.mem_of_getElem? (i := 15) rfl))) (by decide) (backOf (W := 0) (rmX8 l Z a0 hw [] s_METHOD s_HEADER s_BODY s_HEARTBEAT s_ALL kc_s_ALL h0 n0 Z0 E_s_METHOD F_s_METHOD_octet E_s_HEADER F_s_HEADER_octet E_s_BODY F_s_BODY_octet E_s_HEARTBEAT F_s_HEARTBEAT_octet V_s_ALL S_ALL S_METHOD S_HEADER S_BODY S_HEARTBEAT) hZ (hw _ (List.mem_of_getElem? (i := 15) rfl)) (hw _ (List.mem_of_getElem? (i := 14) rfl)) (by decide) (by decide)) (g := (mkF m 34 #[.val (.int (8 : Int32)), .val (.int sel), .val (.int (0 : Int32)), .val (.int (8 : Int32)), .val (.ref s_HEARTBEAT), .unset] [(.int (8 : Int32))])) rfl (by rw [hml]; rfl) (argsL := [(.int (8 : Int32))]) (rest := []) (lenOf pd0_0 rfl) rfl (by show 2 * 0 + _ ≤ _; exact Nat.le_of_eq rfl) (hb hby at_34) (fun _ _ => ⟨rfl, eh108, (by decide : 0 + 0 ≤ _), (by decide : 0 + 0 ≤ _)⟩)
            dsimp only [Pt.U, Pt.locs, Pt.cells, Pt.slots] at X109 l109 y109 z109 st109 hQ109
            subst l109 y109 z109
            obtain ⟨rfl, N109q, eh109⟩ := hQ109
            have N109 := Fr.app N108 N109q
            refine Go.by st109 ?_
            show Go _ _ _ _ _ _ _ (T109.setTop (mkF m 37 #[.val (.int (8 : Int32)), .val (.int sel), .val (.int (0 : Int32)), .val (.int (8 : Int32)), .val (.ref s_HEARTBEAT), .unset] [(.ref s_HEARTBEAT)]))
            refine Go.by (fun _ kont => XS.astore X109.here hx rfl (hb hby at_37) rfl rfl (l' := #[.val (.int (8 : Int32)), .val (.int sel), .val (.int (0 : Int32)), .val (.int (8 : Int32)), .val (.ref s_HEARTBEAT), .val (.ref s_HEARTBEAT)]) rfl (XS.aload X109.here hx rfl (hb hby at_39) rfl rfl (XS.aload X109.here hx rfl (hb hby at_41) rfl rfl kont))) ?_
            show Go _ _ _ _ _ _ _ (T109.setTop (mkF m 43 #[.val (.int (8 : Int32)), .val (.int sel), .val (.int (0 : Int32)), .val (.int (8 : Int32)), .val (.ref s_HEARTBEAT), .val (.ref s_HEARTBEAT)] [(.ref s_HEARTBEAT), (.ref s_HEARTBEAT)]))
            refine Go.by (fun _ kont => Jvm.RoadKit.acmp (g := (mkF m 43 #[.val (.int (8 : Int32)), .val (.int sel), .val (.int (0 : Int32)), .val (.int (8 : Int32)), .val (.ref s_HEARTBEAT), .val (.ref s_HEARTBEAT)] [(.ref s_HEARTBEAT), (.ref s_HEARTBEAT)])) X109 hx rfl rfl rfl (pc0 := 43) (pc' := 46) (same := true) rfl (hb hby at_43) rfl (decide_eq_true rfl) (by decide) (by decide) kont) ?_
            show Go _ _ _ _ _ _ _ (T109.setTop (mkF m 46 #[.val (.int (8 : Int32)), .val (.int sel), .val (.int (0 : Int32)), .val (.int (8 : Int32)), .val (.ref s_HEARTBEAT), .val (.ref s_HEARTBEAT)] []))
            refine Go.by (fun _ kont => XS.iconst X109.here hx rfl (hb hby at_46) (XS.goto X109.here hx rfl (pc0 := 47) (pc' := 51) rfl (hb hby at_47) (by decide) (by decide) kont)) ?_
            show Go _ _ _ _ _ _ _ (T109.setTop (mkF m 51 #[.val (.int (8 : Int32)), .val (.int sel), .val (.int (0 : Int32)), .val (.int (8 : Int32)), .val (.ref s_HEARTBEAT), .val (.ref s_HEARTBEAT)] [(.int (1 : Int32))]))
            refine Go.retN X109 hx (t := .boolean) hret (by simp) hlk (hb hby at_51) ?_ (by decide) (by decide)
            show Q0 Z h0 n0 (some (.int (1 : Int32))) T109.heap _
            rw [eh109]
            exact ⟨rfl, N109⟩
          · have hr1 : ¬ ((1 : Int32) = x0) := fun q => hq1 q.symm
            have hr2 : ¬ ((2 : Int32) = x0) := fun q => hq2 q.symm
            have hr3 : ¬ ((3 : Int32) = x0) := fun q => hq3 q.symm
            have hr8 : ¬ ((8 : Int32) = x0) := fun q => hq8 q.symm
            show Go _ _ _ _ _ _ _ (s₁.setTop (mkF m 27 #[.val (.int x0), .val (.int sel), .val (.int (0 : Int32)), .val (.int x0), .unset, .unset] []))
            refine Go.by (fun _ kont => XS.iloadN X0.here hx rfl (hb hby at_27) rfl kont) ?_
            show Go _ _ _ _ _ _ _ (s₁.setTop (mkF m 28 #[.val (.int x0), .val (.int sel), .val (.int (0 : Int32)), .val (.int x0), .unset, .unset] [(.int x0)]))
            obtain ⟨_, _, ⟨T110, L110, k110, n110⟩, -, X110, ⟨Lc110, hQ110, l110, y110, z110⟩, st110⟩ := Jvm.LawKit.callS X0 hx (y := (⟨"com/example/kyu/kyu/wire/FrameType", "fromOctet", "(I)Lcom/example/kyu/kyu/wire/FrameType;"⟩ : MethodName)) hown (mvT hZ (hw _ (List.mem_of_getElem? (i := 0) rfl))) (mvT hZ (hw _ (List.mem_of_getElem? (i := 1) rfl))) (mvT hZ (hw _ (List.mem_of_getElem? (i := 2) rfl))) (mvT hZ (hw _ (List.mem_of_getElem? (i := 3) rfl))) (by decide) (backOf (W := 0) (rmFN l Z a0 hw [] x0 s_METHOD s_HEADER s_BODY s_HEARTBEAT s_ALL kc_s_ALL h0 n0 Z0 E_s_METHOD F_s_METHOD_octet E_s_HEADER F_s_HEADER_octet E_s_BODY F_s_BODY_octet E_s_HEARTBEAT F_s_HEARTBEAT_octet V_s_ALL S_ALL S_METHOD S_HEADER S_BODY S_HEARTBEAT hq1 hq2 hq3 hq8 hr1 hr2 hr3 hr8) hZ (hw _ (List.mem_of_getElem? (i := 3) rfl)) (hw _ (List.mem_of_getElem? (i := 2) rfl)) (by decide) (by decide)) (g := (mkF m 28 #[.val (.int x0), .val (.int sel), .val (.int (0 : Int32)), .val (.int x0), .unset, .unset] [(.int x0)])) rfl (by rw [hml]; rfl) (argsL := [(.int x0)]) (rest := []) (lenOf pd0_0 rfl) rfl (by show 2 * 0 + _ ≤ _; exact Nat.le_of_eq rfl) (hb hby at_28) (fun _ _ => ⟨rfl, e0, (by decide : 0 + 0 ≤ _), (by decide : 0 + 0 ≤ _)⟩)
            dsimp only [Pt.U, Pt.locs, Pt.cells, Pt.slots] at X110 l110 y110 z110 st110 hQ110
            subst l110 y110 z110
            obtain ⟨rfl, N110q, eh110⟩ := hQ110
            have N110 := Fr.app N0 N110q
            refine Go.by st110 ?_
            show Go _ _ _ _ _ _ _ (T110.setTop (mkF m 31 #[.val (.int x0), .val (.int sel), .val (.int (0 : Int32)), .val (.int x0), .unset, .unset] [.null]))
            refine Go.by (fun _ kont => XS.astore X110.here hx rfl (hb hby at_31) rfl rfl (l' := #[.val (.int x0), .val (.int sel), .val (.int (0 : Int32)), .val (.int x0), .val .null, .unset]) rfl (XS.iloadN X110.here hx rfl (hb hby at_33) rfl kont)) ?_
            show Go _ _ _ _ _ _ _ (T110.setTop (mkF m 34 #[.val (.int x0), .val (.int sel), .val (.int (0 : Int32)), .val (.int x0), .val .null, .unset] [(.int x0)]))
            obtain ⟨_, _, ⟨T111, L111, k111, n111⟩, -, X111, ⟨Lc111, hQ111, l111, y111, z111⟩, st111⟩ := Jvm.LawKit.callS X110 hx (y := (⟨"com/example/kyu/kyu/wire/FrameTypeFromOctetPinLaw", "expected", "(I)Lcom/example/kyu/kyu/wire/FrameType;"⟩ : MethodName)) hown (mvT hZ (hw _ (List.mem_of_getElem? (i := 12) rfl))) (mvT hZ (hw _ (List.mem_of_getElem? (i := 13) rfl))) (mvT hZ (hw _ (List.mem_of_getElem? (i := 14) rfl))) (mvT hZ (hw _ (List.mem_of_getElem? (i := 15) rfl))) (by decide) (backOf (W := 0) (rmXN l Z a0 hw [] x0 s_METHOD s_HEADER s_BODY s_HEARTBEAT s_ALL kc_s_ALL h0 n0 Z0 E_s_METHOD F_s_METHOD_octet E_s_HEADER F_s_HEADER_octet E_s_BODY F_s_BODY_octet E_s_HEARTBEAT F_s_HEARTBEAT_octet V_s_ALL S_ALL S_METHOD S_HEADER S_BODY S_HEARTBEAT hq1 hq2 hq3 hq8 hr1 hr2 hr3 hr8) hZ (hw _ (List.mem_of_getElem? (i := 15) rfl)) (hw _ (List.mem_of_getElem? (i := 14) rfl)) (by decide) (by decide)) (g := (mkF m 34 #[.val (.int x0), .val (.int sel), .val (.int (0 : Int32)), .val (.int x0), .val .null, .unset] [(.int x0)])) rfl (by rw [hml]; rfl) (argsL := [(.int x0)]) (rest := []) (lenOf pd0_0 rfl) rfl (by show 2 * 0 + _ ≤ _; exact Nat.le_of_eq rfl) (hb hby at_34) (fun _ _ => ⟨rfl, eh110, (by decide : 0 + 0 ≤ _), (by decide : 0 + 0 ≤ _)⟩)
            dsimp only [Pt.U, Pt.locs, Pt.cells, Pt.slots] at X111 l111 y111 z111 st111 hQ111
            subst l111 y111 z111
            obtain ⟨rfl, N111q, eh111⟩ := hQ111
            have N111 := Fr.app N110 N111q
            refine Go.by st111 ?_
            show Go _ _ _ _ _ _ _ (T111.setTop (mkF m 37 #[.val (.int x0), .val (.int sel), .val (.int (0 : Int32)), .val (.int x0), .val .null, .unset] [.null]))
            refine Go.by (fun _ kont => XS.astore X111.here hx rfl (hb hby at_37) rfl rfl (l' := #[.val (.int x0), .val (.int sel), .val (.int (0 : Int32)), .val (.int x0), .val .null, .val .null]) rfl (XS.aload X111.here hx rfl (hb hby at_39) rfl rfl (XS.aload X111.here hx rfl (hb hby at_41) rfl rfl kont))) ?_
            show Go _ _ _ _ _ _ _ (T111.setTop (mkF m 43 #[.val (.int x0), .val (.int sel), .val (.int (0 : Int32)), .val (.int x0), .val .null, .val .null] [.null, .null]))
            refine Go.by (fun _ kont => Jvm.RoadKit.acmp (g := (mkF m 43 #[.val (.int x0), .val (.int sel), .val (.int (0 : Int32)), .val (.int x0), .val .null, .val .null] [.null, .null])) X111 hx rfl rfl rfl (pc0 := 43) (pc' := 46) (same := true) rfl (hb hby at_43) rfl (decide_eq_true rfl) (by decide) (by decide) kont) ?_
            show Go _ _ _ _ _ _ _ (T111.setTop (mkF m 46 #[.val (.int x0), .val (.int sel), .val (.int (0 : Int32)), .val (.int x0), .val .null, .val .null] []))
            refine Go.by (fun _ kont => XS.iconst X111.here hx rfl (hb hby at_46) (XS.goto X111.here hx rfl (pc0 := 47) (pc' := 51) rfl (hb hby at_47) (by decide) (by decide) kont)) ?_
            show Go _ _ _ _ _ _ _ (T111.setTop (mkF m 51 #[.val (.int x0), .val (.int sel), .val (.int (0 : Int32)), .val (.int x0), .val .null, .val .null] [(.int (1 : Int32))]))
            refine Go.retN X111 hx (t := .boolean) hret (by simp) hlk (hb hby at_51) ?_ (by decide) (by decide)
            show Q0 Z h0 n0 (some (.int (1 : Int32))) T111.heap _
            rw [eh111]
            exact ⟨rfl, N111⟩
  · refine Go.by (fun _ kont => XS.ifNo X0.here hx rfl (hb hby at_3) rfl ((if0 _ _).trans (feq hc101).1) kont) ?_
    show Go _ _ _ _ _ _ _ (s₁.setTop (mkF m 6 #[.val (.int x0), .val (.int sel), .unset, .unset, .unset, .unset] []))
    refine Go.by (fun _ kont => XS.iconst X0.here hx rfl (hb hby at_6) (XS.goto X0.here hx rfl (pc0 := 7) (pc' := 11) rfl (hb hby at_7) (by decide) (by decide) (XS.istoreN X0.here hx rfl (hb hby at_11) rfl (l' := #[.val (.int x0), .val (.int sel), .val (.int (1 : Int32)), .unset, .unset, .unset]) rfl (XS.iloadN X0.here hx rfl (hb hby at_12) rfl kont)))) ?_
    show Go _ _ _ _ _ _ _ (s₁.setTop (mkF m 13 #[.val (.int x0), .val (.int sel), .val (.int (1 : Int32)), .unset, .unset, .unset] [(.int (1 : Int32))]))
    refine Go.by (fun _ kont => XS.ifNo X0.here hx rfl (hb hby at_13) rfl (by decide) kont) ?_
    show Go _ _ _ _ _ _ _ (s₁.setTop (mkF m 16 #[.val (.int x0), .val (.int sel), .val (.int (1 : Int32)), .unset, .unset, .unset] []))
    refine Go.by (fun _ kont => XS.iloadN X0.here hx rfl (hb hby at_16) rfl (XS.bipush X0.here hx rfl (hb hby at_17) (XS.iand X0.here hx rfl (hb hby at_19) rfl (XS.iconst X0.here hx rfl (hb hby at_20) (XS.isub X0.here hx rfl (hb hby at_21) rfl (XS.goto X0.here hx rfl (pc0 := 22) (pc' := 26) rfl (hb hby at_22) (by decide) (by decide) kont)))))) ?_
    show Go _ _ _ _ _ _ _ (s₁.setTop (mkF m 26 #[.val (.int x0), .val (.int sel), .val (.int (1 : Int32)), .unset, .unset, .unset] [(.int ((x0 &&& (15 : Int32)) - (2 : Int32)))]))
    refine Go.by (fun _ kont => XS.istoreN X0.here hx rfl (hb hby at_26) rfl (l' := #[.val (.int x0), .val (.int sel), .val (.int (1 : Int32)), .val (.int ((x0 &&& (15 : Int32)) - (2 : Int32))), .unset, .unset]) rfl kont) ?_
    show Go _ _ _ _ _ _ _ (s₁.setTop (mkF m 27 #[.val (.int x0), .val (.int sel), .val (.int (1 : Int32)), .val (.int ((x0 &&& (15 : Int32)) - (2 : Int32))), .unset, .unset] []))
    generalize ((x0 &&& (15 : Int32)) - (2 : Int32)) = oo
    by_cases hq1 : oo = (1 : Int32)
    · rw [hq1]
      show Go _ _ _ _ _ _ _ (s₁.setTop (mkF m 27 #[.val (.int x0), .val (.int sel), .val (.int (1 : Int32)), .val (.int (1 : Int32)), .unset, .unset] []))
      refine Go.by (fun _ kont => XS.iloadN X0.here hx rfl (hb hby at_27) rfl kont) ?_
      show Go _ _ _ _ _ _ _ (s₁.setTop (mkF m 28 #[.val (.int x0), .val (.int sel), .val (.int (1 : Int32)), .val (.int (1 : Int32)), .unset, .unset] [(.int (1 : Int32))]))
      obtain ⟨_, _, ⟨T112, L112, k112, n112⟩, -, X112, ⟨Lc112, hQ112, l112, y112, z112⟩, st112⟩ := Jvm.LawKit.callS X0 hx (y := (⟨"com/example/kyu/kyu/wire/FrameType", "fromOctet", "(I)Lcom/example/kyu/kyu/wire/FrameType;"⟩ : MethodName)) hown (mvT hZ (hw _ (List.mem_of_getElem? (i := 0) rfl))) (mvT hZ (hw _ (List.mem_of_getElem? (i := 1) rfl))) (mvT hZ (hw _ (List.mem_of_getElem? (i := 2) rfl))) (mvT hZ (hw _ (List.mem_of_getElem? (i := 3) rfl))) (by decide) (backOf (W := 0) (rmF1 l Z a0 hw [] s_METHOD s_HEADER s_BODY s_HEARTBEAT s_ALL kc_s_ALL h0 n0 Z0 E_s_METHOD F_s_METHOD_octet E_s_HEADER F_s_HEADER_octet E_s_BODY F_s_BODY_octet E_s_HEARTBEAT F_s_HEARTBEAT_octet V_s_ALL S_ALL S_METHOD S_HEADER S_BODY S_HEARTBEAT) hZ (hw _ (List.mem_of_getElem? (i := 3) rfl)) (hw _ (List.mem_of_getElem? (i := 2) rfl)) (by decide) (by decide)) (g := (mkF m 28 #[.val (.int x0), .val (.int sel), .val (.int (1 : Int32)), .val (.int (1 : Int32)), .unset, .unset] [(.int (1 : Int32))])) rfl (by rw [hml]; rfl) (argsL := [(.int (1 : Int32))]) (rest := []) (lenOf pd0_0 rfl) rfl (by show 2 * 0 + _ ≤ _; exact Nat.le_of_eq rfl) (hb hby at_28) (fun _ _ => ⟨rfl, e0, (by decide : 0 + 0 ≤ _), (by decide : 0 + 0 ≤ _)⟩)
      dsimp only [Pt.U, Pt.locs, Pt.cells, Pt.slots] at X112 l112 y112 z112 st112 hQ112
      subst l112 y112 z112
      obtain ⟨rfl, N112q, eh112⟩ := hQ112
      have N112 := Fr.app N0 N112q
      refine Go.by st112 ?_
      show Go _ _ _ _ _ _ _ (T112.setTop (mkF m 31 #[.val (.int x0), .val (.int sel), .val (.int (1 : Int32)), .val (.int (1 : Int32)), .unset, .unset] [(.ref s_METHOD)]))
      refine Go.by (fun _ kont => XS.astore X112.here hx rfl (hb hby at_31) rfl rfl (l' := #[.val (.int x0), .val (.int sel), .val (.int (1 : Int32)), .val (.int (1 : Int32)), .val (.ref s_METHOD), .unset]) rfl (XS.iloadN X112.here hx rfl (hb hby at_33) rfl kont)) ?_
      show Go _ _ _ _ _ _ _ (T112.setTop (mkF m 34 #[.val (.int x0), .val (.int sel), .val (.int (1 : Int32)), .val (.int (1 : Int32)), .val (.ref s_METHOD), .unset] [(.int (1 : Int32))]))
      obtain ⟨_, _, ⟨T113, L113, k113, n113⟩, -, X113, ⟨Lc113, hQ113, l113, y113, z113⟩, st113⟩ := Jvm.LawKit.callS X112 hx (y := (⟨"com/example/kyu/kyu/wire/FrameTypeFromOctetPinLaw", "expected", "(I)Lcom/example/kyu/kyu/wire/FrameType;"⟩ : MethodName)) hown (mvT hZ (hw _ (List.mem_of_getElem? (i := 12) rfl))) (mvT hZ (hw _ (List.mem_of_getElem? (i := 13) rfl))) (mvT hZ (hw _ (List.mem_of_getElem? (i := 14) rfl))) (mvT hZ (hw _ (List.mem_of_getElem? (i := 15) rfl))) (by decide) (backOf (W := 0) (rmX1 l Z a0 hw [] s_METHOD s_HEADER s_BODY s_HEARTBEAT s_ALL kc_s_ALL h0 n0 Z0 E_s_METHOD F_s_METHOD_octet E_s_HEADER F_s_HEADER_octet E_s_BODY F_s_BODY_octet E_s_HEARTBEAT F_s_HEARTBEAT_octet V_s_ALL S_ALL S_METHOD S_HEADER S_BODY S_HEARTBEAT) hZ (hw _ (List.mem_of_getElem? (i := 15) rfl)) (hw _ (List.mem_of_getElem? (i := 14) rfl)) (by decide) (by decide)) (g := (mkF m 34 #[.val (.int x0), .val (.int sel), .val (.int (1 : Int32)), .val (.int (1 : Int32)), .val (.ref s_METHOD), .unset] [(.int (1 : Int32))])) rfl (by rw [hml]; rfl) (argsL := [(.int (1 : Int32))]) (rest := []) (lenOf pd0_0 rfl) rfl (by show 2 * 0 + _ ≤ _; exact Nat.le_of_eq rfl) (hb hby at_34) (fun _ _ => ⟨rfl, eh112, (by decide : 0 + 0 ≤ _), (by decide : 0 + 0 ≤ _)⟩)
      dsimp only [Pt.U, Pt.locs, Pt.cells, Pt.slots] at X113 l113 y113 z113 st113 hQ113
      subst l113 y113 z113
      obtain ⟨rfl, N113q, eh113⟩ := hQ113
      have N113 := Fr.app N112 N113q
      refine Go.by st113 ?_
      show Go _ _ _ _ _ _ _ (T113.setTop (mkF m 37 #[.val (.int x0), .val (.int sel), .val (.int (1 : Int32)), .val (.int (1 : Int32)), .val (.ref s_METHOD), .unset] [(.ref s_METHOD)]))
      refine Go.by (fun _ kont => XS.astore X113.here hx rfl (hb hby at_37) rfl rfl (l' := #[.val (.int x0), .val (.int sel), .val (.int (1 : Int32)), .val (.int (1 : Int32)), .val (.ref s_METHOD), .val (.ref s_METHOD)]) rfl (XS.aload X113.here hx rfl (hb hby at_39) rfl rfl (XS.aload X113.here hx rfl (hb hby at_41) rfl rfl kont))) ?_
      show Go _ _ _ _ _ _ _ (T113.setTop (mkF m 43 #[.val (.int x0), .val (.int sel), .val (.int (1 : Int32)), .val (.int (1 : Int32)), .val (.ref s_METHOD), .val (.ref s_METHOD)] [(.ref s_METHOD), (.ref s_METHOD)]))
      refine Go.by (fun _ kont => Jvm.RoadKit.acmp (g := (mkF m 43 #[.val (.int x0), .val (.int sel), .val (.int (1 : Int32)), .val (.int (1 : Int32)), .val (.ref s_METHOD), .val (.ref s_METHOD)] [(.ref s_METHOD), (.ref s_METHOD)])) X113 hx rfl rfl rfl (pc0 := 43) (pc' := 46) (same := true) rfl (hb hby at_43) rfl (decide_eq_true rfl) (by decide) (by decide) kont) ?_
      show Go _ _ _ _ _ _ _ (T113.setTop (mkF m 46 #[.val (.int x0), .val (.int sel), .val (.int (1 : Int32)), .val (.int (1 : Int32)), .val (.ref s_METHOD), .val (.ref s_METHOD)] []))
      refine Go.by (fun _ kont => XS.iconst X113.here hx rfl (hb hby at_46) (XS.goto X113.here hx rfl (pc0 := 47) (pc' := 51) rfl (hb hby at_47) (by decide) (by decide) kont)) ?_
      show Go _ _ _ _ _ _ _ (T113.setTop (mkF m 51 #[.val (.int x0), .val (.int sel), .val (.int (1 : Int32)), .val (.int (1 : Int32)), .val (.ref s_METHOD), .val (.ref s_METHOD)] [(.int (1 : Int32))]))
      refine Go.retN X113 hx (t := .boolean) hret (by simp) hlk (hb hby at_51) ?_ (by decide) (by decide)
      show Q0 Z h0 n0 (some (.int (1 : Int32))) T113.heap _
      rw [eh113]
      exact ⟨rfl, N113⟩
    · by_cases hq2 : oo = (2 : Int32)
      · rw [hq2]
        show Go _ _ _ _ _ _ _ (s₁.setTop (mkF m 27 #[.val (.int x0), .val (.int sel), .val (.int (1 : Int32)), .val (.int (2 : Int32)), .unset, .unset] []))
        refine Go.by (fun _ kont => XS.iloadN X0.here hx rfl (hb hby at_27) rfl kont) ?_
        show Go _ _ _ _ _ _ _ (s₁.setTop (mkF m 28 #[.val (.int x0), .val (.int sel), .val (.int (1 : Int32)), .val (.int (2 : Int32)), .unset, .unset] [(.int (2 : Int32))]))
        obtain ⟨_, _, ⟨T114, L114, k114, n114⟩, -, X114, ⟨Lc114, hQ114, l114, y114, z114⟩, st114⟩ := Jvm.LawKit.callS X0 hx (y := (⟨"com/example/kyu/kyu/wire/FrameType", "fromOctet", "(I)Lcom/example/kyu/kyu/wire/FrameType;"⟩ : MethodName)) hown (mvT hZ (hw _ (List.mem_of_getElem? (i := 0) rfl))) (mvT hZ (hw _ (List.mem_of_getElem? (i := 1) rfl))) (mvT hZ (hw _ (List.mem_of_getElem? (i := 2) rfl))) (mvT hZ (hw _ (List.mem_of_getElem? (i := 3) rfl))) (by decide) (backOf (W := 0) (rmF2 l Z a0 hw [] s_METHOD s_HEADER s_BODY s_HEARTBEAT s_ALL kc_s_ALL h0 n0 Z0 E_s_METHOD F_s_METHOD_octet E_s_HEADER F_s_HEADER_octet E_s_BODY F_s_BODY_octet E_s_HEARTBEAT F_s_HEARTBEAT_octet V_s_ALL S_ALL S_METHOD S_HEADER S_BODY S_HEARTBEAT) hZ (hw _ (List.mem_of_getElem? (i := 3) rfl)) (hw _ (List.mem_of_getElem? (i := 2) rfl)) (by decide) (by decide)) (g := (mkF m 28 #[.val (.int x0), .val (.int sel), .val (.int (1 : Int32)), .val (.int (2 : Int32)), .unset, .unset] [(.int (2 : Int32))])) rfl (by rw [hml]; rfl) (argsL := [(.int (2 : Int32))]) (rest := []) (lenOf pd0_0 rfl) rfl (by show 2 * 0 + _ ≤ _; exact Nat.le_of_eq rfl) (hb hby at_28) (fun _ _ => ⟨rfl, e0, (by decide : 0 + 0 ≤ _), (by decide : 0 + 0 ≤ _)⟩)
        dsimp only [Pt.U, Pt.locs, Pt.cells, Pt.slots] at X114 l114 y114 z114 st114 hQ114
        subst l114 y114 z114
        obtain ⟨rfl, N114q, eh114⟩ := hQ114
        have N114 := Fr.app N0 N114q
        refine Go.by st114 ?_
        show Go _ _ _ _ _ _ _ (T114.setTop (mkF m 31 #[.val (.int x0), .val (.int sel), .val (.int (1 : Int32)), .val (.int (2 : Int32)), .unset, .unset] [(.ref s_HEADER)]))
        refine Go.by (fun _ kont => XS.astore X114.here hx rfl (hb hby at_31) rfl rfl (l' := #[.val (.int x0), .val (.int sel), .val (.int (1 : Int32)), .val (.int (2 : Int32)), .val (.ref s_HEADER), .unset]) rfl (XS.iloadN X114.here hx rfl (hb hby at_33) rfl kont)) ?_
        show Go _ _ _ _ _ _ _ (T114.setTop (mkF m 34 #[.val (.int x0), .val (.int sel), .val (.int (1 : Int32)), .val (.int (2 : Int32)), .val (.ref s_HEADER), .unset] [(.int (2 : Int32))]))
        obtain ⟨_, _, ⟨T115, L115, k115, n115⟩, -, X115, ⟨Lc115, hQ115, l115, y115, z115⟩, st115⟩ := Jvm.LawKit.callS X114 hx (y := (⟨"com/example/kyu/kyu/wire/FrameTypeFromOctetPinLaw", "expected", "(I)Lcom/example/kyu/kyu/wire/FrameType;"⟩ : MethodName)) hown (mvT hZ (hw _ (List.mem_of_getElem? (i := 12) rfl))) (mvT hZ (hw _ (List.mem_of_getElem? (i := 13) rfl))) (mvT hZ (hw _ (List.mem_of_getElem? (i := 14) rfl))) (mvT hZ (hw _ (List.mem_of_getElem? (i := 15) rfl))) (by decide) (backOf (W := 0) (rmX2 l Z a0 hw [] s_METHOD s_HEADER s_BODY s_HEARTBEAT s_ALL kc_s_ALL h0 n0 Z0 E_s_METHOD F_s_METHOD_octet E_s_HEADER F_s_HEADER_octet E_s_BODY F_s_BODY_octet E_s_HEARTBEAT F_s_HEARTBEAT_octet V_s_ALL S_ALL S_METHOD S_HEADER S_BODY S_HEARTBEAT) hZ (hw _ (List.mem_of_getElem? (i := 15) rfl)) (hw _ (List.mem_of_getElem? (i := 14) rfl)) (by decide) (by decide)) (g := (mkF m 34 #[.val (.int x0), .val (.int sel), .val (.int (1 : Int32)), .val (.int (2 : Int32)), .val (.ref s_HEADER), .unset] [(.int (2 : Int32))])) rfl (by rw [hml]; rfl) (argsL := [(.int (2 : Int32))]) (rest := []) (lenOf pd0_0 rfl) rfl (by show 2 * 0 + _ ≤ _; exact Nat.le_of_eq rfl) (hb hby at_34) (fun _ _ => ⟨rfl, eh114, (by decide : 0 + 0 ≤ _), (by decide : 0 + 0 ≤ _)⟩)
        dsimp only [Pt.U, Pt.locs, Pt.cells, Pt.slots] at X115 l115 y115 z115 st115 hQ115
        subst l115 y115 z115
        obtain ⟨rfl, N115q, eh115⟩ := hQ115
        have N115 := Fr.app N114 N115q
        refine Go.by st115 ?_
        show Go _ _ _ _ _ _ _ (T115.setTop (mkF m 37 #[.val (.int x0), .val (.int sel), .val (.int (1 : Int32)), .val (.int (2 : Int32)), .val (.ref s_HEADER), .unset] [(.ref s_HEADER)]))
        refine Go.by (fun _ kont => XS.astore X115.here hx rfl (hb hby at_37) rfl rfl (l' := #[.val (.int x0), .val (.int sel), .val (.int (1 : Int32)), .val (.int (2 : Int32)), .val (.ref s_HEADER), .val (.ref s_HEADER)]) rfl (XS.aload X115.here hx rfl (hb hby at_39) rfl rfl (XS.aload X115.here hx rfl (hb hby at_41) rfl rfl kont))) ?_
        show Go _ _ _ _ _ _ _ (T115.setTop (mkF m 43 #[.val (.int x0), .val (.int sel), .val (.int (1 : Int32)), .val (.int (2 : Int32)), .val (.ref s_HEADER), .val (.ref s_HEADER)] [(.ref s_HEADER), (.ref s_HEADER)]))
        refine Go.by (fun _ kont => Jvm.RoadKit.acmp (g := (mkF m 43 #[.val (.int x0), .val (.int sel), .val (.int (1 : Int32)), .val (.int (2 : Int32)), .val (.ref s_HEADER), .val (.ref s_HEADER)] [(.ref s_HEADER), (.ref s_HEADER)])) X115 hx rfl rfl rfl (pc0 := 43) (pc' := 46) (same := true) rfl (hb hby at_43) rfl (decide_eq_true rfl) (by decide) (by decide) kont) ?_
        show Go _ _ _ _ _ _ _ (T115.setTop (mkF m 46 #[.val (.int x0), .val (.int sel), .val (.int (1 : Int32)), .val (.int (2 : Int32)), .val (.ref s_HEADER), .val (.ref s_HEADER)] []))
        refine Go.by (fun _ kont => XS.iconst X115.here hx rfl (hb hby at_46) (XS.goto X115.here hx rfl (pc0 := 47) (pc' := 51) rfl (hb hby at_47) (by decide) (by decide) kont)) ?_
        show Go _ _ _ _ _ _ _ (T115.setTop (mkF m 51 #[.val (.int x0), .val (.int sel), .val (.int (1 : Int32)), .val (.int (2 : Int32)), .val (.ref s_HEADER), .val (.ref s_HEADER)] [(.int (1 : Int32))]))
        refine Go.retN X115 hx (t := .boolean) hret (by simp) hlk (hb hby at_51) ?_ (by decide) (by decide)
        show Q0 Z h0 n0 (some (.int (1 : Int32))) T115.heap _
        rw [eh115]
        exact ⟨rfl, N115⟩
      · by_cases hq3 : oo = (3 : Int32)
        · rw [hq3]
          show Go _ _ _ _ _ _ _ (s₁.setTop (mkF m 27 #[.val (.int x0), .val (.int sel), .val (.int (1 : Int32)), .val (.int (3 : Int32)), .unset, .unset] []))
          refine Go.by (fun _ kont => XS.iloadN X0.here hx rfl (hb hby at_27) rfl kont) ?_
          show Go _ _ _ _ _ _ _ (s₁.setTop (mkF m 28 #[.val (.int x0), .val (.int sel), .val (.int (1 : Int32)), .val (.int (3 : Int32)), .unset, .unset] [(.int (3 : Int32))]))
          obtain ⟨_, _, ⟨T116, L116, k116, n116⟩, -, X116, ⟨Lc116, hQ116, l116, y116, z116⟩, st116⟩ := Jvm.LawKit.callS X0 hx (y := (⟨"com/example/kyu/kyu/wire/FrameType", "fromOctet", "(I)Lcom/example/kyu/kyu/wire/FrameType;"⟩ : MethodName)) hown (mvT hZ (hw _ (List.mem_of_getElem? (i := 0) rfl))) (mvT hZ (hw _ (List.mem_of_getElem? (i := 1) rfl))) (mvT hZ (hw _ (List.mem_of_getElem? (i := 2) rfl))) (mvT hZ (hw _ (List.mem_of_getElem? (i := 3) rfl))) (by decide) (backOf (W := 0) (rmF3 l Z a0 hw [] s_METHOD s_HEADER s_BODY s_HEARTBEAT s_ALL kc_s_ALL h0 n0 Z0 E_s_METHOD F_s_METHOD_octet E_s_HEADER F_s_HEADER_octet E_s_BODY F_s_BODY_octet E_s_HEARTBEAT F_s_HEARTBEAT_octet V_s_ALL S_ALL S_METHOD S_HEADER S_BODY S_HEARTBEAT) hZ (hw _ (List.mem_of_getElem? (i := 3) rfl)) (hw _ (List.mem_of_getElem? (i := 2) rfl)) (by decide) (by decide)) (g := (mkF m 28 #[.val (.int x0), .val (.int sel), .val (.int (1 : Int32)), .val (.int (3 : Int32)), .unset, .unset] [(.int (3 : Int32))])) rfl (by rw [hml]; rfl) (argsL := [(.int (3 : Int32))]) (rest := []) (lenOf pd0_0 rfl) rfl (by show 2 * 0 + _ ≤ _; exact Nat.le_of_eq rfl) (hb hby at_28) (fun _ _ => ⟨rfl, e0, (by decide : 0 + 0 ≤ _), (by decide : 0 + 0 ≤ _)⟩)
          dsimp only [Pt.U, Pt.locs, Pt.cells, Pt.slots] at X116 l116 y116 z116 st116 hQ116
          subst l116 y116 z116
          obtain ⟨rfl, N116q, eh116⟩ := hQ116
          have N116 := Fr.app N0 N116q
          refine Go.by st116 ?_
          show Go _ _ _ _ _ _ _ (T116.setTop (mkF m 31 #[.val (.int x0), .val (.int sel), .val (.int (1 : Int32)), .val (.int (3 : Int32)), .unset, .unset] [(.ref s_BODY)]))
          refine Go.by (fun _ kont => XS.astore X116.here hx rfl (hb hby at_31) rfl rfl (l' := #[.val (.int x0), .val (.int sel), .val (.int (1 : Int32)), .val (.int (3 : Int32)), .val (.ref s_BODY), .unset]) rfl (XS.iloadN X116.here hx rfl (hb hby at_33) rfl kont)) ?_
          show Go _ _ _ _ _ _ _ (T116.setTop (mkF m 34 #[.val (.int x0), .val (.int sel), .val (.int (1 : Int32)), .val (.int (3 : Int32)), .val (.ref s_BODY), .unset] [(.int (3 : Int32))]))
          obtain ⟨_, _, ⟨T117, L117, k117, n117⟩, -, X117, ⟨Lc117, hQ117, l117, y117, z117⟩, st117⟩ := Jvm.LawKit.callS X116 hx (y := (⟨"com/example/kyu/kyu/wire/FrameTypeFromOctetPinLaw", "expected", "(I)Lcom/example/kyu/kyu/wire/FrameType;"⟩ : MethodName)) hown (mvT hZ (hw _ (List.mem_of_getElem? (i := 12) rfl))) (mvT hZ (hw _ (List.mem_of_getElem? (i := 13) rfl))) (mvT hZ (hw _ (List.mem_of_getElem? (i := 14) rfl))) (mvT hZ (hw _ (List.mem_of_getElem? (i := 15) rfl))) (by decide) (backOf (W := 0) (rmX3 l Z a0 hw [] s_METHOD s_HEADER s_BODY s_HEARTBEAT s_ALL kc_s_ALL h0 n0 Z0 E_s_METHOD F_s_METHOD_octet E_s_HEADER F_s_HEADER_octet E_s_BODY F_s_BODY_octet E_s_HEARTBEAT F_s_HEARTBEAT_octet V_s_ALL S_ALL S_METHOD S_HEADER S_BODY S_HEARTBEAT) hZ (hw _ (List.mem_of_getElem? (i := 15) rfl)) (hw _ (List.mem_of_getElem? (i := 14) rfl)) (by decide) (by decide)) (g := (mkF m 34 #[.val (.int x0), .val (.int sel), .val (.int (1 : Int32)), .val (.int (3 : Int32)), .val (.ref s_BODY), .unset] [(.int (3 : Int32))])) rfl (by rw [hml]; rfl) (argsL := [(.int (3 : Int32))]) (rest := []) (lenOf pd0_0 rfl) rfl (by show 2 * 0 + _ ≤ _; exact Nat.le_of_eq rfl) (hb hby at_34) (fun _ _ => ⟨rfl, eh116, (by decide : 0 + 0 ≤ _), (by decide : 0 + 0 ≤ _)⟩)
          dsimp only [Pt.U, Pt.locs, Pt.cells, Pt.slots] at X117 l117 y117 z117 st117 hQ117
          subst l117 y117 z117
          obtain ⟨rfl, N117q, eh117⟩ := hQ117
          have N117 := Fr.app N116 N117q
          refine Go.by st117 ?_
          show Go _ _ _ _ _ _ _ (T117.setTop (mkF m 37 #[.val (.int x0), .val (.int sel), .val (.int (1 : Int32)), .val (.int (3 : Int32)), .val (.ref s_BODY), .unset] [(.ref s_BODY)]))
          refine Go.by (fun _ kont => XS.astore X117.here hx rfl (hb hby at_37) rfl rfl (l' := #[.val (.int x0), .val (.int sel), .val (.int (1 : Int32)), .val (.int (3 : Int32)), .val (.ref s_BODY), .val (.ref s_BODY)]) rfl (XS.aload X117.here hx rfl (hb hby at_39) rfl rfl (XS.aload X117.here hx rfl (hb hby at_41) rfl rfl kont))) ?_
          show Go _ _ _ _ _ _ _ (T117.setTop (mkF m 43 #[.val (.int x0), .val (.int sel), .val (.int (1 : Int32)), .val (.int (3 : Int32)), .val (.ref s_BODY), .val (.ref s_BODY)] [(.ref s_BODY), (.ref s_BODY)]))
          refine Go.by (fun _ kont => Jvm.RoadKit.acmp (g := (mkF m 43 #[.val (.int x0), .val (.int sel), .val (.int (1 : Int32)), .val (.int (3 : Int32)), .val (.ref s_BODY), .val (.ref s_BODY)] [(.ref s_BODY), (.ref s_BODY)])) X117 hx rfl rfl rfl (pc0 := 43) (pc' := 46) (same := true) rfl (hb hby at_43) rfl (decide_eq_true rfl) (by decide) (by decide) kont) ?_
          show Go _ _ _ _ _ _ _ (T117.setTop (mkF m 46 #[.val (.int x0), .val (.int sel), .val (.int (1 : Int32)), .val (.int (3 : Int32)), .val (.ref s_BODY), .val (.ref s_BODY)] []))
          refine Go.by (fun _ kont => XS.iconst X117.here hx rfl (hb hby at_46) (XS.goto X117.here hx rfl (pc0 := 47) (pc' := 51) rfl (hb hby at_47) (by decide) (by decide) kont)) ?_
          show Go _ _ _ _ _ _ _ (T117.setTop (mkF m 51 #[.val (.int x0), .val (.int sel), .val (.int (1 : Int32)), .val (.int (3 : Int32)), .val (.ref s_BODY), .val (.ref s_BODY)] [(.int (1 : Int32))]))
          refine Go.retN X117 hx (t := .boolean) hret (by simp) hlk (hb hby at_51) ?_ (by decide) (by decide)
          show Q0 Z h0 n0 (some (.int (1 : Int32))) T117.heap _
          rw [eh117]
          exact ⟨rfl, N117⟩
        · by_cases hq8 : oo = (8 : Int32)
          · rw [hq8]
            show Go _ _ _ _ _ _ _ (s₁.setTop (mkF m 27 #[.val (.int x0), .val (.int sel), .val (.int (1 : Int32)), .val (.int (8 : Int32)), .unset, .unset] []))
            refine Go.by (fun _ kont => XS.iloadN X0.here hx rfl (hb hby at_27) rfl kont) ?_
            show Go _ _ _ _ _ _ _ (s₁.setTop (mkF m 28 #[.val (.int x0), .val (.int sel), .val (.int (1 : Int32)), .val (.int (8 : Int32)), .unset, .unset] [(.int (8 : Int32))]))
            obtain ⟨_, _, ⟨T118, L118, k118, n118⟩, -, X118, ⟨Lc118, hQ118, l118, y118, z118⟩, st118⟩ := Jvm.LawKit.callS X0 hx (y := (⟨"com/example/kyu/kyu/wire/FrameType", "fromOctet", "(I)Lcom/example/kyu/kyu/wire/FrameType;"⟩ : MethodName)) hown (mvT hZ (hw _ (List.mem_of_getElem? (i := 0) rfl))) (mvT hZ (hw _ (List.mem_of_getElem? (i := 1) rfl))) (mvT hZ (hw _ (List.mem_of_getElem? (i := 2) rfl))) (mvT hZ (hw _ (List.mem_of_getElem? (i := 3) rfl))) (by decide) (backOf (W := 0) (rmF8 l Z a0 hw [] s_METHOD s_HEADER s_BODY s_HEARTBEAT s_ALL kc_s_ALL h0 n0 Z0 E_s_METHOD F_s_METHOD_octet E_s_HEADER F_s_HEADER_octet E_s_BODY F_s_BODY_octet E_s_HEARTBEAT F_s_HEARTBEAT_octet V_s_ALL S_ALL S_METHOD S_HEADER S_BODY S_HEARTBEAT) hZ (hw _ (List.mem_of_getElem? (i := 3) rfl)) (hw _ (List.mem_of_getElem? (i := 2) rfl)) (by decide) (by decide)) (g := (mkF m 28 #[.val (.int x0), .val (.int sel), .val (.int (1 : Int32)), .val (.int (8 : Int32)), .unset, .unset] [(.int (8 : Int32))])) rfl (by rw [hml]; rfl) (argsL := [(.int (8 : Int32))]) (rest := []) (lenOf pd0_0 rfl) rfl (by show 2 * 0 + _ ≤ _; exact Nat.le_of_eq rfl) (hb hby at_28) (fun _ _ => ⟨rfl, e0, (by decide : 0 + 0 ≤ _), (by decide : 0 + 0 ≤ _)⟩)
            dsimp only [Pt.U, Pt.locs, Pt.cells, Pt.slots] at X118 l118 y118 z118 st118 hQ118
            subst l118 y118 z118
            obtain ⟨rfl, N118q, eh118⟩ := hQ118
            have N118 := Fr.app N0 N118q
            refine Go.by st118 ?_
            show Go _ _ _ _ _ _ _ (T118.setTop (mkF m 31 #[.val (.int x0), .val (.int sel), .val (.int (1 : Int32)), .val (.int (8 : Int32)), .unset, .unset] [(.ref s_HEARTBEAT)]))
            refine Go.by (fun _ kont => XS.astore X118.here hx rfl (hb hby at_31) rfl rfl (l' := #[.val (.int x0), .val (.int sel), .val (.int (1 : Int32)), .val (.int (8 : Int32)), .val (.ref s_HEARTBEAT), .unset]) rfl (XS.iloadN X118.here hx rfl (hb hby at_33) rfl kont)) ?_
            show Go _ _ _ _ _ _ _ (T118.setTop (mkF m 34 #[.val (.int x0), .val (.int sel), .val (.int (1 : Int32)), .val (.int (8 : Int32)), .val (.ref s_HEARTBEAT), .unset] [(.int (8 : Int32))]))
            obtain ⟨_, _, ⟨T119, L119, k119, n119⟩, -, X119, ⟨Lc119, hQ119, l119, y119, z119⟩, st119⟩ := Jvm.LawKit.callS X118 hx (y := (⟨"com/example/kyu/kyu/wire/FrameTypeFromOctetPinLaw", "expected", "(I)Lcom/example/kyu/kyu/wire/FrameType;"⟩ : MethodName)) hown (mvT hZ (hw _ (List.mem_of_getElem? (i := 12) rfl))) (mvT hZ (hw _ (List.mem_of_getElem? (i := 13) rfl))) (mvT hZ (hw _ (List.mem_of_getElem? (i := 14) rfl))) (mvT hZ (hw _ (List.mem_of_getElem? (i := 15) rfl))) (by decide) (backOf (W := 0) (rmX8 l Z a0 hw [] s_METHOD s_HEADER s_BODY s_HEARTBEAT s_ALL kc_s_ALL h0 n0 Z0 E_s_METHOD F_s_METHOD_octet E_s_HEADER F_s_HEADER_octet E_s_BODY F_s_BODY_octet E_s_HEARTBEAT F_s_HEARTBEAT_octet V_s_ALL S_ALL S_METHOD S_HEADER S_BODY S_HEARTBEAT) hZ (hw _ (List.mem_of_getElem? (i := 15) rfl)) (hw _ (List.mem_of_getElem? (i := 14) rfl)) (by decide) (by decide)) (g := (mkF m 34 #[.val (.int x0), .val (.int sel), .val (.int (1 : Int32)), .val (.int (8 : Int32)), .val (.ref s_HEARTBEAT), .unset] [(.int (8 : Int32))])) rfl (by rw [hml]; rfl) (argsL := [(.int (8 : Int32))]) (rest := []) (lenOf pd0_0 rfl) rfl (by show 2 * 0 + _ ≤ _; exact Nat.le_of_eq rfl) (hb hby at_34) (fun _ _ => ⟨rfl, eh118, (by decide : 0 + 0 ≤ _), (by decide : 0 + 0 ≤ _)⟩)
            dsimp only [Pt.U, Pt.locs, Pt.cells, Pt.slots] at X119 l119 y119 z119 st119 hQ119
            subst l119 y119 z119
            obtain ⟨rfl, N119q, eh119⟩ := hQ119
            have N119 := Fr.app N118 N119q
            refine Go.by st119 ?_
            show Go _ _ _ _ _ _ _ (T119.setTop (mkF m 37 #[.val (.int x0), .val (.int sel), .val (.int (1 : Int32)), .val (.int (8 : Int32)), .val (.ref s_HEARTBEAT), .unset] [(.ref s_HEARTBEAT)]))
            refine Go.by (fun _ kont => XS.astore X119.here hx rfl (hb hby at_37) rfl rfl (l' := #[.val (.int x0), .val (.int sel), .val (.int (1 : Int32)), .val (.int (8 : Int32)), .val (.ref s_HEARTBEAT), .val (.ref s_HEARTBEAT)]) rfl (XS.aload X119.here hx rfl (hb hby at_39) rfl rfl (XS.aload X119.here hx rfl (hb hby at_41) rfl rfl kont))) ?_
            show Go _ _ _ _ _ _ _ (T119.setTop (mkF m 43 #[.val (.int x0), .val (.int sel), .val (.int (1 : Int32)), .val (.int (8 : Int32)), .val (.ref s_HEARTBEAT), .val (.ref s_HEARTBEAT)] [(.ref s_HEARTBEAT), (.ref s_HEARTBEAT)]))
            refine Go.by (fun _ kont => Jvm.RoadKit.acmp (g := (mkF m 43 #[.val (.int x0), .val (.int sel), .val (.int (1 : Int32)), .val (.int (8 : Int32)), .val (.ref s_HEARTBEAT), .val (.ref s_HEARTBEAT)] [(.ref s_HEARTBEAT), (.ref s_HEARTBEAT)])) X119 hx rfl rfl rfl (pc0 := 43) (pc' := 46) (same := true) rfl (hb hby at_43) rfl (decide_eq_true rfl) (by decide) (by decide) kont) ?_
            show Go _ _ _ _ _ _ _ (T119.setTop (mkF m 46 #[.val (.int x0), .val (.int sel), .val (.int (1 : Int32)), .val (.int (8 : Int32)), .val (.ref s_HEARTBEAT), .val (.ref s_HEARTBEAT)] []))
            refine Go.by (fun _ kont => XS.iconst X119.here hx rfl (hb hby at_46) (XS.goto X119.here hx rfl (pc0 := 47) (pc' := 51) rfl (hb hby at_47) (by decide) (by decide) kont)) ?_
            show Go _ _ _ _ _ _ _ (T119.setTop (mkF m 51 #[.val (.int x0), .val (.int sel), .val (.int (1 : Int32)), .val (.int (8 : Int32)), .val (.ref s_HEARTBEAT), .val (.ref s_HEARTBEAT)] [(.int (1 : Int32))]))
            refine Go.retN X119 hx (t := .boolean) hret (by simp) hlk (hb hby at_51) ?_ (by decide) (by decide)
            show Q0 Z h0 n0 (some (.int (1 : Int32))) T119.heap _
            rw [eh119]
            exact ⟨rfl, N119⟩
          · have hr1 : ¬ ((1 : Int32) = oo) := fun q => hq1 q.symm
            have hr2 : ¬ ((2 : Int32) = oo) := fun q => hq2 q.symm
            have hr3 : ¬ ((3 : Int32) = oo) := fun q => hq3 q.symm
            have hr8 : ¬ ((8 : Int32) = oo) := fun q => hq8 q.symm
            show Go _ _ _ _ _ _ _ (s₁.setTop (mkF m 27 #[.val (.int x0), .val (.int sel), .val (.int (1 : Int32)), .val (.int oo), .unset, .unset] []))
            refine Go.by (fun _ kont => XS.iloadN X0.here hx rfl (hb hby at_27) rfl kont) ?_
            show Go _ _ _ _ _ _ _ (s₁.setTop (mkF m 28 #[.val (.int x0), .val (.int sel), .val (.int (1 : Int32)), .val (.int oo), .unset, .unset] [(.int oo)]))
            obtain ⟨_, _, ⟨T120, L120, k120, n120⟩, -, X120, ⟨Lc120, hQ120, l120, y120, z120⟩, st120⟩ := Jvm.LawKit.callS X0 hx (y := (⟨"com/example/kyu/kyu/wire/FrameType", "fromOctet", "(I)Lcom/example/kyu/kyu/wire/FrameType;"⟩ : MethodName)) hown (mvT hZ (hw _ (List.mem_of_getElem? (i := 0) rfl))) (mvT hZ (hw _ (List.mem_of_getElem? (i := 1) rfl))) (mvT hZ (hw _ (List.mem_of_getElem? (i := 2) rfl))) (mvT hZ (hw _ (List.mem_of_getElem? (i := 3) rfl))) (by decide) (backOf (W := 0) (rmFN l Z a0 hw [] oo s_METHOD s_HEADER s_BODY s_HEARTBEAT s_ALL kc_s_ALL h0 n0 Z0 E_s_METHOD F_s_METHOD_octet E_s_HEADER F_s_HEADER_octet E_s_BODY F_s_BODY_octet E_s_HEARTBEAT F_s_HEARTBEAT_octet V_s_ALL S_ALL S_METHOD S_HEADER S_BODY S_HEARTBEAT hq1 hq2 hq3 hq8 hr1 hr2 hr3 hr8) hZ (hw _ (List.mem_of_getElem? (i := 3) rfl)) (hw _ (List.mem_of_getElem? (i := 2) rfl)) (by decide) (by decide)) (g := (mkF m 28 #[.val (.int x0), .val (.int sel), .val (.int (1 : Int32)), .val (.int oo), .unset, .unset] [(.int oo)])) rfl (by rw [hml]; rfl) (argsL := [(.int oo)]) (rest := []) (lenOf pd0_0 rfl) rfl (by show 2 * 0 + _ ≤ _; exact Nat.le_of_eq rfl) (hb hby at_28) (fun _ _ => ⟨rfl, e0, (by decide : 0 + 0 ≤ _), (by decide : 0 + 0 ≤ _)⟩)
            dsimp only [Pt.U, Pt.locs, Pt.cells, Pt.slots] at X120 l120 y120 z120 st120 hQ120
            subst l120 y120 z120
            obtain ⟨rfl, N120q, eh120⟩ := hQ120
            have N120 := Fr.app N0 N120q
            refine Go.by st120 ?_
            show Go _ _ _ _ _ _ _ (T120.setTop (mkF m 31 #[.val (.int x0), .val (.int sel), .val (.int (1 : Int32)), .val (.int oo), .unset, .unset] [.null]))
            refine Go.by (fun _ kont => XS.astore X120.here hx rfl (hb hby at_31) rfl rfl (l' := #[.val (.int x0), .val (.int sel), .val (.int (1 : Int32)), .val (.int oo), .val .null, .unset]) rfl (XS.iloadN X120.here hx rfl (hb hby at_33) rfl kont)) ?_
            show Go _ _ _ _ _ _ _ (T120.setTop (mkF m 34 #[.val (.int x0), .val (.int sel), .val (.int (1 : Int32)), .val (.int oo), .val .null, .unset] [(.int oo)]))
            obtain ⟨_, _, ⟨T121, L121, k121, n121⟩, -, X121, ⟨Lc121, hQ121, l121, y121, z121⟩, st121⟩ := Jvm.LawKit.callS X120 hx (y := (⟨"com/example/kyu/kyu/wire/FrameTypeFromOctetPinLaw", "expected", "(I)Lcom/example/kyu/kyu/wire/FrameType;"⟩ : MethodName)) hown (mvT hZ (hw _ (List.mem_of_getElem? (i := 12) rfl))) (mvT hZ (hw _ (List.mem_of_getElem? (i := 13) rfl))) (mvT hZ (hw _ (List.mem_of_getElem? (i := 14) rfl))) (mvT hZ (hw _ (List.mem_of_getElem? (i := 15) rfl))) (by decide) (backOf (W := 0) (rmXN l Z a0 hw [] oo s_METHOD s_HEADER s_BODY s_HEARTBEAT s_ALL kc_s_ALL h0 n0 Z0 E_s_METHOD F_s_METHOD_octet E_s_HEADER F_s_HEADER_octet E_s_BODY F_s_BODY_octet E_s_HEARTBEAT F_s_HEARTBEAT_octet V_s_ALL S_ALL S_METHOD S_HEADER S_BODY S_HEARTBEAT hq1 hq2 hq3 hq8 hr1 hr2 hr3 hr8) hZ (hw _ (List.mem_of_getElem? (i := 15) rfl)) (hw _ (List.mem_of_getElem? (i := 14) rfl)) (by decide) (by decide)) (g := (mkF m 34 #[.val (.int x0), .val (.int sel), .val (.int (1 : Int32)), .val (.int oo), .val .null, .unset] [(.int oo)])) rfl (by rw [hml]; rfl) (argsL := [(.int oo)]) (rest := []) (lenOf pd0_0 rfl) rfl (by show 2 * 0 + _ ≤ _; exact Nat.le_of_eq rfl) (hb hby at_34) (fun _ _ => ⟨rfl, eh120, (by decide : 0 + 0 ≤ _), (by decide : 0 + 0 ≤ _)⟩)
            dsimp only [Pt.U, Pt.locs, Pt.cells, Pt.slots] at X121 l121 y121 z121 st121 hQ121
            subst l121 y121 z121
            obtain ⟨rfl, N121q, eh121⟩ := hQ121
            have N121 := Fr.app N120 N121q
            refine Go.by st121 ?_
            show Go _ _ _ _ _ _ _ (T121.setTop (mkF m 37 #[.val (.int x0), .val (.int sel), .val (.int (1 : Int32)), .val (.int oo), .val .null, .unset] [.null]))
            refine Go.by (fun _ kont => XS.astore X121.here hx rfl (hb hby at_37) rfl rfl (l' := #[.val (.int x0), .val (.int sel), .val (.int (1 : Int32)), .val (.int oo), .val .null, .val .null]) rfl (XS.aload X121.here hx rfl (hb hby at_39) rfl rfl (XS.aload X121.here hx rfl (hb hby at_41) rfl rfl kont))) ?_
            show Go _ _ _ _ _ _ _ (T121.setTop (mkF m 43 #[.val (.int x0), .val (.int sel), .val (.int (1 : Int32)), .val (.int oo), .val .null, .val .null] [.null, .null]))
            refine Go.by (fun _ kont => Jvm.RoadKit.acmp (g := (mkF m 43 #[.val (.int x0), .val (.int sel), .val (.int (1 : Int32)), .val (.int oo), .val .null, .val .null] [.null, .null])) X121 hx rfl rfl rfl (pc0 := 43) (pc' := 46) (same := true) rfl (hb hby at_43) rfl (decide_eq_true rfl) (by decide) (by decide) kont) ?_
            show Go _ _ _ _ _ _ _ (T121.setTop (mkF m 46 #[.val (.int x0), .val (.int sel), .val (.int (1 : Int32)), .val (.int oo), .val .null, .val .null] []))
            refine Go.by (fun _ kont => XS.iconst X121.here hx rfl (hb hby at_46) (XS.goto X121.here hx rfl (pc0 := 47) (pc' := 51) rfl (hb hby at_47) (by decide) (by decide) kont)) ?_
            show Go _ _ _ _ _ _ _ (T121.setTop (mkF m 51 #[.val (.int x0), .val (.int sel), .val (.int (1 : Int32)), .val (.int oo), .val .null, .val .null] [(.int (1 : Int32))]))
            refine Go.retN X121 hx (t := .boolean) hret (by simp) hlk (hb hby at_51) ?_ (by decide) (by decide)
            show Q0 Z h0 n0 (some (.int (1 : Int32))) T121.heap _
            rw [eh121]
            exact ⟨rfl, N121⟩

set_option maxRecDepth 65536 in
set_option maxHeartbeats 40000000 in
theorem comes_1 {Post : Tables → Env → Array Value → State → Outcome → State → Prop} (hpost : ∀ tb e args s v u, (limb_1_1.after args s (.returned v) u = true ∧ limb_1_2.after args s (.returned v) u = true ∧ True) → FrameEnd s (.returned v) u (Jvm.fieldLocs frame_1_writes args s ++ Jvm.arrayLocs frame_1_arrays args s ++ Jvm.staticLocs frame_1_statics s) 0 0 → Post tb e args s (.returned v) u) :
    ArmFor flags0 classFile x code maxLocals ret World_1 tables_1 room_1 Calls_1 rest_1 Pre_1 Post := by
  intro l hfl _ _ p e ha hc hk s m args below hf hA hF happ hP
  obtain ⟨hcalls, hrest, hpre⟩ := hP
  obtain ⟨-, -, -, hnamed, -, -, -, hat⟩ := (Spec.applies_iff hf).mp happ
  obtain ⟨hg, hn⟩ := and_e (Cond.before_iff.mp (show (Jvm.Cond.and given_1 narrow_1).before args s = true from hpre))
  obtain ⟨hh1, hh2⟩ := and_e hg
  obtain ⟨hh3, hh4⟩ := and_e hh2
  obtain ⟨w0, w1, rfl⟩ : ∃ w0 w1 : Value, args = #[w0, w1] := by
    have hs : args.size = 2 := by simpa [Cond.value, given_1] using hh1
    obtain ⟨L⟩ := args
    match L, hs with
    | [w0, w1], _ => exact ⟨w0, w1, rfl⟩
  have hw := fun d (hd : d ∈ tables_1) => atoms_spec (ws := Jvm.Cond.code x code maxLocals ret :: tables_1) hat d (List.mem_cons_of_mem _ hd)
  obtain ⟨i0, ei0⟩ := is_v hh3
  obtain rfl : w0 = (.int i0) := Option.some.inj ei0
  obtain ⟨i1, ei1⟩ := is_v hh4
  obtain rfl : w1 = (.int i1) := Option.some.inj ei1
  have hfit : Fit s := fun {y c} hc i hi => by
    obtain ⟨ha, rfl⟩ := Array.getElem?_eq_some_iff.mp hc
    have q := List.all_eq_true.mp ((Array.all_eq_true_iff_forall_mem.mp hF) _ (Array.getElem_mem ha)) i (List.mem_range.mpr hi)
    simpa [Array.getElem?_eq_getElem hi] using q
  obtain ⟨hm1, hm2⟩ := and_e hn
  obtain ⟨hm3, hm4⟩ := and_e hm2
  obtain ⟨hm5, hm6⟩ := and_e hm4
  obtain ⟨hm7, hm8⟩ := and_e hm6
  obtain ⟨hm9, hm10⟩ := and_e hm8
  obtain ⟨hm11, hm12⟩ := and_e hm10
  obtain ⟨hm13, hm14⟩ := and_e hm12
  obtain ⟨hm15, hm16⟩ := and_e hm14
  obtain ⟨hm17, hm18⟩ := and_e hm16
  obtain ⟨hm19, hm20⟩ := and_e hm18
  obtain ⟨hm21, hm22⟩ := and_e hm20
  obtain ⟨hm23, hm24⟩ := and_e hm22
  obtain ⟨hm25, hm26⟩ := and_e hm24
  obtain ⟨s_ALL, ev27⟩ := arr_v hm1
  have S_ALL : Sta s s.heap "com/example/kyu/kyu/wire/FrameType" "ALL" "[Lcom/example/kyu/kyu/wire/FrameType;" (.ref s_ALL) := Sta.start ev27 (Or.inr ⟨(hw _ (List.mem_of_getElem? (i := 2) rfl)), (hw _ (List.mem_of_getElem? (i := 5) rfl))⟩)
  obtain ⟨cl_s_ALL, Ar_s_ALL⟩ := Arr.start ev27 hm1
  have L_s_ALL := own_lenv (own_eqI hm3) ev27 Ar_s_ALL.1
  obtain ⟨s_METHOD, ev29⟩ := exa_v hm5
  have S_METHOD : Sta s s.heap "com/example/kyu/kyu/wire/FrameType" "METHOD" "Lcom/example/kyu/kyu/wire/FrameType;" (.ref s_METHOD) := Sta.start ev29 (Or.inr ⟨(hw _ (List.mem_of_getElem? (i := 2) rfl)), (hw _ (List.mem_of_getElem? (i := 6) rfl))⟩)
  have E_s_METHOD : Exa s s.heap s_METHOD "com/example/kyu/kyu/wire/FrameType" := Exa.start ev29 hm5
  have El_s_ALL_0 := (elem_in (own_eqR hm7 ev29) ev27 (Term.int_eval _) Ar_s_ALL.1).2
  have F_s_METHOD_octet : Fld s s.heap s_METHOD "com/example/kyu/kyu/wire/FrameType" "octet" "I" (.int (1 : Int32)) := Fld.start ((fld_at ev29).symm.trans (own_eqI hm9))
  obtain ⟨s_HEADER, ev32⟩ := exa_v hm11
  have S_HEADER : Sta s s.heap "com/example/kyu/kyu/wire/FrameType" "HEADER" "Lcom/example/kyu/kyu/wire/FrameType;" (.ref s_HEADER) := Sta.start ev32 (Or.inr ⟨(hw _ (List.mem_of_getElem? (i := 2) rfl)), (hw _ (List.mem_of_getElem? (i := 9) rfl))⟩)
  have E_s_HEADER : Exa s s.heap s_HEADER "com/example/kyu/kyu/wire/FrameType" := Exa.start ev32 hm11
  have El_s_ALL_1 := (elem_in (own_eqR hm13 ev32) ev27 (Term.int_eval _) Ar_s_ALL.1).2
  have F_s_HEADER_octet : Fld s s.heap s_HEADER "com/example/kyu/kyu/wire/FrameType" "octet" "I" (.int (2 : Int32)) := Fld.start ((fld_at ev32).symm.trans (own_eqI hm15))
  obtain ⟨s_BODY, ev35⟩ := exa_v hm17
  have S_BODY : Sta s s.heap "com/example/kyu/kyu/wire/FrameType" "BODY" "Lcom/example/kyu/kyu/wire/FrameType;" (.ref s_BODY) := Sta.start ev35 (Or.inr ⟨(hw _ (List.mem_of_getElem? (i := 2) rfl)), (hw _ (List.mem_of_getElem? (i := 10) rfl))⟩)
  have E_s_BODY : Exa s s.heap s_BODY "com/example/kyu/kyu/wire/FrameType" := Exa.start ev35 hm17
  have El_s_ALL_2 := (elem_in (own_eqR hm19 ev35) ev27 (Term.int_eval _) Ar_s_ALL.1).2
  have F_s_BODY_octet : Fld s s.heap s_BODY "com/example/kyu/kyu/wire/FrameType" "octet" "I" (.int (3 : Int32)) := Fld.start ((fld_at ev35).symm.trans (own_eqI hm21))
  obtain ⟨s_HEARTBEAT, ev38⟩ := exa_v hm23
  have S_HEARTBEAT : Sta s s.heap "com/example/kyu/kyu/wire/FrameType" "HEARTBEAT" "Lcom/example/kyu/kyu/wire/FrameType;" (.ref s_HEARTBEAT) := Sta.start ev38 (Or.inr ⟨(hw _ (List.mem_of_getElem? (i := 2) rfl)), (hw _ (List.mem_of_getElem? (i := 11) rfl))⟩)
  have E_s_HEARTBEAT : Exa s s.heap s_HEARTBEAT "com/example/kyu/kyu/wire/FrameType" := Exa.start ev38 hm23
  have El_s_ALL_3 := (elem_in (own_eqR hm25 ev38) ev27 (Term.int_eval _) Ar_s_ALL.1).2
  have F_s_HEARTBEAT_octet : Fld s s.heap s_HEARTBEAT "com/example/kyu/kyu/wire/FrameType" "octet" "I" (.int (8 : Int32)) := Fld.start ((fld_at ev38).symm.trans (own_eqI hm26))
  have V_s_ALL : Arv s s.heap s_ALL cl_s_ALL.cls (.object "com/example/kyu/kyu/wire/FrameType") (4 : Int32) [(.ref s_METHOD), (.ref s_HEADER), (.ref s_BODY), (.ref s_HEARTBEAT)] .null := Arv.start hfit Ar_s_ALL L_s_ALL.1 L_s_ALL.2 (by decide) rfl ⟨El_s_ALL_0, El_s_ALL_1, El_s_ALL_2, El_s_ALL_3, trivial⟩
  obtain ⟨n, o, h1, h2, h3, _, L, rfl, ⟨rfl, N⟩, hq⟩ := rm0 l s _ hw tables_1 i0 i1 s_ALL s_METHOD s_HEADER s_BODY s_HEARTBEAT cl_s_ALL.cls s.heap s.heap.size (Nat.le_refl _) S_ALL S_METHOD S_HEADER S_BODY S_HEARTBEAT E_s_METHOD E_s_HEADER E_s_BODY E_s_HEARTBEAT F_s_METHOD_octet F_s_HEADER_octet F_s_BODY_octet F_s_HEARTBEAT_octet V_s_ALL p e ha hc hk s m _ below hf ((Spec.applies_iff_loose hf).mp happ).1 ⟨rfl, State.Warmed39.refl s, rfl⟩ trivial
  refine ⟨n, _, h1, h2, h3, hpost _ _ _ _ _ _ ⟨Cond.after_iff.mpr rfl, Cond.after_iff.mpr (eq_i res_at (Term.int_eval (1)) rfl), trivial⟩ ⟨hq.1, hq.2.1, (hq.2.2.sift fun y hy => Or.inr (N y hy)).mono (by decide) (by decide)⟩⟩
theorem main_1_1 : Claimed_1_1 := comes_1 fun _ _ _ _ _ _ h hF => ⟨h.1, hF⟩
theorem main_1_2 : Claimed_1_2 := comes_1 fun _ _ _ _ _ _ h hF => ⟨h.2.1, hF⟩

end Jvm.Pilot.@@N@@
namespace Jvm.Pilot.@@N@@
open Jvm Jvm.ClassFile Sem Op Lib Jvm.Free Jvm.Stand Jvm.Pilot.@@N@@.Jvm.D
/-! MADE BY PROGRAM (witnessworld.py) out of the Statement's table words and the real class files: 13 classes; the members and pool entries that the words name. The judged class is class 1, her method 2. -/
namespace start1
open Jvm.ClassFile
def u (s : String) : CpInfo := .utf8 (stringToUtf16 s)
/-- a pool by its gaps: so many unusable entries, then the entry; so many at the end -/
def gap : Nat → List CpInfo → List CpInfo
  | 0, r => r
  | n + 1, r => .unusable :: gap n r
def poolList (es : List (Nat × CpInfo)) (last : Nat) : List CpInfo := es.foldr (fun e r => gap e.1 (e.2 :: r)) (gap last [])
def pool (es : List (Nat × CpInfo)) (last : Nat) : Array CpInfo := ⟨poolList es last⟩
def fileOf (pool : Array CpInfo) (this : Nat) (attrs : Array Attribute := #[]) (ms : Array MethodInfo := #[]) (fl : Nat := 33) (sup : Nat := 0) (ifs : Array Nat := #[]) (fds : Array FieldInfo := #[]) : ClassFile where
  minorVersion := 0
  majorVersion := 65
  constantPool := pool
  accessFlags := fl
  thisClass := this
  superClass := sup
  interfaces := ifs
  fields := fds
  methods := ms
  attributes := attrs
def plain (name : String) (sup : Option ClassId) : Class where
  name := name
  kind := .ordinary
  loader := none
  accessFlags := 33
  super := sup
  interfaces := #[]
  cf := none
  fields := #[]
  methods := #[]
  instanceTypes := #[]
  staticTypes := #[]
  resolved := #[]
  callSites := []
  init := .initialized
  statics := none
  mirror := none

def pool0 : Array CpInfo := pool [(5, u "<init>"), (0, u "()V"), (1, .class_ 10), (1, u "java/lang/Object")] 113

def k0m0 : Method := { name := "<init>", desc := "()V", sig := { parameters := [], returnType := none }, accessFlags := 1, code := none }
/-- java/lang/Object -/
def k0 : Class := { plain "java/lang/Object" none with
  accessFlags := 33
  interfaces := #[]
  cf := some (fileOf pool0 8 #[] #[{ accessFlags := 1, nameIndex := 5, descriptorIndex := 6, attributes := #[] }] 33 0 #[] #[])
  fields := #[]
  methods := #[k0m0]
  instanceTypes := #[]
  staticTypes := #[]
  resolved := Array.replicate 124 none
  statics := none }

def pool1 : Array CpInfo := pool [(2, .class_ 4), (1, u "java/lang/Object"), (0, u "<init>"), (0, u "()V"), (0, .fieldref 8 9), (0, .class_ 10), (0, .nameAndType 11 12), (0, u "com/example/kyu/kyu/wire/FrameType"), (0, u "METHOD"), (0, u "Lcom/example/kyu/kyu/wire/FrameType;"), (0, .fieldref 8 14), (0, .nameAndType 15 12), (0, u "HEADER"), (0, .fieldref 8 17), (0, .nameAndType 18 12), (0, u "BODY"), (0, .fieldref 8 20), (0, .nameAndType 21 12), (0, u "HEARTBEAT"), (0, .methodref 8 23), (0, .nameAndType 24 25), (0, u "fromOctet"), (0, u "(I)Lcom/example/kyu/kyu/wire/FrameType;"), (0, .methodref 27 28), (0, .class_ 29), (0, .nameAndType 30 25), (0, u "com/example/kyu/kyu/wire/FrameTypeFromOctetPinLaw"), (0, u "expected"), (3, u "law"), (0, u "(II)Z")] 2

def k1m0 : Method := { name := "<init>", desc := "()V", sig := { parameters := [], returnType := none }, accessFlags := 2, code := none }
def k1c1 : Code := { maxStack := 2, maxLocals := 1, code := method_2_code, exceptionTable := #[], attributes := #[] }
def k1m1 : Method := { name := "expected", desc := "(I)Lcom/example/kyu/kyu/wire/FrameType;", sig := { parameters := [.int], returnType := some (.object "com/example/kyu/kyu/wire/FrameType") }, accessFlags := 10, code := some k1c1 }
def k1c2 : Code := { maxStack := 2, maxLocals := 6, code := code, exceptionTable := #[], attributes := #[] }
def k1m2 : Method := { name := "law", desc := "(II)Z", sig := { parameters := [.int, .int], returnType := some .boolean }, accessFlags := 9, code := some k1c2 }
/-- com/example/kyu/kyu/wire/FrameTypeFromOctetPinLaw -/
def k1 : Class := { plain "com/example/kyu/kyu/wire/FrameTypeFromOctetPinLaw" (some 0) with
  accessFlags := 49
  interfaces := #[]
  cf := some (fileOf pool1 27 #[] #[{ accessFlags := 2, nameIndex := 5, descriptorIndex := 6, attributes := #[] }, { accessFlags := 10, nameIndex := 30, descriptorIndex := 25, attributes := #[] }, { accessFlags := 9, nameIndex := 34, descriptorIndex := 35, attributes := #[] }] 49 2 #[] #[])
  fields := #[]
  methods := #[k1m0, k1m1, k1m2]
  instanceTypes := #[]
  staticTypes := #[]
  resolved := Array.replicate 38 none
  statics := none }

def pool2 : Array CpInfo := pool [(1, .class_ 2), (0, u "java/lang/constant/Constable"), (0, .class_ 4), (0, u "java/lang/Object")] 6

/-- java/lang/constant/Constable -/
def k2 : Class := { plain "java/lang/constant/Constable" (some 0) with
  accessFlags := 1537
  interfaces := #[]
  cf := some (fileOf pool2 1 #[] #[] 1537 3 #[] #[])
  fields := #[]
  methods := #[]
  instanceTypes := #[]
  staticTypes := #[]
  resolved := Array.replicate 11 none
  statics := none }

def pool3 : Array CpInfo := pool [(1, .class_ 2), (0, u "java/lang/Comparable"), (0, .class_ 4), (0, u "java/lang/Object")] 7

/-- java/lang/Comparable -/
def k3 : Class := { plain "java/lang/Comparable" (some 0) with
  accessFlags := 1537
  interfaces := #[]
  cf := some (fileOf pool3 1 #[] #[] 1537 3 #[] #[])
  fields := #[]
  methods := #[]
  instanceTypes := #[]
  staticTypes := #[]
  resolved := Array.replicate 12 none
  statics := none }

def pool4 : Array CpInfo := pool [(1, .class_ 2), (0, u "java/io/Serializable"), (0, .class_ 4), (0, u "java/lang/Object")] 2

/-- java/io/Serializable -/
def k4 : Class := { plain "java/io/Serializable" (some 0) with
  accessFlags := 1537
  interfaces := #[]
  cf := some (fileOf pool4 1 #[] #[] 1537 3 #[] #[])
  fields := #[]
  methods := #[]
  instanceTypes := #[]
  staticTypes := #[]
  resolved := Array.replicate 7 none
  statics := none }

def pool5 : Array CpInfo := pool [(2, .class_ 4), (1, u "java/lang/Enum"), (0, u "name"), (0, u "Ljava/lang/String;"), (2, u "ordinal"), (0, u "I"), (1, .class_ 14), (1, u "java/lang/Object"), (4, u "hash"), (86, .class_ 108), (1, u "java/lang/Enum$EnumDesc"), (2, .class_ 112), (0, u "java/lang/constant/Constable"), (0, .class_ 114), (0, u "java/lang/Comparable"), (0, .class_ 116), (0, u "java/io/Serializable")] 87

/-- java/lang/Enum -/
def k5 : Class := { plain "java/lang/Enum" (some 0) with
  accessFlags := 1057
  interfaces := #[2, 3, 4]
  cf := some (fileOf pool5 2 #[.nestMembers #[106]] #[] 1057 12 #[111, 113, 115] #[{ accessFlags := 18, nameIndex := 5, descriptorIndex := 6, attributes := #[] }, { accessFlags := 18, nameIndex := 9, descriptorIndex := 10, attributes := #[] }, { accessFlags := 2, nameIndex := 19, descriptorIndex := 10, attributes := #[] }])
  fields := #[{ name := "name", type := (.object "java/lang/String"), accessFlags := 18, slot := 0, constantValue := 0 }, { name := "ordinal", type := .int, accessFlags := 18, slot := 1, constantValue := 0 }, { name := "hash", type := .int, accessFlags := 2, slot := 2, constantValue := 0 }]
  methods := #[]
  instanceTypes := #[(.object "java/lang/String"), .int, .int]
  staticTypes := #[]
  resolved := Array.replicate 204 none
  statics := none }

def pool6 : Array CpInfo := pool [(1, .class_ 2), (0, u "com/example/kyu/kyu/wire/FrameType"), (2, u "METHOD"), (0, u "Lcom/example/kyu/kyu/wire/FrameType;"), (2, u "HEADER"), (2, u "BODY"), (2, u "HEARTBEAT"), (2, u "$VALUES"), (0, u "[Lcom/example/kyu/kyu/wire/FrameType;"), (6, .class_ 28), (1, u "java/lang/Enum"), (6, .fieldref 1 36), (0, .nameAndType 37 38), (0, u "octet"), (0, u "I"), (0, .fieldref 1 40), (0, .nameAndType 41 19), (0, u "ALL"), (21, u "fromOctet"), (0, u "(I)Lcom/example/kyu/kyu/wire/FrameType;")] 6

def k6c0 : Code := { maxStack := 2, maxLocals := 6, code := prog_22_method_5_code, exceptionTable := #[], attributes := #[] }
def k6m0 : Method := { name := "fromOctet", desc := "(I)Lcom/example/kyu/kyu/wire/FrameType;", sig := { parameters := [.int], returnType := some (.object "com/example/kyu/kyu/wire/FrameType") }, accessFlags := 9, code := some k6c0 }
/-- com/example/kyu/kyu/wire/FrameType -/
def k6 : Class := { plain "com/example/kyu/kyu/wire/FrameType" (some 5) with
  accessFlags := 16433
  interfaces := #[]
  cf := some (fileOf pool6 1 #[] #[{ accessFlags := 9, nameIndex := 63, descriptorIndex := 64, attributes := #[] }] 16433 26 #[] #[{ accessFlags := 16409, nameIndex := 5, descriptorIndex := 6, attributes := #[] }, { accessFlags := 16409, nameIndex := 9, descriptorIndex := 6, attributes := #[] }, { accessFlags := 16409, nameIndex := 12, descriptorIndex := 6, attributes := #[] }, { accessFlags := 16409, nameIndex := 15, descriptorIndex := 6, attributes := #[] }, { accessFlags := 26, nameIndex := 41, descriptorIndex := 19, attributes := #[] }, { accessFlags := 18, nameIndex := 37, descriptorIndex := 38, attributes := #[] }, { accessFlags := 4122, nameIndex := 18, descriptorIndex := 19, attributes := #[] }])
  fields := #[{ name := "METHOD", type := (.object "com/example/kyu/kyu/wire/FrameType"), accessFlags := 16409, slot := 0, constantValue := 0 }, { name := "HEADER", type := (.object "com/example/kyu/kyu/wire/FrameType"), accessFlags := 16409, slot := 1, constantValue := 0 }, { name := "BODY", type := (.object "com/example/kyu/kyu/wire/FrameType"), accessFlags := 16409, slot := 2, constantValue := 0 }, { name := "HEARTBEAT", type := (.object "com/example/kyu/kyu/wire/FrameType"), accessFlags := 16409, slot := 3, constantValue := 0 }, { name := "ALL", type := (.array (.object "com/example/kyu/kyu/wire/FrameType")), accessFlags := 26, slot := 4, constantValue := 0 }, { name := "octet", type := .int, accessFlags := 18, slot := 3, constantValue := 0 }, { name := "$VALUES", type := (.array (.object "com/example/kyu/kyu/wire/FrameType")), accessFlags := 4122, slot := 5, constantValue := 0 }]
  methods := #[k6m0]
  instanceTypes := #[(.object "java/lang/String"), .int, .int, .int]
  staticTypes := #[(.object "com/example/kyu/kyu/wire/FrameType"), (.object "com/example/kyu/kyu/wire/FrameType"), (.object "com/example/kyu/kyu/wire/FrameType"), (.object "com/example/kyu/kyu/wire/FrameType"), (.array (.object "com/example/kyu/kyu/wire/FrameType")), (.array (.object "com/example/kyu/kyu/wire/FrameType"))]
  resolved := Array.replicate 71 none
  statics := some 0 }

def pool7 : Array CpInfo := pool [(1, u "java/lang/Cloneable"), (0, .class_ 1), (0, u "java/lang/Object"), (0, .class_ 3)] 3

/-- java/lang/Cloneable -/
def k7 : Class := { plain "java/lang/Cloneable" (some 0) with
  accessFlags := 1537
  interfaces := #[]
  cf := some (fileOf pool7 2 #[] #[] 1537 4 #[] #[])
  fields := #[]
  methods := #[]
  instanceTypes := #[]
  staticTypes := #[]
  resolved := Array.replicate 8 none
  statics := none }

/-- the primitive byte -/
def k8 : Class := { plain "byte" none with kind := .primitive 'B', accessFlags := 0x411 }
/-- [B -/
def k9 : Class := { plain "[B" (some 0) with kind := .array 8 .byte, interfaces := #[7, 4], accessFlags := 1041 }

/-- the primitive int -/
def k10 : Class := { plain "int" none with kind := .primitive 'I', accessFlags := 0x411 }
/-- [I -/
def k11 : Class := { plain "[I" (some 0) with kind := .array 10 .int, interfaces := #[7, 4], accessFlags := 1041 }

/-- [Lcom/example/kyu/kyu/wire/FrameType; -/
def k12 : Class := { plain "[Lcom/example/kyu/kyu/wire/FrameType;" (some 0) with kind := .array 6 (.object "com/example/kyu/kyu/wire/FrameType"), interfaces := #[7, 4], accessFlags := 1041 }

def heap : Heap := #[{ cls := 6, slots := #[.ref 2, .ref 3, .ref 4, .ref 5, .ref 1, .null], vm := .statics 6 },
  { cls := 12, slots := #[.ref 2, .ref 3, .ref 4, .ref 5], vm := .none },
  { cls := 6, slots := #[.null, .int 0, .int 0, .int 1], vm := .none },
  { cls := 6, slots := #[.null, .int 1, .int 0, .int 2], vm := .none },
  { cls := 6, slots := #[.null, .int 2, .int 0, .int 3], vm := .none },
  { cls := 6, slots := #[.null, .int 3, .int 0, .int 8], vm := .none }]
def classes : Array Class := #[k0, k1, k2, k3, k4, k5, k6, k7, k8, k9, k10, k11, k12]
def interned : List (Array UInt16 × Addr) := []
def slotsUsed : Nat := 26
def theMethod : MethodId := ⟨1, 2⟩
def args0 : Array Value := #[.int 5, .int 1]
def aboutOver (below : List Frame) : State where
  vm := { classes := classes, interned := interned.toArray }
  heap := heap
  slotsUsed := slotsUsed
  threads := #[{ frames := .invoking theMethod args0 :: below }]
def below0 : List Frame := [.native { method := ⟨0, 0⟩, args := #[] }]
def about1 : State := aboutOver below0
def p0 : Program := .bare "" "" ""
def e0 : Env := launch0.env 0 0 0
theorem w_frames : about1.frames = Frame.invoking theMethod args0 :: below0 := rfl
set_option maxRecDepth 65536 in
theorem w_args : argsFit about1.vm theMethod args0 = true := by decide +kernel
set_option maxRecDepth 65536 in
theorem w_heap : heapFits about1 = true := by decide +kernel
set_option maxRecDepth 65536 in
theorem w_runnable : about1.curStatus? = some .runnable := by decide +kernel
set_option maxRecDepth 65536 in
theorem w_alone : about1.alone = true := by decide +kernel
set_option maxRecDepth 65536 in
theorem w_named : about1.methodNamed? x = some theMethod := by decide +kernel
set_option maxRecDepth 65536 in
theorem w_hears : about1.hears theMethod below0 = true := by decide +kernel
set_option maxRecDepth 65536 in
theorem w_ripe : about1.ripe theMethod args0 below0 = true := by decide +kernel
theorem w_running : about1.status = .running := rfl
set_option maxRecDepth 65536 in
theorem w_room : about1.hasRoom e0.platform room_1 = true :=
  launch0.hasRoom_least _ room_1 (by decide +kernel) (by decide +kernel) (by decide +kernel) (by decide +kernel) (by decide +kernel) (by decide +kernel)
theorem allAtoms_all (ts : List Jvm.Cond) (a : Array Jvm.Value) (st : Jvm.State) : (allAtoms ts).before a st = ts.all (fun c => c.before a st) := by
  induction ts with
  | nil => rfl
  | cons c t ih =>
    show (Jvm.Cond.and c (allAtoms t)).before a st = _
    rw [Jvm.Cond.before_and, ih, List.all_cons]
def words1 : List Jvm.Cond := Jvm.Cond.code x code maxLocals ret :: tables_1
/-- a 'code' word, met by the world's own term for the bytes: nothing is compared byte by byte -/
theorem code_word {y : MethodName} {bytes : ByteArray} {mx : Nat} {rt : Option FieldType} {a : Array Value} {s : State} {m : MethodId} {meth : Method} {c : Code} (h1 : s.methodNamed? y = some m) (h2 : s.vm.method? m = some meth) (h3 : meth.code = some c) (h4 : c.code = bytes)
    (h5 : (c.maxLocals == mx && c.exceptionTable.isEmpty && decide (c.maxStack ≤ mostOperands) && decide (meth.sig.returnType = rt) && !meth.locks && decide (parseMethodDescriptor y.desc = some meth.sig)) = true) : (Jvm.Cond.code y bytes mx rt).before a s = true := by
  simp only [Bool.and_eq_true, beq_iff_eq, Bool.not_eq_true', decide_eq_true_eq] at h5
  obtain ⟨⟨⟨⟨⟨g1, g2⟩, g3⟩, g4⟩, g5⟩, g6⟩ := h5
  simp [Cond.before, Cond.holds, Cond.value, h1, h2, h3, h4, g1, g2, g3, g4, g5, g6]
def isCode : Jvm.Cond → Bool
  | .code _ _ _ _ => true
  | _ => false
theorem all_split {L : List Jvm.Cond} {P : Jvm.Cond → Bool} (h1 : L.all (fun c => isCode c || P c) = true) (h2 : ∀ c ∈ L.filter isCode, P c = true) : L.all P = true := by
  refine List.all_eq_true.mpr fun c hc => ?_
  have h := List.all_eq_true.mp h1 c hc
  rcases Bool.eq_false_or_eq_true (isCode c) with hi | hi
  · exact h2 c (List.mem_filter.mpr ⟨hc, hi⟩)
  · simpa [hi] using h
set_option maxRecDepth 65536 in
theorem w_c0 : (Jvm.Cond.code x code maxLocals ret).before args0 about1 = true := code_word (m := ⟨1, 2⟩) (meth := k1m2) (c := k1c2) (by decide +kernel) rfl rfl rfl (by decide +kernel)
set_option maxRecDepth 65536 in
theorem w_c1 : (Jvm.Cond.code ({ cls := "com/example/kyu/kyu/wire/FrameType", name := "fromOctet", desc := "(I)Lcom/example/kyu/kyu/wire/FrameType;" } : Jvm.MethodName) prog_22_method_5_code (6 : Nat) (Option.some (Jvm.ClassFile.FieldType.object "com/example/kyu/kyu/wire/FrameType"))).before args0 about1 = true := code_word (m := ⟨6, 0⟩) (meth := k6m0) (c := k6c0) (by decide +kernel) rfl rfl rfl (by decide +kernel)
set_option maxRecDepth 65536 in
theorem w_c2 : (Jvm.Cond.code ({ cls := "com/example/kyu/kyu/wire/FrameTypeFromOctetPinLaw", name := "expected", desc := "(I)Lcom/example/kyu/kyu/wire/FrameType;" } : Jvm.MethodName) method_2_code (1 : Nat) (Option.some (Jvm.ClassFile.FieldType.object "com/example/kyu/kyu/wire/FrameType"))).before args0 about1 = true := code_word (m := ⟨1, 1⟩) (meth := k1m1) (c := k1c1) (by decide +kernel) rfl rfl rfl (by decide +kernel)
def codes1 : List Jvm.Cond := [Jvm.Cond.code x code maxLocals ret, Jvm.Cond.code ({ cls := "com/example/kyu/kyu/wire/FrameType", name := "fromOctet", desc := "(I)Lcom/example/kyu/kyu/wire/FrameType;" } : Jvm.MethodName) prog_22_method_5_code (6 : Nat) (Option.some (Jvm.ClassFile.FieldType.object "com/example/kyu/kyu/wire/FrameType")), Jvm.Cond.code ({ cls := "com/example/kyu/kyu/wire/FrameTypeFromOctetPinLaw", name := "expected", desc := "(I)Lcom/example/kyu/kyu/wire/FrameType;" } : Jvm.MethodName) method_2_code (1 : Nat) (Option.some (Jvm.ClassFile.FieldType.object "com/example/kyu/kyu/wire/FrameType"))]
set_option maxRecDepth 65536 in
theorem codes_eq : words1.filter isCode = codes1 := rfl
theorem w_codes : ∀ c ∈ words1.filter isCode, c.before args0 about1 = true := by
  rw [codes_eq]
  intro c hc
  simp only [codes1, List.mem_cons, List.not_mem_nil, or_false] at hc
  rcases hc with rfl | rfl | rfl
  · exact w_c0
  · exact w_c1
  · exact w_c2
set_option maxRecDepth 65536 in
theorem w_t1 : words1.all (fun c => isCode c || c.before args0 about1) = true := by decide +kernel
theorem w_tables : (allAtoms (Jvm.Cond.code x code maxLocals ret :: tables_1)).before args0 about1 = true := by
  rw [allAtoms_all]
  show words1.all (fun c => c.before args0 about1) = true
  refine all_split ?_ w_codes
  rw [w_t1]
set_option maxRecDepth 65536 in
theorem w_case : (Jvm.Cond.and given_1 narrow_1).before args0 about1 = true := by decide +kernel
theorem w_applies : (headSpec (Jvm.Cond.code x code maxLocals ret :: tables_1) room_1).applies x e0.platform about1 = true :=
  (Spec.applies_iff w_frames).mpr ⟨w_running, w_runnable, w_alone, w_named, w_hears, w_ripe, w_room, w_tables⟩
theorem atStart : AtStart classFile x code maxLocals ret World_1 tables_1 room_1 Calls_1 rest_1 Pre_1 launch0 p0 e0 about1 theMethod args0 below0 :=
  ⟨lists_1, trivial, launch0.admits_env _ _ _, launch0.least_env, fairChoices_fair.cas, fairChoices_fair.clock, w_frames, w_args, w_heap, w_applies, trivial, trivial, w_case⟩
end start1
theorem witness_1 : WitnessClaimed_1 := ⟨start1.p0, start1.e0, start1.about1, start1.theMethod, start1.args0, start1.below0, start1.atStart⟩
end Jvm.Pilot.@@N@@
