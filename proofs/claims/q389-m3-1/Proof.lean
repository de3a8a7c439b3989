import JvmDerived
import JvmDerived.Pilot.@@N@@Statement
import JvmDerived.Pilot.@@N@@Code
set_option linter.unusedVariables false
set_option linter.unusedSimpArgs false
namespace Jvm.RoadKit
open Sem ClassFile Op Lib Jvm.Stand Jvm.Free Jvm.LawKit
section OwnGo
variable {p : Program} {l : Launch} {e : Env} {R : Room} {s : State} {m : MethodId} {args : Array Value} {below : List Frame} {meth : Method} {c : Code} {T T' : State} {locs : List Loc} {cells slots ck sk : Nat} {Q : Option Value → Heap → List Loc → Prop}
/-- from the state T the body comes to its end, with Q -/
def Go (p : Program) (e : Env) (below : List Frame) (s : State) (ck sk : Nat) (Q : Option Value → Heap → List Loc → Prop) (T : State) : Prop :=
  ∃ s₂ o, Steps p.tables e below T s₂ ∧ s₂.status = .running ∧ Ended s₂ below o ∧ ∃ v L, o = .returned v ∧ Q v s₂.heap L ∧ FrameEnd s o s₂ L ck sk
theorem Go.by (h : ∀ t, Steps p.tables e below T' t → Steps p.tables e below T t) (g : Go p e below s ck sk Q T') : Go p e below s ck sk Q T := by
  obtain ⟨s₂, o, h1, r⟩ := g
  exact ⟨s₂, o, h _ h1, r⟩
theorem Go.tr (h : Steps p.tables e below T T') (g : Go p e below s ck sk Q T') : Go p e below s ck sk Q T := by
  obtain ⟨s₂, o, h1, r⟩ := g
  exact ⟨s₂, o, h.trans h1, r⟩
theorem Go.fin (X : Stand p l e R s m args below meth c T locs cells slots) {v : Option Value} (hv : meth.sig.returnType = none → v = none) (hlk : meth.locks = false)
    (st : ∀ fs : List Frame, (∀ (f : JFrame) (acts : List Action), f.method = m → f.locked = none → f.entered = [] → (doReturn e (T.setTop f) acts v).1 = T.setFrames fs) → Steps p.tables e below T' (T.setFrames fs))
    (hq : Q v T.heap locs) (hc : cells ≤ ck) (hs : slots ≤ sk) : Go p e below s ck sk Q T' := by
  obtain ⟨fs, hr, hrun, hended, hW, hsame⟩ := X.leave hv hlk
  exact ⟨_, _, st fs hr, hrun, hended, _, _, rfl, hq, ⟨_, rfl⟩, hW, hsame.mono hc hs⟩
theorem Go.retV (X : Stand p l e R s m args below meth c T locs cells slots) (hx : p.tables.exec = Jvm.exec) {pc : Nat} {Ls : Array Slot} (hret : meth.sig.returnType = none) (hlk : meth.locks = false) (hd : decode c.code pc = .ok (.return_, 1))
    (hq : Q none T.heap locs) (hc : cells ≤ ck) (hs : slots ≤ sk) : Go p e below s ck sk Q (T.setTop (mkF m pc Ls [])) :=
  Go.fin X (fun _ => rfl) hlk (fun fs hr => X.returnOut hx hret hd hr) hq hc hs
theorem Go.retN (X : Stand p l e R s m args below meth c T locs cells slots) (hx : p.tables.exec = Jvm.exec) {pc : Nat} {Ls : Array Slot} {z : Int32} {t : FieldType} {rest : List Value} (hret : meth.sig.returnType = some t) (ht : t = .boolean ∨ t = .byte ∨ t = .char ∨ t = .short) (hlk : meth.locks = false) (hd : decode c.code pc = .ok (.ireturn, 1))
    (hq : Q (some (.int (nar t z))) T.heap locs) (hc : cells ≤ ck) (hs : slots ≤ sk) : Go p e below s ck sk Q (T.setTop (mkF m pc Ls (.int z :: rest))) :=
  Go.fin X (fun h => by rw [hret] at h; cases h) hlk (fun fs hr => Jvm.RoadKit.retN X hx hret ht hd hr) hq hc hs
theorem Go.retI (X : Stand p l e R s m args below meth c T locs cells slots) (hx : p.tables.exec = Jvm.exec) {pc : Nat} {Ls : Array Slot} {z : Int32} {rest : List Value} (hret : meth.sig.returnType = some .int) (hlk : meth.locks = false) (hd : decode c.code pc = .ok (.ireturn, 1))
    (hq : Q (some (.int z)) T.heap locs) (hc : cells ≤ ck) (hs : slots ≤ sk) : Go p e below s ck sk Q (T.setTop (mkF m pc Ls (.int z :: rest))) :=
  Go.fin X (fun h => by rw [hret] at h; cases h) hlk (fun fs hr => retOut X hx hret rfl (Or.inl ⟨rfl, Or.inl rfl, z, rfl⟩) hd hr) hq hc hs
theorem Go.retJ (X : Stand p l e R s m args below meth c T locs cells slots) (hx : p.tables.exec = Jvm.exec) {pc : Nat} {Ls : Array Slot} {z : Int64} {rest : List Value} (hret : meth.sig.returnType = some .long) (hlk : meth.locks = false) (hd : decode c.code pc = .ok (.lreturn, 1))
    (hq : Q (some (.long z)) T.heap locs) (hc : cells ≤ ck) (hs : slots ≤ sk) : Go p e below s ck sk Q (T.setTop (mkF m pc Ls (.long z :: rest))) :=
  Go.fin X (fun h => by rw [hret] at h; cases h) hlk (fun fs hr => retOut X hx hret rfl (Or.inr (Or.inl ⟨rfl, rfl, z, rfl⟩)) hd hr) hq hc hs
theorem Go.retR (X : Stand p l e R s m args below meth c T locs cells slots) (hx : p.tables.exec = Jvm.exec) {pc : Nat} {Ls : Array Slot} {w : Value} {t : FieldType} {rest : List Value} (hret : meth.sig.returnType = some t) (ht : t.isReference = true) (hw : w.isRef = true) (hlk : meth.locks = false) (hd : decode c.code pc = .ok (.areturn, 1))
    (hq : Q (some w) T.heap locs) (hc : cells ≤ ck) (hs : slots ≤ sk) : Go p e below s ck sk Q (T.setTop (mkF m pc Ls (w :: rest))) := by
  refine Go.fin X (fun h => by rw [hret] at h; cases h) hlk (fun fs hr => retOut X hx hret ?_ (Or.inr (Or.inr (Or.inr (Or.inr ⟨rfl, ht, hw⟩)))) hd hr) hq hc hs
  rcases ref_cases hw with rfl | ⟨a, rfl⟩ <;> cases t <;> first | rfl | cases ht
/-- the same where Strings may be interned on the way -/
def GoW (p : Program) (e : Env) (below : List Frame) (s : State) (ck sk : Nat) (Q : Option Value → Heap → List Loc → Prop) (T : State) : Prop :=
  ∃ s₂ o, Steps p.tables e below T s₂ ∧ s₂.status = .running ∧ Ended s₂ below o ∧ ∃ v L, o = .returned v ∧ Q v s₂.heap L ∧ ReturnedEndW s o s₂ L ck sk
theorem GoW.by (h : ∀ t, Steps p.tables e below T' t → Steps p.tables e below T t) (g : GoW p e below s ck sk Q T') : GoW p e below s ck sk Q T := by
  obtain ⟨s₂, o, h1, r⟩ := g
  exact ⟨s₂, o, h _ h1, r⟩
theorem GoW.tr (h : Steps p.tables e below T T') (g : GoW p e below s ck sk Q T') : GoW p e below s ck sk Q T := by
  obtain ⟨s₂, o, h1, r⟩ := g
  exact ⟨s₂, o, h.trans h1, r⟩
theorem GoW.fin {vm1 : Vm} {k1 : Nat} (X : Stand p l e R (s.setVm vm1) m args below meth c T locs cells slots) (hS : s.Since vm1 k1) (hk : k1 ≤ T.heap.size) {v : Option Value} (hv : meth.sig.returnType = none → v = none) (hlk : meth.locks = false)
    (st : ∀ fs : List Frame, (∀ (f : JFrame) (acts : List Action), f.method = m → f.locked = none → f.entered = [] → (doReturn e (T.setTop f) acts v).1 = T.setFrames fs) → Steps p.tables e below T' (T.setFrames fs))
    (hq : Q v T.heap locs) (hc : cells ≤ ck) (hs : slots ≤ sk) : GoW p e below s ck sk Q T' := by
  obtain ⟨fs, hr, hrun, hended, hW, hsame⟩ := X.leave hv hlk
  obtain ⟨q1, q2, q3⟩ := hS.ended (U := T.setFrames fs) hW hk hsame
  exact ⟨_, _, st fs hr, hrun, hended, _, _, rfl, hq, ⟨_, rfl⟩, q1, q2, q3.mono hc hs⟩
theorem GoW.retV {vm1 : Vm} {k1 : Nat} (X : Stand p l e R (s.setVm vm1) m args below meth c T locs cells slots) (hS : s.Since vm1 k1) (hk : k1 ≤ T.heap.size) (hx : p.tables.exec = Jvm.exec) {pc : Nat} {Ls : Array Slot} (hret : meth.sig.returnType = none) (hlk : meth.locks = false) (hd : decode c.code pc = .ok (.return_, 1))
    (hq : Q none T.heap locs) (hc : cells ≤ ck) (hs : slots ≤ sk) : GoW p e below s ck sk Q (T.setTop (mkF m pc Ls [])) :=
  GoW.fin X hS hk (fun _ => rfl) hlk (fun fs hr => X.returnOut hx hret hd hr) hq hc hs
theorem GoW.retN {vm1 : Vm} {k1 : Nat} (X : Stand p l e R (s.setVm vm1) m args below meth c T locs cells slots) (hS : s.Since vm1 k1) (hk : k1 ≤ T.heap.size) (hx : p.tables.exec = Jvm.exec) {pc : Nat} {Ls : Array Slot} {z : Int32} {t : FieldType} {rest : List Value} (hret : meth.sig.returnType = some t) (ht : t = .boolean ∨ t = .byte ∨ t = .char ∨ t = .short) (hlk : meth.locks = false) (hd : decode c.code pc = .ok (.ireturn, 1))
    (hq : Q (some (.int (nar t z))) T.heap locs) (hc : cells ≤ ck) (hs : slots ≤ sk) : GoW p e below s ck sk Q (T.setTop (mkF m pc Ls (.int z :: rest))) :=
  GoW.fin X hS hk (fun h => by rw [hret] at h; cases h) hlk (fun fs hr => Jvm.RoadKit.retN X hx hret ht hd hr) hq hc hs
theorem GoW.retR {vm1 : Vm} {k1 : Nat} (X : Stand p l e R (s.setVm vm1) m args below meth c T locs cells slots) (hS : s.Since vm1 k1) (hk : k1 ≤ T.heap.size) (hx : p.tables.exec = Jvm.exec) {pc : Nat} {Ls : Array Slot} {w : Value} {t : FieldType} {rest : List Value} (hret : meth.sig.returnType = some t) (ht : t.isReference = true) (hw : w.isRef = true) (hlk : meth.locks = false) (hd : decode c.code pc = .ok (.areturn, 1))
    (hq : Q (some w) T.heap locs) (hc : cells ≤ ck) (hs : slots ≤ sk) : GoW p e below s ck sk Q (T.setTop (mkF m pc Ls (w :: rest))) := by
  refine GoW.fin X hS hk (fun h => by rw [hret] at h; cases h) hlk (fun fs hr => retOut X hx hret ?_ (Or.inr (Or.inr (Or.inr (Or.inr ⟨rfl, ht, hw⟩)))) hd hr) hq hc hs
  rcases ref_cases hw with rfl | ⟨a, rfl⟩ <;> cases t <;> first | rfl | cases ht
end OwnGo
theorem own_selp {Z s : State} {a0 args : Array Value} {y : MethodName} {n : Nat} (hZ : Z.Warmed39 s.vm) (wi : (Cond.instantiable y.cls n).before a0 Z = true) (wp : (Cond.privateMethod y).before a0 Z = true) (wm : (Cond.instanceMethod y).before a0 Z = true) (hy : y.cls ≠ "java/lang/invoke/MethodHandle" ∧ y.cls ≠ "java/lang/invoke/VarHandle") : (Cond.selects y.cls y y).before args s = true := by
  obtain ⟨c, k, h1, h2, -, h4, -⟩ := Cond.instantiable_spec (mv (args := args) hZ wi)
  exact selects_self_of_private h1 h2 (by simpa using (Bool.or_eq_false_iff.mp h4).1) (Cond.privateMethod_at (mvP (args := args) hZ wp)) (mv hZ wm) hy
theorem own_zn {z : Int32} (h : z = (0 : Int32) ∨ z = (1 : Int32)) : narrow .boolean (.int z) = .int z := by rcases h with rfl | rfl <;> rfl
theorem own_zf {z : Int32} (h : z = (0 : Int32) ∨ z = (1 : Int32)) : fits .boolean (.int z) = true := by rcases h with rfl | rfl <;> rfl
theorem own_ns {Z : State} {h : Heap} {b : Addr} {C : String} (E : Exa Z h b C) : ∀ cell : Cell, h[b]? = some cell → cell.vm.isStatics = false := fun cell hc => by
  obtain ⟨c, _, h1, -, -, h4, -⟩ := E
  cases h1.symm.trans hc
  exact h4
theorem own_stakeep {Z : State} {h h' : Heap} {C n d : String} {v : Value} {ws : List Addr} (F : Sta Z h C n d v) (K : Keep h h' ws) (q : ∀ x ∈ ws, ∀ cell : Cell, h[x]? = some cell → cell.vm.isStatics = false) : Sta Z h' C n d v := by
  obtain ⟨cf, i, k, f, st, cell, h1, h2, h3, h4, h5, h6, h7⟩ := F
  refine ⟨cf, i, k, f, st, cell, h1, h2, h3, h4, K.2.1 st cell h5 fun z => ?_, h6, h7⟩
  rw [q st z cell h5] at h6
  cases h6
section OwnLong
variable {Z : State} {h h' : Heap} {a b : Addr} {k : ClassId} {n j : Int32} {x : Int64} {ws : List Addr} {sl : Nat} {v : Value}
/-- a long[] of the length n, whatever it holds -/
def LA (Z : State) (h : Heap) (a : Addr) (k : ClassId) (n : Int32) : Prop := ∃ c : Cell, Arr Z h a c .long ∧ c.cls = k ∧ c.slots.size = n.toNatClampNeg ∧ ¬ n < 0 ∧ ∀ i, i < c.slots.size → ∃ x : Int64, c.slots[i]? = some (.long x)
theorem LA.lt (F : LA Z h a k n) : a < h.size := by obtain ⟨c, A, -⟩ := F; exact A.lt
theorem LA.ext (F : LA Z h a k n) (E : Ext h h') : LA Z h' a k n := by obtain ⟨c, A, r⟩ := F; exact ⟨c, A.ext E, r⟩
theorem LA.other (F : LA Z h b k n) (W : Wr h h' a sl v) (q : b ≠ a) : LA Z h' b k n := by obtain ⟨c, A, r⟩ := F; exact ⟨c, A.other W q, r⟩
theorem LA.keep (F : LA Z h a k n) (K : Keep h h' ws) (q : a ∉ ws) : LA Z h' a k n := by obtain ⟨c, A, r⟩ := F; exact ⟨c, ⟨K.2.1 a c A.1 q, A.2⟩, r⟩
theorem LA.new (A : Arr Z h a (newA k .long n) .long) (q : ¬ n < 0) : LA Z h a k n := ⟨_, A, rfl, sz_new _ _ _, q, fun i hi => ⟨0, by
  have hi' : i < n.toNatClampNeg := by rw [sz_new] at hi; exact hi
  show (Array.replicate n.toNatClampNeg (defaultValue .long))[i]? = _
  simp [hi', defaultValue]⟩⟩
theorem LA.set {c : Cell} (A : Arr Z h a c .long) (q1 : c.cls = k) (S : c.slots.size = n.toNatClampNeg) (q3 : ¬ n < 0) (G : ∀ i, i < c.slots.size → ∃ x : Int64, c.slots[i]? = some (.long x)) (W : Wr h h' a sl (.long x)) : LA Z h' a k n := by
  refine ⟨_, A.same W, q1, by rw [sz_set]; exact S, q3, fun i hi => ?_⟩
  rw [sz_set] at hi
  by_cases e : sl = i
  · subst e; exact ⟨x, by simp [Cell.setSlot, hi]⟩
  · obtain ⟨y, hy⟩ := G i hi
    exact ⟨y, by rw [← hy]; exact Array.getElem?_setIfInBounds_ne e⟩
end OwnLong
section OwnStart
variable {args : Array Value} {s : State} {a b t : Term}
theorem own_eqI {n : Int32} (h : (Cond.eq a (.int n)).value args s none s [] = some true) : a.eval args s none [] s = some (.int n) := by
  cases ha : a.eval args s none [] s with
  | none => simp [Cond.value, ha] at h
  | some x => cases x <;> simp [Cond.value, ha, Term.eval] at h ⊢ <;> exact h
theorem own_eqL {n : Int64} (h : (Cond.eq a (.long n)).value args s none s [] = some true) : a.eval args s none [] s = some (.long n) := by
  cases ha : a.eval args s none [] s with
  | none => simp [Cond.value, ha] at h
  | some x => cases x <;> simp [Cond.value, ha, Term.eval] at h ⊢ <;> exact h
theorem own_eqR {x : Addr} (h : (Cond.eq a b).value args s none s [] = some true) (hb : b.eval args s none [] s = some (.ref x)) : a.eval args s none [] s = some (.ref x) := by
  cases ha : a.eval args s none [] s with
  | none => simp [Cond.value, ha] at h
  | some y => cases y <;> simp [Cond.value, ha, hb] at h ⊢ <;> exact h
theorem own_neR {x y : Addr} (h : (Cond.not (Cond.eq a b)).value args s none s [] = some true) (ha : a.eval args s none [] s = some (.ref x)) (hb : b.eval args s none [] s = some (.ref y)) : x ≠ y := by
  intro e
  subst e
  simp [Cond.value, ha, hb] at h
theorem own_lenv {n : Int32} {x : Addr} {cl : Cell} (h : (Term.length t).eval args s none [] s = some (.int n)) (ht : t.eval args s none [] s = some (.ref x)) (hc : s.heap[x]? = some cl) : cl.slots.size < 2 ^ 31 ∧ cl.slots.size.toInt32 = n := by
  obtain ⟨a', cell, e1, e2, e3⟩ := Term.length_spec h
  cases ht.symm.trans e1
  have hcl : cell = cl := by
    simp only [State.arrayAt?, hc, Option.bind_eq_bind, Option.bind_some] at e2
    cases hk : s.vm.classes[cl.cls]? with
    | none => simp [hk] at e2
    | some k =>
      simp only [hk, Option.bind_some] at e2
      split at e2
      · cases e2
      · split at e2
        · exact (Option.some.inj e2).symm
        · cases e2
  subst hcl
  refine ⟨?_, (Value.int.inj e3).symm⟩
  simp only [Term.eval, ht, e2, Option.bind_eq_bind, Option.bind_some] at h
  split at h
  · assumption
  · cases h
end OwnStart
end Jvm.RoadKit
namespace Jvm.Pilot.@@N@@
open Jvm Jvm.ClassFile Sem Op Lib Jvm.Free Jvm.Stand Jvm.LawKit Jvm.RoadKit Bundle Jvm.Pilot.@@N@@.Jvm.D
theorem dI_0 : decode prog_6_method_1_code 0 = .ok (.aload_n 0, 1) := by decide +kernel
theorem dI_1 : decode prog_6_method_1_code 1 = .ok (.invokespecial 1, 3) := by decide +kernel
theorem dI_4 : decode prog_6_method_1_code 4 = .ok (.aload_n 0, 1) := by decide +kernel
theorem dI_5 : decode prog_6_method_1_code 5 = .ok (.iload_n 1, 1) := by decide +kernel
theorem dI_6 : decode prog_6_method_1_code 6 = .ok (.putfield 7, 3) := by decide +kernel
theorem dI_9 : decode prog_6_method_1_code 9 = .ok (.aload_n 0, 1) := by decide +kernel
theorem dI_10 : decode prog_6_method_1_code 10 = .ok (.lload_n 2, 1) := by decide +kernel
theorem dI_11 : decode prog_6_method_1_code 11 = .ok (.putfield 13, 3) := by decide +kernel
theorem dI_14 : decode prog_6_method_1_code 14 = .ok (.return_, 1) := by decide +kernel
theorem pnI : plainName "com/example/kyu/kyu/PrefetchWindow" = true := by first | (simp [plainName, overriddenIn]; done) | decide +kernel
theorem efI (m : MethodId) (a : Addr) (cl : Int32) (sl : Int64) : entryFrame m #[(.ref a), (.int cl), (.long sl)] 4 = mkF m 0 #[.val (.ref a), .val (.int cl), .val (.long sl), .second] [] := by first | (simp [entryFrame, mkF, argsToLocals, Value.category]; done) | rfl
def QI (Z : State) (a : Addr) (cl : Int32) (sl : Int64) (h0 : Heap) (n0 : Nat) (v : Option Value) (h : Heap) (L : List Loc) : Prop := v = none ∧ Fr n0 L ∧ Keep h0 h [a] ∧ Exa Z h a "com/example/kyu/kyu/PrefetchWindow" ∧ Fld Z h a "com/example/kyu/kyu/PrefetchWindow" "countLimit" "I" (.int cl) ∧ Fld Z h a "com/example/kyu/kyu/PrefetchWindow" "sizeLimit" "J" (.long sl) ∧ Fld Z h a "com/example/kyu/kyu/PrefetchWindow" "count" "I" (.int 0) ∧ Fld Z h a "com/example/kyu/kyu/PrefetchWindow" "size" "J" (.long 0)
set_option maxRecDepth 65536 in
set_option maxHeartbeats 40000000 in
theorem rmI (l : Launch) (Z : State) (a0 : Array Value) (hw : ∀ d ∈ tables_1, d.before a0 Z = true) (ws : List Jvm.Cond) (a : Addr) (cl : Int32) (sl : Int64) (h0 : Heap) (n0 : Nat) (Z0 : n0 ≤ h0.size) (E0a : Exa Z h0 a "com/example/kyu/kyu/PrefetchWindow") (F0_countLimit : Fld Z h0 a "com/example/kyu/kyu/PrefetchWindow" "countLimit" "I" (.int (0 : Int32))) (F0_sizeLimit : Fld Z h0 a "com/example/kyu/kyu/PrefetchWindow" "sizeLimit" "J" (.long (0 : Int64))) (F0_count : Fld Z h0 a "com/example/kyu/kyu/PrefetchWindow" "count" "I" (.int (0 : Int32))) (F0_size : Fld Z h0 a "com/example/kyu/kyu/PrefetchWindow" "size" "J" (.long (0 : Int64))) (ga : n0 ≤ a) :
    MetFree l (⟨"com/example/kyu/kyu/PrefetchWindow", "<init>", "(IJ)V"⟩ : MethodName) (head1 (Jvm.Cond.code (⟨"com/example/kyu/kyu/PrefetchWindow", "<init>", "(IJ)V"⟩ : MethodName) prog_6_method_1_code 4 none :: ws) ({ frames := 1, cells := 0, slots := 0, locals := 12 } : Room)) (fun aa U => aa = #[(.ref a), (.int cl), (.long sl)] ∧ Z.Warmed39 U.vm ∧ U.heap = h0) (fun _ _ _ _ _ => True) (fun _ U o U' => ∃ v L, o = .returned v ∧ QI Z a cl sl h0 n0 v U'.heap L ∧ FrameEnd U o U' L ({ frames := 1, cells := 0, slots := 0, locals := 12 } : Room).cells ({ frames := 1, cells := 0, slots := 0, locals := 12 } : Room).slots) := by
  refine MetFree.of_bodySF (plainFor_of_name pnI) hisR ?_
  intro p e s m args below meth c s₁ Bd hml0 hP hK
  obtain ⟨rfl, hZ, hh⟩ := hP
  have hx := Bd.exec
  have hby := Bd.bytes
  have hml : c.maxLocals = 4 := hml0
  have hown : s.vm.findClass "com/example/kyu/kyu/PrefetchWindow" = some m.cls := findClass_of_methodNamed Bd.named
  have hnm := (name_of_methodNamed Bd.named Bd.method).1
  have hlk : meth.locks = false := BodyLoose.notSynchronized Bd
  have hret : meth.sig.returnType = none := Bd.returns
  have X0 : Stand p l e ({ frames := 1, cells := 0, slots := 0, locals := 12 } : Room) s m #[(.ref a), (.int cl), (.long sl)] below meth c s₁ [] 0 0 := Stand.of_body Bd
  have e0 : s₁.heap = h0 := by rw [← hh, Bd.state]; rfl
  have N0 := Fr.nil n0
  show Go p e below s ({ frames := 1, cells := 0, slots := 0, locals := 12 } : Room).cells ({ frames := 1, cells := 0, slots := 0, locals := 12 } : Room).slots (QI Z a cl sl h0 n0) (s₁.setTop (entryFrame m #[(.ref a), (.int cl), (.long sl)] 4))
  rw [efI]
  refine Go.by (fun _ kont => XS.aloadN X0.here hx rfl (hb hby dI_0) rfl rfl kont) ?_
  show Go _ _ _ _ _ _ _ (s₁.setTop (mkF m 1 #[.val (.ref a), .val (.int cl), .val (.long sl), .second] [(.ref a)]))
  obtain ⟨T101, X101, e101, st101⟩ := initO X0 hx hZ hown (hw _ (List.mem_of_getElem? (i := 6) rfl)) (hw _ (List.mem_of_getElem? (i := 7) rfl)) (hw _ (List.mem_of_getElem? (i := 8) rfl)) e0 (g := (mkF m 1 #[.val (.ref a), .val (.int cl), .val (.long sl), .second] [(.ref a)])) rfl (by rw [hml]; rfl) rfl (hb hby dI_1) (by decide) (W := 0) (by show 2 * 0 + _ ≤ _; exact Nat.le_of_eq rfl) (by decide)
  refine Go.by st101 ?_
  show Go _ _ _ _ _ _ _ (T101.setTop (mkF m 4 #[.val (.ref a), .val (.int cl), .val (.long sl), .second] []))
  refine Go.by (fun _ kont => XS.aloadN X101.here hx rfl (hb hby dI_4) rfl rfl (XS.iloadN X101.here hx rfl (hb hby dI_5) rfl kont)) ?_
  show Go _ _ _ _ _ _ _ (T101.setTop (mkF m 6 #[.val (.ref a), .val (.int cl), .val (.long sl), .second] [(.int cl), (.ref a)]))
  obtain ⟨T102, h102, X102, e102, W102, st102⟩ := putF X101 hx hZ hown (host := "") (Or.inl (hw _ (List.mem_of_getElem? (i := 9) rfl))) Via.refl e101 F0_countLimit E0a (Or.inl (hw _ (List.mem_of_getElem? (i := 10) rfl))) (hw _ (List.mem_of_getElem? (i := 1) rfl)) (ty := .int) (by decide) rfl rfl (g := (mkF m 6 #[.val (.ref a), .val (.int cl), .val (.long sl), .second] [(.int cl), (.ref a)])) rfl rfl (hb hby dI_6)
  have Fw102 := F0_countLimit.same W102
  have F103_sizeLimit_a := F0_sizeLimit.other W102 (Or.inr (slot_ne (Or.inl (hw _ (List.mem_of_getElem? (i := 12) rfl))) (Or.inl (hw _ (List.mem_of_getElem? (i := 10) rfl))) (by decide) (t := .long) (t' := .int) (by decide) (by decide)))
  have F103_count_a := F0_count.other W102 (Or.inr (slot_ne (Or.inl (hw _ (List.mem_of_getElem? (i := 19) rfl))) (Or.inl (hw _ (List.mem_of_getElem? (i := 10) rfl))) (by decide) (t := .int) (t' := .int) (by decide) (by decide)))
  have F103_size_a := F0_size.other W102 (Or.inr (slot_ne (Or.inl (hw _ (List.mem_of_getElem? (i := 21) rfl))) (Or.inl (hw _ (List.mem_of_getElem? (i := 10) rfl))) (by decide) (t := .long) (t' := .int) (by decide) (by decide)))
  have E103_a := E0a.wr W102
  have Z103 := Nat.le_trans Z0 (Keep.of_wr W102).1
  have K103 : Keep h0 h102 [a] := (Keep.refl h0 [a]).wr W102 (Or.inl (by simp))
  have N102 := Fr.snoc X102 N0 ga
  refine Go.by st102 ?_
  show Go _ _ _ _ _ _ _ (T102.setTop (mkF m 9 #[.val (.ref a), .val (.int cl), .val (.long sl), .second] []))
  refine Go.by (fun _ kont => XS.aloadN X102.here hx rfl (hb hby dI_9) rfl rfl (XS.lloadN X102.here hx rfl (hb hby dI_10) rfl kont)) ?_
  show Go _ _ _ _ _ _ _ (T102.setTop (mkF m 11 #[.val (.ref a), .val (.int cl), .val (.long sl), .second] [(.long sl), (.ref a)]))
  obtain ⟨T104, h104, X104, e104, W104, st104⟩ := putF X102 hx hZ hown (host := "") (Or.inl (hw _ (List.mem_of_getElem? (i := 11) rfl))) Via.refl e102 F103_sizeLimit_a E103_a (Or.inl (hw _ (List.mem_of_getElem? (i := 12) rfl))) (hw _ (List.mem_of_getElem? (i := 1) rfl)) (ty := .long) (by decide) rfl rfl (g := (mkF m 11 #[.val (.ref a), .val (.int cl), .val (.long sl), .second] [(.long sl), (.ref a)])) rfl rfl (hb hby dI_11)
  have Fw104 := F103_sizeLimit_a.same W104
  have F105_countLimit_a := Fw102.other W104 (Or.inr (slot_ne (Or.inl (hw _ (List.mem_of_getElem? (i := 10) rfl))) (Or.inl (hw _ (List.mem_of_getElem? (i := 12) rfl))) (by decide) (t := .int) (t' := .long) (by decide) (by decide)))
  have F105_count_a := F103_count_a.other W104 (Or.inr (slot_ne (Or.inl (hw _ (List.mem_of_getElem? (i := 19) rfl))) (Or.inl (hw _ (List.mem_of_getElem? (i := 12) rfl))) (by decide) (t := .int) (t' := .long) (by decide) (by decide)))
  have F105_size_a := F103_size_a.other W104 (Or.inr (slot_ne (Or.inl (hw _ (List.mem_of_getElem? (i := 21) rfl))) (Or.inl (hw _ (List.mem_of_getElem? (i := 12) rfl))) (by decide) (t := .long) (t' := .long) (by decide) (by decide)))
  have E105_a := E103_a.wr W104
  have Z105 := Nat.le_trans Z103 (Keep.of_wr W104).1
  have K105 : Keep h0 h104 [a] := K103.wr W104 (Or.inl (by simp))
  have N104 := Fr.snoc X104 N102 ga
  refine Go.by st104 ?_
  show Go _ _ _ _ _ _ _ (T104.setTop (mkF m 14 #[.val (.ref a), .val (.int cl), .val (.long sl), .second] []))
  refine Go.retV X104 hx hret hlk (hb hby dI_14) ?_ (by decide) (by decide)
  show QI Z a cl sl h0 n0 none T104.heap _
  rw [e104]
  exact ⟨rfl, N104, K105, E105_a, F105_countLimit_a, Fw104, F105_count_a, F105_size_a⟩

theorem dA_0 : decode prog_6_method_4_code 0 = .ok (.aload_n 0, 1) := by decide +kernel
theorem dA_1 : decode prog_6_method_4_code 1 = .ok (.dup, 1) := by decide +kernel
theorem dA_2 : decode prog_6_method_4_code 2 = .ok (.getfield 17, 3) := by decide +kernel
theorem dA_5 : decode prog_6_method_4_code 5 = .ok (.iconst 1, 1) := by decide +kernel
theorem dA_6 : decode prog_6_method_4_code 6 = .ok (.iadd, 1) := by decide +kernel
theorem dA_7 : decode prog_6_method_4_code 7 = .ok (.putfield 17, 3) := by decide +kernel
theorem dA_10 : decode prog_6_method_4_code 10 = .ok (.aload_n 0, 1) := by decide +kernel
theorem dA_11 : decode prog_6_method_4_code 11 = .ok (.dup, 1) := by decide +kernel
theorem dA_12 : decode prog_6_method_4_code 12 = .ok (.getfield 20, 3) := by decide +kernel
theorem dA_15 : decode prog_6_method_4_code 15 = .ok (.lload_n 1, 1) := by decide +kernel
theorem dA_16 : decode prog_6_method_4_code 16 = .ok (.ladd, 1) := by decide +kernel
theorem dA_17 : decode prog_6_method_4_code 17 = .ok (.putfield 20, 3) := by decide +kernel
theorem dA_20 : decode prog_6_method_4_code 20 = .ok (.return_, 1) := by decide +kernel
theorem pnA : plainName "com/example/kyu/kyu/PrefetchWindow" = true := by first | (simp [plainName, overriddenIn]; done) | decide +kernel
theorem efA (m : MethodId) (a : Addr) (x : Int64) : entryFrame m #[(.ref a), (.long x)] 3 = mkF m 0 #[.val (.ref a), .val (.long x), .second] [] := by first | (simp [entryFrame, mkF, argsToLocals, Value.category]; done) | rfl
def QA (Z : State) (a : Addr) (x : Int64) (cl : Int32) (sl : Int64) (cn : Int32) (sz : Int64) (h0 : Heap) (n0 : Nat) (v : Option Value) (h : Heap) (L : List Loc) : Prop := v = none ∧ Fr n0 L ∧ Keep h0 h [a] ∧ Exa Z h a "com/example/kyu/kyu/PrefetchWindow" ∧ Fld Z h a "com/example/kyu/kyu/PrefetchWindow" "countLimit" "I" (.int cl) ∧ Fld Z h a "com/example/kyu/kyu/PrefetchWindow" "sizeLimit" "J" (.long sl) ∧ Fld Z h a "com/example/kyu/kyu/PrefetchWindow" "count" "I" (.int (cn + 1)) ∧ Fld Z h a "com/example/kyu/kyu/PrefetchWindow" "size" "J" (.long (sz + x))
set_option maxRecDepth 65536 in
set_option maxHeartbeats 40000000 in
theorem rmA (l : Launch) (Z : State) (a0 : Array Value) (hw : ∀ d ∈ tables_1, d.before a0 Z = true) (ws : List Jvm.Cond) (a : Addr) (x : Int64) (cl : Int32) (sl : Int64) (cn : Int32) (sz : Int64) (h0 : Heap) (n0 : Nat) (Z0 : n0 ≤ h0.size) (E0a : Exa Z h0 a "com/example/kyu/kyu/PrefetchWindow") (F0_countLimit : Fld Z h0 a "com/example/kyu/kyu/PrefetchWindow" "countLimit" "I" (.int cl)) (F0_sizeLimit : Fld Z h0 a "com/example/kyu/kyu/PrefetchWindow" "sizeLimit" "J" (.long sl)) (F0_count : Fld Z h0 a "com/example/kyu/kyu/PrefetchWindow" "count" "I" (.int cn)) (F0_size : Fld Z h0 a "com/example/kyu/kyu/PrefetchWindow" "size" "J" (.long sz)) (ga : n0 ≤ a) :
    MetFree l (⟨"com/example/kyu/kyu/PrefetchWindow", "add", "(J)V"⟩ : MethodName) (head1 (Jvm.Cond.code (⟨"com/example/kyu/kyu/PrefetchWindow", "add", "(J)V"⟩ : MethodName) prog_6_method_4_code 3 none :: ws) ({ frames := 0, cells := 0, slots := 0, locals := 0 } : Room)) (fun aa U => aa = #[(.ref a), (.long x)] ∧ Z.Warmed39 U.vm ∧ U.heap = h0) (fun _ _ _ _ _ => True) (fun _ U o U' => ∃ v L, o = .returned v ∧ QA Z a x cl sl cn sz h0 n0 v U'.heap L ∧ FrameEnd U o U' L ({ frames := 0, cells := 0, slots := 0, locals := 0 } : Room).cells ({ frames := 0, cells := 0, slots := 0, locals := 0 } : Room).slots) := by
  refine MetFree.of_bodySF (plainFor_of_name pnA) hisR ?_
  intro p e s m args below meth c s₁ Bd hml0 hP hK
  obtain ⟨rfl, hZ, hh⟩ := hP
  have hx := Bd.exec
  have hby := Bd.bytes
  have hml : c.maxLocals = 3 := hml0
  have hown : s.vm.findClass "com/example/kyu/kyu/PrefetchWindow" = some m.cls := findClass_of_methodNamed Bd.named
  have hnm := (name_of_methodNamed Bd.named Bd.method).1
  have hlk : meth.locks = false := BodyLoose.notSynchronized Bd
  have hret : meth.sig.returnType = none := Bd.returns
  have X0 : Stand p l e ({ frames := 0, cells := 0, slots := 0, locals := 0 } : Room) s m #[(.ref a), (.long x)] below meth c s₁ [] 0 0 := Stand.of_body Bd
  have e0 : s₁.heap = h0 := by rw [← hh, Bd.state]; rfl
  have N0 := Fr.nil n0
  show Go p e below s ({ frames := 0, cells := 0, slots := 0, locals := 0 } : Room).cells ({ frames := 0, cells := 0, slots := 0, locals := 0 } : Room).slots (QA Z a x cl sl cn sz h0 n0) (s₁.setTop (entryFrame m #[(.ref a), (.long x)] 3))
  rw [efA]
  refine Go.by (fun _ kont => XS.aloadN X0.here hx rfl (hb hby dA_0) rfl rfl (XS.dup X0.here hx rfl (hb hby dA_1) rfl rfl kont)) ?_
  show Go _ _ _ _ _ _ _ (s₁.setTop (mkF m 2 #[.val (.ref a), .val (.long x), .second] [(.ref a), (.ref a)]))
  obtain ⟨T101, X101, e101, st101⟩ := getF X0 hx hZ hown (host := "") (Or.inl (hw _ (List.mem_of_getElem? (i := 18) rfl))) Via.refl e0 F0_count (g := (mkF m 2 #[.val (.ref a), .val (.long x), .second] [(.ref a), (.ref a)])) rfl rfl (hb hby dA_2)
  refine Go.by st101 ?_
  show Go _ _ _ _ _ _ _ (T101.setTop (mkF m 5 #[.val (.ref a), .val (.long x), .second] [(.int cn), (.ref a)]))
  refine Go.by (fun _ kont => XS.iconst X101.here hx rfl (hb hby dA_5) (XS.iadd X101.here hx rfl (hb hby dA_6) rfl kont)) ?_
  show Go _ _ _ _ _ _ _ (T101.setTop (mkF m 7 #[.val (.ref a), .val (.long x), .second] [(.int (cn + (1 : Int32))), (.ref a)]))
  obtain ⟨T102, h102, X102, e102, W102, st102⟩ := putF X101 hx hZ hown (host := "") (Or.inl (hw _ (List.mem_of_getElem? (i := 18) rfl))) Via.refl e101 F0_count E0a (Or.inl (hw _ (List.mem_of_getElem? (i := 19) rfl))) (hw _ (List.mem_of_getElem? (i := 1) rfl)) (ty := .int) (by decide) rfl rfl (g := (mkF m 7 #[.val (.ref a), .val (.long x), .second] [(.int (cn + (1 : Int32))), (.ref a)])) rfl rfl (hb hby dA_7)
  have Fw102 := F0_count.same W102
  have F103_countLimit_a := F0_countLimit.other W102 (Or.inr (slot_ne (Or.inl (hw _ (List.mem_of_getElem? (i := 10) rfl))) (Or.inl (hw _ (List.mem_of_getElem? (i := 19) rfl))) (by decide) (t := .int) (t' := .int) (by decide) (by decide)))
  have F103_sizeLimit_a := F0_sizeLimit.other W102 (Or.inr (slot_ne (Or.inl (hw _ (List.mem_of_getElem? (i := 12) rfl))) (Or.inl (hw _ (List.mem_of_getElem? (i := 19) rfl))) (by decide) (t := .long) (t' := .int) (by decide) (by decide)))
  have F103_size_a := F0_size.other W102 (Or.inr (slot_ne (Or.inl (hw _ (List.mem_of_getElem? (i := 21) rfl))) (Or.inl (hw _ (List.mem_of_getElem? (i := 19) rfl))) (by decide) (t := .long) (t' := .int) (by decide) (by decide)))
  have E103_a := E0a.wr W102
  have Z103 := Nat.le_trans Z0 (Keep.of_wr W102).1
  have K103 : Keep h0 h102 [a] := (Keep.refl h0 [a]).wr W102 (Or.inl (by simp))
  have N102 := Fr.snoc X102 N0 ga
  refine Go.by st102 ?_
  show Go _ _ _ _ _ _ _ (T102.setTop (mkF m 10 #[.val (.ref a), .val (.long x), .second] []))
  refine Go.by (fun _ kont => XS.aloadN X102.here hx rfl (hb hby dA_10) rfl rfl (XS.dup X102.here hx rfl (hb hby dA_11) rfl rfl kont)) ?_
  show Go _ _ _ _ _ _ _ (T102.setTop (mkF m 12 #[.val (.ref a), .val (.long x), .second] [(.ref a), (.ref a)]))
  obtain ⟨T104, X104, e104, st104⟩ := getF X102 hx hZ hown (host := "") (Or.inl (hw _ (List.mem_of_getElem? (i := 20) rfl))) Via.refl e102 F103_size_a (g := (mkF m 12 #[.val (.ref a), .val (.long x), .second] [(.ref a), (.ref a)])) rfl rfl (hb hby dA_12)
  refine Go.by st104 ?_
  show Go _ _ _ _ _ _ _ (T104.setTop (mkF m 15 #[.val (.ref a), .val (.long x), .second] [(.long sz), (.ref a)]))
  refine Go.by (fun _ kont => XS.lloadN X104.here hx rfl (hb hby dA_15) rfl (XS.ladd X104.here hx rfl (hb hby dA_16) rfl kont)) ?_
  show Go _ _ _ _ _ _ _ (T104.setTop (mkF m 17 #[.val (.ref a), .val (.long x), .second] [(.long (sz + x)), (.ref a)]))
  obtain ⟨T105, h105, X105, e105, W105, st105⟩ := putF X104 hx hZ hown (host := "") (Or.inl (hw _ (List.mem_of_getElem? (i := 20) rfl))) Via.refl e104 F103_size_a E103_a (Or.inl (hw _ (List.mem_of_getElem? (i := 21) rfl))) (hw _ (List.mem_of_getElem? (i := 1) rfl)) (ty := .long) (by decide) rfl rfl (g := (mkF m 17 #[.val (.ref a), .val (.long x), .second] [(.long (sz + x)), (.ref a)])) rfl rfl (hb hby dA_17)
  have Fw105 := F103_size_a.same W105
  have F106_countLimit_a := F103_countLimit_a.other W105 (Or.inr (slot_ne (Or.inl (hw _ (List.mem_of_getElem? (i := 10) rfl))) (Or.inl (hw _ (List.mem_of_getElem? (i := 21) rfl))) (by decide) (t := .int) (t' := .long) (by decide) (by decide)))
  have F106_sizeLimit_a := F103_sizeLimit_a.other W105 (Or.inr (slot_ne (Or.inl (hw _ (List.mem_of_getElem? (i := 12) rfl))) (Or.inl (hw _ (List.mem_of_getElem? (i := 21) rfl))) (by decide) (t := .long) (t' := .long) (by decide) (by decide)))
  have F106_count_a := Fw102.other W105 (Or.inr (slot_ne (Or.inl (hw _ (List.mem_of_getElem? (i := 19) rfl))) (Or.inl (hw _ (List.mem_of_getElem? (i := 21) rfl))) (by decide) (t := .int) (t' := .long) (by decide) (by decide)))
  have E106_a := E103_a.wr W105
  have Z106 := Nat.le_trans Z103 (Keep.of_wr W105).1
  have K106 : Keep h0 h105 [a] := K103.wr W105 (Or.inl (by simp))
  have N105 := Fr.snoc X105 N102 ga
  refine Go.by st105 ?_
  show Go _ _ _ _ _ _ _ (T105.setTop (mkF m 20 #[.val (.ref a), .val (.long x), .second] []))
  refine Go.retV X105 hx hret hlk (hb hby dA_20) ?_ (by decide) (by decide)
  show QA Z a x cl sl cn sz h0 n0 none T105.heap _
  rw [e105]
  exact ⟨rfl, N105, K106, E106_a, F106_countLimit_a, F106_sizeLimit_a, F106_count_a, Fw105⟩

theorem dH_0 : decode prog_6_method_3_code 0 = .ok (.aload_n 0, 1) := by decide +kernel
theorem dH_1 : decode prog_6_method_3_code 1 = .ok (.getfield 7, 3) := by decide +kernel
theorem dH_4 : decode prog_6_method_3_code 4 = .ok (.ifCond .eq 14, 3) := by decide +kernel
theorem dH_7 : decode prog_6_method_3_code 7 = .ok (.aload_n 0, 1) := by decide +kernel
theorem dH_8 : decode prog_6_method_3_code 8 = .ok (.getfield 17, 3) := by decide +kernel
theorem dH_11 : decode prog_6_method_3_code 11 = .ok (.aload_n 0, 1) := by decide +kernel
theorem dH_12 : decode prog_6_method_3_code 12 = .ok (.getfield 7, 3) := by decide +kernel
theorem dH_15 : decode prog_6_method_3_code 15 = .ok (.if_icmp .ge 7, 3) := by decide +kernel
theorem dH_18 : decode prog_6_method_3_code 18 = .ok (.iconst 1, 1) := by decide +kernel
theorem dH_19 : decode prog_6_method_3_code 19 = .ok (.goto 4, 3) := by decide +kernel
theorem dH_22 : decode prog_6_method_3_code 22 = .ok (.iconst 0, 1) := by decide +kernel
theorem dH_23 : decode prog_6_method_3_code 23 = .ok (.istore_n 3, 1) := by decide +kernel
theorem dH_24 : decode prog_6_method_3_code 24 = .ok (.aload_n 0, 1) := by decide +kernel
theorem dH_25 : decode prog_6_method_3_code 25 = .ok (.getfield 13, 3) := by decide +kernel
theorem dH_28 : decode prog_6_method_3_code 28 = .ok (.lconst 0, 1) := by decide +kernel
theorem dH_29 : decode prog_6_method_3_code 29 = .ok (.lcmp, 1) := by decide +kernel
theorem dH_30 : decode prog_6_method_3_code 30 = .ok (.ifCond .eq 24, 3) := by decide +kernel
theorem dH_33 : decode prog_6_method_3_code 33 = .ok (.aload_n 0, 1) := by decide +kernel
theorem dH_34 : decode prog_6_method_3_code 34 = .ok (.getfield 17, 3) := by decide +kernel
theorem dH_37 : decode prog_6_method_3_code 37 = .ok (.ifCond .eq 17, 3) := by decide +kernel
theorem dH_40 : decode prog_6_method_3_code 40 = .ok (.aload_n 0, 1) := by decide +kernel
theorem dH_41 : decode prog_6_method_3_code 41 = .ok (.getfield 20, 3) := by decide +kernel
theorem dH_44 : decode prog_6_method_3_code 44 = .ok (.lload_n 1, 1) := by decide +kernel
theorem dH_45 : decode prog_6_method_3_code 45 = .ok (.ladd, 1) := by decide +kernel
theorem dH_46 : decode prog_6_method_3_code 46 = .ok (.aload_n 0, 1) := by decide +kernel
theorem dH_47 : decode prog_6_method_3_code 47 = .ok (.getfield 13, 3) := by decide +kernel
theorem dH_50 : decode prog_6_method_3_code 50 = .ok (.lcmp, 1) := by decide +kernel
theorem dH_51 : decode prog_6_method_3_code 51 = .ok (.ifCond .gt 7, 3) := by decide +kernel
theorem dH_54 : decode prog_6_method_3_code 54 = .ok (.iconst 1, 1) := by decide +kernel
theorem dH_55 : decode prog_6_method_3_code 55 = .ok (.goto 4, 3) := by decide +kernel
theorem dH_58 : decode prog_6_method_3_code 58 = .ok (.iconst 0, 1) := by decide +kernel
theorem dH_59 : decode prog_6_method_3_code 59 = .ok (.istore 4, 2) := by decide +kernel
theorem dH_61 : decode prog_6_method_3_code 61 = .ok (.iload_n 3, 1) := by decide +kernel
theorem dH_62 : decode prog_6_method_3_code 62 = .ok (.ifCond .eq 12, 3) := by decide +kernel
theorem dH_65 : decode prog_6_method_3_code 65 = .ok (.iload 4, 2) := by decide +kernel
theorem dH_67 : decode prog_6_method_3_code 67 = .ok (.ifCond .eq 7, 3) := by decide +kernel
theorem dH_70 : decode prog_6_method_3_code 70 = .ok (.iconst 1, 1) := by decide +kernel
theorem dH_71 : decode prog_6_method_3_code 71 = .ok (.goto 4, 3) := by decide +kernel
theorem dH_74 : decode prog_6_method_3_code 74 = .ok (.iconst 0, 1) := by decide +kernel
theorem dH_75 : decode prog_6_method_3_code 75 = .ok (.ireturn, 1) := by decide +kernel
theorem pnH : plainName "com/example/kyu/kyu/PrefetchWindow" = true := by first | (simp [plainName, overriddenIn]; done) | decide +kernel
theorem efH (m : MethodId) (a : Addr) (x : Int64) : entryFrame m #[(.ref a), (.long x)] 5 = mkF m 0 #[.val (.ref a), .val (.long x), .second, .unset, .unset] [] := by first | (simp [entryFrame, mkF, argsToLocals, Value.category]; done) | rfl
def own_room (x : Int64) (cl : Int32) (sl : Int64) (cn : Int32) (sz : Int64) : Bool := (decide (cl = 0) || decide (cn < cl)) && (decide (sl = 0) || decide (cn = 0) || !decide (sl < sz + x))
def QH (Z : State) (a : Addr) (x : Int64) (cl : Int32) (sl : Int64) (cn : Int32) (sz : Int64) (h0 : Heap) (n0 : Nat) (v : Option Value) (h : Heap) (L : List Loc) : Prop := v = some (.int (if own_room x cl sl cn sz then 1 else 0)) ∧ Fr n0 L ∧ h = h0
set_option maxRecDepth 65536 in
set_option maxHeartbeats 40000000 in
theorem rmH (l : Launch) (Z : State) (a0 : Array Value) (hw : ∀ d ∈ tables_1, d.before a0 Z = true) (ws : List Jvm.Cond) (a : Addr) (x : Int64) (cl : Int32) (sl : Int64) (cn : Int32) (sz : Int64) (h0 : Heap) (n0 : Nat) (Z0 : n0 ≤ h0.size) (E0a : Exa Z h0 a "com/example/kyu/kyu/PrefetchWindow") (F0_countLimit : Fld Z h0 a "com/example/kyu/kyu/PrefetchWindow" "countLimit" "I" (.int cl)) (F0_sizeLimit : Fld Z h0 a "com/example/kyu/kyu/PrefetchWindow" "sizeLimit" "J" (.long sl)) (F0_count : Fld Z h0 a "com/example/kyu/kyu/PrefetchWindow" "count" "I" (.int cn)) (F0_size : Fld Z h0 a "com/example/kyu/kyu/PrefetchWindow" "size" "J" (.long sz)) (ga : n0 ≤ a) :
    MetFree l (⟨"com/example/kyu/kyu/PrefetchWindow", "hasRoomFor", "(J)Z"⟩ : MethodName) (head1 (Jvm.Cond.code (⟨"com/example/kyu/kyu/PrefetchWindow", "hasRoomFor", "(J)Z"⟩ : MethodName) prog_6_method_3_code 5 (some .boolean) :: ws) ({ frames := 0, cells := 0, slots := 0, locals := 0 } : Room)) (fun aa U => aa = #[(.ref a), (.long x)] ∧ Z.Warmed39 U.vm ∧ U.heap = h0) (fun _ _ _ _ _ => True) (fun _ U o U' => ∃ v L, o = .returned v ∧ QH Z a x cl sl cn sz h0 n0 v U'.heap L ∧ FrameEnd U o U' L ({ frames := 0, cells := 0, slots := 0, locals := 0 } : Room).cells ({ frames := 0, cells := 0, slots := 0, locals := 0 } : Room).slots) := by
  refine MetFree.of_bodySF (plainFor_of_name pnH) hisR ?_
  intro p e s m args below meth c s₁ Bd hml0 hP hK
  obtain ⟨rfl, hZ, hh⟩ := hP
  have hx := Bd.exec
  have hby := Bd.bytes
  have hml : c.maxLocals = 5 := hml0
  have hown : s.vm.findClass "com/example/kyu/kyu/PrefetchWindow" = some m.cls := findClass_of_methodNamed Bd.named
  have hnm := (name_of_methodNamed Bd.named Bd.method).1
  have hlk : meth.locks = false := BodyLoose.notSynchronized Bd
  have hret : meth.sig.returnType = (some .boolean) := Bd.returns
  have X0 : Stand p l e ({ frames := 0, cells := 0, slots := 0, locals := 0 } : Room) s m #[(.ref a), (.long x)] below meth c s₁ [] 0 0 := Stand.of_body Bd
  have e0 : s₁.heap = h0 := by rw [← hh, Bd.state]; rfl
  have N0 := Fr.nil n0
  show Go p e below s ({ frames := 0, cells := 0, slots := 0, locals := 0 } : Room).cells ({ frames := 0, cells := 0, slots := 0, locals := 0 } : Room).slots (QH Z a x cl sl cn sz h0 n0) (s₁.setTop (entryFrame m #[(.ref a), (.long x)] 5))
  rw [efH]
  refine Go.by (fun _ kont => XS.aloadN X0.here hx rfl (hb hby dH_0) rfl rfl kont) ?_
  show Go _ _ _ _ _ _ _ (s₁.setTop (mkF m 1 #[.val (.ref a), .val (.long x), .second, .unset, .unset] [(.ref a)]))
  obtain ⟨T101, X101, e101, st101⟩ := getF X0 hx hZ hown (host := "") (Or.inl (hw _ (List.mem_of_getElem? (i := 9) rfl))) Via.refl e0 F0_countLimit (g := (mkF m 1 #[.val (.ref a), .val (.long x), .second, .unset, .unset] [(.ref a)])) rfl rfl (hb hby dH_1)
  refine Go.by st101 ?_
  show Go _ _ _ _ _ _ _ (T101.setTop (mkF m 4 #[.val (.ref a), .val (.long x), .second, .unset, .unset] [(.int cl)]))
  by_cases hc102 : cl = (0 : Int32)
  · refine Go.by (fun _ kont => XS.ifYes X101.here hx rfl (pc0 := 4) (pc' := 18) rfl (hb hby dH_4) rfl ((if0 _ _).trans (teq hc102).1) (by decide) (by decide) kont) ?_
    show Go _ _ _ _ _ _ _ (T101.setTop (mkF m 18 #[.val (.ref a), .val (.long x), .second, .unset, .unset] []))
    refine Go.by (fun _ kont => XS.iconst X101.here hx rfl (hb hby dH_18) (XS.goto X101.here hx rfl (pc0 := 19) (pc' := 23) rfl (hb hby dH_19) (by decide) (by decide) (XS.istoreN X101.here hx rfl (hb hby dH_23) rfl (l' := #[.val (.ref a), .val (.long x), .second, .val (.int (1 : Int32)), .unset]) rfl (XS.aloadN X101.here hx rfl (hb hby dH_24) rfl rfl kont)))) ?_
    show Go _ _ _ _ _ _ _ (T101.setTop (mkF m 25 #[.val (.ref a), .val (.long x), .second, .val (.int (1 : Int32)), .unset] [(.ref a)]))
    obtain ⟨T103, X103, e103, st103⟩ := getF X101 hx hZ hown (host := "") (Or.inl (hw _ (List.mem_of_getElem? (i := 11) rfl))) Via.refl e101 F0_sizeLimit (g := (mkF m 25 #[.val (.ref a), .val (.long x), .second, .val (.int (1 : Int32)), .unset] [(.ref a)])) rfl rfl (hb hby dH_25)
    refine Go.by st103 ?_
    show Go _ _ _ _ _ _ _ (T103.setTop (mkF m 28 #[.val (.ref a), .val (.long x), .second, .val (.int (1 : Int32)), .unset] [(.long sl)]))
    refine Go.by (fun _ kont => XS.lconst X103.here hx rfl (hb hby dH_28) (XS.lcmp X103.here hx rfl (hb hby dH_29) rfl kont)) ?_
    show Go _ _ _ _ _ _ _ (T103.setTop (mkF m 30 #[.val (.ref a), .val (.long x), .second, .val (.int (1 : Int32)), .unset] [(.int (lcmpW sl (0 : Int64)))]))
    by_cases hc104 : sl = (0 : Int64)
    · refine Go.by (fun _ kont => XS.ifYes X103.here hx rfl (pc0 := 30) (pc' := 54) rfl (hb hby dH_30) rfl ((if0 _ _).trans (teq ((lw_eq _ _).mpr hc104)).1) (by decide) (by decide) kont) ?_
      show Go _ _ _ _ _ _ _ (T103.setTop (mkF m 54 #[.val (.ref a), .val (.long x), .second, .val (.int (1 : Int32)), .unset] []))
      refine Go.by (fun _ kont => XS.iconst X103.here hx rfl (hb hby dH_54) (XS.goto X103.here hx rfl (pc0 := 55) (pc' := 59) rfl (hb hby dH_55) (by decide) (by decide) (XS.istore X103.here hx rfl (hb hby dH_59) rfl (l' := #[.val (.ref a), .val (.long x), .second, .val (.int (1 : Int32)), .val (.int (1 : Int32))]) rfl (XS.iloadN X103.here hx rfl (hb hby dH_61) rfl kont)))) ?_
      show Go _ _ _ _ _ _ _ (T103.setTop (mkF m 62 #[.val (.ref a), .val (.long x), .second, .val (.int (1 : Int32)), .val (.int (1 : Int32))] [(.int (1 : Int32))]))
      refine Go.by (fun _ kont => XS.ifNo X103.here hx rfl (hb hby dH_62) rfl (by decide) kont) ?_
      show Go _ _ _ _ _ _ _ (T103.setTop (mkF m 65 #[.val (.ref a), .val (.long x), .second, .val (.int (1 : Int32)), .val (.int (1 : Int32))] []))
      refine Go.by (fun _ kont => XS.iload X103.here hx rfl (hb hby dH_65) rfl kont) ?_
      show Go _ _ _ _ _ _ _ (T103.setTop (mkF m 67 #[.val (.ref a), .val (.long x), .second, .val (.int (1 : Int32)), .val (.int (1 : Int32))] [(.int (1 : Int32))]))
      refine Go.by (fun _ kont => XS.ifNo X103.here hx rfl (hb hby dH_67) rfl (by decide) kont) ?_
      show Go _ _ _ _ _ _ _ (T103.setTop (mkF m 70 #[.val (.ref a), .val (.long x), .second, .val (.int (1 : Int32)), .val (.int (1 : Int32))] []))
      refine Go.by (fun _ kont => XS.iconst X103.here hx rfl (hb hby dH_70) (XS.goto X103.here hx rfl (pc0 := 71) (pc' := 75) rfl (hb hby dH_71) (by decide) (by decide) kont)) ?_
      show Go _ _ _ _ _ _ _ (T103.setTop (mkF m 75 #[.val (.ref a), .val (.long x), .second, .val (.int (1 : Int32)), .val (.int (1 : Int32))] [(.int (1 : Int32))]))
      refine Go.retN X103 hx (t := .boolean) hret (by simp) hlk (hb hby dH_75) ?_ (by decide) (by decide)
      show QH Z a x cl sl cn sz h0 n0 (some (.int (1 : Int32))) T103.heap _
      rw [e103]
      refine ⟨?_, N0, rfl⟩
      simp only [own_room, decide_eq_true hc102, decide_eq_true hc104]
      rfl
    · refine Go.by (fun _ kont => XS.ifNo X103.here hx rfl (hb hby dH_30) rfl ((if0 _ _).trans (feq (fun z => hc104 ((lw_eq _ _).mp z))).1) kont) ?_
      show Go _ _ _ _ _ _ _ (T103.setTop (mkF m 33 #[.val (.ref a), .val (.long x), .second, .val (.int (1 : Int32)), .unset] []))
      refine Go.by (fun _ kont => XS.aloadN X103.here hx rfl (hb hby dH_33) rfl rfl kont) ?_
      show Go _ _ _ _ _ _ _ (T103.setTop (mkF m 34 #[.val (.ref a), .val (.long x), .second, .val (.int (1 : Int32)), .unset] [(.ref a)]))
      obtain ⟨T105, X105, e105, st105⟩ := getF X103 hx hZ hown (host := "") (Or.inl (hw _ (List.mem_of_getElem? (i := 18) rfl))) Via.refl e103 F0_count (g := (mkF m 34 #[.val (.ref a), .val (.long x), .second, .val (.int (1 : Int32)), .unset] [(.ref a)])) rfl rfl (hb hby dH_34)
      refine Go.by st105 ?_
      show Go _ _ _ _ _ _ _ (T105.setTop (mkF m 37 #[.val (.ref a), .val (.long x), .second, .val (.int (1 : Int32)), .unset] [(.int cn)]))
      by_cases hc106 : cn = (0 : Int32)
      · refine Go.by (fun _ kont => XS.ifYes X105.here hx rfl (pc0 := 37) (pc' := 54) rfl (hb hby dH_37) rfl ((if0 _ _).trans (teq hc106).1) (by decide) (by decide) kont) ?_
        show Go _ _ _ _ _ _ _ (T105.setTop (mkF m 54 #[.val (.ref a), .val (.long x), .second, .val (.int (1 : Int32)), .unset] []))
        refine Go.by (fun _ kont => XS.iconst X105.here hx rfl (hb hby dH_54) (XS.goto X105.here hx rfl (pc0 := 55) (pc' := 59) rfl (hb hby dH_55) (by decide) (by decide) (XS.istore X105.here hx rfl (hb hby dH_59) rfl (l' := #[.val (.ref a), .val (.long x), .second, .val (.int (1 : Int32)), .val (.int (1 : Int32))]) rfl (XS.iloadN X105.here hx rfl (hb hby dH_61) rfl kont)))) ?_
        show Go _ _ _ _ _ _ _ (T105.setTop (mkF m 62 #[.val (.ref a), .val (.long x), .second, .val (.int (1 : Int32)), .val (.int (1 : Int32))] [(.int (1 : Int32))]))
        refine Go.by (fun _ kont => XS.ifNo X105.here hx rfl (hb hby dH_62) rfl (by decide) kont) ?_
        show Go _ _ _ _ _ _ _ (T105.setTop (mkF m 65 #[.val (.ref a), .val (.long x), .second, .val (.int (1 : Int32)), .val (.int (1 : Int32))] []))
        refine Go.by (fun _ kont => XS.iload X105.here hx rfl (hb hby dH_65) rfl kont) ?_
        show Go _ _ _ _ _ _ _ (T105.setTop (mkF m 67 #[.val (.ref a), .val (.long x), .second, .val (.int (1 : Int32)), .val (.int (1 : Int32))] [(.int (1 : Int32))]))
        refine Go.by (fun _ kont => XS.ifNo X105.here hx rfl (hb hby dH_67) rfl (by decide) kont) ?_
        show Go _ _ _ _ _ _ _ (T105.setTop (mkF m 70 #[.val (.ref a), .val (.long x), .second, .val (.int (1 : Int32)), .val (.int (1 : Int32))] []))
        refine Go.by (fun _ kont => XS.iconst X105.here hx rfl (hb hby dH_70) (XS.goto X105.here hx rfl (pc0 := 71) (pc' := 75) rfl (hb hby dH_71) (by decide) (by decide) kont)) ?_
        show Go _ _ _ _ _ _ _ (T105.setTop (mkF m 75 #[.val (.ref a), .val (.long x), .second, .val (.int (1 : Int32)), .val (.int (1 : Int32))] [(.int (1 : Int32))]))
        refine Go.retN X105 hx (t := .boolean) hret (by simp) hlk (hb hby dH_75) ?_ (by decide) (by decide)
        show QH Z a x cl sl cn sz h0 n0 (some (.int (1 : Int32))) T105.heap _
        rw [e105]
        refine ⟨?_, N0, rfl⟩
        simp only [own_room, decide_eq_true hc102, decide_eq_false hc104, decide_eq_true hc106]
        rfl
      · refine Go.by (fun _ kont => XS.ifNo X105.here hx rfl (hb hby dH_37) rfl ((if0 _ _).trans (feq hc106).1) kont) ?_
        show Go _ _ _ _ _ _ _ (T105.setTop (mkF m 40 #[.val (.ref a), .val (.long x), .second, .val (.int (1 : Int32)), .unset] []))
        refine Go.by (fun _ kont => XS.aloadN X105.here hx rfl (hb hby dH_40) rfl rfl kont) ?_
        show Go _ _ _ _ _ _ _ (T105.setTop (mkF m 41 #[.val (.ref a), .val (.long x), .second, .val (.int (1 : Int32)), .unset] [(.ref a)]))
        obtain ⟨T107, X107, e107, st107⟩ := getF X105 hx hZ hown (host := "") (Or.inl (hw _ (List.mem_of_getElem? (i := 20) rfl))) Via.refl e105 F0_size (g := (mkF m 41 #[.val (.ref a), .val (.long x), .second, .val (.int (1 : Int32)), .unset] [(.ref a)])) rfl rfl (hb hby dH_41)
        refine Go.by st107 ?_
        show Go _ _ _ _ _ _ _ (T107.setTop (mkF m 44 #[.val (.ref a), .val (.long x), .second, .val (.int (1 : Int32)), .unset] [(.long sz)]))
        refine Go.by (fun _ kont => XS.lloadN X107.here hx rfl (hb hby dH_44) rfl (XS.ladd X107.here hx rfl (hb hby dH_45) rfl (XS.aloadN X107.here hx rfl (hb hby dH_46) rfl rfl kont))) ?_
        show Go _ _ _ _ _ _ _ (T107.setTop (mkF m 47 #[.val (.ref a), .val (.long x), .second, .val (.int (1 : Int32)), .unset] [(.ref a), (.long (sz + x))]))
        obtain ⟨T108, X108, e108, st108⟩ := getF X107 hx hZ hown (host := "") (Or.inl (hw _ (List.mem_of_getElem? (i := 11) rfl))) Via.refl e107 F0_sizeLimit (g := (mkF m 47 #[.val (.ref a), .val (.long x), .second, .val (.int (1 : Int32)), .unset] [(.ref a), (.long (sz + x))])) rfl rfl (hb hby dH_47)
        refine Go.by st108 ?_
        show Go _ _ _ _ _ _ _ (T108.setTop (mkF m 50 #[.val (.ref a), .val (.long x), .second, .val (.int (1 : Int32)), .unset] [(.long sl), (.long (sz + x))]))
        refine Go.by (fun _ kont => XS.lcmp X108.here hx rfl (hb hby dH_50) rfl kont) ?_
        show Go _ _ _ _ _ _ _ (T108.setTop (mkF m 51 #[.val (.ref a), .val (.long x), .second, .val (.int (1 : Int32)), .unset] [(.int (lcmpW (sz + x) sl))]))
        by_cases hc109 : sl < (sz + x)
        · refine Go.by (fun _ kont => XS.ifYes X108.here hx rfl (pc0 := 51) (pc' := 58) rfl (hb hby dH_51) rfl ((if0 _ _).trans (tlt ((lw_gt _ _).mpr hc109)).2.2.1) (by decide) (by decide) kont) ?_
          show Go _ _ _ _ _ _ _ (T108.setTop (mkF m 58 #[.val (.ref a), .val (.long x), .second, .val (.int (1 : Int32)), .unset] []))
          refine Go.by (fun _ kont => XS.iconst X108.here hx rfl (hb hby dH_58) (XS.istore X108.here hx rfl (hb hby dH_59) rfl (l' := #[.val (.ref a), .val (.long x), .second, .val (.int (1 : Int32)), .val (.int (0 : Int32))]) rfl (XS.iloadN X108.here hx rfl (hb hby dH_61) rfl kont))) ?_
          show Go _ _ _ _ _ _ _ (T108.setTop (mkF m 62 #[.val (.ref a), .val (.long x), .second, .val (.int (1 : Int32)), .val (.int (0 : Int32))] [(.int (1 : Int32))]))
          refine Go.by (fun _ kont => XS.ifNo X108.here hx rfl (hb hby dH_62) rfl (by decide) kont) ?_
          show Go _ _ _ _ _ _ _ (T108.setTop (mkF m 65 #[.val (.ref a), .val (.long x), .second, .val (.int (1 : Int32)), .val (.int (0 : Int32))] []))
          refine Go.by (fun _ kont => XS.iload X108.here hx rfl (hb hby dH_65) rfl kont) ?_
          show Go _ _ _ _ _ _ _ (T108.setTop (mkF m 67 #[.val (.ref a), .val (.long x), .second, .val (.int (1 : Int32)), .val (.int (0 : Int32))] [(.int (0 : Int32))]))
          refine Go.by (fun _ kont => XS.ifYes X108.here hx rfl (pc0 := 67) (pc' := 74) rfl (hb hby dH_67) rfl (by decide) (by decide) (by decide) kont) ?_
          show Go _ _ _ _ _ _ _ (T108.setTop (mkF m 74 #[.val (.ref a), .val (.long x), .second, .val (.int (1 : Int32)), .val (.int (0 : Int32))] []))
          refine Go.by (fun _ kont => XS.iconst X108.here hx rfl (hb hby dH_74) kont) ?_
          show Go _ _ _ _ _ _ _ (T108.setTop (mkF m 75 #[.val (.ref a), .val (.long x), .second, .val (.int (1 : Int32)), .val (.int (0 : Int32))] [(.int (0 : Int32))]))
          refine Go.retN X108 hx (t := .boolean) hret (by simp) hlk (hb hby dH_75) ?_ (by decide) (by decide)
          show QH Z a x cl sl cn sz h0 n0 (some (.int (0 : Int32))) T108.heap _
          rw [e108]
          refine ⟨?_, N0, rfl⟩
          simp only [own_room, decide_eq_true hc102, decide_eq_false hc104, decide_eq_false hc106, decide_eq_true hc109]
          rfl
        · refine Go.by (fun _ kont => XS.ifNo X108.here hx rfl (hb hby dH_51) rfl ((if0 _ _).trans (flt (fun z => hc109 ((lw_gt _ _).mp z))).2.2.1) kont) ?_
          show Go _ _ _ _ _ _ _ (T108.setTop (mkF m 54 #[.val (.ref a), .val (.long x), .second, .val (.int (1 : Int32)), .unset] []))
          refine Go.by (fun _ kont => XS.iconst X108.here hx rfl (hb hby dH_54) (XS.goto X108.here hx rfl (pc0 := 55) (pc' := 59) rfl (hb hby dH_55) (by decide) (by decide) (XS.istore X108.here hx rfl (hb hby dH_59) rfl (l' := #[.val (.ref a), .val (.long x), .second, .val (.int (1 : Int32)), .val (.int (1 : Int32))]) rfl (XS.iloadN X108.here hx rfl (hb hby dH_61) rfl kont)))) ?_
          show Go _ _ _ _ _ _ _ (T108.setTop (mkF m 62 #[.val (.ref a), .val (.long x), .second, .val (.int (1 : Int32)), .val (.int (1 : Int32))] [(.int (1 : Int32))]))
          refine Go.by (fun _ kont => XS.ifNo X108.here hx rfl (hb hby dH_62) rfl (by decide) kont) ?_
          show Go _ _ _ _ _ _ _ (T108.setTop (mkF m 65 #[.val (.ref a), .val (.long x), .second, .val (.int (1 : Int32)), .val (.int (1 : Int32))] []))
          refine Go.by (fun _ kont => XS.iload X108.here hx rfl (hb hby dH_65) rfl kont) ?_
          show Go _ _ _ _ _ _ _ (T108.setTop (mkF m 67 #[.val (.ref a), .val (.long x), .second, .val (.int (1 : Int32)), .val (.int (1 : Int32))] [(.int (1 : Int32))]))
          refine Go.by (fun _ kont => XS.ifNo X108.here hx rfl (hb hby dH_67) rfl (by decide) kont) ?_
          show Go _ _ _ _ _ _ _ (T108.setTop (mkF m 70 #[.val (.ref a), .val (.long x), .second, .val (.int (1 : Int32)), .val (.int (1 : Int32))] []))
          refine Go.by (fun _ kont => XS.iconst X108.here hx rfl (hb hby dH_70) (XS.goto X108.here hx rfl (pc0 := 71) (pc' := 75) rfl (hb hby dH_71) (by decide) (by decide) kont)) ?_
          show Go _ _ _ _ _ _ _ (T108.setTop (mkF m 75 #[.val (.ref a), .val (.long x), .second, .val (.int (1 : Int32)), .val (.int (1 : Int32))] [(.int (1 : Int32))]))
          refine Go.retN X108 hx (t := .boolean) hret (by simp) hlk (hb hby dH_75) ?_ (by decide) (by decide)
          show QH Z a x cl sl cn sz h0 n0 (some (.int (1 : Int32))) T108.heap _
          rw [e108]
          refine ⟨?_, N0, rfl⟩
          simp only [own_room, decide_eq_true hc102, decide_eq_false hc104, decide_eq_false hc106, decide_eq_false hc109]
          rfl
  · refine Go.by (fun _ kont => XS.ifNo X101.here hx rfl (hb hby dH_4) rfl ((if0 _ _).trans (feq hc102).1) kont) ?_
    show Go _ _ _ _ _ _ _ (T101.setTop (mkF m 7 #[.val (.ref a), .val (.long x), .second, .unset, .unset] []))
    refine Go.by (fun _ kont => XS.aloadN X101.here hx rfl (hb hby dH_7) rfl rfl kont) ?_
    show Go _ _ _ _ _ _ _ (T101.setTop (mkF m 8 #[.val (.ref a), .val (.long x), .second, .unset, .unset] [(.ref a)]))
    obtain ⟨T110, X110, e110, st110⟩ := getF X101 hx hZ hown (host := "") (Or.inl (hw _ (List.mem_of_getElem? (i := 18) rfl))) Via.refl e101 F0_count (g := (mkF m 8 #[.val (.ref a), .val (.long x), .second, .unset, .unset] [(.ref a)])) rfl rfl (hb hby dH_8)
    refine Go.by st110 ?_
    show Go _ _ _ _ _ _ _ (T110.setTop (mkF m 11 #[.val (.ref a), .val (.long x), .second, .unset, .unset] [(.int cn)]))
    refine Go.by (fun _ kont => XS.aloadN X110.here hx rfl (hb hby dH_11) rfl rfl kont) ?_
    show Go _ _ _ _ _ _ _ (T110.setTop (mkF m 12 #[.val (.ref a), .val (.long x), .second, .unset, .unset] [(.ref a), (.int cn)]))
    obtain ⟨T111, X111, e111, st111⟩ := getF X110 hx hZ hown (host := "") (Or.inl (hw _ (List.mem_of_getElem? (i := 9) rfl))) Via.refl e110 F0_countLimit (g := (mkF m 12 #[.val (.ref a), .val (.long x), .second, .unset, .unset] [(.ref a), (.int cn)])) rfl rfl (hb hby dH_12)
    refine Go.by st111 ?_
    show Go _ _ _ _ _ _ _ (T111.setTop (mkF m 15 #[.val (.ref a), .val (.long x), .second, .unset, .unset] [(.int cl), (.int cn)]))
    by_cases hc112 : cn < cl
    · refine Go.by (fun _ kont => XS.icmpNo X111.here hx rfl (hb hby dH_15) rfl (tlt hc112).2.1 kont) ?_
      show Go _ _ _ _ _ _ _ (T111.setTop (mkF m 18 #[.val (.ref a), .val (.long x), .second, .unset, .unset] []))
      refine Go.by (fun _ kont => XS.iconst X111.here hx rfl (hb hby dH_18) (XS.goto X111.here hx rfl (pc0 := 19) (pc' := 23) rfl (hb hby dH_19) (by decide) (by decide) (XS.istoreN X111.here hx rfl (hb hby dH_23) rfl (l' := #[.val (.ref a), .val (.long x), .second, .val (.int (1 : Int32)), .unset]) rfl (XS.aloadN X111.here hx rfl (hb hby dH_24) rfl rfl kont)))) ?_
      show Go _ _ _ _ _ _ _ (T111.setTop (mkF m 25 #[.val (.ref a), .val (.long x), .second, .val (.int (1 : Int32)), .unset] [(.ref a)]))
      obtain ⟨T113, X113, e113, st113⟩ := getF X111 hx hZ hown (host := "") (Or.inl (hw _ (List.mem_of_getElem? (i := 11) rfl))) Via.refl e111 F0_sizeLimit (g := (mkF m 25 #[.val (.ref a), .val (.long x), .second, .val (.int (1 : Int32)), .unset] [(.ref a)])) rfl rfl (hb hby dH_25)
      refine Go.by st113 ?_
      show Go _ _ _ _ _ _ _ (T113.setTop (mkF m 28 #[.val (.ref a), .val (.long x), .second, .val (.int (1 : Int32)), .unset] [(.long sl)]))
      refine Go.by (fun _ kont => XS.lconst X113.here hx rfl (hb hby dH_28) (XS.lcmp X113.here hx rfl (hb hby dH_29) rfl kont)) ?_
      show Go _ _ _ _ _ _ _ (T113.setTop (mkF m 30 #[.val (.ref a), .val (.long x), .second, .val (.int (1 : Int32)), .unset] [(.int (lcmpW sl (0 : Int64)))]))
      by_cases hc114 : sl = (0 : Int64)
      · refine Go.by (fun _ kont => XS.ifYes X113.here hx rfl (pc0 := 30) (pc' := 54) rfl (hb hby dH_30) rfl ((if0 _ _).trans (teq ((lw_eq _ _).mpr hc114)).1) (by decide) (by decide) kont) ?_
        show Go _ _ _ _ _ _ _ (T113.setTop (mkF m 54 #[.val (.ref a), .val (.long x), .second, .val (.int (1 : Int32)), .unset] []))
        refine Go.by (fun _ kont => XS.iconst X113.here hx rfl (hb hby dH_54) (XS.goto X113.here hx rfl (pc0 := 55) (pc' := 59) rfl (hb hby dH_55) (by decide) (by decide) (XS.istore X113.here hx rfl (hb hby dH_59) rfl (l' := #[.val (.ref a), .val (.long x), .second, .val (.int (1 : Int32)), .val (.int (1 : Int32))]) rfl (XS.iloadN X113.here hx rfl (hb hby dH_61) rfl kont)))) ?_
        show Go _ _ _ _ _ _ _ (T113.setTop (mkF m 62 #[.val (.ref a), .val (.long x), .second, .val (.int (1 : Int32)), .val (.int (1 : Int32))] [(.int (1 : Int32))]))
        refine Go.by (fun _ kont => XS.ifNo X113.here hx rfl (hb hby dH_62) rfl (by decide) kont) ?_
        show Go _ _ _ _ _ _ _ (T113.setTop (mkF m 65 #[.val (.ref a), .val (.long x), .second, .val (.int (1 : Int32)), .val (.int (1 : Int32))] []))
        refine Go.by (fun _ kont => XS.iload X113.here hx rfl (hb hby dH_65) rfl kont) ?_
        show Go _ _ _ _ _ _ _ (T113.setTop (mkF m 67 #[.val (.ref a), .val (.long x), .second, .val (.int (1 : Int32)), .val (.int (1 : Int32))] [(.int (1 : Int32))]))
        refine Go.by (fun _ kont => XS.ifNo X113.here hx rfl (hb hby dH_67) rfl (by decide) kont) ?_
        show Go _ _ _ _ _ _ _ (T113.setTop (mkF m 70 #[.val (.ref a), .val (.long x), .second, .val (.int (1 : Int32)), .val (.int (1 : Int32))] []))
        refine Go.by (fun _ kont => XS.iconst X113.here hx rfl (hb hby dH_70) (XS.goto X113.here hx rfl (pc0 := 71) (pc' := 75) rfl (hb hby dH_71) (by decide) (by decide) kont)) ?_
        show Go _ _ _ _ _ _ _ (T113.setTop (mkF m 75 #[.val (.ref a), .val (.long x), .second, .val (.int (1 : Int32)), .val (.int (1 : Int32))] [(.int (1 : Int32))]))
        refine Go.retN X113 hx (t := .boolean) hret (by simp) hlk (hb hby dH_75) ?_ (by decide) (by decide)
        show QH Z a x cl sl cn sz h0 n0 (some (.int (1 : Int32))) T113.heap _
        rw [e113]
        refine ⟨?_, N0, rfl⟩
        simp only [own_room, decide_eq_false hc102, decide_eq_true hc112, decide_eq_true hc114]
        rfl
      · refine Go.by (fun _ kont => XS.ifNo X113.here hx rfl (hb hby dH_30) rfl ((if0 _ _).trans (feq (fun z => hc114 ((lw_eq _ _).mp z))).1) kont) ?_
        show Go _ _ _ _ _ _ _ (T113.setTop (mkF m 33 #[.val (.ref a), .val (.long x), .second, .val (.int (1 : Int32)), .unset] []))
        refine Go.by (fun _ kont => XS.aloadN X113.here hx rfl (hb hby dH_33) rfl rfl kont) ?_
        show Go _ _ _ _ _ _ _ (T113.setTop (mkF m 34 #[.val (.ref a), .val (.long x), .second, .val (.int (1 : Int32)), .unset] [(.ref a)]))
        obtain ⟨T115, X115, e115, st115⟩ := getF X113 hx hZ hown (host := "") (Or.inl (hw _ (List.mem_of_getElem? (i := 18) rfl))) Via.refl e113 F0_count (g := (mkF m 34 #[.val (.ref a), .val (.long x), .second, .val (.int (1 : Int32)), .unset] [(.ref a)])) rfl rfl (hb hby dH_34)
        refine Go.by st115 ?_
        show Go _ _ _ _ _ _ _ (T115.setTop (mkF m 37 #[.val (.ref a), .val (.long x), .second, .val (.int (1 : Int32)), .unset] [(.int cn)]))
        by_cases hc116 : cn = (0 : Int32)
        · refine Go.by (fun _ kont => XS.ifYes X115.here hx rfl (pc0 := 37) (pc' := 54) rfl (hb hby dH_37) rfl ((if0 _ _).trans (teq hc116).1) (by decide) (by decide) kont) ?_
          show Go _ _ _ _ _ _ _ (T115.setTop (mkF m 54 #[.val (.ref a), .val (.long x), .second, .val (.int (1 : Int32)), .unset] []))
          refine Go.by (fun _ kont => XS.iconst X115.here hx rfl (hb hby dH_54) (XS.goto X115.here hx rfl (pc0 := 55) (pc' := 59) rfl (hb hby dH_55) (by decide) (by decide) (XS.istore X115.here hx rfl (hb hby dH_59) rfl (l' := #[.val (.ref a), .val (.long x), .second, .val (.int (1 : Int32)), .val (.int (1 : Int32))]) rfl (XS.iloadN X115.here hx rfl (hb hby dH_61) rfl kont)))) ?_
          show Go _ _ _ _ _ _ _ (T115.setTop (mkF m 62 #[.val (.ref a), .val (.long x), .second, .val (.int (1 : Int32)), .val (.int (1 : Int32))] [(.int (1 : Int32))]))
          refine Go.by (fun _ kont => XS.ifNo X115.here hx rfl (hb hby dH_62) rfl (by decide) kont) ?_
          show Go _ _ _ _ _ _ _ (T115.setTop (mkF m 65 #[.val (.ref a), .val (.long x), .second, .val (.int (1 : Int32)), .val (.int (1 : Int32))] []))
          refine Go.by (fun _ kont => XS.iload X115.here hx rfl (hb hby dH_65) rfl kont) ?_
          show Go _ _ _ _ _ _ _ (T115.setTop (mkF m 67 #[.val (.ref a), .val (.long x), .second, .val (.int (1 : Int32)), .val (.int (1 : Int32))] [(.int (1 : Int32))]))
          refine Go.by (fun _ kont => XS.ifNo X115.here hx rfl (hb hby dH_67) rfl (by decide) kont) ?_
          show Go _ _ _ _ _ _ _ (T115.setTop (mkF m 70 #[.val (.ref a), .val (.long x), .second, .val (.int (1 : Int32)), .val (.int (1 : Int32))] []))
          refine Go.by (fun _ kont => XS.iconst X115.here hx rfl (hb hby dH_70) (XS.goto X115.here hx rfl (pc0 := 71) (pc' := 75) rfl (hb hby dH_71) (by decide) (by decide) kont)) ?_
          show Go _ _ _ _ _ _ _ (T115.setTop (mkF m 75 #[.val (.ref a), .val (.long x), .second, .val (.int (1 : Int32)), .val (.int (1 : Int32))] [(.int (1 : Int32))]))
          refine Go.retN X115 hx (t := .boolean) hret (by simp) hlk (hb hby dH_75) ?_ (by decide) (by decide)
          show QH Z a x cl sl cn sz h0 n0 (some (.int (1 : Int32))) T115.heap _
          rw [e115]
          refine ⟨?_, N0, rfl⟩
          simp only [own_room, decide_eq_false hc102, decide_eq_true hc112, decide_eq_false hc114, decide_eq_true hc116]
          rfl
        · refine Go.by (fun _ kont => XS.ifNo X115.here hx rfl (hb hby dH_37) rfl ((if0 _ _).trans (feq hc116).1) kont) ?_
          show Go _ _ _ _ _ _ _ (T115.setTop (mkF m 40 #[.val (.ref a), .val (.long x), .second, .val (.int (1 : Int32)), .unset] []))
          refine Go.by (fun _ kont => XS.aloadN X115.here hx rfl (hb hby dH_40) rfl rfl kont) ?_
          show Go _ _ _ _ _ _ _ (T115.setTop (mkF m 41 #[.val (.ref a), .val (.long x), .second, .val (.int (1 : Int32)), .unset] [(.ref a)]))
          obtain ⟨T117, X117, e117, st117⟩ := getF X115 hx hZ hown (host := "") (Or.inl (hw _ (List.mem_of_getElem? (i := 20) rfl))) Via.refl e115 F0_size (g := (mkF m 41 #[.val (.ref a), .val (.long x), .second, .val (.int (1 : Int32)), .unset] [(.ref a)])) rfl rfl (hb hby dH_41)
          refine Go.by st117 ?_
          show Go _ _ _ _ _ _ _ (T117.setTop (mkF m 44 #[.val (.ref a), .val (.long x), .second, .val (.int (1 : Int32)), .unset] [(.long sz)]))
          refine Go.by (fun _ kont => XS.lloadN X117.here hx rfl (hb hby dH_44) rfl (XS.ladd X117.here hx rfl (hb hby dH_45) rfl (XS.aloadN X117.here hx rfl (hb hby dH_46) rfl rfl kont))) ?_
          show Go _ _ _ _ _ _ _ (T117.setTop (mkF m 47 #[.val (.ref a), .val (.long x), .second, .val (.int (1 : Int32)), .unset] [(.ref a), (.long (sz + x))]))
          obtain ⟨T118, X118, e118, st118⟩ := getF X117 hx hZ hown (host := "") (Or.inl (hw _ (List.mem_of_getElem? (i := 11) rfl))) Via.refl e117 F0_sizeLimit (g := (mkF m 47 #[.val (.ref a), .val (.long x), .second, .val (.int (1 : Int32)), .unset] [(.ref a), (.long (sz + x))])) rfl rfl (hb hby dH_47)
          refine Go.by st118 ?_
          show Go _ _ _ _ _ _ _ (T118.setTop (mkF m 50 #[.val (.ref a), .val (.long x), .second, .val (.int (1 : Int32)), .unset] [(.long sl), (.long (sz + x))]))
          refine Go.by (fun _ kont => XS.lcmp X118.here hx rfl (hb hby dH_50) rfl kont) ?_
          show Go _ _ _ _ _ _ _ (T118.setTop (mkF m 51 #[.val (.ref a), .val (.long x), .second, .val (.int (1 : Int32)), .unset] [(.int (lcmpW (sz + x) sl))]))
          by_cases hc119 : sl < (sz + x)
          · refine Go.by (fun _ kont => XS.ifYes X118.here hx rfl (pc0 := 51) (pc' := 58) rfl (hb hby dH_51) rfl ((if0 _ _).trans (tlt ((lw_gt _ _).mpr hc119)).2.2.1) (by decide) (by decide) kont) ?_
            show Go _ _ _ _ _ _ _ (T118.setTop (mkF m 58 #[.val (.ref a), .val (.long x), .second, .val (.int (1 : Int32)), .unset] []))
            refine Go.by (fun _ kont => XS.iconst X118.here hx rfl (hb hby dH_58) (XS.istore X118.here hx rfl (hb hby dH_59) rfl (l' := #[.val (.ref a), .val (.long x), .second, .val (.int (1 : Int32)), .val (.int (0 : Int32))]) rfl (XS.iloadN X118.here hx rfl (hb hby dH_61) rfl kont))) ?_
            show Go _ _ _ _ _ _ _ (T118.setTop (mkF m 62 #[.val (.ref a), .val (.long x), .second, .val (.int (1 : Int32)), .val (.int (0 : Int32))] [(.int (1 : Int32))]))
            refine Go.by (fun _ kont => XS.ifNo X118.here hx rfl (hb hby dH_62) rfl (by decide) kont) ?_
            show Go _ _ _ _ _ _ _ (T118.setTop (mkF m 65 #[.val (.ref a), .val (.long x), .second, .val (.int (1 : Int32)), .val (.int (0 : Int32))] []))
            refine Go.by (fun _ kont => XS.iload X118.here hx rfl (hb hby dH_65) rfl kont) ?_
            show Go _ _ _ _ _ _ _ (T118.setTop (mkF m 67 #[.val (.ref a), .val (.long x), .second, .val (.int (1 : Int32)), .val (.int (0 : Int32))] [(.int (0 : Int32))]))
            refine Go.by (fun _ kont => XS.ifYes X118.here hx rfl (pc0 := 67) (pc' := 74) rfl (hb hby dH_67) rfl (by decide) (by decide) (by decide) kont) ?_
            show Go _ _ _ _ _ _ _ (T118.setTop (mkF m 74 #[.val (.ref a), .val (.long x), .second, .val (.int (1 : Int32)), .val (.int (0 : Int32))] []))
            refine Go.by (fun _ kont => XS.iconst X118.here hx rfl (hb hby dH_74) kont) ?_
            show Go _ _ _ _ _ _ _ (T118.setTop (mkF m 75 #[.val (.ref a), .val (.long x), .second, .val (.int (1 : Int32)), .val (.int (0 : Int32))] [(.int (0 : Int32))]))
            refine Go.retN X118 hx (t := .boolean) hret (by simp) hlk (hb hby dH_75) ?_ (by decide) (by decide)
            show QH Z a x cl sl cn sz h0 n0 (some (.int (0 : Int32))) T118.heap _
            rw [e118]
            refine ⟨?_, N0, rfl⟩
            simp only [own_room, decide_eq_false hc102, decide_eq_true hc112, decide_eq_false hc114, decide_eq_false hc116, decide_eq_true hc119]
            rfl
          · refine Go.by (fun _ kont => XS.ifNo X118.here hx rfl (hb hby dH_51) rfl ((if0 _ _).trans (flt (fun z => hc119 ((lw_gt _ _).mp z))).2.2.1) kont) ?_
            show Go _ _ _ _ _ _ _ (T118.setTop (mkF m 54 #[.val (.ref a), .val (.long x), .second, .val (.int (1 : Int32)), .unset] []))
            refine Go.by (fun _ kont => XS.iconst X118.here hx rfl (hb hby dH_54) (XS.goto X118.here hx rfl (pc0 := 55) (pc' := 59) rfl (hb hby dH_55) (by decide) (by decide) (XS.istore X118.here hx rfl (hb hby dH_59) rfl (l' := #[.val (.ref a), .val (.long x), .second, .val (.int (1 : Int32)), .val (.int (1 : Int32))]) rfl (XS.iloadN X118.here hx rfl (hb hby dH_61) rfl kont)))) ?_
            show Go _ _ _ _ _ _ _ (T118.setTop (mkF m 62 #[.val (.ref a), .val (.long x), .second, .val (.int (1 : Int32)), .val (.int (1 : Int32))] [(.int (1 : Int32))]))
            refine Go.by (fun _ kont => XS.ifNo X118.here hx rfl (hb hby dH_62) rfl (by decide) kont) ?_
            show Go _ _ _ _ _ _ _ (T118.setTop (mkF m 65 #[.val (.ref a), .val (.long x), .second, .val (.int (1 : Int32)), .val (.int (1 : Int32))] []))
            refine Go.by (fun _ kont => XS.iload X118.here hx rfl (hb hby dH_65) rfl kont) ?_
            show Go _ _ _ _ _ _ _ (T118.setTop (mkF m 67 #[.val (.ref a), .val (.long x), .second, .val (.int (1 : Int32)), .val (.int (1 : Int32))] [(.int (1 : Int32))]))
            refine Go.by (fun _ kont => XS.ifNo X118.here hx rfl (hb hby dH_67) rfl (by decide) kont) ?_
            show Go _ _ _ _ _ _ _ (T118.setTop (mkF m 70 #[.val (.ref a), .val (.long x), .second, .val (.int (1 : Int32)), .val (.int (1 : Int32))] []))
            refine Go.by (fun _ kont => XS.iconst X118.here hx rfl (hb hby dH_70) (XS.goto X118.here hx rfl (pc0 := 71) (pc' := 75) rfl (hb hby dH_71) (by decide) (by decide) kont)) ?_
            show Go _ _ _ _ _ _ _ (T118.setTop (mkF m 75 #[.val (.ref a), .val (.long x), .second, .val (.int (1 : Int32)), .val (.int (1 : Int32))] [(.int (1 : Int32))]))
            refine Go.retN X118 hx (t := .boolean) hret (by simp) hlk (hb hby dH_75) ?_ (by decide) (by decide)
            show QH Z a x cl sl cn sz h0 n0 (some (.int (1 : Int32))) T118.heap _
            rw [e118]
            refine ⟨?_, N0, rfl⟩
            simp only [own_room, decide_eq_false hc102, decide_eq_true hc112, decide_eq_false hc114, decide_eq_false hc116, decide_eq_false hc119]
            rfl
    · refine Go.by (fun _ kont => XS.icmpYes X111.here hx rfl (pc0 := 15) (pc' := 22) rfl (hb hby dH_15) rfl (flt hc112).2.1 (by decide) (by decide) kont) ?_
      show Go _ _ _ _ _ _ _ (T111.setTop (mkF m 22 #[.val (.ref a), .val (.long x), .second, .unset, .unset] []))
      refine Go.by (fun _ kont => XS.iconst X111.here hx rfl (hb hby dH_22) (XS.istoreN X111.here hx rfl (hb hby dH_23) rfl (l' := #[.val (.ref a), .val (.long x), .second, .val (.int (0 : Int32)), .unset]) rfl (XS.aloadN X111.here hx rfl (hb hby dH_24) rfl rfl kont))) ?_
      show Go _ _ _ _ _ _ _ (T111.setTop (mkF m 25 #[.val (.ref a), .val (.long x), .second, .val (.int (0 : Int32)), .unset] [(.ref a)]))
      obtain ⟨T120, X120, e120, st120⟩ := getF X111 hx hZ hown (host := "") (Or.inl (hw _ (List.mem_of_getElem? (i := 11) rfl))) Via.refl e111 F0_sizeLimit (g := (mkF m 25 #[.val (.ref a), .val (.long x), .second, .val (.int (0 : Int32)), .unset] [(.ref a)])) rfl rfl (hb hby dH_25)
      refine Go.by st120 ?_
      show Go _ _ _ _ _ _ _ (T120.setTop (mkF m 28 #[.val (.ref a), .val (.long x), .second, .val (.int (0 : Int32)), .unset] [(.long sl)]))
      refine Go.by (fun _ kont => XS.lconst X120.here hx rfl (hb hby dH_28) (XS.lcmp X120.here hx rfl (hb hby dH_29) rfl kont)) ?_
      show Go _ _ _ _ _ _ _ (T120.setTop (mkF m 30 #[.val (.ref a), .val (.long x), .second, .val (.int (0 : Int32)), .unset] [(.int (lcmpW sl (0 : Int64)))]))
      by_cases hc121 : sl = (0 : Int64)
      · refine Go.by (fun _ kont => XS.ifYes X120.here hx rfl (pc0 := 30) (pc' := 54) rfl (hb hby dH_30) rfl ((if0 _ _).trans (teq ((lw_eq _ _).mpr hc121)).1) (by decide) (by decide) kont) ?_
        show Go _ _ _ _ _ _ _ (T120.setTop (mkF m 54 #[.val (.ref a), .val (.long x), .second, .val (.int (0 : Int32)), .unset] []))
        refine Go.by (fun _ kont => XS.iconst X120.here hx rfl (hb hby dH_54) (XS.goto X120.here hx rfl (pc0 := 55) (pc' := 59) rfl (hb hby dH_55) (by decide) (by decide) (XS.istore X120.here hx rfl (hb hby dH_59) rfl (l' := #[.val (.ref a), .val (.long x), .second, .val (.int (0 : Int32)), .val (.int (1 : Int32))]) rfl (XS.iloadN X120.here hx rfl (hb hby dH_61) rfl kont)))) ?_
        show Go _ _ _ _ _ _ _ (T120.setTop (mkF m 62 #[.val (.ref a), .val (.long x), .second, .val (.int (0 : Int32)), .val (.int (1 : Int32))] [(.int (0 : Int32))]))
        refine Go.by (fun _ kont => XS.ifYes X120.here hx rfl (pc0 := 62) (pc' := 74) rfl (hb hby dH_62) rfl (by decide) (by decide) (by decide) kont) ?_
        show Go _ _ _ _ _ _ _ (T120.setTop (mkF m 74 #[.val (.ref a), .val (.long x), .second, .val (.int (0 : Int32)), .val (.int (1 : Int32))] []))
        refine Go.by (fun _ kont => XS.iconst X120.here hx rfl (hb hby dH_74) kont) ?_
        show Go _ _ _ _ _ _ _ (T120.setTop (mkF m 75 #[.val (.ref a), .val (.long x), .second, .val (.int (0 : Int32)), .val (.int (1 : Int32))] [(.int (0 : Int32))]))
        refine Go.retN X120 hx (t := .boolean) hret (by simp) hlk (hb hby dH_75) ?_ (by decide) (by decide)
        show QH Z a x cl sl cn sz h0 n0 (some (.int (0 : Int32))) T120.heap _
        rw [e120]
        refine ⟨?_, N0, rfl⟩
        simp only [own_room, decide_eq_false hc102, decide_eq_false hc112, decide_eq_true hc121]
        rfl
      · refine Go.by (fun _ kont => XS.ifNo X120.here hx rfl (hb hby dH_30) rfl ((if0 _ _).trans (feq (fun z => hc121 ((lw_eq _ _).mp z))).1) kont) ?_
        show Go _ _ _ _ _ _ _ (T120.setTop (mkF m 33 #[.val (.ref a), .val (.long x), .second, .val (.int (0 : Int32)), .unset] []))
        refine Go.by (fun _ kont => XS.aloadN X120.here hx rfl (hb hby dH_33) rfl rfl kont) ?_
        show Go _ _ _ _ _ _ _ (T120.setTop (mkF m 34 #[.val (.ref a), .val (.long x), .second, .val (.int (0 : Int32)), .unset] [(.ref a)]))
        obtain ⟨T122, X122, e122, st122⟩ := getF X120 hx hZ hown (host := "") (Or.inl (hw _ (List.mem_of_getElem? (i := 18) rfl))) Via.refl e120 F0_count (g := (mkF m 34 #[.val (.ref a), .val (.long x), .second, .val (.int (0 : Int32)), .unset] [(.ref a)])) rfl rfl (hb hby dH_34)
        refine Go.by st122 ?_
        show Go _ _ _ _ _ _ _ (T122.setTop (mkF m 37 #[.val (.ref a), .val (.long x), .second, .val (.int (0 : Int32)), .unset] [(.int cn)]))
        by_cases hc123 : cn = (0 : Int32)
        · refine Go.by (fun _ kont => XS.ifYes X122.here hx rfl (pc0 := 37) (pc' := 54) rfl (hb hby dH_37) rfl ((if0 _ _).trans (teq hc123).1) (by decide) (by decide) kont) ?_
          show Go _ _ _ _ _ _ _ (T122.setTop (mkF m 54 #[.val (.ref a), .val (.long x), .second, .val (.int (0 : Int32)), .unset] []))
          refine Go.by (fun _ kont => XS.iconst X122.here hx rfl (hb hby dH_54) (XS.goto X122.here hx rfl (pc0 := 55) (pc' := 59) rfl (hb hby dH_55) (by decide) (by decide) (XS.istore X122.here hx rfl (hb hby dH_59) rfl (l' := #[.val (.ref a), .val (.long x), .second, .val (.int (0 : Int32)), .val (.int (1 : Int32))]) rfl (XS.iloadN X122.here hx rfl (hb hby dH_61) rfl kont)))) ?_
          show Go _ _ _ _ _ _ _ (T122.setTop (mkF m 62 #[.val (.ref a), .val (.long x), .second, .val (.int (0 : Int32)), .val (.int (1 : Int32))] [(.int (0 : Int32))]))
          refine Go.by (fun _ kont => XS.ifYes X122.here hx rfl (pc0 := 62) (pc' := 74) rfl (hb hby dH_62) rfl (by decide) (by decide) (by decide) kont) ?_
          show Go _ _ _ _ _ _ _ (T122.setTop (mkF m 74 #[.val (.ref a), .val (.long x), .second, .val (.int (0 : Int32)), .val (.int (1 : Int32))] []))
          refine Go.by (fun _ kont => XS.iconst X122.here hx rfl (hb hby dH_74) kont) ?_
          show Go _ _ _ _ _ _ _ (T122.setTop (mkF m 75 #[.val (.ref a), .val (.long x), .second, .val (.int (0 : Int32)), .val (.int (1 : Int32))] [(.int (0 : Int32))]))
          refine Go.retN X122 hx (t := .boolean) hret (by simp) hlk (hb hby dH_75) ?_ (by decide) (by decide)
          show QH Z a x cl sl cn sz h0 n0 (some (.int (0 : Int32))) T122.heap _
          rw [e122]
          refine ⟨?_, N0, rfl⟩
          simp only [own_room, decide_eq_false hc102, decide_eq_false hc112, decide_eq_false hc121, decide_eq_true hc123]
          rfl
        · refine Go.by (fun _ kont => XS.ifNo X122.here hx rfl (hb hby dH_37) rfl ((if0 _ _).trans (feq hc123).1) kont) ?_
          show Go _ _ _ _ _ _ _ (T122.setTop (mkF m 40 #[.val (.ref a), .val (.long x), .second, .val (.int (0 : Int32)), .unset] []))
          refine Go.by (fun _ kont => XS.aloadN X122.here hx rfl (hb hby dH_40) rfl rfl kont) ?_
          show Go _ _ _ _ _ _ _ (T122.setTop (mkF m 41 #[.val (.ref a), .val (.long x), .second, .val (.int (0 : Int32)), .unset] [(.ref a)]))
          obtain ⟨T124, X124, e124, st124⟩ := getF X122 hx hZ hown (host := "") (Or.inl (hw _ (List.mem_of_getElem? (i := 20) rfl))) Via.refl e122 F0_size (g := (mkF m 41 #[.val (.ref a), .val (.long x), .second, .val (.int (0 : Int32)), .unset] [(.ref a)])) rfl rfl (hb hby dH_41)
          refine Go.by st124 ?_
          show Go _ _ _ _ _ _ _ (T124.setTop (mkF m 44 #[.val (.ref a), .val (.long x), .second, .val (.int (0 : Int32)), .unset] [(.long sz)]))
          refine Go.by (fun _ kont => XS.lloadN X124.here hx rfl (hb hby dH_44) rfl (XS.ladd X124.here hx rfl (hb hby dH_45) rfl (XS.aloadN X124.here hx rfl (hb hby dH_46) rfl rfl kont))) ?_
          show Go _ _ _ _ _ _ _ (T124.setTop (mkF m 47 #[.val (.ref a), .val (.long x), .second, .val (.int (0 : Int32)), .unset] [(.ref a), (.long (sz + x))]))
          obtain ⟨T125, X125, e125, st125⟩ := getF X124 hx hZ hown (host := "") (Or.inl (hw _ (List.mem_of_getElem? (i := 11) rfl))) Via.refl e124 F0_sizeLimit (g := (mkF m 47 #[.val (.ref a), .val (.long x), .second, .val (.int (0 : Int32)), .unset] [(.ref a), (.long (sz + x))])) rfl rfl (hb hby dH_47)
          refine Go.by st125 ?_
          show Go _ _ _ _ _ _ _ (T125.setTop (mkF m 50 #[.val (.ref a), .val (.long x), .second, .val (.int (0 : Int32)), .unset] [(.long sl), (.long (sz + x))]))
          refine Go.by (fun _ kont => XS.lcmp X125.here hx rfl (hb hby dH_50) rfl kont) ?_
          show Go _ _ _ _ _ _ _ (T125.setTop (mkF m 51 #[.val (.ref a), .val (.long x), .second, .val (.int (0 : Int32)), .unset] [(.int (lcmpW (sz + x) sl))]))
          by_cases hc126 : sl < (sz + x)
          · refine Go.by (fun _ kont => XS.ifYes X125.here hx rfl (pc0 := 51) (pc' := 58) rfl (hb hby dH_51) rfl ((if0 _ _).trans (tlt ((lw_gt _ _).mpr hc126)).2.2.1) (by decide) (by decide) kont) ?_
            show Go _ _ _ _ _ _ _ (T125.setTop (mkF m 58 #[.val (.ref a), .val (.long x), .second, .val (.int (0 : Int32)), .unset] []))
            refine Go.by (fun _ kont => XS.iconst X125.here hx rfl (hb hby dH_58) (XS.istore X125.here hx rfl (hb hby dH_59) rfl (l' := #[.val (.ref a), .val (.long x), .second, .val (.int (0 : Int32)), .val (.int (0 : Int32))]) rfl (XS.iloadN X125.here hx rfl (hb hby dH_61) rfl kont))) ?_
            show Go _ _ _ _ _ _ _ (T125.setTop (mkF m 62 #[.val (.ref a), .val (.long x), .second, .val (.int (0 : Int32)), .val (.int (0 : Int32))] [(.int (0 : Int32))]))
            refine Go.by (fun _ kont => XS.ifYes X125.here hx rfl (pc0 := 62) (pc' := 74) rfl (hb hby dH_62) rfl (by decide) (by decide) (by decide) kont) ?_
            show Go _ _ _ _ _ _ _ (T125.setTop (mkF m 74 #[.val (.ref a), .val (.long x), .second, .val (.int (0 : Int32)), .val (.int (0 : Int32))] []))
            refine Go.by (fun _ kont => XS.iconst X125.here hx rfl (hb hby dH_74) kont) ?_
            show Go _ _ _ _ _ _ _ (T125.setTop (mkF m 75 #[.val (.ref a), .val (.long x), .second, .val (.int (0 : Int32)), .val (.int (0 : Int32))] [(.int (0 : Int32))]))
            refine Go.retN X125 hx (t := .boolean) hret (by simp) hlk (hb hby dH_75) ?_ (by decide) (by decide)
            show QH Z a x cl sl cn sz h0 n0 (some (.int (0 : Int32))) T125.heap _
            rw [e125]
            refine ⟨?_, N0, rfl⟩
            simp only [own_room, decide_eq_false hc102, decide_eq_false hc112, decide_eq_false hc121, decide_eq_false hc123, decide_eq_true hc126]
            rfl
          · refine Go.by (fun _ kont => XS.ifNo X125.here hx rfl (hb hby dH_51) rfl ((if0 _ _).trans (flt (fun z => hc126 ((lw_gt _ _).mp z))).2.2.1) kont) ?_
            show Go _ _ _ _ _ _ _ (T125.setTop (mkF m 54 #[.val (.ref a), .val (.long x), .second, .val (.int (0 : Int32)), .unset] []))
            refine Go.by (fun _ kont => XS.iconst X125.here hx rfl (hb hby dH_54) (XS.goto X125.here hx rfl (pc0 := 55) (pc' := 59) rfl (hb hby dH_55) (by decide) (by decide) (XS.istore X125.here hx rfl (hb hby dH_59) rfl (l' := #[.val (.ref a), .val (.long x), .second, .val (.int (0 : Int32)), .val (.int (1 : Int32))]) rfl (XS.iloadN X125.here hx rfl (hb hby dH_61) rfl kont)))) ?_
            show Go _ _ _ _ _ _ _ (T125.setTop (mkF m 62 #[.val (.ref a), .val (.long x), .second, .val (.int (0 : Int32)), .val (.int (1 : Int32))] [(.int (0 : Int32))]))
            refine Go.by (fun _ kont => XS.ifYes X125.here hx rfl (pc0 := 62) (pc' := 74) rfl (hb hby dH_62) rfl (by decide) (by decide) (by decide) kont) ?_
            show Go _ _ _ _ _ _ _ (T125.setTop (mkF m 74 #[.val (.ref a), .val (.long x), .second, .val (.int (0 : Int32)), .val (.int (1 : Int32))] []))
            refine Go.by (fun _ kont => XS.iconst X125.here hx rfl (hb hby dH_74) kont) ?_
            show Go _ _ _ _ _ _ _ (T125.setTop (mkF m 75 #[.val (.ref a), .val (.long x), .second, .val (.int (0 : Int32)), .val (.int (1 : Int32))] [(.int (0 : Int32))]))
            refine Go.retN X125 hx (t := .boolean) hret (by simp) hlk (hb hby dH_75) ?_ (by decide) (by decide)
            show QH Z a x cl sl cn sz h0 n0 (some (.int (0 : Int32))) T125.heap _
            rw [e125]
            refine ⟨?_, N0, rfl⟩
            simp only [own_room, decide_eq_false hc102, decide_eq_false hc112, decide_eq_false hc121, decide_eq_false hc123, decide_eq_false hc126]
            rfl

theorem pd0_0 : parseMethodDescriptor "(IJ)V" = some ⟨[.int, .long], none⟩ := by decide +kernel
theorem pd0_1 : parseMethodDescriptor "(J)V" = some ⟨[.long], none⟩ := by decide +kernel
theorem pd0_2 : parseMethodDescriptor "(J)Z" = some ⟨[.long], some .boolean⟩ := by decide +kernel
theorem pn0 : plainName "com/example/kyu/kyu/PrefetchWindowAddPinLaw" = true := by first | (simp [plainName, overriddenIn]; done) | decide +kernel
theorem ef0 (m : MethodId) (c0 : Int32) (s0 : Int64) (b1 : Int64) (b2 : Int64) (x0 : Int64) (fl : Int32) : entryFrame m #[(.int c0), (.long s0), (.long b1), (.long b2), (.long x0), (.int fl)] maxLocals = mkF m 0 #[.val (.int c0), .val (.long s0), .second, .val (.long b1), .second, .val (.long b2), .second, .val (.long x0), .second, .val (.int fl), .unset, .unset, .unset, .unset, .unset, .unset, .unset, .unset] [] := by first | (simp [entryFrame, mkF, argsToLocals, Value.category, maxLocals]; done) | rfl
def Q0 (Z : State) (h0 : Heap) (n0 : Nat) (v : Option Value) (h : Heap) (L : List Loc) : Prop := v = some (.int 1) ∧ Fr n0 L
set_option maxRecDepth 65536 in
set_option maxHeartbeats 40000000 in
theorem rm0 (l : Launch) (Z : State) (a0 : Array Value) (hw : ∀ d ∈ tables_1, d.before a0 Z = true) (ws : List Jvm.Cond) (c0 : Int32) (s0 : Int64) (b1 : Int64) (b2 : Int64) (x0 : Int64) (fl : Int32) (h0 : Heap) (n0 : Nat) (Z0 : n0 ≤ h0.size) :
    MetFree l x (head1 (Jvm.Cond.code x code maxLocals ret :: ws) room_1) (fun aa U => aa = #[(.int c0), (.long s0), (.long b1), (.long b2), (.long x0), (.int fl)] ∧ Z.Warmed39 U.vm ∧ U.heap = h0) (fun _ _ _ _ _ => True) (fun _ U o U' => ∃ v L, o = .returned v ∧ Q0 Z h0 n0 v U'.heap L ∧ FrameEnd U o U' L 16 128) := by
  refine MetFree.of_bodySF (plainFor_of_name pn0) hisR ?_
  intro p e s m args below meth c s₁ Bd hml0 hP hK
  obtain ⟨rfl, hZ, hh⟩ := hP
  have hx := Bd.exec
  have hby := Bd.bytes
  have hml : c.maxLocals = 18 := hml0
  have hown : s.vm.findClass "com/example/kyu/kyu/PrefetchWindowAddPinLaw" = some m.cls := findClass_of_methodNamed Bd.named
  have hnm := (name_of_methodNamed Bd.named Bd.method).1
  have hlk : meth.locks = false := BodyLoose.notSynchronized Bd
  have hret : meth.sig.returnType = (some .boolean) := Bd.returns
  have X0 : Stand p l e room_1 s m #[(.int c0), (.long s0), (.long b1), (.long b2), (.long x0), (.int fl)] below meth c s₁ [] 0 0 := Stand.of_body Bd
  have e0 : s₁.heap = h0 := by rw [← hh, Bd.state]; rfl
  have N0 := Fr.nil n0
  show Go p e below s 16 128 (Q0 Z h0 n0) (s₁.setTop (entryFrame m #[(.int c0), (.long s0), (.long b1), (.long b2), (.long x0), (.int fl)] maxLocals))
  rw [ef0]
  refine Go.by (fun _ kont => XS.iload X0.here hx rfl (hb hby at_0) rfl (XS.iconst X0.here hx rfl (hb hby at_2) (XS.iand X0.here hx rfl (hb hby at_3) rfl kont))) ?_
  show Go _ _ _ _ _ _ _ (s₁.setTop (mkF m 4 #[.val (.int c0), .val (.long s0), .second, .val (.long b1), .second, .val (.long b2), .second, .val (.long x0), .second, .val (.int fl), .unset, .unset, .unset, .unset, .unset, .unset, .unset, .unset] [(.int (fl &&& (1 : Int32)))]))
  by_cases hc101 : (fl &&& (1 : Int32)) = (0 : Int32)
  · refine Go.by (fun _ kont => XS.ifYes X0.here hx rfl (pc0 := 4) (pc' := 11) rfl (hb hby at_4) rfl ((if0 _ _).trans (teq hc101).1) (by decide) (by decide) kont) ?_
    show Go _ _ _ _ _ _ _ (s₁.setTop (mkF m 11 #[.val (.int c0), .val (.long s0), .second, .val (.long b1), .second, .val (.long b2), .second, .val (.long x0), .second, .val (.int fl), .unset, .unset, .unset, .unset, .unset, .unset, .unset, .unset] []))
    refine Go.by (fun _ kont => XS.iconst X0.here hx rfl (hb hby at_11) (XS.istore X0.here hx rfl (hb hby at_12) rfl (l' := #[.val (.int c0), .val (.long s0), .second, .val (.long b1), .second, .val (.long b2), .second, .val (.long x0), .second, .val (.int fl), .val (.int (0 : Int32)), .unset, .unset, .unset, .unset, .unset, .unset, .unset]) rfl kont)) ?_
    show Go _ _ _ _ _ _ _ (s₁.setTop (mkF m 14 #[.val (.int c0), .val (.long s0), .second, .val (.long b1), .second, .val (.long b2), .second, .val (.long x0), .second, .val (.int fl), .val (.int (0 : Int32)), .unset, .unset, .unset, .unset, .unset, .unset, .unset] []))
    obtain ⟨T102, h102, X102, e102, X_102, A102, D102, -, st102⟩ := newO X0 hx hZ hown (hw _ (List.mem_of_getElem? (i := 0) rfl)) (hw _ (List.mem_of_getElem? (i := 1) rfl)) (hw _ (List.mem_of_getElem? (i := 2) rfl)) e0 (g := (mkF m 14 #[.val (.int c0), .val (.long s0), .second, .val (.long b1), .second, .val (.long b2), .second, .val (.long x0), .second, .val (.int fl), .val (.int (0 : Int32)), .unset, .unset, .unset, .unset, .unset, .unset, .unset] [])) rfl (hb hby at_14) (by decide) (by decide)
    obtain ⟨b102, g102⟩ : ∃ z, z = h0.size := ⟨_, rfl⟩
    rw [← g102] at A102 D102 st102
    have ge_b102 : n0 ≤ b102 := Nat.le_trans Z0 (Nat.le_of_eq g102.symm)
    have sz_b102 : h0.size ≤ b102 := Nat.le_trans (Keep.refl h0 []).1 (Nat.le_of_eq g102.symm)
    have Z103 := Nat.le_trans Z0 X_102.1
    have K103 : Keep h0 h102 [] := (Keep.refl h0 []).ext X_102
    have F102_countLimit : Fld Z h102 b102 "com/example/kyu/kyu/PrefetchWindow" "countLimit" "I" (.int (0 : Int32)) := D102 (Or.inl (hw _ (List.mem_of_getElem? (i := 10) rfl))) (ty := .int) (by decide)
    have F102_sizeLimit : Fld Z h102 b102 "com/example/kyu/kyu/PrefetchWindow" "sizeLimit" "J" (.long (0 : Int64)) := D102 (Or.inl (hw _ (List.mem_of_getElem? (i := 12) rfl))) (ty := .long) (by decide)
    have F102_count : Fld Z h102 b102 "com/example/kyu/kyu/PrefetchWindow" "count" "I" (.int (0 : Int32)) := D102 (Or.inl (hw _ (List.mem_of_getElem? (i := 19) rfl))) (ty := .int) (by decide)
    have F102_size : Fld Z h102 b102 "com/example/kyu/kyu/PrefetchWindow" "size" "J" (.long (0 : Int64)) := D102 (Or.inl (hw _ (List.mem_of_getElem? (i := 21) rfl))) (ty := .long) (by decide)
    refine Go.by st102 ?_
    show Go _ _ _ _ _ _ _ (T102.setTop (mkF m 17 #[.val (.int c0), .val (.long s0), .second, .val (.long b1), .second, .val (.long b2), .second, .val (.long x0), .second, .val (.int fl), .val (.int (0 : Int32)), .unset, .unset, .unset, .unset, .unset, .unset, .unset] [(.ref b102)]))
    refine Go.by (fun _ kont => XS.dup X102.here hx rfl (hb hby at_17) rfl rfl (XS.iloadN X102.here hx rfl (hb hby at_18) rfl (XS.lloadN X102.here hx rfl (hb hby at_19) rfl kont))) ?_
    show Go _ _ _ _ _ _ _ (T102.setTop (mkF m 20 #[.val (.int c0), .val (.long s0), .second, .val (.long b1), .second, .val (.long b2), .second, .val (.long x0), .second, .val (.int fl), .val (.int (0 : Int32)), .unset, .unset, .unset, .unset, .unset, .unset, .unset] [(.long s0), (.int c0), (.ref b102), (.ref b102)]))
    obtain ⟨_, _, ⟨T104, L104, k104, n104⟩, -, X104, ⟨Lc104, hQ104, l104, y104, z104⟩, st104⟩ := X102.specialBack hx (y := (⟨"com/example/kyu/kyu/PrefetchWindow", "<init>", "(IJ)V"⟩ : MethodName)) rfl hown (mvT hZ (hw _ (List.mem_of_getElem? (i := 3) rfl))) (mvT hZ (hw _ (List.mem_of_getElem? (i := 4) rfl))) (mvT hZ (hw _ (List.mem_of_getElem? (i := 5) rfl))) (by decide) (backOf (W := 1) (rmI l Z a0 hw [] b102 c0 s0 h102 n0 Z103 A102 F102_countLimit F102_sizeLimit F102_count F102_size ge_b102) hZ (hw _ (List.mem_of_getElem? (i := 5) rfl)) (hw _ (List.mem_of_getElem? (i := 2) rfl)) (by decide) (by decide)) (g := (mkF m 20 #[.val (.int c0), .val (.long s0), .second, .val (.long b1), .second, .val (.long b2), .second, .val (.long x0), .second, .val (.int fl), .val (.int (0 : Int32)), .unset, .unset, .unset, .unset, .unset, .unset, .unset] [(.long s0), (.int c0), (.ref b102), (.ref b102)])) rfl (by rw [hml]; rfl) (Steps.refl _) (a := b102) (argsL := [(.int c0), (.long s0)]) (rest := [(.ref b102)]) (lenOf pd0_0 rfl) rfl (by show 2 * 0 + _ ≤ _; exact Nat.le_of_eq rfl) (hb hby at_20) (fun _ _ => ⟨rfl, e102, (by decide : 1 + 0 ≤ _), (by decide : 4 + 0 ≤ _)⟩)
    dsimp only [Pt.U, Pt.locs, Pt.cells, Pt.slots] at X104 l104 y104 z104 st104 hQ104
    subst l104 y104 z104
    obtain ⟨rfl, N104q, K104, E104z, F104z_countLimit, F104z_sizeLimit, F104z_count, F104z_size⟩ := hQ104
    have E105_b102 := A102.keep K104
    have Z105 := Nat.le_trans Z103 K104.1
    have K105 : Keep h0 T104.heap [] := Keep.trans K103 K104 (allS (Or.inr sz_b102) all0)
    have N104 := Fr.app N0 N104q
    refine Go.tr st104 ?_
    show Go _ _ _ _ _ _ _ (T104.setTop (mkF m 23 #[.val (.int c0), .val (.long s0), .second, .val (.long b1), .second, .val (.long b2), .second, .val (.long x0), .second, .val (.int fl), .val (.int (0 : Int32)), .unset, .unset, .unset, .unset, .unset, .unset, .unset] [(.ref b102)]))
    refine Go.by (fun _ kont => XS.astore X104.here hx rfl (hb hby at_23) rfl rfl (l' := #[.val (.int c0), .val (.long s0), .second, .val (.long b1), .second, .val (.long b2), .second, .val (.long x0), .second, .val (.int fl), .val (.int (0 : Int32)), .val (.ref b102), .unset, .unset, .unset, .unset, .unset, .unset]) rfl (XS.aload X104.here hx rfl (hb hby at_25) rfl rfl (XS.lloadN X104.here hx rfl (hb hby at_27) rfl kont))) ?_
    show Go _ _ _ _ _ _ _ (T104.setTop (mkF m 28 #[.val (.int c0), .val (.long s0), .second, .val (.long b1), .second, .val (.long b2), .second, .val (.long x0), .second, .val (.int fl), .val (.int (0 : Int32)), .val (.ref b102), .unset, .unset, .unset, .unset, .unset, .unset] [(.long b1), (.ref b102)]))
    obtain ⟨cq106, kq106, q106a, q106b, q106c⟩ := isOf hZ rfl E104z
    obtain ⟨_, _, ⟨T106, L106, k106, n106⟩, -, X106, ⟨Lc106, hQ106, l106, y106, z106⟩, st106⟩ := X104.virtualBack hx (y := (⟨"com/example/kyu/kyu/PrefetchWindow", "add", "(J)V"⟩ : MethodName)) (z := (⟨"com/example/kyu/kyu/PrefetchWindow", "add", "(J)V"⟩ : MethodName)) hown (mvT hZ (hw _ (List.mem_of_getElem? (i := 13) rfl))) (mvT hZ (hw _ (List.mem_of_getElem? (i := 14) rfl))) (notFace_of_selects (args := #[]) (mvT hZ (hw _ (List.mem_of_getElem? (i := 16) rfl)))) (mvT hZ (hw _ (List.mem_of_getElem? (i := 16) rfl))) (mvT hZ (hw _ (List.mem_of_getElem? (i := 15) rfl))) (by decide) (backOf (W := 0) (rmA l Z a0 hw [] b102 b1 c0 s0 (0 : Int32) (0 : Int64) T104.heap n0 Z105 E104z F104z_countLimit F104z_sizeLimit F104z_count F104z_size ge_b102) hZ (hw _ (List.mem_of_getElem? (i := 17) rfl)) (hw _ (List.mem_of_getElem? (i := 2) rfl)) (by decide) (by decide)) q106a q106c (g := (mkF m 28 #[.val (.int c0), .val (.long s0), .second, .val (.long b1), .second, .val (.long b2), .second, .val (.long x0), .second, .val (.int fl), .val (.int (0 : Int32)), .val (.ref b102), .unset, .unset, .unset, .unset, .unset, .unset] [(.long b1), (.ref b102)])) rfl (by rw [hml]; rfl) (Steps.refl _) (argsL := [(.long b1)]) (rest := []) (lenOf pd0_1 rfl) rfl (by show 2 * 0 + _ ≤ _; exact Nat.le_of_eq rfl) (hb hby at_28) (fun _ _ => ⟨rfl, rfl, (by decide : 1 + 0 ≤ _), (by decide : 4 + 0 ≤ _)⟩)
    dsimp only [Pt.U, Pt.locs, Pt.cells, Pt.slots] at X106 l106 y106 z106 st106 hQ106
    subst l106 y106 z106
    obtain ⟨rfl, N106q, K106, E106z, F106z_countLimit, F106z_sizeLimit, F106z_count, F106z_size⟩ := hQ106
    have E107_b102 := E104z.keep K106
    have Z107 := Nat.le_trans Z105 K106.1
    have K107 : Keep h0 T106.heap [] := Keep.trans K105 K106 (allS (Or.inr sz_b102) all0)
    have N106 := Fr.app N104 N106q
    refine Go.tr st106 ?_
    show Go _ _ _ _ _ _ _ (T106.setTop (mkF m 31 #[.val (.int c0), .val (.long s0), .second, .val (.long b1), .second, .val (.long b2), .second, .val (.long x0), .second, .val (.int fl), .val (.int (0 : Int32)), .val (.ref b102), .unset, .unset, .unset, .unset, .unset, .unset] []))
    refine Go.by (fun _ kont => XS.lloadN X106.here hx rfl (hb hby at_31) rfl (XS.lstore X106.here hx rfl (hb hby at_32) rfl (l' := #[.val (.int c0), .val (.long s0), .second, .val (.long b1), .second, .val (.long b2), .second, .val (.long x0), .second, .val (.int fl), .val (.int (0 : Int32)), .val (.ref b102), .val (.long b1), .second, .unset, .unset, .unset, .unset]) rfl (XS.iconst X106.here hx rfl (hb hby at_34) (XS.istore X106.here hx rfl (hb hby at_35) rfl (l' := #[.val (.int c0), .val (.long s0), .second, .val (.long b1), .second, .val (.long b2), .second, .val (.long x0), .second, .val (.int fl), .val (.int (0 : Int32)), .val (.ref b102), .val (.long b1), .second, .val (.int (1 : Int32)), .unset, .unset, .unset]) rfl (XS.iload X106.here hx rfl (hb hby at_37) rfl kont))))) ?_
    show Go _ _ _ _ _ _ _ (T106.setTop (mkF m 39 #[.val (.int c0), .val (.long s0), .second, .val (.long b1), .second, .val (.long b2), .second, .val (.long x0), .second, .val (.int fl), .val (.int (0 : Int32)), .val (.ref b102), .val (.long b1), .second, .val (.int (1 : Int32)), .unset, .unset, .unset] [(.int (0 : Int32))]))
    refine Go.by (fun _ kont => XS.ifYes X106.here hx rfl (pc0 := 39) (pc' := 58) rfl (hb hby at_39) rfl (by decide) (by decide) (by decide) kont) ?_
    show Go _ _ _ _ _ _ _ (T106.setTop (mkF m 58 #[.val (.int c0), .val (.long s0), .second, .val (.long b1), .second, .val (.long b2), .second, .val (.long x0), .second, .val (.int fl), .val (.int (0 : Int32)), .val (.ref b102), .val (.long b1), .second, .val (.int (1 : Int32)), .unset, .unset, .unset] []))
    refine Go.by (fun _ kont => XS.iloadN X106.here hx rfl (hb hby at_58) rfl kont) ?_
    show Go _ _ _ _ _ _ _ (T106.setTop (mkF m 59 #[.val (.int c0), .val (.long s0), .second, .val (.long b1), .second, .val (.long b2), .second, .val (.long x0), .second, .val (.int fl), .val (.int (0 : Int32)), .val (.ref b102), .val (.long b1), .second, .val (.int (1 : Int32)), .unset, .unset, .unset] [(.int c0)]))
    by_cases hc108 : c0 = (0 : Int32)
    · refine Go.by (fun _ kont => XS.ifYes X106.here hx rfl (pc0 := 59) (pc' := 68) rfl (hb hby at_59) rfl ((if0 _ _).trans (teq hc108).1) (by decide) (by decide) kont) ?_
      show Go _ _ _ _ _ _ _ (T106.setTop (mkF m 68 #[.val (.int c0), .val (.long s0), .second, .val (.long b1), .second, .val (.long b2), .second, .val (.long x0), .second, .val (.int fl), .val (.int (0 : Int32)), .val (.ref b102), .val (.long b1), .second, .val (.int (1 : Int32)), .unset, .unset, .unset] []))
      refine Go.by (fun _ kont => XS.iconst X106.here hx rfl (hb hby at_68) (XS.goto X106.here hx rfl (pc0 := 69) (pc' := 73) rfl (hb hby at_69) (by decide) (by decide) (XS.istore X106.here hx rfl (hb hby at_73) rfl (l' := #[.val (.int c0), .val (.long s0), .second, .val (.long b1), .second, .val (.long b2), .second, .val (.long x0), .second, .val (.int fl), .val (.int (0 : Int32)), .val (.ref b102), .val (.long b1), .second, .val (.int (1 : Int32)), .val (.int (1 : Int32)), .unset, .unset]) rfl (XS.lloadN X106.here hx rfl (hb hby at_75) rfl (XS.lconst X106.here hx rfl (hb hby at_76) (XS.lcmp X106.here hx rfl (hb hby at_77) rfl kont)))))) ?_
      show Go _ _ _ _ _ _ _ (T106.setTop (mkF m 78 #[.val (.int c0), .val (.long s0), .second, .val (.long b1), .second, .val (.long b2), .second, .val (.long x0), .second, .val (.int fl), .val (.int (0 : Int32)), .val (.ref b102), .val (.long b1), .second, .val (.int (1 : Int32)), .val (.int (1 : Int32)), .unset, .unset] [(.int (lcmpW s0 (0 : Int64)))]))
      by_cases hc109 : s0 = (0 : Int64)
      · refine Go.by (fun _ kont => XS.ifYes X106.here hx rfl (pc0 := 78) (pc' := 91) rfl (hb hby at_78) rfl ((if0 _ _).trans (teq ((lw_eq _ _).mpr hc109)).1) (by decide) (by decide) kont) ?_
        show Go _ _ _ _ _ _ _ (T106.setTop (mkF m 91 #[.val (.int c0), .val (.long s0), .second, .val (.long b1), .second, .val (.long b2), .second, .val (.long x0), .second, .val (.int fl), .val (.int (0 : Int32)), .val (.ref b102), .val (.long b1), .second, .val (.int (1 : Int32)), .val (.int (1 : Int32)), .unset, .unset] []))
        refine Go.by (fun _ kont => XS.iconst X106.here hx rfl (hb hby at_91) (XS.goto X106.here hx rfl (pc0 := 92) (pc' := 96) rfl (hb hby at_92) (by decide) (by decide) (XS.istore X106.here hx rfl (hb hby at_96) rfl (l' := #[.val (.int c0), .val (.long s0), .second, .val (.long b1), .second, .val (.long b2), .second, .val (.long x0), .second, .val (.int fl), .val (.int (0 : Int32)), .val (.ref b102), .val (.long b1), .second, .val (.int (1 : Int32)), .val (.int (1 : Int32)), .val (.int (1 : Int32)), .unset]) rfl (XS.iload X106.here hx rfl (hb hby at_98) rfl kont)))) ?_
        show Go _ _ _ _ _ _ _ (T106.setTop (mkF m 100 #[.val (.int c0), .val (.long s0), .second, .val (.long b1), .second, .val (.long b2), .second, .val (.long x0), .second, .val (.int fl), .val (.int (0 : Int32)), .val (.ref b102), .val (.long b1), .second, .val (.int (1 : Int32)), .val (.int (1 : Int32)), .val (.int (1 : Int32)), .unset] [(.int (1 : Int32))]))
        refine Go.by (fun _ kont => XS.ifNo X106.here hx rfl (hb hby at_100) rfl (by decide) kont) ?_
        show Go _ _ _ _ _ _ _ (T106.setTop (mkF m 103 #[.val (.int c0), .val (.long s0), .second, .val (.long b1), .second, .val (.long b2), .second, .val (.long x0), .second, .val (.int fl), .val (.int (0 : Int32)), .val (.ref b102), .val (.long b1), .second, .val (.int (1 : Int32)), .val (.int (1 : Int32)), .val (.int (1 : Int32)), .unset] []))
        refine Go.by (fun _ kont => XS.iload X106.here hx rfl (hb hby at_103) rfl kont) ?_
        show Go _ _ _ _ _ _ _ (T106.setTop (mkF m 105 #[.val (.int c0), .val (.long s0), .second, .val (.long b1), .second, .val (.long b2), .second, .val (.long x0), .second, .val (.int fl), .val (.int (0 : Int32)), .val (.ref b102), .val (.long b1), .second, .val (.int (1 : Int32)), .val (.int (1 : Int32)), .val (.int (1 : Int32)), .unset] [(.int (1 : Int32))]))
        refine Go.by (fun _ kont => XS.ifNo X106.here hx rfl (hb hby at_105) rfl (by decide) kont) ?_
        show Go _ _ _ _ _ _ _ (T106.setTop (mkF m 108 #[.val (.int c0), .val (.long s0), .second, .val (.long b1), .second, .val (.long b2), .second, .val (.long x0), .second, .val (.int fl), .val (.int (0 : Int32)), .val (.ref b102), .val (.long b1), .second, .val (.int (1 : Int32)), .val (.int (1 : Int32)), .val (.int (1 : Int32)), .unset] []))
        refine Go.by (fun _ kont => XS.iconst X106.here hx rfl (hb hby at_108) (XS.goto X106.here hx rfl (pc0 := 109) (pc' := 113) rfl (hb hby at_109) (by decide) (by decide) (XS.istore X106.here hx rfl (hb hby at_113) rfl (l' := #[.val (.int c0), .val (.long s0), .second, .val (.long b1), .second, .val (.long b2), .second, .val (.long x0), .second, .val (.int fl), .val (.int (0 : Int32)), .val (.ref b102), .val (.long b1), .second, .val (.int (1 : Int32)), .val (.int (1 : Int32)), .val (.int (1 : Int32)), .val (.int (1 : Int32))]) rfl (XS.aload X106.here hx rfl (hb hby at_115) rfl rfl (XS.lload X106.here hx rfl (hb hby at_117) rfl kont))))) ?_
        show Go _ _ _ _ _ _ _ (T106.setTop (mkF m 119 #[.val (.int c0), .val (.long s0), .second, .val (.long b1), .second, .val (.long b2), .second, .val (.long x0), .second, .val (.int fl), .val (.int (0 : Int32)), .val (.ref b102), .val (.long b1), .second, .val (.int (1 : Int32)), .val (.int (1 : Int32)), .val (.int (1 : Int32)), .val (.int (1 : Int32))] [(.long x0), (.ref b102)]))
        obtain ⟨cq110, kq110, q110a, q110b, q110c⟩ := isOf hZ rfl E106z
        obtain ⟨_, _, ⟨T110, L110, k110, n110⟩, -, X110, ⟨Lc110, hQ110, l110, y110, z110⟩, st110⟩ := X106.virtualBack hx (y := (⟨"com/example/kyu/kyu/PrefetchWindow", "hasRoomFor", "(J)Z"⟩ : MethodName)) (z := (⟨"com/example/kyu/kyu/PrefetchWindow", "hasRoomFor", "(J)Z"⟩ : MethodName)) hown (mvT hZ (hw _ (List.mem_of_getElem? (i := 22) rfl))) (mvT hZ (hw _ (List.mem_of_getElem? (i := 23) rfl))) (notFace_of_selects (args := #[]) (mvT hZ (hw _ (List.mem_of_getElem? (i := 25) rfl)))) (mvT hZ (hw _ (List.mem_of_getElem? (i := 25) rfl))) (mvT hZ (hw _ (List.mem_of_getElem? (i := 24) rfl))) (by decide) (backOf (W := 0) (rmH l Z a0 hw [] b102 x0 c0 s0 ((0 : Int32) + 1) ((0 : Int64) + b1) T106.heap n0 Z107 E106z F106z_countLimit F106z_sizeLimit F106z_count F106z_size ge_b102) hZ (hw _ (List.mem_of_getElem? (i := 26) rfl)) (hw _ (List.mem_of_getElem? (i := 2) rfl)) (by decide) (by decide)) q110a q110c (g := (mkF m 119 #[.val (.int c0), .val (.long s0), .second, .val (.long b1), .second, .val (.long b2), .second, .val (.long x0), .second, .val (.int fl), .val (.int (0 : Int32)), .val (.ref b102), .val (.long b1), .second, .val (.int (1 : Int32)), .val (.int (1 : Int32)), .val (.int (1 : Int32)), .val (.int (1 : Int32))] [(.long x0), (.ref b102)])) rfl (by rw [hml]; rfl) (Steps.refl _) (argsL := [(.long x0)]) (rest := []) (lenOf pd0_2 rfl) rfl (by show 2 * 0 + _ ≤ _; exact Nat.le_of_eq rfl) (hb hby at_119) (fun _ _ => ⟨rfl, rfl, (by decide : 1 + 0 ≤ _), (by decide : 4 + 0 ≤ _)⟩)
        dsimp only [Pt.U, Pt.locs, Pt.cells, Pt.slots] at X110 l110 y110 z110 st110 hQ110
        subst l110 y110 z110
        obtain ⟨rfl, N110q, eh110⟩ := hQ110
        have N110 := Fr.app N106 N110q
        refine Go.tr st110 ?_
        show Go _ _ _ _ _ _ _ (T110.setTop (mkF m 122 #[.val (.int c0), .val (.long s0), .second, .val (.long b1), .second, .val (.long b2), .second, .val (.long x0), .second, .val (.int fl), .val (.int (0 : Int32)), .val (.ref b102), .val (.long b1), .second, .val (.int (1 : Int32)), .val (.int (1 : Int32)), .val (.int (1 : Int32)), .val (.int (1 : Int32))] [(.int (if own_room x0 c0 s0 ((0 : Int32) + 1) ((0 : Int64) + b1) then 1 else 0))]))
        refine Go.by (fun _ kont => XS.iload X110.here hx rfl (hb hby at_122) rfl kont) ?_
        show Go _ _ _ _ _ _ _ (T110.setTop (mkF m 124 #[.val (.int c0), .val (.long s0), .second, .val (.long b1), .second, .val (.long b2), .second, .val (.long x0), .second, .val (.int fl), .val (.int (0 : Int32)), .val (.ref b102), .val (.long b1), .second, .val (.int (1 : Int32)), .val (.int (1 : Int32)), .val (.int (1 : Int32)), .val (.int (1 : Int32))] [(.int (1 : Int32)), (.int (if own_room x0 c0 s0 ((0 : Int32) + 1) ((0 : Int64) + b1) then 1 else 0))]))
        by_cases hc111 : (if own_room x0 c0 s0 ((0 : Int32) + 1) ((0 : Int64) + b1) then 1 else 0) = (1 : Int32)
        · refine Go.by (fun _ kont => XS.icmpNo X110.here hx rfl (hb hby at_124) rfl (teq hc111).2 kont) ?_
          show Go _ _ _ _ _ _ _ (T110.setTop (mkF m 127 #[.val (.int c0), .val (.long s0), .second, .val (.long b1), .second, .val (.long b2), .second, .val (.long x0), .second, .val (.int fl), .val (.int (0 : Int32)), .val (.ref b102), .val (.long b1), .second, .val (.int (1 : Int32)), .val (.int (1 : Int32)), .val (.int (1 : Int32)), .val (.int (1 : Int32))] []))
          refine Go.by (fun _ kont => XS.iconst X110.here hx rfl (hb hby at_127) (XS.goto X110.here hx rfl (pc0 := 128) (pc' := 132) rfl (hb hby at_128) (by decide) (by decide) kont)) ?_
          show Go _ _ _ _ _ _ _ (T110.setTop (mkF m 132 #[.val (.int c0), .val (.long s0), .second, .val (.long b1), .second, .val (.long b2), .second, .val (.long x0), .second, .val (.int fl), .val (.int (0 : Int32)), .val (.ref b102), .val (.long b1), .second, .val (.int (1 : Int32)), .val (.int (1 : Int32)), .val (.int (1 : Int32)), .val (.int (1 : Int32))] [(.int (1 : Int32))]))
          refine Go.retN X110 hx (t := .boolean) hret (by simp) hlk (hb hby at_132) ?_ (by decide) (by decide)
          show Q0 Z h0 n0 (some (.int (1 : Int32))) T110.heap _
          rw [eh110]
          exact ⟨rfl, N110⟩
        · refine Go.by (fun _ kont => XS.icmpYes X110.here hx rfl (pc0 := 124) (pc' := 131) rfl (hb hby at_124) rfl (feq hc111).2 (by decide) (by decide) kont) ?_
          show Go _ _ _ _ _ _ _ (T110.setTop (mkF m 131 #[.val (.int c0), .val (.long s0), .second, .val (.long b1), .second, .val (.long b2), .second, .val (.long x0), .second, .val (.int fl), .val (.int (0 : Int32)), .val (.ref b102), .val (.long b1), .second, .val (.int (1 : Int32)), .val (.int (1 : Int32)), .val (.int (1 : Int32)), .val (.int (1 : Int32))] []))
          refine Go.by (fun _ kont => XS.iconst X110.here hx rfl (hb hby at_131) kont) ?_
          show Go _ _ _ _ _ _ _ (T110.setTop (mkF m 132 #[.val (.int c0), .val (.long s0), .second, .val (.long b1), .second, .val (.long b2), .second, .val (.long x0), .second, .val (.int fl), .val (.int (0 : Int32)), .val (.ref b102), .val (.long b1), .second, .val (.int (1 : Int32)), .val (.int (1 : Int32)), .val (.int (1 : Int32)), .val (.int (1 : Int32))] [(.int (0 : Int32))]))
          exfalso
          revert hc111
          simp [own_room, hc101, hc108, hc109]
      · refine Go.by (fun _ kont => XS.ifNo X106.here hx rfl (hb hby at_78) rfl ((if0 _ _).trans (feq (fun z => hc109 ((lw_eq _ _).mp z))).1) kont) ?_
        show Go _ _ _ _ _ _ _ (T106.setTop (mkF m 81 #[.val (.int c0), .val (.long s0), .second, .val (.long b1), .second, .val (.long b2), .second, .val (.long x0), .second, .val (.int fl), .val (.int (0 : Int32)), .val (.ref b102), .val (.long b1), .second, .val (.int (1 : Int32)), .val (.int (1 : Int32)), .unset, .unset] []))
        refine Go.by (fun _ kont => XS.lload X106.here hx rfl (hb hby at_81) rfl (XS.lload X106.here hx rfl (hb hby at_83) rfl (XS.ladd X106.here hx rfl (hb hby at_85) rfl (XS.lloadN X106.here hx rfl (hb hby at_86) rfl (XS.lcmp X106.here hx rfl (hb hby at_87) rfl kont))))) ?_
        show Go _ _ _ _ _ _ _ (T106.setTop (mkF m 88 #[.val (.int c0), .val (.long s0), .second, .val (.long b1), .second, .val (.long b2), .second, .val (.long x0), .second, .val (.int fl), .val (.int (0 : Int32)), .val (.ref b102), .val (.long b1), .second, .val (.int (1 : Int32)), .val (.int (1 : Int32)), .unset, .unset] [(.int (lcmpW (b1 + x0) s0))]))
        by_cases hc112 : s0 < (b1 + x0)
        · refine Go.by (fun _ kont => XS.ifYes X106.here hx rfl (pc0 := 88) (pc' := 95) rfl (hb hby at_88) rfl ((if0 _ _).trans (tlt ((lw_gt _ _).mpr hc112)).2.2.1) (by decide) (by decide) kont) ?_
          show Go _ _ _ _ _ _ _ (T106.setTop (mkF m 95 #[.val (.int c0), .val (.long s0), .second, .val (.long b1), .second, .val (.long b2), .second, .val (.long x0), .second, .val (.int fl), .val (.int (0 : Int32)), .val (.ref b102), .val (.long b1), .second, .val (.int (1 : Int32)), .val (.int (1 : Int32)), .unset, .unset] []))
          refine Go.by (fun _ kont => XS.iconst X106.here hx rfl (hb hby at_95) (XS.istore X106.here hx rfl (hb hby at_96) rfl (l' := #[.val (.int c0), .val (.long s0), .second, .val (.long b1), .second, .val (.long b2), .second, .val (.long x0), .second, .val (.int fl), .val (.int (0 : Int32)), .val (.ref b102), .val (.long b1), .second, .val (.int (1 : Int32)), .val (.int (1 : Int32)), .val (.int (0 : Int32)), .unset]) rfl (XS.iload X106.here hx rfl (hb hby at_98) rfl kont))) ?_
          show Go _ _ _ _ _ _ _ (T106.setTop (mkF m 100 #[.val (.int c0), .val (.long s0), .second, .val (.long b1), .second, .val (.long b2), .second, .val (.long x0), .second, .val (.int fl), .val (.int (0 : Int32)), .val (.ref b102), .val (.long b1), .second, .val (.int (1 : Int32)), .val (.int (1 : Int32)), .val (.int (0 : Int32)), .unset] [(.int (1 : Int32))]))
          refine Go.by (fun _ kont => XS.ifNo X106.here hx rfl (hb hby at_100) rfl (by decide) kont) ?_
          show Go _ _ _ _ _ _ _ (T106.setTop (mkF m 103 #[.val (.int c0), .val (.long s0), .second, .val (.long b1), .second, .val (.long b2), .second, .val (.long x0), .second, .val (.int fl), .val (.int (0 : Int32)), .val (.ref b102), .val (.long b1), .second, .val (.int (1 : Int32)), .val (.int (1 : Int32)), .val (.int (0 : Int32)), .unset] []))
          refine Go.by (fun _ kont => XS.iload X106.here hx rfl (hb hby at_103) rfl kont) ?_
          show Go _ _ _ _ _ _ _ (T106.setTop (mkF m 105 #[.val (.int c0), .val (.long s0), .second, .val (.long b1), .second, .val (.long b2), .second, .val (.long x0), .second, .val (.int fl), .val (.int (0 : Int32)), .val (.ref b102), .val (.long b1), .second, .val (.int (1 : Int32)), .val (.int (1 : Int32)), .val (.int (0 : Int32)), .unset] [(.int (0 : Int32))]))
          refine Go.by (fun _ kont => XS.ifYes X106.here hx rfl (pc0 := 105) (pc' := 112) rfl (hb hby at_105) rfl (by decide) (by decide) (by decide) kont) ?_
          show Go _ _ _ _ _ _ _ (T106.setTop (mkF m 112 #[.val (.int c0), .val (.long s0), .second, .val (.long b1), .second, .val (.long b2), .second, .val (.long x0), .second, .val (.int fl), .val (.int (0 : Int32)), .val (.ref b102), .val (.long b1), .second, .val (.int (1 : Int32)), .val (.int (1 : Int32)), .val (.int (0 : Int32)), .unset] []))
          refine Go.by (fun _ kont => XS.iconst X106.here hx rfl (hb hby at_112) (XS.istore X106.here hx rfl (hb hby at_113) rfl (l' := #[.val (.int c0), .val (.long s0), .second, .val (.long b1), .second, .val (.long b2), .second, .val (.long x0), .second, .val (.int fl), .val (.int (0 : Int32)), .val (.ref b102), .val (.long b1), .second, .val (.int (1 : Int32)), .val (.int (1 : Int32)), .val (.int (0 : Int32)), .val (.int (0 : Int32))]) rfl (XS.aload X106.here hx rfl (hb hby at_115) rfl rfl (XS.lload X106.here hx rfl (hb hby at_117) rfl kont)))) ?_
          show Go _ _ _ _ _ _ _ (T106.setTop (mkF m 119 #[.val (.int c0), .val (.long s0), .second, .val (.long b1), .second, .val (.long b2), .second, .val (.long x0), .second, .val (.int fl), .val (.int (0 : Int32)), .val (.ref b102), .val (.long b1), .second, .val (.int (1 : Int32)), .val (.int (1 : Int32)), .val (.int (0 : Int32)), .val (.int (0 : Int32))] [(.long x0), (.ref b102)]))
          obtain ⟨cq113, kq113, q113a, q113b, q113c⟩ := isOf hZ rfl E106z
          obtain ⟨_, _, ⟨T113, L113, k113, n113⟩, -, X113, ⟨Lc113, hQ113, l113, y113, z113⟩, st113⟩ := X106.virtualBack hx (y := (⟨"com/example/kyu/kyu/PrefetchWindow", "hasRoomFor", "(J)Z"⟩ : MethodName)) (z := (⟨"com/example/kyu/kyu/PrefetchWindow", "hasRoomFor", "(J)Z"⟩ : MethodName)) hown (mvT hZ (hw _ (List.mem_of_getElem? (i := 22) rfl))) (mvT hZ (hw _ (List.mem_of_getElem? (i := 23) rfl))) (notFace_of_selects (args := #[]) (mvT hZ (hw _ (List.mem_of_getElem? (i := 25) rfl)))) (mvT hZ (hw _ (List.mem_of_getElem? (i := 25) rfl))) (mvT hZ (hw _ (List.mem_of_getElem? (i := 24) rfl))) (by decide) (backOf (W := 0) (rmH l Z a0 hw [] b102 x0 c0 s0 ((0 : Int32) + 1) ((0 : Int64) + b1) T106.heap n0 Z107 E106z F106z_countLimit F106z_sizeLimit F106z_count F106z_size ge_b102) hZ (hw _ (List.mem_of_getElem? (i := 26) rfl)) (hw _ (List.mem_of_getElem? (i := 2) rfl)) (by decide) (by decide)) q113a q113c (g := (mkF m 119 #[.val (.int c0), .val (.long s0), .second, .val (.long b1), .second, .val (.long b2), .second, .val (.long x0), .second, .val (.int fl), .val (.int (0 : Int32)), .val (.ref b102), .val (.long b1), .second, .val (.int (1 : Int32)), .val (.int (1 : Int32)), .val (.int (0 : Int32)), .val (.int (0 : Int32))] [(.long x0), (.ref b102)])) rfl (by rw [hml]; rfl) (Steps.refl _) (argsL := [(.long x0)]) (rest := []) (lenOf pd0_2 rfl) rfl (by show 2 * 0 + _ ≤ _; exact Nat.le_of_eq rfl) (hb hby at_119) (fun _ _ => ⟨rfl, rfl, (by decide : 1 + 0 ≤ _), (by decide : 4 + 0 ≤ _)⟩)
          dsimp only [Pt.U, Pt.locs, Pt.cells, Pt.slots] at X113 l113 y113 z113 st113 hQ113
          subst l113 y113 z113
          obtain ⟨rfl, N113q, eh113⟩ := hQ113
          have N113 := Fr.app N106 N113q
          refine Go.tr st113 ?_
          show Go _ _ _ _ _ _ _ (T113.setTop (mkF m 122 #[.val (.int c0), .val (.long s0), .second, .val (.long b1), .second, .val (.long b2), .second, .val (.long x0), .second, .val (.int fl), .val (.int (0 : Int32)), .val (.ref b102), .val (.long b1), .second, .val (.int (1 : Int32)), .val (.int (1 : Int32)), .val (.int (0 : Int32)), .val (.int (0 : Int32))] [(.int (if own_room x0 c0 s0 ((0 : Int32) + 1) ((0 : Int64) + b1) then 1 else 0))]))
          refine Go.by (fun _ kont => XS.iload X113.here hx rfl (hb hby at_122) rfl kont) ?_
          show Go _ _ _ _ _ _ _ (T113.setTop (mkF m 124 #[.val (.int c0), .val (.long s0), .second, .val (.long b1), .second, .val (.long b2), .second, .val (.long x0), .second, .val (.int fl), .val (.int (0 : Int32)), .val (.ref b102), .val (.long b1), .second, .val (.int (1 : Int32)), .val (.int (1 : Int32)), .val (.int (0 : Int32)), .val (.int (0 : Int32))] [(.int (0 : Int32)), (.int (if own_room x0 c0 s0 ((0 : Int32) + 1) ((0 : Int64) + b1) then 1 else 0))]))
          by_cases hc114 : (if own_room x0 c0 s0 ((0 : Int32) + 1) ((0 : Int64) + b1) then 1 else 0) = (0 : Int32)
          · refine Go.by (fun _ kont => XS.icmpNo X113.here hx rfl (hb hby at_124) rfl (teq hc114).2 kont) ?_
            show Go _ _ _ _ _ _ _ (T113.setTop (mkF m 127 #[.val (.int c0), .val (.long s0), .second, .val (.long b1), .second, .val (.long b2), .second, .val (.long x0), .second, .val (.int fl), .val (.int (0 : Int32)), .val (.ref b102), .val (.long b1), .second, .val (.int (1 : Int32)), .val (.int (1 : Int32)), .val (.int (0 : Int32)), .val (.int (0 : Int32))] []))
            refine Go.by (fun _ kont => XS.iconst X113.here hx rfl (hb hby at_127) (XS.goto X113.here hx rfl (pc0 := 128) (pc' := 132) rfl (hb hby at_128) (by decide) (by decide) kont)) ?_
            show Go _ _ _ _ _ _ _ (T113.setTop (mkF m 132 #[.val (.int c0), .val (.long s0), .second, .val (.long b1), .second, .val (.long b2), .second, .val (.long x0), .second, .val (.int fl), .val (.int (0 : Int32)), .val (.ref b102), .val (.long b1), .second, .val (.int (1 : Int32)), .val (.int (1 : Int32)), .val (.int (0 : Int32)), .val (.int (0 : Int32))] [(.int (1 : Int32))]))
            refine Go.retN X113 hx (t := .boolean) hret (by simp) hlk (hb hby at_132) ?_ (by decide) (by decide)
            show Q0 Z h0 n0 (some (.int (1 : Int32))) T113.heap _
            rw [eh113]
            exact ⟨rfl, N113⟩
          · refine Go.by (fun _ kont => XS.icmpYes X113.here hx rfl (pc0 := 124) (pc' := 131) rfl (hb hby at_124) rfl (feq hc114).2 (by decide) (by decide) kont) ?_
            show Go _ _ _ _ _ _ _ (T113.setTop (mkF m 131 #[.val (.int c0), .val (.long s0), .second, .val (.long b1), .second, .val (.long b2), .second, .val (.long x0), .second, .val (.int fl), .val (.int (0 : Int32)), .val (.ref b102), .val (.long b1), .second, .val (.int (1 : Int32)), .val (.int (1 : Int32)), .val (.int (0 : Int32)), .val (.int (0 : Int32))] []))
            refine Go.by (fun _ kont => XS.iconst X113.here hx rfl (hb hby at_131) kont) ?_
            show Go _ _ _ _ _ _ _ (T113.setTop (mkF m 132 #[.val (.int c0), .val (.long s0), .second, .val (.long b1), .second, .val (.long b2), .second, .val (.long x0), .second, .val (.int fl), .val (.int (0 : Int32)), .val (.ref b102), .val (.long b1), .second, .val (.int (1 : Int32)), .val (.int (1 : Int32)), .val (.int (0 : Int32)), .val (.int (0 : Int32))] [(.int (0 : Int32))]))
            exfalso
            revert hc114
            simp [own_room, hc101, hc108, hc109, hc112]
        · refine Go.by (fun _ kont => XS.ifNo X106.here hx rfl (hb hby at_88) rfl ((if0 _ _).trans (flt (fun z => hc112 ((lw_gt _ _).mp z))).2.2.1) kont) ?_
          show Go _ _ _ _ _ _ _ (T106.setTop (mkF m 91 #[.val (.int c0), .val (.long s0), .second, .val (.long b1), .second, .val (.long b2), .second, .val (.long x0), .second, .val (.int fl), .val (.int (0 : Int32)), .val (.ref b102), .val (.long b1), .second, .val (.int (1 : Int32)), .val (.int (1 : Int32)), .unset, .unset] []))
          refine Go.by (fun _ kont => XS.iconst X106.here hx rfl (hb hby at_91) (XS.goto X106.here hx rfl (pc0 := 92) (pc' := 96) rfl (hb hby at_92) (by decide) (by decide) (XS.istore X106.here hx rfl (hb hby at_96) rfl (l' := #[.val (.int c0), .val (.long s0), .second, .val (.long b1), .second, .val (.long b2), .second, .val (.long x0), .second, .val (.int fl), .val (.int (0 : Int32)), .val (.ref b102), .val (.long b1), .second, .val (.int (1 : Int32)), .val (.int (1 : Int32)), .val (.int (1 : Int32)), .unset]) rfl (XS.iload X106.here hx rfl (hb hby at_98) rfl kont)))) ?_
          show Go _ _ _ _ _ _ _ (T106.setTop (mkF m 100 #[.val (.int c0), .val (.long s0), .second, .val (.long b1), .second, .val (.long b2), .second, .val (.long x0), .second, .val (.int fl), .val (.int (0 : Int32)), .val (.ref b102), .val (.long b1), .second, .val (.int (1 : Int32)), .val (.int (1 : Int32)), .val (.int (1 : Int32)), .unset] [(.int (1 : Int32))]))
          refine Go.by (fun _ kont => XS.ifNo X106.here hx rfl (hb hby at_100) rfl (by decide) kont) ?_
          show Go _ _ _ _ _ _ _ (T106.setTop (mkF m 103 #[.val (.int c0), .val (.long s0), .second, .val (.long b1), .second, .val (.long b2), .second, .val (.long x0), .second, .val (.int fl), .val (.int (0 : Int32)), .val (.ref b102), .val (.long b1), .second, .val (.int (1 : Int32)), .val (.int (1 : Int32)), .val (.int (1 : Int32)), .unset] []))
          refine Go.by (fun _ kont => XS.iload X106.here hx rfl (hb hby at_103) rfl kont) ?_
          show Go _ _ _ _ _ _ _ (T106.setTop (mkF m 105 #[.val (.int c0), .val (.long s0), .second, .val (.long b1), .second, .val (.long b2), .second, .val (.long x0), .second, .val (.int fl), .val (.int (0 : Int32)), .val (.ref b102), .val (.long b1), .second, .val (.int (1 : Int32)), .val (.int (1 : Int32)), .val (.int (1 : Int32)), .unset] [(.int (1 : Int32))]))
          refine Go.by (fun _ kont => XS.ifNo X106.here hx rfl (hb hby at_105) rfl (by decide) kont) ?_
          show Go _ _ _ _ _ _ _ (T106.setTop (mkF m 108 #[.val (.int c0), .val (.long s0), .second, .val (.long b1), .second, .val (.long b2), .second, .val (.long x0), .second, .val (.int fl), .val (.int (0 : Int32)), .val (.ref b102), .val (.long b1), .second, .val (.int (1 : Int32)), .val (.int (1 : Int32)), .val (.int (1 : Int32)), .unset] []))
          refine Go.by (fun _ kont => XS.iconst X106.here hx rfl (hb hby at_108) (XS.goto X106.here hx rfl (pc0 := 109) (pc' := 113) rfl (hb hby at_109) (by decide) (by decide) (XS.istore X106.here hx rfl (hb hby at_113) rfl (l' := #[.val (.int c0), .val (.long s0), .second, .val (.long b1), .second, .val (.long b2), .second, .val (.long x0), .second, .val (.int fl), .val (.int (0 : Int32)), .val (.ref b102), .val (.long b1), .second, .val (.int (1 : Int32)), .val (.int (1 : Int32)), .val (.int (1 : Int32)), .val (.int (1 : Int32))]) rfl (XS.aload X106.here hx rfl (hb hby at_115) rfl rfl (XS.lload X106.here hx rfl (hb hby at_117) rfl kont))))) ?_
          show Go _ _ _ _ _ _ _ (T106.setTop (mkF m 119 #[.val (.int c0), .val (.long s0), .second, .val (.long b1), .second, .val (.long b2), .second, .val (.long x0), .second, .val (.int fl), .val (.int (0 : Int32)), .val (.ref b102), .val (.long b1), .second, .val (.int (1 : Int32)), .val (.int (1 : Int32)), .val (.int (1 : Int32)), .val (.int (1 : Int32))] [(.long x0), (.ref b102)]))
          obtain ⟨cq115, kq115, q115a, q115b, q115c⟩ := isOf hZ rfl E106z
          obtain ⟨_, _, ⟨T115, L115, k115, n115⟩, -, X115, ⟨Lc115, hQ115, l115, y115, z115⟩, st115⟩ := X106.virtualBack hx (y := (⟨"com/example/kyu/kyu/PrefetchWindow", "hasRoomFor", "(J)Z"⟩ : MethodName)) (z := (⟨"com/example/kyu/kyu/PrefetchWindow", "hasRoomFor", "(J)Z"⟩ : MethodName)) hown (mvT hZ (hw _ (List.mem_of_getElem? (i := 22) rfl))) (mvT hZ (hw _ (List.mem_of_getElem? (i := 23) rfl))) (notFace_of_selects (args := #[]) (mvT hZ (hw _ (List.mem_of_getElem? (i := 25) rfl)))) (mvT hZ (hw _ (List.mem_of_getElem? (i := 25) rfl))) (mvT hZ (hw _ (List.mem_of_getElem? (i := 24) rfl))) (by decide) (backOf (W := 0) (rmH l Z a0 hw [] b102 x0 c0 s0 ((0 : Int32) + 1) ((0 : Int64) + b1) T106.heap n0 Z107 E106z F106z_countLimit F106z_sizeLimit F106z_count F106z_size ge_b102) hZ (hw _ (List.mem_of_getElem? (i := 26) rfl)) (hw _ (List.mem_of_getElem? (i := 2) rfl)) (by decide) (by decide)) q115a q115c (g := (mkF m 119 #[.val (.int c0), .val (.long s0), .second, .val (.long b1), .second, .val (.long b2), .second, .val (.long x0), .second, .val (.int fl), .val (.int (0 : Int32)), .val (.ref b102), .val (.long b1), .second, .val (.int (1 : Int32)), .val (.int (1 : Int32)), .val (.int (1 : Int32)), .val (.int (1 : Int32))] [(.long x0), (.ref b102)])) rfl (by rw [hml]; rfl) (Steps.refl _) (argsL := [(.long x0)]) (rest := []) (lenOf pd0_2 rfl) rfl (by show 2 * 0 + _ ≤ _; exact Nat.le_of_eq rfl) (hb hby at_119) (fun _ _ => ⟨rfl, rfl, (by decide : 1 + 0 ≤ _), (by decide : 4 + 0 ≤ _)⟩)
          dsimp only [Pt.U, Pt.locs, Pt.cells, Pt.slots] at X115 l115 y115 z115 st115 hQ115
          subst l115 y115 z115
          obtain ⟨rfl, N115q, eh115⟩ := hQ115
          have N115 := Fr.app N106 N115q
          refine Go.tr st115 ?_
          show Go _ _ _ _ _ _ _ (T115.setTop (mkF m 122 #[.val (.int c0), .val (.long s0), .second, .val (.long b1), .second, .val (.long b2), .second, .val (.long x0), .second, .val (.int fl), .val (.int (0 : Int32)), .val (.ref b102), .val (.long b1), .second, .val (.int (1 : Int32)), .val (.int (1 : Int32)), .val (.int (1 : Int32)), .val (.int (1 : Int32))] [(.int (if own_room x0 c0 s0 ((0 : Int32) + 1) ((0 : Int64) + b1) then 1 else 0))]))
          refine Go.by (fun _ kont => XS.iload X115.here hx rfl (hb hby at_122) rfl kont) ?_
          show Go _ _ _ _ _ _ _ (T115.setTop (mkF m 124 #[.val (.int c0), .val (.long s0), .second, .val (.long b1), .second, .val (.long b2), .second, .val (.long x0), .second, .val (.int fl), .val (.int (0 : Int32)), .val (.ref b102), .val (.long b1), .second, .val (.int (1 : Int32)), .val (.int (1 : Int32)), .val (.int (1 : Int32)), .val (.int (1 : Int32))] [(.int (1 : Int32)), (.int (if own_room x0 c0 s0 ((0 : Int32) + 1) ((0 : Int64) + b1) then 1 else 0))]))
          by_cases hc116 : (if own_room x0 c0 s0 ((0 : Int32) + 1) ((0 : Int64) + b1) then 1 else 0) = (1 : Int32)
          · refine Go.by (fun _ kont => XS.icmpNo X115.here hx rfl (hb hby at_124) rfl (teq hc116).2 kont) ?_
            show Go _ _ _ _ _ _ _ (T115.setTop (mkF m 127 #[.val (.int c0), .val (.long s0), .second, .val (.long b1), .second, .val (.long b2), .second, .val (.long x0), .second, .val (.int fl), .val (.int (0 : Int32)), .val (.ref b102), .val (.long b1), .second, .val (.int (1 : Int32)), .val (.int (1 : Int32)), .val (.int (1 : Int32)), .val (.int (1 : Int32))] []))
            refine Go.by (fun _ kont => XS.iconst X115.here hx rfl (hb hby at_127) (XS.goto X115.here hx rfl (pc0 := 128) (pc' := 132) rfl (hb hby at_128) (by decide) (by decide) kont)) ?_
            show Go _ _ _ _ _ _ _ (T115.setTop (mkF m 132 #[.val (.int c0), .val (.long s0), .second, .val (.long b1), .second, .val (.long b2), .second, .val (.long x0), .second, .val (.int fl), .val (.int (0 : Int32)), .val (.ref b102), .val (.long b1), .second, .val (.int (1 : Int32)), .val (.int (1 : Int32)), .val (.int (1 : Int32)), .val (.int (1 : Int32))] [(.int (1 : Int32))]))
            refine Go.retN X115 hx (t := .boolean) hret (by simp) hlk (hb hby at_132) ?_ (by decide) (by decide)
            show Q0 Z h0 n0 (some (.int (1 : Int32))) T115.heap _
            rw [eh115]
            exact ⟨rfl, N115⟩
          · refine Go.by (fun _ kont => XS.icmpYes X115.here hx rfl (pc0 := 124) (pc' := 131) rfl (hb hby at_124) rfl (feq hc116).2 (by decide) (by decide) kont) ?_
            show Go _ _ _ _ _ _ _ (T115.setTop (mkF m 131 #[.val (.int c0), .val (.long s0), .second, .val (.long b1), .second, .val (.long b2), .second, .val (.long x0), .second, .val (.int fl), .val (.int (0 : Int32)), .val (.ref b102), .val (.long b1), .second, .val (.int (1 : Int32)), .val (.int (1 : Int32)), .val (.int (1 : Int32)), .val (.int (1 : Int32))] []))
            refine Go.by (fun _ kont => XS.iconst X115.here hx rfl (hb hby at_131) kont) ?_
            show Go _ _ _ _ _ _ _ (T115.setTop (mkF m 132 #[.val (.int c0), .val (.long s0), .second, .val (.long b1), .second, .val (.long b2), .second, .val (.long x0), .second, .val (.int fl), .val (.int (0 : Int32)), .val (.ref b102), .val (.long b1), .second, .val (.int (1 : Int32)), .val (.int (1 : Int32)), .val (.int (1 : Int32)), .val (.int (1 : Int32))] [(.int (0 : Int32))]))
            exfalso
            revert hc116
            simp [own_room, hc101, hc108, hc109, hc112]
    · refine Go.by (fun _ kont => XS.ifNo X106.here hx rfl (hb hby at_59) rfl ((if0 _ _).trans (feq hc108).1) kont) ?_
      show Go _ _ _ _ _ _ _ (T106.setTop (mkF m 62 #[.val (.int c0), .val (.long s0), .second, .val (.long b1), .second, .val (.long b2), .second, .val (.long x0), .second, .val (.int fl), .val (.int (0 : Int32)), .val (.ref b102), .val (.long b1), .second, .val (.int (1 : Int32)), .unset, .unset, .unset] []))
      refine Go.by (fun _ kont => XS.iload X106.here hx rfl (hb hby at_62) rfl (XS.iloadN X106.here hx rfl (hb hby at_64) rfl kont)) ?_
      show Go _ _ _ _ _ _ _ (T106.setTop (mkF m 65 #[.val (.int c0), .val (.long s0), .second, .val (.long b1), .second, .val (.long b2), .second, .val (.long x0), .second, .val (.int fl), .val (.int (0 : Int32)), .val (.ref b102), .val (.long b1), .second, .val (.int (1 : Int32)), .unset, .unset, .unset] [(.int c0), (.int (1 : Int32))]))
      by_cases hc117 : (1 : Int32) < c0
      · refine Go.by (fun _ kont => XS.icmpNo X106.here hx rfl (hb hby at_65) rfl (tlt hc117).2.1 kont) ?_
        show Go _ _ _ _ _ _ _ (T106.setTop (mkF m 68 #[.val (.int c0), .val (.long s0), .second, .val (.long b1), .second, .val (.long b2), .second, .val (.long x0), .second, .val (.int fl), .val (.int (0 : Int32)), .val (.ref b102), .val (.long b1), .second, .val (.int (1 : Int32)), .unset, .unset, .unset] []))
        refine Go.by (fun _ kont => XS.iconst X106.here hx rfl (hb hby at_68) (XS.goto X106.here hx rfl (pc0 := 69) (pc' := 73) rfl (hb hby at_69) (by decide) (by decide) (XS.istore X106.here hx rfl (hb hby at_73) rfl (l' := #[.val (.int c0), .val (.long s0), .second, .val (.long b1), .second, .val (.long b2), .second, .val (.long x0), .second, .val (.int fl), .val (.int (0 : Int32)), .val (.ref b102), .val (.long b1), .second, .val (.int (1 : Int32)), .val (.int (1 : Int32)), .unset, .unset]) rfl (XS.lloadN X106.here hx rfl (hb hby at_75) rfl (XS.lconst X106.here hx rfl (hb hby at_76) (XS.lcmp X106.here hx rfl (hb hby at_77) rfl kont)))))) ?_
        show Go _ _ _ _ _ _ _ (T106.setTop (mkF m 78 #[.val (.int c0), .val (.long s0), .second, .val (.long b1), .second, .val (.long b2), .second, .val (.long x0), .second, .val (.int fl), .val (.int (0 : Int32)), .val (.ref b102), .val (.long b1), .second, .val (.int (1 : Int32)), .val (.int (1 : Int32)), .unset, .unset] [(.int (lcmpW s0 (0 : Int64)))]))
        by_cases hc118 : s0 = (0 : Int64)
        · refine Go.by (fun _ kont => XS.ifYes X106.here hx rfl (pc0 := 78) (pc' := 91) rfl (hb hby at_78) rfl ((if0 _ _).trans (teq ((lw_eq _ _).mpr hc118)).1) (by decide) (by decide) kont) ?_
          show Go _ _ _ _ _ _ _ (T106.setTop (mkF m 91 #[.val (.int c0), .val (.long s0), .second, .val (.long b1), .second, .val (.long b2), .second, .val (.long x0), .second, .val (.int fl), .val (.int (0 : Int32)), .val (.ref b102), .val (.long b1), .second, .val (.int (1 : Int32)), .val (.int (1 : Int32)), .unset, .unset] []))
          refine Go.by (fun _ kont => XS.iconst X106.here hx rfl (hb hby at_91) (XS.goto X106.here hx rfl (pc0 := 92) (pc' := 96) rfl (hb hby at_92) (by decide) (by decide) (XS.istore X106.here hx rfl (hb hby at_96) rfl (l' := #[.val (.int c0), .val (.long s0), .second, .val (.long b1), .second, .val (.long b2), .second, .val (.long x0), .second, .val (.int fl), .val (.int (0 : Int32)), .val (.ref b102), .val (.long b1), .second, .val (.int (1 : Int32)), .val (.int (1 : Int32)), .val (.int (1 : Int32)), .unset]) rfl (XS.iload X106.here hx rfl (hb hby at_98) rfl kont)))) ?_
          show Go _ _ _ _ _ _ _ (T106.setTop (mkF m 100 #[.val (.int c0), .val (.long s0), .second, .val (.long b1), .second, .val (.long b2), .second, .val (.long x0), .second, .val (.int fl), .val (.int (0 : Int32)), .val (.ref b102), .val (.long b1), .second, .val (.int (1 : Int32)), .val (.int (1 : Int32)), .val (.int (1 : Int32)), .unset] [(.int (1 : Int32))]))
          refine Go.by (fun _ kont => XS.ifNo X106.here hx rfl (hb hby at_100) rfl (by decide) kont) ?_
          show Go _ _ _ _ _ _ _ (T106.setTop (mkF m 103 #[.val (.int c0), .val (.long s0), .second, .val (.long b1), .second, .val (.long b2), .second, .val (.long x0), .second, .val (.int fl), .val (.int (0 : Int32)), .val (.ref b102), .val (.long b1), .second, .val (.int (1 : Int32)), .val (.int (1 : Int32)), .val (.int (1 : Int32)), .unset] []))
          refine Go.by (fun _ kont => XS.iload X106.here hx rfl (hb hby at_103) rfl kont) ?_
          show Go _ _ _ _ _ _ _ (T106.setTop (mkF m 105 #[.val (.int c0), .val (.long s0), .second, .val (.long b1), .second, .val (.long b2), .second, .val (.long x0), .second, .val (.int fl), .val (.int (0 : Int32)), .val (.ref b102), .val (.long b1), .second, .val (.int (1 : Int32)), .val (.int (1 : Int32)), .val (.int (1 : Int32)), .unset] [(.int (1 : Int32))]))
          refine Go.by (fun _ kont => XS.ifNo X106.here hx rfl (hb hby at_105) rfl (by decide) kont) ?_
          show Go _ _ _ _ _ _ _ (T106.setTop (mkF m 108 #[.val (.int c0), .val (.long s0), .second, .val (.long b1), .second, .val (.long b2), .second, .val (.long x0), .second, .val (.int fl), .val (.int (0 : Int32)), .val (.ref b102), .val (.long b1), .second, .val (.int (1 : Int32)), .val (.int (1 : Int32)), .val (.int (1 : Int32)), .unset] []))
          refine Go.by (fun _ kont => XS.iconst X106.here hx rfl (hb hby at_108) (XS.goto X106.here hx rfl (pc0 := 109) (pc' := 113) rfl (hb hby at_109) (by decide) (by decide) (XS.istore X106.here hx rfl (hb hby at_113) rfl (l' := #[.val (.int c0), .val (.long s0), .second, .val (.long b1), .second, .val (.long b2), .second, .val (.long x0), .second, .val (.int fl), .val (.int (0 : Int32)), .val (.ref b102), .val (.long b1), .second, .val (.int (1 : Int32)), .val (.int (1 : Int32)), .val (.int (1 : Int32)), .val (.int (1 : Int32))]) rfl (XS.aload X106.here hx rfl (hb hby at_115) rfl rfl (XS.lload X106.here hx rfl (hb hby at_117) rfl kont))))) ?_
          show Go _ _ _ _ _ _ _ (T106.setTop (mkF m 119 #[.val (.int c0), .val (.long s0), .second, .val (.long b1), .second, .val (.long b2), .second, .val (.long x0), .second, .val (.int fl), .val (.int (0 : Int32)), .val (.ref b102), .val (.long b1), .second, .val (.int (1 : Int32)), .val (.int (1 : Int32)), .val (.int (1 : Int32)), .val (.int (1 : Int32))] [(.long x0), (.ref b102)]))
          obtain ⟨cq119, kq119, q119a, q119b, q119c⟩ := isOf hZ rfl E106z
          obtain ⟨_, _, ⟨T119, L119, k119, n119⟩, -, X119, ⟨Lc119, hQ119, l119, y119, z119⟩, st119⟩ := X106.virtualBack hx (y := (⟨"com/example/kyu/kyu/PrefetchWindow", "hasRoomFor", "(J)Z"⟩ : MethodName)) (z := (⟨"com/example/kyu/kyu/PrefetchWindow", "hasRoomFor", "(J)Z"⟩ : MethodName)) hown (mvT hZ (hw _ (List.mem_of_getElem? (i := 22) rfl))) (mvT hZ (hw _ (List.mem_of_getElem? (i := 23) rfl))) (notFace_of_selects (args := #[]) (mvT hZ (hw _ (List.mem_of_getElem? (i := 25) rfl)))) (mvT hZ (hw _ (List.mem_of_getElem? (i := 25) rfl))) (mvT hZ (hw _ (List.mem_of_getElem? (i := 24) rfl))) (by decide) (backOf (W := 0) (rmH l Z a0 hw [] b102 x0 c0 s0 ((0 : Int32) + 1) ((0 : Int64) + b1) T106.heap n0 Z107 E106z F106z_countLimit F106z_sizeLimit F106z_count F106z_size ge_b102) hZ (hw _ (List.mem_of_getElem? (i := 26) rfl)) (hw _ (List.mem_of_getElem? (i := 2) rfl)) (by decide) (by decide)) q119a q119c (g := (mkF m 119 #[.val (.int c0), .val (.long s0), .second, .val (.long b1), .second, .val (.long b2), .second, .val (.long x0), .second, .val (.int fl), .val (.int (0 : Int32)), .val (.ref b102), .val (.long b1), .second, .val (.int (1 : Int32)), .val (.int (1 : Int32)), .val (.int (1 : Int32)), .val (.int (1 : Int32))] [(.long x0), (.ref b102)])) rfl (by rw [hml]; rfl) (Steps.refl _) (argsL := [(.long x0)]) (rest := []) (lenOf pd0_2 rfl) rfl (by show 2 * 0 + _ ≤ _; exact Nat.le_of_eq rfl) (hb hby at_119) (fun _ _ => ⟨rfl, rfl, (by decide : 1 + 0 ≤ _), (by decide : 4 + 0 ≤ _)⟩)
          dsimp only [Pt.U, Pt.locs, Pt.cells, Pt.slots] at X119 l119 y119 z119 st119 hQ119
          subst l119 y119 z119
          obtain ⟨rfl, N119q, eh119⟩ := hQ119
          have N119 := Fr.app N106 N119q
          refine Go.tr st119 ?_
          show Go _ _ _ _ _ _ _ (T119.setTop (mkF m 122 #[.val (.int c0), .val (.long s0), .second, .val (.long b1), .second, .val (.long b2), .second, .val (.long x0), .second, .val (.int fl), .val (.int (0 : Int32)), .val (.ref b102), .val (.long b1), .second, .val (.int (1 : Int32)), .val (.int (1 : Int32)), .val (.int (1 : Int32)), .val (.int (1 : Int32))] [(.int (if own_room x0 c0 s0 ((0 : Int32) + 1) ((0 : Int64) + b1) then 1 else 0))]))
          refine Go.by (fun _ kont => XS.iload X119.here hx rfl (hb hby at_122) rfl kont) ?_
          show Go _ _ _ _ _ _ _ (T119.setTop (mkF m 124 #[.val (.int c0), .val (.long s0), .second, .val (.long b1), .second, .val (.long b2), .second, .val (.long x0), .second, .val (.int fl), .val (.int (0 : Int32)), .val (.ref b102), .val (.long b1), .second, .val (.int (1 : Int32)), .val (.int (1 : Int32)), .val (.int (1 : Int32)), .val (.int (1 : Int32))] [(.int (1 : Int32)), (.int (if own_room x0 c0 s0 ((0 : Int32) + 1) ((0 : Int64) + b1) then 1 else 0))]))
          by_cases hc120 : (if own_room x0 c0 s0 ((0 : Int32) + 1) ((0 : Int64) + b1) then 1 else 0) = (1 : Int32)
          · refine Go.by (fun _ kont => XS.icmpNo X119.here hx rfl (hb hby at_124) rfl (teq hc120).2 kont) ?_
            show Go _ _ _ _ _ _ _ (T119.setTop (mkF m 127 #[.val (.int c0), .val (.long s0), .second, .val (.long b1), .second, .val (.long b2), .second, .val (.long x0), .second, .val (.int fl), .val (.int (0 : Int32)), .val (.ref b102), .val (.long b1), .second, .val (.int (1 : Int32)), .val (.int (1 : Int32)), .val (.int (1 : Int32)), .val (.int (1 : Int32))] []))
            refine Go.by (fun _ kont => XS.iconst X119.here hx rfl (hb hby at_127) (XS.goto X119.here hx rfl (pc0 := 128) (pc' := 132) rfl (hb hby at_128) (by decide) (by decide) kont)) ?_
            show Go _ _ _ _ _ _ _ (T119.setTop (mkF m 132 #[.val (.int c0), .val (.long s0), .second, .val (.long b1), .second, .val (.long b2), .second, .val (.long x0), .second, .val (.int fl), .val (.int (0 : Int32)), .val (.ref b102), .val (.long b1), .second, .val (.int (1 : Int32)), .val (.int (1 : Int32)), .val (.int (1 : Int32)), .val (.int (1 : Int32))] [(.int (1 : Int32))]))
            refine Go.retN X119 hx (t := .boolean) hret (by simp) hlk (hb hby at_132) ?_ (by decide) (by decide)
            show Q0 Z h0 n0 (some (.int (1 : Int32))) T119.heap _
            rw [eh119]
            exact ⟨rfl, N119⟩
          · refine Go.by (fun _ kont => XS.icmpYes X119.here hx rfl (pc0 := 124) (pc' := 131) rfl (hb hby at_124) rfl (feq hc120).2 (by decide) (by decide) kont) ?_
            show Go _ _ _ _ _ _ _ (T119.setTop (mkF m 131 #[.val (.int c0), .val (.long s0), .second, .val (.long b1), .second, .val (.long b2), .second, .val (.long x0), .second, .val (.int fl), .val (.int (0 : Int32)), .val (.ref b102), .val (.long b1), .second, .val (.int (1 : Int32)), .val (.int (1 : Int32)), .val (.int (1 : Int32)), .val (.int (1 : Int32))] []))
            refine Go.by (fun _ kont => XS.iconst X119.here hx rfl (hb hby at_131) kont) ?_
            show Go _ _ _ _ _ _ _ (T119.setTop (mkF m 132 #[.val (.int c0), .val (.long s0), .second, .val (.long b1), .second, .val (.long b2), .second, .val (.long x0), .second, .val (.int fl), .val (.int (0 : Int32)), .val (.ref b102), .val (.long b1), .second, .val (.int (1 : Int32)), .val (.int (1 : Int32)), .val (.int (1 : Int32)), .val (.int (1 : Int32))] [(.int (0 : Int32))]))
            exfalso
            revert hc120
            simp [own_room, hc101, hc108, hc117, hc118]
        · refine Go.by (fun _ kont => XS.ifNo X106.here hx rfl (hb hby at_78) rfl ((if0 _ _).trans (feq (fun z => hc118 ((lw_eq _ _).mp z))).1) kont) ?_
          show Go _ _ _ _ _ _ _ (T106.setTop (mkF m 81 #[.val (.int c0), .val (.long s0), .second, .val (.long b1), .second, .val (.long b2), .second, .val (.long x0), .second, .val (.int fl), .val (.int (0 : Int32)), .val (.ref b102), .val (.long b1), .second, .val (.int (1 : Int32)), .val (.int (1 : Int32)), .unset, .unset] []))
          refine Go.by (fun _ kont => XS.lload X106.here hx rfl (hb hby at_81) rfl (XS.lload X106.here hx rfl (hb hby at_83) rfl (XS.ladd X106.here hx rfl (hb hby at_85) rfl (XS.lloadN X106.here hx rfl (hb hby at_86) rfl (XS.lcmp X106.here hx rfl (hb hby at_87) rfl kont))))) ?_
          show Go _ _ _ _ _ _ _ (T106.setTop (mkF m 88 #[.val (.int c0), .val (.long s0), .second, .val (.long b1), .second, .val (.long b2), .second, .val (.long x0), .second, .val (.int fl), .val (.int (0 : Int32)), .val (.ref b102), .val (.long b1), .second, .val (.int (1 : Int32)), .val (.int (1 : Int32)), .unset, .unset] [(.int (lcmpW (b1 + x0) s0))]))
          by_cases hc121 : s0 < (b1 + x0)
          · refine Go.by (fun _ kont => XS.ifYes X106.here hx rfl (pc0 := 88) (pc' := 95) rfl (hb hby at_88) rfl ((if0 _ _).trans (tlt ((lw_gt _ _).mpr hc121)).2.2.1) (by decide) (by decide) kont) ?_
            show Go _ _ _ _ _ _ _ (T106.setTop (mkF m 95 #[.val (.int c0), .val (.long s0), .second, .val (.long b1), .second, .val (.long b2), .second, .val (.long x0), .second, .val (.int fl), .val (.int (0 : Int32)), .val (.ref b102), .val (.long b1), .second, .val (.int (1 : Int32)), .val (.int (1 : Int32)), .unset, .unset] []))
            refine Go.by (fun _ kont => XS.iconst X106.here hx rfl (hb hby at_95) (XS.istore X106.here hx rfl (hb hby at_96) rfl (l' := #[.val (.int c0), .val (.long s0), .second, .val (.long b1), .second, .val (.long b2), .second, .val (.long x0), .second, .val (.int fl), .val (.int (0 : Int32)), .val (.ref b102), .val (.long b1), .second, .val (.int (1 : Int32)), .val (.int (1 : Int32)), .val (.int (0 : Int32)), .unset]) rfl (XS.iload X106.here hx rfl (hb hby at_98) rfl kont))) ?_
            show Go _ _ _ _ _ _ _ (T106.setTop (mkF m 100 #[.val (.int c0), .val (.long s0), .second, .val (.long b1), .second, .val (.long b2), .second, .val (.long x0), .second, .val (.int fl), .val (.int (0 : Int32)), .val (.ref b102), .val (.long b1), .second, .val (.int (1 : Int32)), .val (.int (1 : Int32)), .val (.int (0 : Int32)), .unset] [(.int (1 : Int32))]))
            refine Go.by (fun _ kont => XS.ifNo X106.here hx rfl (hb hby at_100) rfl (by decide) kont) ?_
            show Go _ _ _ _ _ _ _ (T106.setTop (mkF m 103 #[.val (.int c0), .val (.long s0), .second, .val (.long b1), .second, .val (.long b2), .second, .val (.long x0), .second, .val (.int fl), .val (.int (0 : Int32)), .val (.ref b102), .val (.long b1), .second, .val (.int (1 : Int32)), .val (.int (1 : Int32)), .val (.int (0 : Int32)), .unset] []))
            refine Go.by (fun _ kont => XS.iload X106.here hx rfl (hb hby at_103) rfl kont) ?_
            show Go _ _ _ _ _ _ _ (T106.setTop (mkF m 105 #[.val (.int c0), .val (.long s0), .second, .val (.long b1), .second, .val (.long b2), .second, .val (.long x0), .second, .val (.int fl), .val (.int (0 : Int32)), .val (.ref b102), .val (.long b1), .second, .val (.int (1 : Int32)), .val (.int (1 : Int32)), .val (.int (0 : Int32)), .unset] [(.int (0 : Int32))]))
            refine Go.by (fun _ kont => XS.ifYes X106.here hx rfl (pc0 := 105) (pc' := 112) rfl (hb hby at_105) rfl (by decide) (by decide) (by decide) kont) ?_
            show Go _ _ _ _ _ _ _ (T106.setTop (mkF m 112 #[.val (.int c0), .val (.long s0), .second, .val (.long b1), .second, .val (.long b2), .second, .val (.long x0), .second, .val (.int fl), .val (.int (0 : Int32)), .val (.ref b102), .val (.long b1), .second, .val (.int (1 : Int32)), .val (.int (1 : Int32)), .val (.int (0 : Int32)), .unset] []))
            refine Go.by (fun _ kont => XS.iconst X106.here hx rfl (hb hby at_112) (XS.istore X106.here hx rfl (hb hby at_113) rfl (l' := #[.val (.int c0), .val (.long s0), .second, .val (.long b1), .second, .val (.long b2), .second, .val (.long x0), .second, .val (.int fl), .val (.int (0 : Int32)), .val (.ref b102), .val (.long b1), .second, .val (.int (1 : Int32)), .val (.int (1 : Int32)), .val (.int (0 : Int32)), .val (.int (0 : Int32))]) rfl (XS.aload X106.here hx rfl (hb hby at_115) rfl rfl (XS.lload X106.here hx rfl (hb hby at_117) rfl kont)))) ?_
            show Go _ _ _ _ _ _ _ (T106.setTop (mkF m 119 #[.val (.int c0), .val (.long s0), .second, .val (.long b1), .second, .val (.long b2), .second, .val (.long x0), .second, .val (.int fl), .val (.int (0 : Int32)), .val (.ref b102), .val (.long b1), .second, .val (.int (1 : Int32)), .val (.int (1 : Int32)), .val (.int (0 : Int32)), .val (.int (0 : Int32))] [(.long x0), (.ref b102)]))
            obtain ⟨cq122, kq122, q122a, q122b, q122c⟩ := isOf hZ rfl E106z
            obtain ⟨_, _, ⟨T122, L122, k122, n122⟩, -, X122, ⟨Lc122, hQ122, l122, y122, z122⟩, st122⟩ := X106.virtualBack hx (y := (⟨"com/example/kyu/kyu/PrefetchWindow", "hasRoomFor", "(J)Z"⟩ : MethodName)) (z := (⟨"com/example/kyu/kyu/PrefetchWindow", "hasRoomFor", "(J)Z"⟩ : MethodName)) hown (mvT hZ (hw _ (List.mem_of_getElem? (i := 22) rfl))) (mvT hZ (hw _ (List.mem_of_getElem? (i := 23) rfl))) (notFace_of_selects (args := #[]) (mvT hZ (hw _ (List.mem_of_getElem? (i := 25) rfl)))) (mvT hZ (hw _ (List.mem_of_getElem? (i := 25) rfl))) (mvT hZ (hw _ (List.mem_of_getElem? (i := 24) rfl))) (by decide) (backOf (W := 0) (rmH l Z a0 hw [] b102 x0 c0 s0 ((0 : Int32) + 1) ((0 : Int64) + b1) T106.heap n0 Z107 E106z F106z_countLimit F106z_sizeLimit F106z_count F106z_size ge_b102) hZ (hw _ (List.mem_of_getElem? (i := 26) rfl)) (hw _ (List.mem_of_getElem? (i := 2) rfl)) (by decide) (by decide)) q122a q122c (g := (mkF m 119 #[.val (.int c0), .val (.long s0), .second, .val (.long b1), .second, .val (.long b2), .second, .val (.long x0), .second, .val (.int fl), .val (.int (0 : Int32)), .val (.ref b102), .val (.long b1), .second, .val (.int (1 : Int32)), .val (.int (1 : Int32)), .val (.int (0 : Int32)), .val (.int (0 : Int32))] [(.long x0), (.ref b102)])) rfl (by rw [hml]; rfl) (Steps.refl _) (argsL := [(.long x0)]) (rest := []) (lenOf pd0_2 rfl) rfl (by show 2 * 0 + _ ≤ _; exact Nat.le_of_eq rfl) (hb hby at_119) (fun _ _ => ⟨rfl, rfl, (by decide : 1 + 0 ≤ _), (by decide : 4 + 0 ≤ _)⟩)
            dsimp only [Pt.U, Pt.locs, Pt.cells, Pt.slots] at X122 l122 y122 z122 st122 hQ122
            subst l122 y122 z122
            obtain ⟨rfl, N122q, eh122⟩ := hQ122
            have N122 := Fr.app N106 N122q
            refine Go.tr st122 ?_
            show Go _ _ _ _ _ _ _ (T122.setTop (mkF m 122 #[.val (.int c0), .val (.long s0), .second, .val (.long b1), .second, .val (.long b2), .second, .val (.long x0), .second, .val (.int fl), .val (.int (0 : Int32)), .val (.ref b102), .val (.long b1), .second, .val (.int (1 : Int32)), .val (.int (1 : Int32)), .val (.int (0 : Int32)), .val (.int (0 : Int32))] [(.int (if own_room x0 c0 s0 ((0 : Int32) + 1) ((0 : Int64) + b1) then 1 else 0))]))
            refine Go.by (fun _ kont => XS.iload X122.here hx rfl (hb hby at_122) rfl kont) ?_
            show Go _ _ _ _ _ _ _ (T122.setTop (mkF m 124 #[.val (.int c0), .val (.long s0), .second, .val (.long b1), .second, .val (.long b2), .second, .val (.long x0), .second, .val (.int fl), .val (.int (0 : Int32)), .val (.ref b102), .val (.long b1), .second, .val (.int (1 : Int32)), .val (.int (1 : Int32)), .val (.int (0 : Int32)), .val (.int (0 : Int32))] [(.int (0 : Int32)), (.int (if own_room x0 c0 s0 ((0 : Int32) + 1) ((0 : Int64) + b1) then 1 else 0))]))
            by_cases hc123 : (if own_room x0 c0 s0 ((0 : Int32) + 1) ((0 : Int64) + b1) then 1 else 0) = (0 : Int32)
            · refine Go.by (fun _ kont => XS.icmpNo X122.here hx rfl (hb hby at_124) rfl (teq hc123).2 kont) ?_
              show Go _ _ _ _ _ _ _ (T122.setTop (mkF m 127 #[.val (.int c0), .val (.long s0), .second, .val (.long b1), .second, .val (.long b2), .second, .val (.long x0), .second, .val (.int fl), .val (.int (0 : Int32)), .val (.ref b102), .val (.long b1), .second, .val (.int (1 : Int32)), .val (.int (1 : Int32)), .val (.int (0 : Int32)), .val (.int (0 : Int32))] []))
              refine Go.by (fun _ kont => XS.iconst X122.here hx rfl (hb hby at_127) (XS.goto X122.here hx rfl (pc0 := 128) (pc' := 132) rfl (hb hby at_128) (by decide) (by decide) kont)) ?_
              show Go _ _ _ _ _ _ _ (T122.setTop (mkF m 132 #[.val (.int c0), .val (.long s0), .second, .val (.long b1), .second, .val (.long b2), .second, .val (.long x0), .second, .val (.int fl), .val (.int (0 : Int32)), .val (.ref b102), .val (.long b1), .second, .val (.int (1 : Int32)), .val (.int (1 : Int32)), .val (.int (0 : Int32)), .val (.int (0 : Int32))] [(.int (1 : Int32))]))
              refine Go.retN X122 hx (t := .boolean) hret (by simp) hlk (hb hby at_132) ?_ (by decide) (by decide)
              show Q0 Z h0 n0 (some (.int (1 : Int32))) T122.heap _
              rw [eh122]
              exact ⟨rfl, N122⟩
            · refine Go.by (fun _ kont => XS.icmpYes X122.here hx rfl (pc0 := 124) (pc' := 131) rfl (hb hby at_124) rfl (feq hc123).2 (by decide) (by decide) kont) ?_
              show Go _ _ _ _ _ _ _ (T122.setTop (mkF m 131 #[.val (.int c0), .val (.long s0), .second, .val (.long b1), .second, .val (.long b2), .second, .val (.long x0), .second, .val (.int fl), .val (.int (0 : Int32)), .val (.ref b102), .val (.long b1), .second, .val (.int (1 : Int32)), .val (.int (1 : Int32)), .val (.int (0 : Int32)), .val (.int (0 : Int32))] []))
              refine Go.by (fun _ kont => XS.iconst X122.here hx rfl (hb hby at_131) kont) ?_
              show Go _ _ _ _ _ _ _ (T122.setTop (mkF m 132 #[.val (.int c0), .val (.long s0), .second, .val (.long b1), .second, .val (.long b2), .second, .val (.long x0), .second, .val (.int fl), .val (.int (0 : Int32)), .val (.ref b102), .val (.long b1), .second, .val (.int (1 : Int32)), .val (.int (1 : Int32)), .val (.int (0 : Int32)), .val (.int (0 : Int32))] [(.int (0 : Int32))]))
              exfalso
              revert hc123
              simp [own_room, hc101, hc108, hc117, hc118, hc121]
          · refine Go.by (fun _ kont => XS.ifNo X106.here hx rfl (hb hby at_88) rfl ((if0 _ _).trans (flt (fun z => hc121 ((lw_gt _ _).mp z))).2.2.1) kont) ?_
            show Go _ _ _ _ _ _ _ (T106.setTop (mkF m 91 #[.val (.int c0), .val (.long s0), .second, .val (.long b1), .second, .val (.long b2), .second, .val (.long x0), .second, .val (.int fl), .val (.int (0 : Int32)), .val (.ref b102), .val (.long b1), .second, .val (.int (1 : Int32)), .val (.int (1 : Int32)), .unset, .unset] []))
            refine Go.by (fun _ kont => XS.iconst X106.here hx rfl (hb hby at_91) (XS.goto X106.here hx rfl (pc0 := 92) (pc' := 96) rfl (hb hby at_92) (by decide) (by decide) (XS.istore X106.here hx rfl (hb hby at_96) rfl (l' := #[.val (.int c0), .val (.long s0), .second, .val (.long b1), .second, .val (.long b2), .second, .val (.long x0), .second, .val (.int fl), .val (.int (0 : Int32)), .val (.ref b102), .val (.long b1), .second, .val (.int (1 : Int32)), .val (.int (1 : Int32)), .val (.int (1 : Int32)), .unset]) rfl (XS.iload X106.here hx rfl (hb hby at_98) rfl kont)))) ?_
            show Go _ _ _ _ _ _ _ (T106.setTop (mkF m 100 #[.val (.int c0), .val (.long s0), .second, .val (.long b1), .second, .val (.long b2), .second, .val (.long x0), .second, .val (.int fl), .val (.int (0 : Int32)), .val (.ref b102), .val (.long b1), .second, .val (.int (1 : Int32)), .val (.int (1 : Int32)), .val (.int (1 : Int32)), .unset] [(.int (1 : Int32))]))
            refine Go.by (fun _ kont => XS.ifNo X106.here hx rfl (hb hby at_100) rfl (by decide) kont) ?_
            show Go _ _ _ _ _ _ _ (T106.setTop (mkF m 103 #[.val (.int c0), .val (.long s0), .second, .val (.long b1), .second, .val (.long b2), .second, .val (.long x0), .second, .val (.int fl), .val (.int (0 : Int32)), .val (.ref b102), .val (.long b1), .second, .val (.int (1 : Int32)), .val (.int (1 : Int32)), .val (.int (1 : Int32)), .unset] []))
            refine Go.by (fun _ kont => XS.iload X106.here hx rfl (hb hby at_103) rfl kont) ?_
            show Go _ _ _ _ _ _ _ (T106.setTop (mkF m 105 #[.val (.int c0), .val (.long s0), .second, .val (.long b1), .second, .val (.long b2), .second, .val (.long x0), .second, .val (.int fl), .val (.int (0 : Int32)), .val (.ref b102), .val (.long b1), .second, .val (.int (1 : Int32)), .val (.int (1 : Int32)), .val (.int (1 : Int32)), .unset] [(.int (1 : Int32))]))
            refine Go.by (fun _ kont => XS.ifNo X106.here hx rfl (hb hby at_105) rfl (by decide) kont) ?_
            show Go _ _ _ _ _ _ _ (T106.setTop (mkF m 108 #[.val (.int c0), .val (.long s0), .second, .val (.long b1), .second, .val (.long b2), .second, .val (.long x0), .second, .val (.int fl), .val (.int (0 : Int32)), .val (.ref b102), .val (.long b1), .second, .val (.int (1 : Int32)), .val (.int (1 : Int32)), .val (.int (1 : Int32)), .unset] []))
            refine Go.by (fun _ kont => XS.iconst X106.here hx rfl (hb hby at_108) (XS.goto X106.here hx rfl (pc0 := 109) (pc' := 113) rfl (hb hby at_109) (by decide) (by decide) (XS.istore X106.here hx rfl (hb hby at_113) rfl (l' := #[.val (.int c0), .val (.long s0), .second, .val (.long b1), .second, .val (.long b2), .second, .val (.long x0), .second, .val (.int fl), .val (.int (0 : Int32)), .val (.ref b102), .val (.long b1), .second, .val (.int (1 : Int32)), .val (.int (1 : Int32)), .val (.int (1 : Int32)), .val (.int (1 : Int32))]) rfl (XS.aload X106.here hx rfl (hb hby at_115) rfl rfl (XS.lload X106.here hx rfl (hb hby at_117) rfl kont))))) ?_
            show Go _ _ _ _ _ _ _ (T106.setTop (mkF m 119 #[.val (.int c0), .val (.long s0), .second, .val (.long b1), .second, .val (.long b2), .second, .val (.long x0), .second, .val (.int fl), .val (.int (0 : Int32)), .val (.ref b102), .val (.long b1), .second, .val (.int (1 : Int32)), .val (.int (1 : Int32)), .val (.int (1 : Int32)), .val (.int (1 : Int32))] [(.long x0), (.ref b102)]))
            obtain ⟨cq124, kq124, q124a, q124b, q124c⟩ := isOf hZ rfl E106z
            obtain ⟨_, _, ⟨T124, L124, k124, n124⟩, -, X124, ⟨Lc124, hQ124, l124, y124, z124⟩, st124⟩ := X106.virtualBack hx (y := (⟨"com/example/kyu/kyu/PrefetchWindow", "hasRoomFor", "(J)Z"⟩ : MethodName)) (z := (⟨"com/example/kyu/kyu/PrefetchWindow", "hasRoomFor", "(J)Z"⟩ : MethodName)) hown (mvT hZ (hw _ (List.mem_of_getElem? (i := 22) rfl))) (mvT hZ (hw _ (List.mem_of_getElem? (i := 23) rfl))) (notFace_of_selects (args := #[]) (mvT hZ (hw _ (List.mem_of_getElem? (i := 25) rfl)))) (mvT hZ (hw _ (List.mem_of_getElem? (i := 25) rfl))) (mvT hZ (hw _ (List.mem_of_getElem? (i := 24) rfl))) (by decide) (backOf (W := 0) (rmH l Z a0 hw [] b102 x0 c0 s0 ((0 : Int32) + 1) ((0 : Int64) + b1) T106.heap n0 Z107 E106z F106z_countLimit F106z_sizeLimit F106z_count F106z_size ge_b102) hZ (hw _ (List.mem_of_getElem? (i := 26) rfl)) (hw _ (List.mem_of_getElem? (i := 2) rfl)) (by decide) (by decide)) q124a q124c (g := (mkF m 119 #[.val (.int c0), .val (.long s0), .second, .val (.long b1), .second, .val (.long b2), .second, .val (.long x0), .second, .val (.int fl), .val (.int (0 : Int32)), .val (.ref b102), .val (.long b1), .second, .val (.int (1 : Int32)), .val (.int (1 : Int32)), .val (.int (1 : Int32)), .val (.int (1 : Int32))] [(.long x0), (.ref b102)])) rfl (by rw [hml]; rfl) (Steps.refl _) (argsL := [(.long x0)]) (rest := []) (lenOf pd0_2 rfl) rfl (by show 2 * 0 + _ ≤ _; exact Nat.le_of_eq rfl) (hb hby at_119) (fun _ _ => ⟨rfl, rfl, (by decide : 1 + 0 ≤ _), (by decide : 4 + 0 ≤ _)⟩)
            dsimp only [Pt.U, Pt.locs, Pt.cells, Pt.slots] at X124 l124 y124 z124 st124 hQ124
            subst l124 y124 z124
            obtain ⟨rfl, N124q, eh124⟩ := hQ124
            have N124 := Fr.app N106 N124q
            refine Go.tr st124 ?_
            show Go _ _ _ _ _ _ _ (T124.setTop (mkF m 122 #[.val (.int c0), .val (.long s0), .second, .val (.long b1), .second, .val (.long b2), .second, .val (.long x0), .second, .val (.int fl), .val (.int (0 : Int32)), .val (.ref b102), .val (.long b1), .second, .val (.int (1 : Int32)), .val (.int (1 : Int32)), .val (.int (1 : Int32)), .val (.int (1 : Int32))] [(.int (if own_room x0 c0 s0 ((0 : Int32) + 1) ((0 : Int64) + b1) then 1 else 0))]))
            refine Go.by (fun _ kont => XS.iload X124.here hx rfl (hb hby at_122) rfl kont) ?_
            show Go _ _ _ _ _ _ _ (T124.setTop (mkF m 124 #[.val (.int c0), .val (.long s0), .second, .val (.long b1), .second, .val (.long b2), .second, .val (.long x0), .second, .val (.int fl), .val (.int (0 : Int32)), .val (.ref b102), .val (.long b1), .second, .val (.int (1 : Int32)), .val (.int (1 : Int32)), .val (.int (1 : Int32)), .val (.int (1 : Int32))] [(.int (1 : Int32)), (.int (if own_room x0 c0 s0 ((0 : Int32) + 1) ((0 : Int64) + b1) then 1 else 0))]))
            by_cases hc125 : (if own_room x0 c0 s0 ((0 : Int32) + 1) ((0 : Int64) + b1) then 1 else 0) = (1 : Int32)
            · refine Go.by (fun _ kont => XS.icmpNo X124.here hx rfl (hb hby at_124) rfl (teq hc125).2 kont) ?_
              show Go _ _ _ _ _ _ _ (T124.setTop (mkF m 127 #[.val (.int c0), .val (.long s0), .second, .val (.long b1), .second, .val (.long b2), .second, .val (.long x0), .second, .val (.int fl), .val (.int (0 : Int32)), .val (.ref b102), .val (.long b1), .second, .val (.int (1 : Int32)), .val (.int (1 : Int32)), .val (.int (1 : Int32)), .val (.int (1 : Int32))] []))
              refine Go.by (fun _ kont => XS.iconst X124.here hx rfl (hb hby at_127) (XS.goto X124.here hx rfl (pc0 := 128) (pc' := 132) rfl (hb hby at_128) (by decide) (by decide) kont)) ?_
              show Go _ _ _ _ _ _ _ (T124.setTop (mkF m 132 #[.val (.int c0), .val (.long s0), .second, .val (.long b1), .second, .val (.long b2), .second, .val (.long x0), .second, .val (.int fl), .val (.int (0 : Int32)), .val (.ref b102), .val (.long b1), .second, .val (.int (1 : Int32)), .val (.int (1 : Int32)), .val (.int (1 : Int32)), .val (.int (1 : Int32))] [(.int (1 : Int32))]))
              refine Go.retN X124 hx (t := .boolean) hret (by simp) hlk (hb hby at_132) ?_ (by decide) (by decide)
              show Q0 Z h0 n0 (some (.int (1 : Int32))) T124.heap _
              rw [eh124]
              exact ⟨rfl, N124⟩
            · refine Go.by (fun _ kont => XS.icmpYes X124.here hx rfl (pc0 := 124) (pc' := 131) rfl (hb hby at_124) rfl (feq hc125).2 (by decide) (by decide) kont) ?_
              show Go _ _ _ _ _ _ _ (T124.setTop (mkF m 131 #[.val (.int c0), .val (.long s0), .second, .val (.long b1), .second, .val (.long b2), .second, .val (.long x0), .second, .val (.int fl), .val (.int (0 : Int32)), .val (.ref b102), .val (.long b1), .second, .val (.int (1 : Int32)), .val (.int (1 : Int32)), .val (.int (1 : Int32)), .val (.int (1 : Int32))] []))
              refine Go.by (fun _ kont => XS.iconst X124.here hx rfl (hb hby at_131) kont) ?_
              show Go _ _ _ _ _ _ _ (T124.setTop (mkF m 132 #[.val (.int c0), .val (.long s0), .second, .val (.long b1), .second, .val (.long b2), .second, .val (.long x0), .second, .val (.int fl), .val (.int (0 : Int32)), .val (.ref b102), .val (.long b1), .second, .val (.int (1 : Int32)), .val (.int (1 : Int32)), .val (.int (1 : Int32)), .val (.int (1 : Int32))] [(.int (0 : Int32))]))
              exfalso
              revert hc125
              simp [own_room, hc101, hc108, hc117, hc118, hc121]
      · refine Go.by (fun _ kont => XS.icmpYes X106.here hx rfl (pc0 := 65) (pc' := 72) rfl (hb hby at_65) rfl (flt hc117).2.1 (by decide) (by decide) kont) ?_
        show Go _ _ _ _ _ _ _ (T106.setTop (mkF m 72 #[.val (.int c0), .val (.long s0), .second, .val (.long b1), .second, .val (.long b2), .second, .val (.long x0), .second, .val (.int fl), .val (.int (0 : Int32)), .val (.ref b102), .val (.long b1), .second, .val (.int (1 : Int32)), .unset, .unset, .unset] []))
        refine Go.by (fun _ kont => XS.iconst X106.here hx rfl (hb hby at_72) (XS.istore X106.here hx rfl (hb hby at_73) rfl (l' := #[.val (.int c0), .val (.long s0), .second, .val (.long b1), .second, .val (.long b2), .second, .val (.long x0), .second, .val (.int fl), .val (.int (0 : Int32)), .val (.ref b102), .val (.long b1), .second, .val (.int (1 : Int32)), .val (.int (0 : Int32)), .unset, .unset]) rfl (XS.lloadN X106.here hx rfl (hb hby at_75) rfl (XS.lconst X106.here hx rfl (hb hby at_76) (XS.lcmp X106.here hx rfl (hb hby at_77) rfl kont))))) ?_
        show Go _ _ _ _ _ _ _ (T106.setTop (mkF m 78 #[.val (.int c0), .val (.long s0), .second, .val (.long b1), .second, .val (.long b2), .second, .val (.long x0), .second, .val (.int fl), .val (.int (0 : Int32)), .val (.ref b102), .val (.long b1), .second, .val (.int (1 : Int32)), .val (.int (0 : Int32)), .unset, .unset] [(.int (lcmpW s0 (0 : Int64)))]))
        by_cases hc126 : s0 = (0 : Int64)
        · refine Go.by (fun _ kont => XS.ifYes X106.here hx rfl (pc0 := 78) (pc' := 91) rfl (hb hby at_78) rfl ((if0 _ _).trans (teq ((lw_eq _ _).mpr hc126)).1) (by decide) (by decide) kont) ?_
          show Go _ _ _ _ _ _ _ (T106.setTop (mkF m 91 #[.val (.int c0), .val (.long s0), .second, .val (.long b1), .second, .val (.long b2), .second, .val (.long x0), .second, .val (.int fl), .val (.int (0 : Int32)), .val (.ref b102), .val (.long b1), .second, .val (.int (1 : Int32)), .val (.int (0 : Int32)), .unset, .unset] []))
          refine Go.by (fun _ kont => XS.iconst X106.here hx rfl (hb hby at_91) (XS.goto X106.here hx rfl (pc0 := 92) (pc' := 96) rfl (hb hby at_92) (by decide) (by decide) (XS.istore X106.here hx rfl (hb hby at_96) rfl (l' := #[.val (.int c0), .val (.long s0), .second, .val (.long b1), .second, .val (.long b2), .second, .val (.long x0), .second, .val (.int fl), .val (.int (0 : Int32)), .val (.ref b102), .val (.long b1), .second, .val (.int (1 : Int32)), .val (.int (0 : Int32)), .val (.int (1 : Int32)), .unset]) rfl (XS.iload X106.here hx rfl (hb hby at_98) rfl kont)))) ?_
          show Go _ _ _ _ _ _ _ (T106.setTop (mkF m 100 #[.val (.int c0), .val (.long s0), .second, .val (.long b1), .second, .val (.long b2), .second, .val (.long x0), .second, .val (.int fl), .val (.int (0 : Int32)), .val (.ref b102), .val (.long b1), .second, .val (.int (1 : Int32)), .val (.int (0 : Int32)), .val (.int (1 : Int32)), .unset] [(.int (0 : Int32))]))
          refine Go.by (fun _ kont => XS.ifYes X106.here hx rfl (pc0 := 100) (pc' := 112) rfl (hb hby at_100) rfl (by decide) (by decide) (by decide) kont) ?_
          show Go _ _ _ _ _ _ _ (T106.setTop (mkF m 112 #[.val (.int c0), .val (.long s0), .second, .val (.long b1), .second, .val (.long b2), .second, .val (.long x0), .second, .val (.int fl), .val (.int (0 : Int32)), .val (.ref b102), .val (.long b1), .second, .val (.int (1 : Int32)), .val (.int (0 : Int32)), .val (.int (1 : Int32)), .unset] []))
          refine Go.by (fun _ kont => XS.iconst X106.here hx rfl (hb hby at_112) (XS.istore X106.here hx rfl (hb hby at_113) rfl (l' := #[.val (.int c0), .val (.long s0), .second, .val (.long b1), .second, .val (.long b2), .second, .val (.long x0), .second, .val (.int fl), .val (.int (0 : Int32)), .val (.ref b102), .val (.long b1), .second, .val (.int (1 : Int32)), .val (.int (0 : Int32)), .val (.int (1 : Int32)), .val (.int (0 : Int32))]) rfl (XS.aload X106.here hx rfl (hb hby at_115) rfl rfl (XS.lload X106.here hx rfl (hb hby at_117) rfl kont)))) ?_
          show Go _ _ _ _ _ _ _ (T106.setTop (mkF m 119 #[.val (.int c0), .val (.long s0), .second, .val (.long b1), .second, .val (.long b2), .second, .val (.long x0), .second, .val (.int fl), .val (.int (0 : Int32)), .val (.ref b102), .val (.long b1), .second, .val (.int (1 : Int32)), .val (.int (0 : Int32)), .val (.int (1 : Int32)), .val (.int (0 : Int32))] [(.long x0), (.ref b102)]))
          obtain ⟨cq127, kq127, q127a, q127b, q127c⟩ := isOf hZ rfl E106z
          obtain ⟨_, _, ⟨T127, L127, k127, n127⟩, -, X127, ⟨Lc127, hQ127, l127, y127, z127⟩, st127⟩ := X106.virtualBack hx (y := (⟨"com/example/kyu/kyu/PrefetchWindow", "hasRoomFor", "(J)Z"⟩ : MethodName)) (z := (⟨"com/example/kyu/kyu/PrefetchWindow", "hasRoomFor", "(J)Z"⟩ : MethodName)) hown (mvT hZ (hw _ (List.mem_of_getElem? (i := 22) rfl))) (mvT hZ (hw _ (List.mem_of_getElem? (i := 23) rfl))) (notFace_of_selects (args := #[]) (mvT hZ (hw _ (List.mem_of_getElem? (i := 25) rfl)))) (mvT hZ (hw _ (List.mem_of_getElem? (i := 25) rfl))) (mvT hZ (hw _ (List.mem_of_getElem? (i := 24) rfl))) (by decide) (backOf (W := 0) (rmH l Z a0 hw [] b102 x0 c0 s0 ((0 : Int32) + 1) ((0 : Int64) + b1) T106.heap n0 Z107 E106z F106z_countLimit F106z_sizeLimit F106z_count F106z_size ge_b102) hZ (hw _ (List.mem_of_getElem? (i := 26) rfl)) (hw _ (List.mem_of_getElem? (i := 2) rfl)) (by decide) (by decide)) q127a q127c (g := (mkF m 119 #[.val (.int c0), .val (.long s0), .second, .val (.long b1), .second, .val (.long b2), .second, .val (.long x0), .second, .val (.int fl), .val (.int (0 : Int32)), .val (.ref b102), .val (.long b1), .second, .val (.int (1 : Int32)), .val (.int (0 : Int32)), .val (.int (1 : Int32)), .val (.int (0 : Int32))] [(.long x0), (.ref b102)])) rfl (by rw [hml]; rfl) (Steps.refl _) (argsL := [(.long x0)]) (rest := []) (lenOf pd0_2 rfl) rfl (by show 2 * 0 + _ ≤ _; exact Nat.le_of_eq rfl) (hb hby at_119) (fun _ _ => ⟨rfl, rfl, (by decide : 1 + 0 ≤ _), (by decide : 4 + 0 ≤ _)⟩)
          dsimp only [Pt.U, Pt.locs, Pt.cells, Pt.slots] at X127 l127 y127 z127 st127 hQ127
          subst l127 y127 z127
          obtain ⟨rfl, N127q, eh127⟩ := hQ127
          have N127 := Fr.app N106 N127q
          refine Go.tr st127 ?_
          show Go _ _ _ _ _ _ _ (T127.setTop (mkF m 122 #[.val (.int c0), .val (.long s0), .second, .val (.long b1), .second, .val (.long b2), .second, .val (.long x0), .second, .val (.int fl), .val (.int (0 : Int32)), .val (.ref b102), .val (.long b1), .second, .val (.int (1 : Int32)), .val (.int (0 : Int32)), .val (.int (1 : Int32)), .val (.int (0 : Int32))] [(.int (if own_room x0 c0 s0 ((0 : Int32) + 1) ((0 : Int64) + b1) then 1 else 0))]))
          refine Go.by (fun _ kont => XS.iload X127.here hx rfl (hb hby at_122) rfl kont) ?_
          show Go _ _ _ _ _ _ _ (T127.setTop (mkF m 124 #[.val (.int c0), .val (.long s0), .second, .val (.long b1), .second, .val (.long b2), .second, .val (.long x0), .second, .val (.int fl), .val (.int (0 : Int32)), .val (.ref b102), .val (.long b1), .second, .val (.int (1 : Int32)), .val (.int (0 : Int32)), .val (.int (1 : Int32)), .val (.int (0 : Int32))] [(.int (0 : Int32)), (.int (if own_room x0 c0 s0 ((0 : Int32) + 1) ((0 : Int64) + b1) then 1 else 0))]))
          by_cases hc128 : (if own_room x0 c0 s0 ((0 : Int32) + 1) ((0 : Int64) + b1) then 1 else 0) = (0 : Int32)
          · refine Go.by (fun _ kont => XS.icmpNo X127.here hx rfl (hb hby at_124) rfl (teq hc128).2 kont) ?_
            show Go _ _ _ _ _ _ _ (T127.setTop (mkF m 127 #[.val (.int c0), .val (.long s0), .second, .val (.long b1), .second, .val (.long b2), .second, .val (.long x0), .second, .val (.int fl), .val (.int (0 : Int32)), .val (.ref b102), .val (.long b1), .second, .val (.int (1 : Int32)), .val (.int (0 : Int32)), .val (.int (1 : Int32)), .val (.int (0 : Int32))] []))
            refine Go.by (fun _ kont => XS.iconst X127.here hx rfl (hb hby at_127) (XS.goto X127.here hx rfl (pc0 := 128) (pc' := 132) rfl (hb hby at_128) (by decide) (by decide) kont)) ?_
            show Go _ _ _ _ _ _ _ (T127.setTop (mkF m 132 #[.val (.int c0), .val (.long s0), .second, .val (.long b1), .second, .val (.long b2), .second, .val (.long x0), .second, .val (.int fl), .val (.int (0 : Int32)), .val (.ref b102), .val (.long b1), .second, .val (.int (1 : Int32)), .val (.int (0 : Int32)), .val (.int (1 : Int32)), .val (.int (0 : Int32))] [(.int (1 : Int32))]))
            refine Go.retN X127 hx (t := .boolean) hret (by simp) hlk (hb hby at_132) ?_ (by decide) (by decide)
            show Q0 Z h0 n0 (some (.int (1 : Int32))) T127.heap _
            rw [eh127]
            exact ⟨rfl, N127⟩
          · refine Go.by (fun _ kont => XS.icmpYes X127.here hx rfl (pc0 := 124) (pc' := 131) rfl (hb hby at_124) rfl (feq hc128).2 (by decide) (by decide) kont) ?_
            show Go _ _ _ _ _ _ _ (T127.setTop (mkF m 131 #[.val (.int c0), .val (.long s0), .second, .val (.long b1), .second, .val (.long b2), .second, .val (.long x0), .second, .val (.int fl), .val (.int (0 : Int32)), .val (.ref b102), .val (.long b1), .second, .val (.int (1 : Int32)), .val (.int (0 : Int32)), .val (.int (1 : Int32)), .val (.int (0 : Int32))] []))
            refine Go.by (fun _ kont => XS.iconst X127.here hx rfl (hb hby at_131) kont) ?_
            show Go _ _ _ _ _ _ _ (T127.setTop (mkF m 132 #[.val (.int c0), .val (.long s0), .second, .val (.long b1), .second, .val (.long b2), .second, .val (.long x0), .second, .val (.int fl), .val (.int (0 : Int32)), .val (.ref b102), .val (.long b1), .second, .val (.int (1 : Int32)), .val (.int (0 : Int32)), .val (.int (1 : Int32)), .val (.int (0 : Int32))] [(.int (0 : Int32))]))
            exfalso
            revert hc128
            simp [own_room, hc101, hc108, hc117, hc126]
        · refine Go.by (fun _ kont => XS.ifNo X106.here hx rfl (hb hby at_78) rfl ((if0 _ _).trans (feq (fun z => hc126 ((lw_eq _ _).mp z))).1) kont) ?_
          show Go _ _ _ _ _ _ _ (T106.setTop (mkF m 81 #[.val (.int c0), .val (.long s0), .second, .val (.long b1), .second, .val (.long b2), .second, .val (.long x0), .second, .val (.int fl), .val (.int (0 : Int32)), .val (.ref b102), .val (.long b1), .second, .val (.int (1 : Int32)), .val (.int (0 : Int32)), .unset, .unset] []))
          refine Go.by (fun _ kont => XS.lload X106.here hx rfl (hb hby at_81) rfl (XS.lload X106.here hx rfl (hb hby at_83) rfl (XS.ladd X106.here hx rfl (hb hby at_85) rfl (XS.lloadN X106.here hx rfl (hb hby at_86) rfl (XS.lcmp X106.here hx rfl (hb hby at_87) rfl kont))))) ?_
          show Go _ _ _ _ _ _ _ (T106.setTop (mkF m 88 #[.val (.int c0), .val (.long s0), .second, .val (.long b1), .second, .val (.long b2), .second, .val (.long x0), .second, .val (.int fl), .val (.int (0 : Int32)), .val (.ref b102), .val (.long b1), .second, .val (.int (1 : Int32)), .val (.int (0 : Int32)), .unset, .unset] [(.int (lcmpW (b1 + x0) s0))]))
          by_cases hc129 : s0 < (b1 + x0)
          · refine Go.by (fun _ kont => XS.ifYes X106.here hx rfl (pc0 := 88) (pc' := 95) rfl (hb hby at_88) rfl ((if0 _ _).trans (tlt ((lw_gt _ _).mpr hc129)).2.2.1) (by decide) (by decide) kont) ?_
            show Go _ _ _ _ _ _ _ (T106.setTop (mkF m 95 #[.val (.int c0), .val (.long s0), .second, .val (.long b1), .second, .val (.long b2), .second, .val (.long x0), .second, .val (.int fl), .val (.int (0 : Int32)), .val (.ref b102), .val (.long b1), .second, .val (.int (1 : Int32)), .val (.int (0 : Int32)), .unset, .unset] []))
            refine Go.by (fun _ kont => XS.iconst X106.here hx rfl (hb hby at_95) (XS.istore X106.here hx rfl (hb hby at_96) rfl (l' := #[.val (.int c0), .val (.long s0), .second, .val (.long b1), .second, .val (.long b2), .second, .val (.long x0), .second, .val (.int fl), .val (.int (0 : Int32)), .val (.ref b102), .val (.long b1), .second, .val (.int (1 : Int32)), .val (.int (0 : Int32)), .val (.int (0 : Int32)), .unset]) rfl (XS.iload X106.here hx rfl (hb hby at_98) rfl kont))) ?_
            show Go _ _ _ _ _ _ _ (T106.setTop (mkF m 100 #[.val (.int c0), .val (.long s0), .second, .val (.long b1), .second, .val (.long b2), .second, .val (.long x0), .second, .val (.int fl), .val (.int (0 : Int32)), .val (.ref b102), .val (.long b1), .second, .val (.int (1 : Int32)), .val (.int (0 : Int32)), .val (.int (0 : Int32)), .unset] [(.int (0 : Int32))]))
            refine Go.by (fun _ kont => XS.ifYes X106.here hx rfl (pc0 := 100) (pc' := 112) rfl (hb hby at_100) rfl (by decide) (by decide) (by decide) kont) ?_
            show Go _ _ _ _ _ _ _ (T106.setTop (mkF m 112 #[.val (.int c0), .val (.long s0), .second, .val (.long b1), .second, .val (.long b2), .second, .val (.long x0), .second, .val (.int fl), .val (.int (0 : Int32)), .val (.ref b102), .val (.long b1), .second, .val (.int (1 : Int32)), .val (.int (0 : Int32)), .val (.int (0 : Int32)), .unset] []))
            refine Go.by (fun _ kont => XS.iconst X106.here hx rfl (hb hby at_112) (XS.istore X106.here hx rfl (hb hby at_113) rfl (l' := #[.val (.int c0), .val (.long s0), .second, .val (.long b1), .second, .val (.long b2), .second, .val (.long x0), .second, .val (.int fl), .val (.int (0 : Int32)), .val (.ref b102), .val (.long b1), .second, .val (.int (1 : Int32)), .val (.int (0 : Int32)), .val (.int (0 : Int32)), .val (.int (0 : Int32))]) rfl (XS.aload X106.here hx rfl (hb hby at_115) rfl rfl (XS.lload X106.here hx rfl (hb hby at_117) rfl kont)))) ?_
            show Go _ _ _ _ _ _ _ (T106.setTop (mkF m 119 #[.val (.int c0), .val (.long s0), .second, .val (.long b1), .second, .val (.long b2), .second, .val (.long x0), .second, .val (.int fl), .val (.int (0 : Int32)), .val (.ref b102), .val (.long b1), .second, .val (.int (1 : Int32)), .val (.int (0 : Int32)), .val (.int (0 : Int32)), .val (.int (0 : Int32))] [(.long x0), (.ref b102)]))
            obtain ⟨cq130, kq130, q130a, q130b, q130c⟩ := isOf hZ rfl E106z
            obtain ⟨_, _, ⟨T130, L130, k130, n130⟩, -, X130, ⟨Lc130, hQ130, l130, y130, z130⟩, st130⟩ := X106.virtualBack hx (y := (⟨"com/example/kyu/kyu/PrefetchWindow", "hasRoomFor", "(J)Z"⟩ : MethodName)) (z := (⟨"com/example/kyu/kyu/PrefetchWindow", "hasRoomFor", "(J)Z"⟩ : MethodName)) hown (mvT hZ (hw _ (List.mem_of_getElem? (i := 22) rfl))) (mvT hZ (hw _ (List.mem_of_getElem? (i := 23) rfl))) (notFace_of_selects (args := #[]) (mvT hZ (hw _ (List.mem_of_getElem? (i := 25) rfl)))) (mvT hZ (hw _ (List.mem_of_getElem? (i := 25) rfl))) (mvT hZ (hw _ (List.mem_of_getElem? (i := 24) rfl))) (by decide) (backOf (W := 0) (rmH l Z a0 hw [] b102 x0 c0 s0 ((0 : Int32) + 1) ((0 : Int64) + b1) T106.heap n0 Z107 E106z F106z_countLimit F106z_sizeLimit F106z_count F106z_size ge_b102) hZ (hw _ (List.mem_of_getElem? (i := 26) rfl)) (hw _ (List.mem_of_getElem? (i := 2) rfl)) (by decide) (by decide)) q130a q130c (g := (mkF m 119 #[.val (.int c0), .val (.long s0), .second, .val (.long b1), .second, .val (.long b2), .second, .val (.long x0), .second, .val (.int fl), .val (.int (0 : Int32)), .val (.ref b102), .val (.long b1), .second, .val (.int (1 : Int32)), .val (.int (0 : Int32)), .val (.int (0 : Int32)), .val (.int (0 : Int32))] [(.long x0), (.ref b102)])) rfl (by rw [hml]; rfl) (Steps.refl _) (argsL := [(.long x0)]) (rest := []) (lenOf pd0_2 rfl) rfl (by show 2 * 0 + _ ≤ _; exact Nat.le_of_eq rfl) (hb hby at_119) (fun _ _ => ⟨rfl, rfl, (by decide : 1 + 0 ≤ _), (by decide : 4 + 0 ≤ _)⟩)
            dsimp only [Pt.U, Pt.locs, Pt.cells, Pt.slots] at X130 l130 y130 z130 st130 hQ130
            subst l130 y130 z130
            obtain ⟨rfl, N130q, eh130⟩ := hQ130
            have N130 := Fr.app N106 N130q
            refine Go.tr st130 ?_
            show Go _ _ _ _ _ _ _ (T130.setTop (mkF m 122 #[.val (.int c0), .val (.long s0), .second, .val (.long b1), .second, .val (.long b2), .second, .val (.long x0), .second, .val (.int fl), .val (.int (0 : Int32)), .val (.ref b102), .val (.long b1), .second, .val (.int (1 : Int32)), .val (.int (0 : Int32)), .val (.int (0 : Int32)), .val (.int (0 : Int32))] [(.int (if own_room x0 c0 s0 ((0 : Int32) + 1) ((0 : Int64) + b1) then 1 else 0))]))
            refine Go.by (fun _ kont => XS.iload X130.here hx rfl (hb hby at_122) rfl kont) ?_
            show Go _ _ _ _ _ _ _ (T130.setTop (mkF m 124 #[.val (.int c0), .val (.long s0), .second, .val (.long b1), .second, .val (.long b2), .second, .val (.long x0), .second, .val (.int fl), .val (.int (0 : Int32)), .val (.ref b102), .val (.long b1), .second, .val (.int (1 : Int32)), .val (.int (0 : Int32)), .val (.int (0 : Int32)), .val (.int (0 : Int32))] [(.int (0 : Int32)), (.int (if own_room x0 c0 s0 ((0 : Int32) + 1) ((0 : Int64) + b1) then 1 else 0))]))
            by_cases hc131 : (if own_room x0 c0 s0 ((0 : Int32) + 1) ((0 : Int64) + b1) then 1 else 0) = (0 : Int32)
            · refine Go.by (fun _ kont => XS.icmpNo X130.here hx rfl (hb hby at_124) rfl (teq hc131).2 kont) ?_
              show Go _ _ _ _ _ _ _ (T130.setTop (mkF m 127 #[.val (.int c0), .val (.long s0), .second, .val (.long b1), .second, .val (.long b2), .second, .val (.long x0), .second, .val (.int fl), .val (.int (0 : Int32)), .val (.ref b102), .val (.long b1), .second, .val (.int (1 : Int32)), .val (.int (0 : Int32)), .val (.int (0 : Int32)), .val (.int (0 : Int32))] []))
              refine Go.by (fun _ kont => XS.iconst X130.here hx rfl (hb hby at_127) (XS.goto X130.here hx rfl (pc0 := 128) (pc' := 132) rfl (hb hby at_128) (by decide) (by decide) kont)) ?_
              show Go _ _ _ _ _ _ _ (T130.setTop (mkF m 132 #[.val (.int c0), .val (.long s0), .second, .val (.long b1), .second, .val (.long b2), .second, .val (.long x0), .second, .val (.int fl), .val (.int (0 : Int32)), .val (.ref b102), .val (.long b1), .second, .val (.int (1 : Int32)), .val (.int (0 : Int32)), .val (.int (0 : Int32)), .val (.int (0 : Int32))] [(.int (1 : Int32))]))
              refine Go.retN X130 hx (t := .boolean) hret (by simp) hlk (hb hby at_132) ?_ (by decide) (by decide)
              show Q0 Z h0 n0 (some (.int (1 : Int32))) T130.heap _
              rw [eh130]
              exact ⟨rfl, N130⟩
            · refine Go.by (fun _ kont => XS.icmpYes X130.here hx rfl (pc0 := 124) (pc' := 131) rfl (hb hby at_124) rfl (feq hc131).2 (by decide) (by decide) kont) ?_
              show Go _ _ _ _ _ _ _ (T130.setTop (mkF m 131 #[.val (.int c0), .val (.long s0), .second, .val (.long b1), .second, .val (.long b2), .second, .val (.long x0), .second, .val (.int fl), .val (.int (0 : Int32)), .val (.ref b102), .val (.long b1), .second, .val (.int (1 : Int32)), .val (.int (0 : Int32)), .val (.int (0 : Int32)), .val (.int (0 : Int32))] []))
              refine Go.by (fun _ kont => XS.iconst X130.here hx rfl (hb hby at_131) kont) ?_
              show Go _ _ _ _ _ _ _ (T130.setTop (mkF m 132 #[.val (.int c0), .val (.long s0), .second, .val (.long b1), .second, .val (.long b2), .second, .val (.long x0), .second, .val (.int fl), .val (.int (0 : Int32)), .val (.ref b102), .val (.long b1), .second, .val (.int (1 : Int32)), .val (.int (0 : Int32)), .val (.int (0 : Int32)), .val (.int (0 : Int32))] [(.int (0 : Int32))]))
              exfalso
              revert hc131
              simp [own_room, hc101, hc108, hc117, hc126, hc129]
          · refine Go.by (fun _ kont => XS.ifNo X106.here hx rfl (hb hby at_88) rfl ((if0 _ _).trans (flt (fun z => hc129 ((lw_gt _ _).mp z))).2.2.1) kont) ?_
            show Go _ _ _ _ _ _ _ (T106.setTop (mkF m 91 #[.val (.int c0), .val (.long s0), .second, .val (.long b1), .second, .val (.long b2), .second, .val (.long x0), .second, .val (.int fl), .val (.int (0 : Int32)), .val (.ref b102), .val (.long b1), .second, .val (.int (1 : Int32)), .val (.int (0 : Int32)), .unset, .unset] []))
            refine Go.by (fun _ kont => XS.iconst X106.here hx rfl (hb hby at_91) (XS.goto X106.here hx rfl (pc0 := 92) (pc' := 96) rfl (hb hby at_92) (by decide) (by decide) (XS.istore X106.here hx rfl (hb hby at_96) rfl (l' := #[.val (.int c0), .val (.long s0), .second, .val (.long b1), .second, .val (.long b2), .second, .val (.long x0), .second, .val (.int fl), .val (.int (0 : Int32)), .val (.ref b102), .val (.long b1), .second, .val (.int (1 : Int32)), .val (.int (0 : Int32)), .val (.int (1 : Int32)), .unset]) rfl (XS.iload X106.here hx rfl (hb hby at_98) rfl kont)))) ?_
            show Go _ _ _ _ _ _ _ (T106.setTop (mkF m 100 #[.val (.int c0), .val (.long s0), .second, .val (.long b1), .second, .val (.long b2), .second, .val (.long x0), .second, .val (.int fl), .val (.int (0 : Int32)), .val (.ref b102), .val (.long b1), .second, .val (.int (1 : Int32)), .val (.int (0 : Int32)), .val (.int (1 : Int32)), .unset] [(.int (0 : Int32))]))
            refine Go.by (fun _ kont => XS.ifYes X106.here hx rfl (pc0 := 100) (pc' := 112) rfl (hb hby at_100) rfl (by decide) (by decide) (by decide) kont) ?_
            show Go _ _ _ _ _ _ _ (T106.setTop (mkF m 112 #[.val (.int c0), .val (.long s0), .second, .val (.long b1), .second, .val (.long b2), .second, .val (.long x0), .second, .val (.int fl), .val (.int (0 : Int32)), .val (.ref b102), .val (.long b1), .second, .val (.int (1 : Int32)), .val (.int (0 : Int32)), .val (.int (1 : Int32)), .unset] []))
            refine Go.by (fun _ kont => XS.iconst X106.here hx rfl (hb hby at_112) (XS.istore X106.here hx rfl (hb hby at_113) rfl (l' := #[.val (.int c0), .val (.long s0), .second, .val (.long b1), .second, .val (.long b2), .second, .val (.long x0), .second, .val (.int fl), .val (.int (0 : Int32)), .val (.ref b102), .val (.long b1), .second, .val (.int (1 : Int32)), .val (.int (0 : Int32)), .val (.int (1 : Int32)), .val (.int (0 : Int32))]) rfl (XS.aload X106.here hx rfl (hb hby at_115) rfl rfl (XS.lload X106.here hx rfl (hb hby at_117) rfl kont)))) ?_
            show Go _ _ _ _ _ _ _ (T106.setTop (mkF m 119 #[.val (.int c0), .val (.long s0), .second, .val (.long b1), .second, .val (.long b2), .second, .val (.long x0), .second, .val (.int fl), .val (.int (0 : Int32)), .val (.ref b102), .val (.long b1), .second, .val (.int (1 : Int32)), .val (.int (0 : Int32)), .val (.int (1 : Int32)), .val (.int (0 : Int32))] [(.long x0), (.ref b102)]))
            obtain ⟨cq132, kq132, q132a, q132b, q132c⟩ := isOf hZ rfl E106z
            obtain ⟨_, _, ⟨T132, L132, k132, n132⟩, -, X132, ⟨Lc132, hQ132, l132, y132, z132⟩, st132⟩ := X106.virtualBack hx (y := (⟨"com/example/kyu/kyu/PrefetchWindow", "hasRoomFor", "(J)Z"⟩ : MethodName)) (z := (⟨"com/example/kyu/kyu/PrefetchWindow", "hasRoomFor", "(J)Z"⟩ : MethodName)) hown (mvT hZ (hw _ (List.mem_of_getElem? (i := 22) rfl))) (mvT hZ (hw _ (List.mem_of_getElem? (i := 23) rfl))) (notFace_of_selects (args := #[]) (mvT hZ (hw _ (List.mem_of_getElem? (i := 25) rfl)))) (mvT hZ (hw _ (List.mem_of_getElem? (i := 25) rfl))) (mvT hZ (hw _ (List.mem_of_getElem? (i := 24) rfl))) (by decide) (backOf (W := 0) (rmH l Z a0 hw [] b102 x0 c0 s0 ((0 : Int32) + 1) ((0 : Int64) + b1) T106.heap n0 Z107 E106z F106z_countLimit F106z_sizeLimit F106z_count F106z_size ge_b102) hZ (hw _ (List.mem_of_getElem? (i := 26) rfl)) (hw _ (List.mem_of_getElem? (i := 2) rfl)) (by decide) (by decide)) q132a q132c (g := (mkF m 119 #[.val (.int c0), .val (.long s0), .second, .val (.long b1), .second, .val (.long b2), .second, .val (.long x0), .second, .val (.int fl), .val (.int (0 : Int32)), .val (.ref b102), .val (.long b1), .second, .val (.int (1 : Int32)), .val (.int (0 : Int32)), .val (.int (1 : Int32)), .val (.int (0 : Int32))] [(.long x0), (.ref b102)])) rfl (by rw [hml]; rfl) (Steps.refl _) (argsL := [(.long x0)]) (rest := []) (lenOf pd0_2 rfl) rfl (by show 2 * 0 + _ ≤ _; exact Nat.le_of_eq rfl) (hb hby at_119) (fun _ _ => ⟨rfl, rfl, (by decide : 1 + 0 ≤ _), (by decide : 4 + 0 ≤ _)⟩)
            dsimp only [Pt.U, Pt.locs, Pt.cells, Pt.slots] at X132 l132 y132 z132 st132 hQ132
            subst l132 y132 z132
            obtain ⟨rfl, N132q, eh132⟩ := hQ132
            have N132 := Fr.app N106 N132q
            refine Go.tr st132 ?_
            show Go _ _ _ _ _ _ _ (T132.setTop (mkF m 122 #[.val (.int c0), .val (.long s0), .second, .val (.long b1), .second, .val (.long b2), .second, .val (.long x0), .second, .val (.int fl), .val (.int (0 : Int32)), .val (.ref b102), .val (.long b1), .second, .val (.int (1 : Int32)), .val (.int (0 : Int32)), .val (.int (1 : Int32)), .val (.int (0 : Int32))] [(.int (if own_room x0 c0 s0 ((0 : Int32) + 1) ((0 : Int64) + b1) then 1 else 0))]))
            refine Go.by (fun _ kont => XS.iload X132.here hx rfl (hb hby at_122) rfl kont) ?_
            show Go _ _ _ _ _ _ _ (T132.setTop (mkF m 124 #[.val (.int c0), .val (.long s0), .second, .val (.long b1), .second, .val (.long b2), .second, .val (.long x0), .second, .val (.int fl), .val (.int (0 : Int32)), .val (.ref b102), .val (.long b1), .second, .val (.int (1 : Int32)), .val (.int (0 : Int32)), .val (.int (1 : Int32)), .val (.int (0 : Int32))] [(.int (0 : Int32)), (.int (if own_room x0 c0 s0 ((0 : Int32) + 1) ((0 : Int64) + b1) then 1 else 0))]))
            by_cases hc133 : (if own_room x0 c0 s0 ((0 : Int32) + 1) ((0 : Int64) + b1) then 1 else 0) = (0 : Int32)
            · refine Go.by (fun _ kont => XS.icmpNo X132.here hx rfl (hb hby at_124) rfl (teq hc133).2 kont) ?_
              show Go _ _ _ _ _ _ _ (T132.setTop (mkF m 127 #[.val (.int c0), .val (.long s0), .second, .val (.long b1), .second, .val (.long b2), .second, .val (.long x0), .second, .val (.int fl), .val (.int (0 : Int32)), .val (.ref b102), .val (.long b1), .second, .val (.int (1 : Int32)), .val (.int (0 : Int32)), .val (.int (1 : Int32)), .val (.int (0 : Int32))] []))
              refine Go.by (fun _ kont => XS.iconst X132.here hx rfl (hb hby at_127) (XS.goto X132.here hx rfl (pc0 := 128) (pc' := 132) rfl (hb hby at_128) (by decide) (by decide) kont)) ?_
              show Go _ _ _ _ _ _ _ (T132.setTop (mkF m 132 #[.val (.int c0), .val (.long s0), .second, .val (.long b1), .second, .val (.long b2), .second, .val (.long x0), .second, .val (.int fl), .val (.int (0 : Int32)), .val (.ref b102), .val (.long b1), .second, .val (.int (1 : Int32)), .val (.int (0 : Int32)), .val (.int (1 : Int32)), .val (.int (0 : Int32))] [(.int (1 : Int32))]))
              refine Go.retN X132 hx (t := .boolean) hret (by simp) hlk (hb hby at_132) ?_ (by decide) (by decide)
              show Q0 Z h0 n0 (some (.int (1 : Int32))) T132.heap _
              rw [eh132]
              exact ⟨rfl, N132⟩
            · refine Go.by (fun _ kont => XS.icmpYes X132.here hx rfl (pc0 := 124) (pc' := 131) rfl (hb hby at_124) rfl (feq hc133).2 (by decide) (by decide) kont) ?_
              show Go _ _ _ _ _ _ _ (T132.setTop (mkF m 131 #[.val (.int c0), .val (.long s0), .second, .val (.long b1), .second, .val (.long b2), .second, .val (.long x0), .second, .val (.int fl), .val (.int (0 : Int32)), .val (.ref b102), .val (.long b1), .second, .val (.int (1 : Int32)), .val (.int (0 : Int32)), .val (.int (1 : Int32)), .val (.int (0 : Int32))] []))
              refine Go.by (fun _ kont => XS.iconst X132.here hx rfl (hb hby at_131) kont) ?_
              show Go _ _ _ _ _ _ _ (T132.setTop (mkF m 132 #[.val (.int c0), .val (.long s0), .second, .val (.long b1), .second, .val (.long b2), .second, .val (.long x0), .second, .val (.int fl), .val (.int (0 : Int32)), .val (.ref b102), .val (.long b1), .second, .val (.int (1 : Int32)), .val (.int (0 : Int32)), .val (.int (1 : Int32)), .val (.int (0 : Int32))] [(.int (0 : Int32))]))
              exfalso
              revert hc133
              simp [own_room, hc101, hc108, hc117, hc126, hc129]
  · refine Go.by (fun _ kont => XS.ifNo X0.here hx rfl (hb hby at_4) rfl ((if0 _ _).trans (feq hc101).1) kont) ?_
    show Go _ _ _ _ _ _ _ (s₁.setTop (mkF m 7 #[.val (.int c0), .val (.long s0), .second, .val (.long b1), .second, .val (.long b2), .second, .val (.long x0), .second, .val (.int fl), .unset, .unset, .unset, .unset, .unset, .unset, .unset, .unset] []))
    refine Go.by (fun _ kont => XS.iconst X0.here hx rfl (hb hby at_7) (XS.goto X0.here hx rfl (pc0 := 8) (pc' := 12) rfl (hb hby at_8) (by decide) (by decide) (XS.istore X0.here hx rfl (hb hby at_12) rfl (l' := #[.val (.int c0), .val (.long s0), .second, .val (.long b1), .second, .val (.long b2), .second, .val (.long x0), .second, .val (.int fl), .val (.int (1 : Int32)), .unset, .unset, .unset, .unset, .unset, .unset, .unset]) rfl kont))) ?_
    show Go _ _ _ _ _ _ _ (s₁.setTop (mkF m 14 #[.val (.int c0), .val (.long s0), .second, .val (.long b1), .second, .val (.long b2), .second, .val (.long x0), .second, .val (.int fl), .val (.int (1 : Int32)), .unset, .unset, .unset, .unset, .unset, .unset, .unset] []))
    obtain ⟨T134, h134, X134, e134, X_134, A134, D134, -, st134⟩ := newO X0 hx hZ hown (hw _ (List.mem_of_getElem? (i := 0) rfl)) (hw _ (List.mem_of_getElem? (i := 1) rfl)) (hw _ (List.mem_of_getElem? (i := 2) rfl)) e0 (g := (mkF m 14 #[.val (.int c0), .val (.long s0), .second, .val (.long b1), .second, .val (.long b2), .second, .val (.long x0), .second, .val (.int fl), .val (.int (1 : Int32)), .unset, .unset, .unset, .unset, .unset, .unset, .unset] [])) rfl (hb hby at_14) (by decide) (by decide)
    obtain ⟨b134, g134⟩ : ∃ z, z = h0.size := ⟨_, rfl⟩
    rw [← g134] at A134 D134 st134
    have ge_b134 : n0 ≤ b134 := Nat.le_trans Z0 (Nat.le_of_eq g134.symm)
    have sz_b134 : h0.size ≤ b134 := Nat.le_trans (Keep.refl h0 []).1 (Nat.le_of_eq g134.symm)
    have Z135 := Nat.le_trans Z0 X_134.1
    have K135 : Keep h0 h134 [] := (Keep.refl h0 []).ext X_134
    have F134_countLimit : Fld Z h134 b134 "com/example/kyu/kyu/PrefetchWindow" "countLimit" "I" (.int (0 : Int32)) := D134 (Or.inl (hw _ (List.mem_of_getElem? (i := 10) rfl))) (ty := .int) (by decide)
    have F134_sizeLimit : Fld Z h134 b134 "com/example/kyu/kyu/PrefetchWindow" "sizeLimit" "J" (.long (0 : Int64)) := D134 (Or.inl (hw _ (List.mem_of_getElem? (i := 12) rfl))) (ty := .long) (by decide)
    have F134_count : Fld Z h134 b134 "com/example/kyu/kyu/PrefetchWindow" "count" "I" (.int (0 : Int32)) := D134 (Or.inl (hw _ (List.mem_of_getElem? (i := 19) rfl))) (ty := .int) (by decide)
    have F134_size : Fld Z h134 b134 "com/example/kyu/kyu/PrefetchWindow" "size" "J" (.long (0 : Int64)) := D134 (Or.inl (hw _ (List.mem_of_getElem? (i := 21) rfl))) (ty := .long) (by decide)
    refine Go.by st134 ?_
    show Go _ _ _ _ _ _ _ (T134.setTop (mkF m 17 #[.val (.int c0), .val (.long s0), .second, .val (.long b1), .second, .val (.long b2), .second, .val (.long x0), .second, .val (.int fl), .val (.int (1 : Int32)), .unset, .unset, .unset, .unset, .unset, .unset, .unset] [(.ref b134)]))
    refine Go.by (fun _ kont => XS.dup X134.here hx rfl (hb hby at_17) rfl rfl (XS.iloadN X134.here hx rfl (hb hby at_18) rfl (XS.lloadN X134.here hx rfl (hb hby at_19) rfl kont))) ?_
    show Go _ _ _ _ _ _ _ (T134.setTop (mkF m 20 #[.val (.int c0), .val (.long s0), .second, .val (.long b1), .second, .val (.long b2), .second, .val (.long x0), .second, .val (.int fl), .val (.int (1 : Int32)), .unset, .unset, .unset, .unset, .unset, .unset, .unset] [(.long s0), (.int c0), (.ref b134), (.ref b134)]))
    obtain ⟨_, _, ⟨T136, L136, k136, n136⟩, -, X136, ⟨Lc136, hQ136, l136, y136, z136⟩, st136⟩ := X134.specialBack hx (y := (⟨"com/example/kyu/kyu/PrefetchWindow", "<init>", "(IJ)V"⟩ : MethodName)) rfl hown (mvT hZ (hw _ (List.mem_of_getElem? (i := 3) rfl))) (mvT hZ (hw _ (List.mem_of_getElem? (i := 4) rfl))) (mvT hZ (hw _ (List.mem_of_getElem? (i := 5) rfl))) (by decide) (backOf (W := 1) (rmI l Z a0 hw [] b134 c0 s0 h134 n0 Z135 A134 F134_countLimit F134_sizeLimit F134_count F134_size ge_b134) hZ (hw _ (List.mem_of_getElem? (i := 5) rfl)) (hw _ (List.mem_of_getElem? (i := 2) rfl)) (by decide) (by decide)) (g := (mkF m 20 #[.val (.int c0), .val (.long s0), .second, .val (.long b1), .second, .val (.long b2), .second, .val (.long x0), .second, .val (.int fl), .val (.int (1 : Int32)), .unset, .unset, .unset, .unset, .unset, .unset, .unset] [(.long s0), (.int c0), (.ref b134), (.ref b134)])) rfl (by rw [hml]; rfl) (Steps.refl _) (a := b134) (argsL := [(.int c0), (.long s0)]) (rest := [(.ref b134)]) (lenOf pd0_0 rfl) rfl (by show 2 * 0 + _ ≤ _; exact Nat.le_of_eq rfl) (hb hby at_20) (fun _ _ => ⟨rfl, e134, (by decide : 1 + 0 ≤ _), (by decide : 4 + 0 ≤ _)⟩)
    dsimp only [Pt.U, Pt.locs, Pt.cells, Pt.slots] at X136 l136 y136 z136 st136 hQ136
    subst l136 y136 z136
    obtain ⟨rfl, N136q, K136, E136z, F136z_countLimit, F136z_sizeLimit, F136z_count, F136z_size⟩ := hQ136
    have E137_b134 := A134.keep K136
    have Z137 := Nat.le_trans Z135 K136.1
    have K137 : Keep h0 T136.heap [] := Keep.trans K135 K136 (allS (Or.inr sz_b134) all0)
    have N136 := Fr.app N0 N136q
    refine Go.tr st136 ?_
    show Go _ _ _ _ _ _ _ (T136.setTop (mkF m 23 #[.val (.int c0), .val (.long s0), .second, .val (.long b1), .second, .val (.long b2), .second, .val (.long x0), .second, .val (.int fl), .val (.int (1 : Int32)), .unset, .unset, .unset, .unset, .unset, .unset, .unset] [(.ref b134)]))
    refine Go.by (fun _ kont => XS.astore X136.here hx rfl (hb hby at_23) rfl rfl (l' := #[.val (.int c0), .val (.long s0), .second, .val (.long b1), .second, .val (.long b2), .second, .val (.long x0), .second, .val (.int fl), .val (.int (1 : Int32)), .val (.ref b134), .unset, .unset, .unset, .unset, .unset, .unset]) rfl (XS.aload X136.here hx rfl (hb hby at_25) rfl rfl (XS.lloadN X136.here hx rfl (hb hby at_27) rfl kont))) ?_
    show Go _ _ _ _ _ _ _ (T136.setTop (mkF m 28 #[.val (.int c0), .val (.long s0), .second, .val (.long b1), .second, .val (.long b2), .second, .val (.long x0), .second, .val (.int fl), .val (.int (1 : Int32)), .val (.ref b134), .unset, .unset, .unset, .unset, .unset, .unset] [(.long b1), (.ref b134)]))
    obtain ⟨cq138, kq138, q138a, q138b, q138c⟩ := isOf hZ rfl E136z
    obtain ⟨_, _, ⟨T138, L138, k138, n138⟩, -, X138, ⟨Lc138, hQ138, l138, y138, z138⟩, st138⟩ := X136.virtualBack hx (y := (⟨"com/example/kyu/kyu/PrefetchWindow", "add", "(J)V"⟩ : MethodName)) (z := (⟨"com/example/kyu/kyu/PrefetchWindow", "add", "(J)V"⟩ : MethodName)) hown (mvT hZ (hw _ (List.mem_of_getElem? (i := 13) rfl))) (mvT hZ (hw _ (List.mem_of_getElem? (i := 14) rfl))) (notFace_of_selects (args := #[]) (mvT hZ (hw _ (List.mem_of_getElem? (i := 16) rfl)))) (mvT hZ (hw _ (List.mem_of_getElem? (i := 16) rfl))) (mvT hZ (hw _ (List.mem_of_getElem? (i := 15) rfl))) (by decide) (backOf (W := 0) (rmA l Z a0 hw [] b134 b1 c0 s0 (0 : Int32) (0 : Int64) T136.heap n0 Z137 E136z F136z_countLimit F136z_sizeLimit F136z_count F136z_size ge_b134) hZ (hw _ (List.mem_of_getElem? (i := 17) rfl)) (hw _ (List.mem_of_getElem? (i := 2) rfl)) (by decide) (by decide)) q138a q138c (g := (mkF m 28 #[.val (.int c0), .val (.long s0), .second, .val (.long b1), .second, .val (.long b2), .second, .val (.long x0), .second, .val (.int fl), .val (.int (1 : Int32)), .val (.ref b134), .unset, .unset, .unset, .unset, .unset, .unset] [(.long b1), (.ref b134)])) rfl (by rw [hml]; rfl) (Steps.refl _) (argsL := [(.long b1)]) (rest := []) (lenOf pd0_1 rfl) rfl (by show 2 * 0 + _ ≤ _; exact Nat.le_of_eq rfl) (hb hby at_28) (fun _ _ => ⟨rfl, rfl, (by decide : 1 + 0 ≤ _), (by decide : 4 + 0 ≤ _)⟩)
    dsimp only [Pt.U, Pt.locs, Pt.cells, Pt.slots] at X138 l138 y138 z138 st138 hQ138
    subst l138 y138 z138
    obtain ⟨rfl, N138q, K138, E138z, F138z_countLimit, F138z_sizeLimit, F138z_count, F138z_size⟩ := hQ138
    have E139_b134 := E136z.keep K138
    have Z139 := Nat.le_trans Z137 K138.1
    have K139 : Keep h0 T138.heap [] := Keep.trans K137 K138 (allS (Or.inr sz_b134) all0)
    have N138 := Fr.app N136 N138q
    refine Go.tr st138 ?_
    show Go _ _ _ _ _ _ _ (T138.setTop (mkF m 31 #[.val (.int c0), .val (.long s0), .second, .val (.long b1), .second, .val (.long b2), .second, .val (.long x0), .second, .val (.int fl), .val (.int (1 : Int32)), .val (.ref b134), .unset, .unset, .unset, .unset, .unset, .unset] []))
    refine Go.by (fun _ kont => XS.lloadN X138.here hx rfl (hb hby at_31) rfl (XS.lstore X138.here hx rfl (hb hby at_32) rfl (l' := #[.val (.int c0), .val (.long s0), .second, .val (.long b1), .second, .val (.long b2), .second, .val (.long x0), .second, .val (.int fl), .val (.int (1 : Int32)), .val (.ref b134), .val (.long b1), .second, .unset, .unset, .unset, .unset]) rfl (XS.iconst X138.here hx rfl (hb hby at_34) (XS.istore X138.here hx rfl (hb hby at_35) rfl (l' := #[.val (.int c0), .val (.long s0), .second, .val (.long b1), .second, .val (.long b2), .second, .val (.long x0), .second, .val (.int fl), .val (.int (1 : Int32)), .val (.ref b134), .val (.long b1), .second, .val (.int (1 : Int32)), .unset, .unset, .unset]) rfl (XS.iload X138.here hx rfl (hb hby at_37) rfl kont))))) ?_
    show Go _ _ _ _ _ _ _ (T138.setTop (mkF m 39 #[.val (.int c0), .val (.long s0), .second, .val (.long b1), .second, .val (.long b2), .second, .val (.long x0), .second, .val (.int fl), .val (.int (1 : Int32)), .val (.ref b134), .val (.long b1), .second, .val (.int (1 : Int32)), .unset, .unset, .unset] [(.int (1 : Int32))]))
    refine Go.by (fun _ kont => XS.ifNo X138.here hx rfl (hb hby at_39) rfl (by decide) kont) ?_
    show Go _ _ _ _ _ _ _ (T138.setTop (mkF m 42 #[.val (.int c0), .val (.long s0), .second, .val (.long b1), .second, .val (.long b2), .second, .val (.long x0), .second, .val (.int fl), .val (.int (1 : Int32)), .val (.ref b134), .val (.long b1), .second, .val (.int (1 : Int32)), .unset, .unset, .unset] []))
    refine Go.by (fun _ kont => XS.aload X138.here hx rfl (hb hby at_42) rfl rfl (XS.lload X138.here hx rfl (hb hby at_44) rfl kont)) ?_
    show Go _ _ _ _ _ _ _ (T138.setTop (mkF m 46 #[.val (.int c0), .val (.long s0), .second, .val (.long b1), .second, .val (.long b2), .second, .val (.long x0), .second, .val (.int fl), .val (.int (1 : Int32)), .val (.ref b134), .val (.long b1), .second, .val (.int (1 : Int32)), .unset, .unset, .unset] [(.long b2), (.ref b134)]))
    obtain ⟨cq140, kq140, q140a, q140b, q140c⟩ := isOf hZ rfl E138z
    obtain ⟨_, _, ⟨T140, L140, k140, n140⟩, -, X140, ⟨Lc140, hQ140, l140, y140, z140⟩, st140⟩ := X138.virtualBack hx (y := (⟨"com/example/kyu/kyu/PrefetchWindow", "add", "(J)V"⟩ : MethodName)) (z := (⟨"com/example/kyu/kyu/PrefetchWindow", "add", "(J)V"⟩ : MethodName)) hown (mvT hZ (hw _ (List.mem_of_getElem? (i := 13) rfl))) (mvT hZ (hw _ (List.mem_of_getElem? (i := 14) rfl))) (notFace_of_selects (args := #[]) (mvT hZ (hw _ (List.mem_of_getElem? (i := 16) rfl)))) (mvT hZ (hw _ (List.mem_of_getElem? (i := 16) rfl))) (mvT hZ (hw _ (List.mem_of_getElem? (i := 15) rfl))) (by decide) (backOf (W := 0) (rmA l Z a0 hw [] b134 b2 c0 s0 ((0 : Int32) + 1) ((0 : Int64) + b1) T138.heap n0 Z139 E138z F138z_countLimit F138z_sizeLimit F138z_count F138z_size ge_b134) hZ (hw _ (List.mem_of_getElem? (i := 17) rfl)) (hw _ (List.mem_of_getElem? (i := 2) rfl)) (by decide) (by decide)) q140a q140c (g := (mkF m 46 #[.val (.int c0), .val (.long s0), .second, .val (.long b1), .second, .val (.long b2), .second, .val (.long x0), .second, .val (.int fl), .val (.int (1 : Int32)), .val (.ref b134), .val (.long b1), .second, .val (.int (1 : Int32)), .unset, .unset, .unset] [(.long b2), (.ref b134)])) rfl (by rw [hml]; rfl) (Steps.refl _) (argsL := [(.long b2)]) (rest := []) (lenOf pd0_1 rfl) rfl (by show 2 * 0 + _ ≤ _; exact Nat.le_of_eq rfl) (hb hby at_46) (fun _ _ => ⟨rfl, rfl, (by decide : 1 + 0 ≤ _), (by decide : 4 + 0 ≤ _)⟩)
    dsimp only [Pt.U, Pt.locs, Pt.cells, Pt.slots] at X140 l140 y140 z140 st140 hQ140
    subst l140 y140 z140
    obtain ⟨rfl, N140q, K140, E140z, F140z_countLimit, F140z_sizeLimit, F140z_count, F140z_size⟩ := hQ140
    have E141_b134 := E138z.keep K140
    have Z141 := Nat.le_trans Z139 K140.1
    have K141 : Keep h0 T140.heap [] := Keep.trans K139 K140 (allS (Or.inr sz_b134) all0)
    have N140 := Fr.app N138 N140q
    refine Go.tr st140 ?_
    show Go _ _ _ _ _ _ _ (T140.setTop (mkF m 49 #[.val (.int c0), .val (.long s0), .second, .val (.long b1), .second, .val (.long b2), .second, .val (.long x0), .second, .val (.int fl), .val (.int (1 : Int32)), .val (.ref b134), .val (.long b1), .second, .val (.int (1 : Int32)), .unset, .unset, .unset] []))
    refine Go.by (fun _ kont => XS.lloadN X140.here hx rfl (hb hby at_49) rfl (XS.lload X140.here hx rfl (hb hby at_50) rfl (XS.ladd X140.here hx rfl (hb hby at_52) rfl (XS.lstore X140.here hx rfl (hb hby at_53) rfl (l' := #[.val (.int c0), .val (.long s0), .second, .val (.long b1), .second, .val (.long b2), .second, .val (.long x0), .second, .val (.int fl), .val (.int (1 : Int32)), .val (.ref b134), .val (.long (b1 + b2)), .second, .val (.int (1 : Int32)), .unset, .unset, .unset]) rfl (XS.iconst X140.here hx rfl (hb hby at_55) (XS.istore X140.here hx rfl (hb hby at_56) rfl (l' := #[.val (.int c0), .val (.long s0), .second, .val (.long b1), .second, .val (.long b2), .second, .val (.long x0), .second, .val (.int fl), .val (.int (1 : Int32)), .val (.ref b134), .val (.long (b1 + b2)), .second, .val (.int (2 : Int32)), .unset, .unset, .unset]) rfl kont)))))) ?_
    show Go _ _ _ _ _ _ _ (T140.setTop (mkF m 58 #[.val (.int c0), .val (.long s0), .second, .val (.long b1), .second, .val (.long b2), .second, .val (.long x0), .second, .val (.int fl), .val (.int (1 : Int32)), .val (.ref b134), .val (.long (b1 + b2)), .second, .val (.int (2 : Int32)), .unset, .unset, .unset] []))
    refine Go.by (fun _ kont => XS.iloadN X140.here hx rfl (hb hby at_58) rfl kont) ?_
    show Go _ _ _ _ _ _ _ (T140.setTop (mkF m 59 #[.val (.int c0), .val (.long s0), .second, .val (.long b1), .second, .val (.long b2), .second, .val (.long x0), .second, .val (.int fl), .val (.int (1 : Int32)), .val (.ref b134), .val (.long (b1 + b2)), .second, .val (.int (2 : Int32)), .unset, .unset, .unset] [(.int c0)]))
    by_cases hc142 : c0 = (0 : Int32)
    · refine Go.by (fun _ kont => XS.ifYes X140.here hx rfl (pc0 := 59) (pc' := 68) rfl (hb hby at_59) rfl ((if0 _ _).trans (teq hc142).1) (by decide) (by decide) kont) ?_
      show Go _ _ _ _ _ _ _ (T140.setTop (mkF m 68 #[.val (.int c0), .val (.long s0), .second, .val (.long b1), .second, .val (.long b2), .second, .val (.long x0), .second, .val (.int fl), .val (.int (1 : Int32)), .val (.ref b134), .val (.long (b1 + b2)), .second, .val (.int (2 : Int32)), .unset, .unset, .unset] []))
      refine Go.by (fun _ kont => XS.iconst X140.here hx rfl (hb hby at_68) (XS.goto X140.here hx rfl (pc0 := 69) (pc' := 73) rfl (hb hby at_69) (by decide) (by decide) (XS.istore X140.here hx rfl (hb hby at_73) rfl (l' := #[.val (.int c0), .val (.long s0), .second, .val (.long b1), .second, .val (.long b2), .second, .val (.long x0), .second, .val (.int fl), .val (.int (1 : Int32)), .val (.ref b134), .val (.long (b1 + b2)), .second, .val (.int (2 : Int32)), .val (.int (1 : Int32)), .unset, .unset]) rfl (XS.lloadN X140.here hx rfl (hb hby at_75) rfl (XS.lconst X140.here hx rfl (hb hby at_76) (XS.lcmp X140.here hx rfl (hb hby at_77) rfl kont)))))) ?_
      show Go _ _ _ _ _ _ _ (T140.setTop (mkF m 78 #[.val (.int c0), .val (.long s0), .second, .val (.long b1), .second, .val (.long b2), .second, .val (.long x0), .second, .val (.int fl), .val (.int (1 : Int32)), .val (.ref b134), .val (.long (b1 + b2)), .second, .val (.int (2 : Int32)), .val (.int (1 : Int32)), .unset, .unset] [(.int (lcmpW s0 (0 : Int64)))]))
      by_cases hc143 : s0 = (0 : Int64)
      · refine Go.by (fun _ kont => XS.ifYes X140.here hx rfl (pc0 := 78) (pc' := 91) rfl (hb hby at_78) rfl ((if0 _ _).trans (teq ((lw_eq _ _).mpr hc143)).1) (by decide) (by decide) kont) ?_
        show Go _ _ _ _ _ _ _ (T140.setTop (mkF m 91 #[.val (.int c0), .val (.long s0), .second, .val (.long b1), .second, .val (.long b2), .second, .val (.long x0), .second, .val (.int fl), .val (.int (1 : Int32)), .val (.ref b134), .val (.long (b1 + b2)), .second, .val (.int (2 : Int32)), .val (.int (1 : Int32)), .unset, .unset] []))
        refine Go.by (fun _ kont => XS.iconst X140.here hx rfl (hb hby at_91) (XS.goto X140.here hx rfl (pc0 := 92) (pc' := 96) rfl (hb hby at_92) (by decide) (by decide) (XS.istore X140.here hx rfl (hb hby at_96) rfl (l' := #[.val (.int c0), .val (.long s0), .second, .val (.long b1), .second, .val (.long b2), .second, .val (.long x0), .second, .val (.int fl), .val (.int (1 : Int32)), .val (.ref b134), .val (.long (b1 + b2)), .second, .val (.int (2 : Int32)), .val (.int (1 : Int32)), .val (.int (1 : Int32)), .unset]) rfl (XS.iload X140.here hx rfl (hb hby at_98) rfl kont)))) ?_
        show Go _ _ _ _ _ _ _ (T140.setTop (mkF m 100 #[.val (.int c0), .val (.long s0), .second, .val (.long b1), .second, .val (.long b2), .second, .val (.long x0), .second, .val (.int fl), .val (.int (1 : Int32)), .val (.ref b134), .val (.long (b1 + b2)), .second, .val (.int (2 : Int32)), .val (.int (1 : Int32)), .val (.int (1 : Int32)), .unset] [(.int (1 : Int32))]))
        refine Go.by (fun _ kont => XS.ifNo X140.here hx rfl (hb hby at_100) rfl (by decide) kont) ?_
        show Go _ _ _ _ _ _ _ (T140.setTop (mkF m 103 #[.val (.int c0), .val (.long s0), .second, .val (.long b1), .second, .val (.long b2), .second, .val (.long x0), .second, .val (.int fl), .val (.int (1 : Int32)), .val (.ref b134), .val (.long (b1 + b2)), .second, .val (.int (2 : Int32)), .val (.int (1 : Int32)), .val (.int (1 : Int32)), .unset] []))
        refine Go.by (fun _ kont => XS.iload X140.here hx rfl (hb hby at_103) rfl kont) ?_
        show Go _ _ _ _ _ _ _ (T140.setTop (mkF m 105 #[.val (.int c0), .val (.long s0), .second, .val (.long b1), .second, .val (.long b2), .second, .val (.long x0), .second, .val (.int fl), .val (.int (1 : Int32)), .val (.ref b134), .val (.long (b1 + b2)), .second, .val (.int (2 : Int32)), .val (.int (1 : Int32)), .val (.int (1 : Int32)), .unset] [(.int (1 : Int32))]))
        refine Go.by (fun _ kont => XS.ifNo X140.here hx rfl (hb hby at_105) rfl (by decide) kont) ?_
        show Go _ _ _ _ _ _ _ (T140.setTop (mkF m 108 #[.val (.int c0), .val (.long s0), .second, .val (.long b1), .second, .val (.long b2), .second, .val (.long x0), .second, .val (.int fl), .val (.int (1 : Int32)), .val (.ref b134), .val (.long (b1 + b2)), .second, .val (.int (2 : Int32)), .val (.int (1 : Int32)), .val (.int (1 : Int32)), .unset] []))
        refine Go.by (fun _ kont => XS.iconst X140.here hx rfl (hb hby at_108) (XS.goto X140.here hx rfl (pc0 := 109) (pc' := 113) rfl (hb hby at_109) (by decide) (by decide) (XS.istore X140.here hx rfl (hb hby at_113) rfl (l' := #[.val (.int c0), .val (.long s0), .second, .val (.long b1), .second, .val (.long b2), .second, .val (.long x0), .second, .val (.int fl), .val (.int (1 : Int32)), .val (.ref b134), .val (.long (b1 + b2)), .second, .val (.int (2 : Int32)), .val (.int (1 : Int32)), .val (.int (1 : Int32)), .val (.int (1 : Int32))]) rfl (XS.aload X140.here hx rfl (hb hby at_115) rfl rfl (XS.lload X140.here hx rfl (hb hby at_117) rfl kont))))) ?_
        show Go _ _ _ _ _ _ _ (T140.setTop (mkF m 119 #[.val (.int c0), .val (.long s0), .second, .val (.long b1), .second, .val (.long b2), .second, .val (.long x0), .second, .val (.int fl), .val (.int (1 : Int32)), .val (.ref b134), .val (.long (b1 + b2)), .second, .val (.int (2 : Int32)), .val (.int (1 : Int32)), .val (.int (1 : Int32)), .val (.int (1 : Int32))] [(.long x0), (.ref b134)]))
        obtain ⟨cq144, kq144, q144a, q144b, q144c⟩ := isOf hZ rfl E140z
        obtain ⟨_, _, ⟨T144, L144, k144, n144⟩, -, X144, ⟨Lc144, hQ144, l144, y144, z144⟩, st144⟩ := X140.virtualBack hx (y := (⟨"com/example/kyu/kyu/PrefetchWindow", "hasRoomFor", "(J)Z"⟩ : MethodName)) (z := (⟨"com/example/kyu/kyu/PrefetchWindow", "hasRoomFor", "(J)Z"⟩ : MethodName)) hown (mvT hZ (hw _ (List.mem_of_getElem? (i := 22) rfl))) (mvT hZ (hw _ (List.mem_of_getElem? (i := 23) rfl))) (notFace_of_selects (args := #[]) (mvT hZ (hw _ (List.mem_of_getElem? (i := 25) rfl)))) (mvT hZ (hw _ (List.mem_of_getElem? (i := 25) rfl))) (mvT hZ (hw _ (List.mem_of_getElem? (i := 24) rfl))) (by decide) (backOf (W := 0) (rmH l Z a0 hw [] b134 x0 c0 s0 (((0 : Int32) + 1) + 1) (((0 : Int64) + b1) + b2) T140.heap n0 Z141 E140z F140z_countLimit F140z_sizeLimit F140z_count F140z_size ge_b134) hZ (hw _ (List.mem_of_getElem? (i := 26) rfl)) (hw _ (List.mem_of_getElem? (i := 2) rfl)) (by decide) (by decide)) q144a q144c (g := (mkF m 119 #[.val (.int c0), .val (.long s0), .second, .val (.long b1), .second, .val (.long b2), .second, .val (.long x0), .second, .val (.int fl), .val (.int (1 : Int32)), .val (.ref b134), .val (.long (b1 + b2)), .second, .val (.int (2 : Int32)), .val (.int (1 : Int32)), .val (.int (1 : Int32)), .val (.int (1 : Int32))] [(.long x0), (.ref b134)])) rfl (by rw [hml]; rfl) (Steps.refl _) (argsL := [(.long x0)]) (rest := []) (lenOf pd0_2 rfl) rfl (by show 2 * 0 + _ ≤ _; exact Nat.le_of_eq rfl) (hb hby at_119) (fun _ _ => ⟨rfl, rfl, (by decide : 1 + 0 ≤ _), (by decide : 4 + 0 ≤ _)⟩)
        dsimp only [Pt.U, Pt.locs, Pt.cells, Pt.slots] at X144 l144 y144 z144 st144 hQ144
        subst l144 y144 z144
        obtain ⟨rfl, N144q, eh144⟩ := hQ144
        have N144 := Fr.app N140 N144q
        refine Go.tr st144 ?_
        show Go _ _ _ _ _ _ _ (T144.setTop (mkF m 122 #[.val (.int c0), .val (.long s0), .second, .val (.long b1), .second, .val (.long b2), .second, .val (.long x0), .second, .val (.int fl), .val (.int (1 : Int32)), .val (.ref b134), .val (.long (b1 + b2)), .second, .val (.int (2 : Int32)), .val (.int (1 : Int32)), .val (.int (1 : Int32)), .val (.int (1 : Int32))] [(.int (if own_room x0 c0 s0 (((0 : Int32) + 1) + 1) (((0 : Int64) + b1) + b2) then 1 else 0))]))
        refine Go.by (fun _ kont => XS.iload X144.here hx rfl (hb hby at_122) rfl kont) ?_
        show Go _ _ _ _ _ _ _ (T144.setTop (mkF m 124 #[.val (.int c0), .val (.long s0), .second, .val (.long b1), .second, .val (.long b2), .second, .val (.long x0), .second, .val (.int fl), .val (.int (1 : Int32)), .val (.ref b134), .val (.long (b1 + b2)), .second, .val (.int (2 : Int32)), .val (.int (1 : Int32)), .val (.int (1 : Int32)), .val (.int (1 : Int32))] [(.int (1 : Int32)), (.int (if own_room x0 c0 s0 (((0 : Int32) + 1) + 1) (((0 : Int64) + b1) + b2) then 1 else 0))]))
        by_cases hc145 : (if own_room x0 c0 s0 (((0 : Int32) + 1) + 1) (((0 : Int64) + b1) + b2) then 1 else 0) = (1 : Int32)
        · refine Go.by (fun _ kont => XS.icmpNo X144.here hx rfl (hb hby at_124) rfl (teq hc145).2 kont) ?_
          show Go _ _ _ _ _ _ _ (T144.setTop (mkF m 127 #[.val (.int c0), .val (.long s0), .second, .val (.long b1), .second, .val (.long b2), .second, .val (.long x0), .second, .val (.int fl), .val (.int (1 : Int32)), .val (.ref b134), .val (.long (b1 + b2)), .second, .val (.int (2 : Int32)), .val (.int (1 : Int32)), .val (.int (1 : Int32)), .val (.int (1 : Int32))] []))
          refine Go.by (fun _ kont => XS.iconst X144.here hx rfl (hb hby at_127) (XS.goto X144.here hx rfl (pc0 := 128) (pc' := 132) rfl (hb hby at_128) (by decide) (by decide) kont)) ?_
          show Go _ _ _ _ _ _ _ (T144.setTop (mkF m 132 #[.val (.int c0), .val (.long s0), .second, .val (.long b1), .second, .val (.long b2), .second, .val (.long x0), .second, .val (.int fl), .val (.int (1 : Int32)), .val (.ref b134), .val (.long (b1 + b2)), .second, .val (.int (2 : Int32)), .val (.int (1 : Int32)), .val (.int (1 : Int32)), .val (.int (1 : Int32))] [(.int (1 : Int32))]))
          refine Go.retN X144 hx (t := .boolean) hret (by simp) hlk (hb hby at_132) ?_ (by decide) (by decide)
          show Q0 Z h0 n0 (some (.int (1 : Int32))) T144.heap _
          rw [eh144]
          exact ⟨rfl, N144⟩
        · refine Go.by (fun _ kont => XS.icmpYes X144.here hx rfl (pc0 := 124) (pc' := 131) rfl (hb hby at_124) rfl (feq hc145).2 (by decide) (by decide) kont) ?_
          show Go _ _ _ _ _ _ _ (T144.setTop (mkF m 131 #[.val (.int c0), .val (.long s0), .second, .val (.long b1), .second, .val (.long b2), .second, .val (.long x0), .second, .val (.int fl), .val (.int (1 : Int32)), .val (.ref b134), .val (.long (b1 + b2)), .second, .val (.int (2 : Int32)), .val (.int (1 : Int32)), .val (.int (1 : Int32)), .val (.int (1 : Int32))] []))
          refine Go.by (fun _ kont => XS.iconst X144.here hx rfl (hb hby at_131) kont) ?_
          show Go _ _ _ _ _ _ _ (T144.setTop (mkF m 132 #[.val (.int c0), .val (.long s0), .second, .val (.long b1), .second, .val (.long b2), .second, .val (.long x0), .second, .val (.int fl), .val (.int (1 : Int32)), .val (.ref b134), .val (.long (b1 + b2)), .second, .val (.int (2 : Int32)), .val (.int (1 : Int32)), .val (.int (1 : Int32)), .val (.int (1 : Int32))] [(.int (0 : Int32))]))
          exfalso
          revert hc145
          simp [own_room, hc101, hc142, hc143]
      · refine Go.by (fun _ kont => XS.ifNo X140.here hx rfl (hb hby at_78) rfl ((if0 _ _).trans (feq (fun z => hc143 ((lw_eq _ _).mp z))).1) kont) ?_
        show Go _ _ _ _ _ _ _ (T140.setTop (mkF m 81 #[.val (.int c0), .val (.long s0), .second, .val (.long b1), .second, .val (.long b2), .second, .val (.long x0), .second, .val (.int fl), .val (.int (1 : Int32)), .val (.ref b134), .val (.long (b1 + b2)), .second, .val (.int (2 : Int32)), .val (.int (1 : Int32)), .unset, .unset] []))
        refine Go.by (fun _ kont => XS.lload X140.here hx rfl (hb hby at_81) rfl (XS.lload X140.here hx rfl (hb hby at_83) rfl (XS.ladd X140.here hx rfl (hb hby at_85) rfl (XS.lloadN X140.here hx rfl (hb hby at_86) rfl (XS.lcmp X140.here hx rfl (hb hby at_87) rfl kont))))) ?_
        show Go _ _ _ _ _ _ _ (T140.setTop (mkF m 88 #[.val (.int c0), .val (.long s0), .second, .val (.long b1), .second, .val (.long b2), .second, .val (.long x0), .second, .val (.int fl), .val (.int (1 : Int32)), .val (.ref b134), .val (.long (b1 + b2)), .second, .val (.int (2 : Int32)), .val (.int (1 : Int32)), .unset, .unset] [(.int (lcmpW ((b1 + b2) + x0) s0))]))
        by_cases hc146 : s0 < ((b1 + b2) + x0)
        · refine Go.by (fun _ kont => XS.ifYes X140.here hx rfl (pc0 := 88) (pc' := 95) rfl (hb hby at_88) rfl ((if0 _ _).trans (tlt ((lw_gt _ _).mpr hc146)).2.2.1) (by decide) (by decide) kont) ?_
          show Go _ _ _ _ _ _ _ (T140.setTop (mkF m 95 #[.val (.int c0), .val (.long s0), .second, .val (.long b1), .second, .val (.long b2), .second, .val (.long x0), .second, .val (.int fl), .val (.int (1 : Int32)), .val (.ref b134), .val (.long (b1 + b2)), .second, .val (.int (2 : Int32)), .val (.int (1 : Int32)), .unset, .unset] []))
          refine Go.by (fun _ kont => XS.iconst X140.here hx rfl (hb hby at_95) (XS.istore X140.here hx rfl (hb hby at_96) rfl (l' := #[.val (.int c0), .val (.long s0), .second, .val (.long b1), .second, .val (.long b2), .second, .val (.long x0), .second, .val (.int fl), .val (.int (1 : Int32)), .val (.ref b134), .val (.long (b1 + b2)), .second, .val (.int (2 : Int32)), .val (.int (1 : Int32)), .val (.int (0 : Int32)), .unset]) rfl (XS.iload X140.here hx rfl (hb hby at_98) rfl kont))) ?_
          show Go _ _ _ _ _ _ _ (T140.setTop (mkF m 100 #[.val (.int c0), .val (.long s0), .second, .val (.long b1), .second, .val (.long b2), .second, .val (.long x0), .second, .val (.int fl), .val (.int (1 : Int32)), .val (.ref b134), .val (.long (b1 + b2)), .second, .val (.int (2 : Int32)), .val (.int (1 : Int32)), .val (.int (0 : Int32)), .unset] [(.int (1 : Int32))]))
          refine Go.by (fun _ kont => XS.ifNo X140.here hx rfl (hb hby at_100) rfl (by decide) kont) ?_
          show Go _ _ _ _ _ _ _ (T140.setTop (mkF m 103 #[.val (.int c0), .val (.long s0), .second, .val (.long b1), .second, .val (.long b2), .second, .val (.long x0), .second, .val (.int fl), .val (.int (1 : Int32)), .val (.ref b134), .val (.long (b1 + b2)), .second, .val (.int (2 : Int32)), .val (.int (1 : Int32)), .val (.int (0 : Int32)), .unset] []))
          refine Go.by (fun _ kont => XS.iload X140.here hx rfl (hb hby at_103) rfl kont) ?_
          show Go _ _ _ _ _ _ _ (T140.setTop (mkF m 105 #[.val (.int c0), .val (.long s0), .second, .val (.long b1), .second, .val (.long b2), .second, .val (.long x0), .second, .val (.int fl), .val (.int (1 : Int32)), .val (.ref b134), .val (.long (b1 + b2)), .second, .val (.int (2 : Int32)), .val (.int (1 : Int32)), .val (.int (0 : Int32)), .unset] [(.int (0 : Int32))]))
          refine Go.by (fun _ kont => XS.ifYes X140.here hx rfl (pc0 := 105) (pc' := 112) rfl (hb hby at_105) rfl (by decide) (by decide) (by decide) kont) ?_
          show Go _ _ _ _ _ _ _ (T140.setTop (mkF m 112 #[.val (.int c0), .val (.long s0), .second, .val (.long b1), .second, .val (.long b2), .second, .val (.long x0), .second, .val (.int fl), .val (.int (1 : Int32)), .val (.ref b134), .val (.long (b1 + b2)), .second, .val (.int (2 : Int32)), .val (.int (1 : Int32)), .val (.int (0 : Int32)), .unset] []))
          refine Go.by (fun _ kont => XS.iconst X140.here hx rfl (hb hby at_112) (XS.istore X140.here hx rfl (hb hby at_113) rfl (l' := #[.val (.int c0), .val (.long s0), .second, .val (.long b1), .second, .val (.long b2), .second, .val (.long x0), .second, .val (.int fl), .val (.int (1 : Int32)), .val (.ref b134), .val (.long (b1 + b2)), .second, .val (.int (2 : Int32)), .val (.int (1 : Int32)), .val (.int (0 : Int32)), .val (.int (0 : Int32))]) rfl (XS.aload X140.here hx rfl (hb hby at_115) rfl rfl (XS.lload X140.here hx rfl (hb hby at_117) rfl kont)))) ?_
          show Go _ _ _ _ _ _ _ (T140.setTop (mkF m 119 #[.val (.int c0), .val (.long s0), .second, .val (.long b1), .second, .val (.long b2), .second, .val (.long x0), .second, .val (.int fl), .val (.int (1 : Int32)), .val (.ref b134), .val (.long (b1 + b2)), .second, .val (.int (2 : Int32)), .val (.int (1 : Int32)), .val (.int (0 : Int32)), .val (.int (0 : Int32))] [(.long x0), (.ref b134)]))
          obtain ⟨cq147, kq147, q147a, q147b, q147c⟩ := isOf hZ rfl E140z
          obtain ⟨_, _, ⟨T147, L147, k147, n147⟩, -, X147, ⟨Lc147, hQ147, l147, y147, z147⟩, st147⟩ := X140.virtualBack hx (y := (⟨"com/example/kyu/kyu/PrefetchWindow", "hasRoomFor", "(J)Z"⟩ : MethodName)) (z := (⟨"com/example/kyu/kyu/PrefetchWindow", "hasRoomFor", "(J)Z"⟩ : MethodName)) hown (mvT hZ (hw _ (List.mem_of_getElem? (i := 22) rfl))) (mvT hZ (hw _ (List.mem_of_getElem? (i := 23) rfl))) (notFace_of_selects (args := #[]) (mvT hZ (hw _ (List.mem_of_getElem? (i := 25) rfl)))) (mvT hZ (hw _ (List.mem_of_getElem? (i := 25) rfl))) (mvT hZ (hw _ (List.mem_of_getElem? (i := 24) rfl))) (by decide) (backOf (W := 0) (rmH l Z a0 hw [] b134 x0 c0 s0 (((0 : Int32) + 1) + 1) (((0 : Int64) + b1) + b2) T140.heap n0 Z141 E140z F140z_countLimit F140z_sizeLimit F140z_count F140z_size ge_b134) hZ (hw _ (List.mem_of_getElem? (i := 26) rfl)) (hw _ (List.mem_of_getElem? (i := 2) rfl)) (by decide) (by decide)) q147a q147c (g := (mkF m 119 #[.val (.int c0), .val (.long s0), .second, .val (.long b1), .second, .val (.long b2), .second, .val (.long x0), .second, .val (.int fl), .val (.int (1 : Int32)), .val (.ref b134), .val (.long (b1 + b2)), .second, .val (.int (2 : Int32)), .val (.int (1 : Int32)), .val (.int (0 : Int32)), .val (.int (0 : Int32))] [(.long x0), (.ref b134)])) rfl (by rw [hml]; rfl) (Steps.refl _) (argsL := [(.long x0)]) (rest := []) (lenOf pd0_2 rfl) rfl (by show 2 * 0 + _ ≤ _; exact Nat.le_of_eq rfl) (hb hby at_119) (fun _ _ => ⟨rfl, rfl, (by decide : 1 + 0 ≤ _), (by decide : 4 + 0 ≤ _)⟩)
          dsimp only [Pt.U, Pt.locs, Pt.cells, Pt.slots] at X147 l147 y147 z147 st147 hQ147
          subst l147 y147 z147
          obtain ⟨rfl, N147q, eh147⟩ := hQ147
          have N147 := Fr.app N140 N147q
          refine Go.tr st147 ?_
          show Go _ _ _ _ _ _ _ (T147.setTop (mkF m 122 #[.val (.int c0), .val (.long s0), .second, .val (.long b1), .second, .val (.long b2), .second, .val (.long x0), .second, .val (.int fl), .val (.int (1 : Int32)), .val (.ref b134), .val (.long (b1 + b2)), .second, .val (.int (2 : Int32)), .val (.int (1 : Int32)), .val (.int (0 : Int32)), .val (.int (0 : Int32))] [(.int (if own_room x0 c0 s0 (((0 : Int32) + 1) + 1) (((0 : Int64) + b1) + b2) then 1 else 0))]))
          refine Go.by (fun _ kont => XS.iload X147.here hx rfl (hb hby at_122) rfl kont) ?_
          show Go _ _ _ _ _ _ _ (T147.setTop (mkF m 124 #[.val (.int c0), .val (.long s0), .second, .val (.long b1), .second, .val (.long b2), .second, .val (.long x0), .second, .val (.int fl), .val (.int (1 : Int32)), .val (.ref b134), .val (.long (b1 + b2)), .second, .val (.int (2 : Int32)), .val (.int (1 : Int32)), .val (.int (0 : Int32)), .val (.int (0 : Int32))] [(.int (0 : Int32)), (.int (if own_room x0 c0 s0 (((0 : Int32) + 1) + 1) (((0 : Int64) + b1) + b2) then 1 else 0))]))
          by_cases hc148 : (if own_room x0 c0 s0 (((0 : Int32) + 1) + 1) (((0 : Int64) + b1) + b2) then 1 else 0) = (0 : Int32)
          · refine Go.by (fun _ kont => XS.icmpNo X147.here hx rfl (hb hby at_124) rfl (teq hc148).2 kont) ?_
            show Go _ _ _ _ _ _ _ (T147.setTop (mkF m 127 #[.val (.int c0), .val (.long s0), .second, .val (.long b1), .second, .val (.long b2), .second, .val (.long x0), .second, .val (.int fl), .val (.int (1 : Int32)), .val (.ref b134), .val (.long (b1 + b2)), .second, .val (.int (2 : Int32)), .val (.int (1 : Int32)), .val (.int (0 : Int32)), .val (.int (0 : Int32))] []))
            refine Go.by (fun _ kont => XS.iconst X147.here hx rfl (hb hby at_127) (XS.goto X147.here hx rfl (pc0 := 128) (pc' := 132) rfl (hb hby at_128) (by decide) (by decide) kont)) ?_
            show Go _ _ _ _ _ _ _ (T147.setTop (mkF m 132 #[.val (.int c0), .val (.long s0), .second, .val (.long b1), .second, .val (.long b2), .second, .val (.long x0), .second, .val (.int fl), .val (.int (1 : Int32)), .val (.ref b134), .val (.long (b1 + b2)), .second, .val (.int (2 : Int32)), .val (.int (1 : Int32)), .val (.int (0 : Int32)), .val (.int (0 : Int32))] [(.int (1 : Int32))]))
            refine Go.retN X147 hx (t := .boolean) hret (by simp) hlk (hb hby at_132) ?_ (by decide) (by decide)
            show Q0 Z h0 n0 (some (.int (1 : Int32))) T147.heap _
            rw [eh147]
            exact ⟨rfl, N147⟩
          · refine Go.by (fun _ kont => XS.icmpYes X147.here hx rfl (pc0 := 124) (pc' := 131) rfl (hb hby at_124) rfl (feq hc148).2 (by decide) (by decide) kont) ?_
            show Go _ _ _ _ _ _ _ (T147.setTop (mkF m 131 #[.val (.int c0), .val (.long s0), .second, .val (.long b1), .second, .val (.long b2), .second, .val (.long x0), .second, .val (.int fl), .val (.int (1 : Int32)), .val (.ref b134), .val (.long (b1 + b2)), .second, .val (.int (2 : Int32)), .val (.int (1 : Int32)), .val (.int (0 : Int32)), .val (.int (0 : Int32))] []))
            refine Go.by (fun _ kont => XS.iconst X147.here hx rfl (hb hby at_131) kont) ?_
            show Go _ _ _ _ _ _ _ (T147.setTop (mkF m 132 #[.val (.int c0), .val (.long s0), .second, .val (.long b1), .second, .val (.long b2), .second, .val (.long x0), .second, .val (.int fl), .val (.int (1 : Int32)), .val (.ref b134), .val (.long (b1 + b2)), .second, .val (.int (2 : Int32)), .val (.int (1 : Int32)), .val (.int (0 : Int32)), .val (.int (0 : Int32))] [(.int (0 : Int32))]))
            exfalso
            revert hc148
            simp [own_room, hc101, hc142, hc143, hc146]
        · refine Go.by (fun _ kont => XS.ifNo X140.here hx rfl (hb hby at_88) rfl ((if0 _ _).trans (flt (fun z => hc146 ((lw_gt _ _).mp z))).2.2.1) kont) ?_
          show Go _ _ _ _ _ _ _ (T140.setTop (mkF m 91 #[.val (.int c0), .val (.long s0), .second, .val (.long b1), .second, .val (.long b2), .second, .val (.long x0), .second, .val (.int fl), .val (.int (1 : Int32)), .val (.ref b134), .val (.long (b1 + b2)), .second, .val (.int (2 : Int32)), .val (.int (1 : Int32)), .unset, .unset] []))
          refine Go.by (fun _ kont => XS.iconst X140.here hx rfl (hb hby at_91) (XS.goto X140.here hx rfl (pc0 := 92) (pc' := 96) rfl (hb hby at_92) (by decide) (by decide) (XS.istore X140.here hx rfl (hb hby at_96) rfl (l' := #[.val (.int c0), .val (.long s0), .second, .val (.long b1), .second, .val (.long b2), .second, .val (.long x0), .second, .val (.int fl), .val (.int (1 : Int32)), .val (.ref b134), .val (.long (b1 + b2)), .second, .val (.int (2 : Int32)), .val (.int (1 : Int32)), .val (.int (1 : Int32)), .unset]) rfl (XS.iload X140.here hx rfl (hb hby at_98) rfl kont)))) ?_
          show Go _ _ _ _ _ _ _ (T140.setTop (mkF m 100 #[.val (.int c0), .val (.long s0), .second, .val (.long b1), .second, .val (.long b2), .second, .val (.long x0), .second, .val (.int fl), .val (.int (1 : Int32)), .val (.ref b134), .val (.long (b1 + b2)), .second, .val (.int (2 : Int32)), .val (.int (1 : Int32)), .val (.int (1 : Int32)), .unset] [(.int (1 : Int32))]))
          refine Go.by (fun _ kont => XS.ifNo X140.here hx rfl (hb hby at_100) rfl (by decide) kont) ?_
          show Go _ _ _ _ _ _ _ (T140.setTop (mkF m 103 #[.val (.int c0), .val (.long s0), .second, .val (.long b1), .second, .val (.long b2), .second, .val (.long x0), .second, .val (.int fl), .val (.int (1 : Int32)), .val (.ref b134), .val (.long (b1 + b2)), .second, .val (.int (2 : Int32)), .val (.int (1 : Int32)), .val (.int (1 : Int32)), .unset] []))
          refine Go.by (fun _ kont => XS.iload X140.here hx rfl (hb hby at_103) rfl kont) ?_
          show Go _ _ _ _ _ _ _ (T140.setTop (mkF m 105 #[.val (.int c0), .val (.long s0), .second, .val (.long b1), .second, .val (.long b2), .second, .val (.long x0), .second, .val (.int fl), .val (.int (1 : Int32)), .val (.ref b134), .val (.long (b1 + b2)), .second, .val (.int (2 : Int32)), .val (.int (1 : Int32)), .val (.int (1 : Int32)), .unset] [(.int (1 : Int32))]))
          refine Go.by (fun _ kont => XS.ifNo X140.here hx rfl (hb hby at_105) rfl (by decide) kont) ?_
          show Go _ _ _ _ _ _ _ (T140.setTop (mkF m 108 #[.val (.int c0), .val (.long s0), .second, .val (.long b1), .second, .val (.long b2), .second, .val (.long x0), .second, .val (.int fl), .val (.int (1 : Int32)), .val (.ref b134), .val (.long (b1 + b2)), .second, .val (.int (2 : Int32)), .val (.int (1 : Int32)), .val (.int (1 : Int32)), .unset] []))
          refine Go.by (fun _ kont => XS.iconst X140.here hx rfl (hb hby at_108) (XS.goto X140.here hx rfl (pc0 := 109) (pc' := 113) rfl (hb hby at_109) (by decide) (by decide) (XS.istore X140.here hx rfl (hb hby at_113) rfl (l' := #[.val (.int c0), .val (.long s0), .second, .val (.long b1), .second, .val (.long b2), .second, .val (.long x0), .second, .val (.int fl), .val (.int (1 : Int32)), .val (.ref b134), .val (.long (b1 + b2)), .second, .val (.int (2 : Int32)), .val (.int (1 : Int32)), .val (.int (1 : Int32)), .val (.int (1 : Int32))]) rfl (XS.aload X140.here hx rfl (hb hby at_115) rfl rfl (XS.lload X140.here hx rfl (hb hby at_117) rfl kont))))) ?_
          show Go _ _ _ _ _ _ _ (T140.setTop (mkF m 119 #[.val (.int c0), .val (.long s0), .second, .val (.long b1), .second, .val (.long b2), .second, .val (.long x0), .second, .val (.int fl), .val (.int (1 : Int32)), .val (.ref b134), .val (.long (b1 + b2)), .second, .val (.int (2 : Int32)), .val (.int (1 : Int32)), .val (.int (1 : Int32)), .val (.int (1 : Int32))] [(.long x0), (.ref b134)]))
          obtain ⟨cq149, kq149, q149a, q149b, q149c⟩ := isOf hZ rfl E140z
          obtain ⟨_, _, ⟨T149, L149, k149, n149⟩, -, X149, ⟨Lc149, hQ149, l149, y149, z149⟩, st149⟩ := X140.virtualBack hx (y := (⟨"com/example/kyu/kyu/PrefetchWindow", "hasRoomFor", "(J)Z"⟩ : MethodName)) (z := (⟨"com/example/kyu/kyu/PrefetchWindow", "hasRoomFor", "(J)Z"⟩ : MethodName)) hown (mvT hZ (hw _ (List.mem_of_getElem? (i := 22) rfl))) (mvT hZ (hw _ (List.mem_of_getElem? (i := 23) rfl))) (notFace_of_selects (args := #[]) (mvT hZ (hw _ (List.mem_of_getElem? (i := 25) rfl)))) (mvT hZ (hw _ (List.mem_of_getElem? (i := 25) rfl))) (mvT hZ (hw _ (List.mem_of_getElem? (i := 24) rfl))) (by decide) (backOf (W := 0) (rmH l Z a0 hw [] b134 x0 c0 s0 (((0 : Int32) + 1) + 1) (((0 : Int64) + b1) + b2) T140.heap n0 Z141 E140z F140z_countLimit F140z_sizeLimit F140z_count F140z_size ge_b134) hZ (hw _ (List.mem_of_getElem? (i := 26) rfl)) (hw _ (List.mem_of_getElem? (i := 2) rfl)) (by decide) (by decide)) q149a q149c (g := (mkF m 119 #[.val (.int c0), .val (.long s0), .second, .val (.long b1), .second, .val (.long b2), .second, .val (.long x0), .second, .val (.int fl), .val (.int (1 : Int32)), .val (.ref b134), .val (.long (b1 + b2)), .second, .val (.int (2 : Int32)), .val (.int (1 : Int32)), .val (.int (1 : Int32)), .val (.int (1 : Int32))] [(.long x0), (.ref b134)])) rfl (by rw [hml]; rfl) (Steps.refl _) (argsL := [(.long x0)]) (rest := []) (lenOf pd0_2 rfl) rfl (by show 2 * 0 + _ ≤ _; exact Nat.le_of_eq rfl) (hb hby at_119) (fun _ _ => ⟨rfl, rfl, (by decide : 1 + 0 ≤ _), (by decide : 4 + 0 ≤ _)⟩)
          dsimp only [Pt.U, Pt.locs, Pt.cells, Pt.slots] at X149 l149 y149 z149 st149 hQ149
          subst l149 y149 z149
          obtain ⟨rfl, N149q, eh149⟩ := hQ149
          have N149 := Fr.app N140 N149q
          refine Go.tr st149 ?_
          show Go _ _ _ _ _ _ _ (T149.setTop (mkF m 122 #[.val (.int c0), .val (.long s0), .second, .val (.long b1), .second, .val (.long b2), .second, .val (.long x0), .second, .val (.int fl), .val (.int (1 : Int32)), .val (.ref b134), .val (.long (b1 + b2)), .second, .val (.int (2 : Int32)), .val (.int (1 : Int32)), .val (.int (1 : Int32)), .val (.int (1 : Int32))] [(.int (if own_room x0 c0 s0 (((0 : Int32) + 1) + 1) (((0 : Int64) + b1) + b2) then 1 else 0))]))
          refine Go.by (fun _ kont => XS.iload X149.here hx rfl (hb hby at_122) rfl kont) ?_
          show Go _ _ _ _ _ _ _ (T149.setTop (mkF m 124 #[.val (.int c0), .val (.long s0), .second, .val (.long b1), .second, .val (.long b2), .second, .val (.long x0), .second, .val (.int fl), .val (.int (1 : Int32)), .val (.ref b134), .val (.long (b1 + b2)), .second, .val (.int (2 : Int32)), .val (.int (1 : Int32)), .val (.int (1 : Int32)), .val (.int (1 : Int32))] [(.int (1 : Int32)), (.int (if own_room x0 c0 s0 (((0 : Int32) + 1) + 1) (((0 : Int64) + b1) + b2) then 1 else 0))]))
          by_cases hc150 : (if own_room x0 c0 s0 (((0 : Int32) + 1) + 1) (((0 : Int64) + b1) + b2) then 1 else 0) = (1 : Int32)
          · refine Go.by (fun _ kont => XS.icmpNo X149.here hx rfl (hb hby at_124) rfl (teq hc150).2 kont) ?_
            show Go _ _ _ _ _ _ _ (T149.setTop (mkF m 127 #[.val (.int c0), .val (.long s0), .second, .val (.long b1), .second, .val (.long b2), .second, .val (.long x0), .second, .val (.int fl), .val (.int (1 : Int32)), .val (.ref b134), .val (.long (b1 + b2)), .second, .val (.int (2 : Int32)), .val (.int (1 : Int32)), .val (.int (1 : Int32)), .val (.int (1 : Int32))] []))
            refine Go.by (fun _ kont => XS.iconst X149.here hx rfl (hb hby at_127) (XS.goto X149.here hx rfl (pc0 := 128) (pc' := 132) rfl (hb hby at_128) (by decide) (by decide) kont)) ?_
            show Go _ _ _ _ _ _ _ (T149.setTop (mkF m 132 #[.val (.int c0), .val (.long s0), .second, .val (.long b1), .second, .val (.long b2), .second, .val (.long x0), .second, .val (.int fl), .val (.int (1 : Int32)), .val (.ref b134), .val (.long (b1 + b2)), .second, .val (.int (2 : Int32)), .val (.int (1 : Int32)), .val (.int (1 : Int32)), .val (.int (1 : Int32))] [(.int (1 : Int32))]))
            refine Go.retN X149 hx (t := .boolean) hret (by simp) hlk (hb hby at_132) ?_ (by decide) (by decide)
            show Q0 Z h0 n0 (some (.int (1 : Int32))) T149.heap _
            rw [eh149]
            exact ⟨rfl, N149⟩
          · refine Go.by (fun _ kont => XS.icmpYes X149.here hx rfl (pc0 := 124) (pc' := 131) rfl (hb hby at_124) rfl (feq hc150).2 (by decide) (by decide) kont) ?_
            show Go _ _ _ _ _ _ _ (T149.setTop (mkF m 131 #[.val (.int c0), .val (.long s0), .second, .val (.long b1), .second, .val (.long b2), .second, .val (.long x0), .second, .val (.int fl), .val (.int (1 : Int32)), .val (.ref b134), .val (.long (b1 + b2)), .second, .val (.int (2 : Int32)), .val (.int (1 : Int32)), .val (.int (1 : Int32)), .val (.int (1 : Int32))] []))
            refine Go.by (fun _ kont => XS.iconst X149.here hx rfl (hb hby at_131) kont) ?_
            show Go _ _ _ _ _ _ _ (T149.setTop (mkF m 132 #[.val (.int c0), .val (.long s0), .second, .val (.long b1), .second, .val (.long b2), .second, .val (.long x0), .second, .val (.int fl), .val (.int (1 : Int32)), .val (.ref b134), .val (.long (b1 + b2)), .second, .val (.int (2 : Int32)), .val (.int (1 : Int32)), .val (.int (1 : Int32)), .val (.int (1 : Int32))] [(.int (0 : Int32))]))
            exfalso
            revert hc150
            simp [own_room, hc101, hc142, hc143, hc146]
    · refine Go.by (fun _ kont => XS.ifNo X140.here hx rfl (hb hby at_59) rfl ((if0 _ _).trans (feq hc142).1) kont) ?_
      show Go _ _ _ _ _ _ _ (T140.setTop (mkF m 62 #[.val (.int c0), .val (.long s0), .second, .val (.long b1), .second, .val (.long b2), .second, .val (.long x0), .second, .val (.int fl), .val (.int (1 : Int32)), .val (.ref b134), .val (.long (b1 + b2)), .second, .val (.int (2 : Int32)), .unset, .unset, .unset] []))
      refine Go.by (fun _ kont => XS.iload X140.here hx rfl (hb hby at_62) rfl (XS.iloadN X140.here hx rfl (hb hby at_64) rfl kont)) ?_
      show Go _ _ _ _ _ _ _ (T140.setTop (mkF m 65 #[.val (.int c0), .val (.long s0), .second, .val (.long b1), .second, .val (.long b2), .second, .val (.long x0), .second, .val (.int fl), .val (.int (1 : Int32)), .val (.ref b134), .val (.long (b1 + b2)), .second, .val (.int (2 : Int32)), .unset, .unset, .unset] [(.int c0), (.int (2 : Int32))]))
      by_cases hc151 : (2 : Int32) < c0
      · refine Go.by (fun _ kont => XS.icmpNo X140.here hx rfl (hb hby at_65) rfl (tlt hc151).2.1 kont) ?_
        show Go _ _ _ _ _ _ _ (T140.setTop (mkF m 68 #[.val (.int c0), .val (.long s0), .second, .val (.long b1), .second, .val (.long b2), .second, .val (.long x0), .second, .val (.int fl), .val (.int (1 : Int32)), .val (.ref b134), .val (.long (b1 + b2)), .second, .val (.int (2 : Int32)), .unset, .unset, .unset] []))
        refine Go.by (fun _ kont => XS.iconst X140.here hx rfl (hb hby at_68) (XS.goto X140.here hx rfl (pc0 := 69) (pc' := 73) rfl (hb hby at_69) (by decide) (by decide) (XS.istore X140.here hx rfl (hb hby at_73) rfl (l' := #[.val (.int c0), .val (.long s0), .second, .val (.long b1), .second, .val (.long b2), .second, .val (.long x0), .second, .val (.int fl), .val (.int (1 : Int32)), .val (.ref b134), .val (.long (b1 + b2)), .second, .val (.int (2 : Int32)), .val (.int (1 : Int32)), .unset, .unset]) rfl (XS.lloadN X140.here hx rfl (hb hby at_75) rfl (XS.lconst X140.here hx rfl (hb hby at_76) (XS.lcmp X140.here hx rfl (hb hby at_77) rfl kont)))))) ?_
        show Go _ _ _ _ _ _ _ (T140.setTop (mkF m 78 #[.val (.int c0), .val (.long s0), .second, .val (.long b1), .second, .val (.long b2), .second, .val (.long x0), .second, .val (.int fl), .val (.int (1 : Int32)), .val (.ref b134), .val (.long (b1 + b2)), .second, .val (.int (2 : Int32)), .val (.int (1 : Int32)), .unset, .unset] [(.int (lcmpW s0 (0 : Int64)))]))
        by_cases hc152 : s0 = (0 : Int64)
        · refine Go.by (fun _ kont => XS.ifYes X140.here hx rfl (pc0 := 78) (pc' := 91) rfl (hb hby at_78) rfl ((if0 _ _).trans (teq ((lw_eq _ _).mpr hc152)).1) (by decide) (by decide) kont) ?_
          show Go _ _ _ _ _ _ _ (T140.setTop (mkF m 91 #[.val (.int c0), .val (.long s0), .second, .val (.long b1), .second, .val (.long b2), .second, .val (.long x0), .second, .val (.int fl), .val (.int (1 : Int32)), .val (.ref b134), .val (.long (b1 + b2)), .second, .val (.int (2 : Int32)), .val (.int (1 : Int32)), .unset, .unset] []))
          refine Go.by (fun _ kont => XS.iconst X140.here hx rfl (hb hby at_91) (XS.goto X140.here hx rfl (pc0 := 92) (pc' := 96) rfl (hb hby at_92) (by decide) (by decide) (XS.istore X140.here hx rfl (hb hby at_96) rfl (l' := #[.val (.int c0), .val (.long s0), .second, .val (.long b1), .second, .val (.long b2), .second, .val (.long x0), .second, .val (.int fl), .val (.int (1 : Int32)), .val (.ref b134), .val (.long (b1 + b2)), .second, .val (.int (2 : Int32)), .val (.int (1 : Int32)), .val (.int (1 : Int32)), .unset]) rfl (XS.iload X140.here hx rfl (hb hby at_98) rfl kont)))) ?_
          show Go _ _ _ _ _ _ _ (T140.setTop (mkF m 100 #[.val (.int c0), .val (.long s0), .second, .val (.long b1), .second, .val (.long b2), .second, .val (.long x0), .second, .val (.int fl), .val (.int (1 : Int32)), .val (.ref b134), .val (.long (b1 + b2)), .second, .val (.int (2 : Int32)), .val (.int (1 : Int32)), .val (.int (1 : Int32)), .unset] [(.int (1 : Int32))]))
          refine Go.by (fun _ kont => XS.ifNo X140.here hx rfl (hb hby at_100) rfl (by decide) kont) ?_
          show Go _ _ _ _ _ _ _ (T140.setTop (mkF m 103 #[.val (.int c0), .val (.long s0), .second, .val (.long b1), .second, .val (.long b2), .second, .val (.long x0), .second, .val (.int fl), .val (.int (1 : Int32)), .val (.ref b134), .val (.long (b1 + b2)), .second, .val (.int (2 : Int32)), .val (.int (1 : Int32)), .val (.int (1 : Int32)), .unset] []))
          refine Go.by (fun _ kont => XS.iload X140.here hx rfl (hb hby at_103) rfl kont) ?_
          show Go _ _ _ _ _ _ _ (T140.setTop (mkF m 105 #[.val (.int c0), .val (.long s0), .second, .val (.long b1), .second, .val (.long b2), .second, .val (.long x0), .second, .val (.int fl), .val (.int (1 : Int32)), .val (.ref b134), .val (.long (b1 + b2)), .second, .val (.int (2 : Int32)), .val (.int (1 : Int32)), .val (.int (1 : Int32)), .unset] [(.int (1 : Int32))]))
          refine Go.by (fun _ kont => XS.ifNo X140.here hx rfl (hb hby at_105) rfl (by decide) kont) ?_
          show Go _ _ _ _ _ _ _ (T140.setTop (mkF m 108 #[.val (.int c0), .val (.long s0), .second, .val (.long b1), .second, .val (.long b2), .second, .val (.long x0), .second, .val (.int fl), .val (.int (1 : Int32)), .val (.ref b134), .val (.long (b1 + b2)), .second, .val (.int (2 : Int32)), .val (.int (1 : Int32)), .val (.int (1 : Int32)), .unset] []))
          refine Go.by (fun _ kont => XS.iconst X140.here hx rfl (hb hby at_108) (XS.goto X140.here hx rfl (pc0 := 109) (pc' := 113) rfl (hb hby at_109) (by decide) (by decide) (XS.istore X140.here hx rfl (hb hby at_113) rfl (l' := #[.val (.int c0), .val (.long s0), .second, .val (.long b1), .second, .val (.long b2), .second, .val (.long x0), .second, .val (.int fl), .val (.int (1 : Int32)), .val (.ref b134), .val (.long (b1 + b2)), .second, .val (.int (2 : Int32)), .val (.int (1 : Int32)), .val (.int (1 : Int32)), .val (.int (1 : Int32))]) rfl (XS.aload X140.here hx rfl (hb hby at_115) rfl rfl (XS.lload X140.here hx rfl (hb hby at_117) rfl kont))))) ?_
          show Go _ _ _ _ _ _ _ (T140.setTop (mkF m 119 #[.val (.int c0), .val (.long s0), .second, .val (.long b1), .second, .val (.long b2), .second, .val (.long x0), .second, .val (.int fl), .val (.int (1 : Int32)), .val (.ref b134), .val (.long (b1 + b2)), .second, .val (.int (2 : Int32)), .val (.int (1 : Int32)), .val (.int (1 : Int32)), .val (.int (1 : Int32))] [(.long x0), (.ref b134)]))
          obtain ⟨cq153, kq153, q153a, q153b, q153c⟩ := isOf hZ rfl E140z
          obtain ⟨_, _, ⟨T153, L153, k153, n153⟩, -, X153, ⟨Lc153, hQ153, l153, y153, z153⟩, st153⟩ := X140.virtualBack hx (y := (⟨"com/example/kyu/kyu/PrefetchWindow", "hasRoomFor", "(J)Z"⟩ : MethodName)) (z := (⟨"com/example/kyu/kyu/PrefetchWindow", "hasRoomFor", "(J)Z"⟩ : MethodName)) hown (mvT hZ (hw _ (List.mem_of_getElem? (i := 22) rfl))) (mvT hZ (hw _ (List.mem_of_getElem? (i := 23) rfl))) (notFace_of_selects (args := #[]) (mvT hZ (hw _ (List.mem_of_getElem? (i := 25) rfl)))) (mvT hZ (hw _ (List.mem_of_getElem? (i := 25) rfl))) (mvT hZ (hw _ (List.mem_of_getElem? (i := 24) rfl))) (by decide) (backOf (W := 0) (rmH l Z a0 hw [] b134 x0 c0 s0 (((0 : Int32) + 1) + 1) (((0 : Int64) + b1) + b2) T140.heap n0 Z141 E140z F140z_countLimit F140z_sizeLimit F140z_count F140z_size ge_b134) hZ (hw _ (List.mem_of_getElem? (i := 26) rfl)) (hw _ (List.mem_of_getElem? (i := 2) rfl)) (by decide) (by decide)) q153a q153c (g := (mkF m 119 #[.val (.int c0), .val (.long s0), .second, .val (.long b1), .second, .val (.long b2), .second, .val (.long x0), .second, .val (.int fl), .val (.int (1 : Int32)), .val (.ref b134), .val (.long (b1 + b2)), .second, .val (.int (2 : Int32)), .val (.int (1 : Int32)), .val (.int (1 : Int32)), .val (.int (1 : Int32))] [(.long x0), (.ref b134)])) rfl (by rw [hml]; rfl) (Steps.refl _) (argsL := [(.long x0)]) (rest := []) (lenOf pd0_2 rfl) rfl (by show 2 * 0 + _ ≤ _; exact Nat.le_of_eq rfl) (hb hby at_119) (fun _ _ => ⟨rfl, rfl, (by decide : 1 + 0 ≤ _), (by decide : 4 + 0 ≤ _)⟩)
          dsimp only [Pt.U, Pt.locs, Pt.cells, Pt.slots] at X153 l153 y153 z153 st153 hQ153
          subst l153 y153 z153
          obtain ⟨rfl, N153q, eh153⟩ := hQ153
          have N153 := Fr.app N140 N153q
          refine Go.tr st153 ?_
          show Go _ _ _ _ _ _ _ (T153.setTop (mkF m 122 #[.val (.int c0), .val (.long s0), .second, .val (.long b1), .second, .val (.long b2), .second, .val (.long x0), .second, .val (.int fl), .val (.int (1 : Int32)), .val (.ref b134), .val (.long (b1 + b2)), .second, .val (.int (2 : Int32)), .val (.int (1 : Int32)), .val (.int (1 : Int32)), .val (.int (1 : Int32))] [(.int (if own_room x0 c0 s0 (((0 : Int32) + 1) + 1) (((0 : Int64) + b1) + b2) then 1 else 0))]))
          refine Go.by (fun _ kont => XS.iload X153.here hx rfl (hb hby at_122) rfl kont) ?_
          show Go _ _ _ _ _ _ _ (T153.setTop (mkF m 124 #[.val (.int c0), .val (.long s0), .second, .val (.long b1), .second, .val (.long b2), .second, .val (.long x0), .second, .val (.int fl), .val (.int (1 : Int32)), .val (.ref b134), .val (.long (b1 + b2)), .second, .val (.int (2 : Int32)), .val (.int (1 : Int32)), .val (.int (1 : Int32)), .val (.int (1 : Int32))] [(.int (1 : Int32)), (.int (if own_room x0 c0 s0 (((0 : Int32) + 1) + 1) (((0 : Int64) + b1) + b2) then 1 else 0))]))
          by_cases hc154 : (if own_room x0 c0 s0 (((0 : Int32) + 1) + 1) (((0 : Int64) + b1) + b2) then 1 else 0) = (1 : Int32)
          · refine Go.by (fun _ kont => XS.icmpNo X153.here hx rfl (hb hby at_124) rfl (teq hc154).2 kont) ?_
            show Go _ _ _ _ _ _ _ (T153.setTop (mkF m 127 #[.val (.int c0), .val (.long s0), .second, .val (.long b1), .second, .val (.long b2), .second, .val (.long x0), .second, .val (.int fl), .val (.int (1 : Int32)), .val (.ref b134), .val (.long (b1 + b2)), .second, .val (.int (2 : Int32)), .val (.int (1 : Int32)), .val (.int (1 : Int32)), .val (.int (1 : Int32))] []))
            refine Go.by (fun _ kont => XS.iconst X153.here hx rfl (hb hby at_127) (XS.goto X153.here hx rfl (pc0 := 128) (pc' := 132) rfl (hb hby at_128) (by decide) (by decide) kont)) ?_
            show Go _ _ _ _ _ _ _ (T153.setTop (mkF m 132 #[.val (.int c0), .val (.long s0), .second, .val (.long b1), .second, .val (.long b2), .second, .val (.long x0), .second, .val (.int fl), .val (.int (1 : Int32)), .val (.ref b134), .val (.long (b1 + b2)), .second, .val (.int (2 : Int32)), .val (.int (1 : Int32)), .val (.int (1 : Int32)), .val (.int (1 : Int32))] [(.int (1 : Int32))]))
            refine Go.retN X153 hx (t := .boolean) hret (by simp) hlk (hb hby at_132) ?_ (by decide) (by decide)
            show Q0 Z h0 n0 (some (.int (1 : Int32))) T153.heap _
            rw [eh153]
            exact ⟨rfl, N153⟩
          · refine Go.by (fun _ kont => XS.icmpYes X153.here hx rfl (pc0 := 124) (pc' := 131) rfl (hb hby at_124) rfl (feq hc154).2 (by decide) (by decide) kont) ?_
            show Go _ _ _ _ _ _ _ (T153.setTop (mkF m 131 #[.val (.int c0), .val (.long s0), .second, .val (.long b1), .second, .val (.long b2), .second, .val (.long x0), .second, .val (.int fl), .val (.int (1 : Int32)), .val (.ref b134), .val (.long (b1 + b2)), .second, .val (.int (2 : Int32)), .val (.int (1 : Int32)), .val (.int (1 : Int32)), .val (.int (1 : Int32))] []))
            refine Go.by (fun _ kont => XS.iconst X153.here hx rfl (hb hby at_131) kont) ?_
            show Go _ _ _ _ _ _ _ (T153.setTop (mkF m 132 #[.val (.int c0), .val (.long s0), .second, .val (.long b1), .second, .val (.long b2), .second, .val (.long x0), .second, .val (.int fl), .val (.int (1 : Int32)), .val (.ref b134), .val (.long (b1 + b2)), .second, .val (.int (2 : Int32)), .val (.int (1 : Int32)), .val (.int (1 : Int32)), .val (.int (1 : Int32))] [(.int (0 : Int32))]))
            exfalso
            revert hc154
            simp [own_room, hc101, hc142, hc151, hc152]
        · refine Go.by (fun _ kont => XS.ifNo X140.here hx rfl (hb hby at_78) rfl ((if0 _ _).trans (feq (fun z => hc152 ((lw_eq _ _).mp z))).1) kont) ?_
          show Go _ _ _ _ _ _ _ (T140.setTop (mkF m 81 #[.val (.int c0), .val (.long s0), .second, .val (.long b1), .second, .val (.long b2), .second, .val (.long x0), .second, .val (.int fl), .val (.int (1 : Int32)), .val (.ref b134), .val (.long (b1 + b2)), .second, .val (.int (2 : Int32)), .val (.int (1 : Int32)), .unset, .unset] []))
          refine Go.by (fun _ kont => XS.lload X140.here hx rfl (hb hby at_81) rfl (XS.lload X140.here hx rfl (hb hby at_83) rfl (XS.ladd X140.here hx rfl (hb hby at_85) rfl (XS.lloadN X140.here hx rfl (hb hby at_86) rfl (XS.lcmp X140.here hx rfl (hb hby at_87) rfl kont))))) ?_
          show Go _ _ _ _ _ _ _ (T140.setTop (mkF m 88 #[.val (.int c0), .val (.long s0), .second, .val (.long b1), .second, .val (.long b2), .second, .val (.long x0), .second, .val (.int fl), .val (.int (1 : Int32)), .val (.ref b134), .val (.long (b1 + b2)), .second, .val (.int (2 : Int32)), .val (.int (1 : Int32)), .unset, .unset] [(.int (lcmpW ((b1 + b2) + x0) s0))]))
          by_cases hc155 : s0 < ((b1 + b2) + x0)
          · refine Go.by (fun _ kont => XS.ifYes X140.here hx rfl (pc0 := 88) (pc' := 95) rfl (hb hby at_88) rfl ((if0 _ _).trans (tlt ((lw_gt _ _).mpr hc155)).2.2.1) (by decide) (by decide) kont) ?_
            show Go _ _ _ _ _ _ _ (T140.setTop (mkF m 95 #[.val (.int c0), .val (.long s0), .second, .val (.long b1), .second, .val (.long b2), .second, .val (.long x0), .second, .val (.int fl), .val (.int (1 : Int32)), .val (.ref b134), .val (.long (b1 + b2)), .second, .val (.int (2 : Int32)), .val (.int (1 : Int32)), .unset, .unset] []))
            refine Go.by (fun _ kont => XS.iconst X140.here hx rfl (hb hby at_95) (XS.istore X140.here hx rfl (hb hby at_96) rfl (l' := #[.val (.int c0), .val (.long s0), .second, .val (.long b1), .second, .val (.long b2), .second, .val (.long x0), .second, .val (.int fl), .val (.int (1 : Int32)), .val (.ref b134), .val (.long (b1 + b2)), .second, .val (.int (2 : Int32)), .val (.int (1 : Int32)), .val (.int (0 : Int32)), .unset]) rfl (XS.iload X140.here hx rfl (hb hby at_98) rfl kont))) ?_
            show Go _ _ _ _ _ _ _ (T140.setTop (mkF m 100 #[.val (.int c0), .val (.long s0), .second, .val (.long b1), .second, .val (.long b2), .second, .val (.long x0), .second, .val (.int fl), .val (.int (1 : Int32)), .val (.ref b134), .val (.long (b1 + b2)), .second, .val (.int (2 : Int32)), .val (.int (1 : Int32)), .val (.int (0 : Int32)), .unset] [(.int (1 : Int32))]))
            refine Go.by (fun _ kont => XS.ifNo X140.here hx rfl (hb hby at_100) rfl (by decide) kont) ?_
            show Go _ _ _ _ _ _ _ (T140.setTop (mkF m 103 #[.val (.int c0), .val (.long s0), .second, .val (.long b1), .second, .val (.long b2), .second, .val (.long x0), .second, .val (.int fl), .val (.int (1 : Int32)), .val (.ref b134), .val (.long (b1 + b2)), .second, .val (.int (2 : Int32)), .val (.int (1 : Int32)), .val (.int (0 : Int32)), .unset] []))
            refine Go.by (fun _ kont => XS.iload X140.here hx rfl (hb hby at_103) rfl kont) ?_
            show Go _ _ _ _ _ _ _ (T140.setTop (mkF m 105 #[.val (.int c0), .val (.long s0), .second, .val (.long b1), .second, .val (.long b2), .second, .val (.long x0), .second, .val (.int fl), .val (.int (1 : Int32)), .val (.ref b134), .val (.long (b1 + b2)), .second, .val (.int (2 : Int32)), .val (.int (1 : Int32)), .val (.int (0 : Int32)), .unset] [(.int (0 : Int32))]))
            refine Go.by (fun _ kont => XS.ifYes X140.here hx rfl (pc0 := 105) (pc' := 112) rfl (hb hby at_105) rfl (by decide) (by decide) (by decide) kont) ?_
            show Go _ _ _ _ _ _ _ (T140.setTop (mkF m 112 #[.val (.int c0), .val (.long s0), .second, .val (.long b1), .second, .val (.long b2), .second, .val (.long x0), .second, .val (.int fl), .val (.int (1 : Int32)), .val (.ref b134), .val (.long (b1 + b2)), .second, .val (.int (2 : Int32)), .val (.int (1 : Int32)), .val (.int (0 : Int32)), .unset] []))
            refine Go.by (fun _ kont => XS.iconst X140.here hx rfl (hb hby at_112) (XS.istore X140.here hx rfl (hb hby at_113) rfl (l' := #[.val (.int c0), .val (.long s0), .second, .val (.long b1), .second, .val (.long b2), .second, .val (.long x0), .second, .val (.int fl), .val (.int (1 : Int32)), .val (.ref b134), .val (.long (b1 + b2)), .second, .val (.int (2 : Int32)), .val (.int (1 : Int32)), .val (.int (0 : Int32)), .val (.int (0 : Int32))]) rfl (XS.aload X140.here hx rfl (hb hby at_115) rfl rfl (XS.lload X140.here hx rfl (hb hby at_117) rfl kont)))) ?_
            show Go _ _ _ _ _ _ _ (T140.setTop (mkF m 119 #[.val (.int c0), .val (.long s0), .second, .val (.long b1), .second, .val (.long b2), .second, .val (.long x0), .second, .val (.int fl), .val (.int (1 : Int32)), .val (.ref b134), .val (.long (b1 + b2)), .second, .val (.int (2 : Int32)), .val (.int (1 : Int32)), .val (.int (0 : Int32)), .val (.int (0 : Int32))] [(.long x0), (.ref b134)]))
            obtain ⟨cq156, kq156, q156a, q156b, q156c⟩ := isOf hZ rfl E140z
            obtain ⟨_, _, ⟨T156, L156, k156, n156⟩, -, X156, ⟨Lc156, hQ156, l156, y156, z156⟩, st156⟩ := X140.virtualBack hx (y := (⟨"com/example/kyu/kyu/PrefetchWindow", "hasRoomFor", "(J)Z"⟩ : MethodName)) (z := (⟨"com/example/kyu/kyu/PrefetchWindow", "hasRoomFor", "(J)Z"⟩ : MethodName)) hown (mvT hZ (hw _ (List.mem_of_getElem? (i := 22) rfl))) (mvT hZ (hw _ (List.mem_of_getElem? (i := 23) rfl))) (notFace_of_selects (args := #[]) (mvT hZ (hw _ (List.mem_of_getElem? (i := 25) rfl)))) (mvT hZ (hw _ (List.mem_of_getElem? (i := 25) rfl))) (mvT hZ (hw _ (List.mem_of_getElem? (i := 24) rfl))) (by decide) (backOf (W := 0) (rmH l Z a0 hw [] b134 x0 c0 s0 (((0 : Int32) + 1) + 1) (((0 : Int64) + b1) + b2) T140.heap n0 Z141 E140z F140z_countLimit F140z_sizeLimit F140z_count F140z_size ge_b134) hZ (hw _ (List.mem_of_getElem? (i := 26) rfl)) (hw _ (List.mem_of_getElem? (i := 2) rfl)) (by decide) (by decide)) q156a q156c (g := (mkF m 119 #[.val (.int c0), .val (.long s0), .second, .val (.long b1), .second, .val (.long b2), .second, .val (.long x0), .second, .val (.int fl), .val (.int (1 : Int32)), .val (.ref b134), .val (.long (b1 + b2)), .second, .val (.int (2 : Int32)), .val (.int (1 : Int32)), .val (.int (0 : Int32)), .val (.int (0 : Int32))] [(.long x0), (.ref b134)])) rfl (by rw [hml]; rfl) (Steps.refl _) (argsL := [(.long x0)]) (rest := []) (lenOf pd0_2 rfl) rfl (by show 2 * 0 + _ ≤ _; exact Nat.le_of_eq rfl) (hb hby at_119) (fun _ _ => ⟨rfl, rfl, (by decide : 1 + 0 ≤ _), (by decide : 4 + 0 ≤ _)⟩)
            dsimp only [Pt.U, Pt.locs, Pt.cells, Pt.slots] at X156 l156 y156 z156 st156 hQ156
            subst l156 y156 z156
            obtain ⟨rfl, N156q, eh156⟩ := hQ156
            have N156 := Fr.app N140 N156q
            refine Go.tr st156 ?_
            show Go _ _ _ _ _ _ _ (T156.setTop (mkF m 122 #[.val (.int c0), .val (.long s0), .second, .val (.long b1), .second, .val (.long b2), .second, .val (.long x0), .second, .val (.int fl), .val (.int (1 : Int32)), .val (.ref b134), .val (.long (b1 + b2)), .second, .val (.int (2 : Int32)), .val (.int (1 : Int32)), .val (.int (0 : Int32)), .val (.int (0 : Int32))] [(.int (if own_room x0 c0 s0 (((0 : Int32) + 1) + 1) (((0 : Int64) + b1) + b2) then 1 else 0))]))
            refine Go.by (fun _ kont => XS.iload X156.here hx rfl (hb hby at_122) rfl kont) ?_
            show Go _ _ _ _ _ _ _ (T156.setTop (mkF m 124 #[.val (.int c0), .val (.long s0), .second, .val (.long b1), .second, .val (.long b2), .second, .val (.long x0), .second, .val (.int fl), .val (.int (1 : Int32)), .val (.ref b134), .val (.long (b1 + b2)), .second, .val (.int (2 : Int32)), .val (.int (1 : Int32)), .val (.int (0 : Int32)), .val (.int (0 : Int32))] [(.int (0 : Int32)), (.int (if own_room x0 c0 s0 (((0 : Int32) + 1) + 1) (((0 : Int64) + b1) + b2) then 1 else 0))]))
            by_cases hc157 : (if own_room x0 c0 s0 (((0 : Int32) + 1) + 1) (((0 : Int64) + b1) + b2) then 1 else 0) = (0 : Int32)
            · refine Go.by (fun _ kont => XS.icmpNo X156.here hx rfl (hb hby at_124) rfl (teq hc157).2 kont) ?_
              show Go _ _ _ _ _ _ _ (T156.setTop (mkF m 127 #[.val (.int c0), .val (.long s0), .second, .val (.long b1), .second, .val (.long b2), .second, .val (.long x0), .second, .val (.int fl), .val (.int (1 : Int32)), .val (.ref b134), .val (.long (b1 + b2)), .second, .val (.int (2 : Int32)), .val (.int (1 : Int32)), .val (.int (0 : Int32)), .val (.int (0 : Int32))] []))
              refine Go.by (fun _ kont => XS.iconst X156.here hx rfl (hb hby at_127) (XS.goto X156.here hx rfl (pc0 := 128) (pc' := 132) rfl (hb hby at_128) (by decide) (by decide) kont)) ?_
              show Go _ _ _ _ _ _ _ (T156.setTop (mkF m 132 #[.val (.int c0), .val (.long s0), .second, .val (.long b1), .second, .val (.long b2), .second, .val (.long x0), .second, .val (.int fl), .val (.int (1 : Int32)), .val (.ref b134), .val (.long (b1 + b2)), .second, .val (.int (2 : Int32)), .val (.int (1 : Int32)), .val (.int (0 : Int32)), .val (.int (0 : Int32))] [(.int (1 : Int32))]))
              refine Go.retN X156 hx (t := .boolean) hret (by simp) hlk (hb hby at_132) ?_ (by decide) (by decide)
              show Q0 Z h0 n0 (some (.int (1 : Int32))) T156.heap _
              rw [eh156]
              exact ⟨rfl, N156⟩
            · refine Go.by (fun _ kont => XS.icmpYes X156.here hx rfl (pc0 := 124) (pc' := 131) rfl (hb hby at_124) rfl (feq hc157).2 (by decide) (by decide) kont) ?_
              show Go _ _ _ _ _ _ _ (T156.setTop (mkF m 131 #[.val (.int c0), .val (.long s0), .second, .val (.long b1), .second, .val (.long b2), .second, .val (.long x0), .second, .val (.int fl), .val (.int (1 : Int32)), .val (.ref b134), .val (.long (b1 + b2)), .second, .val (.int (2 : Int32)), .val (.int (1 : Int32)), .val (.int (0 : Int32)), .val (.int (0 : Int32))] []))
              refine Go.by (fun _ kont => XS.iconst X156.here hx rfl (hb hby at_131) kont) ?_
              show Go _ _ _ _ _ _ _ (T156.setTop (mkF m 132 #[.val (.int c0), .val (.long s0), .second, .val (.long b1), .second, .val (.long b2), .second, .val (.long x0), .second, .val (.int fl), .val (.int (1 : Int32)), .val (.ref b134), .val (.long (b1 + b2)), .second, .val (.int (2 : Int32)), .val (.int (1 : Int32)), .val (.int (0 : Int32)), .val (.int (0 : Int32))] [(.int (0 : Int32))]))
              exfalso
              revert hc157
              simp [own_room, hc101, hc142, hc151, hc152, hc155]
          · refine Go.by (fun _ kont => XS.ifNo X140.here hx rfl (hb hby at_88) rfl ((if0 _ _).trans (flt (fun z => hc155 ((lw_gt _ _).mp z))).2.2.1) kont) ?_
            show Go _ _ _ _ _ _ _ (T140.setTop (mkF m 91 #[.val (.int c0), .val (.long s0), .second, .val (.long b1), .second, .val (.long b2), .second, .val (.long x0), .second, .val (.int fl), .val (.int (1 : Int32)), .val (.ref b134), .val (.long (b1 + b2)), .second, .val (.int (2 : Int32)), .val (.int (1 : Int32)), .unset, .unset] []))
            refine Go.by (fun _ kont => XS.iconst X140.here hx rfl (hb hby at_91) (XS.goto X140.here hx rfl (pc0 := 92) (pc' := 96) rfl (hb hby at_92) (by decide) (by decide) (XS.istore X140.here hx rfl (hb hby at_96) rfl (l' := #[.val (.int c0), .val (.long s0), .second, .val (.long b1), .second, .val (.long b2), .second, .val (.long x0), .second, .val (.int fl), .val (.int (1 : Int32)), .val (.ref b134), .val (.long (b1 + b2)), .second, .val (.int (2 : Int32)), .val (.int (1 : Int32)), .val (.int (1 : Int32)), .unset]) rfl (XS.iload X140.here hx rfl (hb hby at_98) rfl kont)))) ?_
            show Go _ _ _ _ _ _ _ (T140.setTop (mkF m 100 #[.val (.int c0), .val (.long s0), .second, .val (.long b1), .second, .val (.long b2), .second, .val (.long x0), .second, .val (.int fl), .val (.int (1 : Int32)), .val (.ref b134), .val (.long (b1 + b2)), .second, .val (.int (2 : Int32)), .val (.int (1 : Int32)), .val (.int (1 : Int32)), .unset] [(.int (1 : Int32))]))
            refine Go.by (fun _ kont => XS.ifNo X140.here hx rfl (hb hby at_100) rfl (by decide) kont) ?_
            show Go _ _ _ _ _ _ _ (T140.setTop (mkF m 103 #[.val (.int c0), .val (.long s0), .second, .val (.long b1), .second, .val (.long b2), .second, .val (.long x0), .second, .val (.int fl), .val (.int (1 : Int32)), .val (.ref b134), .val (.long (b1 + b2)), .second, .val (.int (2 : Int32)), .val (.int (1 : Int32)), .val (.int (1 : Int32)), .unset] []))
            refine Go.by (fun _ kont => XS.iload X140.here hx rfl (hb hby at_103) rfl kont) ?_
            show Go _ _ _ _ _ _ _ (T140.setTop (mkF m 105 #[.val (.int c0), .val (.long s0), .second, .val (.long b1), .second, .val (.long b2), .second, .val (.long x0), .second, .val (.int fl), .val (.int (1 : Int32)), .val (.ref b134), .val (.long (b1 + b2)), .second, .val (.int (2 : Int32)), .val (.int (1 : Int32)), .val (.int (1 : Int32)), .unset] [(.int (1 : Int32))]))
            refine Go.by (fun _ kont => XS.ifNo X140.here hx rfl (hb hby at_105) rfl (by decide) kont) ?_
            show Go _ _ _ _ _ _ _ (T140.setTop (mkF m 108 #[.val (.int c0), .val (.long s0), .second, .val (.long b1), .second, .val (.long b2), .second, .val (.long x0), .second, .val (.int fl), .val (.int (1 : Int32)), .val (.ref b134), .val (.long (b1 + b2)), .second, .val (.int (2 : Int32)), .val (.int (1 : Int32)), .val (.int (1 : Int32)), .unset] []))
            refine Go.by (fun _ kont => XS.iconst X140.here hx rfl (hb hby at_108) (XS.goto X140.here hx rfl (pc0 := 109) (pc' := 113) rfl (hb hby at_109) (by decide) (by decide) (XS.istore X140.here hx rfl (hb hby at_113) rfl (l' := #[.val (.int c0), .val (.long s0), .second, .val (.long b1), .second, .val (.long b2), .second, .val (.long x0), .second, .val (.int fl), .val (.int (1 : Int32)), .val (.ref b134), .val (.long (b1 + b2)), .second, .val (.int (2 : Int32)), .val (.int (1 : Int32)), .val (.int (1 : Int32)), .val (.int (1 : Int32))]) rfl (XS.aload X140.here hx rfl (hb hby at_115) rfl rfl (XS.lload X140.here hx rfl (hb hby at_117) rfl kont))))) ?_
            show Go _ _ _ _ _ _ _ (T140.setTop (mkF m 119 #[.val (.int c0), .val (.long s0), .second, .val (.long b1), .second, .val (.long b2), .second, .val (.long x0), .second, .val (.int fl), .val (.int (1 : Int32)), .val (.ref b134), .val (.long (b1 + b2)), .second, .val (.int (2 : Int32)), .val (.int (1 : Int32)), .val (.int (1 : Int32)), .val (.int (1 : Int32))] [(.long x0), (.ref b134)]))
            obtain ⟨cq158, kq158, q158a, q158b, q158c⟩ := isOf hZ rfl E140z
            obtain ⟨_, _, ⟨T158, L158, k158, n158⟩, -, X158, ⟨Lc158, hQ158, l158, y158, z158⟩, st158⟩ := X140.virtualBack hx (y := (⟨"com/example/kyu/kyu/PrefetchWindow", "hasRoomFor", "(J)Z"⟩ : MethodName)) (z := (⟨"com/example/kyu/kyu/PrefetchWindow", "hasRoomFor", "(J)Z"⟩ : MethodName)) hown (mvT hZ (hw _ (List.mem_of_getElem? (i := 22) rfl))) (mvT hZ (hw _ (List.mem_of_getElem? (i := 23) rfl))) (notFace_of_selects (args := #[]) (mvT hZ (hw _ (List.mem_of_getElem? (i := 25) rfl)))) (mvT hZ (hw _ (List.mem_of_getElem? (i := 25) rfl))) (mvT hZ (hw _ (List.mem_of_getElem? (i := 24) rfl))) (by decide) (backOf (W := 0) (rmH l Z a0 hw [] b134 x0 c0 s0 (((0 : Int32) + 1) + 1) (((0 : Int64) + b1) + b2) T140.heap n0 Z141 E140z F140z_countLimit F140z_sizeLimit F140z_count F140z_size ge_b134) hZ (hw _ (List.mem_of_getElem? (i := 26) rfl)) (hw _ (List.mem_of_getElem? (i := 2) rfl)) (by decide) (by decide)) q158a q158c (g := (mkF m 119 #[.val (.int c0), .val (.long s0), .second, .val (.long b1), .second, .val (.long b2), .second, .val (.long x0), .second, .val (.int fl), .val (.int (1 : Int32)), .val (.ref b134), .val (.long (b1 + b2)), .second, .val (.int (2 : Int32)), .val (.int (1 : Int32)), .val (.int (1 : Int32)), .val (.int (1 : Int32))] [(.long x0), (.ref b134)])) rfl (by rw [hml]; rfl) (Steps.refl _) (argsL := [(.long x0)]) (rest := []) (lenOf pd0_2 rfl) rfl (by show 2 * 0 + _ ≤ _; exact Nat.le_of_eq rfl) (hb hby at_119) (fun _ _ => ⟨rfl, rfl, (by decide : 1 + 0 ≤ _), (by decide : 4 + 0 ≤ _)⟩)
            dsimp only [Pt.U, Pt.locs, Pt.cells, Pt.slots] at X158 l158 y158 z158 st158 hQ158
            subst l158 y158 z158
            obtain ⟨rfl, N158q, eh158⟩ := hQ158
            have N158 := Fr.app N140 N158q
            refine Go.tr st158 ?_
            show Go _ _ _ _ _ _ _ (T158.setTop (mkF m 122 #[.val (.int c0), .val (.long s0), .second, .val (.long b1), .second, .val (.long b2), .second, .val (.long x0), .second, .val (.int fl), .val (.int (1 : Int32)), .val (.ref b134), .val (.long (b1 + b2)), .second, .val (.int (2 : Int32)), .val (.int (1 : Int32)), .val (.int (1 : Int32)), .val (.int (1 : Int32))] [(.int (if own_room x0 c0 s0 (((0 : Int32) + 1) + 1) (((0 : Int64) + b1) + b2) then 1 else 0))]))
            refine Go.by (fun _ kont => XS.iload X158.here hx rfl (hb hby at_122) rfl kont) ?_
            show Go _ _ _ _ _ _ _ (T158.setTop (mkF m 124 #[.val (.int c0), .val (.long s0), .second, .val (.long b1), .second, .val (.long b2), .second, .val (.long x0), .second, .val (.int fl), .val (.int (1 : Int32)), .val (.ref b134), .val (.long (b1 + b2)), .second, .val (.int (2 : Int32)), .val (.int (1 : Int32)), .val (.int (1 : Int32)), .val (.int (1 : Int32))] [(.int (1 : Int32)), (.int (if own_room x0 c0 s0 (((0 : Int32) + 1) + 1) (((0 : Int64) + b1) + b2) then 1 else 0))]))
            by_cases hc159 : (if own_room x0 c0 s0 (((0 : Int32) + 1) + 1) (((0 : Int64) + b1) + b2) then 1 else 0) = (1 : Int32)
            · refine Go.by (fun _ kont => XS.icmpNo X158.here hx rfl (hb hby at_124) rfl (teq hc159).2 kont) ?_
              show Go _ _ _ _ _ _ _ (T158.setTop (mkF m 127 #[.val (.int c0), .val (.long s0), .second, .val (.long b1), .second, .val (.long b2), .second, .val (.long x0), .second, .val (.int fl), .val (.int (1 : Int32)), .val (.ref b134), .val (.long (b1 + b2)), .second, .val (.int (2 : Int32)), .val (.int (1 : Int32)), .val (.int (1 : Int32)), .val (.int (1 : Int32))] []))
              refine Go.by (fun _ kont => XS.iconst X158.here hx rfl (hb hby at_127) (XS.goto X158.here hx rfl (pc0 := 128) (pc' := 132) rfl (hb hby at_128) (by decide) (by decide) kont)) ?_
              show Go _ _ _ _ _ _ _ (T158.setTop (mkF m 132 #[.val (.int c0), .val (.long s0), .second, .val (.long b1), .second, .val (.long b2), .second, .val (.long x0), .second, .val (.int fl), .val (.int (1 : Int32)), .val (.ref b134), .val (.long (b1 + b2)), .second, .val (.int (2 : Int32)), .val (.int (1 : Int32)), .val (.int (1 : Int32)), .val (.int (1 : Int32))] [(.int (1 : Int32))]))
              refine Go.retN X158 hx (t := .boolean) hret (by simp) hlk (hb hby at_132) ?_ (by decide) (by decide)
              show Q0 Z h0 n0 (some (.int (1 : Int32))) T158.heap _
              rw [eh158]
              exact ⟨rfl, N158⟩
            · refine Go.by (fun _ kont => XS.icmpYes X158.here hx rfl (pc0 := 124) (pc' := 131) rfl (hb hby at_124) rfl (feq hc159).2 (by decide) (by decide) kont) ?_
              show Go _ _ _ _ _ _ _ (T158.setTop (mkF m 131 #[.val (.int c0), .val (.long s0), .second, .val (.long b1), .second, .val (.long b2), .second, .val (.long x0), .second, .val (.int fl), .val (.int (1 : Int32)), .val (.ref b134), .val (.long (b1 + b2)), .second, .val (.int (2 : Int32)), .val (.int (1 : Int32)), .val (.int (1 : Int32)), .val (.int (1 : Int32))] []))
              refine Go.by (fun _ kont => XS.iconst X158.here hx rfl (hb hby at_131) kont) ?_
              show Go _ _ _ _ _ _ _ (T158.setTop (mkF m 132 #[.val (.int c0), .val (.long s0), .second, .val (.long b1), .second, .val (.long b2), .second, .val (.long x0), .second, .val (.int fl), .val (.int (1 : Int32)), .val (.ref b134), .val (.long (b1 + b2)), .second, .val (.int (2 : Int32)), .val (.int (1 : Int32)), .val (.int (1 : Int32)), .val (.int (1 : Int32))] [(.int (0 : Int32))]))
              exfalso
              revert hc159
              simp [own_room, hc101, hc142, hc151, hc152, hc155]
      · refine Go.by (fun _ kont => XS.icmpYes X140.here hx rfl (pc0 := 65) (pc' := 72) rfl (hb hby at_65) rfl (flt hc151).2.1 (by decide) (by decide) kont) ?_
        show Go _ _ _ _ _ _ _ (T140.setTop (mkF m 72 #[.val (.int c0), .val (.long s0), .second, .val (.long b1), .second, .val (.long b2), .second, .val (.long x0), .second, .val (.int fl), .val (.int (1 : Int32)), .val (.ref b134), .val (.long (b1 + b2)), .second, .val (.int (2 : Int32)), .unset, .unset, .unset] []))
        refine Go.by (fun _ kont => XS.iconst X140.here hx rfl (hb hby at_72) (XS.istore X140.here hx rfl (hb hby at_73) rfl (l' := #[.val (.int c0), .val (.long s0), .second, .val (.long b1), .second, .val (.long b2), .second, .val (.long x0), .second, .val (.int fl), .val (.int (1 : Int32)), .val (.ref b134), .val (.long (b1 + b2)), .second, .val (.int (2 : Int32)), .val (.int (0 : Int32)), .unset, .unset]) rfl (XS.lloadN X140.here hx rfl (hb hby at_75) rfl (XS.lconst X140.here hx rfl (hb hby at_76) (XS.lcmp X140.here hx rfl (hb hby at_77) rfl kont))))) ?_
        show Go _ _ _ _ _ _ _ (T140.setTop (mkF m 78 #[.val (.int c0), .val (.long s0), .second, .val (.long b1), .second, .val (.long b2), .second, .val (.long x0), .second, .val (.int fl), .val (.int (1 : Int32)), .val (.ref b134), .val (.long (b1 + b2)), .second, .val (.int (2 : Int32)), .val (.int (0 : Int32)), .unset, .unset] [(.int (lcmpW s0 (0 : Int64)))]))
        by_cases hc160 : s0 = (0 : Int64)
        · refine Go.by (fun _ kont => XS.ifYes X140.here hx rfl (pc0 := 78) (pc' := 91) rfl (hb hby at_78) rfl ((if0 _ _).trans (teq ((lw_eq _ _).mpr hc160)).1) (by decide) (by decide) kont) ?_
          show Go _ _ _ _ _ _ _ (T140.setTop (mkF m 91 #[.val (.int c0), .val (.long s0), .second, .val (.long b1), .second, .val (.long b2), .second, .val (.long x0), .second, .val (.int fl), .val (.int (1 : Int32)), .val (.ref b134), .val (.long (b1 + b2)), .second, .val (.int (2 : Int32)), .val (.int (0 : Int32)), .unset, .unset] []))
          refine Go.by (fun _ kont => XS.iconst X140.here hx rfl (hb hby at_91) (XS.goto X140.here hx rfl (pc0 := 92) (pc' := 96) rfl (hb hby at_92) (by decide) (by decide) (XS.istore X140.here hx rfl (hb hby at_96) rfl (l' := #[.val (.int c0), .val (.long s0), .second, .val (.long b1), .second, .val (.long b2), .second, .val (.long x0), .second, .val (.int fl), .val (.int (1 : Int32)), .val (.ref b134), .val (.long (b1 + b2)), .second, .val (.int (2 : Int32)), .val (.int (0 : Int32)), .val (.int (1 : Int32)), .unset]) rfl (XS.iload X140.here hx rfl (hb hby at_98) rfl kont)))) ?_
          show Go _ _ _ _ _ _ _ (T140.setTop (mkF m 100 #[.val (.int c0), .val (.long s0), .second, .val (.long b1), .second, .val (.long b2), .second, .val (.long x0), .second, .val (.int fl), .val (.int (1 : Int32)), .val (.ref b134), .val (.long (b1 + b2)), .second, .val (.int (2 : Int32)), .val (.int (0 : Int32)), .val (.int (1 : Int32)), .unset] [(.int (0 : Int32))]))
          refine Go.by (fun _ kont => XS.ifYes X140.here hx rfl (pc0 := 100) (pc' := 112) rfl (hb hby at_100) rfl (by decide) (by decide) (by decide) kont) ?_
          show Go _ _ _ _ _ _ _ (T140.setTop (mkF m 112 #[.val (.int c0), .val (.long s0), .second, .val (.long b1), .second, .val (.long b2), .second, .val (.long x0), .second, .val (.int fl), .val (.int (1 : Int32)), .val (.ref b134), .val (.long (b1 + b2)), .second, .val (.int (2 : Int32)), .val (.int (0 : Int32)), .val (.int (1 : Int32)), .unset] []))
          refine Go.by (fun _ kont => XS.iconst X140.here hx rfl (hb hby at_112) (XS.istore X140.here hx rfl (hb hby at_113) rfl (l' := #[.val (.int c0), .val (.long s0), .second, .val (.long b1), .second, .val (.long b2), .second, .val (.long x0), .second, .val (.int fl), .val (.int (1 : Int32)), .val (.ref b134), .val (.long (b1 + b2)), .second, .val (.int (2 : Int32)), .val (.int (0 : Int32)), .val (.int (1 : Int32)), .val (.int (0 : Int32))]) rfl (XS.aload X140.here hx rfl (hb hby at_115) rfl rfl (XS.lload X140.here hx rfl (hb hby at_117) rfl kont)))) ?_
          show Go _ _ _ _ _ _ _ (T140.setTop (mkF m 119 #[.val (.int c0), .val (.long s0), .second, .val (.long b1), .second, .val (.long b2), .second, .val (.long x0), .second, .val (.int fl), .val (.int (1 : Int32)), .val (.ref b134), .val (.long (b1 + b2)), .second, .val (.int (2 : Int32)), .val (.int (0 : Int32)), .val (.int (1 : Int32)), .val (.int (0 : Int32))] [(.long x0), (.ref b134)]))
          obtain ⟨cq161, kq161, q161a, q161b, q161c⟩ := isOf hZ rfl E140z
          obtain ⟨_, _, ⟨T161, L161, k161, n161⟩, -, X161, ⟨Lc161, hQ161, l161, y161, z161⟩, st161⟩ := X140.virtualBack hx (y := (⟨"com/example/kyu/kyu/PrefetchWindow", "hasRoomFor", "(J)Z"⟩ : MethodName)) (z := (⟨"com/example/kyu/kyu/PrefetchWindow", "hasRoomFor", "(J)Z"⟩ : MethodName)) hown (mvT hZ (hw _ (List.mem_of_getElem? (i := 22) rfl))) (mvT hZ (hw _ (List.mem_of_getElem? (i := 23) rfl))) (notFace_of_selects (args := #[]) (mvT hZ (hw _ (List.mem_of_getElem? (i := 25) rfl)))) (mvT hZ (hw _ (List.mem_of_getElem? (i := 25) rfl))) (mvT hZ (hw _ (List.mem_of_getElem? (i := 24) rfl))) (by decide) (backOf (W := 0) (rmH l Z a0 hw [] b134 x0 c0 s0 (((0 : Int32) + 1) + 1) (((0 : Int64) + b1) + b2) T140.heap n0 Z141 E140z F140z_countLimit F140z_sizeLimit F140z_count F140z_size ge_b134) hZ (hw _ (List.mem_of_getElem? (i := 26) rfl)) (hw _ (List.mem_of_getElem? (i := 2) rfl)) (by decide) (by decide)) q161a q161c (g := (mkF m 119 #[.val (.int c0), .val (.long s0), .second, .val (.long b1), .second, .val (.long b2), .second, .val (.long x0), .second, .val (.int fl), .val (.int (1 : Int32)), .val (.ref b134), .val (.long (b1 + b2)), .second, .val (.int (2 : Int32)), .val (.int (0 : Int32)), .val (.int (1 : Int32)), .val (.int (0 : Int32))] [(.long x0), (.ref b134)])) rfl (by rw [hml]; rfl) (Steps.refl _) (argsL := [(.long x0)]) (rest := []) (lenOf pd0_2 rfl) rfl (by show 2 * 0 + _ ≤ _; exact Nat.le_of_eq rfl) (hb hby at_119) (fun _ _ => ⟨rfl, rfl, (by decide : 1 + 0 ≤ _), (by decide : 4 + 0 ≤ _)⟩)
          dsimp only [Pt.U, Pt.locs, Pt.cells, Pt.slots] at X161 l161 y161 z161 st161 hQ161
          subst l161 y161 z161
          obtain ⟨rfl, N161q, eh161⟩ := hQ161
          have N161 := Fr.app N140 N161q
          refine Go.tr st161 ?_
          show Go _ _ _ _ _ _ _ (T161.setTop (mkF m 122 #[.val (.int c0), .val (.long s0), .second, .val (.long b1), .second, .val (.long b2), .second, .val (.long x0), .second, .val (.int fl), .val (.int (1 : Int32)), .val (.ref b134), .val (.long (b1 + b2)), .second, .val (.int (2 : Int32)), .val (.int (0 : Int32)), .val (.int (1 : Int32)), .val (.int (0 : Int32))] [(.int (if own_room x0 c0 s0 (((0 : Int32) + 1) + 1) (((0 : Int64) + b1) + b2) then 1 else 0))]))
          refine Go.by (fun _ kont => XS.iload X161.here hx rfl (hb hby at_122) rfl kont) ?_
          show Go _ _ _ _ _ _ _ (T161.setTop (mkF m 124 #[.val (.int c0), .val (.long s0), .second, .val (.long b1), .second, .val (.long b2), .second, .val (.long x0), .second, .val (.int fl), .val (.int (1 : Int32)), .val (.ref b134), .val (.long (b1 + b2)), .second, .val (.int (2 : Int32)), .val (.int (0 : Int32)), .val (.int (1 : Int32)), .val (.int (0 : Int32))] [(.int (0 : Int32)), (.int (if own_room x0 c0 s0 (((0 : Int32) + 1) + 1) (((0 : Int64) + b1) + b2) then 1 else 0))]))
          by_cases hc162 : (if own_room x0 c0 s0 (((0 : Int32) + 1) + 1) (((0 : Int64) + b1) + b2) then 1 else 0) = (0 : Int32)
          · refine Go.by (fun _ kont => XS.icmpNo X161.here hx rfl (hb hby at_124) rfl (teq hc162).2 kont) ?_
            show Go _ _ _ _ _ _ _ (T161.setTop (mkF m 127 #[.val (.int c0), .val (.long s0), .second, .val (.long b1), .second, .val (.long b2), .second, .val (.long x0), .second, .val (.int fl), .val (.int (1 : Int32)), .val (.ref b134), .val (.long (b1 + b2)), .second, .val (.int (2 : Int32)), .val (.int (0 : Int32)), .val (.int (1 : Int32)), .val (.int (0 : Int32))] []))
            refine Go.by (fun _ kont => XS.iconst X161.here hx rfl (hb hby at_127) (XS.goto X161.here hx rfl (pc0 := 128) (pc' := 132) rfl (hb hby at_128) (by decide) (by decide) kont)) ?_
            show Go _ _ _ _ _ _ _ (T161.setTop (mkF m 132 #[.val (.int c0), .val (.long s0), .second, .val (.long b1), .second, .val (.long b2), .second, .val (.long x0), .second, .val (.int fl), .val (.int (1 : Int32)), .val (.ref b134), .val (.long (b1 + b2)), .second, .val (.int (2 : Int32)), .val (.int (0 : Int32)), .val (.int (1 : Int32)), .val (.int (0 : Int32))] [(.int (1 : Int32))]))
            refine Go.retN X161 hx (t := .boolean) hret (by simp) hlk (hb hby at_132) ?_ (by decide) (by decide)
            show Q0 Z h0 n0 (some (.int (1 : Int32))) T161.heap _
            rw [eh161]
            exact ⟨rfl, N161⟩
          · refine Go.by (fun _ kont => XS.icmpYes X161.here hx rfl (pc0 := 124) (pc' := 131) rfl (hb hby at_124) rfl (feq hc162).2 (by decide) (by decide) kont) ?_
            show Go _ _ _ _ _ _ _ (T161.setTop (mkF m 131 #[.val (.int c0), .val (.long s0), .second, .val (.long b1), .second, .val (.long b2), .second, .val (.long x0), .second, .val (.int fl), .val (.int (1 : Int32)), .val (.ref b134), .val (.long (b1 + b2)), .second, .val (.int (2 : Int32)), .val (.int (0 : Int32)), .val (.int (1 : Int32)), .val (.int (0 : Int32))] []))
            refine Go.by (fun _ kont => XS.iconst X161.here hx rfl (hb hby at_131) kont) ?_
            show Go _ _ _ _ _ _ _ (T161.setTop (mkF m 132 #[.val (.int c0), .val (.long s0), .second, .val (.long b1), .second, .val (.long b2), .second, .val (.long x0), .second, .val (.int fl), .val (.int (1 : Int32)), .val (.ref b134), .val (.long (b1 + b2)), .second, .val (.int (2 : Int32)), .val (.int (0 : Int32)), .val (.int (1 : Int32)), .val (.int (0 : Int32))] [(.int (0 : Int32))]))
            exfalso
            revert hc162
            simp [own_room, hc101, hc142, hc151, hc160]
        · refine Go.by (fun _ kont => XS.ifNo X140.here hx rfl (hb hby at_78) rfl ((if0 _ _).trans (feq (fun z => hc160 ((lw_eq _ _).mp z))).1) kont) ?_
          show Go _ _ _ _ _ _ _ (T140.setTop (mkF m 81 #[.val (.int c0), .val (.long s0), .second, .val (.long b1), .second, .val (.long b2), .second, .val (.long x0), .second, .val (.int fl), .val (.int (1 : Int32)), .val (.ref b134), .val (.long (b1 + b2)), .second, .val (.int (2 : Int32)), .val (.int (0 : Int32)), .unset, .unset] []))
          refine Go.by (fun _ kont => XS.lload X140.here hx rfl (hb hby at_81) rfl (XS.lload X140.here hx rfl (hb hby at_83) rfl (XS.ladd X140.here hx rfl (hb hby at_85) rfl (XS.lloadN X140.here hx rfl (hb hby at_86) rfl (XS.lcmp X140.here hx rfl (hb hby at_87) rfl kont))))) ?_
          show Go _ _ _ _ _ _ _ (T140.setTop (mkF m 88 #[.val (.int c0), .val (.long s0), .second, .val (.long b1), .second, .val (.long b2), .second, .val (.long x0), .second, .val (.int fl), .val (.int (1 : Int32)), .val (.ref b134), .val (.long (b1 + b2)), .second, .val (.int (2 : Int32)), .val (.int (0 : Int32)), .unset, .unset] [(.int (lcmpW ((b1 + b2) + x0) s0))]))
          by_cases hc163 : s0 < ((b1 + b2) + x0)
          · refine Go.by (fun _ kont => XS.ifYes X140.here hx rfl (pc0 := 88) (pc' := 95) rfl (hb hby at_88) rfl ((if0 _ _).trans (tlt ((lw_gt _ _).mpr hc163)).2.2.1) (by decide) (by decide) kont) ?_
            show Go _ _ _ _ _ _ _ (T140.setTop (mkF m 95 #[.val (.int c0), .val (.long s0), .second, .val (.long b1), .second, .val (.long b2), .second, .val (.long x0), .second, .val (.int fl), .val (.int (1 : Int32)), .val (.ref b134), .val (.long (b1 + b2)), .second, .val (.int (2 : Int32)), .val (.int (0 : Int32)), .unset, .unset] []))
            refine Go.by (fun _ kont => XS.iconst X140.here hx rfl (hb hby at_95) (XS.istore X140.here hx rfl (hb hby at_96) rfl (l' := #[.val (.int c0), .val (.long s0), .second, .val (.long b1), .second, .val (.long b2), .second, .val (.long x0), .second, .val (.int fl), .val (.int (1 : Int32)), .val (.ref b134), .val (.long (b1 + b2)), .second, .val (.int (2 : Int32)), .val (.int (0 : Int32)), .val (.int (0 : Int32)), .unset]) rfl (XS.iload X140.here hx rfl (hb hby at_98) rfl kont))) ?_
            show Go _ _ _ _ _ _ _ (T140.setTop (mkF m 100 #[.val (.int c0), .val (.long s0), .second, .val (.long b1), .second, .val (.long b2), .second, .val (.long x0), .second, .val (.int fl), .val (.int (1 : Int32)), .val (.ref b134), .val (.long (b1 + b2)), .second, .val (.int (2 : Int32)), .val (.int (0 : Int32)), .val (.int (0 : Int32)), .unset] [(.int (0 : Int32))]))
            refine Go.by (fun _ kont => XS.ifYes X140.here hx rfl (pc0 := 100) (pc' := 112) rfl (hb hby at_100) rfl (by decide) (by decide) (by decide) kont) ?_
            show Go _ _ _ _ _ _ _ (T140.setTop (mkF m 112 #[.val (.int c0), .val (.long s0), .second, .val (.long b1), .second, .val (.long b2), .second, .val (.long x0), .second, .val (.int fl), .val (.int (1 : Int32)), .val (.ref b134), .val (.long (b1 + b2)), .second, .val (.int (2 : Int32)), .val (.int (0 : Int32)), .val (.int (0 : Int32)), .unset] []))
            refine Go.by (fun _ kont => XS.iconst X140.here hx rfl (hb hby at_112) (XS.istore X140.here hx rfl (hb hby at_113) rfl (l' := #[.val (.int c0), .val (.long s0), .second, .val (.long b1), .second, .val (.long b2), .second, .val (.long x0), .second, .val (.int fl), .val (.int (1 : Int32)), .val (.ref b134), .val (.long (b1 + b2)), .second, .val (.int (2 : Int32)), .val (.int (0 : Int32)), .val (.int (0 : Int32)), .val (.int (0 : Int32))]) rfl (XS.aload X140.here hx rfl (hb hby at_115) rfl rfl (XS.lload X140.here hx rfl (hb hby at_117) rfl kont)))) ?_
            show Go _ _ _ _ _ _ _ (T140.setTop (mkF m 119 #[.val (.int c0), .val (.long s0), .second, .val (.long b1), .second, .val (.long b2), .second, .val (.long x0), .second, .val (.int fl), .val (.int (1 : Int32)), .val (.ref b134), .val (.long (b1 + b2)), .second, .val (.int (2 : Int32)), .val (.int (0 : Int32)), .val (.int (0 : Int32)), .val (.int (0 : Int32))] [(.long x0), (.ref b134)]))
            obtain ⟨cq164, kq164, q164a, q164b, q164c⟩ := isOf hZ rfl E140z
            obtain ⟨_, _, ⟨T164, L164, k164, n164⟩, -, X164, ⟨Lc164, hQ164, l164, y164, z164⟩, st164⟩ := X140.virtualBack hx (y := (⟨"com/example/kyu/kyu/PrefetchWindow", "hasRoomFor", "(J)Z"⟩ : MethodName)) (z := (⟨"com/example/kyu/kyu/PrefetchWindow", "hasRoomFor", "(J)Z"⟩ : MethodName)) hown (mvT hZ (hw _ (List.mem_of_getElem? (i := 22) rfl))) (mvT hZ (hw _ (List.mem_of_getElem? (i := 23) rfl))) (notFace_of_selects (args := #[]) (mvT hZ (hw _ (List.mem_of_getElem? (i := 25) rfl)))) (mvT hZ (hw _ (List.mem_of_getElem? (i := 25) rfl))) (mvT hZ (hw _ (List.mem_of_getElem? (i := 24) rfl))) (by decide) (backOf (W := 0) (rmH l Z a0 hw [] b134 x0 c0 s0 (((0 : Int32) + 1) + 1) (((0 : Int64) + b1) + b2) T140.heap n0 Z141 E140z F140z_countLimit F140z_sizeLimit F140z_count F140z_size ge_b134) hZ (hw _ (List.mem_of_getElem? (i := 26) rfl)) (hw _ (List.mem_of_getElem? (i := 2) rfl)) (by decide) (by decide)) q164a q164c (g := (mkF m 119 #[.val (.int c0), .val (.long s0), .second, .val (.long b1), .second, .val (.long b2), .second, .val (.long x0), .second, .val (.int fl), .val (.int (1 : Int32)), .val (.ref b134), .val (.long (b1 + b2)), .second, .val (.int (2 : Int32)), .val (.int (0 : Int32)), .val (.int (0 : Int32)), .val (.int (0 : Int32))] [(.long x0), (.ref b134)])) rfl (by rw [hml]; rfl) (Steps.refl _) (argsL := [(.long x0)]) (rest := []) (lenOf pd0_2 rfl) rfl (by show 2 * 0 + _ ≤ _; exact Nat.le_of_eq rfl) (hb hby at_119) (fun _ _ => ⟨rfl, rfl, (by decide : 1 + 0 ≤ _), (by decide : 4 + 0 ≤ _)⟩)
            dsimp only [Pt.U, Pt.locs, Pt.cells, Pt.slots] at X164 l164 y164 z164 st164 hQ164
            subst l164 y164 z164
            obtain ⟨rfl, N164q, eh164⟩ := hQ164
            have N164 := Fr.app N140 N164q
            refine Go.tr st164 ?_
            show Go _ _ _ _ _ _ _ (T164.setTop (mkF m 122 #[.val (.int c0), .val (.long s0), .second, .val (.long b1), .second, .val (.long b2), .second, .val (.long x0), .second, .val (.int fl), .val (.int (1 : Int32)), .val (.ref b134), .val (.long (b1 + b2)), .second, .val (.int (2 : Int32)), .val (.int (0 : Int32)), .val (.int (0 : Int32)), .val (.int (0 : Int32))] [(.int (if own_room x0 c0 s0 (((0 : Int32) + 1) + 1) (((0 : Int64) + b1) + b2) then 1 else 0))]))
            refine Go.by (fun _ kont => XS.iload X164.here hx rfl (hb hby at_122) rfl kont) ?_
            show Go _ _ _ _ _ _ _ (T164.setTop (mkF m 124 #[.val (.int c0), .val (.long s0), .second, .val (.long b1), .second, .val (.long b2), .second, .val (.long x0), .second, .val (.int fl), .val (.int (1 : Int32)), .val (.ref b134), .val (.long (b1 + b2)), .second, .val (.int (2 : Int32)), .val (.int (0 : Int32)), .val (.int (0 : Int32)), .val (.int (0 : Int32))] [(.int (0 : Int32)), (.int (if own_room x0 c0 s0 (((0 : Int32) + 1) + 1) (((0 : Int64) + b1) + b2) then 1 else 0))]))
            by_cases hc165 : (if own_room x0 c0 s0 (((0 : Int32) + 1) + 1) (((0 : Int64) + b1) + b2) then 1 else 0) = (0 : Int32)
            · refine Go.by (fun _ kont => XS.icmpNo X164.here hx rfl (hb hby at_124) rfl (teq hc165).2 kont) ?_
              show Go _ _ _ _ _ _ _ (T164.setTop (mkF m 127 #[.val (.int c0), .val (.long s0), .second, .val (.long b1), .second, .val (.long b2), .second, .val (.long x0), .second, .val (.int fl), .val (.int (1 : Int32)), .val (.ref b134), .val (.long (b1 + b2)), .second, .val (.int (2 : Int32)), .val (.int (0 : Int32)), .val (.int (0 : Int32)), .val (.int (0 : Int32))] []))
              refine Go.by (fun _ kont => XS.iconst X164.here hx rfl (hb hby at_127) (XS.goto X164.here hx rfl (pc0 := 128) (pc' := 132) rfl (hb hby at_128) (by decide) (by decide) kont)) ?_
              show Go _ _ _ _ _ _ _ (T164.setTop (mkF m 132 #[.val (.int c0), .val (.long s0), .second, .val (.long b1), .second, .val (.long b2), .second, .val (.long x0), .second, .val (.int fl), .val (.int (1 : Int32)), .val (.ref b134), .val (.long (b1 + b2)), .second, .val (.int (2 : Int32)), .val (.int (0 : Int32)), .val (.int (0 : Int32)), .val (.int (0 : Int32))] [(.int (1 : Int32))]))
              refine Go.retN X164 hx (t := .boolean) hret (by simp) hlk (hb hby at_132) ?_ (by decide) (by decide)
              show Q0 Z h0 n0 (some (.int (1 : Int32))) T164.heap _
              rw [eh164]
              exact ⟨rfl, N164⟩
            · refine Go.by (fun _ kont => XS.icmpYes X164.here hx rfl (pc0 := 124) (pc' := 131) rfl (hb hby at_124) rfl (feq hc165).2 (by decide) (by decide) kont) ?_
              show Go _ _ _ _ _ _ _ (T164.setTop (mkF m 131 #[.val (.int c0), .val (.long s0), .second, .val (.long b1), .second, .val (.long b2), .second, .val (.long x0), .second, .val (.int fl), .val (.int (1 : Int32)), .val (.ref b134), .val (.long (b1 + b2)), .second, .val (.int (2 : Int32)), .val (.int (0 : Int32)), .val (.int (0 : Int32)), .val (.int (0 : Int32))] []))
              refine Go.by (fun _ kont => XS.iconst X164.here hx rfl (hb hby at_131) kont) ?_
              show Go _ _ _ _ _ _ _ (T164.setTop (mkF m 132 #[.val (.int c0), .val (.long s0), .second, .val (.long b1), .second, .val (.long b2), .second, .val (.long x0), .second, .val (.int fl), .val (.int (1 : Int32)), .val (.ref b134), .val (.long (b1 + b2)), .second, .val (.int (2 : Int32)), .val (.int (0 : Int32)), .val (.int (0 : Int32)), .val (.int (0 : Int32))] [(.int (0 : Int32))]))
              exfalso
              revert hc165
              simp [own_room, hc101, hc142, hc151, hc160, hc163]
          · refine Go.by (fun _ kont => XS.ifNo X140.here hx rfl (hb hby at_88) rfl ((if0 _ _).trans (flt (fun z => hc163 ((lw_gt _ _).mp z))).2.2.1) kont) ?_
            show Go _ _ _ _ _ _ _ (T140.setTop (mkF m 91 #[.val (.int c0), .val (.long s0), .second, .val (.long b1), .second, .val (.long b2), .second, .val (.long x0), .second, .val (.int fl), .val (.int (1 : Int32)), .val (.ref b134), .val (.long (b1 + b2)), .second, .val (.int (2 : Int32)), .val (.int (0 : Int32)), .unset, .unset] []))
            refine Go.by (fun _ kont => XS.iconst X140.here hx rfl (hb hby at_91) (XS.goto X140.here hx rfl (pc0 := 92) (pc' := 96) rfl (hb hby at_92) (by decide) (by decide) (XS.istore X140.here hx rfl (hb hby at_96) rfl (l' := #[.val (.int c0), .val (.long s0), .second, .val (.long b1), .second, .val (.long b2), .second, .val (.long x0), .second, .val (.int fl), .val (.int (1 : Int32)), .val (.ref b134), .val (.long (b1 + b2)), .second, .val (.int (2 : Int32)), .val (.int (0 : Int32)), .val (.int (1 : Int32)), .unset]) rfl (XS.iload X140.here hx rfl (hb hby at_98) rfl kont)))) ?_
            show Go _ _ _ _ _ _ _ (T140.setTop (mkF m 100 #[.val (.int c0), .val (.long s0), .second, .val (.long b1), .second, .val (.long b2), .second, .val (.long x0), .second, .val (.int fl), .val (.int (1 : Int32)), .val (.ref b134), .val (.long (b1 + b2)), .second, .val (.int (2 : Int32)), .val (.int (0 : Int32)), .val (.int (1 : Int32)), .unset] [(.int (0 : Int32))]))
            refine Go.by (fun _ kont => XS.ifYes X140.here hx rfl (pc0 := 100) (pc' := 112) rfl (hb hby at_100) rfl (by decide) (by decide) (by decide) kont) ?_
            show Go _ _ _ _ _ _ _ (T140.setTop (mkF m 112 #[.val (.int c0), .val (.long s0), .second, .val (.long b1), .second, .val (.long b2), .second, .val (.long x0), .second, .val (.int fl), .val (.int (1 : Int32)), .val (.ref b134), .val (.long (b1 + b2)), .second, .val (.int (2 : Int32)), .val (.int (0 : Int32)), .val (.int (1 : Int32)), .unset] []))
            refine Go.by (fun _ kont => XS.iconst X140.here hx rfl (hb hby at_112) (XS.istore X140.here hx rfl (hb hby at_113) rfl (l' := #[.val (.int c0), .val (.long s0), .second, .val (.long b1), .second, .val (.long b2), .second, .val (.long x0), .second, .val (.int fl), .val (.int (1 : Int32)), .val (.ref b134), .val (.long (b1 + b2)), .second, .val (.int (2 : Int32)), .val (.int (0 : Int32)), .val (.int (1 : Int32)), .val (.int (0 : Int32))]) rfl (XS.aload X140.here hx rfl (hb hby at_115) rfl rfl (XS.lload X140.here hx rfl (hb hby at_117) rfl kont)))) ?_
            show Go _ _ _ _ _ _ _ (T140.setTop (mkF m 119 #[.val (.int c0), .val (.long s0), .second, .val (.long b1), .second, .val (.long b2), .second, .val (.long x0), .second, .val (.int fl), .val (.int (1 : Int32)), .val (.ref b134), .val (.long (b1 + b2)), .second, .val (.int (2 : Int32)), .val (.int (0 : Int32)), .val (.int (1 : Int32)), .val (.int (0 : Int32))] [(.long x0), (.ref b134)]))
            obtain ⟨cq166, kq166, q166a, q166b, q166c⟩ := isOf hZ rfl E140z
            obtain ⟨_, _, ⟨T166, L166, k166, n166⟩, -, X166, ⟨Lc166, hQ166, l166, y166, z166⟩, st166⟩ := X140.virtualBack hx (y := (⟨"com/example/kyu/kyu/PrefetchWindow", "hasRoomFor", "(J)Z"⟩ : MethodName)) (z := (⟨"com/example/kyu/kyu/PrefetchWindow", "hasRoomFor", "(J)Z"⟩ : MethodName)) hown (mvT hZ (hw _ (List.mem_of_getElem? (i := 22) rfl))) (mvT hZ (hw _ (List.mem_of_getElem? (i := 23) rfl))) (notFace_of_selects (args := #[]) (mvT hZ (hw _ (List.mem_of_getElem? (i := 25) rfl)))) (mvT hZ (hw _ (List.mem_of_getElem? (i := 25) rfl))) (mvT hZ (hw _ (List.mem_of_getElem? (i := 24) rfl))) (by decide) (backOf (W := 0) (rmH l Z a0 hw [] b134 x0 c0 s0 (((0 : Int32) + 1) + 1) (((0 : Int64) + b1) + b2) T140.heap n0 Z141 E140z F140z_countLimit F140z_sizeLimit F140z_count F140z_size ge_b134) hZ (hw _ (List.mem_of_getElem? (i := 26) rfl)) (hw _ (List.mem_of_getElem? (i := 2) rfl)) (by decide) (by decide)) q166a q166c (g := (mkF m 119 #[.val (.int c0), .val (.long s0), .second, .val (.long b1), .second, .val (.long b2), .second, .val (.long x0), .second, .val (.int fl), .val (.int (1 : Int32)), .val (.ref b134), .val (.long (b1 + b2)), .second, .val (.int (2 : Int32)), .val (.int (0 : Int32)), .val (.int (1 : Int32)), .val (.int (0 : Int32))] [(.long x0), (.ref b134)])) rfl (by rw [hml]; rfl) (Steps.refl _) (argsL := [(.long x0)]) (rest := []) (lenOf pd0_2 rfl) rfl (by show 2 * 0 + _ ≤ _; exact Nat.le_of_eq rfl) (hb hby at_119) (fun _ _ => ⟨rfl, rfl, (by decide : 1 + 0 ≤ _), (by decide : 4 + 0 ≤ _)⟩)
            dsimp only [Pt.U, Pt.locs, Pt.cells, Pt.slots] at X166 l166 y166 z166 st166 hQ166
            subst l166 y166 z166
            obtain ⟨rfl, N166q, eh166⟩ := hQ166
            have N166 := Fr.app N140 N166q
            refine Go.tr st166 ?_
            show Go _ _ _ _ _ _ _ (T166.setTop (mkF m 122 #[.val (.int c0), .val (.long s0), .second, .val (.long b1), .second, .val (.long b2), .second, .val (.long x0), .second, .val (.int fl), .val (.int (1 : Int32)), .val (.ref b134), .val (.long (b1 + b2)), .second, .val (.int (2 : Int32)), .val (.int (0 : Int32)), .val (.int (1 : Int32)), .val (.int (0 : Int32))] [(.int (if own_room x0 c0 s0 (((0 : Int32) + 1) + 1) (((0 : Int64) + b1) + b2) then 1 else 0))]))
            refine Go.by (fun _ kont => XS.iload X166.here hx rfl (hb hby at_122) rfl kont) ?_
            show Go _ _ _ _ _ _ _ (T166.setTop (mkF m 124 #[.val (.int c0), .val (.long s0), .second, .val (.long b1), .second, .val (.long b2), .second, .val (.long x0), .second, .val (.int fl), .val (.int (1 : Int32)), .val (.ref b134), .val (.long (b1 + b2)), .second, .val (.int (2 : Int32)), .val (.int (0 : Int32)), .val (.int (1 : Int32)), .val (.int (0 : Int32))] [(.int (0 : Int32)), (.int (if own_room x0 c0 s0 (((0 : Int32) + 1) + 1) (((0 : Int64) + b1) + b2) then 1 else 0))]))
            by_cases hc167 : (if own_room x0 c0 s0 (((0 : Int32) + 1) + 1) (((0 : Int64) + b1) + b2) then 1 else 0) = (0 : Int32)
            · refine Go.by (fun _ kont => XS.icmpNo X166.here hx rfl (hb hby at_124) rfl (teq hc167).2 kont) ?_
              show Go _ _ _ _ _ _ _ (T166.setTop (mkF m 127 #[.val (.int c0), .val (.long s0), .second, .val (.long b1), .second, .val (.long b2), .second, .val (.long x0), .second, .val (.int fl), .val (.int (1 : Int32)), .val (.ref b134), .val (.long (b1 + b2)), .second, .val (.int (2 : Int32)), .val (.int (0 : Int32)), .val (.int (1 : Int32)), .val (.int (0 : Int32))] []))
              refine Go.by (fun _ kont => XS.iconst X166.here hx rfl (hb hby at_127) (XS.goto X166.here hx rfl (pc0 := 128) (pc' := 132) rfl (hb hby at_128) (by decide) (by decide) kont)) ?_
              show Go _ _ _ _ _ _ _ (T166.setTop (mkF m 132 #[.val (.int c0), .val (.long s0), .second, .val (.long b1), .second, .val (.long b2), .second, .val (.long x0), .second, .val (.int fl), .val (.int (1 : Int32)), .val (.ref b134), .val (.long (b1 + b2)), .second, .val (.int (2 : Int32)), .val (.int (0 : Int32)), .val (.int (1 : Int32)), .val (.int (0 : Int32))] [(.int (1 : Int32))]))
              refine Go.retN X166 hx (t := .boolean) hret (by simp) hlk (hb hby at_132) ?_ (by decide) (by decide)
              show Q0 Z h0 n0 (some (.int (1 : Int32))) T166.heap _
              rw [eh166]
              exact ⟨rfl, N166⟩
            · refine Go.by (fun _ kont => XS.icmpYes X166.here hx rfl (pc0 := 124) (pc' := 131) rfl (hb hby at_124) rfl (feq hc167).2 (by decide) (by decide) kont) ?_
              show Go _ _ _ _ _ _ _ (T166.setTop (mkF m 131 #[.val (.int c0), .val (.long s0), .second, .val (.long b1), .second, .val (.long b2), .second, .val (.long x0), .second, .val (.int fl), .val (.int (1 : Int32)), .val (.ref b134), .val (.long (b1 + b2)), .second, .val (.int (2 : Int32)), .val (.int (0 : Int32)), .val (.int (1 : Int32)), .val (.int (0 : Int32))] []))
              refine Go.by (fun _ kont => XS.iconst X166.here hx rfl (hb hby at_131) kont) ?_
              show Go _ _ _ _ _ _ _ (T166.setTop (mkF m 132 #[.val (.int c0), .val (.long s0), .second, .val (.long b1), .second, .val (.long b2), .second, .val (.long x0), .second, .val (.int fl), .val (.int (1 : Int32)), .val (.ref b134), .val (.long (b1 + b2)), .second, .val (.int (2 : Int32)), .val (.int (0 : Int32)), .val (.int (1 : Int32)), .val (.int (0 : Int32))] [(.int (0 : Int32))]))
              exfalso
              revert hc167
              simp [own_room, hc101, hc142, hc151, hc160, hc163]

set_option maxRecDepth 65536 in
set_option maxHeartbeats 40000000 in
theorem comes_1 {Post : Tables → Env → Array Value → State → Outcome → State → Prop} (hpost : ∀ tb e args s v u, (limb_1_1.after args s (.returned v) u = true ∧ limb_1_2.after args s (.returned v) u = true ∧ True) → FrameEnd s (.returned v) u (Jvm.fieldLocs frame_1_writes args s ++ Jvm.arrayLocs frame_1_arrays args s ++ Jvm.staticLocs frame_1_statics s) 16 128 → Post tb e args s (.returned v) u) :
    ArmFor flags0 classFile x code maxLocals ret World_1 tables_1 room_1 Calls_1 rest_1 Pre_1 Post := by
  intro l hfl _ _ p e ha hc hk s m args below hf hA hF happ hP
  obtain ⟨hcalls, hrest, hpre⟩ := hP
  obtain ⟨-, -, -, hnamed, -, -, -, hat⟩ := (Spec.applies_iff hf).mp happ
  obtain ⟨hg, hn⟩ := and_e (Cond.before_iff.mp (show (Jvm.Cond.and given_1 narrow_1).before args s = true from hpre))
  obtain ⟨hh1, hh2⟩ := and_e hg
  obtain ⟨hh3, hh4⟩ := and_e hh2
  obtain ⟨hh5, hh6⟩ := and_e hh4
  obtain ⟨hh7, hh8⟩ := and_e hh6
  obtain ⟨hh9, hh10⟩ := and_e hh8
  obtain ⟨hh11, hh12⟩ := and_e hh10
  obtain ⟨w0, w1, w2, w3, w4, w5, rfl⟩ : ∃ w0 w1 w2 w3 w4 w5 : Value, args = #[w0, w1, w2, w3, w4, w5] := by
    have hs : args.size = 6 := by simpa [Cond.value, given_1] using hh1
    obtain ⟨L⟩ := args
    match L, hs with
    | [w0, w1, w2, w3, w4, w5], _ => exact ⟨w0, w1, w2, w3, w4, w5, rfl⟩
  have hw := fun d (hd : d ∈ tables_1) => atoms_spec (ws := Jvm.Cond.code x code maxLocals ret :: tables_1) hat d (List.mem_cons_of_mem _ hd)
  obtain ⟨i0, ei0⟩ := is_v hh3
  obtain rfl : w0 = (.int i0) := Option.some.inj ei0
  obtain ⟨i1, ei1⟩ := isL_v hh5
  obtain rfl : w1 = (.long i1) := Option.some.inj ei1
  obtain ⟨i2, ei2⟩ := isL_v hh7
  obtain rfl : w2 = (.long i2) := Option.some.inj ei2
  obtain ⟨i3, ei3⟩ := isL_v hh9
  obtain rfl : w3 = (.long i3) := Option.some.inj ei3
  obtain ⟨i4, ei4⟩ := isL_v hh11
  obtain rfl : w4 = (.long i4) := Option.some.inj ei4
  obtain ⟨i5, ei5⟩ := is_v hh12
  obtain rfl : w5 = (.int i5) := Option.some.inj ei5
  obtain ⟨n, o, h1, h2, h3, _, L, rfl, ⟨rfl, N⟩, hq⟩ := rm0 l s _ hw tables_1 i0 i1 i2 i3 i4 i5  s.heap s.heap.size (Nat.le_refl _)  p e ha hc hk s m _ below hf ((Spec.applies_iff_loose hf).mp happ).1 ⟨rfl, State.Warmed39.refl s, rfl⟩ trivial
  refine ⟨n, _, h1, h2, h3, hpost _ _ _ _ _ _ ⟨Cond.after_iff.mpr rfl, Cond.after_iff.mpr (eq_i res_at (Term.int_eval (1)) rfl), trivial⟩ ⟨hq.1, hq.2.1, (hq.2.2.sift fun y hy => Or.inr (N y hy)).mono (by decide) (by decide)⟩⟩
theorem main_1_1 : Claimed_1_1 := comes_1 fun _ _ _ _ _ _ h hF => ⟨h.1, hF⟩
theorem main_1_2 : Claimed_1_2 := comes_1 fun _ _ _ _ _ _ h hF => ⟨h.2.1, hF⟩

end Jvm.Pilot.@@N@@
namespace Jvm.Pilot.@@N@@
open Jvm Jvm.ClassFile Sem Op Lib Jvm.Free Jvm.Stand Jvm.Pilot.@@N@@.Jvm.D
/-! MADE BY PROGRAM (witnessworld.py) out of the Statement's table words and the real class files: 9 classes; the members and pool entries that the words name. The judged class is class 1, her method 1. -/
namespace start1
open Jvm.ClassFile
def u (s : String) : CpInfo := .utf8 (stringToUtf16 s)
/-- a pool by its gaps: so many unusable entries, then the entry; so many at the end -/
def gap : Nat → List CpInfo → List CpInfo
  | 0, r => r
  | n + 1, r => .unusable :: gap n r
def poolList (es : List (Nat × CpInfo)) (last : Nat) : List CpInfo := es.foldr (fun e r => gap e.1 (e.2 :: r)) (gap last [])
def pool (es : List (Nat × CpInfo)) (last : Nat) : Array CpInfo := ⟨poolList es last⟩
def fileOf (pool : Array CpInfo) (this : Nat) (attrs : Array Attribute := #[]) (ms : Array MethodInfo := #[]) (fl : Nat := 33) (sup : Nat := 0) (ifs : Array Nat := #[]) (fds : Array FieldInfo := #[]) : ClassFile where
  minorVersion := 0
  majorVersion := 65
  constantPool := pool
  accessFlags := fl
  thisClass := this
  superClass := sup
  interfaces := ifs
  fields := fds
  methods := ms
  attributes := attrs
def plain (name : String) (sup : Option ClassId) : Class where
  name := name
  kind := .ordinary
  loader := none
  accessFlags := 33
  super := sup
  interfaces := #[]
  cf := none
  fields := #[]
  methods := #[]
  instanceTypes := #[]
  staticTypes := #[]
  resolved := #[]
  callSites := []
  init := .initialized
  statics := none
  mirror := none

def pool0 : Array CpInfo := pool [(5, u "<init>"), (0, u "()V"), (1, .class_ 10), (1, u "java/lang/Object")] 113

def k0c0 : Code := { maxStack := 0, maxLocals := 1, code := object_method_1_code, exceptionTable := #[], attributes := #[] }
def k0m0 : Method := { name := "<init>", desc := "()V", sig := { parameters := [], returnType := none }, accessFlags := 1, code := some k0c0 }
/-- java/lang/Object -/
def k0 : Class := { plain "java/lang/Object" none with
  accessFlags := 33
  interfaces := #[]
  cf := some (fileOf pool0 8 #[] #[{ accessFlags := 1, nameIndex := 5, descriptorIndex := 6, attributes := #[] }] 33 0 #[] #[])
  fields := #[]
  methods := #[k0m0]
  instanceTypes := #[]
  staticTypes := #[]
  resolved := Array.replicate 124 none
  statics := none }

def pool1 : Array CpInfo := pool [(2, .class_ 4), (1, u "java/lang/Object"), (0, u "<init>"), (0, u "()V"), (0, .class_ 8), (0, u "com/example/kyu/kyu/PrefetchWindow"), (0, .methodref 7 10), (0, .nameAndType 5 11), (0, u "(IJ)V"), (0, .methodref 7 13), (0, .nameAndType 14 15), (0, u "add"), (0, u "(J)V"), (0, .methodref 7 17), (0, .nameAndType 18 19), (0, u "hasRoomFor"), (0, u "(J)Z"), (0, .class_ 21), (0, u "com/example/kyu/kyu/PrefetchWindowAddPinLaw"), (2, u "law"), (0, u "(IJJJJI)Z")] 3

def k1m0 : Method := { name := "<init>", desc := "()V", sig := { parameters := [], returnType := none }, accessFlags := 2, code := none }
def k1c1 : Code := { maxStack := 5, maxLocals := 18, code := code, exceptionTable := #[], attributes := #[] }
def k1m1 : Method := { name := "law", desc := "(IJJJJI)Z", sig := { parameters := [.int, .long, .long, .long, .long, .int], returnType := some .boolean }, accessFlags := 9, code := some k1c1 }
/-- com/example/kyu/kyu/PrefetchWindowAddPinLaw -/
def k1 : Class := { plain "com/example/kyu/kyu/PrefetchWindowAddPinLaw" (some 0) with
  accessFlags := 49
  interfaces := #[]
  cf := some (fileOf pool1 20 #[] #[{ accessFlags := 2, nameIndex := 5, descriptorIndex := 6, attributes := #[] }, { accessFlags := 9, nameIndex := 24, descriptorIndex := 25, attributes := #[] }] 49 2 #[] #[])
  fields := #[]
  methods := #[k1m0, k1m1]
  instanceTypes := #[]
  staticTypes := #[]
  resolved := Array.replicate 29 none
  statics := none }

def pool2 : Array CpInfo := pool [(1, .methodref 2 3), (0, .class_ 4), (0, .nameAndType 5 6), (0, u "java/lang/Object"), (0, u "<init>"), (0, u "()V"), (0, .fieldref 8 9), (0, .class_ 10), (0, .nameAndType 11 12), (0, u "com/example/kyu/kyu/PrefetchWindow"), (0, u "countLimit"), (0, u "I"), (0, .fieldref 8 14), (0, .nameAndType 15 16), (0, u "sizeLimit"), (0, u "J"), (0, .fieldref 8 18), (0, .nameAndType 19 12), (0, u "count"), (0, .fieldref 8 21), (0, .nameAndType 22 16), (0, u "size"), (0, u "(IJ)V"), (3, u "hasRoomFor"), (0, u "(J)Z"), (1, u "add"), (0, u "(J)V")] 3

def k2c0 : Code := { maxStack := 3, maxLocals := 4, code := prog_6_method_1_code, exceptionTable := #[], attributes := #[] }
def k2m0 : Method := { name := "<init>", desc := "(IJ)V", sig := { parameters := [.int, .long], returnType := none }, accessFlags := 0, code := some k2c0 }
def k2c1 : Code := { maxStack := 4, maxLocals := 5, code := prog_6_method_3_code, exceptionTable := #[], attributes := #[] }
def k2m1 : Method := { name := "hasRoomFor", desc := "(J)Z", sig := { parameters := [.long], returnType := some .boolean }, accessFlags := 0, code := some k2c1 }
def k2c2 : Code := { maxStack := 5, maxLocals := 3, code := prog_6_method_4_code, exceptionTable := #[], attributes := #[] }
def k2m2 : Method := { name := "add", desc := "(J)V", sig := { parameters := [.long], returnType := none }, accessFlags := 0, code := some k2c2 }
/-- com/example/kyu/kyu/PrefetchWindow -/
def k2 : Class := { plain "com/example/kyu/kyu/PrefetchWindow" (some 0) with
  accessFlags := 32
  interfaces := #[]
  cf := some (fileOf pool2 8 #[] #[{ accessFlags := 0, nameIndex := 5, descriptorIndex := 23, attributes := #[] }, { accessFlags := 0, nameIndex := 27, descriptorIndex := 28, attributes := #[] }, { accessFlags := 0, nameIndex := 30, descriptorIndex := 31, attributes := #[] }] 32 2 #[] #[{ accessFlags := 2, nameIndex := 11, descriptorIndex := 12, attributes := #[] }, { accessFlags := 2, nameIndex := 15, descriptorIndex := 16, attributes := #[] }, { accessFlags := 2, nameIndex := 19, descriptorIndex := 12, attributes := #[] }, { accessFlags := 2, nameIndex := 22, descriptorIndex := 16, attributes := #[] }])
  fields := #[{ name := "countLimit", type := .int, accessFlags := 2, slot := 0, constantValue := 0 }, { name := "sizeLimit", type := .long, accessFlags := 2, slot := 1, constantValue := 0 }, { name := "count", type := .int, accessFlags := 2, slot := 2, constantValue := 0 }, { name := "size", type := .long, accessFlags := 2, slot := 3, constantValue := 0 }]
  methods := #[k2m0, k2m1, k2m2]
  instanceTypes := #[.int, .long, .int, .long]
  staticTypes := #[]
  resolved := Array.replicate 35 none
  statics := none }

def pool3 : Array CpInfo := pool [(1, u "java/lang/Cloneable"), (0, .class_ 1), (0, u "java/lang/Object"), (0, .class_ 3)] 3

/-- java/lang/Cloneable -/
def k3 : Class := { plain "java/lang/Cloneable" (some 0) with
  accessFlags := 1537
  interfaces := #[]
  cf := some (fileOf pool3 2 #[] #[] 1537 4 #[] #[])
  fields := #[]
  methods := #[]
  instanceTypes := #[]
  staticTypes := #[]
  resolved := Array.replicate 8 none
  statics := none }

def pool4 : Array CpInfo := pool [(1, u "java/io/Serializable"), (0, .class_ 1), (0, u "java/lang/Object"), (0, .class_ 3)] 3

/-- java/io/Serializable -/
def k4 : Class := { plain "java/io/Serializable" (some 0) with
  accessFlags := 1537
  interfaces := #[]
  cf := some (fileOf pool4 2 #[] #[] 1537 4 #[] #[])
  fields := #[]
  methods := #[]
  instanceTypes := #[]
  staticTypes := #[]
  resolved := Array.replicate 8 none
  statics := none }

/-- the primitive byte -/
def k5 : Class := { plain "byte" none with kind := .primitive 'B', accessFlags := 0x411 }
/-- [B -/
def k6 : Class := { plain "[B" (some 0) with kind := .array 5 .byte, interfaces := #[3, 4], accessFlags := 1041 }

/-- the primitive int -/
def k7 : Class := { plain "int" none with kind := .primitive 'I', accessFlags := 0x411 }
/-- [I -/
def k8 : Class := { plain "[I" (some 0) with kind := .array 7 .int, interfaces := #[3, 4], accessFlags := 1041 }

def heap : Heap := #[]
def classes : Array Class := #[k0, k1, k2, k3, k4, k5, k6, k7, k8]
def interned : List (Array UInt16 × Addr) := []
def slotsUsed : Nat := 0
def theMethod : MethodId := ⟨1, 1⟩
def args0 : Array Value := #[.int 3, .long 100, .long 5, .long 7, .long 9, .int 1]
def aboutOver (below : List Frame) : State where
  vm := { classes := classes, interned := interned.toArray }
  heap := heap
  slotsUsed := slotsUsed
  threads := #[{ frames := .invoking theMethod args0 :: below }]
def below0 : List Frame := [.native { method := ⟨0, 0⟩, args := #[] }]
def about1 : State := aboutOver below0
def p0 : Program := .bare "" "" ""
def e0 : Env := launch0.env 0 0 0
theorem w_frames : about1.frames = Frame.invoking theMethod args0 :: below0 := rfl
set_option maxRecDepth 65536 in
theorem w_args : argsFit about1.vm theMethod args0 = true := by decide +kernel
set_option maxRecDepth 65536 in
theorem w_heap : heapFits about1 = true := by decide +kernel
set_option maxRecDepth 65536 in
theorem w_runnable : about1.curStatus? = some .runnable := by decide +kernel
set_option maxRecDepth 65536 in
theorem w_alone : about1.alone = true := by decide +kernel
set_option maxRecDepth 65536 in
theorem w_named : about1.methodNamed? x = some theMethod := by decide +kernel
set_option maxRecDepth 65536 in
theorem w_hears : about1.hears theMethod below0 = true := by decide +kernel
set_option maxRecDepth 65536 in
theorem w_ripe : about1.ripe theMethod args0 below0 = true := by decide +kernel
theorem w_running : about1.status = .running := rfl
set_option maxRecDepth 65536 in
theorem w_room : about1.hasRoom e0.platform room_1 = true :=
  launch0.hasRoom_least _ room_1 (by decide +kernel) (by decide +kernel) (by decide +kernel) (by decide +kernel) (by decide +kernel) (by decide +kernel)
theorem allAtoms_all (ts : List Jvm.Cond) (a : Array Jvm.Value) (st : Jvm.State) : (allAtoms ts).before a st = ts.all (fun c => c.before a st) := by
  induction ts with
  | nil => rfl
  | cons c t ih =>
    show (Jvm.Cond.and c (allAtoms t)).before a st = _
    rw [Jvm.Cond.before_and, ih, List.all_cons]
def words1 : List Jvm.Cond := Jvm.Cond.code x code maxLocals ret :: tables_1
/-- a 'code' word, met by the world's own term for the bytes: nothing is compared byte by byte -/
theorem code_word {y : MethodName} {bytes : ByteArray} {mx : Nat} {rt : Option FieldType} {a : Array Value} {s : State} {m : MethodId} {meth : Method} {c : Code} (h1 : s.methodNamed? y = some m) (h2 : s.vm.method? m = some meth) (h3 : meth.code = some c) (h4 : c.code = bytes)
    (h5 : (c.maxLocals == mx && c.exceptionTable.isEmpty && decide (c.maxStack ≤ mostOperands) && decide (meth.sig.returnType = rt) && !meth.locks && decide (parseMethodDescriptor y.desc = some meth.sig)) = true) : (Jvm.Cond.code y bytes mx rt).before a s = true := by
  simp only [Bool.and_eq_true, beq_iff_eq, Bool.not_eq_true', decide_eq_true_eq] at h5
  obtain ⟨⟨⟨⟨⟨g1, g2⟩, g3⟩, g4⟩, g5⟩, g6⟩ := h5
  simp [Cond.before, Cond.holds, Cond.value, h1, h2, h3, h4, g1, g2, g3, g4, g5, g6]
def isCode : Jvm.Cond → Bool
  | .code _ _ _ _ => true
  | _ => false
theorem all_split {L : List Jvm.Cond} {P : Jvm.Cond → Bool} (h1 : L.all (fun c => isCode c || P c) = true) (h2 : ∀ c ∈ L.filter isCode, P c = true) : L.all P = true := by
  refine List.all_eq_true.mpr fun c hc => ?_
  have h := List.all_eq_true.mp h1 c hc
  rcases Bool.eq_false_or_eq_true (isCode c) with hi | hi
  · exact h2 c (List.mem_filter.mpr ⟨hc, hi⟩)
  · simpa [hi] using h
set_option maxRecDepth 65536 in
theorem w_c0 : (Jvm.Cond.code x code maxLocals ret).before args0 about1 = true := code_word (m := ⟨1, 1⟩) (meth := k1m1) (c := k1c1) (by decide +kernel) rfl rfl rfl (by decide +kernel)
set_option maxRecDepth 65536 in
theorem w_c1 : (Jvm.Cond.code ({ cls := "com/example/kyu/kyu/PrefetchWindow", name := "<init>", desc := "(IJ)V" } : Jvm.MethodName) prog_6_method_1_code (4 : Nat) (Option.none : Option Jvm.ClassFile.FieldType)).before args0 about1 = true := code_word (m := ⟨2, 0⟩) (meth := k2m0) (c := k2c0) (by decide +kernel) rfl rfl rfl (by decide +kernel)
set_option maxRecDepth 65536 in
theorem w_c2 : (Jvm.Cond.code ({ cls := "java/lang/Object", name := "<init>", desc := "()V" } : Jvm.MethodName) object_method_1_code (1 : Nat) (Option.none : Option Jvm.ClassFile.FieldType)).before args0 about1 = true := code_word (m := ⟨0, 0⟩) (meth := k0m0) (c := k0c0) (by decide +kernel) rfl rfl rfl (by decide +kernel)
set_option maxRecDepth 65536 in
theorem w_c3 : (Jvm.Cond.code ({ cls := "com/example/kyu/kyu/PrefetchWindow", name := "add", desc := "(J)V" } : Jvm.MethodName) prog_6_method_4_code (3 : Nat) (Option.none : Option Jvm.ClassFile.FieldType)).before args0 about1 = true := code_word (m := ⟨2, 2⟩) (meth := k2m2) (c := k2c2) (by decide +kernel) rfl rfl rfl (by decide +kernel)
set_option maxRecDepth 65536 in
theorem w_c4 : (Jvm.Cond.code ({ cls := "com/example/kyu/kyu/PrefetchWindow", name := "hasRoomFor", desc := "(J)Z" } : Jvm.MethodName) prog_6_method_3_code (5 : Nat) (Option.some Jvm.ClassFile.FieldType.boolean)).before args0 about1 = true := code_word (m := ⟨2, 1⟩) (meth := k2m1) (c := k2c1) (by decide +kernel) rfl rfl rfl (by decide +kernel)
def codes1 : List Jvm.Cond := [Jvm.Cond.code x code maxLocals ret, Jvm.Cond.code ({ cls := "com/example/kyu/kyu/PrefetchWindow", name := "<init>", desc := "(IJ)V" } : Jvm.MethodName) prog_6_method_1_code (4 : Nat) (Option.none : Option Jvm.ClassFile.FieldType), Jvm.Cond.code ({ cls := "java/lang/Object", name := "<init>", desc := "()V" } : Jvm.MethodName) object_method_1_code (1 : Nat) (Option.none : Option Jvm.ClassFile.FieldType), Jvm.Cond.code ({ cls := "com/example/kyu/kyu/PrefetchWindow", name := "add", desc := "(J)V" } : Jvm.MethodName) prog_6_method_4_code (3 : Nat) (Option.none : Option Jvm.ClassFile.FieldType), Jvm.Cond.code ({ cls := "com/example/kyu/kyu/PrefetchWindow", name := "hasRoomFor", desc := "(J)Z" } : Jvm.MethodName) prog_6_method_3_code (5 : Nat) (Option.some Jvm.ClassFile.FieldType.boolean)]
set_option maxRecDepth 65536 in
theorem codes_eq : words1.filter isCode = codes1 := rfl
theorem w_codes : ∀ c ∈ words1.filter isCode, c.before args0 about1 = true := by
  rw [codes_eq]
  intro c hc
  simp only [codes1, List.mem_cons, List.not_mem_nil, or_false] at hc
  rcases hc with rfl | rfl | rfl | rfl | rfl
  · exact w_c0
  · exact w_c1
  · exact w_c2
  · exact w_c3
  · exact w_c4
set_option maxRecDepth 65536 in
theorem w_t1 : (words1.take 24).all (fun c => isCode c || c.before args0 about1) = true := by decide +kernel
set_option maxRecDepth 65536 in
theorem w_t2 : (words1.drop 24).all (fun c => isCode c || c.before args0 about1) = true := by decide +kernel
theorem w_tables : (allAtoms (Jvm.Cond.code x code maxLocals ret :: tables_1)).before args0 about1 = true := by
  rw [allAtoms_all]
  show words1.all (fun c => c.before args0 about1) = true
  refine all_split ?_ w_codes
  rw [← List.take_append_drop 24 words1, List.all_append, w_t1, w_t2]
  rfl
set_option maxRecDepth 65536 in
theorem w_case : (Jvm.Cond.and given_1 narrow_1).before args0 about1 = true := by decide +kernel
theorem w_applies : (headSpec (Jvm.Cond.code x code maxLocals ret :: tables_1) room_1).applies x e0.platform about1 = true :=
  (Spec.applies_iff w_frames).mpr ⟨w_running, w_runnable, w_alone, w_named, w_hears, w_ripe, w_room, w_tables⟩
theorem atStart : AtStart classFile x code maxLocals ret World_1 tables_1 room_1 Calls_1 rest_1 Pre_1 launch0 p0 e0 about1 theMethod args0 below0 :=
  ⟨lists_1, trivial, launch0.admits_env _ _ _, launch0.least_env, fairChoices_fair.cas, fairChoices_fair.clock, w_frames, w_args, w_heap, w_applies, trivial, trivial, w_case⟩
end start1
theorem witness_1 : WitnessClaimed_1 := ⟨start1.p0, start1.e0, start1.about1, start1.theMethod, start1.args0, start1.below0, start1.atStart⟩
end Jvm.Pilot.@@N@@
