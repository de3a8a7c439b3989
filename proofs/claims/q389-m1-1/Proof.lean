import JvmDerived
import JvmDerived.Pilot.@@N@@Statement
import JvmDerived.Pilot.@@N@@Code
set_option linter.unusedVariables false
set_option linter.unusedSimpArgs false
namespace Jvm.RoadKit
open Sem ClassFile Op Lib Jvm.Stand Jvm.Free Jvm.LawKit
section OwnGo
variable {p : Program} {l : Launch} {e : Env} {R : Room} {s : State} {m : MethodId} {args : Array Value} {below : List Frame} {meth : Method} {c : Code} {T T' : State} {locs : List Loc} {cells slots ck sk : Nat} {Q : Option Value → Heap → List Loc → Prop}
/-- from the state T the body comes to its end, with Q -/
def Go (p : Program) (e : Env) (below : List Frame) (s : State) (ck sk : Nat) (Q : Option Value → Heap → List Loc → Prop) (T : State) : Prop :=
  ∃ s₂ o, Steps p.tables e below T s₂ ∧ s₂.status = .running ∧ Ended s₂ below o ∧ ∃ v L, o = .returned v ∧ Q v s₂.heap L ∧ FrameEnd s o s₂ L ck sk
theorem Go.by (h : ∀ t, Steps p.tables e below T' t → Steps p.tables e below T t) (g : Go p e below s ck sk Q T') : Go p e below s ck sk Q T := by
  obtain ⟨s₂, o, h1, r⟩ := g
  exact ⟨s₂, o, h _ h1, r⟩
theorem Go.tr (h : Steps p.tables e below T T') (g : Go p e below s ck sk Q T') : Go p e below s ck sk Q T := by
  obtain ⟨s₂, o, h1, r⟩ := g
  exact ⟨s₂, o, h.trans h1, r⟩
theorem Go.fin (X : Stand p l e R s m args below meth c T locs cells slots) {v : Option Value} (hv : meth.sig.returnType = none → v = none) (hlk : meth.locks = false)
    (st : ∀ fs : List Frame, (∀ (f : JFrame) (acts : List Action), f.method = m → f.locked = none → f.entered = [] → (doReturn e (T.setTop f) acts v).1 = T.setFrames fs) → Steps p.tables e below T' (T.setFrames fs))
    (hq : Q v T.heap locs) (hc : cells ≤ ck) (hs : slots ≤ sk) : Go p e below s ck sk Q T' := by
  obtain ⟨fs, hr, hrun, hended, hW, hsame⟩ := X.leave hv hlk
  exact ⟨_, _, st fs hr, hrun, hended, _, _, rfl, hq, ⟨_, rfl⟩, hW, hsame.mono hc hs⟩
theorem Go.retV (X : Stand p l e R s m args below meth c T locs cells slots) (hx : p.tables.exec = Jvm.exec) {pc : Nat} {Ls : Array Slot} (hret : meth.sig.returnType = none) (hlk : meth.locks = false) (hd : decode c.code pc = .ok (.return_, 1))
    (hq : Q none T.heap locs) (hc : cells ≤ ck) (hs : slots ≤ sk) : Go p e below s ck sk Q (T.setTop (mkF m pc Ls [])) :=
  Go.fin X (fun _ => rfl) hlk (fun fs hr => X.returnOut hx hret hd hr) hq hc hs
theorem Go.retN (X : Stand p l e R s m args below meth c T locs cells slots) (hx : p.tables.exec = Jvm.exec) {pc : Nat} {Ls : Array Slot} {z : Int32} {t : FieldType} {rest : List Value} (hret : meth.sig.returnType = some t) (ht : t = .boolean ∨ t = .byte ∨ t = .char ∨ t = .short) (hlk : meth.locks = false) (hd : decode c.code pc = .ok (.ireturn, 1))
    (hq : Q (some (.int (nar t z))) T.heap locs) (hc : cells ≤ ck) (hs : slots ≤ sk) : Go p e below s ck sk Q (T.setTop (mkF m pc Ls (.int z :: rest))) :=
  Go.fin X (fun h => by rw [hret] at h; cases h) hlk (fun fs hr => Jvm.RoadKit.retN X hx hret ht hd hr) hq hc hs
theorem Go.retI (X : Stand p l e R s m args below meth c T locs cells slots) (hx : p.tables.exec = Jvm.exec) {pc : Nat} {Ls : Array Slot} {z : Int32} {rest : List Value} (hret : meth.sig.returnType = some .int) (hlk : meth.locks = false) (hd : decode c.code pc = .ok (.ireturn, 1))
    (hq : Q (some (.int z)) T.heap locs) (hc : cells ≤ ck) (hs : slots ≤ sk) : Go p e below s ck sk Q (T.setTop (mkF m pc Ls (.int z :: rest))) :=
  Go.fin X (fun h => by rw [hret] at h; cases h) hlk (fun fs hr => retOut X hx hret rfl (Or.inl ⟨rfl, Or.inl rfl, z, rfl⟩) hd hr) hq hc hs
theorem Go.retJ (X : Stand p l e R s m args below meth c T locs cells slots) (hx : p.tables.exec = Jvm.exec) {pc : Nat} {Ls : Array Slot} {z : Int64} {rest : List Value} (hret : meth.sig.returnType = some .long) (hlk : meth.locks = false) (hd : decode c.code pc = .ok (.lreturn, 1))
    (hq : Q (some (.long z)) T.heap locs) (hc : cells ≤ ck) (hs : slots ≤ sk) : Go p e below s ck sk Q (T.setTop (mkF m pc Ls (.long z :: rest))) :=
  Go.fin X (fun h => by rw [hret] at h; cases h) hlk (fun fs hr => retOut X hx hret rfl (Or.inr (Or.inl ⟨rfl, rfl, z, rfl⟩)) hd hr) hq hc hs
theorem Go.retR (X : Stand p l e R s m args below meth c T locs cells slots) (hx : p.tables.exec = Jvm.exec) {pc : Nat} {Ls : Array Slot} {w : Value} {t : FieldType} {rest : List Value} (hret : meth.sig.returnType = some t) (ht : t.isReference = true) (hw : w.isRef = true) (hlk : meth.locks = false) (hd : decode c.code pc = .ok (.areturn, 1))
    (hq : Q (some w) T.heap locs) (hc : cells ≤ ck) (hs : slots ≤ sk) : Go p e below s ck sk Q (T.setTop (mkF m pc Ls (w :: rest))) := by
  refine Go.fin X (fun h => by rw [hret] at h; cases h) hlk (fun fs hr => retOut X hx hret ?_ (Or.inr (Or.inr (Or.inr (Or.inr ⟨rfl, ht, hw⟩)))) hd hr) hq hc hs
  rcases ref_cases hw with rfl | ⟨a, rfl⟩ <;> cases t <;> first | rfl | cases ht
/-- the same where Strings may be interned on the way -/
def GoW (p : Program) (e : Env) (below : List Frame) (s : State) (ck sk : Nat) (Q : Option Value → Heap → List Loc → Prop) (T : State) : Prop :=
  ∃ s₂ o, Steps p.tables e below T s₂ ∧ s₂.status = .running ∧ Ended s₂ below o ∧ ∃ v L, o = .returned v ∧ Q v s₂.heap L ∧ ReturnedEndW s o s₂ L ck sk
theorem GoW.by (h : ∀ t, Steps p.tables e below T' t → Steps p.tables e below T t) (g : GoW p e below s ck sk Q T') : GoW p e below s ck sk Q T := by
  obtain ⟨s₂, o, h1, r⟩ := g
  exact ⟨s₂, o, h _ h1, r⟩
theorem GoW.tr (h : Steps p.tables e below T T') (g : GoW p e below s ck sk Q T') : GoW p e below s ck sk Q T := by
  obtain ⟨s₂, o, h1, r⟩ := g
  exact ⟨s₂, o, h.trans h1, r⟩
theorem GoW.fin {vm1 : Vm} {k1 : Nat} (X : Stand p l e R (s.setVm vm1) m args below meth c T locs cells slots) (hS : s.Since vm1 k1) (hk : k1 ≤ T.heap.size) {v : Option Value} (hv : meth.sig.returnType = none → v = none) (hlk : meth.locks = false)
    (st : ∀ fs : List Frame, (∀ (f : JFrame) (acts : List Action), f.method = m → f.locked = none → f.entered = [] → (doReturn e (T.setTop f) acts v).1 = T.setFrames fs) → Steps p.tables e below T' (T.setFrames fs))
    (hq : Q v T.heap locs) (hc : cells ≤ ck) (hs : slots ≤ sk) : GoW p e below s ck sk Q T' := by
  obtain ⟨fs, hr, hrun, hended, hW, hsame⟩ := X.leave hv hlk
  obtain ⟨q1, q2, q3⟩ := hS.ended (U := T.setFrames fs) hW hk hsame
  exact ⟨_, _, st fs hr, hrun, hended, _, _, rfl, hq, ⟨_, rfl⟩, q1, q2, q3.mono hc hs⟩
theorem GoW.retV {vm1 : Vm} {k1 : Nat} (X : Stand p l e R (s.setVm vm1) m args below meth c T locs cells slots) (hS : s.Since vm1 k1) (hk : k1 ≤ T.heap.size) (hx : p.tables.exec = Jvm.exec) {pc : Nat} {Ls : Array Slot} (hret : meth.sig.returnType = none) (hlk : meth.locks = false) (hd : decode c.code pc = .ok (.return_, 1))
    (hq : Q none T.heap locs) (hc : cells ≤ ck) (hs : slots ≤ sk) : GoW p e below s ck sk Q (T.setTop (mkF m pc Ls [])) :=
  GoW.fin X hS hk (fun _ => rfl) hlk (fun fs hr => X.returnOut hx hret hd hr) hq hc hs
theorem GoW.retN {vm1 : Vm} {k1 : Nat} (X : Stand p l e R (s.setVm vm1) m args below meth c T locs cells slots) (hS : s.Since vm1 k1) (hk : k1 ≤ T.heap.size) (hx : p.tables.exec = Jvm.exec) {pc : Nat} {Ls : Array Slot} {z : Int32} {t : FieldType} {rest : List Value} (hret : meth.sig.returnType = some t) (ht : t = .boolean ∨ t = .byte ∨ t = .char ∨ t = .short) (hlk : meth.locks = false) (hd : decode c.code pc = .ok (.ireturn, 1))
    (hq : Q (some (.int (nar t z))) T.heap locs) (hc : cells ≤ ck) (hs : slots ≤ sk) : GoW p e below s ck sk Q (T.setTop (mkF m pc Ls (.int z :: rest))) :=
  GoW.fin X hS hk (fun h => by rw [hret] at h; cases h) hlk (fun fs hr => Jvm.RoadKit.retN X hx hret ht hd hr) hq hc hs
theorem GoW.retR {vm1 : Vm} {k1 : Nat} (X : Stand p l e R (s.setVm vm1) m args below meth c T locs cells slots) (hS : s.Since vm1 k1) (hk : k1 ≤ T.heap.size) (hx : p.tables.exec = Jvm.exec) {pc : Nat} {Ls : Array Slot} {w : Value} {t : FieldType} {rest : List Value} (hret : meth.sig.returnType = some t) (ht : t.isReference = true) (hw : w.isRef = true) (hlk : meth.locks = false) (hd : decode c.code pc = .ok (.areturn, 1))
    (hq : Q (some w) T.heap locs) (hc : cells ≤ ck) (hs : slots ≤ sk) : GoW p e below s ck sk Q (T.setTop (mkF m pc Ls (w :: rest))) := by
  refine GoW.fin X hS hk (fun h => by rw [hret] at h; cases h) hlk (fun fs hr => retOut X hx hret ?_ (Or.inr (Or.inr (Or.inr (Or.inr ⟨rfl, ht, hw⟩)))) hd hr) hq hc hs
  rcases ref_cases hw with rfl | ⟨a, rfl⟩ <;> cases t <;> first | rfl | cases ht
end OwnGo
theorem own_selp {Z s : State} {a0 args : Array Value} {y : MethodName} {n : Nat} (hZ : Z.Warmed39 s.vm) (wi : (Cond.instantiable y.cls n).before a0 Z = true) (wp : (Cond.privateMethod y).before a0 Z = true) (wm : (Cond.instanceMethod y).before a0 Z = true) (hy : y.cls ≠ "java/lang/invoke/MethodHandle" ∧ y.cls ≠ "java/lang/invoke/VarHandle") : (Cond.selects y.cls y y).before args s = true := by
  obtain ⟨c, k, h1, h2, -, h4, -⟩ := Cond.instantiable_spec (mv (args := args) hZ wi)
  exact selects_self_of_private h1 h2 (by simpa using (Bool.or_eq_false_iff.mp h4).1) (Cond.privateMethod_at (mvP (args := args) hZ wp)) (mv hZ wm) hy
theorem own_zn {z : Int32} (h : z = (0 : Int32) ∨ z = (1 : Int32)) : narrow .boolean (.int z) = .int z := by rcases h with rfl | rfl <;> rfl
theorem own_zf {z : Int32} (h : z = (0 : Int32) ∨ z = (1 : Int32)) : fits .boolean (.int z) = true := by rcases h with rfl | rfl <;> rfl
theorem own_ns {Z : State} {h : Heap} {b : Addr} {C : String} (E : Exa Z h b C) : ∀ cell : Cell, h[b]? = some cell → cell.vm.isStatics = false := fun cell hc => by
  obtain ⟨c, _, h1, -, -, h4, -⟩ := E
  cases h1.symm.trans hc
  exact h4
theorem own_stakeep {Z : State} {h h' : Heap} {C n d : String} {v : Value} {ws : List Addr} (F : Sta Z h C n d v) (K : Keep h h' ws) (q : ∀ x ∈ ws, ∀ cell : Cell, h[x]? = some cell → cell.vm.isStatics = false) : Sta Z h' C n d v := by
  obtain ⟨cf, i, k, f, st, cell, h1, h2, h3, h4, h5, h6, h7⟩ := F
  refine ⟨cf, i, k, f, st, cell, h1, h2, h3, h4, K.2.1 st cell h5 fun z => ?_, h6, h7⟩
  rw [q st z cell h5] at h6
  cases h6
section OwnLong
variable {Z : State} {h h' : Heap} {a b : Addr} {k : ClassId} {n j : Int32} {x : Int64} {ws : List Addr} {sl : Nat} {v : Value}
/-- a long[] of the length n, whatever it holds -/
def LA (Z : State) (h : Heap) (a : Addr) (k : ClassId) (n : Int32) : Prop := ∃ c : Cell, Arr Z h a c .long ∧ c.cls = k ∧ c.slots.size = n.toNatClampNeg ∧ ¬ n < 0 ∧ ∀ i, i < c.slots.size → ∃ x : Int64, c.slots[i]? = some (.long x)
theorem LA.lt (F : LA Z h a k n) : a < h.size := by obtain ⟨c, A, -⟩ := F; exact A.lt
theorem LA.ext (F : LA Z h a k n) (E : Ext h h') : LA Z h' a k n := by obtain ⟨c, A, r⟩ := F; exact ⟨c, A.ext E, r⟩
theorem LA.other (F : LA Z h b k n) (W : Wr h h' a sl v) (q : b ≠ a) : LA Z h' b k n := by obtain ⟨c, A, r⟩ := F; exact ⟨c, A.other W q, r⟩
theorem LA.keep (F : LA Z h a k n) (K : Keep h h' ws) (q : a ∉ ws) : LA Z h' a k n := by obtain ⟨c, A, r⟩ := F; exact ⟨c, ⟨K.2.1 a c A.1 q, A.2⟩, r⟩
theorem LA.new (A : Arr Z h a (newA k .long n) .long) (q : ¬ n < 0) : LA Z h a k n := ⟨_, A, rfl, sz_new _ _ _, q, fun i hi => ⟨0, by
  have hi' : i < n.toNatClampNeg := by rw [sz_new] at hi; exact hi
  show (Array.replicate n.toNatClampNeg (defaultValue .long))[i]? = _
  simp [hi', defaultValue]⟩⟩
theorem LA.set {c : Cell} (A : Arr Z h a c .long) (q1 : c.cls = k) (S : c.slots.size = n.toNatClampNeg) (q3 : ¬ n < 0) (G : ∀ i, i < c.slots.size → ∃ x : Int64, c.slots[i]? = some (.long x)) (W : Wr h h' a sl (.long x)) : LA Z h' a k n := by
  refine ⟨_, A.same W, q1, by rw [sz_set]; exact S, q3, fun i hi => ?_⟩
  rw [sz_set] at hi
  by_cases e : sl = i
  · subst e; exact ⟨x, by simp [Cell.setSlot, hi]⟩
  · obtain ⟨y, hy⟩ := G i hi
    exact ⟨y, by rw [← hy]; exact Array.getElem?_setIfInBounds_ne e⟩
end OwnLong
section OwnStart
variable {args : Array Value} {s : State} {a b t : Term}
theorem own_eqI {n : Int32} (h : (Cond.eq a (.int n)).value args s none s [] = some true) : a.eval args s none [] s = some (.int n) := by
  cases ha : a.eval args s none [] s with
  | none => simp [Cond.value, ha] at h
  | some x => cases x <;> simp [Cond.value, ha, Term.eval] at h ⊢ <;> exact h
theorem own_eqL {n : Int64} (h : (Cond.eq a (.long n)).value args s none s [] = some true) : a.eval args s none [] s = some (.long n) := by
  cases ha : a.eval args s none [] s with
  | none => simp [Cond.value, ha] at h
  | some x => cases x <;> simp [Cond.value, ha, Term.eval] at h ⊢ <;> exact h
theorem own_eqR {x : Addr} (h : (Cond.eq a b).value args s none s [] = some true) (hb : b.eval args s none [] s = some (.ref x)) : a.eval args s none [] s = some (.ref x) := by
  cases ha : a.eval args s none [] s with
  | none => simp [Cond.value, ha] at h
  | some y => cases y <;> simp [Cond.value, ha, hb] at h ⊢ <;> exact h
theorem own_neR {x y : Addr} (h : (Cond.not (Cond.eq a b)).value args s none s [] = some true) (ha : a.eval args s none [] s = some (.ref x)) (hb : b.eval args s none [] s = some (.ref y)) : x ≠ y := by
  intro e
  subst e
  simp [Cond.value, ha, hb] at h
theorem own_lenv {n : Int32} {x : Addr} {cl : Cell} (h : (Term.length t).eval args s none [] s = some (.int n)) (ht : t.eval args s none [] s = some (.ref x)) (hc : s.heap[x]? = some cl) : cl.slots.size < 2 ^ 31 ∧ cl.slots.size.toInt32 = n := by
  obtain ⟨a', cell, e1, e2, e3⟩ := Term.length_spec h
  cases ht.symm.trans e1
  have hcl : cell = cl := by
    simp only [State.arrayAt?, hc, Option.bind_eq_bind, Option.bind_some] at e2
    cases hk : s.vm.classes[cl.cls]? with
    | none => simp [hk] at e2
    | some k =>
      simp only [hk, Option.bind_some] at e2
      split at e2
      · cases e2
      · split at e2
        · exact (Option.some.inj e2).symm
        · cases e2
  subst hcl
  refine ⟨?_, (Value.int.inj e3).symm⟩
  simp only [Term.eval, ht, e2, Option.bind_eq_bind, Option.bind_some] at h
  split at h
  · assumption
  · cases h
end OwnStart
end Jvm.RoadKit
namespace Jvm.Pilot.@@N@@
open Jvm Jvm.ClassFile Sem Op Lib Jvm.Free Jvm.Stand Jvm.LawKit Jvm.RoadKit Bundle Jvm.Pilot.@@N@@.Jvm.D
theorem dI_0 : decode prog_6_method_1_code 0 = .ok (.aload_n 0, 1) := by decide +kernel
theorem dI_1 : decode prog_6_method_1_code 1 = .ok (.invokespecial 1, 3) := by decide +kernel
theorem dI_4 : decode prog_6_method_1_code 4 = .ok (.aload_n 0, 1) := by decide +kernel
theorem dI_5 : decode prog_6_method_1_code 5 = .ok (.iload_n 1, 1) := by decide +kernel
theorem dI_6 : decode prog_6_method_1_code 6 = .ok (.putfield 7, 3) := by decide +kernel
theorem dI_9 : decode prog_6_method_1_code 9 = .ok (.aload_n 0, 1) := by decide +kernel
theorem dI_10 : decode prog_6_method_1_code 10 = .ok (.lload_n 2, 1) := by decide +kernel
theorem dI_11 : decode prog_6_method_1_code 11 = .ok (.putfield 13, 3) := by decide +kernel
theorem dI_14 : decode prog_6_method_1_code 14 = .ok (.return_, 1) := by decide +kernel
theorem pnI : plainName "com/example/kyu/kyu/PrefetchWindow" = true := by first | (simp [plainName, overriddenIn]; done) | decide +kernel
theorem efI (m : MethodId) (a : Addr) (cl : Int32) (sl : Int64) : entryFrame m #[(.ref a), (.int cl), (.long sl)] 4 = mkF m 0 #[.val (.ref a), .val (.int cl), .val (.long sl), .second] [] := by first | (simp [entryFrame, mkF, argsToLocals, Value.category]; done) | rfl
def QI (Z : State) (a : Addr) (cl : Int32) (sl : Int64) (h0 : Heap) (n0 : Nat) (v : Option Value) (h : Heap) (L : List Loc) : Prop := v = none ∧ Fr n0 L ∧ Keep h0 h [a] ∧ Exa Z h a "com/example/kyu/kyu/PrefetchWindow" ∧ Fld Z h a "com/example/kyu/kyu/PrefetchWindow" "countLimit" "I" (.int cl) ∧ Fld Z h a "com/example/kyu/kyu/PrefetchWindow" "sizeLimit" "J" (.long sl) ∧ Fld Z h a "com/example/kyu/kyu/PrefetchWindow" "count" "I" (.int 0) ∧ Fld Z h a "com/example/kyu/kyu/PrefetchWindow" "size" "J" (.long 0)
set_option maxRecDepth 65536 in
set_option maxHeartbeats 40000000 in
theorem rmI (l : Launch) (Z : State) (a0 : Array Value) (hw : ∀ d ∈ tables_1, d.before a0 Z = true) (ws : List Jvm.Cond) (a : Addr) (cl : Int32) (sl : Int64) (h0 : Heap) (n0 : Nat) (Z0 : n0 ≤ h0.size) (E0a : Exa Z h0 a "com/example/kyu/kyu/PrefetchWindow") (F0_countLimit : Fld Z h0 a "com/example/kyu/kyu/PrefetchWindow" "countLimit" "I" (.int (0 : Int32))) (F0_sizeLimit : Fld Z h0 a "com/example/kyu/kyu/PrefetchWindow" "sizeLimit" "J" (.long (0 : Int64))) (F0_count : Fld Z h0 a "com/example/kyu/kyu/PrefetchWindow" "count" "I" (.int (0 : Int32))) (F0_size : Fld Z h0 a "com/example/kyu/kyu/PrefetchWindow" "size" "J" (.long (0 : Int64))) (ga : n0 ≤ a) :
    MetFree l (⟨"com/example/kyu/kyu/PrefetchWindow", "<init>", "(IJ)V"⟩ : MethodName) (head1 (Jvm.Cond.code (⟨"com/example/kyu/kyu/PrefetchWindow", "<init>", "(IJ)V"⟩ : MethodName) prog_6_method_1_code 4 none :: ws) ({ frames := 1, cells := 0, slots := 0, locals := 12 } : Room)) (fun aa_ U_ => aa_ = #[(.ref a), (.int cl), (.long sl)] ∧ Z.Warmed39 U_.vm ∧ U_.heap = h0) (fun _ _ _ _ _ => True) (fun _ U_ o_ V_ => ∃ v_ L_, o_ = .returned v_ ∧ QI Z a cl sl h0 n0 v_ V_.heap L_ ∧ FrameEnd U_ o_ V_ L_ ({ frames := 1, cells := 0, slots := 0, locals := 12 } : Room).cells ({ frames := 1, cells := 0, slots := 0, locals := 12 } : Room).slots) := by
  refine MetFree.of_bodySF (plainFor_of_name pnI) hisR ?_
  intro p e s m args below meth c s₁ Bd hml0 hP hK
  obtain ⟨rfl, hZ, hh⟩ := hP
  have hx := Bd.exec
  have hby := Bd.bytes
  have hml : c.maxLocals = 4 := hml0
  have hown : s.vm.findClass "com/example/kyu/kyu/PrefetchWindow" = some m.cls := findClass_of_methodNamed Bd.named
  have hnm := (name_of_methodNamed Bd.named Bd.method).1
  have hlk : meth.locks = false := BodyLoose.notSynchronized Bd
  have hret : meth.sig.returnType = none := Bd.returns
  have X0 : Stand p l e ({ frames := 1, cells := 0, slots := 0, locals := 12 } : Room) s m #[(.ref a), (.int cl), (.long sl)] below meth c s₁ [] 0 0 := Stand.of_body Bd
  have e0 : s₁.heap = h0 := by rw [← hh, Bd.state]; rfl
  have N0 := Fr.nil n0
  show Go p e below s ({ frames := 1, cells := 0, slots := 0, locals := 12 } : Room).cells ({ frames := 1, cells := 0, slots := 0, locals := 12 } : Room).slots (QI Z a cl sl h0 n0) (s₁.setTop (entryFrame m #[(.ref a), (.int cl), (.long sl)] 4))
  rw [efI]
  refine Go.by (fun _ kont => XS.aloadN X0.here hx rfl (hb hby dI_0) rfl rfl kont) ?_
  show Go _ _ _ _ _ _ _ (s₁.setTop (mkF m 1 #[.val (.ref a), .val (.int cl), .val (.long sl), .second] [(.ref a)]))
  obtain ⟨T101, X101, e101, st101⟩ := initO X0 hx hZ hown (hw _ (List.mem_of_getElem? (i := 9) rfl)) (hw _ (List.mem_of_getElem? (i := 10) rfl)) (hw _ (List.mem_of_getElem? (i := 11) rfl)) e0 (g := (mkF m 1 #[.val (.ref a), .val (.int cl), .val (.long sl), .second] [(.ref a)])) rfl (by rw [hml]; rfl) rfl (hb hby dI_1) (by decide) (W := 0) (by show 2 * 0 + _ ≤ _; exact Nat.le_of_eq rfl) (by decide)
  refine Go.by st101 ?_
  show Go _ _ _ _ _ _ _ (T101.setTop (mkF m 4 #[.val (.ref a), .val (.int cl), .val (.long sl), .second] []))
  refine Go.by (fun _ kont => XS.aloadN X101.here hx rfl (hb hby dI_4) rfl rfl (XS.iloadN X101.here hx rfl (hb hby dI_5) rfl kont)) ?_
  show Go _ _ _ _ _ _ _ (T101.setTop (mkF m 6 #[.val (.ref a), .val (.int cl), .val (.long sl), .second] [(.int cl), (.ref a)]))
  obtain ⟨T102, h102, X102, e102, W102, st102⟩ := putF X101 hx hZ hown (host := "") (Or.inl (hw _ (List.mem_of_getElem? (i := 12) rfl))) Via.refl e101 F0_countLimit E0a (Or.inl (hw _ (List.mem_of_getElem? (i := 13) rfl))) (hw _ (List.mem_of_getElem? (i := 4) rfl)) (ty := .int) (by decide) rfl rfl (g := (mkF m 6 #[.val (.ref a), .val (.int cl), .val (.long sl), .second] [(.int cl), (.ref a)])) rfl rfl (hb hby dI_6)
  have Fw102 := F0_countLimit.same W102
  have F103_sizeLimit_a := F0_sizeLimit.other W102 (Or.inr (slot_ne (Or.inl (hw _ (List.mem_of_getElem? (i := 15) rfl))) (Or.inl (hw _ (List.mem_of_getElem? (i := 13) rfl))) (by decide) (t := .long) (t' := .int) (by decide) (by decide)))
  have F103_count_a := F0_count.other W102 (Or.inr (slot_ne (Or.inl (hw _ (List.mem_of_getElem? (i := 22) rfl))) (Or.inl (hw _ (List.mem_of_getElem? (i := 13) rfl))) (by decide) (t := .int) (t' := .int) (by decide) (by decide)))
  have F103_size_a := F0_size.other W102 (Or.inr (slot_ne (Or.inl (hw _ (List.mem_of_getElem? (i := 24) rfl))) (Or.inl (hw _ (List.mem_of_getElem? (i := 13) rfl))) (by decide) (t := .long) (t' := .int) (by decide) (by decide)))
  have E103_a := E0a.wr W102
  have Z103 := Nat.le_trans Z0 (Keep.of_wr W102).1
  have K103 : Keep h0 h102 [a] := (Keep.refl h0 [a]).wr W102 (Or.inl (by simp))
  have N102 := Fr.snoc X102 N0 ga
  refine Go.by st102 ?_
  show Go _ _ _ _ _ _ _ (T102.setTop (mkF m 9 #[.val (.ref a), .val (.int cl), .val (.long sl), .second] []))
  refine Go.by (fun _ kont => XS.aloadN X102.here hx rfl (hb hby dI_9) rfl rfl (XS.lloadN X102.here hx rfl (hb hby dI_10) rfl kont)) ?_
  show Go _ _ _ _ _ _ _ (T102.setTop (mkF m 11 #[.val (.ref a), .val (.int cl), .val (.long sl), .second] [(.long sl), (.ref a)]))
  obtain ⟨T104, h104, X104, e104, W104, st104⟩ := putF X102 hx hZ hown (host := "") (Or.inl (hw _ (List.mem_of_getElem? (i := 14) rfl))) Via.refl e102 F103_sizeLimit_a E103_a (Or.inl (hw _ (List.mem_of_getElem? (i := 15) rfl))) (hw _ (List.mem_of_getElem? (i := 4) rfl)) (ty := .long) (by decide) rfl rfl (g := (mkF m 11 #[.val (.ref a), .val (.int cl), .val (.long sl), .second] [(.long sl), (.ref a)])) rfl rfl (hb hby dI_11)
  have Fw104 := F103_sizeLimit_a.same W104
  have F105_countLimit_a := Fw102.other W104 (Or.inr (slot_ne (Or.inl (hw _ (List.mem_of_getElem? (i := 13) rfl))) (Or.inl (hw _ (List.mem_of_getElem? (i := 15) rfl))) (by decide) (t := .int) (t' := .long) (by decide) (by decide)))
  have F105_count_a := F103_count_a.other W104 (Or.inr (slot_ne (Or.inl (hw _ (List.mem_of_getElem? (i := 22) rfl))) (Or.inl (hw _ (List.mem_of_getElem? (i := 15) rfl))) (by decide) (t := .int) (t' := .long) (by decide) (by decide)))
  have F105_size_a := F103_size_a.other W104 (Or.inr (slot_ne (Or.inl (hw _ (List.mem_of_getElem? (i := 24) rfl))) (Or.inl (hw _ (List.mem_of_getElem? (i := 15) rfl))) (by decide) (t := .long) (t' := .long) (by decide) (by decide)))
  have E105_a := E103_a.wr W104
  have Z105 := Nat.le_trans Z103 (Keep.of_wr W104).1
  have K105 : Keep h0 h104 [a] := K103.wr W104 (Or.inl (by simp))
  have N104 := Fr.snoc X104 N102 ga
  refine Go.by st104 ?_
  show Go _ _ _ _ _ _ _ (T104.setTop (mkF m 14 #[.val (.ref a), .val (.int cl), .val (.long sl), .second] []))
  refine Go.retV X104 hx hret hlk (hb hby dI_14) ?_ (by decide) (by decide)
  show QI Z a cl sl h0 n0 none T104.heap _
  rw [e104]
  exact ⟨rfl, N104, K105, E105_a, F105_countLimit_a, Fw104, F105_count_a, F105_size_a⟩

theorem dA_0 : decode prog_6_method_4_code 0 = .ok (.aload_n 0, 1) := by decide +kernel
theorem dA_1 : decode prog_6_method_4_code 1 = .ok (.dup, 1) := by decide +kernel
theorem dA_2 : decode prog_6_method_4_code 2 = .ok (.getfield 17, 3) := by decide +kernel
theorem dA_5 : decode prog_6_method_4_code 5 = .ok (.iconst 1, 1) := by decide +kernel
theorem dA_6 : decode prog_6_method_4_code 6 = .ok (.iadd, 1) := by decide +kernel
theorem dA_7 : decode prog_6_method_4_code 7 = .ok (.putfield 17, 3) := by decide +kernel
theorem dA_10 : decode prog_6_method_4_code 10 = .ok (.aload_n 0, 1) := by decide +kernel
theorem dA_11 : decode prog_6_method_4_code 11 = .ok (.dup, 1) := by decide +kernel
theorem dA_12 : decode prog_6_method_4_code 12 = .ok (.getfield 20, 3) := by decide +kernel
theorem dA_15 : decode prog_6_method_4_code 15 = .ok (.lload_n 1, 1) := by decide +kernel
theorem dA_16 : decode prog_6_method_4_code 16 = .ok (.ladd, 1) := by decide +kernel
theorem dA_17 : decode prog_6_method_4_code 17 = .ok (.putfield 20, 3) := by decide +kernel
theorem dA_20 : decode prog_6_method_4_code 20 = .ok (.return_, 1) := by decide +kernel
theorem pnA : plainName "com/example/kyu/kyu/PrefetchWindow" = true := by first | (simp [plainName, overriddenIn]; done) | decide +kernel
theorem efA (m : MethodId) (a : Addr) (x : Int64) : entryFrame m #[(.ref a), (.long x)] 3 = mkF m 0 #[.val (.ref a), .val (.long x), .second] [] := by first | (simp [entryFrame, mkF, argsToLocals, Value.category]; done) | rfl
def QA (Z : State) (a : Addr) (x : Int64) (cl : Int32) (sl : Int64) (cn : Int32) (sz : Int64) (h0 : Heap) (n0 : Nat) (v : Option Value) (h : Heap) (L : List Loc) : Prop := v = none ∧ Fr n0 L ∧ Keep h0 h [a] ∧ Exa Z h a "com/example/kyu/kyu/PrefetchWindow" ∧ Fld Z h a "com/example/kyu/kyu/PrefetchWindow" "countLimit" "I" (.int cl) ∧ Fld Z h a "com/example/kyu/kyu/PrefetchWindow" "sizeLimit" "J" (.long sl) ∧ Fld Z h a "com/example/kyu/kyu/PrefetchWindow" "count" "I" (.int (cn + 1)) ∧ Fld Z h a "com/example/kyu/kyu/PrefetchWindow" "size" "J" (.long (sz + x))
set_option maxRecDepth 65536 in
set_option maxHeartbeats 40000000 in
theorem rmA (l : Launch) (Z : State) (a0 : Array Value) (hw : ∀ d ∈ tables_1, d.before a0 Z = true) (ws : List Jvm.Cond) (a : Addr) (x : Int64) (cl : Int32) (sl : Int64) (cn : Int32) (sz : Int64) (h0 : Heap) (n0 : Nat) (Z0 : n0 ≤ h0.size) (E0a : Exa Z h0 a "com/example/kyu/kyu/PrefetchWindow") (F0_countLimit : Fld Z h0 a "com/example/kyu/kyu/PrefetchWindow" "countLimit" "I" (.int cl)) (F0_sizeLimit : Fld Z h0 a "com/example/kyu/kyu/PrefetchWindow" "sizeLimit" "J" (.long sl)) (F0_count : Fld Z h0 a "com/example/kyu/kyu/PrefetchWindow" "count" "I" (.int cn)) (F0_size : Fld Z h0 a "com/example/kyu/kyu/PrefetchWindow" "size" "J" (.long sz)) (ga : n0 ≤ a) :
    MetFree l (⟨"com/example/kyu/kyu/PrefetchWindow", "add", "(J)V"⟩ : MethodName) (head1 (Jvm.Cond.code (⟨"com/example/kyu/kyu/PrefetchWindow", "add", "(J)V"⟩ : MethodName) prog_6_method_4_code 3 none :: ws) ({ frames := 0, cells := 0, slots := 0, locals := 0 } : Room)) (fun aa_ U_ => aa_ = #[(.ref a), (.long x)] ∧ Z.Warmed39 U_.vm ∧ U_.heap = h0) (fun _ _ _ _ _ => True) (fun _ U_ o_ V_ => ∃ v_ L_, o_ = .returned v_ ∧ QA Z a x cl sl cn sz h0 n0 v_ V_.heap L_ ∧ FrameEnd U_ o_ V_ L_ ({ frames := 0, cells := 0, slots := 0, locals := 0 } : Room).cells ({ frames := 0, cells := 0, slots := 0, locals := 0 } : Room).slots) := by
  refine MetFree.of_bodySF (plainFor_of_name pnA) hisR ?_
  intro p e s m args below meth c s₁ Bd hml0 hP hK
  obtain ⟨rfl, hZ, hh⟩ := hP
  have hx := Bd.exec
  have hby := Bd.bytes
  have hml : c.maxLocals = 3 := hml0
  have hown : s.vm.findClass "com/example/kyu/kyu/PrefetchWindow" = some m.cls := findClass_of_methodNamed Bd.named
  have hnm := (name_of_methodNamed Bd.named Bd.method).1
  have hlk : meth.locks = false := BodyLoose.notSynchronized Bd
  have hret : meth.sig.returnType = none := Bd.returns
  have X0 : Stand p l e ({ frames := 0, cells := 0, slots := 0, locals := 0 } : Room) s m #[(.ref a), (.long x)] below meth c s₁ [] 0 0 := Stand.of_body Bd
  have e0 : s₁.heap = h0 := by rw [← hh, Bd.state]; rfl
  have N0 := Fr.nil n0
  show Go p e below s ({ frames := 0, cells := 0, slots := 0, locals := 0 } : Room).cells ({ frames := 0, cells := 0, slots := 0, locals := 0 } : Room).slots (QA Z a x cl sl cn sz h0 n0) (s₁.setTop (entryFrame m #[(.ref a), (.long x)] 3))
  rw [efA]
  refine Go.by (fun _ kont => XS.aloadN X0.here hx rfl (hb hby dA_0) rfl rfl (XS.dup X0.here hx rfl (hb hby dA_1) rfl rfl kont)) ?_
  show Go _ _ _ _ _ _ _ (s₁.setTop (mkF m 2 #[.val (.ref a), .val (.long x), .second] [(.ref a), (.ref a)]))
  obtain ⟨T101, X101, e101, st101⟩ := getF X0 hx hZ hown (host := "") (Or.inl (hw _ (List.mem_of_getElem? (i := 21) rfl))) Via.refl e0 F0_count (g := (mkF m 2 #[.val (.ref a), .val (.long x), .second] [(.ref a), (.ref a)])) rfl rfl (hb hby dA_2)
  refine Go.by st101 ?_
  show Go _ _ _ _ _ _ _ (T101.setTop (mkF m 5 #[.val (.ref a), .val (.long x), .second] [(.int cn), (.ref a)]))
  refine Go.by (fun _ kont => XS.iconst X101.here hx rfl (hb hby dA_5) (XS.iadd X101.here hx rfl (hb hby dA_6) rfl kont)) ?_
  show Go _ _ _ _ _ _ _ (T101.setTop (mkF m 7 #[.val (.ref a), .val (.long x), .second] [(.int (cn + (1 : Int32))), (.ref a)]))
  obtain ⟨T102, h102, X102, e102, W102, st102⟩ := putF X101 hx hZ hown (host := "") (Or.inl (hw _ (List.mem_of_getElem? (i := 21) rfl))) Via.refl e101 F0_count E0a (Or.inl (hw _ (List.mem_of_getElem? (i := 22) rfl))) (hw _ (List.mem_of_getElem? (i := 4) rfl)) (ty := .int) (by decide) rfl rfl (g := (mkF m 7 #[.val (.ref a), .val (.long x), .second] [(.int (cn + (1 : Int32))), (.ref a)])) rfl rfl (hb hby dA_7)
  have Fw102 := F0_count.same W102
  have F103_countLimit_a := F0_countLimit.other W102 (Or.inr (slot_ne (Or.inl (hw _ (List.mem_of_getElem? (i := 13) rfl))) (Or.inl (hw _ (List.mem_of_getElem? (i := 22) rfl))) (by decide) (t := .int) (t' := .int) (by decide) (by decide)))
  have F103_sizeLimit_a := F0_sizeLimit.other W102 (Or.inr (slot_ne (Or.inl (hw _ (List.mem_of_getElem? (i := 15) rfl))) (Or.inl (hw _ (List.mem_of_getElem? (i := 22) rfl))) (by decide) (t := .long) (t' := .int) (by decide) (by decide)))
  have F103_size_a := F0_size.other W102 (Or.inr (slot_ne (Or.inl (hw _ (List.mem_of_getElem? (i := 24) rfl))) (Or.inl (hw _ (List.mem_of_getElem? (i := 22) rfl))) (by decide) (t := .long) (t' := .int) (by decide) (by decide)))
  have E103_a := E0a.wr W102
  have Z103 := Nat.le_trans Z0 (Keep.of_wr W102).1
  have K103 : Keep h0 h102 [a] := (Keep.refl h0 [a]).wr W102 (Or.inl (by simp))
  have N102 := Fr.snoc X102 N0 ga
  refine Go.by st102 ?_
  show Go _ _ _ _ _ _ _ (T102.setTop (mkF m 10 #[.val (.ref a), .val (.long x), .second] []))
  refine Go.by (fun _ kont => XS.aloadN X102.here hx rfl (hb hby dA_10) rfl rfl (XS.dup X102.here hx rfl (hb hby dA_11) rfl rfl kont)) ?_
  show Go _ _ _ _ _ _ _ (T102.setTop (mkF m 12 #[.val (.ref a), .val (.long x), .second] [(.ref a), (.ref a)]))
  obtain ⟨T104, X104, e104, st104⟩ := getF X102 hx hZ hown (host := "") (Or.inl (hw _ (List.mem_of_getElem? (i := 23) rfl))) Via.refl e102 F103_size_a (g := (mkF m 12 #[.val (.ref a), .val (.long x), .second] [(.ref a), (.ref a)])) rfl rfl (hb hby dA_12)
  refine Go.by st104 ?_
  show Go _ _ _ _ _ _ _ (T104.setTop (mkF m 15 #[.val (.ref a), .val (.long x), .second] [(.long sz), (.ref a)]))
  refine Go.by (fun _ kont => XS.lloadN X104.here hx rfl (hb hby dA_15) rfl (XS.ladd X104.here hx rfl (hb hby dA_16) rfl kont)) ?_
  show Go _ _ _ _ _ _ _ (T104.setTop (mkF m 17 #[.val (.ref a), .val (.long x), .second] [(.long (sz + x)), (.ref a)]))
  obtain ⟨T105, h105, X105, e105, W105, st105⟩ := putF X104 hx hZ hown (host := "") (Or.inl (hw _ (List.mem_of_getElem? (i := 23) rfl))) Via.refl e104 F103_size_a E103_a (Or.inl (hw _ (List.mem_of_getElem? (i := 24) rfl))) (hw _ (List.mem_of_getElem? (i := 4) rfl)) (ty := .long) (by decide) rfl rfl (g := (mkF m 17 #[.val (.ref a), .val (.long x), .second] [(.long (sz + x)), (.ref a)])) rfl rfl (hb hby dA_17)
  have Fw105 := F103_size_a.same W105
  have F106_countLimit_a := F103_countLimit_a.other W105 (Or.inr (slot_ne (Or.inl (hw _ (List.mem_of_getElem? (i := 13) rfl))) (Or.inl (hw _ (List.mem_of_getElem? (i := 24) rfl))) (by decide) (t := .int) (t' := .long) (by decide) (by decide)))
  have F106_sizeLimit_a := F103_sizeLimit_a.other W105 (Or.inr (slot_ne (Or.inl (hw _ (List.mem_of_getElem? (i := 15) rfl))) (Or.inl (hw _ (List.mem_of_getElem? (i := 24) rfl))) (by decide) (t := .long) (t' := .long) (by decide) (by decide)))
  have F106_count_a := Fw102.other W105 (Or.inr (slot_ne (Or.inl (hw _ (List.mem_of_getElem? (i := 22) rfl))) (Or.inl (hw _ (List.mem_of_getElem? (i := 24) rfl))) (by decide) (t := .int) (t' := .long) (by decide) (by decide)))
  have E106_a := E103_a.wr W105
  have Z106 := Nat.le_trans Z103 (Keep.of_wr W105).1
  have K106 : Keep h0 h105 [a] := K103.wr W105 (Or.inl (by simp))
  have N105 := Fr.snoc X105 N102 ga
  refine Go.by st105 ?_
  show Go _ _ _ _ _ _ _ (T105.setTop (mkF m 20 #[.val (.ref a), .val (.long x), .second] []))
  refine Go.retV X105 hx hret hlk (hb hby dA_20) ?_ (by decide) (by decide)
  show QA Z a x cl sl cn sz h0 n0 none T105.heap _
  rw [e105]
  exact ⟨rfl, N105, K106, E106_a, F106_countLimit_a, F106_sizeLimit_a, F106_count_a, Fw105⟩

theorem dH_0 : decode prog_6_method_3_code 0 = .ok (.aload_n 0, 1) := by decide +kernel
theorem dH_1 : decode prog_6_method_3_code 1 = .ok (.getfield 7, 3) := by decide +kernel
theorem dH_4 : decode prog_6_method_3_code 4 = .ok (.ifCond .eq 14, 3) := by decide +kernel
theorem dH_7 : decode prog_6_method_3_code 7 = .ok (.aload_n 0, 1) := by decide +kernel
theorem dH_8 : decode prog_6_method_3_code 8 = .ok (.getfield 17, 3) := by decide +kernel
theorem dH_11 : decode prog_6_method_3_code 11 = .ok (.aload_n 0, 1) := by decide +kernel
theorem dH_12 : decode prog_6_method_3_code 12 = .ok (.getfield 7, 3) := by decide +kernel
theorem dH_15 : decode prog_6_method_3_code 15 = .ok (.if_icmp .ge 7, 3) := by decide +kernel
theorem dH_18 : decode prog_6_method_3_code 18 = .ok (.iconst 1, 1) := by decide +kernel
theorem dH_19 : decode prog_6_method_3_code 19 = .ok (.goto 4, 3) := by decide +kernel
theorem dH_22 : decode prog_6_method_3_code 22 = .ok (.iconst 0, 1) := by decide +kernel
theorem dH_23 : decode prog_6_method_3_code 23 = .ok (.istore_n 3, 1) := by decide +kernel
theorem dH_24 : decode prog_6_method_3_code 24 = .ok (.aload_n 0, 1) := by decide +kernel
theorem dH_25 : decode prog_6_method_3_code 25 = .ok (.getfield 13, 3) := by decide +kernel
theorem dH_28 : decode prog_6_method_3_code 28 = .ok (.lconst 0, 1) := by decide +kernel
theorem dH_29 : decode prog_6_method_3_code 29 = .ok (.lcmp, 1) := by decide +kernel
theorem dH_30 : decode prog_6_method_3_code 30 = .ok (.ifCond .eq 24, 3) := by decide +kernel
theorem dH_33 : decode prog_6_method_3_code 33 = .ok (.aload_n 0, 1) := by decide +kernel
theorem dH_34 : decode prog_6_method_3_code 34 = .ok (.getfield 17, 3) := by decide +kernel
theorem dH_37 : decode prog_6_method_3_code 37 = .ok (.ifCond .eq 17, 3) := by decide +kernel
theorem dH_40 : decode prog_6_method_3_code 40 = .ok (.aload_n 0, 1) := by decide +kernel
theorem dH_41 : decode prog_6_method_3_code 41 = .ok (.getfield 20, 3) := by decide +kernel
theorem dH_44 : decode prog_6_method_3_code 44 = .ok (.lload_n 1, 1) := by decide +kernel
theorem dH_45 : decode prog_6_method_3_code 45 = .ok (.ladd, 1) := by decide +kernel
theorem dH_46 : decode prog_6_method_3_code 46 = .ok (.aload_n 0, 1) := by decide +kernel
theorem dH_47 : decode prog_6_method_3_code 47 = .ok (.getfield 13, 3) := by decide +kernel
theorem dH_50 : decode prog_6_method_3_code 50 = .ok (.lcmp, 1) := by decide +kernel
theorem dH_51 : decode prog_6_method_3_code 51 = .ok (.ifCond .gt 7, 3) := by decide +kernel
theorem dH_54 : decode prog_6_method_3_code 54 = .ok (.iconst 1, 1) := by decide +kernel
theorem dH_55 : decode prog_6_method_3_code 55 = .ok (.goto 4, 3) := by decide +kernel
theorem dH_58 : decode prog_6_method_3_code 58 = .ok (.iconst 0, 1) := by decide +kernel
theorem dH_59 : decode prog_6_method_3_code 59 = .ok (.istore 4, 2) := by decide +kernel
theorem dH_61 : decode prog_6_method_3_code 61 = .ok (.iload_n 3, 1) := by decide +kernel
theorem dH_62 : decode prog_6_method_3_code 62 = .ok (.ifCond .eq 12, 3) := by decide +kernel
theorem dH_65 : decode prog_6_method_3_code 65 = .ok (.iload 4, 2) := by decide +kernel
theorem dH_67 : decode prog_6_method_3_code 67 = .ok (.ifCond .eq 7, 3) := by decide +kernel
theorem dH_70 : decode prog_6_method_3_code 70 = .ok (.iconst 1, 1) := by decide +kernel
theorem dH_71 : decode prog_6_method_3_code 71 = .ok (.goto 4, 3) := by decide +kernel
theorem dH_74 : decode prog_6_method_3_code 74 = .ok (.iconst 0, 1) := by decide +kernel
theorem dH_75 : decode prog_6_method_3_code 75 = .ok (.ireturn, 1) := by decide +kernel
theorem pnH : plainName "com/example/kyu/kyu/PrefetchWindow" = true := by first | (simp [plainName, overriddenIn]; done) | decide +kernel
theorem efH (m : MethodId) (a : Addr) (x : Int64) : entryFrame m #[(.ref a), (.long x)] 5 = mkF m 0 #[.val (.ref a), .val (.long x), .second, .unset, .unset] [] := by first | (simp [entryFrame, mkF, argsToLocals, Value.category]; done) | rfl
def own_room (x : Int64) (cl : Int32) (sl : Int64) (cn : Int32) (sz : Int64) : Bool := (decide (cl = 0) || decide (cn < cl)) && (decide (sl = 0) || decide (cn = 0) || !decide (sl < sz + x))
def QH (Z : State) (a : Addr) (x : Int64) (cl : Int32) (sl : Int64) (cn : Int32) (sz : Int64) (h0 : Heap) (n0 : Nat) (v : Option Value) (h : Heap) (L : List Loc) : Prop := v = some (.int (if own_room x cl sl cn sz then 1 else 0)) ∧ Fr n0 L ∧ h = h0
set_option maxRecDepth 65536 in
set_option maxHeartbeats 40000000 in
theorem rmH (l : Launch) (Z : State) (a0 : Array Value) (hw : ∀ d ∈ tables_1, d.before a0 Z = true) (ws : List Jvm.Cond) (a : Addr) (x : Int64) (cl : Int32) (sl : Int64) (cn : Int32) (sz : Int64) (h0 : Heap) (n0 : Nat) (Z0 : n0 ≤ h0.size) (E0a : Exa Z h0 a "com/example/kyu/kyu/PrefetchWindow") (F0_countLimit : Fld Z h0 a "com/example/kyu/kyu/PrefetchWindow" "countLimit" "I" (.int cl)) (F0_sizeLimit : Fld Z h0 a "com/example/kyu/kyu/PrefetchWindow" "sizeLimit" "J" (.long sl)) (F0_count : Fld Z h0 a "com/example/kyu/kyu/PrefetchWindow" "count" "I" (.int cn)) (F0_size : Fld Z h0 a "com/example/kyu/kyu/PrefetchWindow" "size" "J" (.long sz)) (ga : n0 ≤ a) :
    MetFree l (⟨"com/example/kyu/kyu/PrefetchWindow", "hasRoomFor", "(J)Z"⟩ : MethodName) (head1 (Jvm.Cond.code (⟨"com/example/kyu/kyu/PrefetchWindow", "hasRoomFor", "(J)Z"⟩ : MethodName) prog_6_method_3_code 5 (some .boolean) :: ws) ({ frames := 0, cells := 0, slots := 0, locals := 0 } : Room)) (fun aa_ U_ => aa_ = #[(.ref a), (.long x)] ∧ Z.Warmed39 U_.vm ∧ U_.heap = h0) (fun _ _ _ _ _ => True) (fun _ U_ o_ V_ => ∃ v_ L_, o_ = .returned v_ ∧ QH Z a x cl sl cn sz h0 n0 v_ V_.heap L_ ∧ FrameEnd U_ o_ V_ L_ ({ frames := 0, cells := 0, slots := 0, locals := 0 } : Room).cells ({ frames := 0, cells := 0, slots := 0, locals := 0 } : Room).slots) := by
  refine MetFree.of_bodySF (plainFor_of_name pnH) hisR ?_
  intro p e s m args below meth c s₁ Bd hml0 hP hK
  obtain ⟨rfl, hZ, hh⟩ := hP
  have hx := Bd.exec
  have hby := Bd.bytes
  have hml : c.maxLocals = 5 := hml0
  have hown : s.vm.findClass "com/example/kyu/kyu/PrefetchWindow" = some m.cls := findClass_of_methodNamed Bd.named
  have hnm := (name_of_methodNamed Bd.named Bd.method).1
  have hlk : meth.locks = false := BodyLoose.notSynchronized Bd
  have hret : meth.sig.returnType = (some .boolean) := Bd.returns
  have X0 : Stand p l e ({ frames := 0, cells := 0, slots := 0, locals := 0 } : Room) s m #[(.ref a), (.long x)] below meth c s₁ [] 0 0 := Stand.of_body Bd
  have e0 : s₁.heap = h0 := by rw [← hh, Bd.state]; rfl
  have N0 := Fr.nil n0
  show Go p e below s ({ frames := 0, cells := 0, slots := 0, locals := 0 } : Room).cells ({ frames := 0, cells := 0, slots := 0, locals := 0 } : Room).slots (QH Z a x cl sl cn sz h0 n0) (s₁.setTop (entryFrame m #[(.ref a), (.long x)] 5))
  rw [efH]
  refine Go.by (fun _ kont => XS.aloadN X0.here hx rfl (hb hby dH_0) rfl rfl kont) ?_
  show Go _ _ _ _ _ _ _ (s₁.setTop (mkF m 1 #[.val (.ref a), .val (.long x), .second, .unset, .unset] [(.ref a)]))
  obtain ⟨T101, X101, e101, st101⟩ := getF X0 hx hZ hown (host := "") (Or.inl (hw _ (List.mem_of_getElem? (i := 12) rfl))) Via.refl e0 F0_countLimit (g := (mkF m 1 #[.val (.ref a), .val (.long x), .second, .unset, .unset] [(.ref a)])) rfl rfl (hb hby dH_1)
  refine Go.by st101 ?_
  show Go _ _ _ _ _ _ _ (T101.setTop (mkF m 4 #[.val (.ref a), .val (.long x), .second, .unset, .unset] [(.int cl)]))
  by_cases hc102 : cl = (0 : Int32)
  · refine Go.by (fun _ kont => XS.ifYes X101.here hx rfl (pc0 := 4) (pc' := 18) rfl (hb hby dH_4) rfl ((if0 _ _).trans (teq hc102).1) (by decide) (by decide) kont) ?_
    show Go _ _ _ _ _ _ _ (T101.setTop (mkF m 18 #[.val (.ref a), .val (.long x), .second, .unset, .unset] []))
    refine Go.by (fun _ kont => XS.iconst X101.here hx rfl (hb hby dH_18) (XS.goto X101.here hx rfl (pc0 := 19) (pc' := 23) rfl (hb hby dH_19) (by decide) (by decide) (XS.istoreN X101.here hx rfl (hb hby dH_23) rfl (l' := #[.val (.ref a), .val (.long x), .second, .val (.int (1 : Int32)), .unset]) rfl (XS.aloadN X101.here hx rfl (hb hby dH_24) rfl rfl kont)))) ?_
    show Go _ _ _ _ _ _ _ (T101.setTop (mkF m 25 #[.val (.ref a), .val (.long x), .second, .val (.int (1 : Int32)), .unset] [(.ref a)]))
    obtain ⟨T103, X103, e103, st103⟩ := getF X101 hx hZ hown (host := "") (Or.inl (hw _ (List.mem_of_getElem? (i := 14) rfl))) Via.refl e101 F0_sizeLimit (g := (mkF m 25 #[.val (.ref a), .val (.long x), .second, .val (.int (1 : Int32)), .unset] [(.ref a)])) rfl rfl (hb hby dH_25)
    refine Go.by st103 ?_
    show Go _ _ _ _ _ _ _ (T103.setTop (mkF m 28 #[.val (.ref a), .val (.long x), .second, .val (.int (1 : Int32)), .unset] [(.long sl)]))
    refine Go.by (fun _ kont => XS.lconst X103.here hx rfl (hb hby dH_28) (XS.lcmp X103.here hx rfl (hb hby dH_29) rfl kont)) ?_
    show Go _ _ _ _ _ _ _ (T103.setTop (mkF m 30 #[.val (.ref a), .val (.long x), .second, .val (.int (1 : Int32)), .unset] [(.int (lcmpW sl (0 : Int64)))]))
    by_cases hc104 : sl = (0 : Int64)
    · refine Go.by (fun _ kont => XS.ifYes X103.here hx rfl (pc0 := 30) (pc' := 54) rfl (hb hby dH_30) rfl ((if0 _ _).trans (teq ((lw_eq _ _).mpr hc104)).1) (by decide) (by decide) kont) ?_
      show Go _ _ _ _ _ _ _ (T103.setTop (mkF m 54 #[.val (.ref a), .val (.long x), .second, .val (.int (1 : Int32)), .unset] []))
      refine Go.by (fun _ kont => XS.iconst X103.here hx rfl (hb hby dH_54) (XS.goto X103.here hx rfl (pc0 := 55) (pc' := 59) rfl (hb hby dH_55) (by decide) (by decide) (XS.istore X103.here hx rfl (hb hby dH_59) rfl (l' := #[.val (.ref a), .val (.long x), .second, .val (.int (1 : Int32)), .val (.int (1 : Int32))]) rfl (XS.iloadN X103.here hx rfl (hb hby dH_61) rfl kont)))) ?_
      show Go _ _ _ _ _ _ _ (T103.setTop (mkF m 62 #[.val (.ref a), .val (.long x), .second, .val (.int (1 : Int32)), .val (.int (1 : Int32))] [(.int (1 : Int32))]))
      refine Go.by (fun _ kont => XS.ifNo X103.here hx rfl (hb hby dH_62) rfl (by decide) kont) ?_
      show Go _ _ _ _ _ _ _ (T103.setTop (mkF m 65 #[.val (.ref a), .val (.long x), .second, .val (.int (1 : Int32)), .val (.int (1 : Int32))] []))
      refine Go.by (fun _ kont => XS.iload X103.here hx rfl (hb hby dH_65) rfl kont) ?_
      show Go _ _ _ _ _ _ _ (T103.setTop (mkF m 67 #[.val (.ref a), .val (.long x), .second, .val (.int (1 : Int32)), .val (.int (1 : Int32))] [(.int (1 : Int32))]))
      refine Go.by (fun _ kont => XS.ifNo X103.here hx rfl (hb hby dH_67) rfl (by decide) kont) ?_
      show Go _ _ _ _ _ _ _ (T103.setTop (mkF m 70 #[.val (.ref a), .val (.long x), .second, .val (.int (1 : Int32)), .val (.int (1 : Int32))] []))
      refine Go.by (fun _ kont => XS.iconst X103.here hx rfl (hb hby dH_70) (XS.goto X103.here hx rfl (pc0 := 71) (pc' := 75) rfl (hb hby dH_71) (by decide) (by decide) kont)) ?_
      show Go _ _ _ _ _ _ _ (T103.setTop (mkF m 75 #[.val (.ref a), .val (.long x), .second, .val (.int (1 : Int32)), .val (.int (1 : Int32))] [(.int (1 : Int32))]))
      refine Go.retN X103 hx (t := .boolean) hret (by simp) hlk (hb hby dH_75) ?_ (by decide) (by decide)
      show QH Z a x cl sl cn sz h0 n0 (some (.int (1 : Int32))) T103.heap _
      rw [e103]
      refine ⟨?_, N0, rfl⟩
      simp only [own_room, decide_eq_true hc102, decide_eq_true hc104]
      rfl
    · refine Go.by (fun _ kont => XS.ifNo X103.here hx rfl (hb hby dH_30) rfl ((if0 _ _).trans (feq (fun z => hc104 ((lw_eq _ _).mp z))).1) kont) ?_
      show Go _ _ _ _ _ _ _ (T103.setTop (mkF m 33 #[.val (.ref a), .val (.long x), .second, .val (.int (1 : Int32)), .unset] []))
      refine Go.by (fun _ kont => XS.aloadN X103.here hx rfl (hb hby dH_33) rfl rfl kont) ?_
      show Go _ _ _ _ _ _ _ (T103.setTop (mkF m 34 #[.val (.ref a), .val (.long x), .second, .val (.int (1 : Int32)), .unset] [(.ref a)]))
      obtain ⟨T105, X105, e105, st105⟩ := getF X103 hx hZ hown (host := "") (Or.inl (hw _ (List.mem_of_getElem? (i := 21) rfl))) Via.refl e103 F0_count (g := (mkF m 34 #[.val (.ref a), .val (.long x), .second, .val (.int (1 : Int32)), .unset] [(.ref a)])) rfl rfl (hb hby dH_34)
      refine Go.by st105 ?_
      show Go _ _ _ _ _ _ _ (T105.setTop (mkF m 37 #[.val (.ref a), .val (.long x), .second, .val (.int (1 : Int32)), .unset] [(.int cn)]))
      by_cases hc106 : cn = (0 : Int32)
      · refine Go.by (fun _ kont => XS.ifYes X105.here hx rfl (pc0 := 37) (pc' := 54) rfl (hb hby dH_37) rfl ((if0 _ _).trans (teq hc106).1) (by decide) (by decide) kont) ?_
        show Go _ _ _ _ _ _ _ (T105.setTop (mkF m 54 #[.val (.ref a), .val (.long x), .second, .val (.int (1 : Int32)), .unset] []))
        refine Go.by (fun _ kont => XS.iconst X105.here hx rfl (hb hby dH_54) (XS.goto X105.here hx rfl (pc0 := 55) (pc' := 59) rfl (hb hby dH_55) (by decide) (by decide) (XS.istore X105.here hx rfl (hb hby dH_59) rfl (l' := #[.val (.ref a), .val (.long x), .second, .val (.int (1 : Int32)), .val (.int (1 : Int32))]) rfl (XS.iloadN X105.here hx rfl (hb hby dH_61) rfl kont)))) ?_
        show Go _ _ _ _ _ _ _ (T105.setTop (mkF m 62 #[.val (.ref a), .val (.long x), .second, .val (.int (1 : Int32)), .val (.int (1 : Int32))] [(.int (1 : Int32))]))
        refine Go.by (fun _ kont => XS.ifNo X105.here hx rfl (hb hby dH_62) rfl (by decide) kont) ?_
        show Go _ _ _ _ _ _ _ (T105.setTop (mkF m 65 #[.val (.ref a), .val (.long x), .second, .val (.int (1 : Int32)), .val (.int (1 : Int32))] []))
        refine Go.by (fun _ kont => XS.iload X105.here hx rfl (hb hby dH_65) rfl kont) ?_
        show Go _ _ _ _ _ _ _ (T105.setTop (mkF m 67 #[.val (.ref a), .val (.long x), .second, .val (.int (1 : Int32)), .val (.int (1 : Int32))] [(.int (1 : Int32))]))
        refine Go.by (fun _ kont => XS.ifNo X105.here hx rfl (hb hby dH_67) rfl (by decide) kont) ?_
        show Go _ _ _ _ _ _ _ (T105.setTop (mkF m 70 #[.val (.ref a), .val (.long x), .second, .val (.int (1 : Int32)), .val (.int (1 : Int32))] []))
        refine Go.by (fun _ kont => XS.iconst X105.here hx rfl (hb hby dH_70) (XS.goto X105.here hx rfl (pc0 := 71) (pc' := 75) rfl (hb hby dH_71) (by decide) (by decide) kont)) ?_
        show Go _ _ _ _ _ _ _ (T105.setTop (mkF m 75 #[.val (.ref a), .val (.long x), .second, .val (.int (1 : Int32)), .val (.int (1 : Int32))] [(.int (1 : Int32))]))
        refine Go.retN X105 hx (t := .boolean) hret (by simp) hlk (hb hby dH_75) ?_ (by decide) (by decide)
        show QH Z a x cl sl cn sz h0 n0 (some (.int (1 : Int32))) T105.heap _
        rw [e105]
        refine ⟨?_, N0, rfl⟩
        simp only [own_room, decide_eq_true hc102, decide_eq_false hc104, decide_eq_true hc106]
        rfl
      · refine Go.by (fun _ kont => XS.ifNo X105.here hx rfl (hb hby dH_37) rfl ((if0 _ _).trans (feq hc106).1) kont) ?_
        show Go _ _ _ _ _ _ _ (T105.setTop (mkF m 40 #[.val (.ref a), .val (.long x), .second, .val (.int (1 : Int32)), .unset] []))
        refine Go.by (fun _ kont => XS.aloadN X105.here hx rfl (hb hby dH_40) rfl rfl kont) ?_
        show Go _ _ _ _ _ _ _ (T105.setTop (mkF m 41 #[.val (.ref a), .val (.long x), .second, .val (.int (1 : Int32)), .unset] [(.ref a)]))
        obtain ⟨T107, X107, e107, st107⟩ := getF X105 hx hZ hown (host := "") (Or.inl (hw _ (List.mem_of_getElem? (i := 23) rfl))) Via.refl e105 F0_size (g := (mkF m 41 #[.val (.ref a), .val (.long x), .second, .val (.int (1 : Int32)), .unset] [(.ref a)])) rfl rfl (hb hby dH_41)
        refine Go.by st107 ?_
        show Go _ _ _ _ _ _ _ (T107.setTop (mkF m 44 #[.val (.ref a), .val (.long x), .second, .val (.int (1 : Int32)), .unset] [(.long sz)]))
        refine Go.by (fun _ kont => XS.lloadN X107.here hx rfl (hb hby dH_44) rfl (XS.ladd X107.here hx rfl (hb hby dH_45) rfl (XS.aloadN X107.here hx rfl (hb hby dH_46) rfl rfl kont))) ?_
        show Go _ _ _ _ _ _ _ (T107.setTop (mkF m 47 #[.val (.ref a), .val (.long x), .second, .val (.int (1 : Int32)), .unset] [(.ref a), (.long (sz + x))]))
        obtain ⟨T108, X108, e108, st108⟩ := getF X107 hx hZ hown (host := "") (Or.inl (hw _ (List.mem_of_getElem? (i := 14) rfl))) Via.refl e107 F0_sizeLimit (g := (mkF m 47 #[.val (.ref a), .val (.long x), .second, .val (.int (1 : Int32)), .unset] [(.ref a), (.long (sz + x))])) rfl rfl (hb hby dH_47)
        refine Go.by st108 ?_
        show Go _ _ _ _ _ _ _ (T108.setTop (mkF m 50 #[.val (.ref a), .val (.long x), .second, .val (.int (1 : Int32)), .unset] [(.long sl), (.long (sz + x))]))
        refine Go.by (fun _ kont => XS.lcmp X108.here hx rfl (hb hby dH_50) rfl kont) ?_
        show Go _ _ _ _ _ _ _ (T108.setTop (mkF m 51 #[.val (.ref a), .val (.long x), .second, .val (.int (1 : Int32)), .unset] [(.int (lcmpW (sz + x) sl))]))
        by_cases hc109 : sl < (sz + x)
        · refine Go.by (fun _ kont => XS.ifYes X108.here hx rfl (pc0 := 51) (pc' := 58) rfl (hb hby dH_51) rfl ((if0 _ _).trans (tlt ((lw_gt _ _).mpr hc109)).2.2.1) (by decide) (by decide) kont) ?_
          show Go _ _ _ _ _ _ _ (T108.setTop (mkF m 58 #[.val (.ref a), .val (.long x), .second, .val (.int (1 : Int32)), .unset] []))
          refine Go.by (fun _ kont => XS.iconst X108.here hx rfl (hb hby dH_58) (XS.istore X108.here hx rfl (hb hby dH_59) rfl (l' := #[.val (.ref a), .val (.long x), .second, .val (.int (1 : Int32)), .val (.int (0 : Int32))]) rfl (XS.iloadN X108.here hx rfl (hb hby dH_61) rfl kont))) ?_
          show Go _ _ _ _ _ _ _ (T108.setTop (mkF m 62 #[.val (.ref a), .val (.long x), .second, .val (.int (1 : Int32)), .val (.int (0 : Int32))] [(.int (1 : Int32))]))
          refine Go.by (fun _ kont => XS.ifNo X108.here hx rfl (hb hby dH_62) rfl (by decide) kont) ?_
          show Go _ _ _ _ _ _ _ (T108.setTop (mkF m 65 #[.val (.ref a), .val (.long x), .second, .val (.int (1 : Int32)), .val (.int (0 : Int32))] []))
          refine Go.by (fun _ kont => XS.iload X108.here hx rfl (hb hby dH_65) rfl kont) ?_
          show Go _ _ _ _ _ _ _ (T108.setTop (mkF m 67 #[.val (.ref a), .val (.long x), .second, .val (.int (1 : Int32)), .val (.int (0 : Int32))] [(.int (0 : Int32))]))
          refine Go.by (fun _ kont => XS.ifYes X108.here hx rfl (pc0 := 67) (pc' := 74) rfl (hb hby dH_67) rfl (by decide) (by decide) (by decide) kont) ?_
          show Go _ _ _ _ _ _ _ (T108.setTop (mkF m 74 #[.val (.ref a), .val (.long x), .second, .val (.int (1 : Int32)), .val (.int (0 : Int32))] []))
          refine Go.by (fun _ kont => XS.iconst X108.here hx rfl (hb hby dH_74) kont) ?_
          show Go _ _ _ _ _ _ _ (T108.setTop (mkF m 75 #[.val (.ref a), .val (.long x), .second, .val (.int (1 : Int32)), .val (.int (0 : Int32))] [(.int (0 : Int32))]))
          refine Go.retN X108 hx (t := .boolean) hret (by simp) hlk (hb hby dH_75) ?_ (by decide) (by decide)
          show QH Z a x cl sl cn sz h0 n0 (some (.int (0 : Int32))) T108.heap _
          rw [e108]
          refine ⟨?_, N0, rfl⟩
          simp only [own_room, decide_eq_true hc102, decide_eq_false hc104, decide_eq_false hc106, decide_eq_true hc109]
          rfl
        · refine Go.by (fun _ kont => XS.ifNo X108.here hx rfl (hb hby dH_51) rfl ((if0 _ _).trans (flt (fun z => hc109 ((lw_gt _ _).mp z))).2.2.1) kont) ?_
          show Go _ _ _ _ _ _ _ (T108.setTop (mkF m 54 #[.val (.ref a), .val (.long x), .second, .val (.int (1 : Int32)), .unset] []))
          refine Go.by (fun _ kont => XS.iconst X108.here hx rfl (hb hby dH_54) (XS.goto X108.here hx rfl (pc0 := 55) (pc' := 59) rfl (hb hby dH_55) (by decide) (by decide) (XS.istore X108.here hx rfl (hb hby dH_59) rfl (l' := #[.val (.ref a), .val (.long x), .second, .val (.int (1 : Int32)), .val (.int (1 : Int32))]) rfl (XS.iloadN X108.here hx rfl (hb hby dH_61) rfl kont)))) ?_
          show Go _ _ _ _ _ _ _ (T108.setTop (mkF m 62 #[.val (.ref a), .val (.long x), .second, .val (.int (1 : Int32)), .val (.int (1 : Int32))] [(.int (1 : Int32))]))
          refine Go.by (fun _ kont => XS.ifNo X108.here hx rfl (hb hby dH_62) rfl (by decide) kont) ?_
          show Go _ _ _ _ _ _ _ (T108.setTop (mkF m 65 #[.val (.ref a), .val (.long x), .second, .val (.int (1 : Int32)), .val (.int (1 : Int32))] []))
          refine Go.by (fun _ kont => XS.iload X108.here hx rfl (hb hby dH_65) rfl kont) ?_
          show Go _ _ _ _ _ _ _ (T108.setTop (mkF m 67 #[.val (.ref a), .val (.long x), .second, .val (.int (1 : Int32)), .val (.int (1 : Int32))] [(.int (1 : Int32))]))
          refine Go.by (fun _ kont => XS.ifNo X108.here hx rfl (hb hby dH_67) rfl (by decide) kont) ?_
          show Go _ _ _ _ _ _ _ (T108.setTop (mkF m 70 #[.val (.ref a), .val (.long x), .second, .val (.int (1 : Int32)), .val (.int (1 : Int32))] []))
          refine Go.by (fun _ kont => XS.iconst X108.here hx rfl (hb hby dH_70) (XS.goto X108.here hx rfl (pc0 := 71) (pc' := 75) rfl (hb hby dH_71) (by decide) (by decide) kont)) ?_
          show Go _ _ _ _ _ _ _ (T108.setTop (mkF m 75 #[.val (.ref a), .val (.long x), .second, .val (.int (1 : Int32)), .val (.int (1 : Int32))] [(.int (1 : Int32))]))
          refine Go.retN X108 hx (t := .boolean) hret (by simp) hlk (hb hby dH_75) ?_ (by decide) (by decide)
          show QH Z a x cl sl cn sz h0 n0 (some (.int (1 : Int32))) T108.heap _
          rw [e108]
          refine ⟨?_, N0, rfl⟩
          simp only [own_room, decide_eq_true hc102, decide_eq_false hc104, decide_eq_false hc106, decide_eq_false hc109]
          rfl
  · refine Go.by (fun _ kont => XS.ifNo X101.here hx rfl (hb hby dH_4) rfl ((if0 _ _).trans (feq hc102).1) kont) ?_
    show Go _ _ _ _ _ _ _ (T101.setTop (mkF m 7 #[.val (.ref a), .val (.long x), .second, .unset, .unset] []))
    refine Go.by (fun _ kont => XS.aloadN X101.here hx rfl (hb hby dH_7) rfl rfl kont) ?_
    show Go _ _ _ _ _ _ _ (T101.setTop (mkF m 8 #[.val (.ref a), .val (.long x), .second, .unset, .unset] [(.ref a)]))
    obtain ⟨T110, X110, e110, st110⟩ := getF X101 hx hZ hown (host := "") (Or.inl (hw _ (List.mem_of_getElem? (i := 21) rfl))) Via.refl e101 F0_count (g := (mkF m 8 #[.val (.ref a), .val (.long x), .second, .unset, .unset] [(.ref a)])) rfl rfl (hb hby dH_8)
    refine Go.by st110 ?_
    show Go _ _ _ _ _ _ _ (T110.setTop (mkF m 11 #[.val (.ref a), .val (.long x), .second, .unset, .unset] [(.int cn)]))
    refine Go.by (fun _ kont => XS.aloadN X110.here hx rfl (hb hby dH_11) rfl rfl kont) ?_
    show Go _ _ _ _ _ _ _ (T110.setTop (mkF m 12 #[.val (.ref a), .val (.long x), .second, .unset, .unset] [(.ref a), (.int cn)]))
    obtain ⟨T111, X111, e111, st111⟩ := getF X110 hx hZ hown (host := "") (Or.inl (hw _ (List.mem_of_getElem? (i := 12) rfl))) Via.refl e110 F0_countLimit (g := (mkF m 12 #[.val (.ref a), .val (.long x), .second, .unset, .unset] [(.ref a), (.int cn)])) rfl rfl (hb hby dH_12)
    refine Go.by st111 ?_
    show Go _ _ _ _ _ _ _ (T111.setTop (mkF m 15 #[.val (.ref a), .val (.long x), .second, .unset, .unset] [(.int cl), (.int cn)]))
    by_cases hc112 : cn < cl
    · refine Go.by (fun _ kont => XS.icmpNo X111.here hx rfl (hb hby dH_15) rfl (tlt hc112).2.1 kont) ?_
      show Go _ _ _ _ _ _ _ (T111.setTop (mkF m 18 #[.val (.ref a), .val (.long x), .second, .unset, .unset] []))
      refine Go.by (fun _ kont => XS.iconst X111.here hx rfl (hb hby dH_18) (XS.goto X111.here hx rfl (pc0 := 19) (pc' := 23) rfl (hb hby dH_19) (by decide) (by decide) (XS.istoreN X111.here hx rfl (hb hby dH_23) rfl (l' := #[.val (.ref a), .val (.long x), .second, .val (.int (1 : Int32)), .unset]) rfl (XS.aloadN X111.here hx rfl (hb hby dH_24) rfl rfl kont)))) ?_
      show Go _ _ _ _ _ _ _ (T111.setTop (mkF m 25 #[.val (.ref a), .val (.long x), .second, .val (.int (1 : Int32)), .unset] [(.ref a)]))
      obtain ⟨T113, X113, e113, st113⟩ := getF X111 hx hZ hown (host := "") (Or.inl (hw _ (List.mem_of_getElem? (i := 14) rfl))) Via.refl e111 F0_sizeLimit (g := (mkF m 25 #[.val (.ref a), .val (.long x), .second, .val (.int (1 : Int32)), .unset] [(.ref a)])) rfl rfl (hb hby dH_25)
      refine Go.by st113 ?_
      show Go _ _ _ _ _ _ _ (T113.setTop (mkF m 28 #[.val (.ref a), .val (.long x), .second, .val (.int (1 : Int32)), .unset] [(.long sl)]))
      refine Go.by (fun _ kont => XS.lconst X113.here hx rfl (hb hby dH_28) (XS.lcmp X113.here hx rfl (hb hby dH_29) rfl kont)) ?_
      show Go _ _ _ _ _ _ _ (T113.setTop (mkF m 30 #[.val (.ref a), .val (.long x), .second, .val (.int (1 : Int32)), .unset] [(.int (lcmpW sl (0 : Int64)))]))
      by_cases hc114 : sl = (0 : Int64)
      · refine Go.by (fun _ kont => XS.ifYes X113.here hx rfl (pc0 := 30) (pc' := 54) rfl (hb hby dH_30) rfl ((if0 _ _).trans (teq ((lw_eq _ _).mpr hc114)).1) (by decide) (by decide) kont) ?_
        show Go _ _ _ _ _ _ _ (T113.setTop (mkF m 54 #[.val (.ref a), .val (.long x), .second, .val (.int (1 : Int32)), .unset] []))
        refine Go.by (fun _ kont => XS.iconst X113.here hx rfl (hb hby dH_54) (XS.goto X113.here hx rfl (pc0 := 55) (pc' := 59) rfl (hb hby dH_55) (by decide) (by decide) (XS.istore X113.here hx rfl (hb hby dH_59) rfl (l' := #[.val (.ref a), .val (.long x), .second, .val (.int (1 : Int32)), .val (.int (1 : Int32))]) rfl (XS.iloadN X113.here hx rfl (hb hby dH_61) rfl kont)))) ?_
        show Go _ _ _ _ _ _ _ (T113.setTop (mkF m 62 #[.val (.ref a), .val (.long x), .second, .val (.int (1 : Int32)), .val (.int (1 : Int32))] [(.int (1 : Int32))]))
        refine Go.by (fun _ kont => XS.ifNo X113.here hx rfl (hb hby dH_62) rfl (by decide) kont) ?_
        show Go _ _ _ _ _ _ _ (T113.setTop (mkF m 65 #[.val (.ref a), .val (.long x), .second, .val (.int (1 : Int32)), .val (.int (1 : Int32))] []))
        refine Go.by (fun _ kont => XS.iload X113.here hx rfl (hb hby dH_65) rfl kont) ?_
        show Go _ _ _ _ _ _ _ (T113.setTop (mkF m 67 #[.val (.ref a), .val (.long x), .second, .val (.int (1 : Int32)), .val (.int (1 : Int32))] [(.int (1 : Int32))]))
        refine Go.by (fun _ kont => XS.ifNo X113.here hx rfl (hb hby dH_67) rfl (by decide) kont) ?_
        show Go _ _ _ _ _ _ _ (T113.setTop (mkF m 70 #[.val (.ref a), .val (.long x), .second, .val (.int (1 : Int32)), .val (.int (1 : Int32))] []))
        refine Go.by (fun _ kont => XS.iconst X113.here hx rfl (hb hby dH_70) (XS.goto X113.here hx rfl (pc0 := 71) (pc' := 75) rfl (hb hby dH_71) (by decide) (by decide) kont)) ?_
        show Go _ _ _ _ _ _ _ (T113.setTop (mkF m 75 #[.val (.ref a), .val (.long x), .second, .val (.int (1 : Int32)), .val (.int (1 : Int32))] [(.int (1 : Int32))]))
        refine Go.retN X113 hx (t := .boolean) hret (by simp) hlk (hb hby dH_75) ?_ (by decide) (by decide)
        show QH Z a x cl sl cn sz h0 n0 (some (.int (1 : Int32))) T113.heap _
        rw [e113]
        refine ⟨?_, N0, rfl⟩
        simp only [own_room, decide_eq_false hc102, decide_eq_true hc112, decide_eq_true hc114]
        rfl
      · refine Go.by (fun _ kont => XS.ifNo X113.here hx rfl (hb hby dH_30) rfl ((if0 _ _).trans (feq (fun z => hc114 ((lw_eq _ _).mp z))).1) kont) ?_
        show Go _ _ _ _ _ _ _ (T113.setTop (mkF m 33 #[.val (.ref a), .val (.long x), .second, .val (.int (1 : Int32)), .unset] []))
        refine Go.by (fun _ kont => XS.aloadN X113.here hx rfl (hb hby dH_33) rfl rfl kont) ?_
        show Go _ _ _ _ _ _ _ (T113.setTop (mkF m 34 #[.val (.ref a), .val (.long x), .second, .val (.int (1 : Int32)), .unset] [(.ref a)]))
        obtain ⟨T115, X115, e115, st115⟩ := getF X113 hx hZ hown (host := "") (Or.inl (hw _ (List.mem_of_getElem? (i := 21) rfl))) Via.refl e113 F0_count (g := (mkF m 34 #[.val (.ref a), .val (.long x), .second, .val (.int (1 : Int32)), .unset] [(.ref a)])) rfl rfl (hb hby dH_34)
        refine Go.by st115 ?_
        show Go _ _ _ _ _ _ _ (T115.setTop (mkF m 37 #[.val (.ref a), .val (.long x), .second, .val (.int (1 : Int32)), .unset] [(.int cn)]))
        by_cases hc116 : cn = (0 : Int32)
        · refine Go.by (fun _ kont => XS.ifYes X115.here hx rfl (pc0 := 37) (pc' := 54) rfl (hb hby dH_37) rfl ((if0 _ _).trans (teq hc116).1) (by decide) (by decide) kont) ?_
          show Go _ _ _ _ _ _ _ (T115.setTop (mkF m 54 #[.val (.ref a), .val (.long x), .second, .val (.int (1 : Int32)), .unset] []))
          refine Go.by (fun _ kont => XS.iconst X115.here hx rfl (hb hby dH_54) (XS.goto X115.here hx rfl (pc0 := 55) (pc' := 59) rfl (hb hby dH_55) (by decide) (by decide) (XS.istore X115.here hx rfl (hb hby dH_59) rfl (l' := #[.val (.ref a), .val (.long x), .second, .val (.int (1 : Int32)), .val (.int (1 : Int32))]) rfl (XS.iloadN X115.here hx rfl (hb hby dH_61) rfl kont)))) ?_
          show Go _ _ _ _ _ _ _ (T115.setTop (mkF m 62 #[.val (.ref a), .val (.long x), .second, .val (.int (1 : Int32)), .val (.int (1 : Int32))] [(.int (1 : Int32))]))
          refine Go.by (fun _ kont => XS.ifNo X115.here hx rfl (hb hby dH_62) rfl (by decide) kont) ?_
          show Go _ _ _ _ _ _ _ (T115.setTop (mkF m 65 #[.val (.ref a), .val (.long x), .second, .val (.int (1 : Int32)), .val (.int (1 : Int32))] []))
          refine Go.by (fun _ kont => XS.iload X115.here hx rfl (hb hby dH_65) rfl kont) ?_
          show Go _ _ _ _ _ _ _ (T115.setTop (mkF m 67 #[.val (.ref a), .val (.long x), .second, .val (.int (1 : Int32)), .val (.int (1 : Int32))] [(.int (1 : Int32))]))
          refine Go.by (fun _ kont => XS.ifNo X115.here hx rfl (hb hby dH_67) rfl (by decide) kont) ?_
          show Go _ _ _ _ _ _ _ (T115.setTop (mkF m 70 #[.val (.ref a), .val (.long x), .second, .val (.int (1 : Int32)), .val (.int (1 : Int32))] []))
          refine Go.by (fun _ kont => XS.iconst X115.here hx rfl (hb hby dH_70) (XS.goto X115.here hx rfl (pc0 := 71) (pc' := 75) rfl (hb hby dH_71) (by decide) (by decide) kont)) ?_
          show Go _ _ _ _ _ _ _ (T115.setTop (mkF m 75 #[.val (.ref a), .val (.long x), .second, .val (.int (1 : Int32)), .val (.int (1 : Int32))] [(.int (1 : Int32))]))
          refine Go.retN X115 hx (t := .boolean) hret (by simp) hlk (hb hby dH_75) ?_ (by decide) (by decide)
          show QH Z a x cl sl cn sz h0 n0 (some (.int (1 : Int32))) T115.heap _
          rw [e115]
          refine ⟨?_, N0, rfl⟩
          simp only [own_room, decide_eq_false hc102, decide_eq_true hc112, decide_eq_false hc114, decide_eq_true hc116]
          rfl
        · refine Go.by (fun _ kont => XS.ifNo X115.here hx rfl (hb hby dH_37) rfl ((if0 _ _).trans (feq hc116).1) kont) ?_
          show Go _ _ _ _ _ _ _ (T115.setTop (mkF m 40 #[.val (.ref a), .val (.long x), .second, .val (.int (1 : Int32)), .unset] []))
          refine Go.by (fun _ kont => XS.aloadN X115.here hx rfl (hb hby dH_40) rfl rfl kont) ?_
          show Go _ _ _ _ _ _ _ (T115.setTop (mkF m 41 #[.val (.ref a), .val (.long x), .second, .val (.int (1 : Int32)), .unset] [(.ref a)]))
          obtain ⟨T117, X117, e117, st117⟩ := getF X115 hx hZ hown (host := "") (Or.inl (hw _ (List.mem_of_getElem? (i := 23) rfl))) Via.refl e115 F0_size (g := (mkF m 41 #[.val (.ref a), .val (.long x), .second, .val (.int (1 : Int32)), .unset] [(.ref a)])) rfl rfl (hb hby dH_41)
          refine Go.by st117 ?_
          show Go _ _ _ _ _ _ _ (T117.setTop (mkF m 44 #[.val (.ref a), .val (.long x), .second, .val (.int (1 : Int32)), .unset] [(.long sz)]))
          refine Go.by (fun _ kont => XS.lloadN X117.here hx rfl (hb hby dH_44) rfl (XS.ladd X117.here hx rfl (hb hby dH_45) rfl (XS.aloadN X117.here hx rfl (hb hby dH_46) rfl rfl kont))) ?_
          show Go _ _ _ _ _ _ _ (T117.setTop (mkF m 47 #[.val (.ref a), .val (.long x), .second, .val (.int (1 : Int32)), .unset] [(.ref a), (.long (sz + x))]))
          obtain ⟨T118, X118, e118, st118⟩ := getF X117 hx hZ hown (host := "") (Or.inl (hw _ (List.mem_of_getElem? (i := 14) rfl))) Via.refl e117 F0_sizeLimit (g := (mkF m 47 #[.val (.ref a), .val (.long x), .second, .val (.int (1 : Int32)), .unset] [(.ref a), (.long (sz + x))])) rfl rfl (hb hby dH_47)
          refine Go.by st118 ?_
          show Go _ _ _ _ _ _ _ (T118.setTop (mkF m 50 #[.val (.ref a), .val (.long x), .second, .val (.int (1 : Int32)), .unset] [(.long sl), (.long (sz + x))]))
          refine Go.by (fun _ kont => XS.lcmp X118.here hx rfl (hb hby dH_50) rfl kont) ?_
          show Go _ _ _ _ _ _ _ (T118.setTop (mkF m 51 #[.val (.ref a), .val (.long x), .second, .val (.int (1 : Int32)), .unset] [(.int (lcmpW (sz + x) sl))]))
          by_cases hc119 : sl < (sz + x)
          · refine Go.by (fun _ kont => XS.ifYes X118.here hx rfl (pc0 := 51) (pc' := 58) rfl (hb hby dH_51) rfl ((if0 _ _).trans (tlt ((lw_gt _ _).mpr hc119)).2.2.1) (by decide) (by decide) kont) ?_
            show Go _ _ _ _ _ _ _ (T118.setTop (mkF m 58 #[.val (.ref a), .val (.long x), .second, .val (.int (1 : Int32)), .unset] []))
            refine Go.by (fun _ kont => XS.iconst X118.here hx rfl (hb hby dH_58) (XS.istore X118.here hx rfl (hb hby dH_59) rfl (l' := #[.val (.ref a), .val (.long x), .second, .val (.int (1 : Int32)), .val (.int (0 : Int32))]) rfl (XS.iloadN X118.here hx rfl (hb hby dH_61) rfl kont))) ?_
            show Go _ _ _ _ _ _ _ (T118.setTop (mkF m 62 #[.val (.ref a), .val (.long x), .second, .val (.int (1 : Int32)), .val (.int (0 : Int32))] [(.int (1 : Int32))]))
            refine Go.by (fun _ kont => XS.ifNo X118.here hx rfl (hb hby dH_62) rfl (by decide) kont) ?_
            show Go _ _ _ _ _ _ _ (T118.setTop (mkF m 65 #[.val (.ref a), .val (.long x), .second, .val (.int (1 : Int32)), .val (.int (0 : Int32))] []))
            refine Go.by (fun _ kont => XS.iload X118.here hx rfl (hb hby dH_65) rfl kont) ?_
            show Go _ _ _ _ _ _ _ (T118.setTop (mkF m 67 #[.val (.ref a), .val (.long x), .second, .val (.int (1 : Int32)), .val (.int (0 : Int32))] [(.int (0 : Int32))]))
            refine Go.by (fun _ kont => XS.ifYes X118.here hx rfl (pc0 := 67) (pc' := 74) rfl (hb hby dH_67) rfl (by decide) (by decide) (by decide) kont) ?_
            show Go _ _ _ _ _ _ _ (T118.setTop (mkF m 74 #[.val (.ref a), .val (.long x), .second, .val (.int (1 : Int32)), .val (.int (0 : Int32))] []))
            refine Go.by (fun _ kont => XS.iconst X118.here hx rfl (hb hby dH_74) kont) ?_
            show Go _ _ _ _ _ _ _ (T118.setTop (mkF m 75 #[.val (.ref a), .val (.long x), .second, .val (.int (1 : Int32)), .val (.int (0 : Int32))] [(.int (0 : Int32))]))
            refine Go.retN X118 hx (t := .boolean) hret (by simp) hlk (hb hby dH_75) ?_ (by decide) (by decide)
            show QH Z a x cl sl cn sz h0 n0 (some (.int (0 : Int32))) T118.heap _
            rw [e118]
            refine ⟨?_, N0, rfl⟩
            simp only [own_room, decide_eq_false hc102, decide_eq_true hc112, decide_eq_false hc114, decide_eq_false hc116, decide_eq_true hc119]
            rfl
          · refine Go.by (fun _ kont => XS.ifNo X118.here hx rfl (hb hby dH_51) rfl ((if0 _ _).trans (flt (fun z => hc119 ((lw_gt _ _).mp z))).2.2.1) kont) ?_
            show Go _ _ _ _ _ _ _ (T118.setTop (mkF m 54 #[.val (.ref a), .val (.long x), .second, .val (.int (1 : Int32)), .unset] []))
            refine Go.by (fun _ kont => XS.iconst X118.here hx rfl (hb hby dH_54) (XS.goto X118.here hx rfl (pc0 := 55) (pc' := 59) rfl (hb hby dH_55) (by decide) (by decide) (XS.istore X118.here hx rfl (hb hby dH_59) rfl (l' := #[.val (.ref a), .val (.long x), .second, .val (.int (1 : Int32)), .val (.int (1 : Int32))]) rfl (XS.iloadN X118.here hx rfl (hb hby dH_61) rfl kont)))) ?_
            show Go _ _ _ _ _ _ _ (T118.setTop (mkF m 62 #[.val (.ref a), .val (.long x), .second, .val (.int (1 : Int32)), .val (.int (1 : Int32))] [(.int (1 : Int32))]))
            refine Go.by (fun _ kont => XS.ifNo X118.here hx rfl (hb hby dH_62) rfl (by decide) kont) ?_
            show Go _ _ _ _ _ _ _ (T118.setTop (mkF m 65 #[.val (.ref a), .val (.long x), .second, .val (.int (1 : Int32)), .val (.int (1 : Int32))] []))
            refine Go.by (fun _ kont => XS.iload X118.here hx rfl (hb hby dH_65) rfl kont) ?_
            show Go _ _ _ _ _ _ _ (T118.setTop (mkF m 67 #[.val (.ref a), .val (.long x), .second, .val (.int (1 : Int32)), .val (.int (1 : Int32))] [(.int (1 : Int32))]))
            refine Go.by (fun _ kont => XS.ifNo X118.here hx rfl (hb hby dH_67) rfl (by decide) kont) ?_
            show Go _ _ _ _ _ _ _ (T118.setTop (mkF m 70 #[.val (.ref a), .val (.long x), .second, .val (.int (1 : Int32)), .val (.int (1 : Int32))] []))
            refine Go.by (fun _ kont => XS.iconst X118.here hx rfl (hb hby dH_70) (XS.goto X118.here hx rfl (pc0 := 71) (pc' := 75) rfl (hb hby dH_71) (by decide) (by decide) kont)) ?_
            show Go _ _ _ _ _ _ _ (T118.setTop (mkF m 75 #[.val (.ref a), .val (.long x), .second, .val (.int (1 : Int32)), .val (.int (1 : Int32))] [(.int (1 : Int32))]))
            refine Go.retN X118 hx (t := .boolean) hret (by simp) hlk (hb hby dH_75) ?_ (by decide) (by decide)
            show QH Z a x cl sl cn sz h0 n0 (some (.int (1 : Int32))) T118.heap _
            rw [e118]
            refine ⟨?_, N0, rfl⟩
            simp only [own_room, decide_eq_false hc102, decide_eq_true hc112, decide_eq_false hc114, decide_eq_false hc116, decide_eq_false hc119]
            rfl
    · refine Go.by (fun _ kont => XS.icmpYes X111.here hx rfl (pc0 := 15) (pc' := 22) rfl (hb hby dH_15) rfl (flt hc112).2.1 (by decide) (by decide) kont) ?_
      show Go _ _ _ _ _ _ _ (T111.setTop (mkF m 22 #[.val (.ref a), .val (.long x), .second, .unset, .unset] []))
      refine Go.by (fun _ kont => XS.iconst X111.here hx rfl (hb hby dH_22) (XS.istoreN X111.here hx rfl (hb hby dH_23) rfl (l' := #[.val (.ref a), .val (.long x), .second, .val (.int (0 : Int32)), .unset]) rfl (XS.aloadN X111.here hx rfl (hb hby dH_24) rfl rfl kont))) ?_
      show Go _ _ _ _ _ _ _ (T111.setTop (mkF m 25 #[.val (.ref a), .val (.long x), .second, .val (.int (0 : Int32)), .unset] [(.ref a)]))
      obtain ⟨T120, X120, e120, st120⟩ := getF X111 hx hZ hown (host := "") (Or.inl (hw _ (List.mem_of_getElem? (i := 14) rfl))) Via.refl e111 F0_sizeLimit (g := (mkF m 25 #[.val (.ref a), .val (.long x), .second, .val (.int (0 : Int32)), .unset] [(.ref a)])) rfl rfl (hb hby dH_25)
      refine Go.by st120 ?_
      show Go _ _ _ _ _ _ _ (T120.setTop (mkF m 28 #[.val (.ref a), .val (.long x), .second, .val (.int (0 : Int32)), .unset] [(.long sl)]))
      refine Go.by (fun _ kont => XS.lconst X120.here hx rfl (hb hby dH_28) (XS.lcmp X120.here hx rfl (hb hby dH_29) rfl kont)) ?_
      show Go _ _ _ _ _ _ _ (T120.setTop (mkF m 30 #[.val (.ref a), .val (.long x), .second, .val (.int (0 : Int32)), .unset] [(.int (lcmpW sl (0 : Int64)))]))
      by_cases hc121 : sl = (0 : Int64)
      · refine Go.by (fun _ kont => XS.ifYes X120.here hx rfl (pc0 := 30) (pc' := 54) rfl (hb hby dH_30) rfl ((if0 _ _).trans (teq ((lw_eq _ _).mpr hc121)).1) (by decide) (by decide) kont) ?_
        show Go _ _ _ _ _ _ _ (T120.setTop (mkF m 54 #[.val (.ref a), .val (.long x), .second, .val (.int (0 : Int32)), .unset] []))
        refine Go.by (fun _ kont => XS.iconst X120.here hx rfl (hb hby dH_54) (XS.goto X120.here hx rfl (pc0 := 55) (pc' := 59) rfl (hb hby dH_55) (by decide) (by decide) (XS.istore X120.here hx rfl (hb hby dH_59) rfl (l' := #[.val (.ref a), .val (.long x), .second, .val (.int (0 : Int32)), .val (.int (1 : Int32))]) rfl (XS.iloadN X120.here hx rfl (hb hby dH_61) rfl kont)))) ?_
        show Go _ _ _ _ _ _ _ (T120.setTop (mkF m 62 #[.val (.ref a), .val (.long x), .second, .val (.int (0 : Int32)), .val (.int (1 : Int32))] [(.int (0 : Int32))]))
        refine Go.by (fun _ kont => XS.ifYes X120.here hx rfl (pc0 := 62) (pc' := 74) rfl (hb hby dH_62) rfl (by decide) (by decide) (by decide) kont) ?_
        show Go _ _ _ _ _ _ _ (T120.setTop (mkF m 74 #[.val (.ref a), .val (.long x), .second, .val (.int (0 : Int32)), .val (.int (1 : Int32))] []))
        refine Go.by (fun _ kont => XS.iconst X120.here hx rfl (hb hby dH_74) kont) ?_
        show Go _ _ _ _ _ _ _ (T120.setTop (mkF m 75 #[.val (.ref a), .val (.long x), .second, .val (.int (0 : Int32)), .val (.int (1 : Int32))] [(.int (0 : Int32))]))
        refine Go.retN X120 hx (t := .boolean) hret (by simp) hlk (hb hby dH_75) ?_ (by decide) (by decide)
        show QH Z a x cl sl cn sz h0 n0 (some (.int (0 : Int32))) T120.heap _
        rw [e120]
        refine ⟨?_, N0, rfl⟩
        simp only [own_room, decide_eq_false hc102, decide_eq_false hc112, decide_eq_true hc121]
        rfl
      · refine Go.by (fun _ kont => XS.ifNo X120.here hx rfl (hb hby dH_30) rfl ((if0 _ _).trans (feq (fun z => hc121 ((lw_eq _ _).mp z))).1) kont) ?_
        show Go _ _ _ _ _ _ _ (T120.setTop (mkF m 33 #[.val (.ref a), .val (.long x), .second, .val (.int (0 : Int32)), .unset] []))
        refine Go.by (fun _ kont => XS.aloadN X120.here hx rfl (hb hby dH_33) rfl rfl kont) ?_
        show Go _ _ _ _ _ _ _ (T120.setTop (mkF m 34 #[.val (.ref a), .val (.long x), .second, .val (.int (0 : Int32)), .unset] [(.ref a)]))
        obtain ⟨T122, X122, e122, st122⟩ := getF X120 hx hZ hown (host := "") (Or.inl (hw _ (List.mem_of_getElem? (i := 21) rfl))) Via.refl e120 F0_count (g := (mkF m 34 #[.val (.ref a), .val (.long x), .second, .val (.int (0 : Int32)), .unset] [(.ref a)])) rfl rfl (hb hby dH_34)
        refine Go.by st122 ?_
        show Go _ _ _ _ _ _ _ (T122.setTop (mkF m 37 #[.val (.ref a), .val (.long x), .second, .val (.int (0 : Int32)), .unset] [(.int cn)]))
        by_cases hc123 : cn = (0 : Int32)
        · refine Go.by (fun _ kont => XS.ifYes X122.here hx rfl (pc0 := 37) (pc' := 54) rfl (hb hby dH_37) rfl ((if0 _ _).trans (teq hc123).1) (by decide) (by decide) kont) ?_
          show Go _ _ _ _ _ _ _ (T122.setTop (mkF m 54 #[.val (.ref a), .val (.long x), .second, .val (.int (0 : Int32)), .unset] []))
          refine Go.by (fun _ kont => XS.iconst X122.here hx rfl (hb hby dH_54) (XS.goto X122.here hx rfl (pc0 := 55) (pc' := 59) rfl (hb hby dH_55) (by decide) (by decide) (XS.istore X122.here hx rfl (hb hby dH_59) rfl (l' := #[.val (.ref a), .val (.long x), .second, .val (.int (0 : Int32)), .val (.int (1 : Int32))]) rfl (XS.iloadN X122.here hx rfl (hb hby dH_61) rfl kont)))) ?_
          show Go _ _ _ _ _ _ _ (T122.setTop (mkF m 62 #[.val (.ref a), .val (.long x), .second, .val (.int (0 : Int32)), .val (.int (1 : Int32))] [(.int (0 : Int32))]))
          refine Go.by (fun _ kont => XS.ifYes X122.here hx rfl (pc0 := 62) (pc' := 74) rfl (hb hby dH_62) rfl (by decide) (by decide) (by decide) kont) ?_
          show Go _ _ _ _ _ _ _ (T122.setTop (mkF m 74 #[.val (.ref a), .val (.long x), .second, .val (.int (0 : Int32)), .val (.int (1 : Int32))] []))
          refine Go.by (fun _ kont => XS.iconst X122.here hx rfl (hb hby dH_74) kont) ?_
          show Go _ _ _ _ _ _ _ (T122.setTop (mkF m 75 #[.val (.ref a), .val (.long x), .second, .val (.int (0 : Int32)), .val (.int (1 : Int32))] [(.int (0 : Int32))]))
          refine Go.retN X122 hx (t := .boolean) hret (by simp) hlk (hb hby dH_75) ?_ (by decide) (by decide)
          show QH Z a x cl sl cn sz h0 n0 (some (.int (0 : Int32))) T122.heap _
          rw [e122]
          refine ⟨?_, N0, rfl⟩
          simp only [own_room, decide_eq_false hc102, decide_eq_false hc112, decide_eq_false hc121, decide_eq_true hc123]
          rfl
        · refine Go.by (fun _ kont => XS.ifNo X122.here hx rfl (hb hby dH_37) rfl ((if0 _ _).trans (feq hc123).1) kont) ?_
          show Go _ _ _ _ _ _ _ (T122.setTop (mkF m 40 #[.val (.ref a), .val (.long x), .second, .val (.int (0 : Int32)), .unset] []))
          refine Go.by (fun _ kont => XS.aloadN X122.here hx rfl (hb hby dH_40) rfl rfl kont) ?_
          show Go _ _ _ _ _ _ _ (T122.setTop (mkF m 41 #[.val (.ref a), .val (.long x), .second, .val (.int (0 : Int32)), .unset] [(.ref a)]))
          obtain ⟨T124, X124, e124, st124⟩ := getF X122 hx hZ hown (host := "") (Or.inl (hw _ (List.mem_of_getElem? (i := 23) rfl))) Via.refl e122 F0_size (g := (mkF m 41 #[.val (.ref a), .val (.long x), .second, .val (.int (0 : Int32)), .unset] [(.ref a)])) rfl rfl (hb hby dH_41)
          refine Go.by st124 ?_
          show Go _ _ _ _ _ _ _ (T124.setTop (mkF m 44 #[.val (.ref a), .val (.long x), .second, .val (.int (0 : Int32)), .unset] [(.long sz)]))
          refine Go.by (fun _ kont => XS.lloadN X124.here hx rfl (hb hby dH_44) rfl (XS.ladd X124.here hx rfl (hb hby dH_45) rfl (XS.aloadN X124.here hx rfl (hb hby dH_46) rfl rfl kont))) ?_
          show Go _ _ _ _ _ _ _ (T124.setTop (mkF m 47 #[.val (.ref a), .val (.long x), .second, .val (.int (0 : Int32)), .unset] [(.ref a), (.long (sz + x))]))
          obtain ⟨T125, X125, e125, st125⟩ := getF X124 hx hZ hown (host := "") (Or.inl (hw _ (List.mem_of_getElem? (i := 14) rfl))) Via.refl e124 F0_sizeLimit (g := (mkF m 47 #[.val (.ref a), .val (.long x), .second, .val (.int (0 : Int32)), .unset] [(.ref a), (.long (sz + x))])) rfl rfl (hb hby dH_47)
          refine Go.by st125 ?_
          show Go _ _ _ _ _ _ _ (T125.setTop (mkF m 50 #[.val (.ref a), .val (.long x), .second, .val (.int (0 : Int32)), .unset] [(.long sl), (.long (sz + x))]))
          refine Go.by (fun _ kont => XS.lcmp X125.here hx rfl (hb hby dH_50) rfl kont) ?_
          show Go _ _ _ _ _ _ _ (T125.setTop (mkF m 51 #[.val (.ref a), .val (.long x), .second, .val (.int (0 : Int32)), .unset] [(.int (lcmpW (sz + x) sl))]))
          by_cases hc126 : sl < (sz + x)
          · refine Go.by (fun _ kont => XS.ifYes X125.here hx rfl (pc0 := 51) (pc' := 58) rfl (hb hby dH_51) rfl ((if0 _ _).trans (tlt ((lw_gt _ _).mpr hc126)).2.2.1) (by decide) (by decide) kont) ?_
            show Go _ _ _ _ _ _ _ (T125.setTop (mkF m 58 #[.val (.ref a), .val (.long x), .second, .val (.int (0 : Int32)), .unset] []))
            refine Go.by (fun _ kont => XS.iconst X125.here hx rfl (hb hby dH_58) (XS.istore X125.here hx rfl (hb hby dH_59) rfl (l' := #[.val (.ref a), .val (.long x), .second, .val (.int (0 : Int32)), .val (.int (0 : Int32))]) rfl (XS.iloadN X125.here hx rfl (hb hby dH_61) rfl kont))) ?_
            show Go _ _ _ _ _ _ _ (T125.setTop (mkF m 62 #[.val (.ref a), .val (.long x), .second, .val (.int (0 : Int32)), .val (.int (0 : Int32))] [(.int (0 : Int32))]))
            refine Go.by (fun _ kont => XS.ifYes X125.here hx rfl (pc0 := 62) (pc' := 74) rfl (hb hby dH_62) rfl (by decide) (by decide) (by decide) kont) ?_
            show Go _ _ _ _ _ _ _ (T125.setTop (mkF m 74 #[.val (.ref a), .val (.long x), .second, .val (.int (0 : Int32)), .val (.int (0 : Int32))] []))
            refine Go.by (fun _ kont => XS.iconst X125.here hx rfl (hb hby dH_74) kont) ?_
            show Go _ _ _ _ _ _ _ (T125.setTop (mkF m 75 #[.val (.ref a), .val (.long x), .second, .val (.int (0 : Int32)), .val (.int (0 : Int32))] [(.int (0 : Int32))]))
            refine Go.retN X125 hx (t := .boolean) hret (by simp) hlk (hb hby dH_75) ?_ (by decide) (by decide)
            show QH Z a x cl sl cn sz h0 n0 (some (.int (0 : Int32))) T125.heap _
            rw [e125]
            refine ⟨?_, N0, rfl⟩
            simp only [own_room, decide_eq_false hc102, decide_eq_false hc112, decide_eq_false hc121, decide_eq_false hc123, decide_eq_true hc126]
            rfl
          · refine Go.by (fun _ kont => XS.ifNo X125.here hx rfl (hb hby dH_51) rfl ((if0 _ _).trans (flt (fun z => hc126 ((lw_gt _ _).mp z))).2.2.1) kont) ?_
            show Go _ _ _ _ _ _ _ (T125.setTop (mkF m 54 #[.val (.ref a), .val (.long x), .second, .val (.int (0 : Int32)), .unset] []))
            refine Go.by (fun _ kont => XS.iconst X125.here hx rfl (hb hby dH_54) (XS.goto X125.here hx rfl (pc0 := 55) (pc' := 59) rfl (hb hby dH_55) (by decide) (by decide) (XS.istore X125.here hx rfl (hb hby dH_59) rfl (l' := #[.val (.ref a), .val (.long x), .second, .val (.int (0 : Int32)), .val (.int (1 : Int32))]) rfl (XS.iloadN X125.here hx rfl (hb hby dH_61) rfl kont)))) ?_
            show Go _ _ _ _ _ _ _ (T125.setTop (mkF m 62 #[.val (.ref a), .val (.long x), .second, .val (.int (0 : Int32)), .val (.int (1 : Int32))] [(.int (0 : Int32))]))
            refine Go.by (fun _ kont => XS.ifYes X125.here hx rfl (pc0 := 62) (pc' := 74) rfl (hb hby dH_62) rfl (by decide) (by decide) (by decide) kont) ?_
            show Go _ _ _ _ _ _ _ (T125.setTop (mkF m 74 #[.val (.ref a), .val (.long x), .second, .val (.int (0 : Int32)), .val (.int (1 : Int32))] []))
            refine Go.by (fun _ kont => XS.iconst X125.here hx rfl (hb hby dH_74) kont) ?_
            show Go _ _ _ _ _ _ _ (T125.setTop (mkF m 75 #[.val (.ref a), .val (.long x), .second, .val (.int (0 : Int32)), .val (.int (1 : Int32))] [(.int (0 : Int32))]))
            refine Go.retN X125 hx (t := .boolean) hret (by simp) hlk (hb hby dH_75) ?_ (by decide) (by decide)
            show QH Z a x cl sl cn sz h0 n0 (some (.int (0 : Int32))) T125.heap _
            rw [e125]
            refine ⟨?_, N0, rfl⟩
            simp only [own_room, decide_eq_false hc102, decide_eq_false hc112, decide_eq_false hc121, decide_eq_false hc123, decide_eq_false hc126]
            rfl

theorem own_m61 (a : Int64) : 0 ≤ (a &&& (2305843009213693951 : Int64)).toInt ∧ (a &&& (2305843009213693951 : Int64)).toInt ≤ 2305843009213693951 := by
  have h := c_maskL a 2305843009213693951 61 (by decide) (by decide)
  rw [h]; omega
theorem own_m32 (a : Int64) : 0 ≤ (a &&& (4294967295 : Int64)).toInt ∧ (a &&& (4294967295 : Int64)).toInt ≤ 4294967295 := by
  have h := c_maskL a 4294967295 32 (by decide) (by decide)
  rw [h]; omega
theorem own_m3 (a : Int32) : a &&& (3 : Int32) = 0 ∨ a &&& (3 : Int32) = 1 ∨ a &&& (3 : Int32) = 2 ∨ a &&& (3 : Int32) = 3 := by
  have h := c_mask a 3 2 (by decide) (by decide)
  simp only [← Int32.toInt_inj, h]
  have e0 : (0 : Int32).toInt = 0 := by decide
  have e1 : (1 : Int32).toInt = 1 := by decide
  have e2 : (2 : Int32).toInt = 2 := by decide
  have e3 : (3 : Int32).toInt = 3 := by decide
  rw [e0, e1, e2, e3]; omega
theorem own_sum (t y : Int64) (k : Int) (ht : 0 ≤ t.toInt ∧ t.toInt ≤ k * 2305843009213693951) (hk : 0 ≤ k ∧ k ≤ 2) (hy : 0 ≤ y.toInt ∧ y.toInt ≤ 2305843009213693951) : 0 ≤ (t + y).toInt ∧ (t + y).toInt ≤ (k + 1) * 2305843009213693951 := by
  have h1 := c_ladd t y
  have h2 := rng64 (t + y)
  omega
theorem own_key (t z s : Int64) (ht : 0 ≤ t.toInt ∧ t.toInt ≤ 3 * 2305843009213693951) (hz : 0 ≤ z.toInt ∧ z.toInt ≤ 2305843009213693951) (hs : 0 ≤ s.toInt ∧ s.toInt ≤ 4294967295) : (s < t + z) ↔ (s - t < z) := by
  have h1 := c_ladd t z
  have h2 := c_lsub s t
  have h3 := rng64 (t + z)
  have h4 := rng64 (s - t)
  rw [Int64.lt_iff_toInt_lt, Int64.lt_iff_toInt_lt]
  omega

theorem pd0_0 : parseMethodDescriptor "(IJ)V" = some ⟨[.int, .long], none⟩ := by decide +kernel
theorem pd0_1 : parseMethodDescriptor "(J)Z" = some ⟨[.long], some .boolean⟩ := by decide +kernel
theorem pd0_2 : parseMethodDescriptor "(J)V" = some ⟨[.long], none⟩ := by decide +kernel
theorem pn0 : plainName "com/example/kyu/kyu/PrefetchWindowHasRoomForPinLaw" = true := by first | (simp [plainName, overriddenIn]; done) | decide +kernel
theorem ef0 (m : MethodId) (c0 : Int32) (s0 : Int64) (k0 : Int32) (a1 : Int64) (b1 : Int64) (z1 : Int64) : entryFrame m #[(.int c0), (.long s0), (.int k0), (.long a1), (.long b1), (.long z1)] maxLocals = mkF m 0 #[.val (.int c0), .val (.long s0), .second, .val (.int k0), .val (.long a1), .second, .val (.long b1), .second, .val (.long z1), .second, .unset, .unset, .unset, .unset, .unset, .unset, .unset, .unset, .unset, .unset, .unset, .unset, .unset, .unset, .unset] [] := by first | (simp [entryFrame, mkF, argsToLocals, Value.category, maxLocals]; done) | rfl
def Q0 (Z : State) (h0 : Heap) (n0 : Nat) (v : Option Value) (h : Heap) (L : List Loc) : Prop := v = some (.int 1) ∧ Fr n0 L
set_option maxRecDepth 65536 in
set_option maxHeartbeats 40000000 in
theorem rm0 (l : Launch) (Z : State) (a0 : Array Value) (hw : ∀ d ∈ tables_1, d.before a0 Z = true) (ws : List Jvm.Cond) (c0 : Int32) (s0 : Int64) (k0 : Int32) (a1 : Int64) (b1 : Int64) (z1 : Int64) (h0 : Heap) (n0 : Nat) (Z0 : n0 ≤ h0.size) :
    MetFree l x (head1 (Jvm.Cond.code x code maxLocals ret :: ws) room_1) (fun aa_ U_ => aa_ = #[(.int c0), (.long s0), (.int k0), (.long a1), (.long b1), (.long z1)] ∧ Z.Warmed39 U_.vm ∧ U_.heap = h0) (fun _ _ _ _ _ => True) (fun _ U_ o_ V_ => ∃ v_ L_, o_ = .returned v_ ∧ Q0 Z h0 n0 v_ V_.heap L_ ∧ FrameEnd U_ o_ V_ L_ 16 128) := by
  refine MetFree.of_bodySF (plainFor_of_name pn0) hisR ?_
  intro p e s m args below meth c s₁ Bd hml0 hP hK
  obtain ⟨rfl, hZ, hh⟩ := hP
  have hx := Bd.exec
  have hby := Bd.bytes
  have hml : c.maxLocals = 25 := hml0
  have hown : s.vm.findClass "com/example/kyu/kyu/PrefetchWindowHasRoomForPinLaw" = some m.cls := findClass_of_methodNamed Bd.named
  have hnm := (name_of_methodNamed Bd.named Bd.method).1
  have hlk : meth.locks = false := BodyLoose.notSynchronized Bd
  have hret : meth.sig.returnType = (some .boolean) := Bd.returns
  have X0 : Stand p l e room_1 s m #[(.int c0), (.long s0), (.int k0), (.long a1), (.long b1), (.long z1)] below meth c s₁ [] 0 0 := Stand.of_body Bd
  have e0 : s₁.heap = h0 := by rw [← hh, Bd.state]; rfl
  have N0 := Fr.nil n0
  show Go p e below s 16 128 (Q0 Z h0 n0) (s₁.setTop (entryFrame m #[(.int c0), (.long s0), (.int k0), (.long a1), (.long b1), (.long z1)] maxLocals))
  rw [ef0]
  refine Go.by (fun _ kont => XS.iloadN X0.here hx rfl (hb hby at_0) rfl (X0.ldcInt hx hown (mvT hZ (hw _ (List.mem_of_getElem? (i := 0) rfl))) (g := (mkF m 1 #[.val (.int c0), .val (.long s0), .second, .val (.int k0), .val (.long a1), .second, .val (.long b1), .second, .val (.long z1), .second, .unset, .unset, .unset, .unset, .unset, .unset, .unset, .unset, .unset, .unset, .unset, .unset, .unset, .unset, .unset] [(.int c0)])) rfl (hb hby at_1) _ (XS.iand X0.here hx rfl (hb hby at_3) rfl (XS.istore X0.here hx rfl (hb hby at_4) rfl (l' := #[.val (.int c0), .val (.long s0), .second, .val (.int k0), .val (.long a1), .second, .val (.long b1), .second, .val (.long z1), .second, .val (.int (c0 &&& (65535 : Int32))), .unset, .unset, .unset, .unset, .unset, .unset, .unset, .unset, .unset, .unset, .unset, .unset, .unset, .unset]) rfl (XS.lloadN X0.here hx rfl (hb hby at_6) rfl (X0.ldc2Long hx hown (mvT hZ (hw _ (List.mem_of_getElem? (i := 1) rfl))) (g := (mkF m 7 #[.val (.int c0), .val (.long s0), .second, .val (.int k0), .val (.long a1), .second, .val (.long b1), .second, .val (.long z1), .second, .val (.int (c0 &&& (65535 : Int32))), .unset, .unset, .unset, .unset, .unset, .unset, .unset, .unset, .unset, .unset, .unset, .unset, .unset, .unset] [(.long s0)])) rfl (hb hby at_7) _ kont)))))) ?_
  show Go _ _ _ _ _ _ _ (s₁.setTop (mkF m 10 #[.val (.int c0), .val (.long s0), .second, .val (.int k0), .val (.long a1), .second, .val (.long b1), .second, .val (.long z1), .second, .val (.int (c0 &&& (65535 : Int32))), .unset, .unset, .unset, .unset, .unset, .unset, .unset, .unset, .unset, .unset, .unset, .unset, .unset, .unset] [(.long (4294967295 : Int64)), (.long s0)]))
  refine Go.by (fun _ kont => XS.land X0.here hx rfl (hb hby at_10) rfl (XS.lstore X0.here hx rfl (hb hby at_11) rfl (l' := #[.val (.int c0), .val (.long s0), .second, .val (.int k0), .val (.long a1), .second, .val (.long b1), .second, .val (.long z1), .second, .val (.int (c0 &&& (65535 : Int32))), .val (.long (s0 &&& (4294967295 : Int64))), .second, .unset, .unset, .unset, .unset, .unset, .unset, .unset, .unset, .unset, .unset, .unset, .unset]) rfl (XS.iloadN X0.here hx rfl (hb hby at_13) rfl (XS.iconst X0.here hx rfl (hb hby at_14) (XS.iand X0.here hx rfl (hb hby at_15) rfl (XS.istore X0.here hx rfl (hb hby at_16) rfl (l' := #[.val (.int c0), .val (.long s0), .second, .val (.int k0), .val (.long a1), .second, .val (.long b1), .second, .val (.long z1), .second, .val (.int (c0 &&& (65535 : Int32))), .val (.long (s0 &&& (4294967295 : Int64))), .second, .val (.int (k0 &&& (3 : Int32))), .unset, .unset, .unset, .unset, .unset, .unset, .unset, .unset, .unset, .unset, .unset]) rfl kont)))))) ?_
  show Go _ _ _ _ _ _ _ (s₁.setTop (mkF m 18 #[.val (.int c0), .val (.long s0), .second, .val (.int k0), .val (.long a1), .second, .val (.long b1), .second, .val (.long z1), .second, .val (.int (c0 &&& (65535 : Int32))), .val (.long (s0 &&& (4294967295 : Int64))), .second, .val (.int (k0 &&& (3 : Int32))), .unset, .unset, .unset, .unset, .unset, .unset, .unset, .unset, .unset, .unset, .unset] []))
  refine Go.by (fun _ kont => XS.lload X0.here hx rfl (hb hby at_18) rfl (X0.ldc2Long hx hown (mvT hZ (hw _ (List.mem_of_getElem? (i := 2) rfl))) (g := (mkF m 20 #[.val (.int c0), .val (.long s0), .second, .val (.int k0), .val (.long a1), .second, .val (.long b1), .second, .val (.long z1), .second, .val (.int (c0 &&& (65535 : Int32))), .val (.long (s0 &&& (4294967295 : Int64))), .second, .val (.int (k0 &&& (3 : Int32))), .unset, .unset, .unset, .unset, .unset, .unset, .unset, .unset, .unset, .unset, .unset] [(.long a1)])) rfl (hb hby at_20) _ (XS.land X0.here hx rfl (hb hby at_23) rfl (XS.lstore X0.here hx rfl (hb hby at_24) rfl (l' := #[.val (.int c0), .val (.long s0), .second, .val (.int k0), .val (.long a1), .second, .val (.long b1), .second, .val (.long z1), .second, .val (.int (c0 &&& (65535 : Int32))), .val (.long (s0 &&& (4294967295 : Int64))), .second, .val (.int (k0 &&& (3 : Int32))), .val (.long (a1 &&& (2305843009213693951 : Int64))), .second, .unset, .unset, .unset, .unset, .unset, .unset, .unset, .unset, .unset]) rfl (XS.lload X0.here hx rfl (hb hby at_26) rfl (X0.ldc2Long hx hown (mvT hZ (hw _ (List.mem_of_getElem? (i := 2) rfl))) (g := (mkF m 28 #[.val (.int c0), .val (.long s0), .second, .val (.int k0), .val (.long a1), .second, .val (.long b1), .second, .val (.long z1), .second, .val (.int (c0 &&& (65535 : Int32))), .val (.long (s0 &&& (4294967295 : Int64))), .second, .val (.int (k0 &&& (3 : Int32))), .val (.long (a1 &&& (2305843009213693951 : Int64))), .second, .unset, .unset, .unset, .unset, .unset, .unset, .unset, .unset, .unset] [(.long b1)])) rfl (hb hby at_28) _ kont)))))) ?_
  show Go _ _ _ _ _ _ _ (s₁.setTop (mkF m 31 #[.val (.int c0), .val (.long s0), .second, .val (.int k0), .val (.long a1), .second, .val (.long b1), .second, .val (.long z1), .second, .val (.int (c0 &&& (65535 : Int32))), .val (.long (s0 &&& (4294967295 : Int64))), .second, .val (.int (k0 &&& (3 : Int32))), .val (.long (a1 &&& (2305843009213693951 : Int64))), .second, .unset, .unset, .unset, .unset, .unset, .unset, .unset, .unset, .unset] [(.long (2305843009213693951 : Int64)), (.long b1)]))
  refine Go.by (fun _ kont => XS.land X0.here hx rfl (hb hby at_31) rfl (XS.lstore X0.here hx rfl (hb hby at_32) rfl (l' := #[.val (.int c0), .val (.long s0), .second, .val (.int k0), .val (.long a1), .second, .val (.long b1), .second, .val (.long z1), .second, .val (.int (c0 &&& (65535 : Int32))), .val (.long (s0 &&& (4294967295 : Int64))), .second, .val (.int (k0 &&& (3 : Int32))), .val (.long (a1 &&& (2305843009213693951 : Int64))), .second, .val (.long (b1 &&& (2305843009213693951 : Int64))), .second, .unset, .unset, .unset, .unset, .unset, .unset, .unset]) rfl (XS.lload X0.here hx rfl (hb hby at_34) rfl (X0.ldc2Long hx hown (mvT hZ (hw _ (List.mem_of_getElem? (i := 2) rfl))) (g := (mkF m 36 #[.val (.int c0), .val (.long s0), .second, .val (.int k0), .val (.long a1), .second, .val (.long b1), .second, .val (.long z1), .second, .val (.int (c0 &&& (65535 : Int32))), .val (.long (s0 &&& (4294967295 : Int64))), .second, .val (.int (k0 &&& (3 : Int32))), .val (.long (a1 &&& (2305843009213693951 : Int64))), .second, .val (.long (b1 &&& (2305843009213693951 : Int64))), .second, .unset, .unset, .unset, .unset, .unset, .unset, .unset] [(.long z1)])) rfl (hb hby at_36) _ (XS.land X0.here hx rfl (hb hby at_39) rfl (XS.lstore X0.here hx rfl (hb hby at_40) rfl (l' := #[.val (.int c0), .val (.long s0), .second, .val (.int k0), .val (.long a1), .second, .val (.long b1), .second, .val (.long z1), .second, .val (.int (c0 &&& (65535 : Int32))), .val (.long (s0 &&& (4294967295 : Int64))), .second, .val (.int (k0 &&& (3 : Int32))), .val (.long (a1 &&& (2305843009213693951 : Int64))), .second, .val (.long (b1 &&& (2305843009213693951 : Int64))), .second, .val (.long (z1 &&& (2305843009213693951 : Int64))), .second, .unset, .unset, .unset, .unset, .unset]) rfl kont)))))) ?_
  show Go _ _ _ _ _ _ _ (s₁.setTop (mkF m 42 #[.val (.int c0), .val (.long s0), .second, .val (.int k0), .val (.long a1), .second, .val (.long b1), .second, .val (.long z1), .second, .val (.int (c0 &&& (65535 : Int32))), .val (.long (s0 &&& (4294967295 : Int64))), .second, .val (.int (k0 &&& (3 : Int32))), .val (.long (a1 &&& (2305843009213693951 : Int64))), .second, .val (.long (b1 &&& (2305843009213693951 : Int64))), .second, .val (.long (z1 &&& (2305843009213693951 : Int64))), .second, .unset, .unset, .unset, .unset, .unset] []))
  generalize hg_cl : (c0 &&& (65535 : Int32)) = cl
  have Bsl := own_m32 s0
  generalize hg_sl : (s0 &&& (4294967295 : Int64)) = sl at Bsl ⊢
  have Bxx := own_m61 a1
  generalize hg_xx : (a1 &&& (2305843009213693951 : Int64)) = xx at Bxx ⊢
  have Byy := own_m61 b1
  generalize hg_yy : (b1 &&& (2305843009213693951 : Int64)) = yy at Byy ⊢
  have Bzz := own_m61 z1
  generalize hg_zz : (z1 &&& (2305843009213693951 : Int64)) = zz at Bzz ⊢
  have C13 := own_m3 k0
  generalize hg_n : (k0 &&& (3 : Int32)) = nn at C13 ⊢
  rcases C13 with rfl | rfl | rfl | rfl
  · show Go _ _ _ _ _ _ _ (s₁.setTop (mkF m 42 #[.val (.int c0), .val (.long s0), .second, .val (.int k0), .val (.long a1), .second, .val (.long b1), .second, .val (.long z1), .second, .val (.int cl), .val (.long sl), .second, .val (.int (0 : Int32)), .val (.long xx), .second, .val (.long yy), .second, .val (.long zz), .second, .unset, .unset, .unset, .unset, .unset] []))
    obtain ⟨T101, h101, X101, e101, X_101, A101, D101, -, st101⟩ := newO X0 hx hZ hown (hw _ (List.mem_of_getElem? (i := 3) rfl)) (hw _ (List.mem_of_getElem? (i := 4) rfl)) (hw _ (List.mem_of_getElem? (i := 5) rfl)) e0 (g := (mkF m 42 #[.val (.int c0), .val (.long s0), .second, .val (.int k0), .val (.long a1), .second, .val (.long b1), .second, .val (.long z1), .second, .val (.int cl), .val (.long sl), .second, .val (.int (0 : Int32)), .val (.long xx), .second, .val (.long yy), .second, .val (.long zz), .second, .unset, .unset, .unset, .unset, .unset] [])) rfl (hb hby at_42) (by decide) (by decide)
    obtain ⟨b101, g101⟩ : ∃ z, z = h0.size := ⟨_, rfl⟩
    rw [← g101] at A101 D101 st101
    have ge_b101 : n0 ≤ b101 := Nat.le_trans Z0 (Nat.le_of_eq g101.symm)
    have sz_b101 : h0.size ≤ b101 := Nat.le_trans (Keep.refl h0 []).1 (Nat.le_of_eq g101.symm)
    have Z102 := Nat.le_trans Z0 X_101.1
    have K102 : Keep h0 h101 [] := (Keep.refl h0 []).ext X_101
    have F101_countLimit : Fld Z h101 b101 "com/example/kyu/kyu/PrefetchWindow" "countLimit" "I" (.int (0 : Int32)) := D101 (Or.inl (hw _ (List.mem_of_getElem? (i := 13) rfl))) (ty := .int) (by decide)
    have F101_sizeLimit : Fld Z h101 b101 "com/example/kyu/kyu/PrefetchWindow" "sizeLimit" "J" (.long (0 : Int64)) := D101 (Or.inl (hw _ (List.mem_of_getElem? (i := 15) rfl))) (ty := .long) (by decide)
    have F101_count : Fld Z h101 b101 "com/example/kyu/kyu/PrefetchWindow" "count" "I" (.int (0 : Int32)) := D101 (Or.inl (hw _ (List.mem_of_getElem? (i := 22) rfl))) (ty := .int) (by decide)
    have F101_size : Fld Z h101 b101 "com/example/kyu/kyu/PrefetchWindow" "size" "J" (.long (0 : Int64)) := D101 (Or.inl (hw _ (List.mem_of_getElem? (i := 24) rfl))) (ty := .long) (by decide)
    refine Go.by st101 ?_
    show Go _ _ _ _ _ _ _ (T101.setTop (mkF m 45 #[.val (.int c0), .val (.long s0), .second, .val (.int k0), .val (.long a1), .second, .val (.long b1), .second, .val (.long z1), .second, .val (.int cl), .val (.long sl), .second, .val (.int (0 : Int32)), .val (.long xx), .second, .val (.long yy), .second, .val (.long zz), .second, .unset, .unset, .unset, .unset, .unset] [(.ref b101)]))
    refine Go.by (fun _ kont => XS.dup X101.here hx rfl (hb hby at_45) rfl rfl (XS.iload X101.here hx rfl (hb hby at_46) rfl (XS.lload X101.here hx rfl (hb hby at_48) rfl kont))) ?_
    show Go _ _ _ _ _ _ _ (T101.setTop (mkF m 50 #[.val (.int c0), .val (.long s0), .second, .val (.int k0), .val (.long a1), .second, .val (.long b1), .second, .val (.long z1), .second, .val (.int cl), .val (.long sl), .second, .val (.int (0 : Int32)), .val (.long xx), .second, .val (.long yy), .second, .val (.long zz), .second, .unset, .unset, .unset, .unset, .unset] [(.long sl), (.int cl), (.ref b101), (.ref b101)]))
    obtain ⟨_, _, ⟨T103, L103, k103, n103⟩, -, X103, ⟨Lc103, hQ103, l103, y103, z103⟩, st103⟩ := X101.specialBack hx (y := (⟨"com/example/kyu/kyu/PrefetchWindow", "<init>", "(IJ)V"⟩ : MethodName)) rfl hown (mvT hZ (hw _ (List.mem_of_getElem? (i := 6) rfl))) (mvT hZ (hw _ (List.mem_of_getElem? (i := 7) rfl))) (mvT hZ (hw _ (List.mem_of_getElem? (i := 8) rfl))) (by decide) (backOf (W := 1) (rmI l Z a0 hw [] b101 cl sl h101 n0 Z102 A101 F101_countLimit F101_sizeLimit F101_count F101_size ge_b101) hZ (hw _ (List.mem_of_getElem? (i := 8) rfl)) (hw _ (List.mem_of_getElem? (i := 5) rfl)) (by decide) (by decide)) (g := (mkF m 50 #[.val (.int c0), .val (.long s0), .second, .val (.int k0), .val (.long a1), .second, .val (.long b1), .second, .val (.long z1), .second, .val (.int cl), .val (.long sl), .second, .val (.int (0 : Int32)), .val (.long xx), .second, .val (.long yy), .second, .val (.long zz), .second, .unset, .unset, .unset, .unset, .unset] [(.long sl), (.int cl), (.ref b101), (.ref b101)])) rfl (by rw [hml]; rfl) (Steps.refl _) (a := b101) (argsL := [(.int cl), (.long sl)]) (rest := [(.ref b101)]) (lenOf pd0_0 rfl) rfl (by show 2 * 0 + _ ≤ _; exact Nat.le_of_eq rfl) (hb hby at_50) (fun _ _ => ⟨rfl, e101, (by decide : 1 + 0 ≤ _), (by decide : 4 + 0 ≤ _)⟩)
    dsimp only [Pt.U, Pt.locs, Pt.cells, Pt.slots] at X103 l103 y103 z103 st103 hQ103
    subst l103 y103 z103
    obtain ⟨rfl, N103q, K103, E103z, F103z_countLimit, F103z_sizeLimit, F103z_count, F103z_size⟩ := hQ103
    have E104_b101 := A101.keep K103
    have Z104 := Nat.le_trans Z102 K103.1
    have K104 : Keep h0 T103.heap [] := Keep.trans K102 K103 (allS (Or.inr sz_b101) all0)
    have N103 := Fr.app N0 N103q
    refine Go.tr st103 ?_
    show Go _ _ _ _ _ _ _ (T103.setTop (mkF m 53 #[.val (.int c0), .val (.long s0), .second, .val (.int k0), .val (.long a1), .second, .val (.long b1), .second, .val (.long z1), .second, .val (.int cl), .val (.long sl), .second, .val (.int (0 : Int32)), .val (.long xx), .second, .val (.long yy), .second, .val (.long zz), .second, .unset, .unset, .unset, .unset, .unset] [(.ref b101)]))
    refine Go.by (fun _ kont => XS.astore X103.here hx rfl (hb hby at_53) rfl rfl (l' := #[.val (.int c0), .val (.long s0), .second, .val (.int k0), .val (.long a1), .second, .val (.long b1), .second, .val (.long z1), .second, .val (.int cl), .val (.long sl), .second, .val (.int (0 : Int32)), .val (.long xx), .second, .val (.long yy), .second, .val (.long zz), .second, .val (.ref b101), .unset, .unset, .unset, .unset]) rfl (XS.lconst X103.here hx rfl (hb hby at_55) (XS.lstore X103.here hx rfl (hb hby at_56) rfl (l' := #[.val (.int c0), .val (.long s0), .second, .val (.int k0), .val (.long a1), .second, .val (.long b1), .second, .val (.long z1), .second, .val (.int cl), .val (.long sl), .second, .val (.int (0 : Int32)), .val (.long xx), .second, .val (.long yy), .second, .val (.long zz), .second, .val (.ref b101), .val (.long (0 : Int64)), .second, .unset, .unset]) rfl (XS.iload X103.here hx rfl (hb hby at_58) rfl (XS.iconst X103.here hx rfl (hb hby at_60) kont))))) ?_
    show Go _ _ _ _ _ _ _ (T103.setTop (mkF m 61 #[.val (.int c0), .val (.long s0), .second, .val (.int k0), .val (.long a1), .second, .val (.long b1), .second, .val (.long z1), .second, .val (.int cl), .val (.long sl), .second, .val (.int (0 : Int32)), .val (.long xx), .second, .val (.long yy), .second, .val (.long zz), .second, .val (.ref b101), .val (.long (0 : Int64)), .second, .unset, .unset] [(.int (1 : Int32)), (.int (0 : Int32))]))
    refine Go.by (fun _ kont => XS.icmpYes X103.here hx rfl (pc0 := 61) (pc' := 78) rfl (hb hby at_61) rfl (by decide) (by decide) (by decide) kont) ?_
    show Go _ _ _ _ _ _ _ (T103.setTop (mkF m 78 #[.val (.int c0), .val (.long s0), .second, .val (.int k0), .val (.long a1), .second, .val (.long b1), .second, .val (.long z1), .second, .val (.int cl), .val (.long sl), .second, .val (.int (0 : Int32)), .val (.long xx), .second, .val (.long yy), .second, .val (.long zz), .second, .val (.ref b101), .val (.long (0 : Int64)), .second, .unset, .unset] []))
    refine Go.by (fun _ kont => XS.iload X103.here hx rfl (hb hby at_78) rfl (XS.iconst X103.here hx rfl (hb hby at_80) kont)) ?_
    show Go _ _ _ _ _ _ _ (T103.setTop (mkF m 81 #[.val (.int c0), .val (.long s0), .second, .val (.int k0), .val (.long a1), .second, .val (.long b1), .second, .val (.long z1), .second, .val (.int cl), .val (.long sl), .second, .val (.int (0 : Int32)), .val (.long xx), .second, .val (.long yy), .second, .val (.long zz), .second, .val (.ref b101), .val (.long (0 : Int64)), .second, .unset, .unset] [(.int (2 : Int32)), (.int (0 : Int32))]))
    refine Go.by (fun _ kont => XS.icmpYes X103.here hx rfl (pc0 := 81) (pc' := 98) rfl (hb hby at_81) rfl (by decide) (by decide) (by decide) kont) ?_
    show Go _ _ _ _ _ _ _ (T103.setTop (mkF m 98 #[.val (.int c0), .val (.long s0), .second, .val (.int k0), .val (.long a1), .second, .val (.long b1), .second, .val (.long z1), .second, .val (.int cl), .val (.long sl), .second, .val (.int (0 : Int32)), .val (.long xx), .second, .val (.long yy), .second, .val (.long zz), .second, .val (.ref b101), .val (.long (0 : Int64)), .second, .unset, .unset] []))
    refine Go.by (fun _ kont => XS.iload X103.here hx rfl (hb hby at_98) rfl (XS.iconst X103.here hx rfl (hb hby at_100) kont)) ?_
    show Go _ _ _ _ _ _ _ (T103.setTop (mkF m 101 #[.val (.int c0), .val (.long s0), .second, .val (.int k0), .val (.long a1), .second, .val (.long b1), .second, .val (.long z1), .second, .val (.int cl), .val (.long sl), .second, .val (.int (0 : Int32)), .val (.long xx), .second, .val (.long yy), .second, .val (.long zz), .second, .val (.ref b101), .val (.long (0 : Int64)), .second, .unset, .unset] [(.int (3 : Int32)), (.int (0 : Int32))]))
    refine Go.by (fun _ kont => XS.icmpYes X103.here hx rfl (pc0 := 101) (pc' := 118) rfl (hb hby at_101) rfl (by decide) (by decide) (by decide) kont) ?_
    show Go _ _ _ _ _ _ _ (T103.setTop (mkF m 118 #[.val (.int c0), .val (.long s0), .second, .val (.int k0), .val (.long a1), .second, .val (.long b1), .second, .val (.long z1), .second, .val (.int cl), .val (.long sl), .second, .val (.int (0 : Int32)), .val (.long xx), .second, .val (.long yy), .second, .val (.long zz), .second, .val (.ref b101), .val (.long (0 : Int64)), .second, .unset, .unset] []))
    refine Go.by (fun _ kont => XS.aload X103.here hx rfl (hb hby at_118) rfl rfl (XS.lload X103.here hx rfl (hb hby at_120) rfl kont)) ?_
    show Go _ _ _ _ _ _ _ (T103.setTop (mkF m 122 #[.val (.int c0), .val (.long s0), .second, .val (.int k0), .val (.long a1), .second, .val (.long b1), .second, .val (.long z1), .second, .val (.int cl), .val (.long sl), .second, .val (.int (0 : Int32)), .val (.long xx), .second, .val (.long yy), .second, .val (.long zz), .second, .val (.ref b101), .val (.long (0 : Int64)), .second, .unset, .unset] [(.long zz), (.ref b101)]))
    obtain ⟨cq105, kq105, q105a, q105b, q105c⟩ := isOf hZ rfl E103z
    obtain ⟨_, _, ⟨T105, L105, k105, n105⟩, -, X105, ⟨Lc105, hQ105, l105, y105, z105⟩, st105⟩ := X103.virtualBack hx (y := (⟨"com/example/kyu/kyu/PrefetchWindow", "hasRoomFor", "(J)Z"⟩ : MethodName)) (z := (⟨"com/example/kyu/kyu/PrefetchWindow", "hasRoomFor", "(J)Z"⟩ : MethodName)) hown (mvT hZ (hw _ (List.mem_of_getElem? (i := 25) rfl))) (mvT hZ (hw _ (List.mem_of_getElem? (i := 26) rfl))) (notFace_of_selects (args := #[]) (mvT hZ (hw _ (List.mem_of_getElem? (i := 28) rfl)))) (mvT hZ (hw _ (List.mem_of_getElem? (i := 28) rfl))) (mvT hZ (hw _ (List.mem_of_getElem? (i := 27) rfl))) (by decide) (backOf (W := 0) (rmH l Z a0 hw [] b101 zz cl sl (0 : Int32) (0 : Int64) T103.heap n0 Z104 E103z F103z_countLimit F103z_sizeLimit F103z_count F103z_size ge_b101) hZ (hw _ (List.mem_of_getElem? (i := 29) rfl)) (hw _ (List.mem_of_getElem? (i := 5) rfl)) (by decide) (by decide)) q105a q105c (g := (mkF m 122 #[.val (.int c0), .val (.long s0), .second, .val (.int k0), .val (.long a1), .second, .val (.long b1), .second, .val (.long z1), .second, .val (.int cl), .val (.long sl), .second, .val (.int (0 : Int32)), .val (.long xx), .second, .val (.long yy), .second, .val (.long zz), .second, .val (.ref b101), .val (.long (0 : Int64)), .second, .unset, .unset] [(.long zz), (.ref b101)])) rfl (by rw [hml]; rfl) (Steps.refl _) (argsL := [(.long zz)]) (rest := []) (lenOf pd0_1 rfl) rfl (by show 2 * 0 + _ ≤ _; exact Nat.le_of_eq rfl) (hb hby at_122) (fun _ _ => ⟨rfl, rfl, (by decide : 1 + 0 ≤ _), (by decide : 4 + 0 ≤ _)⟩)
    dsimp only [Pt.U, Pt.locs, Pt.cells, Pt.slots] at X105 l105 y105 z105 st105 hQ105
    subst l105 y105 z105
    obtain ⟨rfl, N105q, eh105⟩ := hQ105
    have N105 := Fr.app N103 N105q
    refine Go.tr st105 ?_
    show Go _ _ _ _ _ _ _ (T105.setTop (mkF m 125 #[.val (.int c0), .val (.long s0), .second, .val (.int k0), .val (.long a1), .second, .val (.long b1), .second, .val (.long z1), .second, .val (.int cl), .val (.long sl), .second, .val (.int (0 : Int32)), .val (.long xx), .second, .val (.long yy), .second, .val (.long zz), .second, .val (.ref b101), .val (.long (0 : Int64)), .second, .unset, .unset] [(.int (if own_room zz cl sl (0 : Int32) (0 : Int64) then 1 else 0))]))
    refine Go.by (fun _ kont => XS.istore X105.here hx rfl (hb hby at_125) rfl (l' := #[.val (.int c0), .val (.long s0), .second, .val (.int k0), .val (.long a1), .second, .val (.long b1), .second, .val (.long z1), .second, .val (.int cl), .val (.long sl), .second, .val (.int (0 : Int32)), .val (.long xx), .second, .val (.long yy), .second, .val (.long zz), .second, .val (.ref b101), .val (.long (0 : Int64)), .second, .val (.int (if own_room zz cl sl (0 : Int32) (0 : Int64) then 1 else 0)), .unset]) rfl (XS.iload X105.here hx rfl (hb hby at_127) rfl kont)) ?_
    show Go _ _ _ _ _ _ _ (T105.setTop (mkF m 129 #[.val (.int c0), .val (.long s0), .second, .val (.int k0), .val (.long a1), .second, .val (.long b1), .second, .val (.long z1), .second, .val (.int cl), .val (.long sl), .second, .val (.int (0 : Int32)), .val (.long xx), .second, .val (.long yy), .second, .val (.long zz), .second, .val (.ref b101), .val (.long (0 : Int64)), .second, .val (.int (if own_room zz cl sl (0 : Int32) (0 : Int64) then 1 else 0)), .unset] [(.int cl)]))
    by_cases hc106 : cl = (0 : Int32)
    · refine Go.by (fun _ kont => XS.ifYes X105.here hx rfl (pc0 := 129) (pc' := 145) rfl (hb hby at_129) rfl ((if0 _ _).trans (teq hc106).1) (by decide) (by decide) kont) ?_
      show Go _ _ _ _ _ _ _ (T105.setTop (mkF m 145 #[.val (.int c0), .val (.long s0), .second, .val (.int k0), .val (.long a1), .second, .val (.long b1), .second, .val (.long z1), .second, .val (.int cl), .val (.long sl), .second, .val (.int (0 : Int32)), .val (.long xx), .second, .val (.long yy), .second, .val (.long zz), .second, .val (.ref b101), .val (.long (0 : Int64)), .second, .val (.int (if own_room zz cl sl (0 : Int32) (0 : Int64) then 1 else 0)), .unset] []))
      refine Go.by (fun _ kont => XS.iload X105.here hx rfl (hb hby at_145) rfl kont) ?_
      show Go _ _ _ _ _ _ _ (T105.setTop (mkF m 147 #[.val (.int c0), .val (.long s0), .second, .val (.int k0), .val (.long a1), .second, .val (.long b1), .second, .val (.long z1), .second, .val (.int cl), .val (.long sl), .second, .val (.int (0 : Int32)), .val (.long xx), .second, .val (.long yy), .second, .val (.long zz), .second, .val (.ref b101), .val (.long (0 : Int64)), .second, .val (.int (if own_room zz cl sl (0 : Int32) (0 : Int64) then 1 else 0)), .unset] [(.int (0 : Int32))]))
      refine Go.by (fun _ kont => XS.ifYes X105.here hx rfl (pc0 := 147) (pc' := 157) rfl (hb hby at_147) rfl (by decide) (by decide) (by decide) kont) ?_
      show Go _ _ _ _ _ _ _ (T105.setTop (mkF m 157 #[.val (.int c0), .val (.long s0), .second, .val (.int k0), .val (.long a1), .second, .val (.long b1), .second, .val (.long z1), .second, .val (.int cl), .val (.long sl), .second, .val (.int (0 : Int32)), .val (.long xx), .second, .val (.long yy), .second, .val (.long zz), .second, .val (.ref b101), .val (.long (0 : Int64)), .second, .val (.int (if own_room zz cl sl (0 : Int32) (0 : Int64) then 1 else 0)), .unset] []))
      refine Go.by (fun _ kont => XS.iconst X105.here hx rfl (hb hby at_157) (XS.istore X105.here hx rfl (hb hby at_158) rfl (l' := #[.val (.int c0), .val (.long s0), .second, .val (.int k0), .val (.long a1), .second, .val (.long b1), .second, .val (.long z1), .second, .val (.int cl), .val (.long sl), .second, .val (.int (0 : Int32)), .val (.long xx), .second, .val (.long yy), .second, .val (.long zz), .second, .val (.ref b101), .val (.long (0 : Int64)), .second, .val (.int (if own_room zz cl sl (0 : Int32) (0 : Int64) then 1 else 0)), .val (.int (1 : Int32))]) rfl (XS.goto X105.here hx rfl (pc0 := 160) (pc' := 181) rfl (hb hby at_160) (by decide) (by decide) (XS.iload X105.here hx rfl (hb hby at_181) rfl (XS.iload X105.here hx rfl (hb hby at_183) rfl kont))))) ?_
      show Go _ _ _ _ _ _ _ (T105.setTop (mkF m 185 #[.val (.int c0), .val (.long s0), .second, .val (.int k0), .val (.long a1), .second, .val (.long b1), .second, .val (.long z1), .second, .val (.int cl), .val (.long sl), .second, .val (.int (0 : Int32)), .val (.long xx), .second, .val (.long yy), .second, .val (.long zz), .second, .val (.ref b101), .val (.long (0 : Int64)), .second, .val (.int (if own_room zz cl sl (0 : Int32) (0 : Int64) then 1 else 0)), .val (.int (1 : Int32))] [(.int (1 : Int32)), (.int (if own_room zz cl sl (0 : Int32) (0 : Int64) then 1 else 0))]))
      have hd107 : (if own_room zz cl sl (0 : Int32) (0 : Int64) then 1 else 0) = (1 : Int32) := by simp only [own_room, decide_true, decide_false, Bool.or_true, Bool.true_or, Bool.true_and, Bool.and_true, Bool.false_or, Bool.or_false, decide_eq_true hc106, show decide ((0 : Int32) = 0) = true from by decide] <;> rfl
      refine Go.by (fun _ kont => XS.icmpNo X105.here hx rfl (hb hby at_185) rfl (teq hd107).2 kont) ?_
      show Go _ _ _ _ _ _ _ (T105.setTop (mkF m 188 #[.val (.int c0), .val (.long s0), .second, .val (.int k0), .val (.long a1), .second, .val (.long b1), .second, .val (.long z1), .second, .val (.int cl), .val (.long sl), .second, .val (.int (0 : Int32)), .val (.long xx), .second, .val (.long yy), .second, .val (.long zz), .second, .val (.ref b101), .val (.long (0 : Int64)), .second, .val (.int (if own_room zz cl sl (0 : Int32) (0 : Int64) then 1 else 0)), .val (.int (1 : Int32))] []))
      refine Go.by (fun _ kont => XS.iconst X105.here hx rfl (hb hby at_188) (XS.goto X105.here hx rfl (pc0 := 189) (pc' := 193) rfl (hb hby at_189) (by decide) (by decide) kont)) ?_
      show Go _ _ _ _ _ _ _ (T105.setTop (mkF m 193 #[.val (.int c0), .val (.long s0), .second, .val (.int k0), .val (.long a1), .second, .val (.long b1), .second, .val (.long z1), .second, .val (.int cl), .val (.long sl), .second, .val (.int (0 : Int32)), .val (.long xx), .second, .val (.long yy), .second, .val (.long zz), .second, .val (.ref b101), .val (.long (0 : Int64)), .second, .val (.int (if own_room zz cl sl (0 : Int32) (0 : Int64) then 1 else 0)), .val (.int (1 : Int32))] [(.int (1 : Int32))]))
      refine Go.retN X105 hx (t := .boolean) hret (by simp) hlk (hb hby at_193) ?_ (by decide) (by decide)
      show Q0 Z h0 n0 (some (.int (1 : Int32))) T105.heap _
      rw [eh105]
      exact ⟨rfl, N105⟩
    · refine Go.by (fun _ kont => XS.ifNo X105.here hx rfl (hb hby at_129) rfl ((if0 _ _).trans (feq hc106).1) kont) ?_
      show Go _ _ _ _ _ _ _ (T105.setTop (mkF m 132 #[.val (.int c0), .val (.long s0), .second, .val (.int k0), .val (.long a1), .second, .val (.long b1), .second, .val (.long z1), .second, .val (.int cl), .val (.long sl), .second, .val (.int (0 : Int32)), .val (.long xx), .second, .val (.long yy), .second, .val (.long zz), .second, .val (.ref b101), .val (.long (0 : Int64)), .second, .val (.int (if own_room zz cl sl (0 : Int32) (0 : Int64) then 1 else 0)), .unset] []))
      refine Go.by (fun _ kont => XS.iload X105.here hx rfl (hb hby at_132) rfl (XS.iload X105.here hx rfl (hb hby at_134) rfl kont)) ?_
      show Go _ _ _ _ _ _ _ (T105.setTop (mkF m 136 #[.val (.int c0), .val (.long s0), .second, .val (.int k0), .val (.long a1), .second, .val (.long b1), .second, .val (.long z1), .second, .val (.int cl), .val (.long sl), .second, .val (.int (0 : Int32)), .val (.long xx), .second, .val (.long yy), .second, .val (.long zz), .second, .val (.ref b101), .val (.long (0 : Int64)), .second, .val (.int (if own_room zz cl sl (0 : Int32) (0 : Int64) then 1 else 0)), .unset] [(.int cl), (.int (0 : Int32))]))
      by_cases hc108 : (0 : Int32) < cl
      · refine Go.by (fun _ kont => XS.icmpYes X105.here hx rfl (pc0 := 136) (pc' := 145) rfl (hb hby at_136) rfl (tlt hc108).1 (by decide) (by decide) kont) ?_
        show Go _ _ _ _ _ _ _ (T105.setTop (mkF m 145 #[.val (.int c0), .val (.long s0), .second, .val (.int k0), .val (.long a1), .second, .val (.long b1), .second, .val (.long z1), .second, .val (.int cl), .val (.long sl), .second, .val (.int (0 : Int32)), .val (.long xx), .second, .val (.long yy), .second, .val (.long zz), .second, .val (.ref b101), .val (.long (0 : Int64)), .second, .val (.int (if own_room zz cl sl (0 : Int32) (0 : Int64) then 1 else 0)), .unset] []))
        refine Go.by (fun _ kont => XS.iload X105.here hx rfl (hb hby at_145) rfl kont) ?_
        show Go _ _ _ _ _ _ _ (T105.setTop (mkF m 147 #[.val (.int c0), .val (.long s0), .second, .val (.int k0), .val (.long a1), .second, .val (.long b1), .second, .val (.long z1), .second, .val (.int cl), .val (.long sl), .second, .val (.int (0 : Int32)), .val (.long xx), .second, .val (.long yy), .second, .val (.long zz), .second, .val (.ref b101), .val (.long (0 : Int64)), .second, .val (.int (if own_room zz cl sl (0 : Int32) (0 : Int64) then 1 else 0)), .unset] [(.int (0 : Int32))]))
        refine Go.by (fun _ kont => XS.ifYes X105.here hx rfl (pc0 := 147) (pc' := 157) rfl (hb hby at_147) rfl (by decide) (by decide) (by decide) kont) ?_
        show Go _ _ _ _ _ _ _ (T105.setTop (mkF m 157 #[.val (.int c0), .val (.long s0), .second, .val (.int k0), .val (.long a1), .second, .val (.long b1), .second, .val (.long z1), .second, .val (.int cl), .val (.long sl), .second, .val (.int (0 : Int32)), .val (.long xx), .second, .val (.long yy), .second, .val (.long zz), .second, .val (.ref b101), .val (.long (0 : Int64)), .second, .val (.int (if own_room zz cl sl (0 : Int32) (0 : Int64) then 1 else 0)), .unset] []))
        refine Go.by (fun _ kont => XS.iconst X105.here hx rfl (hb hby at_157) (XS.istore X105.here hx rfl (hb hby at_158) rfl (l' := #[.val (.int c0), .val (.long s0), .second, .val (.int k0), .val (.long a1), .second, .val (.long b1), .second, .val (.long z1), .second, .val (.int cl), .val (.long sl), .second, .val (.int (0 : Int32)), .val (.long xx), .second, .val (.long yy), .second, .val (.long zz), .second, .val (.ref b101), .val (.long (0 : Int64)), .second, .val (.int (if own_room zz cl sl (0 : Int32) (0 : Int64) then 1 else 0)), .val (.int (1 : Int32))]) rfl (XS.goto X105.here hx rfl (pc0 := 160) (pc' := 181) rfl (hb hby at_160) (by decide) (by decide) (XS.iload X105.here hx rfl (hb hby at_181) rfl (XS.iload X105.here hx rfl (hb hby at_183) rfl kont))))) ?_
        show Go _ _ _ _ _ _ _ (T105.setTop (mkF m 185 #[.val (.int c0), .val (.long s0), .second, .val (.int k0), .val (.long a1), .second, .val (.long b1), .second, .val (.long z1), .second, .val (.int cl), .val (.long sl), .second, .val (.int (0 : Int32)), .val (.long xx), .second, .val (.long yy), .second, .val (.long zz), .second, .val (.ref b101), .val (.long (0 : Int64)), .second, .val (.int (if own_room zz cl sl (0 : Int32) (0 : Int64) then 1 else 0)), .val (.int (1 : Int32))] [(.int (1 : Int32)), (.int (if own_room zz cl sl (0 : Int32) (0 : Int64) then 1 else 0))]))
        have hd109 : (if own_room zz cl sl (0 : Int32) (0 : Int64) then 1 else 0) = (1 : Int32) := by simp only [own_room, decide_true, decide_false, Bool.or_true, Bool.true_or, Bool.true_and, Bool.and_true, Bool.false_or, Bool.or_false, decide_eq_false hc106, decide_eq_true hc108, show decide ((0 : Int32) = 0) = true from by decide] <;> rfl
        refine Go.by (fun _ kont => XS.icmpNo X105.here hx rfl (hb hby at_185) rfl (teq hd109).2 kont) ?_
        show Go _ _ _ _ _ _ _ (T105.setTop (mkF m 188 #[.val (.int c0), .val (.long s0), .second, .val (.int k0), .val (.long a1), .second, .val (.long b1), .second, .val (.long z1), .second, .val (.int cl), .val (.long sl), .second, .val (.int (0 : Int32)), .val (.long xx), .second, .val (.long yy), .second, .val (.long zz), .second, .val (.ref b101), .val (.long (0 : Int64)), .second, .val (.int (if own_room zz cl sl (0 : Int32) (0 : Int64) then 1 else 0)), .val (.int (1 : Int32))] []))
        refine Go.by (fun _ kont => XS.iconst X105.here hx rfl (hb hby at_188) (XS.goto X105.here hx rfl (pc0 := 189) (pc' := 193) rfl (hb hby at_189) (by decide) (by decide) kont)) ?_
        show Go _ _ _ _ _ _ _ (T105.setTop (mkF m 193 #[.val (.int c0), .val (.long s0), .second, .val (.int k0), .val (.long a1), .second, .val (.long b1), .second, .val (.long z1), .second, .val (.int cl), .val (.long sl), .second, .val (.int (0 : Int32)), .val (.long xx), .second, .val (.long yy), .second, .val (.long zz), .second, .val (.ref b101), .val (.long (0 : Int64)), .second, .val (.int (if own_room zz cl sl (0 : Int32) (0 : Int64) then 1 else 0)), .val (.int (1 : Int32))] [(.int (1 : Int32))]))
        refine Go.retN X105 hx (t := .boolean) hret (by simp) hlk (hb hby at_193) ?_ (by decide) (by decide)
        show Q0 Z h0 n0 (some (.int (1 : Int32))) T105.heap _
        rw [eh105]
        exact ⟨rfl, N105⟩
      · refine Go.by (fun _ kont => XS.icmpNo X105.here hx rfl (hb hby at_136) rfl (flt hc108).1 kont) ?_
        show Go _ _ _ _ _ _ _ (T105.setTop (mkF m 139 #[.val (.int c0), .val (.long s0), .second, .val (.int k0), .val (.long a1), .second, .val (.long b1), .second, .val (.long z1), .second, .val (.int cl), .val (.long sl), .second, .val (.int (0 : Int32)), .val (.long xx), .second, .val (.long yy), .second, .val (.long zz), .second, .val (.ref b101), .val (.long (0 : Int64)), .second, .val (.int (if own_room zz cl sl (0 : Int32) (0 : Int64) then 1 else 0)), .unset] []))
        refine Go.by (fun _ kont => XS.iconst X105.here hx rfl (hb hby at_139) (XS.istore X105.here hx rfl (hb hby at_140) rfl (l' := #[.val (.int c0), .val (.long s0), .second, .val (.int k0), .val (.long a1), .second, .val (.long b1), .second, .val (.long z1), .second, .val (.int cl), .val (.long sl), .second, .val (.int (0 : Int32)), .val (.long xx), .second, .val (.long yy), .second, .val (.long zz), .second, .val (.ref b101), .val (.long (0 : Int64)), .second, .val (.int (if own_room zz cl sl (0 : Int32) (0 : Int64) then 1 else 0)), .val (.int (0 : Int32))]) rfl (XS.goto X105.here hx rfl (pc0 := 142) (pc' := 181) rfl (hb hby at_142) (by decide) (by decide) (XS.iload X105.here hx rfl (hb hby at_181) rfl (XS.iload X105.here hx rfl (hb hby at_183) rfl kont))))) ?_
        show Go _ _ _ _ _ _ _ (T105.setTop (mkF m 185 #[.val (.int c0), .val (.long s0), .second, .val (.int k0), .val (.long a1), .second, .val (.long b1), .second, .val (.long z1), .second, .val (.int cl), .val (.long sl), .second, .val (.int (0 : Int32)), .val (.long xx), .second, .val (.long yy), .second, .val (.long zz), .second, .val (.ref b101), .val (.long (0 : Int64)), .second, .val (.int (if own_room zz cl sl (0 : Int32) (0 : Int64) then 1 else 0)), .val (.int (0 : Int32))] [(.int (0 : Int32)), (.int (if own_room zz cl sl (0 : Int32) (0 : Int64) then 1 else 0))]))
        have hd110 : (if own_room zz cl sl (0 : Int32) (0 : Int64) then 1 else 0) = (0 : Int32) := by simp only [own_room, decide_true, decide_false, Bool.or_true, Bool.true_or, Bool.true_and, Bool.and_true, Bool.false_or, Bool.or_false, decide_eq_false hc106, decide_eq_false hc108, show decide ((0 : Int32) = 0) = true from by decide] <;> rfl
        refine Go.by (fun _ kont => XS.icmpNo X105.here hx rfl (hb hby at_185) rfl (teq hd110).2 kont) ?_
        show Go _ _ _ _ _ _ _ (T105.setTop (mkF m 188 #[.val (.int c0), .val (.long s0), .second, .val (.int k0), .val (.long a1), .second, .val (.long b1), .second, .val (.long z1), .second, .val (.int cl), .val (.long sl), .second, .val (.int (0 : Int32)), .val (.long xx), .second, .val (.long yy), .second, .val (.long zz), .second, .val (.ref b101), .val (.long (0 : Int64)), .second, .val (.int (if own_room zz cl sl (0 : Int32) (0 : Int64) then 1 else 0)), .val (.int (0 : Int32))] []))
        refine Go.by (fun _ kont => XS.iconst X105.here hx rfl (hb hby at_188) (XS.goto X105.here hx rfl (pc0 := 189) (pc' := 193) rfl (hb hby at_189) (by decide) (by decide) kont)) ?_
        show Go _ _ _ _ _ _ _ (T105.setTop (mkF m 193 #[.val (.int c0), .val (.long s0), .second, .val (.int k0), .val (.long a1), .second, .val (.long b1), .second, .val (.long z1), .second, .val (.int cl), .val (.long sl), .second, .val (.int (0 : Int32)), .val (.long xx), .second, .val (.long yy), .second, .val (.long zz), .second, .val (.ref b101), .val (.long (0 : Int64)), .second, .val (.int (if own_room zz cl sl (0 : Int32) (0 : Int64) then 1 else 0)), .val (.int (0 : Int32))] [(.int (1 : Int32))]))
        refine Go.retN X105 hx (t := .boolean) hret (by simp) hlk (hb hby at_193) ?_ (by decide) (by decide)
        show Q0 Z h0 n0 (some (.int (1 : Int32))) T105.heap _
        rw [eh105]
        exact ⟨rfl, N105⟩
  · show Go _ _ _ _ _ _ _ (s₁.setTop (mkF m 42 #[.val (.int c0), .val (.long s0), .second, .val (.int k0), .val (.long a1), .second, .val (.long b1), .second, .val (.long z1), .second, .val (.int cl), .val (.long sl), .second, .val (.int (1 : Int32)), .val (.long xx), .second, .val (.long yy), .second, .val (.long zz), .second, .unset, .unset, .unset, .unset, .unset] []))
    obtain ⟨T111, h111, X111, e111, X_111, A111, D111, -, st111⟩ := newO X0 hx hZ hown (hw _ (List.mem_of_getElem? (i := 3) rfl)) (hw _ (List.mem_of_getElem? (i := 4) rfl)) (hw _ (List.mem_of_getElem? (i := 5) rfl)) e0 (g := (mkF m 42 #[.val (.int c0), .val (.long s0), .second, .val (.int k0), .val (.long a1), .second, .val (.long b1), .second, .val (.long z1), .second, .val (.int cl), .val (.long sl), .second, .val (.int (1 : Int32)), .val (.long xx), .second, .val (.long yy), .second, .val (.long zz), .second, .unset, .unset, .unset, .unset, .unset] [])) rfl (hb hby at_42) (by decide) (by decide)
    obtain ⟨b111, g111⟩ : ∃ z, z = h0.size := ⟨_, rfl⟩
    rw [← g111] at A111 D111 st111
    have ge_b111 : n0 ≤ b111 := Nat.le_trans Z0 (Nat.le_of_eq g111.symm)
    have sz_b111 : h0.size ≤ b111 := Nat.le_trans (Keep.refl h0 []).1 (Nat.le_of_eq g111.symm)
    have Z112 := Nat.le_trans Z0 X_111.1
    have K112 : Keep h0 h111 [] := (Keep.refl h0 []).ext X_111
    have F111_countLimit : Fld Z h111 b111 "com/example/kyu/kyu/PrefetchWindow" "countLimit" "I" (.int (0 : Int32)) := D111 (Or.inl (hw _ (List.mem_of_getElem? (i := 13) rfl))) (ty := .int) (by decide)
    have F111_sizeLimit : Fld Z h111 b111 "com/example/kyu/kyu/PrefetchWindow" "sizeLimit" "J" (.long (0 : Int64)) := D111 (Or.inl (hw _ (List.mem_of_getElem? (i := 15) rfl))) (ty := .long) (by decide)
    have F111_count : Fld Z h111 b111 "com/example/kyu/kyu/PrefetchWindow" "count" "I" (.int (0 : Int32)) := D111 (Or.inl (hw _ (List.mem_of_getElem? (i := 22) rfl))) (ty := .int) (by decide)
    have F111_size : Fld Z h111 b111 "com/example/kyu/kyu/PrefetchWindow" "size" "J" (.long (0 : Int64)) := D111 (Or.inl (hw _ (List.mem_of_getElem? (i := 24) rfl))) (ty := .long) (by decide)
    refine Go.by st111 ?_
    show Go _ _ _ _ _ _ _ (T111.setTop (mkF m 45 #[.val (.int c0), .val (.long s0), .second, .val (.int k0), .val (.long a1), .second, .val (.long b1), .second, .val (.long z1), .second, .val (.int cl), .val (.long sl), .second, .val (.int (1 : Int32)), .val (.long xx), .second, .val (.long yy), .second, .val (.long zz), .second, .unset, .unset, .unset, .unset, .unset] [(.ref b111)]))
    refine Go.by (fun _ kont => XS.dup X111.here hx rfl (hb hby at_45) rfl rfl (XS.iload X111.here hx rfl (hb hby at_46) rfl (XS.lload X111.here hx rfl (hb hby at_48) rfl kont))) ?_
    show Go _ _ _ _ _ _ _ (T111.setTop (mkF m 50 #[.val (.int c0), .val (.long s0), .second, .val (.int k0), .val (.long a1), .second, .val (.long b1), .second, .val (.long z1), .second, .val (.int cl), .val (.long sl), .second, .val (.int (1 : Int32)), .val (.long xx), .second, .val (.long yy), .second, .val (.long zz), .second, .unset, .unset, .unset, .unset, .unset] [(.long sl), (.int cl), (.ref b111), (.ref b111)]))
    obtain ⟨_, _, ⟨T113, L113, k113, n113⟩, -, X113, ⟨Lc113, hQ113, l113, y113, z113⟩, st113⟩ := X111.specialBack hx (y := (⟨"com/example/kyu/kyu/PrefetchWindow", "<init>", "(IJ)V"⟩ : MethodName)) rfl hown (mvT hZ (hw _ (List.mem_of_getElem? (i := 6) rfl))) (mvT hZ (hw _ (List.mem_of_getElem? (i := 7) rfl))) (mvT hZ (hw _ (List.mem_of_getElem? (i := 8) rfl))) (by decide) (backOf (W := 1) (rmI l Z a0 hw [] b111 cl sl h111 n0 Z112 A111 F111_countLimit F111_sizeLimit F111_count F111_size ge_b111) hZ (hw _ (List.mem_of_getElem? (i := 8) rfl)) (hw _ (List.mem_of_getElem? (i := 5) rfl)) (by decide) (by decide)) (g := (mkF m 50 #[.val (.int c0), .val (.long s0), .second, .val (.int k0), .val (.long a1), .second, .val (.long b1), .second, .val (.long z1), .second, .val (.int cl), .val (.long sl), .second, .val (.int (1 : Int32)), .val (.long xx), .second, .val (.long yy), .second, .val (.long zz), .second, .unset, .unset, .unset, .unset, .unset] [(.long sl), (.int cl), (.ref b111), (.ref b111)])) rfl (by rw [hml]; rfl) (Steps.refl _) (a := b111) (argsL := [(.int cl), (.long sl)]) (rest := [(.ref b111)]) (lenOf pd0_0 rfl) rfl (by show 2 * 0 + _ ≤ _; exact Nat.le_of_eq rfl) (hb hby at_50) (fun _ _ => ⟨rfl, e111, (by decide : 1 + 0 ≤ _), (by decide : 4 + 0 ≤ _)⟩)
    dsimp only [Pt.U, Pt.locs, Pt.cells, Pt.slots] at X113 l113 y113 z113 st113 hQ113
    subst l113 y113 z113
    obtain ⟨rfl, N113q, K113, E113z, F113z_countLimit, F113z_sizeLimit, F113z_count, F113z_size⟩ := hQ113
    have E114_b111 := A111.keep K113
    have Z114 := Nat.le_trans Z112 K113.1
    have K114 : Keep h0 T113.heap [] := Keep.trans K112 K113 (allS (Or.inr sz_b111) all0)
    have N113 := Fr.app N0 N113q
    refine Go.tr st113 ?_
    show Go _ _ _ _ _ _ _ (T113.setTop (mkF m 53 #[.val (.int c0), .val (.long s0), .second, .val (.int k0), .val (.long a1), .second, .val (.long b1), .second, .val (.long z1), .second, .val (.int cl), .val (.long sl), .second, .val (.int (1 : Int32)), .val (.long xx), .second, .val (.long yy), .second, .val (.long zz), .second, .unset, .unset, .unset, .unset, .unset] [(.ref b111)]))
    refine Go.by (fun _ kont => XS.astore X113.here hx rfl (hb hby at_53) rfl rfl (l' := #[.val (.int c0), .val (.long s0), .second, .val (.int k0), .val (.long a1), .second, .val (.long b1), .second, .val (.long z1), .second, .val (.int cl), .val (.long sl), .second, .val (.int (1 : Int32)), .val (.long xx), .second, .val (.long yy), .second, .val (.long zz), .second, .val (.ref b111), .unset, .unset, .unset, .unset]) rfl (XS.lconst X113.here hx rfl (hb hby at_55) (XS.lstore X113.here hx rfl (hb hby at_56) rfl (l' := #[.val (.int c0), .val (.long s0), .second, .val (.int k0), .val (.long a1), .second, .val (.long b1), .second, .val (.long z1), .second, .val (.int cl), .val (.long sl), .second, .val (.int (1 : Int32)), .val (.long xx), .second, .val (.long yy), .second, .val (.long zz), .second, .val (.ref b111), .val (.long (0 : Int64)), .second, .unset, .unset]) rfl (XS.iload X113.here hx rfl (hb hby at_58) rfl (XS.iconst X113.here hx rfl (hb hby at_60) kont))))) ?_
    show Go _ _ _ _ _ _ _ (T113.setTop (mkF m 61 #[.val (.int c0), .val (.long s0), .second, .val (.int k0), .val (.long a1), .second, .val (.long b1), .second, .val (.long z1), .second, .val (.int cl), .val (.long sl), .second, .val (.int (1 : Int32)), .val (.long xx), .second, .val (.long yy), .second, .val (.long zz), .second, .val (.ref b111), .val (.long (0 : Int64)), .second, .unset, .unset] [(.int (1 : Int32)), (.int (1 : Int32))]))
    refine Go.by (fun _ kont => XS.icmpNo X113.here hx rfl (hb hby at_61) rfl (by decide) kont) ?_
    show Go _ _ _ _ _ _ _ (T113.setTop (mkF m 64 #[.val (.int c0), .val (.long s0), .second, .val (.int k0), .val (.long a1), .second, .val (.long b1), .second, .val (.long z1), .second, .val (.int cl), .val (.long sl), .second, .val (.int (1 : Int32)), .val (.long xx), .second, .val (.long yy), .second, .val (.long zz), .second, .val (.ref b111), .val (.long (0 : Int64)), .second, .unset, .unset] []))
    refine Go.by (fun _ kont => XS.aload X113.here hx rfl (hb hby at_64) rfl rfl (XS.lload X113.here hx rfl (hb hby at_66) rfl kont)) ?_
    show Go _ _ _ _ _ _ _ (T113.setTop (mkF m 68 #[.val (.int c0), .val (.long s0), .second, .val (.int k0), .val (.long a1), .second, .val (.long b1), .second, .val (.long z1), .second, .val (.int cl), .val (.long sl), .second, .val (.int (1 : Int32)), .val (.long xx), .second, .val (.long yy), .second, .val (.long zz), .second, .val (.ref b111), .val (.long (0 : Int64)), .second, .unset, .unset] [(.long xx), (.ref b111)]))
    obtain ⟨cq115, kq115, q115a, q115b, q115c⟩ := isOf hZ rfl E113z
    obtain ⟨_, _, ⟨T115, L115, k115, n115⟩, -, X115, ⟨Lc115, hQ115, l115, y115, z115⟩, st115⟩ := X113.virtualBack hx (y := (⟨"com/example/kyu/kyu/PrefetchWindow", "add", "(J)V"⟩ : MethodName)) (z := (⟨"com/example/kyu/kyu/PrefetchWindow", "add", "(J)V"⟩ : MethodName)) hown (mvT hZ (hw _ (List.mem_of_getElem? (i := 16) rfl))) (mvT hZ (hw _ (List.mem_of_getElem? (i := 17) rfl))) (notFace_of_selects (args := #[]) (mvT hZ (hw _ (List.mem_of_getElem? (i := 19) rfl)))) (mvT hZ (hw _ (List.mem_of_getElem? (i := 19) rfl))) (mvT hZ (hw _ (List.mem_of_getElem? (i := 18) rfl))) (by decide) (backOf (W := 0) (rmA l Z a0 hw [] b111 xx cl sl (0 : Int32) (0 : Int64) T113.heap n0 Z114 E113z F113z_countLimit F113z_sizeLimit F113z_count F113z_size ge_b111) hZ (hw _ (List.mem_of_getElem? (i := 20) rfl)) (hw _ (List.mem_of_getElem? (i := 5) rfl)) (by decide) (by decide)) q115a q115c (g := (mkF m 68 #[.val (.int c0), .val (.long s0), .second, .val (.int k0), .val (.long a1), .second, .val (.long b1), .second, .val (.long z1), .second, .val (.int cl), .val (.long sl), .second, .val (.int (1 : Int32)), .val (.long xx), .second, .val (.long yy), .second, .val (.long zz), .second, .val (.ref b111), .val (.long (0 : Int64)), .second, .unset, .unset] [(.long xx), (.ref b111)])) rfl (by rw [hml]; rfl) (Steps.refl _) (argsL := [(.long xx)]) (rest := []) (lenOf pd0_2 rfl) rfl (by show 2 * 0 + _ ≤ _; exact Nat.le_of_eq rfl) (hb hby at_68) (fun _ _ => ⟨rfl, rfl, (by decide : 1 + 0 ≤ _), (by decide : 4 + 0 ≤ _)⟩)
    dsimp only [Pt.U, Pt.locs, Pt.cells, Pt.slots] at X115 l115 y115 z115 st115 hQ115
    subst l115 y115 z115
    obtain ⟨rfl, N115q, K115, E115z, F115z_countLimit, F115z_sizeLimit, F115z_count, F115z_size⟩ := hQ115
    have E116_b111 := E113z.keep K115
    have Z116 := Nat.le_trans Z114 K115.1
    have K116 : Keep h0 T115.heap [] := Keep.trans K114 K115 (allS (Or.inr sz_b111) all0)
    rw [show (0 : Int32) + 1 = (1 : Int32) from by decide] at F115z_count
    have N115 := Fr.app N113 N115q
    refine Go.tr st115 ?_
    show Go _ _ _ _ _ _ _ (T115.setTop (mkF m 71 #[.val (.int c0), .val (.long s0), .second, .val (.int k0), .val (.long a1), .second, .val (.long b1), .second, .val (.long z1), .second, .val (.int cl), .val (.long sl), .second, .val (.int (1 : Int32)), .val (.long xx), .second, .val (.long yy), .second, .val (.long zz), .second, .val (.ref b111), .val (.long (0 : Int64)), .second, .unset, .unset] []))
    refine Go.by (fun _ kont => XS.lload X115.here hx rfl (hb hby at_71) rfl (XS.lload X115.here hx rfl (hb hby at_73) rfl (XS.ladd X115.here hx rfl (hb hby at_75) rfl (XS.lstore X115.here hx rfl (hb hby at_76) rfl (l' := #[.val (.int c0), .val (.long s0), .second, .val (.int k0), .val (.long a1), .second, .val (.long b1), .second, .val (.long z1), .second, .val (.int cl), .val (.long sl), .second, .val (.int (1 : Int32)), .val (.long xx), .second, .val (.long yy), .second, .val (.long zz), .second, .val (.ref b111), .val (.long ((0 : Int64) + xx)), .second, .unset, .unset]) rfl (XS.iload X115.here hx rfl (hb hby at_78) rfl (XS.iconst X115.here hx rfl (hb hby at_80) kont)))))) ?_
    show Go _ _ _ _ _ _ _ (T115.setTop (mkF m 81 #[.val (.int c0), .val (.long s0), .second, .val (.int k0), .val (.long a1), .second, .val (.long b1), .second, .val (.long z1), .second, .val (.int cl), .val (.long sl), .second, .val (.int (1 : Int32)), .val (.long xx), .second, .val (.long yy), .second, .val (.long zz), .second, .val (.ref b111), .val (.long ((0 : Int64) + xx)), .second, .unset, .unset] [(.int (2 : Int32)), (.int (1 : Int32))]))
    refine Go.by (fun _ kont => XS.icmpYes X115.here hx rfl (pc0 := 81) (pc' := 98) rfl (hb hby at_81) rfl (by decide) (by decide) (by decide) kont) ?_
    show Go _ _ _ _ _ _ _ (T115.setTop (mkF m 98 #[.val (.int c0), .val (.long s0), .second, .val (.int k0), .val (.long a1), .second, .val (.long b1), .second, .val (.long z1), .second, .val (.int cl), .val (.long sl), .second, .val (.int (1 : Int32)), .val (.long xx), .second, .val (.long yy), .second, .val (.long zz), .second, .val (.ref b111), .val (.long ((0 : Int64) + xx)), .second, .unset, .unset] []))
    refine Go.by (fun _ kont => XS.iload X115.here hx rfl (hb hby at_98) rfl (XS.iconst X115.here hx rfl (hb hby at_100) kont)) ?_
    show Go _ _ _ _ _ _ _ (T115.setTop (mkF m 101 #[.val (.int c0), .val (.long s0), .second, .val (.int k0), .val (.long a1), .second, .val (.long b1), .second, .val (.long z1), .second, .val (.int cl), .val (.long sl), .second, .val (.int (1 : Int32)), .val (.long xx), .second, .val (.long yy), .second, .val (.long zz), .second, .val (.ref b111), .val (.long ((0 : Int64) + xx)), .second, .unset, .unset] [(.int (3 : Int32)), (.int (1 : Int32))]))
    refine Go.by (fun _ kont => XS.icmpYes X115.here hx rfl (pc0 := 101) (pc' := 118) rfl (hb hby at_101) rfl (by decide) (by decide) (by decide) kont) ?_
    show Go _ _ _ _ _ _ _ (T115.setTop (mkF m 118 #[.val (.int c0), .val (.long s0), .second, .val (.int k0), .val (.long a1), .second, .val (.long b1), .second, .val (.long z1), .second, .val (.int cl), .val (.long sl), .second, .val (.int (1 : Int32)), .val (.long xx), .second, .val (.long yy), .second, .val (.long zz), .second, .val (.ref b111), .val (.long ((0 : Int64) + xx)), .second, .unset, .unset] []))
    refine Go.by (fun _ kont => XS.aload X115.here hx rfl (hb hby at_118) rfl rfl (XS.lload X115.here hx rfl (hb hby at_120) rfl kont)) ?_
    show Go _ _ _ _ _ _ _ (T115.setTop (mkF m 122 #[.val (.int c0), .val (.long s0), .second, .val (.int k0), .val (.long a1), .second, .val (.long b1), .second, .val (.long z1), .second, .val (.int cl), .val (.long sl), .second, .val (.int (1 : Int32)), .val (.long xx), .second, .val (.long yy), .second, .val (.long zz), .second, .val (.ref b111), .val (.long ((0 : Int64) + xx)), .second, .unset, .unset] [(.long zz), (.ref b111)]))
    obtain ⟨cq117, kq117, q117a, q117b, q117c⟩ := isOf hZ rfl E115z
    obtain ⟨_, _, ⟨T117, L117, k117, n117⟩, -, X117, ⟨Lc117, hQ117, l117, y117, z117⟩, st117⟩ := X115.virtualBack hx (y := (⟨"com/example/kyu/kyu/PrefetchWindow", "hasRoomFor", "(J)Z"⟩ : MethodName)) (z := (⟨"com/example/kyu/kyu/PrefetchWindow", "hasRoomFor", "(J)Z"⟩ : MethodName)) hown (mvT hZ (hw _ (List.mem_of_getElem? (i := 25) rfl))) (mvT hZ (hw _ (List.mem_of_getElem? (i := 26) rfl))) (notFace_of_selects (args := #[]) (mvT hZ (hw _ (List.mem_of_getElem? (i := 28) rfl)))) (mvT hZ (hw _ (List.mem_of_getElem? (i := 28) rfl))) (mvT hZ (hw _ (List.mem_of_getElem? (i := 27) rfl))) (by decide) (backOf (W := 0) (rmH l Z a0 hw [] b111 zz cl sl (1 : Int32) ((0 : Int64) + xx) T115.heap n0 Z116 E115z F115z_countLimit F115z_sizeLimit F115z_count F115z_size ge_b111) hZ (hw _ (List.mem_of_getElem? (i := 29) rfl)) (hw _ (List.mem_of_getElem? (i := 5) rfl)) (by decide) (by decide)) q117a q117c (g := (mkF m 122 #[.val (.int c0), .val (.long s0), .second, .val (.int k0), .val (.long a1), .second, .val (.long b1), .second, .val (.long z1), .second, .val (.int cl), .val (.long sl), .second, .val (.int (1 : Int32)), .val (.long xx), .second, .val (.long yy), .second, .val (.long zz), .second, .val (.ref b111), .val (.long ((0 : Int64) + xx)), .second, .unset, .unset] [(.long zz), (.ref b111)])) rfl (by rw [hml]; rfl) (Steps.refl _) (argsL := [(.long zz)]) (rest := []) (lenOf pd0_1 rfl) rfl (by show 2 * 0 + _ ≤ _; exact Nat.le_of_eq rfl) (hb hby at_122) (fun _ _ => ⟨rfl, rfl, (by decide : 1 + 0 ≤ _), (by decide : 4 + 0 ≤ _)⟩)
    dsimp only [Pt.U, Pt.locs, Pt.cells, Pt.slots] at X117 l117 y117 z117 st117 hQ117
    subst l117 y117 z117
    obtain ⟨rfl, N117q, eh117⟩ := hQ117
    have N117 := Fr.app N115 N117q
    refine Go.tr st117 ?_
    show Go _ _ _ _ _ _ _ (T117.setTop (mkF m 125 #[.val (.int c0), .val (.long s0), .second, .val (.int k0), .val (.long a1), .second, .val (.long b1), .second, .val (.long z1), .second, .val (.int cl), .val (.long sl), .second, .val (.int (1 : Int32)), .val (.long xx), .second, .val (.long yy), .second, .val (.long zz), .second, .val (.ref b111), .val (.long ((0 : Int64) + xx)), .second, .unset, .unset] [(.int (if own_room zz cl sl (1 : Int32) ((0 : Int64) + xx) then 1 else 0))]))
    refine Go.by (fun _ kont => XS.istore X117.here hx rfl (hb hby at_125) rfl (l' := #[.val (.int c0), .val (.long s0), .second, .val (.int k0), .val (.long a1), .second, .val (.long b1), .second, .val (.long z1), .second, .val (.int cl), .val (.long sl), .second, .val (.int (1 : Int32)), .val (.long xx), .second, .val (.long yy), .second, .val (.long zz), .second, .val (.ref b111), .val (.long ((0 : Int64) + xx)), .second, .val (.int (if own_room zz cl sl (1 : Int32) ((0 : Int64) + xx) then 1 else 0)), .unset]) rfl (XS.iload X117.here hx rfl (hb hby at_127) rfl kont)) ?_
    show Go _ _ _ _ _ _ _ (T117.setTop (mkF m 129 #[.val (.int c0), .val (.long s0), .second, .val (.int k0), .val (.long a1), .second, .val (.long b1), .second, .val (.long z1), .second, .val (.int cl), .val (.long sl), .second, .val (.int (1 : Int32)), .val (.long xx), .second, .val (.long yy), .second, .val (.long zz), .second, .val (.ref b111), .val (.long ((0 : Int64) + xx)), .second, .val (.int (if own_room zz cl sl (1 : Int32) ((0 : Int64) + xx) then 1 else 0)), .unset] [(.int cl)]))
    by_cases hc118 : cl = (0 : Int32)
    · refine Go.by (fun _ kont => XS.ifYes X117.here hx rfl (pc0 := 129) (pc' := 145) rfl (hb hby at_129) rfl ((if0 _ _).trans (teq hc118).1) (by decide) (by decide) kont) ?_
      show Go _ _ _ _ _ _ _ (T117.setTop (mkF m 145 #[.val (.int c0), .val (.long s0), .second, .val (.int k0), .val (.long a1), .second, .val (.long b1), .second, .val (.long z1), .second, .val (.int cl), .val (.long sl), .second, .val (.int (1 : Int32)), .val (.long xx), .second, .val (.long yy), .second, .val (.long zz), .second, .val (.ref b111), .val (.long ((0 : Int64) + xx)), .second, .val (.int (if own_room zz cl sl (1 : Int32) ((0 : Int64) + xx) then 1 else 0)), .unset] []))
      refine Go.by (fun _ kont => XS.iload X117.here hx rfl (hb hby at_145) rfl kont) ?_
      show Go _ _ _ _ _ _ _ (T117.setTop (mkF m 147 #[.val (.int c0), .val (.long s0), .second, .val (.int k0), .val (.long a1), .second, .val (.long b1), .second, .val (.long z1), .second, .val (.int cl), .val (.long sl), .second, .val (.int (1 : Int32)), .val (.long xx), .second, .val (.long yy), .second, .val (.long zz), .second, .val (.ref b111), .val (.long ((0 : Int64) + xx)), .second, .val (.int (if own_room zz cl sl (1 : Int32) ((0 : Int64) + xx) then 1 else 0)), .unset] [(.int (1 : Int32))]))
      refine Go.by (fun _ kont => XS.ifNo X117.here hx rfl (hb hby at_147) rfl (by decide) kont) ?_
      show Go _ _ _ _ _ _ _ (T117.setTop (mkF m 150 #[.val (.int c0), .val (.long s0), .second, .val (.int k0), .val (.long a1), .second, .val (.long b1), .second, .val (.long z1), .second, .val (.int cl), .val (.long sl), .second, .val (.int (1 : Int32)), .val (.long xx), .second, .val (.long yy), .second, .val (.long zz), .second, .val (.ref b111), .val (.long ((0 : Int64) + xx)), .second, .val (.int (if own_room zz cl sl (1 : Int32) ((0 : Int64) + xx) then 1 else 0)), .unset] []))
      refine Go.by (fun _ kont => XS.lload X117.here hx rfl (hb hby at_150) rfl (XS.lconst X117.here hx rfl (hb hby at_152) (XS.lcmp X117.here hx rfl (hb hby at_153) rfl kont))) ?_
      show Go _ _ _ _ _ _ _ (T117.setTop (mkF m 154 #[.val (.int c0), .val (.long s0), .second, .val (.int k0), .val (.long a1), .second, .val (.long b1), .second, .val (.long z1), .second, .val (.int cl), .val (.long sl), .second, .val (.int (1 : Int32)), .val (.long xx), .second, .val (.long yy), .second, .val (.long zz), .second, .val (.ref b111), .val (.long ((0 : Int64) + xx)), .second, .val (.int (if own_room zz cl sl (1 : Int32) ((0 : Int64) + xx) then 1 else 0)), .unset] [(.int (lcmpW sl (0 : Int64)))]))
      by_cases hc119 : sl = (0 : Int64)
      · refine Go.by (fun _ kont => XS.ifNo X117.here hx rfl (hb hby at_154) rfl ((if0 _ _).trans (teq ((lw_eq _ _).mpr hc119)).2) kont) ?_
        show Go _ _ _ _ _ _ _ (T117.setTop (mkF m 157 #[.val (.int c0), .val (.long s0), .second, .val (.int k0), .val (.long a1), .second, .val (.long b1), .second, .val (.long z1), .second, .val (.int cl), .val (.long sl), .second, .val (.int (1 : Int32)), .val (.long xx), .second, .val (.long yy), .second, .val (.long zz), .second, .val (.ref b111), .val (.long ((0 : Int64) + xx)), .second, .val (.int (if own_room zz cl sl (1 : Int32) ((0 : Int64) + xx) then 1 else 0)), .unset] []))
        refine Go.by (fun _ kont => XS.iconst X117.here hx rfl (hb hby at_157) (XS.istore X117.here hx rfl (hb hby at_158) rfl (l' := #[.val (.int c0), .val (.long s0), .second, .val (.int k0), .val (.long a1), .second, .val (.long b1), .second, .val (.long z1), .second, .val (.int cl), .val (.long sl), .second, .val (.int (1 : Int32)), .val (.long xx), .second, .val (.long yy), .second, .val (.long zz), .second, .val (.ref b111), .val (.long ((0 : Int64) + xx)), .second, .val (.int (if own_room zz cl sl (1 : Int32) ((0 : Int64) + xx) then 1 else 0)), .val (.int (1 : Int32))]) rfl (XS.goto X117.here hx rfl (pc0 := 160) (pc' := 181) rfl (hb hby at_160) (by decide) (by decide) (XS.iload X117.here hx rfl (hb hby at_181) rfl (XS.iload X117.here hx rfl (hb hby at_183) rfl kont))))) ?_
        show Go _ _ _ _ _ _ _ (T117.setTop (mkF m 185 #[.val (.int c0), .val (.long s0), .second, .val (.int k0), .val (.long a1), .second, .val (.long b1), .second, .val (.long z1), .second, .val (.int cl), .val (.long sl), .second, .val (.int (1 : Int32)), .val (.long xx), .second, .val (.long yy), .second, .val (.long zz), .second, .val (.ref b111), .val (.long ((0 : Int64) + xx)), .second, .val (.int (if own_room zz cl sl (1 : Int32) ((0 : Int64) + xx) then 1 else 0)), .val (.int (1 : Int32))] [(.int (1 : Int32)), (.int (if own_room zz cl sl (1 : Int32) ((0 : Int64) + xx) then 1 else 0))]))
        have hd120 : (if own_room zz cl sl (1 : Int32) ((0 : Int64) + xx) then 1 else 0) = (1 : Int32) := by simp only [own_room, decide_true, decide_false, Bool.or_true, Bool.true_or, Bool.true_and, Bool.and_true, Bool.false_or, Bool.or_false, decide_eq_true hc118, show decide ((1 : Int32) = 0) = false from by decide, decide_eq_true hc119] <;> rfl
        refine Go.by (fun _ kont => XS.icmpNo X117.here hx rfl (hb hby at_185) rfl (teq hd120).2 kont) ?_
        show Go _ _ _ _ _ _ _ (T117.setTop (mkF m 188 #[.val (.int c0), .val (.long s0), .second, .val (.int k0), .val (.long a1), .second, .val (.long b1), .second, .val (.long z1), .second, .val (.int cl), .val (.long sl), .second, .val (.int (1 : Int32)), .val (.long xx), .second, .val (.long yy), .second, .val (.long zz), .second, .val (.ref b111), .val (.long ((0 : Int64) + xx)), .second, .val (.int (if own_room zz cl sl (1 : Int32) ((0 : Int64) + xx) then 1 else 0)), .val (.int (1 : Int32))] []))
        refine Go.by (fun _ kont => XS.iconst X117.here hx rfl (hb hby at_188) (XS.goto X117.here hx rfl (pc0 := 189) (pc' := 193) rfl (hb hby at_189) (by decide) (by decide) kont)) ?_
        show Go _ _ _ _ _ _ _ (T117.setTop (mkF m 193 #[.val (.int c0), .val (.long s0), .second, .val (.int k0), .val (.long a1), .second, .val (.long b1), .second, .val (.long z1), .second, .val (.int cl), .val (.long sl), .second, .val (.int (1 : Int32)), .val (.long xx), .second, .val (.long yy), .second, .val (.long zz), .second, .val (.ref b111), .val (.long ((0 : Int64) + xx)), .second, .val (.int (if own_room zz cl sl (1 : Int32) ((0 : Int64) + xx) then 1 else 0)), .val (.int (1 : Int32))] [(.int (1 : Int32))]))
        refine Go.retN X117 hx (t := .boolean) hret (by simp) hlk (hb hby at_193) ?_ (by decide) (by decide)
        show Q0 Z h0 n0 (some (.int (1 : Int32))) T117.heap _
        rw [eh117]
        exact ⟨rfl, N117⟩
      · refine Go.by (fun _ kont => XS.ifYes X117.here hx rfl (pc0 := 154) (pc' := 163) rfl (hb hby at_154) rfl ((if0 _ _).trans (feq (fun z => hc119 ((lw_eq _ _).mp z))).2) (by decide) (by decide) kont) ?_
        show Go _ _ _ _ _ _ _ (T117.setTop (mkF m 163 #[.val (.int c0), .val (.long s0), .second, .val (.int k0), .val (.long a1), .second, .val (.long b1), .second, .val (.long z1), .second, .val (.int cl), .val (.long sl), .second, .val (.int (1 : Int32)), .val (.long xx), .second, .val (.long yy), .second, .val (.long zz), .second, .val (.ref b111), .val (.long ((0 : Int64) + xx)), .second, .val (.int (if own_room zz cl sl (1 : Int32) ((0 : Int64) + xx) then 1 else 0)), .unset] []))
        refine Go.by (fun _ kont => XS.lload X117.here hx rfl (hb hby at_163) rfl (XS.lload X117.here hx rfl (hb hby at_165) rfl (XS.lload X117.here hx rfl (hb hby at_167) rfl (XS.lsub X117.here hx rfl (hb hby at_169) rfl (XS.lcmp X117.here hx rfl (hb hby at_170) rfl kont))))) ?_
        show Go _ _ _ _ _ _ _ (T117.setTop (mkF m 171 #[.val (.int c0), .val (.long s0), .second, .val (.int k0), .val (.long a1), .second, .val (.long b1), .second, .val (.long z1), .second, .val (.int cl), .val (.long sl), .second, .val (.int (1 : Int32)), .val (.long xx), .second, .val (.long yy), .second, .val (.long zz), .second, .val (.ref b111), .val (.long ((0 : Int64) + xx)), .second, .val (.int (if own_room zz cl sl (1 : Int32) ((0 : Int64) + xx) then 1 else 0)), .unset] [(.int (lcmpW zz (sl - ((0 : Int64) + xx))))]))
        by_cases hc121 : (sl - ((0 : Int64) + xx)) < zz
        · refine Go.by (fun _ kont => XS.ifYes X117.here hx rfl (pc0 := 171) (pc' := 178) rfl (hb hby at_171) rfl ((if0 _ _).trans (tlt ((lw_gt _ _).mpr hc121)).2.2.1) (by decide) (by decide) kont) ?_
          show Go _ _ _ _ _ _ _ (T117.setTop (mkF m 178 #[.val (.int c0), .val (.long s0), .second, .val (.int k0), .val (.long a1), .second, .val (.long b1), .second, .val (.long z1), .second, .val (.int cl), .val (.long sl), .second, .val (.int (1 : Int32)), .val (.long xx), .second, .val (.long yy), .second, .val (.long zz), .second, .val (.ref b111), .val (.long ((0 : Int64) + xx)), .second, .val (.int (if own_room zz cl sl (1 : Int32) ((0 : Int64) + xx) then 1 else 0)), .unset] []))
          refine Go.by (fun _ kont => XS.iconst X117.here hx rfl (hb hby at_178) (XS.istore X117.here hx rfl (hb hby at_179) rfl (l' := #[.val (.int c0), .val (.long s0), .second, .val (.int k0), .val (.long a1), .second, .val (.long b1), .second, .val (.long z1), .second, .val (.int cl), .val (.long sl), .second, .val (.int (1 : Int32)), .val (.long xx), .second, .val (.long yy), .second, .val (.long zz), .second, .val (.ref b111), .val (.long ((0 : Int64) + xx)), .second, .val (.int (if own_room zz cl sl (1 : Int32) ((0 : Int64) + xx) then 1 else 0)), .val (.int (0 : Int32))]) rfl (XS.iload X117.here hx rfl (hb hby at_181) rfl (XS.iload X117.here hx rfl (hb hby at_183) rfl kont)))) ?_
          show Go _ _ _ _ _ _ _ (T117.setTop (mkF m 185 #[.val (.int c0), .val (.long s0), .second, .val (.int k0), .val (.long a1), .second, .val (.long b1), .second, .val (.long z1), .second, .val (.int cl), .val (.long sl), .second, .val (.int (1 : Int32)), .val (.long xx), .second, .val (.long yy), .second, .val (.long zz), .second, .val (.ref b111), .val (.long ((0 : Int64) + xx)), .second, .val (.int (if own_room zz cl sl (1 : Int32) ((0 : Int64) + xx) then 1 else 0)), .val (.int (0 : Int32))] [(.int (0 : Int32)), (.int (if own_room zz cl sl (1 : Int32) ((0 : Int64) + xx) then 1 else 0))]))
          have t0 : 0 ≤ (0 : Int64).toInt ∧ (0 : Int64).toInt ≤ 0 * 2305843009213693951 := by decide
          have t1 := own_sum (0 : Int64) xx 0 t0 (by decide) Bxx
          have key := own_key ((0 : Int64) + xx) zz sl (by omega) Bzz Bsl
          have hd122 : (if own_room zz cl sl (1 : Int32) ((0 : Int64) + xx) then 1 else 0) = (0 : Int32) := by simp only [own_room, decide_true, decide_false, Bool.or_true, Bool.true_or, Bool.true_and, Bool.and_true, Bool.false_or, Bool.or_false, decide_eq_true hc118, show decide ((1 : Int32) = 0) = false from by decide, decide_eq_false hc119, decide_eq_true (key.mpr hc121)] <;> rfl
          refine Go.by (fun _ kont => XS.icmpNo X117.here hx rfl (hb hby at_185) rfl (teq hd122).2 kont) ?_
          show Go _ _ _ _ _ _ _ (T117.setTop (mkF m 188 #[.val (.int c0), .val (.long s0), .second, .val (.int k0), .val (.long a1), .second, .val (.long b1), .second, .val (.long z1), .second, .val (.int cl), .val (.long sl), .second, .val (.int (1 : Int32)), .val (.long xx), .second, .val (.long yy), .second, .val (.long zz), .second, .val (.ref b111), .val (.long ((0 : Int64) + xx)), .second, .val (.int (if own_room zz cl sl (1 : Int32) ((0 : Int64) + xx) then 1 else 0)), .val (.int (0 : Int32))] []))
          refine Go.by (fun _ kont => XS.iconst X117.here hx rfl (hb hby at_188) (XS.goto X117.here hx rfl (pc0 := 189) (pc' := 193) rfl (hb hby at_189) (by decide) (by decide) kont)) ?_
          show Go _ _ _ _ _ _ _ (T117.setTop (mkF m 193 #[.val (.int c0), .val (.long s0), .second, .val (.int k0), .val (.long a1), .second, .val (.long b1), .second, .val (.long z1), .second, .val (.int cl), .val (.long sl), .second, .val (.int (1 : Int32)), .val (.long xx), .second, .val (.long yy), .second, .val (.long zz), .second, .val (.ref b111), .val (.long ((0 : Int64) + xx)), .second, .val (.int (if own_room zz cl sl (1 : Int32) ((0 : Int64) + xx) then 1 else 0)), .val (.int (0 : Int32))] [(.int (1 : Int32))]))
          refine Go.retN X117 hx (t := .boolean) hret (by simp) hlk (hb hby at_193) ?_ (by decide) (by decide)
          show Q0 Z h0 n0 (some (.int (1 : Int32))) T117.heap _
          rw [eh117]
          exact ⟨rfl, N117⟩
        · refine Go.by (fun _ kont => XS.ifNo X117.here hx rfl (hb hby at_171) rfl ((if0 _ _).trans (flt (fun z => hc121 ((lw_gt _ _).mp z))).2.2.1) kont) ?_
          show Go _ _ _ _ _ _ _ (T117.setTop (mkF m 174 #[.val (.int c0), .val (.long s0), .second, .val (.int k0), .val (.long a1), .second, .val (.long b1), .second, .val (.long z1), .second, .val (.int cl), .val (.long sl), .second, .val (.int (1 : Int32)), .val (.long xx), .second, .val (.long yy), .second, .val (.long zz), .second, .val (.ref b111), .val (.long ((0 : Int64) + xx)), .second, .val (.int (if own_room zz cl sl (1 : Int32) ((0 : Int64) + xx) then 1 else 0)), .unset] []))
          refine Go.by (fun _ kont => XS.iconst X117.here hx rfl (hb hby at_174) (XS.goto X117.here hx rfl (pc0 := 175) (pc' := 179) rfl (hb hby at_175) (by decide) (by decide) (XS.istore X117.here hx rfl (hb hby at_179) rfl (l' := #[.val (.int c0), .val (.long s0), .second, .val (.int k0), .val (.long a1), .second, .val (.long b1), .second, .val (.long z1), .second, .val (.int cl), .val (.long sl), .second, .val (.int (1 : Int32)), .val (.long xx), .second, .val (.long yy), .second, .val (.long zz), .second, .val (.ref b111), .val (.long ((0 : Int64) + xx)), .second, .val (.int (if own_room zz cl sl (1 : Int32) ((0 : Int64) + xx) then 1 else 0)), .val (.int (1 : Int32))]) rfl (XS.iload X117.here hx rfl (hb hby at_181) rfl (XS.iload X117.here hx rfl (hb hby at_183) rfl kont))))) ?_
          show Go _ _ _ _ _ _ _ (T117.setTop (mkF m 185 #[.val (.int c0), .val (.long s0), .second, .val (.int k0), .val (.long a1), .second, .val (.long b1), .second, .val (.long z1), .second, .val (.int cl), .val (.long sl), .second, .val (.int (1 : Int32)), .val (.long xx), .second, .val (.long yy), .second, .val (.long zz), .second, .val (.ref b111), .val (.long ((0 : Int64) + xx)), .second, .val (.int (if own_room zz cl sl (1 : Int32) ((0 : Int64) + xx) then 1 else 0)), .val (.int (1 : Int32))] [(.int (1 : Int32)), (.int (if own_room zz cl sl (1 : Int32) ((0 : Int64) + xx) then 1 else 0))]))
          have t0 : 0 ≤ (0 : Int64).toInt ∧ (0 : Int64).toInt ≤ 0 * 2305843009213693951 := by decide
          have t1 := own_sum (0 : Int64) xx 0 t0 (by decide) Bxx
          have key := own_key ((0 : Int64) + xx) zz sl (by omega) Bzz Bsl
          have hd123 : (if own_room zz cl sl (1 : Int32) ((0 : Int64) + xx) then 1 else 0) = (1 : Int32) := by simp only [own_room, decide_true, decide_false, Bool.or_true, Bool.true_or, Bool.true_and, Bool.and_true, Bool.false_or, Bool.or_false, decide_eq_true hc118, show decide ((1 : Int32) = 0) = false from by decide, decide_eq_false hc119, decide_eq_false (fun z => hc121 (key.mp z))] <;> rfl
          refine Go.by (fun _ kont => XS.icmpNo X117.here hx rfl (hb hby at_185) rfl (teq hd123).2 kont) ?_
          show Go _ _ _ _ _ _ _ (T117.setTop (mkF m 188 #[.val (.int c0), .val (.long s0), .second, .val (.int k0), .val (.long a1), .second, .val (.long b1), .second, .val (.long z1), .second, .val (.int cl), .val (.long sl), .second, .val (.int (1 : Int32)), .val (.long xx), .second, .val (.long yy), .second, .val (.long zz), .second, .val (.ref b111), .val (.long ((0 : Int64) + xx)), .second, .val (.int (if own_room zz cl sl (1 : Int32) ((0 : Int64) + xx) then 1 else 0)), .val (.int (1 : Int32))] []))
          refine Go.by (fun _ kont => XS.iconst X117.here hx rfl (hb hby at_188) (XS.goto X117.here hx rfl (pc0 := 189) (pc' := 193) rfl (hb hby at_189) (by decide) (by decide) kont)) ?_
          show Go _ _ _ _ _ _ _ (T117.setTop (mkF m 193 #[.val (.int c0), .val (.long s0), .second, .val (.int k0), .val (.long a1), .second, .val (.long b1), .second, .val (.long z1), .second, .val (.int cl), .val (.long sl), .second, .val (.int (1 : Int32)), .val (.long xx), .second, .val (.long yy), .second, .val (.long zz), .second, .val (.ref b111), .val (.long ((0 : Int64) + xx)), .second, .val (.int (if own_room zz cl sl (1 : Int32) ((0 : Int64) + xx) then 1 else 0)), .val (.int (1 : Int32))] [(.int (1 : Int32))]))
          refine Go.retN X117 hx (t := .boolean) hret (by simp) hlk (hb hby at_193) ?_ (by decide) (by decide)
          show Q0 Z h0 n0 (some (.int (1 : Int32))) T117.heap _
          rw [eh117]
          exact ⟨rfl, N117⟩
    · refine Go.by (fun _ kont => XS.ifNo X117.here hx rfl (hb hby at_129) rfl ((if0 _ _).trans (feq hc118).1) kont) ?_
      show Go _ _ _ _ _ _ _ (T117.setTop (mkF m 132 #[.val (.int c0), .val (.long s0), .second, .val (.int k0), .val (.long a1), .second, .val (.long b1), .second, .val (.long z1), .second, .val (.int cl), .val (.long sl), .second, .val (.int (1 : Int32)), .val (.long xx), .second, .val (.long yy), .second, .val (.long zz), .second, .val (.ref b111), .val (.long ((0 : Int64) + xx)), .second, .val (.int (if own_room zz cl sl (1 : Int32) ((0 : Int64) + xx) then 1 else 0)), .unset] []))
      refine Go.by (fun _ kont => XS.iload X117.here hx rfl (hb hby at_132) rfl (XS.iload X117.here hx rfl (hb hby at_134) rfl kont)) ?_
      show Go _ _ _ _ _ _ _ (T117.setTop (mkF m 136 #[.val (.int c0), .val (.long s0), .second, .val (.int k0), .val (.long a1), .second, .val (.long b1), .second, .val (.long z1), .second, .val (.int cl), .val (.long sl), .second, .val (.int (1 : Int32)), .val (.long xx), .second, .val (.long yy), .second, .val (.long zz), .second, .val (.ref b111), .val (.long ((0 : Int64) + xx)), .second, .val (.int (if own_room zz cl sl (1 : Int32) ((0 : Int64) + xx) then 1 else 0)), .unset] [(.int cl), (.int (1 : Int32))]))
      by_cases hc124 : (1 : Int32) < cl
      · refine Go.by (fun _ kont => XS.icmpYes X117.here hx rfl (pc0 := 136) (pc' := 145) rfl (hb hby at_136) rfl (tlt hc124).1 (by decide) (by decide) kont) ?_
        show Go _ _ _ _ _ _ _ (T117.setTop (mkF m 145 #[.val (.int c0), .val (.long s0), .second, .val (.int k0), .val (.long a1), .second, .val (.long b1), .second, .val (.long z1), .second, .val (.int cl), .val (.long sl), .second, .val (.int (1 : Int32)), .val (.long xx), .second, .val (.long yy), .second, .val (.long zz), .second, .val (.ref b111), .val (.long ((0 : Int64) + xx)), .second, .val (.int (if own_room zz cl sl (1 : Int32) ((0 : Int64) + xx) then 1 else 0)), .unset] []))
        refine Go.by (fun _ kont => XS.iload X117.here hx rfl (hb hby at_145) rfl kont) ?_
        show Go _ _ _ _ _ _ _ (T117.setTop (mkF m 147 #[.val (.int c0), .val (.long s0), .second, .val (.int k0), .val (.long a1), .second, .val (.long b1), .second, .val (.long z1), .second, .val (.int cl), .val (.long sl), .second, .val (.int (1 : Int32)), .val (.long xx), .second, .val (.long yy), .second, .val (.long zz), .second, .val (.ref b111), .val (.long ((0 : Int64) + xx)), .second, .val (.int (if own_room zz cl sl (1 : Int32) ((0 : Int64) + xx) then 1 else 0)), .unset] [(.int (1 : Int32))]))
        refine Go.by (fun _ kont => XS.ifNo X117.here hx rfl (hb hby at_147) rfl (by decide) kont) ?_
        show Go _ _ _ _ _ _ _ (T117.setTop (mkF m 150 #[.val (.int c0), .val (.long s0), .second, .val (.int k0), .val (.long a1), .second, .val (.long b1), .second, .val (.long z1), .second, .val (.int cl), .val (.long sl), .second, .val (.int (1 : Int32)), .val (.long xx), .second, .val (.long yy), .second, .val (.long zz), .second, .val (.ref b111), .val (.long ((0 : Int64) + xx)), .second, .val (.int (if own_room zz cl sl (1 : Int32) ((0 : Int64) + xx) then 1 else 0)), .unset] []))
        refine Go.by (fun _ kont => XS.lload X117.here hx rfl (hb hby at_150) rfl (XS.lconst X117.here hx rfl (hb hby at_152) (XS.lcmp X117.here hx rfl (hb hby at_153) rfl kont))) ?_
        show Go _ _ _ _ _ _ _ (T117.setTop (mkF m 154 #[.val (.int c0), .val (.long s0), .second, .val (.int k0), .val (.long a1), .second, .val (.long b1), .second, .val (.long z1), .second, .val (.int cl), .val (.long sl), .second, .val (.int (1 : Int32)), .val (.long xx), .second, .val (.long yy), .second, .val (.long zz), .second, .val (.ref b111), .val (.long ((0 : Int64) + xx)), .second, .val (.int (if own_room zz cl sl (1 : Int32) ((0 : Int64) + xx) then 1 else 0)), .unset] [(.int (lcmpW sl (0 : Int64)))]))
        by_cases hc125 : sl = (0 : Int64)
        · refine Go.by (fun _ kont => XS.ifNo X117.here hx rfl (hb hby at_154) rfl ((if0 _ _).trans (teq ((lw_eq _ _).mpr hc125)).2) kont) ?_
          show Go _ _ _ _ _ _ _ (T117.setTop (mkF m 157 #[.val (.int c0), .val (.long s0), .second, .val (.int k0), .val (.long a1), .second, .val (.long b1), .second, .val (.long z1), .second, .val (.int cl), .val (.long sl), .second, .val (.int (1 : Int32)), .val (.long xx), .second, .val (.long yy), .second, .val (.long zz), .second, .val (.ref b111), .val (.long ((0 : Int64) + xx)), .second, .val (.int (if own_room zz cl sl (1 : Int32) ((0 : Int64) + xx) then 1 else 0)), .unset] []))
          refine Go.by (fun _ kont => XS.iconst X117.here hx rfl (hb hby at_157) (XS.istore X117.here hx rfl (hb hby at_158) rfl (l' := #[.val (.int c0), .val (.long s0), .second, .val (.int k0), .val (.long a1), .second, .val (.long b1), .second, .val (.long z1), .second, .val (.int cl), .val (.long sl), .second, .val (.int (1 : Int32)), .val (.long xx), .second, .val (.long yy), .second, .val (.long zz), .second, .val (.ref b111), .val (.long ((0 : Int64) + xx)), .second, .val (.int (if own_room zz cl sl (1 : Int32) ((0 : Int64) + xx) then 1 else 0)), .val (.int (1 : Int32))]) rfl (XS.goto X117.here hx rfl (pc0 := 160) (pc' := 181) rfl (hb hby at_160) (by decide) (by decide) (XS.iload X117.here hx rfl (hb hby at_181) rfl (XS.iload X117.here hx rfl (hb hby at_183) rfl kont))))) ?_
          show Go _ _ _ _ _ _ _ (T117.setTop (mkF m 185 #[.val (.int c0), .val (.long s0), .second, .val (.int k0), .val (.long a1), .second, .val (.long b1), .second, .val (.long z1), .second, .val (.int cl), .val (.long sl), .second, .val (.int (1 : Int32)), .val (.long xx), .second, .val (.long yy), .second, .val (.long zz), .second, .val (.ref b111), .val (.long ((0 : Int64) + xx)), .second, .val (.int (if own_room zz cl sl (1 : Int32) ((0 : Int64) + xx) then 1 else 0)), .val (.int (1 : Int32))] [(.int (1 : Int32)), (.int (if own_room zz cl sl (1 : Int32) ((0 : Int64) + xx) then 1 else 0))]))
          have hd126 : (if own_room zz cl sl (1 : Int32) ((0 : Int64) + xx) then 1 else 0) = (1 : Int32) := by simp only [own_room, decide_true, decide_false, Bool.or_true, Bool.true_or, Bool.true_and, Bool.and_true, Bool.false_or, Bool.or_false, decide_eq_false hc118, decide_eq_true hc124, show decide ((1 : Int32) = 0) = false from by decide, decide_eq_true hc125] <;> rfl
          refine Go.by (fun _ kont => XS.icmpNo X117.here hx rfl (hb hby at_185) rfl (teq hd126).2 kont) ?_
          show Go _ _ _ _ _ _ _ (T117.setTop (mkF m 188 #[.val (.int c0), .val (.long s0), .second, .val (.int k0), .val (.long a1), .second, .val (.long b1), .second, .val (.long z1), .second, .val (.int cl), .val (.long sl), .second, .val (.int (1 : Int32)), .val (.long xx), .second, .val (.long yy), .second, .val (.long zz), .second, .val (.ref b111), .val (.long ((0 : Int64) + xx)), .second, .val (.int (if own_room zz cl sl (1 : Int32) ((0 : Int64) + xx) then 1 else 0)), .val (.int (1 : Int32))] []))
          refine Go.by (fun _ kont => XS.iconst X117.here hx rfl (hb hby at_188) (XS.goto X117.here hx rfl (pc0 := 189) (pc' := 193) rfl (hb hby at_189) (by decide) (by decide) kont)) ?_
          show Go _ _ _ _ _ _ _ (T117.setTop (mkF m 193 #[.val (.int c0), .val (.long s0), .second, .val (.int k0), .val (.long a1), .second, .val (.long b1), .second, .val (.long z1), .second, .val (.int cl), .val (.long sl), .second, .val (.int (1 : Int32)), .val (.long xx), .second, .val (.long yy), .second, .val (.long zz), .second, .val (.ref b111), .val (.long ((0 : Int64) + xx)), .second, .val (.int (if own_room zz cl sl (1 : Int32) ((0 : Int64) + xx) then 1 else 0)), .val (.int (1 : Int32))] [(.int (1 : Int32))]))
          refine Go.retN X117 hx (t := .boolean) hret (by simp) hlk (hb hby at_193) ?_ (by decide) (by decide)
          show Q0 Z h0 n0 (some (.int (1 : Int32))) T117.heap _
          rw [eh117]
          exact ⟨rfl, N117⟩
        · refine Go.by (fun _ kont => XS.ifYes X117.here hx rfl (pc0 := 154) (pc' := 163) rfl (hb hby at_154) rfl ((if0 _ _).trans (feq (fun z => hc125 ((lw_eq _ _).mp z))).2) (by decide) (by decide) kont) ?_
          show Go _ _ _ _ _ _ _ (T117.setTop (mkF m 163 #[.val (.int c0), .val (.long s0), .second, .val (.int k0), .val (.long a1), .second, .val (.long b1), .second, .val (.long z1), .second, .val (.int cl), .val (.long sl), .second, .val (.int (1 : Int32)), .val (.long xx), .second, .val (.long yy), .second, .val (.long zz), .second, .val (.ref b111), .val (.long ((0 : Int64) + xx)), .second, .val (.int (if own_room zz cl sl (1 : Int32) ((0 : Int64) + xx) then 1 else 0)), .unset] []))
          refine Go.by (fun _ kont => XS.lload X117.here hx rfl (hb hby at_163) rfl (XS.lload X117.here hx rfl (hb hby at_165) rfl (XS.lload X117.here hx rfl (hb hby at_167) rfl (XS.lsub X117.here hx rfl (hb hby at_169) rfl (XS.lcmp X117.here hx rfl (hb hby at_170) rfl kont))))) ?_
          show Go _ _ _ _ _ _ _ (T117.setTop (mkF m 171 #[.val (.int c0), .val (.long s0), .second, .val (.int k0), .val (.long a1), .second, .val (.long b1), .second, .val (.long z1), .second, .val (.int cl), .val (.long sl), .second, .val (.int (1 : Int32)), .val (.long xx), .second, .val (.long yy), .second, .val (.long zz), .second, .val (.ref b111), .val (.long ((0 : Int64) + xx)), .second, .val (.int (if own_room zz cl sl (1 : Int32) ((0 : Int64) + xx) then 1 else 0)), .unset] [(.int (lcmpW zz (sl - ((0 : Int64) + xx))))]))
          by_cases hc127 : (sl - ((0 : Int64) + xx)) < zz
          · refine Go.by (fun _ kont => XS.ifYes X117.here hx rfl (pc0 := 171) (pc' := 178) rfl (hb hby at_171) rfl ((if0 _ _).trans (tlt ((lw_gt _ _).mpr hc127)).2.2.1) (by decide) (by decide) kont) ?_
            show Go _ _ _ _ _ _ _ (T117.setTop (mkF m 178 #[.val (.int c0), .val (.long s0), .second, .val (.int k0), .val (.long a1), .second, .val (.long b1), .second, .val (.long z1), .second, .val (.int cl), .val (.long sl), .second, .val (.int (1 : Int32)), .val (.long xx), .second, .val (.long yy), .second, .val (.long zz), .second, .val (.ref b111), .val (.long ((0 : Int64) + xx)), .second, .val (.int (if own_room zz cl sl (1 : Int32) ((0 : Int64) + xx) then 1 else 0)), .unset] []))
            refine Go.by (fun _ kont => XS.iconst X117.here hx rfl (hb hby at_178) (XS.istore X117.here hx rfl (hb hby at_179) rfl (l' := #[.val (.int c0), .val (.long s0), .second, .val (.int k0), .val (.long a1), .second, .val (.long b1), .second, .val (.long z1), .second, .val (.int cl), .val (.long sl), .second, .val (.int (1 : Int32)), .val (.long xx), .second, .val (.long yy), .second, .val (.long zz), .second, .val (.ref b111), .val (.long ((0 : Int64) + xx)), .second, .val (.int (if own_room zz cl sl (1 : Int32) ((0 : Int64) + xx) then 1 else 0)), .val (.int (0 : Int32))]) rfl (XS.iload X117.here hx rfl (hb hby at_181) rfl (XS.iload X117.here hx rfl (hb hby at_183) rfl kont)))) ?_
            show Go _ _ _ _ _ _ _ (T117.setTop (mkF m 185 #[.val (.int c0), .val (.long s0), .second, .val (.int k0), .val (.long a1), .second, .val (.long b1), .second, .val (.long z1), .second, .val (.int cl), .val (.long sl), .second, .val (.int (1 : Int32)), .val (.long xx), .second, .val (.long yy), .second, .val (.long zz), .second, .val (.ref b111), .val (.long ((0 : Int64) + xx)), .second, .val (.int (if own_room zz cl sl (1 : Int32) ((0 : Int64) + xx) then 1 else 0)), .val (.int (0 : Int32))] [(.int (0 : Int32)), (.int (if own_room zz cl sl (1 : Int32) ((0 : Int64) + xx) then 1 else 0))]))
            have t0 : 0 ≤ (0 : Int64).toInt ∧ (0 : Int64).toInt ≤ 0 * 2305843009213693951 := by decide
            have t1 := own_sum (0 : Int64) xx 0 t0 (by decide) Bxx
            have key := own_key ((0 : Int64) + xx) zz sl (by omega) Bzz Bsl
            have hd128 : (if own_room zz cl sl (1 : Int32) ((0 : Int64) + xx) then 1 else 0) = (0 : Int32) := by simp only [own_room, decide_true, decide_false, Bool.or_true, Bool.true_or, Bool.true_and, Bool.and_true, Bool.false_or, Bool.or_false, decide_eq_false hc118, decide_eq_true hc124, show decide ((1 : Int32) = 0) = false from by decide, decide_eq_false hc125, decide_eq_true (key.mpr hc127)] <;> rfl
            refine Go.by (fun _ kont => XS.icmpNo X117.here hx rfl (hb hby at_185) rfl (teq hd128).2 kont) ?_
            show Go _ _ _ _ _ _ _ (T117.setTop (mkF m 188 #[.val (.int c0), .val (.long s0), .second, .val (.int k0), .val (.long a1), .second, .val (.long b1), .second, .val (.long z1), .second, .val (.int cl), .val (.long sl), .second, .val (.int (1 : Int32)), .val (.long xx), .second, .val (.long yy), .second, .val (.long zz), .second, .val (.ref b111), .val (.long ((0 : Int64) + xx)), .second, .val (.int (if own_room zz cl sl (1 : Int32) ((0 : Int64) + xx) then 1 else 0)), .val (.int (0 : Int32))] []))
            refine Go.by (fun _ kont => XS.iconst X117.here hx rfl (hb hby at_188) (XS.goto X117.here hx rfl (pc0 := 189) (pc' := 193) rfl (hb hby at_189) (by decide) (by decide) kont)) ?_
            show Go _ _ _ _ _ _ _ (T117.setTop (mkF m 193 #[.val (.int c0), .val (.long s0), .second, .val (.int k0), .val (.long a1), .second, .val (.long b1), .second, .val (.long z1), .second, .val (.int cl), .val (.long sl), .second, .val (.int (1 : Int32)), .val (.long xx), .second, .val (.long yy), .second, .val (.long zz), .second, .val (.ref b111), .val (.long ((0 : Int64) + xx)), .second, .val (.int (if own_room zz cl sl (1 : Int32) ((0 : Int64) + xx) then 1 else 0)), .val (.int (0 : Int32))] [(.int (1 : Int32))]))
            refine Go.retN X117 hx (t := .boolean) hret (by simp) hlk (hb hby at_193) ?_ (by decide) (by decide)
            show Q0 Z h0 n0 (some (.int (1 : Int32))) T117.heap _
            rw [eh117]
            exact ⟨rfl, N117⟩
          · refine Go.by (fun _ kont => XS.ifNo X117.here hx rfl (hb hby at_171) rfl ((if0 _ _).trans (flt (fun z => hc127 ((lw_gt _ _).mp z))).2.2.1) kont) ?_
            show Go _ _ _ _ _ _ _ (T117.setTop (mkF m 174 #[.val (.int c0), .val (.long s0), .second, .val (.int k0), .val (.long a1), .second, .val (.long b1), .second, .val (.long z1), .second, .val (.int cl), .val (.long sl), .second, .val (.int (1 : Int32)), .val (.long xx), .second, .val (.long yy), .second, .val (.long zz), .second, .val (.ref b111), .val (.long ((0 : Int64) + xx)), .second, .val (.int (if own_room zz cl sl (1 : Int32) ((0 : Int64) + xx) then 1 else 0)), .unset] []))
            refine Go.by (fun _ kont => XS.iconst X117.here hx rfl (hb hby at_174) (XS.goto X117.here hx rfl (pc0 := 175) (pc' := 179) rfl (hb hby at_175) (by decide) (by decide) (XS.istore X117.here hx rfl (hb hby at_179) rfl (l' := #[.val (.int c0), .val (.long s0), .second, .val (.int k0), .val (.long a1), .second, .val (.long b1), .second, .val (.long z1), .second, .val (.int cl), .val (.long sl), .second, .val (.int (1 : Int32)), .val (.long xx), .second, .val (.long yy), .second, .val (.long zz), .second, .val (.ref b111), .val (.long ((0 : Int64) + xx)), .second, .val (.int (if own_room zz cl sl (1 : Int32) ((0 : Int64) + xx) then 1 else 0)), .val (.int (1 : Int32))]) rfl (XS.iload X117.here hx rfl (hb hby at_181) rfl (XS.iload X117.here hx rfl (hb hby at_183) rfl kont))))) ?_
            show Go _ _ _ _ _ _ _ (T117.setTop (mkF m 185 #[.val (.int c0), .val (.long s0), .second, .val (.int k0), .val (.long a1), .second, .val (.long b1), .second, .val (.long z1), .second, .val (.int cl), .val (.long sl), .second, .val (.int (1 : Int32)), .val (.long xx), .second, .val (.long yy), .second, .val (.long zz), .second, .val (.ref b111), .val (.long ((0 : Int64) + xx)), .second, .val (.int (if own_room zz cl sl (1 : Int32) ((0 : Int64) + xx) then 1 else 0)), .val (.int (1 : Int32))] [(.int (1 : Int32)), (.int (if own_room zz cl sl (1 : Int32) ((0 : Int64) + xx) then 1 else 0))]))
            have t0 : 0 ≤ (0 : Int64).toInt ∧ (0 : Int64).toInt ≤ 0 * 2305843009213693951 := by decide
            have t1 := own_sum (0 : Int64) xx 0 t0 (by decide) Bxx
            have key := own_key ((0 : Int64) + xx) zz sl (by omega) Bzz Bsl
            have hd129 : (if own_room zz cl sl (1 : Int32) ((0 : Int64) + xx) then 1 else 0) = (1 : Int32) := by simp only [own_room, decide_true, decide_false, Bool.or_true, Bool.true_or, Bool.true_and, Bool.and_true, Bool.false_or, Bool.or_false, decide_eq_false hc118, decide_eq_true hc124, show decide ((1 : Int32) = 0) = false from by decide, decide_eq_false hc125, decide_eq_false (fun z => hc127 (key.mp z))] <;> rfl
            refine Go.by (fun _ kont => XS.icmpNo X117.here hx rfl (hb hby at_185) rfl (teq hd129).2 kont) ?_
            show Go _ _ _ _ _ _ _ (T117.setTop (mkF m 188 #[.val (.int c0), .val (.long s0), .second, .val (.int k0), .val (.long a1), .second, .val (.long b1), .second, .val (.long z1), .second, .val (.int cl), .val (.long sl), .second, .val (.int (1 : Int32)), .val (.long xx), .second, .val (.long yy), .second, .val (.long zz), .second, .val (.ref b111), .val (.long ((0 : Int64) + xx)), .second, .val (.int (if own_room zz cl sl (1 : Int32) ((0 : Int64) + xx) then 1 else 0)), .val (.int (1 : Int32))] []))
            refine Go.by (fun _ kont => XS.iconst X117.here hx rfl (hb hby at_188) (XS.goto X117.here hx rfl (pc0 := 189) (pc' := 193) rfl (hb hby at_189) (by decide) (by decide) kont)) ?_
            show Go _ _ _ _ _ _ _ (T117.setTop (mkF m 193 #[.val (.int c0), .val (.long s0), .second, .val (.int k0), .val (.long a1), .second, .val (.long b1), .second, .val (.long z1), .second, .val (.int cl), .val (.long sl), .second, .val (.int (1 : Int32)), .val (.long xx), .second, .val (.long yy), .second, .val (.long zz), .second, .val (.ref b111), .val (.long ((0 : Int64) + xx)), .second, .val (.int (if own_room zz cl sl (1 : Int32) ((0 : Int64) + xx) then 1 else 0)), .val (.int (1 : Int32))] [(.int (1 : Int32))]))
            refine Go.retN X117 hx (t := .boolean) hret (by simp) hlk (hb hby at_193) ?_ (by decide) (by decide)
            show Q0 Z h0 n0 (some (.int (1 : Int32))) T117.heap _
            rw [eh117]
            exact ⟨rfl, N117⟩
      · refine Go.by (fun _ kont => XS.icmpNo X117.here hx rfl (hb hby at_136) rfl (flt hc124).1 kont) ?_
        show Go _ _ _ _ _ _ _ (T117.setTop (mkF m 139 #[.val (.int c0), .val (.long s0), .second, .val (.int k0), .val (.long a1), .second, .val (.long b1), .second, .val (.long z1), .second, .val (.int cl), .val (.long sl), .second, .val (.int (1 : Int32)), .val (.long xx), .second, .val (.long yy), .second, .val (.long zz), .second, .val (.ref b111), .val (.long ((0 : Int64) + xx)), .second, .val (.int (if own_room zz cl sl (1 : Int32) ((0 : Int64) + xx) then 1 else 0)), .unset] []))
        refine Go.by (fun _ kont => XS.iconst X117.here hx rfl (hb hby at_139) (XS.istore X117.here hx rfl (hb hby at_140) rfl (l' := #[.val (.int c0), .val (.long s0), .second, .val (.int k0), .val (.long a1), .second, .val (.long b1), .second, .val (.long z1), .second, .val (.int cl), .val (.long sl), .second, .val (.int (1 : Int32)), .val (.long xx), .second, .val (.long yy), .second, .val (.long zz), .second, .val (.ref b111), .val (.long ((0 : Int64) + xx)), .second, .val (.int (if own_room zz cl sl (1 : Int32) ((0 : Int64) + xx) then 1 else 0)), .val (.int (0 : Int32))]) rfl (XS.goto X117.here hx rfl (pc0 := 142) (pc' := 181) rfl (hb hby at_142) (by decide) (by decide) (XS.iload X117.here hx rfl (hb hby at_181) rfl (XS.iload X117.here hx rfl (hb hby at_183) rfl kont))))) ?_
        show Go _ _ _ _ _ _ _ (T117.setTop (mkF m 185 #[.val (.int c0), .val (.long s0), .second, .val (.int k0), .val (.long a1), .second, .val (.long b1), .second, .val (.long z1), .second, .val (.int cl), .val (.long sl), .second, .val (.int (1 : Int32)), .val (.long xx), .second, .val (.long yy), .second, .val (.long zz), .second, .val (.ref b111), .val (.long ((0 : Int64) + xx)), .second, .val (.int (if own_room zz cl sl (1 : Int32) ((0 : Int64) + xx) then 1 else 0)), .val (.int (0 : Int32))] [(.int (0 : Int32)), (.int (if own_room zz cl sl (1 : Int32) ((0 : Int64) + xx) then 1 else 0))]))
        have hd130 : (if own_room zz cl sl (1 : Int32) ((0 : Int64) + xx) then 1 else 0) = (0 : Int32) := by simp only [own_room, decide_true, decide_false, Bool.or_true, Bool.true_or, Bool.true_and, Bool.and_true, Bool.false_or, Bool.or_false, decide_eq_false hc118, decide_eq_false hc124, show decide ((1 : Int32) = 0) = false from by decide] <;> rfl
        refine Go.by (fun _ kont => XS.icmpNo X117.here hx rfl (hb hby at_185) rfl (teq hd130).2 kont) ?_
        show Go _ _ _ _ _ _ _ (T117.setTop (mkF m 188 #[.val (.int c0), .val (.long s0), .second, .val (.int k0), .val (.long a1), .second, .val (.long b1), .second, .val (.long z1), .second, .val (.int cl), .val (.long sl), .second, .val (.int (1 : Int32)), .val (.long xx), .second, .val (.long yy), .second, .val (.long zz), .second, .val (.ref b111), .val (.long ((0 : Int64) + xx)), .second, .val (.int (if own_room zz cl sl (1 : Int32) ((0 : Int64) + xx) then 1 else 0)), .val (.int (0 : Int32))] []))
        refine Go.by (fun _ kont => XS.iconst X117.here hx rfl (hb hby at_188) (XS.goto X117.here hx rfl (pc0 := 189) (pc' := 193) rfl (hb hby at_189) (by decide) (by decide) kont)) ?_
        show Go _ _ _ _ _ _ _ (T117.setTop (mkF m 193 #[.val (.int c0), .val (.long s0), .second, .val (.int k0), .val (.long a1), .second, .val (.long b1), .second, .val (.long z1), .second, .val (.int cl), .val (.long sl), .second, .val (.int (1 : Int32)), .val (.long xx), .second, .val (.long yy), .second, .val (.long zz), .second, .val (.ref b111), .val (.long ((0 : Int64) + xx)), .second, .val (.int (if own_room zz cl sl (1 : Int32) ((0 : Int64) + xx) then 1 else 0)), .val (.int (0 : Int32))] [(.int (1 : Int32))]))
        refine Go.retN X117 hx (t := .boolean) hret (by simp) hlk (hb hby at_193) ?_ (by decide) (by decide)
        show Q0 Z h0 n0 (some (.int (1 : Int32))) T117.heap _
        rw [eh117]
        exact ⟨rfl, N117⟩
  · show Go _ _ _ _ _ _ _ (s₁.setTop (mkF m 42 #[.val (.int c0), .val (.long s0), .second, .val (.int k0), .val (.long a1), .second, .val (.long b1), .second, .val (.long z1), .second, .val (.int cl), .val (.long sl), .second, .val (.int (2 : Int32)), .val (.long xx), .second, .val (.long yy), .second, .val (.long zz), .second, .unset, .unset, .unset, .unset, .unset] []))
    obtain ⟨T131, h131, X131, e131, X_131, A131, D131, -, st131⟩ := newO X0 hx hZ hown (hw _ (List.mem_of_getElem? (i := 3) rfl)) (hw _ (List.mem_of_getElem? (i := 4) rfl)) (hw _ (List.mem_of_getElem? (i := 5) rfl)) e0 (g := (mkF m 42 #[.val (.int c0), .val (.long s0), .second, .val (.int k0), .val (.long a1), .second, .val (.long b1), .second, .val (.long z1), .second, .val (.int cl), .val (.long sl), .second, .val (.int (2 : Int32)), .val (.long xx), .second, .val (.long yy), .second, .val (.long zz), .second, .unset, .unset, .unset, .unset, .unset] [])) rfl (hb hby at_42) (by decide) (by decide)
    obtain ⟨b131, g131⟩ : ∃ z, z = h0.size := ⟨_, rfl⟩
    rw [← g131] at A131 D131 st131
    have ge_b131 : n0 ≤ b131 := Nat.le_trans Z0 (Nat.le_of_eq g131.symm)
    have sz_b131 : h0.size ≤ b131 := Nat.le_trans (Keep.refl h0 []).1 (Nat.le_of_eq g131.symm)
    have Z132 := Nat.le_trans Z0 X_131.1
    have K132 : Keep h0 h131 [] := (Keep.refl h0 []).ext X_131
    have F131_countLimit : Fld Z h131 b131 "com/example/kyu/kyu/PrefetchWindow" "countLimit" "I" (.int (0 : Int32)) := D131 (Or.inl (hw _ (List.mem_of_getElem? (i := 13) rfl))) (ty := .int) (by decide)
    have F131_sizeLimit : Fld Z h131 b131 "com/example/kyu/kyu/PrefetchWindow" "sizeLimit" "J" (.long (0 : Int64)) := D131 (Or.inl (hw _ (List.mem_of_getElem? (i := 15) rfl))) (ty := .long) (by decide)
    have F131_count : Fld Z h131 b131 "com/example/kyu/kyu/PrefetchWindow" "count" "I" (.int (0 : Int32)) := D131 (Or.inl (hw _ (List.mem_of_getElem? (i := 22) rfl))) (ty := .int) (by decide)
    have F131_size : Fld Z h131 b131 "com/example/kyu/kyu/PrefetchWindow" "size" "J" (.long (0 : Int64)) := D131 (Or.inl (hw _ (List.mem_of_getElem? (i := 24) rfl))) (ty := .long) (by decide)
    refine Go.by st131 ?_
    show Go _ _ _ _ _ _ _ (T131.setTop (mkF m 45 #[.val (.int c0), .val (.long s0), .second, .val (.int k0), .val (.long a1), .second, .val (.long b1), .second, .val (.long z1), .second, .val (.int cl), .val (.long sl), .second, .val (.int (2 : Int32)), .val (.long xx), .second, .val (.long yy), .second, .val (.long zz), .second, .unset, .unset, .unset, .unset, .unset] [(.ref b131)]))
    refine Go.by (fun _ kont => XS.dup X131.here hx rfl (hb hby at_45) rfl rfl (XS.iload X131.here hx rfl (hb hby at_46) rfl (XS.lload X131.here hx rfl (hb hby at_48) rfl kont))) ?_
    show Go _ _ _ _ _ _ _ (T131.setTop (mkF m 50 #[.val (.int c0), .val (.long s0), .second, .val (.int k0), .val (.long a1), .second, .val (.long b1), .second, .val (.long z1), .second, .val (.int cl), .val (.long sl), .second, .val (.int (2 : Int32)), .val (.long xx), .second, .val (.long yy), .second, .val (.long zz), .second, .unset, .unset, .unset, .unset, .unset] [(.long sl), (.int cl), (.ref b131), (.ref b131)]))
    obtain ⟨_, _, ⟨T133, L133, k133, n133⟩, -, X133, ⟨Lc133, hQ133, l133, y133, z133⟩, st133⟩ := X131.specialBack hx (y := (⟨"com/example/kyu/kyu/PrefetchWindow", "<init>", "(IJ)V"⟩ : MethodName)) rfl hown (mvT hZ (hw _ (List.mem_of_getElem? (i := 6) rfl))) (mvT hZ (hw _ (List.mem_of_getElem? (i := 7) rfl))) (mvT hZ (hw _ (List.mem_of_getElem? (i := 8) rfl))) (by decide) (backOf (W := 1) (rmI l Z a0 hw [] b131 cl sl h131 n0 Z132 A131 F131_countLimit F131_sizeLimit F131_count F131_size ge_b131) hZ (hw _ (List.mem_of_getElem? (i := 8) rfl)) (hw _ (List.mem_of_getElem? (i := 5) rfl)) (by decide) (by decide)) (g := (mkF m 50 #[.val (.int c0), .val (.long s0), .second, .val (.int k0), .val (.long a1), .second, .val (.long b1), .second, .val (.long z1), .second, .val (.int cl), .val (.long sl), .second, .val (.int (2 : Int32)), .val (.long xx), .second, .val (.long yy), .second, .val (.long zz), .second, .unset, .unset, .unset, .unset, .unset] [(.long sl), (.int cl), (.ref b131), (.ref b131)])) rfl (by rw [hml]; rfl) (Steps.refl _) (a := b131) (argsL := [(.int cl), (.long sl)]) (rest := [(.ref b131)]) (lenOf pd0_0 rfl) rfl (by show 2 * 0 + _ ≤ _; exact Nat.le_of_eq rfl) (hb hby at_50) (fun _ _ => ⟨rfl, e131, (by decide : 1 + 0 ≤ _), (by decide : 4 + 0 ≤ _)⟩)
    dsimp only [Pt.U, Pt.locs, Pt.cells, Pt.slots] at X133 l133 y133 z133 st133 hQ133
    subst l133 y133 z133
    obtain ⟨rfl, N133q, K133, E133z, F133z_countLimit, F133z_sizeLimit, F133z_count, F133z_size⟩ := hQ133
    have E134_b131 := A131.keep K133
    have Z134 := Nat.le_trans Z132 K133.1
    have K134 : Keep h0 T133.heap [] := Keep.trans K132 K133 (allS (Or.inr sz_b131) all0)
    have N133 := Fr.app N0 N133q
    refine Go.tr st133 ?_
    show Go _ _ _ _ _ _ _ (T133.setTop (mkF m 53 #[.val (.int c0), .val (.long s0), .second, .val (.int k0), .val (.long a1), .second, .val (.long b1), .second, .val (.long z1), .second, .val (.int cl), .val (.long sl), .second, .val (.int (2 : Int32)), .val (.long xx), .second, .val (.long yy), .second, .val (.long zz), .second, .unset, .unset, .unset, .unset, .unset] [(.ref b131)]))
    refine Go.by (fun _ kont => XS.astore X133.here hx rfl (hb hby at_53) rfl rfl (l' := #[.val (.int c0), .val (.long s0), .second, .val (.int k0), .val (.long a1), .second, .val (.long b1), .second, .val (.long z1), .second, .val (.int cl), .val (.long sl), .second, .val (.int (2 : Int32)), .val (.long xx), .second, .val (.long yy), .second, .val (.long zz), .second, .val (.ref b131), .unset, .unset, .unset, .unset]) rfl (XS.lconst X133.here hx rfl (hb hby at_55) (XS.lstore X133.here hx rfl (hb hby at_56) rfl (l' := #[.val (.int c0), .val (.long s0), .second, .val (.int k0), .val (.long a1), .second, .val (.long b1), .second, .val (.long z1), .second, .val (.int cl), .val (.long sl), .second, .val (.int (2 : Int32)), .val (.long xx), .second, .val (.long yy), .second, .val (.long zz), .second, .val (.ref b131), .val (.long (0 : Int64)), .second, .unset, .unset]) rfl (XS.iload X133.here hx rfl (hb hby at_58) rfl (XS.iconst X133.here hx rfl (hb hby at_60) kont))))) ?_
    show Go _ _ _ _ _ _ _ (T133.setTop (mkF m 61 #[.val (.int c0), .val (.long s0), .second, .val (.int k0), .val (.long a1), .second, .val (.long b1), .second, .val (.long z1), .second, .val (.int cl), .val (.long sl), .second, .val (.int (2 : Int32)), .val (.long xx), .second, .val (.long yy), .second, .val (.long zz), .second, .val (.ref b131), .val (.long (0 : Int64)), .second, .unset, .unset] [(.int (1 : Int32)), (.int (2 : Int32))]))
    refine Go.by (fun _ kont => XS.icmpNo X133.here hx rfl (hb hby at_61) rfl (by decide) kont) ?_
    show Go _ _ _ _ _ _ _ (T133.setTop (mkF m 64 #[.val (.int c0), .val (.long s0), .second, .val (.int k0), .val (.long a1), .second, .val (.long b1), .second, .val (.long z1), .second, .val (.int cl), .val (.long sl), .second, .val (.int (2 : Int32)), .val (.long xx), .second, .val (.long yy), .second, .val (.long zz), .second, .val (.ref b131), .val (.long (0 : Int64)), .second, .unset, .unset] []))
    refine Go.by (fun _ kont => XS.aload X133.here hx rfl (hb hby at_64) rfl rfl (XS.lload X133.here hx rfl (hb hby at_66) rfl kont)) ?_
    show Go _ _ _ _ _ _ _ (T133.setTop (mkF m 68 #[.val (.int c0), .val (.long s0), .second, .val (.int k0), .val (.long a1), .second, .val (.long b1), .second, .val (.long z1), .second, .val (.int cl), .val (.long sl), .second, .val (.int (2 : Int32)), .val (.long xx), .second, .val (.long yy), .second, .val (.long zz), .second, .val (.ref b131), .val (.long (0 : Int64)), .second, .unset, .unset] [(.long xx), (.ref b131)]))
    obtain ⟨cq135, kq135, q135a, q135b, q135c⟩ := isOf hZ rfl E133z
    obtain ⟨_, _, ⟨T135, L135, k135, n135⟩, -, X135, ⟨Lc135, hQ135, l135, y135, z135⟩, st135⟩ := X133.virtualBack hx (y := (⟨"com/example/kyu/kyu/PrefetchWindow", "add", "(J)V"⟩ : MethodName)) (z := (⟨"com/example/kyu/kyu/PrefetchWindow", "add", "(J)V"⟩ : MethodName)) hown (mvT hZ (hw _ (List.mem_of_getElem? (i := 16) rfl))) (mvT hZ (hw _ (List.mem_of_getElem? (i := 17) rfl))) (notFace_of_selects (args := #[]) (mvT hZ (hw _ (List.mem_of_getElem? (i := 19) rfl)))) (mvT hZ (hw _ (List.mem_of_getElem? (i := 19) rfl))) (mvT hZ (hw _ (List.mem_of_getElem? (i := 18) rfl))) (by decide) (backOf (W := 0) (rmA l Z a0 hw [] b131 xx cl sl (0 : Int32) (0 : Int64) T133.heap n0 Z134 E133z F133z_countLimit F133z_sizeLimit F133z_count F133z_size ge_b131) hZ (hw _ (List.mem_of_getElem? (i := 20) rfl)) (hw _ (List.mem_of_getElem? (i := 5) rfl)) (by decide) (by decide)) q135a q135c (g := (mkF m 68 #[.val (.int c0), .val (.long s0), .second, .val (.int k0), .val (.long a1), .second, .val (.long b1), .second, .val (.long z1), .second, .val (.int cl), .val (.long sl), .second, .val (.int (2 : Int32)), .val (.long xx), .second, .val (.long yy), .second, .val (.long zz), .second, .val (.ref b131), .val (.long (0 : Int64)), .second, .unset, .unset] [(.long xx), (.ref b131)])) rfl (by rw [hml]; rfl) (Steps.refl _) (argsL := [(.long xx)]) (rest := []) (lenOf pd0_2 rfl) rfl (by show 2 * 0 + _ ≤ _; exact Nat.le_of_eq rfl) (hb hby at_68) (fun _ _ => ⟨rfl, rfl, (by decide : 1 + 0 ≤ _), (by decide : 4 + 0 ≤ _)⟩)
    dsimp only [Pt.U, Pt.locs, Pt.cells, Pt.slots] at X135 l135 y135 z135 st135 hQ135
    subst l135 y135 z135
    obtain ⟨rfl, N135q, K135, E135z, F135z_countLimit, F135z_sizeLimit, F135z_count, F135z_size⟩ := hQ135
    have E136_b131 := E133z.keep K135
    have Z136 := Nat.le_trans Z134 K135.1
    have K136 : Keep h0 T135.heap [] := Keep.trans K134 K135 (allS (Or.inr sz_b131) all0)
    rw [show (0 : Int32) + 1 = (1 : Int32) from by decide] at F135z_count
    have N135 := Fr.app N133 N135q
    refine Go.tr st135 ?_
    show Go _ _ _ _ _ _ _ (T135.setTop (mkF m 71 #[.val (.int c0), .val (.long s0), .second, .val (.int k0), .val (.long a1), .second, .val (.long b1), .second, .val (.long z1), .second, .val (.int cl), .val (.long sl), .second, .val (.int (2 : Int32)), .val (.long xx), .second, .val (.long yy), .second, .val (.long zz), .second, .val (.ref b131), .val (.long (0 : Int64)), .second, .unset, .unset] []))
    refine Go.by (fun _ kont => XS.lload X135.here hx rfl (hb hby at_71) rfl (XS.lload X135.here hx rfl (hb hby at_73) rfl (XS.ladd X135.here hx rfl (hb hby at_75) rfl (XS.lstore X135.here hx rfl (hb hby at_76) rfl (l' := #[.val (.int c0), .val (.long s0), .second, .val (.int k0), .val (.long a1), .second, .val (.long b1), .second, .val (.long z1), .second, .val (.int cl), .val (.long sl), .second, .val (.int (2 : Int32)), .val (.long xx), .second, .val (.long yy), .second, .val (.long zz), .second, .val (.ref b131), .val (.long ((0 : Int64) + xx)), .second, .unset, .unset]) rfl (XS.iload X135.here hx rfl (hb hby at_78) rfl (XS.iconst X135.here hx rfl (hb hby at_80) kont)))))) ?_
    show Go _ _ _ _ _ _ _ (T135.setTop (mkF m 81 #[.val (.int c0), .val (.long s0), .second, .val (.int k0), .val (.long a1), .second, .val (.long b1), .second, .val (.long z1), .second, .val (.int cl), .val (.long sl), .second, .val (.int (2 : Int32)), .val (.long xx), .second, .val (.long yy), .second, .val (.long zz), .second, .val (.ref b131), .val (.long ((0 : Int64) + xx)), .second, .unset, .unset] [(.int (2 : Int32)), (.int (2 : Int32))]))
    refine Go.by (fun _ kont => XS.icmpNo X135.here hx rfl (hb hby at_81) rfl (by decide) kont) ?_
    show Go _ _ _ _ _ _ _ (T135.setTop (mkF m 84 #[.val (.int c0), .val (.long s0), .second, .val (.int k0), .val (.long a1), .second, .val (.long b1), .second, .val (.long z1), .second, .val (.int cl), .val (.long sl), .second, .val (.int (2 : Int32)), .val (.long xx), .second, .val (.long yy), .second, .val (.long zz), .second, .val (.ref b131), .val (.long ((0 : Int64) + xx)), .second, .unset, .unset] []))
    refine Go.by (fun _ kont => XS.aload X135.here hx rfl (hb hby at_84) rfl rfl (XS.lload X135.here hx rfl (hb hby at_86) rfl kont)) ?_
    show Go _ _ _ _ _ _ _ (T135.setTop (mkF m 88 #[.val (.int c0), .val (.long s0), .second, .val (.int k0), .val (.long a1), .second, .val (.long b1), .second, .val (.long z1), .second, .val (.int cl), .val (.long sl), .second, .val (.int (2 : Int32)), .val (.long xx), .second, .val (.long yy), .second, .val (.long zz), .second, .val (.ref b131), .val (.long ((0 : Int64) + xx)), .second, .unset, .unset] [(.long yy), (.ref b131)]))
    obtain ⟨cq137, kq137, q137a, q137b, q137c⟩ := isOf hZ rfl E135z
    obtain ⟨_, _, ⟨T137, L137, k137, n137⟩, -, X137, ⟨Lc137, hQ137, l137, y137, z137⟩, st137⟩ := X135.virtualBack hx (y := (⟨"com/example/kyu/kyu/PrefetchWindow", "add", "(J)V"⟩ : MethodName)) (z := (⟨"com/example/kyu/kyu/PrefetchWindow", "add", "(J)V"⟩ : MethodName)) hown (mvT hZ (hw _ (List.mem_of_getElem? (i := 16) rfl))) (mvT hZ (hw _ (List.mem_of_getElem? (i := 17) rfl))) (notFace_of_selects (args := #[]) (mvT hZ (hw _ (List.mem_of_getElem? (i := 19) rfl)))) (mvT hZ (hw _ (List.mem_of_getElem? (i := 19) rfl))) (mvT hZ (hw _ (List.mem_of_getElem? (i := 18) rfl))) (by decide) (backOf (W := 0) (rmA l Z a0 hw [] b131 yy cl sl (1 : Int32) ((0 : Int64) + xx) T135.heap n0 Z136 E135z F135z_countLimit F135z_sizeLimit F135z_count F135z_size ge_b131) hZ (hw _ (List.mem_of_getElem? (i := 20) rfl)) (hw _ (List.mem_of_getElem? (i := 5) rfl)) (by decide) (by decide)) q137a q137c (g := (mkF m 88 #[.val (.int c0), .val (.long s0), .second, .val (.int k0), .val (.long a1), .second, .val (.long b1), .second, .val (.long z1), .second, .val (.int cl), .val (.long sl), .second, .val (.int (2 : Int32)), .val (.long xx), .second, .val (.long yy), .second, .val (.long zz), .second, .val (.ref b131), .val (.long ((0 : Int64) + xx)), .second, .unset, .unset] [(.long yy), (.ref b131)])) rfl (by rw [hml]; rfl) (Steps.refl _) (argsL := [(.long yy)]) (rest := []) (lenOf pd0_2 rfl) rfl (by show 2 * 0 + _ ≤ _; exact Nat.le_of_eq rfl) (hb hby at_88) (fun _ _ => ⟨rfl, rfl, (by decide : 1 + 0 ≤ _), (by decide : 4 + 0 ≤ _)⟩)
    dsimp only [Pt.U, Pt.locs, Pt.cells, Pt.slots] at X137 l137 y137 z137 st137 hQ137
    subst l137 y137 z137
    obtain ⟨rfl, N137q, K137, E137z, F137z_countLimit, F137z_sizeLimit, F137z_count, F137z_size⟩ := hQ137
    have E138_b131 := E135z.keep K137
    have Z138 := Nat.le_trans Z136 K137.1
    have K138 : Keep h0 T137.heap [] := Keep.trans K136 K137 (allS (Or.inr sz_b131) all0)
    rw [show (1 : Int32) + 1 = (2 : Int32) from by decide] at F137z_count
    have N137 := Fr.app N135 N137q
    refine Go.tr st137 ?_
    show Go _ _ _ _ _ _ _ (T137.setTop (mkF m 91 #[.val (.int c0), .val (.long s0), .second, .val (.int k0), .val (.long a1), .second, .val (.long b1), .second, .val (.long z1), .second, .val (.int cl), .val (.long sl), .second, .val (.int (2 : Int32)), .val (.long xx), .second, .val (.long yy), .second, .val (.long zz), .second, .val (.ref b131), .val (.long ((0 : Int64) + xx)), .second, .unset, .unset] []))
    refine Go.by (fun _ kont => XS.lload X137.here hx rfl (hb hby at_91) rfl (XS.lload X137.here hx rfl (hb hby at_93) rfl (XS.ladd X137.here hx rfl (hb hby at_95) rfl (XS.lstore X137.here hx rfl (hb hby at_96) rfl (l' := #[.val (.int c0), .val (.long s0), .second, .val (.int k0), .val (.long a1), .second, .val (.long b1), .second, .val (.long z1), .second, .val (.int cl), .val (.long sl), .second, .val (.int (2 : Int32)), .val (.long xx), .second, .val (.long yy), .second, .val (.long zz), .second, .val (.ref b131), .val (.long (((0 : Int64) + xx) + yy)), .second, .unset, .unset]) rfl (XS.iload X137.here hx rfl (hb hby at_98) rfl (XS.iconst X137.here hx rfl (hb hby at_100) kont)))))) ?_
    show Go _ _ _ _ _ _ _ (T137.setTop (mkF m 101 #[.val (.int c0), .val (.long s0), .second, .val (.int k0), .val (.long a1), .second, .val (.long b1), .second, .val (.long z1), .second, .val (.int cl), .val (.long sl), .second, .val (.int (2 : Int32)), .val (.long xx), .second, .val (.long yy), .second, .val (.long zz), .second, .val (.ref b131), .val (.long (((0 : Int64) + xx) + yy)), .second, .unset, .unset] [(.int (3 : Int32)), (.int (2 : Int32))]))
    refine Go.by (fun _ kont => XS.icmpYes X137.here hx rfl (pc0 := 101) (pc' := 118) rfl (hb hby at_101) rfl (by decide) (by decide) (by decide) kont) ?_
    show Go _ _ _ _ _ _ _ (T137.setTop (mkF m 118 #[.val (.int c0), .val (.long s0), .second, .val (.int k0), .val (.long a1), .second, .val (.long b1), .second, .val (.long z1), .second, .val (.int cl), .val (.long sl), .second, .val (.int (2 : Int32)), .val (.long xx), .second, .val (.long yy), .second, .val (.long zz), .second, .val (.ref b131), .val (.long (((0 : Int64) + xx) + yy)), .second, .unset, .unset] []))
    refine Go.by (fun _ kont => XS.aload X137.here hx rfl (hb hby at_118) rfl rfl (XS.lload X137.here hx rfl (hb hby at_120) rfl kont)) ?_
    show Go _ _ _ _ _ _ _ (T137.setTop (mkF m 122 #[.val (.int c0), .val (.long s0), .second, .val (.int k0), .val (.long a1), .second, .val (.long b1), .second, .val (.long z1), .second, .val (.int cl), .val (.long sl), .second, .val (.int (2 : Int32)), .val (.long xx), .second, .val (.long yy), .second, .val (.long zz), .second, .val (.ref b131), .val (.long (((0 : Int64) + xx) + yy)), .second, .unset, .unset] [(.long zz), (.ref b131)]))
    obtain ⟨cq139, kq139, q139a, q139b, q139c⟩ := isOf hZ rfl E137z
    obtain ⟨_, _, ⟨T139, L139, k139, n139⟩, -, X139, ⟨Lc139, hQ139, l139, y139, z139⟩, st139⟩ := X137.virtualBack hx (y := (⟨"com/example/kyu/kyu/PrefetchWindow", "hasRoomFor", "(J)Z"⟩ : MethodName)) (z := (⟨"com/example/kyu/kyu/PrefetchWindow", "hasRoomFor", "(J)Z"⟩ : MethodName)) hown (mvT hZ (hw _ (List.mem_of_getElem? (i := 25) rfl))) (mvT hZ (hw _ (List.mem_of_getElem? (i := 26) rfl))) (notFace_of_selects (args := #[]) (mvT hZ (hw _ (List.mem_of_getElem? (i := 28) rfl)))) (mvT hZ (hw _ (List.mem_of_getElem? (i := 28) rfl))) (mvT hZ (hw _ (List.mem_of_getElem? (i := 27) rfl))) (by decide) (backOf (W := 0) (rmH l Z a0 hw [] b131 zz cl sl (2 : Int32) (((0 : Int64) + xx) + yy) T137.heap n0 Z138 E137z F137z_countLimit F137z_sizeLimit F137z_count F137z_size ge_b131) hZ (hw _ (List.mem_of_getElem? (i := 29) rfl)) (hw _ (List.mem_of_getElem? (i := 5) rfl)) (by decide) (by decide)) q139a q139c (g := (mkF m 122 #[.val (.int c0), .val (.long s0), .second, .val (.int k0), .val (.long a1), .second, .val (.long b1), .second, .val (.long z1), .second, .val (.int cl), .val (.long sl), .second, .val (.int (2 : Int32)), .val (.long xx), .second, .val (.long yy), .second, .val (.long zz), .second, .val (.ref b131), .val (.long (((0 : Int64) + xx) + yy)), .second, .unset, .unset] [(.long zz), (.ref b131)])) rfl (by rw [hml]; rfl) (Steps.refl _) (argsL := [(.long zz)]) (rest := []) (lenOf pd0_1 rfl) rfl (by show 2 * 0 + _ ≤ _; exact Nat.le_of_eq rfl) (hb hby at_122) (fun _ _ => ⟨rfl, rfl, (by decide : 1 + 0 ≤ _), (by decide : 4 + 0 ≤ _)⟩)
    dsimp only [Pt.U, Pt.locs, Pt.cells, Pt.slots] at X139 l139 y139 z139 st139 hQ139
    subst l139 y139 z139
    obtain ⟨rfl, N139q, eh139⟩ := hQ139
    have N139 := Fr.app N137 N139q
    refine Go.tr st139 ?_
    show Go _ _ _ _ _ _ _ (T139.setTop (mkF m 125 #[.val (.int c0), .val (.long s0), .second, .val (.int k0), .val (.long a1), .second, .val (.long b1), .second, .val (.long z1), .second, .val (.int cl), .val (.long sl), .second, .val (.int (2 : Int32)), .val (.long xx), .second, .val (.long yy), .second, .val (.long zz), .second, .val (.ref b131), .val (.long (((0 : Int64) + xx) + yy)), .second, .unset, .unset] [(.int (if own_room zz cl sl (2 : Int32) (((0 : Int64) + xx) + yy) then 1 else 0))]))
    refine Go.by (fun _ kont => XS.istore X139.here hx rfl (hb hby at_125) rfl (l' := #[.val (.int c0), .val (.long s0), .second, .val (.int k0), .val (.long a1), .second, .val (.long b1), .second, .val (.long z1), .second, .val (.int cl), .val (.long sl), .second, .val (.int (2 : Int32)), .val (.long xx), .second, .val (.long yy), .second, .val (.long zz), .second, .val (.ref b131), .val (.long (((0 : Int64) + xx) + yy)), .second, .val (.int (if own_room zz cl sl (2 : Int32) (((0 : Int64) + xx) + yy) then 1 else 0)), .unset]) rfl (XS.iload X139.here hx rfl (hb hby at_127) rfl kont)) ?_
    show Go _ _ _ _ _ _ _ (T139.setTop (mkF m 129 #[.val (.int c0), .val (.long s0), .second, .val (.int k0), .val (.long a1), .second, .val (.long b1), .second, .val (.long z1), .second, .val (.int cl), .val (.long sl), .second, .val (.int (2 : Int32)), .val (.long xx), .second, .val (.long yy), .second, .val (.long zz), .second, .val (.ref b131), .val (.long (((0 : Int64) + xx) + yy)), .second, .val (.int (if own_room zz cl sl (2 : Int32) (((0 : Int64) + xx) + yy) then 1 else 0)), .unset] [(.int cl)]))
    by_cases hc140 : cl = (0 : Int32)
    · refine Go.by (fun _ kont => XS.ifYes X139.here hx rfl (pc0 := 129) (pc' := 145) rfl (hb hby at_129) rfl ((if0 _ _).trans (teq hc140).1) (by decide) (by decide) kont) ?_
      show Go _ _ _ _ _ _ _ (T139.setTop (mkF m 145 #[.val (.int c0), .val (.long s0), .second, .val (.int k0), .val (.long a1), .second, .val (.long b1), .second, .val (.long z1), .second, .val (.int cl), .val (.long sl), .second, .val (.int (2 : Int32)), .val (.long xx), .second, .val (.long yy), .second, .val (.long zz), .second, .val (.ref b131), .val (.long (((0 : Int64) + xx) + yy)), .second, .val (.int (if own_room zz cl sl (2 : Int32) (((0 : Int64) + xx) + yy) then 1 else 0)), .unset] []))
      refine Go.by (fun _ kont => XS.iload X139.here hx rfl (hb hby at_145) rfl kont) ?_
      show Go _ _ _ _ _ _ _ (T139.setTop (mkF m 147 #[.val (.int c0), .val (.long s0), .second, .val (.int k0), .val (.long a1), .second, .val (.long b1), .second, .val (.long z1), .second, .val (.int cl), .val (.long sl), .second, .val (.int (2 : Int32)), .val (.long xx), .second, .val (.long yy), .second, .val (.long zz), .second, .val (.ref b131), .val (.long (((0 : Int64) + xx) + yy)), .second, .val (.int (if own_room zz cl sl (2 : Int32) (((0 : Int64) + xx) + yy) then 1 else 0)), .unset] [(.int (2 : Int32))]))
      refine Go.by (fun _ kont => XS.ifNo X139.here hx rfl (hb hby at_147) rfl (by decide) kont) ?_
      show Go _ _ _ _ _ _ _ (T139.setTop (mkF m 150 #[.val (.int c0), .val (.long s0), .second, .val (.int k0), .val (.long a1), .second, .val (.long b1), .second, .val (.long z1), .second, .val (.int cl), .val (.long sl), .second, .val (.int (2 : Int32)), .val (.long xx), .second, .val (.long yy), .second, .val (.long zz), .second, .val (.ref b131), .val (.long (((0 : Int64) + xx) + yy)), .second, .val (.int (if own_room zz cl sl (2 : Int32) (((0 : Int64) + xx) + yy) then 1 else 0)), .unset] []))
      refine Go.by (fun _ kont => XS.lload X139.here hx rfl (hb hby at_150) rfl (XS.lconst X139.here hx rfl (hb hby at_152) (XS.lcmp X139.here hx rfl (hb hby at_153) rfl kont))) ?_
      show Go _ _ _ _ _ _ _ (T139.setTop (mkF m 154 #[.val (.int c0), .val (.long s0), .second, .val (.int k0), .val (.long a1), .second, .val (.long b1), .second, .val (.long z1), .second, .val (.int cl), .val (.long sl), .second, .val (.int (2 : Int32)), .val (.long xx), .second, .val (.long yy), .second, .val (.long zz), .second, .val (.ref b131), .val (.long (((0 : Int64) + xx) + yy)), .second, .val (.int (if own_room zz cl sl (2 : Int32) (((0 : Int64) + xx) + yy) then 1 else 0)), .unset] [(.int (lcmpW sl (0 : Int64)))]))
      by_cases hc141 : sl = (0 : Int64)
      · refine Go.by (fun _ kont => XS.ifNo X139.here hx rfl (hb hby at_154) rfl ((if0 _ _).trans (teq ((lw_eq _ _).mpr hc141)).2) kont) ?_
        show Go _ _ _ _ _ _ _ (T139.setTop (mkF m 157 #[.val (.int c0), .val (.long s0), .second, .val (.int k0), .val (.long a1), .second, .val (.long b1), .second, .val (.long z1), .second, .val (.int cl), .val (.long sl), .second, .val (.int (2 : Int32)), .val (.long xx), .second, .val (.long yy), .second, .val (.long zz), .second, .val (.ref b131), .val (.long (((0 : Int64) + xx) + yy)), .second, .val (.int (if own_room zz cl sl (2 : Int32) (((0 : Int64) + xx) + yy) then 1 else 0)), .unset] []))
        refine Go.by (fun _ kont => XS.iconst X139.here hx rfl (hb hby at_157) (XS.istore X139.here hx rfl (hb hby at_158) rfl (l' := #[.val (.int c0), .val (.long s0), .second, .val (.int k0), .val (.long a1), .second, .val (.long b1), .second, .val (.long z1), .second, .val (.int cl), .val (.long sl), .second, .val (.int (2 : Int32)), .val (.long xx), .second, .val (.long yy), .second, .val (.long zz), .second, .val (.ref b131), .val (.long (((0 : Int64) + xx) + yy)), .second, .val (.int (if own_room zz cl sl (2 : Int32) (((0 : Int64) + xx) + yy) then 1 else 0)), .val (.int (1 : Int32))]) rfl (XS.goto X139.here hx rfl (pc0 := 160) (pc' := 181) rfl (hb hby at_160) (by decide) (by decide) (XS.iload X139.here hx rfl (hb hby at_181) rfl (XS.iload X139.here hx rfl (hb hby at_183) rfl kont))))) ?_
        show Go _ _ _ _ _ _ _ (T139.setTop (mkF m 185 #[.val (.int c0), .val (.long s0), .second, .val (.int k0), .val (.long a1), .second, .val (.long b1), .second, .val (.long z1), .second, .val (.int cl), .val (.long sl), .second, .val (.int (2 : Int32)), .val (.long xx), .second, .val (.long yy), .second, .val (.long zz), .second, .val (.ref b131), .val (.long (((0 : Int64) + xx) + yy)), .second, .val (.int (if own_room zz cl sl (2 : Int32) (((0 : Int64) + xx) + yy) then 1 else 0)), .val (.int (1 : Int32))] [(.int (1 : Int32)), (.int (if own_room zz cl sl (2 : Int32) (((0 : Int64) + xx) + yy) then 1 else 0))]))
        have hd142 : (if own_room zz cl sl (2 : Int32) (((0 : Int64) + xx) + yy) then 1 else 0) = (1 : Int32) := by simp only [own_room, decide_true, decide_false, Bool.or_true, Bool.true_or, Bool.true_and, Bool.and_true, Bool.false_or, Bool.or_false, decide_eq_true hc140, show decide ((2 : Int32) = 0) = false from by decide, decide_eq_true hc141] <;> rfl
        refine Go.by (fun _ kont => XS.icmpNo X139.here hx rfl (hb hby at_185) rfl (teq hd142).2 kont) ?_
        show Go _ _ _ _ _ _ _ (T139.setTop (mkF m 188 #[.val (.int c0), .val (.long s0), .second, .val (.int k0), .val (.long a1), .second, .val (.long b1), .second, .val (.long z1), .second, .val (.int cl), .val (.long sl), .second, .val (.int (2 : Int32)), .val (.long xx), .second, .val (.long yy), .second, .val (.long zz), .second, .val (.ref b131), .val (.long (((0 : Int64) + xx) + yy)), .second, .val (.int (if own_room zz cl sl (2 : Int32) (((0 : Int64) + xx) + yy) then 1 else 0)), .val (.int (1 : Int32))] []))
        refine Go.by (fun _ kont => XS.iconst X139.here hx rfl (hb hby at_188) (XS.goto X139.here hx rfl (pc0 := 189) (pc' := 193) rfl (hb hby at_189) (by decide) (by decide) kont)) ?_
        show Go _ _ _ _ _ _ _ (T139.setTop (mkF m 193 #[.val (.int c0), .val (.long s0), .second, .val (.int k0), .val (.long a1), .second, .val (.long b1), .second, .val (.long z1), .second, .val (.int cl), .val (.long sl), .second, .val (.int (2 : Int32)), .val (.long xx), .second, .val (.long yy), .second, .val (.long zz), .second, .val (.ref b131), .val (.long (((0 : Int64) + xx) + yy)), .second, .val (.int (if own_room zz cl sl (2 : Int32) (((0 : Int64) + xx) + yy) then 1 else 0)), .val (.int (1 : Int32))] [(.int (1 : Int32))]))
        refine Go.retN X139 hx (t := .boolean) hret (by simp) hlk (hb hby at_193) ?_ (by decide) (by decide)
        show Q0 Z h0 n0 (some (.int (1 : Int32))) T139.heap _
        rw [eh139]
        exact ⟨rfl, N139⟩
      · refine Go.by (fun _ kont => XS.ifYes X139.here hx rfl (pc0 := 154) (pc' := 163) rfl (hb hby at_154) rfl ((if0 _ _).trans (feq (fun z => hc141 ((lw_eq _ _).mp z))).2) (by decide) (by decide) kont) ?_
        show Go _ _ _ _ _ _ _ (T139.setTop (mkF m 163 #[.val (.int c0), .val (.long s0), .second, .val (.int k0), .val (.long a1), .second, .val (.long b1), .second, .val (.long z1), .second, .val (.int cl), .val (.long sl), .second, .val (.int (2 : Int32)), .val (.long xx), .second, .val (.long yy), .second, .val (.long zz), .second, .val (.ref b131), .val (.long (((0 : Int64) + xx) + yy)), .second, .val (.int (if own_room zz cl sl (2 : Int32) (((0 : Int64) + xx) + yy) then 1 else 0)), .unset] []))
        refine Go.by (fun _ kont => XS.lload X139.here hx rfl (hb hby at_163) rfl (XS.lload X139.here hx rfl (hb hby at_165) rfl (XS.lload X139.here hx rfl (hb hby at_167) rfl (XS.lsub X139.here hx rfl (hb hby at_169) rfl (XS.lcmp X139.here hx rfl (hb hby at_170) rfl kont))))) ?_
        show Go _ _ _ _ _ _ _ (T139.setTop (mkF m 171 #[.val (.int c0), .val (.long s0), .second, .val (.int k0), .val (.long a1), .second, .val (.long b1), .second, .val (.long z1), .second, .val (.int cl), .val (.long sl), .second, .val (.int (2 : Int32)), .val (.long xx), .second, .val (.long yy), .second, .val (.long zz), .second, .val (.ref b131), .val (.long (((0 : Int64) + xx) + yy)), .second, .val (.int (if own_room zz cl sl (2 : Int32) (((0 : Int64) + xx) + yy) then 1 else 0)), .unset] [(.int (lcmpW zz (sl - (((0 : Int64) + xx) + yy))))]))
        by_cases hc143 : (sl - (((0 : Int64) + xx) + yy)) < zz
        · refine Go.by (fun _ kont => XS.ifYes X139.here hx rfl (pc0 := 171) (pc' := 178) rfl (hb hby at_171) rfl ((if0 _ _).trans (tlt ((lw_gt _ _).mpr hc143)).2.2.1) (by decide) (by decide) kont) ?_
          show Go _ _ _ _ _ _ _ (T139.setTop (mkF m 178 #[.val (.int c0), .val (.long s0), .second, .val (.int k0), .val (.long a1), .second, .val (.long b1), .second, .val (.long z1), .second, .val (.int cl), .val (.long sl), .second, .val (.int (2 : Int32)), .val (.long xx), .second, .val (.long yy), .second, .val (.long zz), .second, .val (.ref b131), .val (.long (((0 : Int64) + xx) + yy)), .second, .val (.int (if own_room zz cl sl (2 : Int32) (((0 : Int64) + xx) + yy) then 1 else 0)), .unset] []))
          refine Go.by (fun _ kont => XS.iconst X139.here hx rfl (hb hby at_178) (XS.istore X139.here hx rfl (hb hby at_179) rfl (l' := #[.val (.int c0), .val (.long s0), .second, .val (.int k0), .val (.long a1), .second, .val (.long b1), .second, .val (.long z1), .second, .val (.int cl), .val (.long sl), .second, .val (.int (2 : Int32)), .val (.long xx), .second, .val (.long yy), .second, .val (.long zz), .second, .val (.ref b131), .val (.long (((0 : Int64) + xx) + yy)), .second, .val (.int (if own_room zz cl sl (2 : Int32) (((0 : Int64) + xx) + yy) then 1 else 0)), .val (.int (0 : Int32))]) rfl (XS.iload X139.here hx rfl (hb hby at_181) rfl (XS.iload X139.here hx rfl (hb hby at_183) rfl kont)))) ?_
          show Go _ _ _ _ _ _ _ (T139.setTop (mkF m 185 #[.val (.int c0), .val (.long s0), .second, .val (.int k0), .val (.long a1), .second, .val (.long b1), .second, .val (.long z1), .second, .val (.int cl), .val (.long sl), .second, .val (.int (2 : Int32)), .val (.long xx), .second, .val (.long yy), .second, .val (.long zz), .second, .val (.ref b131), .val (.long (((0 : Int64) + xx) + yy)), .second, .val (.int (if own_room zz cl sl (2 : Int32) (((0 : Int64) + xx) + yy) then 1 else 0)), .val (.int (0 : Int32))] [(.int (0 : Int32)), (.int (if own_room zz cl sl (2 : Int32) (((0 : Int64) + xx) + yy) then 1 else 0))]))
          have t0 : 0 ≤ (0 : Int64).toInt ∧ (0 : Int64).toInt ≤ 0 * 2305843009213693951 := by decide
          have t1 := own_sum (0 : Int64) xx 0 t0 (by decide) Bxx
          have t2 := own_sum ((0 : Int64) + xx) yy 1 t1 (by decide) Byy
          have key := own_key (((0 : Int64) + xx) + yy) zz sl (by omega) Bzz Bsl
          have hd144 : (if own_room zz cl sl (2 : Int32) (((0 : Int64) + xx) + yy) then 1 else 0) = (0 : Int32) := by simp only [own_room, decide_true, decide_false, Bool.or_true, Bool.true_or, Bool.true_and, Bool.and_true, Bool.false_or, Bool.or_false, decide_eq_true hc140, show decide ((2 : Int32) = 0) = false from by decide, decide_eq_false hc141, decide_eq_true (key.mpr hc143)] <;> rfl
          refine Go.by (fun _ kont => XS.icmpNo X139.here hx rfl (hb hby at_185) rfl (teq hd144).2 kont) ?_
          show Go _ _ _ _ _ _ _ (T139.setTop (mkF m 188 #[.val (.int c0), .val (.long s0), .second, .val (.int k0), .val (.long a1), .second, .val (.long b1), .second, .val (.long z1), .second, .val (.int cl), .val (.long sl), .second, .val (.int (2 : Int32)), .val (.long xx), .second, .val (.long yy), .second, .val (.long zz), .second, .val (.ref b131), .val (.long (((0 : Int64) + xx) + yy)), .second, .val (.int (if own_room zz cl sl (2 : Int32) (((0 : Int64) + xx) + yy) then 1 else 0)), .val (.int (0 : Int32))] []))
          refine Go.by (fun _ kont => XS.iconst X139.here hx rfl (hb hby at_188) (XS.goto X139.here hx rfl (pc0 := 189) (pc' := 193) rfl (hb hby at_189) (by decide) (by decide) kont)) ?_
          show Go _ _ _ _ _ _ _ (T139.setTop (mkF m 193 #[.val (.int c0), .val (.long s0), .second, .val (.int k0), .val (.long a1), .second, .val (.long b1), .second, .val (.long z1), .second, .val (.int cl), .val (.long sl), .second, .val (.int (2 : Int32)), .val (.long xx), .second, .val (.long yy), .second, .val (.long zz), .second, .val (.ref b131), .val (.long (((0 : Int64) + xx) + yy)), .second, .val (.int (if own_room zz cl sl (2 : Int32) (((0 : Int64) + xx) + yy) then 1 else 0)), .val (.int (0 : Int32))] [(.int (1 : Int32))]))
          refine Go.retN X139 hx (t := .boolean) hret (by simp) hlk (hb hby at_193) ?_ (by decide) (by decide)
          show Q0 Z h0 n0 (some (.int (1 : Int32))) T139.heap _
          rw [eh139]
          exact ⟨rfl, N139⟩
        · refine Go.by (fun _ kont => XS.ifNo X139.here hx rfl (hb hby at_171) rfl ((if0 _ _).trans (flt (fun z => hc143 ((lw_gt _ _).mp z))).2.2.1) kont) ?_
          show Go _ _ _ _ _ _ _ (T139.setTop (mkF m 174 #[.val (.int c0), .val (.long s0), .second, .val (.int k0), .val (.long a1), .second, .val (.long b1), .second, .val (.long z1), .second, .val (.int cl), .val (.long sl), .second, .val (.int (2 : Int32)), .val (.long xx), .second, .val (.long yy), .second, .val (.long zz), .second, .val (.ref b131), .val (.long (((0 : Int64) + xx) + yy)), .second, .val (.int (if own_room zz cl sl (2 : Int32) (((0 : Int64) + xx) + yy) then 1 else 0)), .unset] []))
          refine Go.by (fun _ kont => XS.iconst X139.here hx rfl (hb hby at_174) (XS.goto X139.here hx rfl (pc0 := 175) (pc' := 179) rfl (hb hby at_175) (by decide) (by decide) (XS.istore X139.here hx rfl (hb hby at_179) rfl (l' := #[.val (.int c0), .val (.long s0), .second, .val (.int k0), .val (.long a1), .second, .val (.long b1), .second, .val (.long z1), .second, .val (.int cl), .val (.long sl), .second, .val (.int (2 : Int32)), .val (.long xx), .second, .val (.long yy), .second, .val (.long zz), .second, .val (.ref b131), .val (.long (((0 : Int64) + xx) + yy)), .second, .val (.int (if own_room zz cl sl (2 : Int32) (((0 : Int64) + xx) + yy) then 1 else 0)), .val (.int (1 : Int32))]) rfl (XS.iload X139.here hx rfl (hb hby at_181) rfl (XS.iload X139.here hx rfl (hb hby at_183) rfl kont))))) ?_
          show Go _ _ _ _ _ _ _ (T139.setTop (mkF m 185 #[.val (.int c0), .val (.long s0), .second, .val (.int k0), .val (.long a1), .second, .val (.long b1), .second, .val (.long z1), .second, .val (.int cl), .val (.long sl), .second, .val (.int (2 : Int32)), .val (.long xx), .second, .val (.long yy), .second, .val (.long zz), .second, .val (.ref b131), .val (.long (((0 : Int64) + xx) + yy)), .second, .val (.int (if own_room zz cl sl (2 : Int32) (((0 : Int64) + xx) + yy) then 1 else 0)), .val (.int (1 : Int32))] [(.int (1 : Int32)), (.int (if own_room zz cl sl (2 : Int32) (((0 : Int64) + xx) + yy) then 1 else 0))]))
          have t0 : 0 ≤ (0 : Int64).toInt ∧ (0 : Int64).toInt ≤ 0 * 2305843009213693951 := by decide
          have t1 := own_sum (0 : Int64) xx 0 t0 (by decide) Bxx
          have t2 := own_sum ((0 : Int64) + xx) yy 1 t1 (by decide) Byy
          have key := own_key (((0 : Int64) + xx) + yy) zz sl (by omega) Bzz Bsl
          have hd145 : (if own_room zz cl sl (2 : Int32) (((0 : Int64) + xx) + yy) then 1 else 0) = (1 : Int32) := by simp only [own_room, decide_true, decide_false, Bool.or_true, Bool.true_or, Bool.true_and, Bool.and_true, Bool.false_or, Bool.or_false, decide_eq_true hc140, show decide ((2 : Int32) = 0) = false from by decide, decide_eq_false hc141, decide_eq_false (fun z => hc143 (key.mp z))] <;> rfl
          refine Go.by (fun _ kont => XS.icmpNo X139.here hx rfl (hb hby at_185) rfl (teq hd145).2 kont) ?_
          show Go _ _ _ _ _ _ _ (T139.setTop (mkF m 188 #[.val (.int c0), .val (.long s0), .second, .val (.int k0), .val (.long a1), .second, .val (.long b1), .second, .val (.long z1), .second, .val (.int cl), .val (.long sl), .second, .val (.int (2 : Int32)), .val (.long xx), .second, .val (.long yy), .second, .val (.long zz), .second, .val (.ref b131), .val (.long (((0 : Int64) + xx) + yy)), .second, .val (.int (if own_room zz cl sl (2 : Int32) (((0 : Int64) + xx) + yy) then 1 else 0)), .val (.int (1 : Int32))] []))
          refine Go.by (fun _ kont => XS.iconst X139.here hx rfl (hb hby at_188) (XS.goto X139.here hx rfl (pc0 := 189) (pc' := 193) rfl (hb hby at_189) (by decide) (by decide) kont)) ?_
          show Go _ _ _ _ _ _ _ (T139.setTop (mkF m 193 #[.val (.int c0), .val (.long s0), .second, .val (.int k0), .val (.long a1), .second, .val (.long b1), .second, .val (.long z1), .second, .val (.int cl), .val (.long sl), .second, .val (.int (2 : Int32)), .val (.long xx), .second, .val (.long yy), .second, .val (.long zz), .second, .val (.ref b131), .val (.long (((0 : Int64) + xx) + yy)), .second, .val (.int (if own_room zz cl sl (2 : Int32) (((0 : Int64) + xx) + yy) then 1 else 0)), .val (.int (1 : Int32))] [(.int (1 : Int32))]))
          refine Go.retN X139 hx (t := .boolean) hret (by simp) hlk (hb hby at_193) ?_ (by decide) (by decide)
          show Q0 Z h0 n0 (some (.int (1 : Int32))) T139.heap _
          rw [eh139]
          exact ⟨rfl, N139⟩
    · refine Go.by (fun _ kont => XS.ifNo X139.here hx rfl (hb hby at_129) rfl ((if0 _ _).trans (feq hc140).1) kont) ?_
      show Go _ _ _ _ _ _ _ (T139.setTop (mkF m 132 #[.val (.int c0), .val (.long s0), .second, .val (.int k0), .val (.long a1), .second, .val (.long b1), .second, .val (.long z1), .second, .val (.int cl), .val (.long sl), .second, .val (.int (2 : Int32)), .val (.long xx), .second, .val (.long yy), .second, .val (.long zz), .second, .val (.ref b131), .val (.long (((0 : Int64) + xx) + yy)), .second, .val (.int (if own_room zz cl sl (2 : Int32) (((0 : Int64) + xx) + yy) then 1 else 0)), .unset] []))
      refine Go.by (fun _ kont => XS.iload X139.here hx rfl (hb hby at_132) rfl (XS.iload X139.here hx rfl (hb hby at_134) rfl kont)) ?_
      show Go _ _ _ _ _ _ _ (T139.setTop (mkF m 136 #[.val (.int c0), .val (.long s0), .second, .val (.int k0), .val (.long a1), .second, .val (.long b1), .second, .val (.long z1), .second, .val (.int cl), .val (.long sl), .second, .val (.int (2 : Int32)), .val (.long xx), .second, .val (.long yy), .second, .val (.long zz), .second, .val (.ref b131), .val (.long (((0 : Int64) + xx) + yy)), .second, .val (.int (if own_room zz cl sl (2 : Int32) (((0 : Int64) + xx) + yy) then 1 else 0)), .unset] [(.int cl), (.int (2 : Int32))]))
      by_cases hc146 : (2 : Int32) < cl
      · refine Go.by (fun _ kont => XS.icmpYes X139.here hx rfl (pc0 := 136) (pc' := 145) rfl (hb hby at_136) rfl (tlt hc146).1 (by decide) (by decide) kont) ?_
        show Go _ _ _ _ _ _ _ (T139.setTop (mkF m 145 #[.val (.int c0), .val (.long s0), .second, .val (.int k0), .val (.long a1), .second, .val (.long b1), .second, .val (.long z1), .second, .val (.int cl), .val (.long sl), .second, .val (.int (2 : Int32)), .val (.long xx), .second, .val (.long yy), .second, .val (.long zz), .second, .val (.ref b131), .val (.long (((0 : Int64) + xx) + yy)), .second, .val (.int (if own_room zz cl sl (2 : Int32) (((0 : Int64) + xx) + yy) then 1 else 0)), .unset] []))
        refine Go.by (fun _ kont => XS.iload X139.here hx rfl (hb hby at_145) rfl kont) ?_
        show Go _ _ _ _ _ _ _ (T139.setTop (mkF m 147 #[.val (.int c0), .val (.long s0), .second, .val (.int k0), .val (.long a1), .second, .val (.long b1), .second, .val (.long z1), .second, .val (.int cl), .val (.long sl), .second, .val (.int (2 : Int32)), .val (.long xx), .second, .val (.long yy), .second, .val (.long zz), .second, .val (.ref b131), .val (.long (((0 : Int64) + xx) + yy)), .second, .val (.int (if own_room zz cl sl (2 : Int32) (((0 : Int64) + xx) + yy) then 1 else 0)), .unset] [(.int (2 : Int32))]))
        refine Go.by (fun _ kont => XS.ifNo X139.here hx rfl (hb hby at_147) rfl (by decide) kont) ?_
        show Go _ _ _ _ _ _ _ (T139.setTop (mkF m 150 #[.val (.int c0), .val (.long s0), .second, .val (.int k0), .val (.long a1), .second, .val (.long b1), .second, .val (.long z1), .second, .val (.int cl), .val (.long sl), .second, .val (.int (2 : Int32)), .val (.long xx), .second, .val (.long yy), .second, .val (.long zz), .second, .val (.ref b131), .val (.long (((0 : Int64) + xx) + yy)), .second, .val (.int (if own_room zz cl sl (2 : Int32) (((0 : Int64) + xx) + yy) then 1 else 0)), .unset] []))
        refine Go.by (fun _ kont => XS.lload X139.here hx rfl (hb hby at_150) rfl (XS.lconst X139.here hx rfl (hb hby at_152) (XS.lcmp X139.here hx rfl (hb hby at_153) rfl kont))) ?_
        show Go _ _ _ _ _ _ _ (T139.setTop (mkF m 154 #[.val (.int c0), .val (.long s0), .second, .val (.int k0), .val (.long a1), .second, .val (.long b1), .second, .val (.long z1), .second, .val (.int cl), .val (.long sl), .second, .val (.int (2 : Int32)), .val (.long xx), .second, .val (.long yy), .second, .val (.long zz), .second, .val (.ref b131), .val (.long (((0 : Int64) + xx) + yy)), .second, .val (.int (if own_room zz cl sl (2 : Int32) (((0 : Int64) + xx) + yy) then 1 else 0)), .unset] [(.int (lcmpW sl (0 : Int64)))]))
        by_cases hc147 : sl = (0 : Int64)
        · refine Go.by (fun _ kont => XS.ifNo X139.here hx rfl (hb hby at_154) rfl ((if0 _ _).trans (teq ((lw_eq _ _).mpr hc147)).2) kont) ?_
          show Go _ _ _ _ _ _ _ (T139.setTop (mkF m 157 #[.val (.int c0), .val (.long s0), .second, .val (.int k0), .val (.long a1), .second, .val (.long b1), .second, .val (.long z1), .second, .val (.int cl), .val (.long sl), .second, .val (.int (2 : Int32)), .val (.long xx), .second, .val (.long yy), .second, .val (.long zz), .second, .val (.ref b131), .val (.long (((0 : Int64) + xx) + yy)), .second, .val (.int (if own_room zz cl sl (2 : Int32) (((0 : Int64) + xx) + yy) then 1 else 0)), .unset] []))
          refine Go.by (fun _ kont => XS.iconst X139.here hx rfl (hb hby at_157) (XS.istore X139.here hx rfl (hb hby at_158) rfl (l' := #[.val (.int c0), .val (.long s0), .second, .val (.int k0), .val (.long a1), .second, .val (.long b1), .second, .val (.long z1), .second, .val (.int cl), .val (.long sl), .second, .val (.int (2 : Int32)), .val (.long xx), .second, .val (.long yy), .second, .val (.long zz), .second, .val (.ref b131), .val (.long (((0 : Int64) + xx) + yy)), .second, .val (.int (if own_room zz cl sl (2 : Int32) (((0 : Int64) + xx) + yy) then 1 else 0)), .val (.int (1 : Int32))]) rfl (XS.goto X139.here hx rfl (pc0 := 160) (pc' := 181) rfl (hb hby at_160) (by decide) (by decide) (XS.iload X139.here hx rfl (hb hby at_181) rfl (XS.iload X139.here hx rfl (hb hby at_183) rfl kont))))) ?_
          show Go _ _ _ _ _ _ _ (T139.setTop (mkF m 185 #[.val (.int c0), .val (.long s0), .second, .val (.int k0), .val (.long a1), .second, .val (.long b1), .second, .val (.long z1), .second, .val (.int cl), .val (.long sl), .second, .val (.int (2 : Int32)), .val (.long xx), .second, .val (.long yy), .second, .val (.long zz), .second, .val (.ref b131), .val (.long (((0 : Int64) + xx) + yy)), .second, .val (.int (if own_room zz cl sl (2 : Int32) (((0 : Int64) + xx) + yy) then 1 else 0)), .val (.int (1 : Int32))] [(.int (1 : Int32)), (.int (if own_room zz cl sl (2 : Int32) (((0 : Int64) + xx) + yy) then 1 else 0))]))
          have hd148 : (if own_room zz cl sl (2 : Int32) (((0 : Int64) + xx) + yy) then 1 else 0) = (1 : Int32) := by simp only [own_room, decide_true, decide_false, Bool.or_true, Bool.true_or, Bool.true_and, Bool.and_true, Bool.false_or, Bool.or_false, decide_eq_false hc140, decide_eq_true hc146, show decide ((2 : Int32) = 0) = false from by decide, decide_eq_true hc147] <;> rfl
          refine Go.by (fun _ kont => XS.icmpNo X139.here hx rfl (hb hby at_185) rfl (teq hd148).2 kont) ?_
          show Go _ _ _ _ _ _ _ (T139.setTop (mkF m 188 #[.val (.int c0), .val (.long s0), .second, .val (.int k0), .val (.long a1), .second, .val (.long b1), .second, .val (.long z1), .second, .val (.int cl), .val (.long sl), .second, .val (.int (2 : Int32)), .val (.long xx), .second, .val (.long yy), .second, .val (.long zz), .second, .val (.ref b131), .val (.long (((0 : Int64) + xx) + yy)), .second, .val (.int (if own_room zz cl sl (2 : Int32) (((0 : Int64) + xx) + yy) then 1 else 0)), .val (.int (1 : Int32))] []))
          refine Go.by (fun _ kont => XS.iconst X139.here hx rfl (hb hby at_188) (XS.goto X139.here hx rfl (pc0 := 189) (pc' := 193) rfl (hb hby at_189) (by decide) (by decide) kont)) ?_
          show Go _ _ _ _ _ _ _ (T139.setTop (mkF m 193 #[.val (.int c0), .val (.long s0), .second, .val (.int k0), .val (.long a1), .second, .val (.long b1), .second, .val (.long z1), .second, .val (.int cl), .val (.long sl), .second, .val (.int (2 : Int32)), .val (.long xx), .second, .val (.long yy), .second, .val (.long zz), .second, .val (.ref b131), .val (.long (((0 : Int64) + xx) + yy)), .second, .val (.int (if own_room zz cl sl (2 : Int32) (((0 : Int64) + xx) + yy) then 1 else 0)), .val (.int (1 : Int32))] [(.int (1 : Int32))]))
          refine Go.retN X139 hx (t := .boolean) hret (by simp) hlk (hb hby at_193) ?_ (by decide) (by decide)
          show Q0 Z h0 n0 (some (.int (1 : Int32))) T139.heap _
          rw [eh139]
          exact ⟨rfl, N139⟩
        · refine Go.by (fun _ kont => XS.ifYes X139.here hx rfl (pc0 := 154) (pc' := 163) rfl (hb hby at_154) rfl ((if0 _ _).trans (feq (fun z => hc147 ((lw_eq _ _).mp z))).2) (by decide) (by decide) kont) ?_
          show Go _ _ _ _ _ _ _ (T139.setTop (mkF m 163 #[.val (.int c0), .val (.long s0), .second, .val (.int k0), .val (.long a1), .second, .val (.long b1), .second, .val (.long z1), .second, .val (.int cl), .val (.long sl), .second, .val (.int (2 : Int32)), .val (.long xx), .second, .val (.long yy), .second, .val (.long zz), .second, .val (.ref b131), .val (.long (((0 : Int64) + xx) + yy)), .second, .val (.int (if own_room zz cl sl (2 : Int32) (((0 : Int64) + xx) + yy) then 1 else 0)), .unset] []))
          refine Go.by (fun _ kont => XS.lload X139.here hx rfl (hb hby at_163) rfl (XS.lload X139.here hx rfl (hb hby at_165) rfl (XS.lload X139.here hx rfl (hb hby at_167) rfl (XS.lsub X139.here hx rfl (hb hby at_169) rfl (XS.lcmp X139.here hx rfl (hb hby at_170) rfl kont))))) ?_
          show Go _ _ _ _ _ _ _ (T139.setTop (mkF m 171 #[.val (.int c0), .val (.long s0), .second, .val (.int k0), .val (.long a1), .second, .val (.long b1), .second, .val (.long z1), .second, .val (.int cl), .val (.long sl), .second, .val (.int (2 : Int32)), .val (.long xx), .second, .val (.long yy), .second, .val (.long zz), .second, .val (.ref b131), .val (.long (((0 : Int64) + xx) + yy)), .second, .val (.int (if own_room zz cl sl (2 : Int32) (((0 : Int64) + xx) + yy) then 1 else 0)), .unset] [(.int (lcmpW zz (sl - (((0 : Int64) + xx) + yy))))]))
          by_cases hc149 : (sl - (((0 : Int64) + xx) + yy)) < zz
          · refine Go.by (fun _ kont => XS.ifYes X139.here hx rfl (pc0 := 171) (pc' := 178) rfl (hb hby at_171) rfl ((if0 _ _).trans (tlt ((lw_gt _ _).mpr hc149)).2.2.1) (by decide) (by decide) kont) ?_
            show Go _ _ _ _ _ _ _ (T139.setTop (mkF m 178 #[.val (.int c0), .val (.long s0), .second, .val (.int k0), .val (.long a1), .second, .val (.long b1), .second, .val (.long z1), .second, .val (.int cl), .val (.long sl), .second, .val (.int (2 : Int32)), .val (.long xx), .second, .val (.long yy), .second, .val (.long zz), .second, .val (.ref b131), .val (.long (((0 : Int64) + xx) + yy)), .second, .val (.int (if own_room zz cl sl (2 : Int32) (((0 : Int64) + xx) + yy) then 1 else 0)), .unset] []))
            refine Go.by (fun _ kont => XS.iconst X139.here hx rfl (hb hby at_178) (XS.istore X139.here hx rfl (hb hby at_179) rfl (l' := #[.val (.int c0), .val (.long s0), .second, .val (.int k0), .val (.long a1), .second, .val (.long b1), .second, .val (.long z1), .second, .val (.int cl), .val (.long sl), .second, .val (.int (2 : Int32)), .val (.long xx), .second, .val (.long yy), .second, .val (.long zz), .second, .val (.ref b131), .val (.long (((0 : Int64) + xx) + yy)), .second, .val (.int (if own_room zz cl sl (2 : Int32) (((0 : Int64) + xx) + yy) then 1 else 0)), .val (.int (0 : Int32))]) rfl (XS.iload X139.here hx rfl (hb hby at_181) rfl (XS.iload X139.here hx rfl (hb hby at_183) rfl kont)))) ?_
            show Go _ _ _ _ _ _ _ (T139.setTop (mkF m 185 #[.val (.int c0), .val (.long s0), .second, .val (.int k0), .val (.long a1), .second, .val (.long b1), .second, .val (.long z1), .second, .val (.int cl), .val (.long sl), .second, .val (.int (2 : Int32)), .val (.long xx), .second, .val (.long yy), .second, .val (.long zz), .second, .val (.ref b131), .val (.long (((0 : Int64) + xx) + yy)), .second, .val (.int (if own_room zz cl sl (2 : Int32) (((0 : Int64) + xx) + yy) then 1 else 0)), .val (.int (0 : Int32))] [(.int (0 : Int32)), (.int (if own_room zz cl sl (2 : Int32) (((0 : Int64) + xx) + yy) then 1 else 0))]))
            have t0 : 0 ≤ (0 : Int64).toInt ∧ (0 : Int64).toInt ≤ 0 * 2305843009213693951 := by decide
            have t1 := own_sum (0 : Int64) xx 0 t0 (by decide) Bxx
            have t2 := own_sum ((0 : Int64) + xx) yy 1 t1 (by decide) Byy
            have key := own_key (((0 : Int64) + xx) + yy) zz sl (by omega) Bzz Bsl
            have hd150 : (if own_room zz cl sl (2 : Int32) (((0 : Int64) + xx) + yy) then 1 else 0) = (0 : Int32) := by simp only [own_room, decide_true, decide_false, Bool.or_true, Bool.true_or, Bool.true_and, Bool.and_true, Bool.false_or, Bool.or_false, decide_eq_false hc140, decide_eq_true hc146, show decide ((2 : Int32) = 0) = false from by decide, decide_eq_false hc147, decide_eq_true (key.mpr hc149)] <;> rfl
            refine Go.by (fun _ kont => XS.icmpNo X139.here hx rfl (hb hby at_185) rfl (teq hd150).2 kont) ?_
            show Go _ _ _ _ _ _ _ (T139.setTop (mkF m 188 #[.val (.int c0), .val (.long s0), .second, .val (.int k0), .val (.long a1), .second, .val (.long b1), .second, .val (.long z1), .second, .val (.int cl), .val (.long sl), .second, .val (.int (2 : Int32)), .val (.long xx), .second, .val (.long yy), .second, .val (.long zz), .second, .val (.ref b131), .val (.long (((0 : Int64) + xx) + yy)), .second, .val (.int (if own_room zz cl sl (2 : Int32) (((0 : Int64) + xx) + yy) then 1 else 0)), .val (.int (0 : Int32))] []))
            refine Go.by (fun _ kont => XS.iconst X139.here hx rfl (hb hby at_188) (XS.goto X139.here hx rfl (pc0 := 189) (pc' := 193) rfl (hb hby at_189) (by decide) (by decide) kont)) ?_
            show Go _ _ _ _ _ _ _ (T139.setTop (mkF m 193 #[.val (.int c0), .val (.long s0), .second, .val (.int k0), .val (.long a1), .second, .val (.long b1), .second, .val (.long z1), .second, .val (.int cl), .val (.long sl), .second, .val (.int (2 : Int32)), .val (.long xx), .second, .val (.long yy), .second, .val (.long zz), .second, .val (.ref b131), .val (.long (((0 : Int64) + xx) + yy)), .second, .val (.int (if own_room zz cl sl (2 : Int32) (((0 : Int64) + xx) + yy) then 1 else 0)), .val (.int (0 : Int32))] [(.int (1 : Int32))]))
            refine Go.retN X139 hx (t := .boolean) hret (by simp) hlk (hb hby at_193) ?_ (by decide) (by decide)
            show Q0 Z h0 n0 (some (.int (1 : Int32))) T139.heap _
            rw [eh139]
            exact ⟨rfl, N139⟩
          · refine Go.by (fun _ kont => XS.ifNo X139.here hx rfl (hb hby at_171) rfl ((if0 _ _).trans (flt (fun z => hc149 ((lw_gt _ _).mp z))).2.2.1) kont) ?_
            show Go _ _ _ _ _ _ _ (T139.setTop (mkF m 174 #[.val (.int c0), .val (.long s0), .second, .val (.int k0), .val (.long a1), .second, .val (.long b1), .second, .val (.long z1), .second, .val (.int cl), .val (.long sl), .second, .val (.int (2 : Int32)), .val (.long xx), .second, .val (.long yy), .second, .val (.long zz), .second, .val (.ref b131), .val (.long (((0 : Int64) + xx) + yy)), .second, .val (.int (if own_room zz cl sl (2 : Int32) (((0 : Int64) + xx) + yy) then 1 else 0)), .unset] []))
            refine Go.by (fun _ kont => XS.iconst X139.here hx rfl (hb hby at_174) (XS.goto X139.here hx rfl (pc0 := 175) (pc' := 179) rfl (hb hby at_175) (by decide) (by decide) (XS.istore X139.here hx rfl (hb hby at_179) rfl (l' := #[.val (.int c0), .val (.long s0), .second, .val (.int k0), .val (.long a1), .second, .val (.long b1), .second, .val (.long z1), .second, .val (.int cl), .val (.long sl), .second, .val (.int (2 : Int32)), .val (.long xx), .second, .val (.long yy), .second, .val (.long zz), .second, .val (.ref b131), .val (.long (((0 : Int64) + xx) + yy)), .second, .val (.int (if own_room zz cl sl (2 : Int32) (((0 : Int64) + xx) + yy) then 1 else 0)), .val (.int (1 : Int32))]) rfl (XS.iload X139.here hx rfl (hb hby at_181) rfl (XS.iload X139.here hx rfl (hb hby at_183) rfl kont))))) ?_
            show Go _ _ _ _ _ _ _ (T139.setTop (mkF m 185 #[.val (.int c0), .val (.long s0), .second, .val (.int k0), .val (.long a1), .second, .val (.long b1), .second, .val (.long z1), .second, .val (.int cl), .val (.long sl), .second, .val (.int (2 : Int32)), .val (.long xx), .second, .val (.long yy), .second, .val (.long zz), .second, .val (.ref b131), .val (.long (((0 : Int64) + xx) + yy)), .second, .val (.int (if own_room zz cl sl (2 : Int32) (((0 : Int64) + xx) + yy) then 1 else 0)), .val (.int (1 : Int32))] [(.int (1 : Int32)), (.int (if own_room zz cl sl (2 : Int32) (((0 : Int64) + xx) + yy) then 1 else 0))]))
            have t0 : 0 ≤ (0 : Int64).toInt ∧ (0 : Int64).toInt ≤ 0 * 2305843009213693951 := by decide
            have t1 := own_sum (0 : Int64) xx 0 t0 (by decide) Bxx
            have t2 := own_sum ((0 : Int64) + xx) yy 1 t1 (by decide) Byy
            have key := own_key (((0 : Int64) + xx) + yy) zz sl (by omega) Bzz Bsl
            have hd151 : (if own_room zz cl sl (2 : Int32) (((0 : Int64) + xx) + yy) then 1 else 0) = (1 : Int32) := by simp only [own_room, decide_true, decide_false, Bool.or_true, Bool.true_or, Bool.true_and, Bool.and_true, Bool.false_or, Bool.or_false, decide_eq_false hc140, decide_eq_true hc146, show decide ((2 : Int32) = 0) = false from by decide, decide_eq_false hc147, decide_eq_false (fun z => hc149 (key.mp z))] <;> rfl
            refine Go.by (fun _ kont => XS.icmpNo X139.here hx rfl (hb hby at_185) rfl (teq hd151).2 kont) ?_
            show Go _ _ _ _ _ _ _ (T139.setTop (mkF m 188 #[.val (.int c0), .val (.long s0), .second, .val (.int k0), .val (.long a1), .second, .val (.long b1), .second, .val (.long z1), .second, .val (.int cl), .val (.long sl), .second, .val (.int (2 : Int32)), .val (.long xx), .second, .val (.long yy), .second, .val (.long zz), .second, .val (.ref b131), .val (.long (((0 : Int64) + xx) + yy)), .second, .val (.int (if own_room zz cl sl (2 : Int32) (((0 : Int64) + xx) + yy) then 1 else 0)), .val (.int (1 : Int32))] []))
            refine Go.by (fun _ kont => XS.iconst X139.here hx rfl (hb hby at_188) (XS.goto X139.here hx rfl (pc0 := 189) (pc' := 193) rfl (hb hby at_189) (by decide) (by decide) kont)) ?_
            show Go _ _ _ _ _ _ _ (T139.setTop (mkF m 193 #[.val (.int c0), .val (.long s0), .second, .val (.int k0), .val (.long a1), .second, .val (.long b1), .second, .val (.long z1), .second, .val (.int cl), .val (.long sl), .second, .val (.int (2 : Int32)), .val (.long xx), .second, .val (.long yy), .second, .val (.long zz), .second, .val (.ref b131), .val (.long (((0 : Int64) + xx) + yy)), .second, .val (.int (if own_room zz cl sl (2 : Int32) (((0 : Int64) + xx) + yy) then 1 else 0)), .val (.int (1 : Int32))] [(.int (1 : Int32))]))
            refine Go.retN X139 hx (t := .boolean) hret (by simp) hlk (hb hby at_193) ?_ (by decide) (by decide)
            show Q0 Z h0 n0 (some (.int (1 : Int32))) T139.heap _
            rw [eh139]
            exact ⟨rfl, N139⟩
      · refine Go.by (fun _ kont => XS.icmpNo X139.here hx rfl (hb hby at_136) rfl (flt hc146).1 kont) ?_
        show Go _ _ _ _ _ _ _ (T139.setTop (mkF m 139 #[.val (.int c0), .val (.long s0), .second, .val (.int k0), .val (.long a1), .second, .val (.long b1), .second, .val (.long z1), .second, .val (.int cl), .val (.long sl), .second, .val (.int (2 : Int32)), .val (.long xx), .second, .val (.long yy), .second, .val (.long zz), .second, .val (.ref b131), .val (.long (((0 : Int64) + xx) + yy)), .second, .val (.int (if own_room zz cl sl (2 : Int32) (((0 : Int64) + xx) + yy) then 1 else 0)), .unset] []))
        refine Go.by (fun _ kont => XS.iconst X139.here hx rfl (hb hby at_139) (XS.istore X139.here hx rfl (hb hby at_140) rfl (l' := #[.val (.int c0), .val (.long s0), .second, .val (.int k0), .val (.long a1), .second, .val (.long b1), .second, .val (.long z1), .second, .val (.int cl), .val (.long sl), .second, .val (.int (2 : Int32)), .val (.long xx), .second, .val (.long yy), .second, .val (.long zz), .second, .val (.ref b131), .val (.long (((0 : Int64) + xx) + yy)), .second, .val (.int (if own_room zz cl sl (2 : Int32) (((0 : Int64) + xx) + yy) then 1 else 0)), .val (.int (0 : Int32))]) rfl (XS.goto X139.here hx rfl (pc0 := 142) (pc' := 181) rfl (hb hby at_142) (by decide) (by decide) (XS.iload X139.here hx rfl (hb hby at_181) rfl (XS.iload X139.here hx rfl (hb hby at_183) rfl kont))))) ?_
        show Go _ _ _ _ _ _ _ (T139.setTop (mkF m 185 #[.val (.int c0), .val (.long s0), .second, .val (.int k0), .val (.long a1), .second, .val (.long b1), .second, .val (.long z1), .second, .val (.int cl), .val (.long sl), .second, .val (.int (2 : Int32)), .val (.long xx), .second, .val (.long yy), .second, .val (.long zz), .second, .val (.ref b131), .val (.long (((0 : Int64) + xx) + yy)), .second, .val (.int (if own_room zz cl sl (2 : Int32) (((0 : Int64) + xx) + yy) then 1 else 0)), .val (.int (0 : Int32))] [(.int (0 : Int32)), (.int (if own_room zz cl sl (2 : Int32) (((0 : Int64) + xx) + yy) then 1 else 0))]))
        have hd152 : (if own_room zz cl sl (2 : Int32) (((0 : Int64) + xx) + yy) then 1 else 0) = (0 : Int32) := by simp only [own_room, decide_true, decide_false, Bool.or_true, Bool.true_or, Bool.true_and, Bool.and_true, Bool.false_or, Bool.or_false, decide_eq_false hc140, decide_eq_false hc146, show decide ((2 : Int32) = 0) = false from by decide] <;> rfl
        refine Go.by (fun _ kont => XS.icmpNo X139.here hx rfl (hb hby at_185) rfl (teq hd152).2 kont) ?_
        show Go _ _ _ _ _ _ _ (T139.setTop (mkF m 188 #[.val (.int c0), .val (.long s0), .second, .val (.int k0), .val (.long a1), .second, .val (.long b1), .second, .val (.long z1), .second, .val (.int cl), .val (.long sl), .second, .val (.int (2 : Int32)), .val (.long xx), .second, .val (.long yy), .second, .val (.long zz), .second, .val (.ref b131), .val (.long (((0 : Int64) + xx) + yy)), .second, .val (.int (if own_room zz cl sl (2 : Int32) (((0 : Int64) + xx) + yy) then 1 else 0)), .val (.int (0 : Int32))] []))
        refine Go.by (fun _ kont => XS.iconst X139.here hx rfl (hb hby at_188) (XS.goto X139.here hx rfl (pc0 := 189) (pc' := 193) rfl (hb hby at_189) (by decide) (by decide) kont)) ?_
        show Go _ _ _ _ _ _ _ (T139.setTop (mkF m 193 #[.val (.int c0), .val (.long s0), .second, .val (.int k0), .val (.long a1), .second, .val (.long b1), .second, .val (.long z1), .second, .val (.int cl), .val (.long sl), .second, .val (.int (2 : Int32)), .val (.long xx), .second, .val (.long yy), .second, .val (.long zz), .second, .val (.ref b131), .val (.long (((0 : Int64) + xx) + yy)), .second, .val (.int (if own_room zz cl sl (2 : Int32) (((0 : Int64) + xx) + yy) then 1 else 0)), .val (.int (0 : Int32))] [(.int (1 : Int32))]))
        refine Go.retN X139 hx (t := .boolean) hret (by simp) hlk (hb hby at_193) ?_ (by decide) (by decide)
        show Q0 Z h0 n0 (some (.int (1 : Int32))) T139.heap _
        rw [eh139]
        exact ⟨rfl, N139⟩
  · show Go _ _ _ _ _ _ _ (s₁.setTop (mkF m 42 #[.val (.int c0), .val (.long s0), .second, .val (.int k0), .val (.long a1), .second, .val (.long b1), .second, .val (.long z1), .second, .val (.int cl), .val (.long sl), .second, .val (.int (3 : Int32)), .val (.long xx), .second, .val (.long yy), .second, .val (.long zz), .second, .unset, .unset, .unset, .unset, .unset] []))
    obtain ⟨T153, h153, X153, e153, X_153, A153, D153, -, st153⟩ := newO X0 hx hZ hown (hw _ (List.mem_of_getElem? (i := 3) rfl)) (hw _ (List.mem_of_getElem? (i := 4) rfl)) (hw _ (List.mem_of_getElem? (i := 5) rfl)) e0 (g := (mkF m 42 #[.val (.int c0), .val (.long s0), .second, .val (.int k0), .val (.long a1), .second, .val (.long b1), .second, .val (.long z1), .second, .val (.int cl), .val (.long sl), .second, .val (.int (3 : Int32)), .val (.long xx), .second, .val (.long yy), .second, .val (.long zz), .second, .unset, .unset, .unset, .unset, .unset] [])) rfl (hb hby at_42) (by decide) (by decide)
    obtain ⟨b153, g153⟩ : ∃ z, z = h0.size := ⟨_, rfl⟩
    rw [← g153] at A153 D153 st153
    have ge_b153 : n0 ≤ b153 := Nat.le_trans Z0 (Nat.le_of_eq g153.symm)
    have sz_b153 : h0.size ≤ b153 := Nat.le_trans (Keep.refl h0 []).1 (Nat.le_of_eq g153.symm)
    have Z154 := Nat.le_trans Z0 X_153.1
    have K154 : Keep h0 h153 [] := (Keep.refl h0 []).ext X_153
    have F153_countLimit : Fld Z h153 b153 "com/example/kyu/kyu/PrefetchWindow" "countLimit" "I" (.int (0 : Int32)) := D153 (Or.inl (hw _ (List.mem_of_getElem? (i := 13) rfl))) (ty := .int) (by decide)
    have F153_sizeLimit : Fld Z h153 b153 "com/example/kyu/kyu/PrefetchWindow" "sizeLimit" "J" (.long (0 : Int64)) := D153 (Or.inl (hw _ (List.mem_of_getElem? (i := 15) rfl))) (ty := .long) (by decide)
    have F153_count : Fld Z h153 b153 "com/example/kyu/kyu/PrefetchWindow" "count" "I" (.int (0 : Int32)) := D153 (Or.inl (hw _ (List.mem_of_getElem? (i := 22) rfl))) (ty := .int) (by decide)
    have F153_size : Fld Z h153 b153 "com/example/kyu/kyu/PrefetchWindow" "size" "J" (.long (0 : Int64)) := D153 (Or.inl (hw _ (List.mem_of_getElem? (i := 24) rfl))) (ty := .long) (by decide)
    refine Go.by st153 ?_
    show Go _ _ _ _ _ _ _ (T153.setTop (mkF m 45 #[.val (.int c0), .val (.long s0), .second, .val (.int k0), .val (.long a1), .second, .val (.long b1), .second, .val (.long z1), .second, .val (.int cl), .val (.long sl), .second, .val (.int (3 : Int32)), .val (.long xx), .second, .val (.long yy), .second, .val (.long zz), .second, .unset, .unset, .unset, .unset, .unset] [(.ref b153)]))
    refine Go.by (fun _ kont => XS.dup X153.here hx rfl (hb hby at_45) rfl rfl (XS.iload X153.here hx rfl (hb hby at_46) rfl (XS.lload X153.here hx rfl (hb hby at_48) rfl kont))) ?_
    show Go _ _ _ _ _ _ _ (T153.setTop (mkF m 50 #[.val (.int c0), .val (.long s0), .second, .val (.int k0), .val (.long a1), .second, .val (.long b1), .second, .val (.long z1), .second, .val (.int cl), .val (.long sl), .second, .val (.int (3 : Int32)), .val (.long xx), .second, .val (.long yy), .second, .val (.long zz), .second, .unset, .unset, .unset, .unset, .unset] [(.long sl), (.int cl), (.ref b153), (.ref b153)]))
    obtain ⟨_, _, ⟨T155, L155, k155, n155⟩, -, X155, ⟨Lc155, hQ155, l155, y155, z155⟩, st155⟩ := X153.specialBack hx (y := (⟨"com/example/kyu/kyu/PrefetchWindow", "<init>", "(IJ)V"⟩ : MethodName)) rfl hown (mvT hZ (hw _ (List.mem_of_getElem? (i := 6) rfl))) (mvT hZ (hw _ (List.mem_of_getElem? (i := 7) rfl))) (mvT hZ (hw _ (List.mem_of_getElem? (i := 8) rfl))) (by decide) (backOf (W := 1) (rmI l Z a0 hw [] b153 cl sl h153 n0 Z154 A153 F153_countLimit F153_sizeLimit F153_count F153_size ge_b153) hZ (hw _ (List.mem_of_getElem? (i := 8) rfl)) (hw _ (List.mem_of_getElem? (i := 5) rfl)) (by decide) (by decide)) (g := (mkF m 50 #[.val (.int c0), .val (.long s0), .second, .val (.int k0), .val (.long a1), .second, .val (.long b1), .second, .val (.long z1), .second, .val (.int cl), .val (.long sl), .second, .val (.int (3 : Int32)), .val (.long xx), .second, .val (.long yy), .second, .val (.long zz), .second, .unset, .unset, .unset, .unset, .unset] [(.long sl), (.int cl), (.ref b153), (.ref b153)])) rfl (by rw [hml]; rfl) (Steps.refl _) (a := b153) (argsL := [(.int cl), (.long sl)]) (rest := [(.ref b153)]) (lenOf pd0_0 rfl) rfl (by show 2 * 0 + _ ≤ _; exact Nat.le_of_eq rfl) (hb hby at_50) (fun _ _ => ⟨rfl, e153, (by decide : 1 + 0 ≤ _), (by decide : 4 + 0 ≤ _)⟩)
    dsimp only [Pt.U, Pt.locs, Pt.cells, Pt.slots] at X155 l155 y155 z155 st155 hQ155
    subst l155 y155 z155
    obtain ⟨rfl, N155q, K155, E155z, F155z_countLimit, F155z_sizeLimit, F155z_count, F155z_size⟩ := hQ155
    have E156_b153 := A153.keep K155
    have Z156 := Nat.le_trans Z154 K155.1
    have K156 : Keep h0 T155.heap [] := Keep.trans K154 K155 (allS (Or.inr sz_b153) all0)
    have N155 := Fr.app N0 N155q
    refine Go.tr st155 ?_
    show Go _ _ _ _ _ _ _ (T155.setTop (mkF m 53 #[.val (.int c0), .val (.long s0), .second, .val (.int k0), .val (.long a1), .second, .val (.long b1), .second, .val (.long z1), .second, .val (.int cl), .val (.long sl), .second, .val (.int (3 : Int32)), .val (.long xx), .second, .val (.long yy), .second, .val (.long zz), .second, .unset, .unset, .unset, .unset, .unset] [(.ref b153)]))
    refine Go.by (fun _ kont => XS.astore X155.here hx rfl (hb hby at_53) rfl rfl (l' := #[.val (.int c0), .val (.long s0), .second, .val (.int k0), .val (.long a1), .second, .val (.long b1), .second, .val (.long z1), .second, .val (.int cl), .val (.long sl), .second, .val (.int (3 : Int32)), .val (.long xx), .second, .val (.long yy), .second, .val (.long zz), .second, .val (.ref b153), .unset, .unset, .unset, .unset]) rfl (XS.lconst X155.here hx rfl (hb hby at_55) (XS.lstore X155.here hx rfl (hb hby at_56) rfl (l' := #[.val (.int c0), .val (.long s0), .second, .val (.int k0), .val (.long a1), .second, .val (.long b1), .second, .val (.long z1), .second, .val (.int cl), .val (.long sl), .second, .val (.int (3 : Int32)), .val (.long xx), .second, .val (.long yy), .second, .val (.long zz), .second, .val (.ref b153), .val (.long (0 : Int64)), .second, .unset, .unset]) rfl (XS.iload X155.here hx rfl (hb hby at_58) rfl (XS.iconst X155.here hx rfl (hb hby at_60) kont))))) ?_
    show Go _ _ _ _ _ _ _ (T155.setTop (mkF m 61 #[.val (.int c0), .val (.long s0), .second, .val (.int k0), .val (.long a1), .second, .val (.long b1), .second, .val (.long z1), .second, .val (.int cl), .val (.long sl), .second, .val (.int (3 : Int32)), .val (.long xx), .second, .val (.long yy), .second, .val (.long zz), .second, .val (.ref b153), .val (.long (0 : Int64)), .second, .unset, .unset] [(.int (1 : Int32)), (.int (3 : Int32))]))
    refine Go.by (fun _ kont => XS.icmpNo X155.here hx rfl (hb hby at_61) rfl (by decide) kont) ?_
    show Go _ _ _ _ _ _ _ (T155.setTop (mkF m 64 #[.val (.int c0), .val (.long s0), .second, .val (.int k0), .val (.long a1), .second, .val (.long b1), .second, .val (.long z1), .second, .val (.int cl), .val (.long sl), .second, .val (.int (3 : Int32)), .val (.long xx), .second, .val (.long yy), .second, .val (.long zz), .second, .val (.ref b153), .val (.long (0 : Int64)), .second, .unset, .unset] []))
    refine Go.by (fun _ kont => XS.aload X155.here hx rfl (hb hby at_64) rfl rfl (XS.lload X155.here hx rfl (hb hby at_66) rfl kont)) ?_
    show Go _ _ _ _ _ _ _ (T155.setTop (mkF m 68 #[.val (.int c0), .val (.long s0), .second, .val (.int k0), .val (.long a1), .second, .val (.long b1), .second, .val (.long z1), .second, .val (.int cl), .val (.long sl), .second, .val (.int (3 : Int32)), .val (.long xx), .second, .val (.long yy), .second, .val (.long zz), .second, .val (.ref b153), .val (.long (0 : Int64)), .second, .unset, .unset] [(.long xx), (.ref b153)]))
    obtain ⟨cq157, kq157, q157a, q157b, q157c⟩ := isOf hZ rfl E155z
    obtain ⟨_, _, ⟨T157, L157, k157, n157⟩, -, X157, ⟨Lc157, hQ157, l157, y157, z157⟩, st157⟩ := X155.virtualBack hx (y := (⟨"com/example/kyu/kyu/PrefetchWindow", "add", "(J)V"⟩ : MethodName)) (z := (⟨"com/example/kyu/kyu/PrefetchWindow", "add", "(J)V"⟩ : MethodName)) hown (mvT hZ (hw _ (List.mem_of_getElem? (i := 16) rfl))) (mvT hZ (hw _ (List.mem_of_getElem? (i := 17) rfl))) (notFace_of_selects (args := #[]) (mvT hZ (hw _ (List.mem_of_getElem? (i := 19) rfl)))) (mvT hZ (hw _ (List.mem_of_getElem? (i := 19) rfl))) (mvT hZ (hw _ (List.mem_of_getElem? (i := 18) rfl))) (by decide) (backOf (W := 0) (rmA l Z a0 hw [] b153 xx cl sl (0 : Int32) (0 : Int64) T155.heap n0 Z156 E155z F155z_countLimit F155z_sizeLimit F155z_count F155z_size ge_b153) hZ (hw _ (List.mem_of_getElem? (i := 20) rfl)) (hw _ (List.mem_of_getElem? (i := 5) rfl)) (by decide) (by decide)) q157a q157c (g := (mkF m 68 #[.val (.int c0), .val (.long s0), .second, .val (.int k0), .val (.long a1), .second, .val (.long b1), .second, .val (.long z1), .second, .val (.int cl), .val (.long sl), .second, .val (.int (3 : Int32)), .val (.long xx), .second, .val (.long yy), .second, .val (.long zz), .second, .val (.ref b153), .val (.long (0 : Int64)), .second, .unset, .unset] [(.long xx), (.ref b153)])) rfl (by rw [hml]; rfl) (Steps.refl _) (argsL := [(.long xx)]) (rest := []) (lenOf pd0_2 rfl) rfl (by show 2 * 0 + _ ≤ _; exact Nat.le_of_eq rfl) (hb hby at_68) (fun _ _ => ⟨rfl, rfl, (by decide : 1 + 0 ≤ _), (by decide : 4 + 0 ≤ _)⟩)
    dsimp only [Pt.U, Pt.locs, Pt.cells, Pt.slots] at X157 l157 y157 z157 st157 hQ157
    subst l157 y157 z157
    obtain ⟨rfl, N157q, K157, E157z, F157z_countLimit, F157z_sizeLimit, F157z_count, F157z_size⟩ := hQ157
    have E158_b153 := E155z.keep K157
    have Z158 := Nat.le_trans Z156 K157.1
    have K158 : Keep h0 T157.heap [] := Keep.trans K156 K157 (allS (Or.inr sz_b153) all0)
    rw [show (0 : Int32) + 1 = (1 : Int32) from by decide] at F157z_count
    have N157 := Fr.app N155 N157q
    refine Go.tr st157 ?_
    show Go _ _ _ _ _ _ _ (T157.setTop (mkF m 71 #[.val (.int c0), .val (.long s0), .second, .val (.int k0), .val (.long a1), .second, .val (.long b1), .second, .val (.long z1), .second, .val (.int cl), .val (.long sl), .second, .val (.int (3 : Int32)), .val (.long xx), .second, .val (.long yy), .second, .val (.long zz), .second, .val (.ref b153), .val (.long (0 : Int64)), .second, .unset, .unset] []))
    refine Go.by (fun _ kont => XS.lload X157.here hx rfl (hb hby at_71) rfl (XS.lload X157.here hx rfl (hb hby at_73) rfl (XS.ladd X157.here hx rfl (hb hby at_75) rfl (XS.lstore X157.here hx rfl (hb hby at_76) rfl (l' := #[.val (.int c0), .val (.long s0), .second, .val (.int k0), .val (.long a1), .second, .val (.long b1), .second, .val (.long z1), .second, .val (.int cl), .val (.long sl), .second, .val (.int (3 : Int32)), .val (.long xx), .second, .val (.long yy), .second, .val (.long zz), .second, .val (.ref b153), .val (.long ((0 : Int64) + xx)), .second, .unset, .unset]) rfl (XS.iload X157.here hx rfl (hb hby at_78) rfl (XS.iconst X157.here hx rfl (hb hby at_80) kont)))))) ?_
    show Go _ _ _ _ _ _ _ (T157.setTop (mkF m 81 #[.val (.int c0), .val (.long s0), .second, .val (.int k0), .val (.long a1), .second, .val (.long b1), .second, .val (.long z1), .second, .val (.int cl), .val (.long sl), .second, .val (.int (3 : Int32)), .val (.long xx), .second, .val (.long yy), .second, .val (.long zz), .second, .val (.ref b153), .val (.long ((0 : Int64) + xx)), .second, .unset, .unset] [(.int (2 : Int32)), (.int (3 : Int32))]))
    refine Go.by (fun _ kont => XS.icmpNo X157.here hx rfl (hb hby at_81) rfl (by decide) kont) ?_
    show Go _ _ _ _ _ _ _ (T157.setTop (mkF m 84 #[.val (.int c0), .val (.long s0), .second, .val (.int k0), .val (.long a1), .second, .val (.long b1), .second, .val (.long z1), .second, .val (.int cl), .val (.long sl), .second, .val (.int (3 : Int32)), .val (.long xx), .second, .val (.long yy), .second, .val (.long zz), .second, .val (.ref b153), .val (.long ((0 : Int64) + xx)), .second, .unset, .unset] []))
    refine Go.by (fun _ kont => XS.aload X157.here hx rfl (hb hby at_84) rfl rfl (XS.lload X157.here hx rfl (hb hby at_86) rfl kont)) ?_
    show Go _ _ _ _ _ _ _ (T157.setTop (mkF m 88 #[.val (.int c0), .val (.long s0), .second, .val (.int k0), .val (.long a1), .second, .val (.long b1), .second, .val (.long z1), .second, .val (.int cl), .val (.long sl), .second, .val (.int (3 : Int32)), .val (.long xx), .second, .val (.long yy), .second, .val (.long zz), .second, .val (.ref b153), .val (.long ((0 : Int64) + xx)), .second, .unset, .unset] [(.long yy), (.ref b153)]))
    obtain ⟨cq159, kq159, q159a, q159b, q159c⟩ := isOf hZ rfl E157z
    obtain ⟨_, _, ⟨T159, L159, k159, n159⟩, -, X159, ⟨Lc159, hQ159, l159, y159, z159⟩, st159⟩ := X157.virtualBack hx (y := (⟨"com/example/kyu/kyu/PrefetchWindow", "add", "(J)V"⟩ : MethodName)) (z := (⟨"com/example/kyu/kyu/PrefetchWindow", "add", "(J)V"⟩ : MethodName)) hown (mvT hZ (hw _ (List.mem_of_getElem? (i := 16) rfl))) (mvT hZ (hw _ (List.mem_of_getElem? (i := 17) rfl))) (notFace_of_selects (args := #[]) (mvT hZ (hw _ (List.mem_of_getElem? (i := 19) rfl)))) (mvT hZ (hw _ (List.mem_of_getElem? (i := 19) rfl))) (mvT hZ (hw _ (List.mem_of_getElem? (i := 18) rfl))) (by decide) (backOf (W := 0) (rmA l Z a0 hw [] b153 yy cl sl (1 : Int32) ((0 : Int64) + xx) T157.heap n0 Z158 E157z F157z_countLimit F157z_sizeLimit F157z_count F157z_size ge_b153) hZ (hw _ (List.mem_of_getElem? (i := 20) rfl)) (hw _ (List.mem_of_getElem? (i := 5) rfl)) (by decide) (by decide)) q159a q159c (g := (mkF m 88 #[.val (.int c0), .val (.long s0), .second, .val (.int k0), .val (.long a1), .second, .val (.long b1), .second, .val (.long z1), .second, .val (.int cl), .val (.long sl), .second, .val (.int (3 : Int32)), .val (.long xx), .second, .val (.long yy), .second, .val (.long zz), .second, .val (.ref b153), .val (.long ((0 : Int64) + xx)), .second, .unset, .unset] [(.long yy), (.ref b153)])) rfl (by rw [hml]; rfl) (Steps.refl _) (argsL := [(.long yy)]) (rest := []) (lenOf pd0_2 rfl) rfl (by show 2 * 0 + _ ≤ _; exact Nat.le_of_eq rfl) (hb hby at_88) (fun _ _ => ⟨rfl, rfl, (by decide : 1 + 0 ≤ _), (by decide : 4 + 0 ≤ _)⟩)
    dsimp only [Pt.U, Pt.locs, Pt.cells, Pt.slots] at X159 l159 y159 z159 st159 hQ159
    subst l159 y159 z159
    obtain ⟨rfl, N159q, K159, E159z, F159z_countLimit, F159z_sizeLimit, F159z_count, F159z_size⟩ := hQ159
    have E160_b153 := E157z.keep K159
    have Z160 := Nat.le_trans Z158 K159.1
    have K160 : Keep h0 T159.heap [] := Keep.trans K158 K159 (allS (Or.inr sz_b153) all0)
    rw [show (1 : Int32) + 1 = (2 : Int32) from by decide] at F159z_count
    have N159 := Fr.app N157 N159q
    refine Go.tr st159 ?_
    show Go _ _ _ _ _ _ _ (T159.setTop (mkF m 91 #[.val (.int c0), .val (.long s0), .second, .val (.int k0), .val (.long a1), .second, .val (.long b1), .second, .val (.long z1), .second, .val (.int cl), .val (.long sl), .second, .val (.int (3 : Int32)), .val (.long xx), .second, .val (.long yy), .second, .val (.long zz), .second, .val (.ref b153), .val (.long ((0 : Int64) + xx)), .second, .unset, .unset] []))
    refine Go.by (fun _ kont => XS.lload X159.here hx rfl (hb hby at_91) rfl (XS.lload X159.here hx rfl (hb hby at_93) rfl (XS.ladd X159.here hx rfl (hb hby at_95) rfl (XS.lstore X159.here hx rfl (hb hby at_96) rfl (l' := #[.val (.int c0), .val (.long s0), .second, .val (.int k0), .val (.long a1), .second, .val (.long b1), .second, .val (.long z1), .second, .val (.int cl), .val (.long sl), .second, .val (.int (3 : Int32)), .val (.long xx), .second, .val (.long yy), .second, .val (.long zz), .second, .val (.ref b153), .val (.long (((0 : Int64) + xx) + yy)), .second, .unset, .unset]) rfl (XS.iload X159.here hx rfl (hb hby at_98) rfl (XS.iconst X159.here hx rfl (hb hby at_100) kont)))))) ?_
    show Go _ _ _ _ _ _ _ (T159.setTop (mkF m 101 #[.val (.int c0), .val (.long s0), .second, .val (.int k0), .val (.long a1), .second, .val (.long b1), .second, .val (.long z1), .second, .val (.int cl), .val (.long sl), .second, .val (.int (3 : Int32)), .val (.long xx), .second, .val (.long yy), .second, .val (.long zz), .second, .val (.ref b153), .val (.long (((0 : Int64) + xx) + yy)), .second, .unset, .unset] [(.int (3 : Int32)), (.int (3 : Int32))]))
    refine Go.by (fun _ kont => XS.icmpNo X159.here hx rfl (hb hby at_101) rfl (by decide) kont) ?_
    show Go _ _ _ _ _ _ _ (T159.setTop (mkF m 104 #[.val (.int c0), .val (.long s0), .second, .val (.int k0), .val (.long a1), .second, .val (.long b1), .second, .val (.long z1), .second, .val (.int cl), .val (.long sl), .second, .val (.int (3 : Int32)), .val (.long xx), .second, .val (.long yy), .second, .val (.long zz), .second, .val (.ref b153), .val (.long (((0 : Int64) + xx) + yy)), .second, .unset, .unset] []))
    refine Go.by (fun _ kont => XS.aload X159.here hx rfl (hb hby at_104) rfl rfl (XS.lload X159.here hx rfl (hb hby at_106) rfl kont)) ?_
    show Go _ _ _ _ _ _ _ (T159.setTop (mkF m 108 #[.val (.int c0), .val (.long s0), .second, .val (.int k0), .val (.long a1), .second, .val (.long b1), .second, .val (.long z1), .second, .val (.int cl), .val (.long sl), .second, .val (.int (3 : Int32)), .val (.long xx), .second, .val (.long yy), .second, .val (.long zz), .second, .val (.ref b153), .val (.long (((0 : Int64) + xx) + yy)), .second, .unset, .unset] [(.long xx), (.ref b153)]))
    obtain ⟨cq161, kq161, q161a, q161b, q161c⟩ := isOf hZ rfl E159z
    obtain ⟨_, _, ⟨T161, L161, k161, n161⟩, -, X161, ⟨Lc161, hQ161, l161, y161, z161⟩, st161⟩ := X159.virtualBack hx (y := (⟨"com/example/kyu/kyu/PrefetchWindow", "add", "(J)V"⟩ : MethodName)) (z := (⟨"com/example/kyu/kyu/PrefetchWindow", "add", "(J)V"⟩ : MethodName)) hown (mvT hZ (hw _ (List.mem_of_getElem? (i := 16) rfl))) (mvT hZ (hw _ (List.mem_of_getElem? (i := 17) rfl))) (notFace_of_selects (args := #[]) (mvT hZ (hw _ (List.mem_of_getElem? (i := 19) rfl)))) (mvT hZ (hw _ (List.mem_of_getElem? (i := 19) rfl))) (mvT hZ (hw _ (List.mem_of_getElem? (i := 18) rfl))) (by decide) (backOf (W := 0) (rmA l Z a0 hw [] b153 xx cl sl (2 : Int32) (((0 : Int64) + xx) + yy) T159.heap n0 Z160 E159z F159z_countLimit F159z_sizeLimit F159z_count F159z_size ge_b153) hZ (hw _ (List.mem_of_getElem? (i := 20) rfl)) (hw _ (List.mem_of_getElem? (i := 5) rfl)) (by decide) (by decide)) q161a q161c (g := (mkF m 108 #[.val (.int c0), .val (.long s0), .second, .val (.int k0), .val (.long a1), .second, .val (.long b1), .second, .val (.long z1), .second, .val (.int cl), .val (.long sl), .second, .val (.int (3 : Int32)), .val (.long xx), .second, .val (.long yy), .second, .val (.long zz), .second, .val (.ref b153), .val (.long (((0 : Int64) + xx) + yy)), .second, .unset, .unset] [(.long xx), (.ref b153)])) rfl (by rw [hml]; rfl) (Steps.refl _) (argsL := [(.long xx)]) (rest := []) (lenOf pd0_2 rfl) rfl (by show 2 * 0 + _ ≤ _; exact Nat.le_of_eq rfl) (hb hby at_108) (fun _ _ => ⟨rfl, rfl, (by decide : 1 + 0 ≤ _), (by decide : 4 + 0 ≤ _)⟩)
    dsimp only [Pt.U, Pt.locs, Pt.cells, Pt.slots] at X161 l161 y161 z161 st161 hQ161
    subst l161 y161 z161
    obtain ⟨rfl, N161q, K161, E161z, F161z_countLimit, F161z_sizeLimit, F161z_count, F161z_size⟩ := hQ161
    have E162_b153 := E159z.keep K161
    have Z162 := Nat.le_trans Z160 K161.1
    have K162 : Keep h0 T161.heap [] := Keep.trans K160 K161 (allS (Or.inr sz_b153) all0)
    rw [show (2 : Int32) + 1 = (3 : Int32) from by decide] at F161z_count
    have N161 := Fr.app N159 N161q
    refine Go.tr st161 ?_
    show Go _ _ _ _ _ _ _ (T161.setTop (mkF m 111 #[.val (.int c0), .val (.long s0), .second, .val (.int k0), .val (.long a1), .second, .val (.long b1), .second, .val (.long z1), .second, .val (.int cl), .val (.long sl), .second, .val (.int (3 : Int32)), .val (.long xx), .second, .val (.long yy), .second, .val (.long zz), .second, .val (.ref b153), .val (.long (((0 : Int64) + xx) + yy)), .second, .unset, .unset] []))
    refine Go.by (fun _ kont => XS.lload X161.here hx rfl (hb hby at_111) rfl (XS.lload X161.here hx rfl (hb hby at_113) rfl (XS.ladd X161.here hx rfl (hb hby at_115) rfl (XS.lstore X161.here hx rfl (hb hby at_116) rfl (l' := #[.val (.int c0), .val (.long s0), .second, .val (.int k0), .val (.long a1), .second, .val (.long b1), .second, .val (.long z1), .second, .val (.int cl), .val (.long sl), .second, .val (.int (3 : Int32)), .val (.long xx), .second, .val (.long yy), .second, .val (.long zz), .second, .val (.ref b153), .val (.long ((((0 : Int64) + xx) + yy) + xx)), .second, .unset, .unset]) rfl (XS.aload X161.here hx rfl (hb hby at_118) rfl rfl (XS.lload X161.here hx rfl (hb hby at_120) rfl kont)))))) ?_
    show Go _ _ _ _ _ _ _ (T161.setTop (mkF m 122 #[.val (.int c0), .val (.long s0), .second, .val (.int k0), .val (.long a1), .second, .val (.long b1), .second, .val (.long z1), .second, .val (.int cl), .val (.long sl), .second, .val (.int (3 : Int32)), .val (.long xx), .second, .val (.long yy), .second, .val (.long zz), .second, .val (.ref b153), .val (.long ((((0 : Int64) + xx) + yy) + xx)), .second, .unset, .unset] [(.long zz), (.ref b153)]))
    obtain ⟨cq163, kq163, q163a, q163b, q163c⟩ := isOf hZ rfl E161z
    obtain ⟨_, _, ⟨T163, L163, k163, n163⟩, -, X163, ⟨Lc163, hQ163, l163, y163, z163⟩, st163⟩ := X161.virtualBack hx (y := (⟨"com/example/kyu/kyu/PrefetchWindow", "hasRoomFor", "(J)Z"⟩ : MethodName)) (z := (⟨"com/example/kyu/kyu/PrefetchWindow", "hasRoomFor", "(J)Z"⟩ : MethodName)) hown (mvT hZ (hw _ (List.mem_of_getElem? (i := 25) rfl))) (mvT hZ (hw _ (List.mem_of_getElem? (i := 26) rfl))) (notFace_of_selects (args := #[]) (mvT hZ (hw _ (List.mem_of_getElem? (i := 28) rfl)))) (mvT hZ (hw _ (List.mem_of_getElem? (i := 28) rfl))) (mvT hZ (hw _ (List.mem_of_getElem? (i := 27) rfl))) (by decide) (backOf (W := 0) (rmH l Z a0 hw [] b153 zz cl sl (3 : Int32) ((((0 : Int64) + xx) + yy) + xx) T161.heap n0 Z162 E161z F161z_countLimit F161z_sizeLimit F161z_count F161z_size ge_b153) hZ (hw _ (List.mem_of_getElem? (i := 29) rfl)) (hw _ (List.mem_of_getElem? (i := 5) rfl)) (by decide) (by decide)) q163a q163c (g := (mkF m 122 #[.val (.int c0), .val (.long s0), .second, .val (.int k0), .val (.long a1), .second, .val (.long b1), .second, .val (.long z1), .second, .val (.int cl), .val (.long sl), .second, .val (.int (3 : Int32)), .val (.long xx), .second, .val (.long yy), .second, .val (.long zz), .second, .val (.ref b153), .val (.long ((((0 : Int64) + xx) + yy) + xx)), .second, .unset, .unset] [(.long zz), (.ref b153)])) rfl (by rw [hml]; rfl) (Steps.refl _) (argsL := [(.long zz)]) (rest := []) (lenOf pd0_1 rfl) rfl (by show 2 * 0 + _ ≤ _; exact Nat.le_of_eq rfl) (hb hby at_122) (fun _ _ => ⟨rfl, rfl, (by decide : 1 + 0 ≤ _), (by decide : 4 + 0 ≤ _)⟩)
    dsimp only [Pt.U, Pt.locs, Pt.cells, Pt.slots] at X163 l163 y163 z163 st163 hQ163
    subst l163 y163 z163
    obtain ⟨rfl, N163q, eh163⟩ := hQ163
    have N163 := Fr.app N161 N163q
    refine Go.tr st163 ?_
    show Go _ _ _ _ _ _ _ (T163.setTop (mkF m 125 #[.val (.int c0), .val (.long s0), .second, .val (.int k0), .val (.long a1), .second, .val (.long b1), .second, .val (.long z1), .second, .val (.int cl), .val (.long sl), .second, .val (.int (3 : Int32)), .val (.long xx), .second, .val (.long yy), .second, .val (.long zz), .second, .val (.ref b153), .val (.long ((((0 : Int64) + xx) + yy) + xx)), .second, .unset, .unset] [(.int (if own_room zz cl sl (3 : Int32) ((((0 : Int64) + xx) + yy) + xx) then 1 else 0))]))
    refine Go.by (fun _ kont => XS.istore X163.here hx rfl (hb hby at_125) rfl (l' := #[.val (.int c0), .val (.long s0), .second, .val (.int k0), .val (.long a1), .second, .val (.long b1), .second, .val (.long z1), .second, .val (.int cl), .val (.long sl), .second, .val (.int (3 : Int32)), .val (.long xx), .second, .val (.long yy), .second, .val (.long zz), .second, .val (.ref b153), .val (.long ((((0 : Int64) + xx) + yy) + xx)), .second, .val (.int (if own_room zz cl sl (3 : Int32) ((((0 : Int64) + xx) + yy) + xx) then 1 else 0)), .unset]) rfl (XS.iload X163.here hx rfl (hb hby at_127) rfl kont)) ?_
    show Go _ _ _ _ _ _ _ (T163.setTop (mkF m 129 #[.val (.int c0), .val (.long s0), .second, .val (.int k0), .val (.long a1), .second, .val (.long b1), .second, .val (.long z1), .second, .val (.int cl), .val (.long sl), .second, .val (.int (3 : Int32)), .val (.long xx), .second, .val (.long yy), .second, .val (.long zz), .second, .val (.ref b153), .val (.long ((((0 : Int64) + xx) + yy) + xx)), .second, .val (.int (if own_room zz cl sl (3 : Int32) ((((0 : Int64) + xx) + yy) + xx) then 1 else 0)), .unset] [(.int cl)]))
    by_cases hc164 : cl = (0 : Int32)
    · refine Go.by (fun _ kont => XS.ifYes X163.here hx rfl (pc0 := 129) (pc' := 145) rfl (hb hby at_129) rfl ((if0 _ _).trans (teq hc164).1) (by decide) (by decide) kont) ?_
      show Go _ _ _ _ _ _ _ (T163.setTop (mkF m 145 #[.val (.int c0), .val (.long s0), .second, .val (.int k0), .val (.long a1), .second, .val (.long b1), .second, .val (.long z1), .second, .val (.int cl), .val (.long sl), .second, .val (.int (3 : Int32)), .val (.long xx), .second, .val (.long yy), .second, .val (.long zz), .second, .val (.ref b153), .val (.long ((((0 : Int64) + xx) + yy) + xx)), .second, .val (.int (if own_room zz cl sl (3 : Int32) ((((0 : Int64) + xx) + yy) + xx) then 1 else 0)), .unset] []))
      refine Go.by (fun _ kont => XS.iload X163.here hx rfl (hb hby at_145) rfl kont) ?_
      show Go _ _ _ _ _ _ _ (T163.setTop (mkF m 147 #[.val (.int c0), .val (.long s0), .second, .val (.int k0), .val (.long a1), .second, .val (.long b1), .second, .val (.long z1), .second, .val (.int cl), .val (.long sl), .second, .val (.int (3 : Int32)), .val (.long xx), .second, .val (.long yy), .second, .val (.long zz), .second, .val (.ref b153), .val (.long ((((0 : Int64) + xx) + yy) + xx)), .second, .val (.int (if own_room zz cl sl (3 : Int32) ((((0 : Int64) + xx) + yy) + xx) then 1 else 0)), .unset] [(.int (3 : Int32))]))
      refine Go.by (fun _ kont => XS.ifNo X163.here hx rfl (hb hby at_147) rfl (by decide) kont) ?_
      show Go _ _ _ _ _ _ _ (T163.setTop (mkF m 150 #[.val (.int c0), .val (.long s0), .second, .val (.int k0), .val (.long a1), .second, .val (.long b1), .second, .val (.long z1), .second, .val (.int cl), .val (.long sl), .second, .val (.int (3 : Int32)), .val (.long xx), .second, .val (.long yy), .second, .val (.long zz), .second, .val (.ref b153), .val (.long ((((0 : Int64) + xx) + yy) + xx)), .second, .val (.int (if own_room zz cl sl (3 : Int32) ((((0 : Int64) + xx) + yy) + xx) then 1 else 0)), .unset] []))
      refine Go.by (fun _ kont => XS.lload X163.here hx rfl (hb hby at_150) rfl (XS.lconst X163.here hx rfl (hb hby at_152) (XS.lcmp X163.here hx rfl (hb hby at_153) rfl kont))) ?_
      show Go _ _ _ _ _ _ _ (T163.setTop (mkF m 154 #[.val (.int c0), .val (.long s0), .second, .val (.int k0), .val (.long a1), .second, .val (.long b1), .second, .val (.long z1), .second, .val (.int cl), .val (.long sl), .second, .val (.int (3 : Int32)), .val (.long xx), .second, .val (.long yy), .second, .val (.long zz), .second, .val (.ref b153), .val (.long ((((0 : Int64) + xx) + yy) + xx)), .second, .val (.int (if own_room zz cl sl (3 : Int32) ((((0 : Int64) + xx) + yy) + xx) then 1 else 0)), .unset] [(.int (lcmpW sl (0 : Int64)))]))
      by_cases hc165 : sl = (0 : Int64)
      · refine Go.by (fun _ kont => XS.ifNo X163.here hx rfl (hb hby at_154) rfl ((if0 _ _).trans (teq ((lw_eq _ _).mpr hc165)).2) kont) ?_
        show Go _ _ _ _ _ _ _ (T163.setTop (mkF m 157 #[.val (.int c0), .val (.long s0), .second, .val (.int k0), .val (.long a1), .second, .val (.long b1), .second, .val (.long z1), .second, .val (.int cl), .val (.long sl), .second, .val (.int (3 : Int32)), .val (.long xx), .second, .val (.long yy), .second, .val (.long zz), .second, .val (.ref b153), .val (.long ((((0 : Int64) + xx) + yy) + xx)), .second, .val (.int (if own_room zz cl sl (3 : Int32) ((((0 : Int64) + xx) + yy) + xx) then 1 else 0)), .unset] []))
        refine Go.by (fun _ kont => XS.iconst X163.here hx rfl (hb hby at_157) (XS.istore X163.here hx rfl (hb hby at_158) rfl (l' := #[.val (.int c0), .val (.long s0), .second, .val (.int k0), .val (.long a1), .second, .val (.long b1), .second, .val (.long z1), .second, .val (.int cl), .val (.long sl), .second, .val (.int (3 : Int32)), .val (.long xx), .second, .val (.long yy), .second, .val (.long zz), .second, .val (.ref b153), .val (.long ((((0 : Int64) + xx) + yy) + xx)), .second, .val (.int (if own_room zz cl sl (3 : Int32) ((((0 : Int64) + xx) + yy) + xx) then 1 else 0)), .val (.int (1 : Int32))]) rfl (XS.goto X163.here hx rfl (pc0 := 160) (pc' := 181) rfl (hb hby at_160) (by decide) (by decide) (XS.iload X163.here hx rfl (hb hby at_181) rfl (XS.iload X163.here hx rfl (hb hby at_183) rfl kont))))) ?_
        show Go _ _ _ _ _ _ _ (T163.setTop (mkF m 185 #[.val (.int c0), .val (.long s0), .second, .val (.int k0), .val (.long a1), .second, .val (.long b1), .second, .val (.long z1), .second, .val (.int cl), .val (.long sl), .second, .val (.int (3 : Int32)), .val (.long xx), .second, .val (.long yy), .second, .val (.long zz), .second, .val (.ref b153), .val (.long ((((0 : Int64) + xx) + yy) + xx)), .second, .val (.int (if own_room zz cl sl (3 : Int32) ((((0 : Int64) + xx) + yy) + xx) then 1 else 0)), .val (.int (1 : Int32))] [(.int (1 : Int32)), (.int (if own_room zz cl sl (3 : Int32) ((((0 : Int64) + xx) + yy) + xx) then 1 else 0))]))
        have hd166 : (if own_room zz cl sl (3 : Int32) ((((0 : Int64) + xx) + yy) + xx) then 1 else 0) = (1 : Int32) := by simp only [own_room, decide_true, decide_false, Bool.or_true, Bool.true_or, Bool.true_and, Bool.and_true, Bool.false_or, Bool.or_false, decide_eq_true hc164, show decide ((3 : Int32) = 0) = false from by decide, decide_eq_true hc165] <;> rfl
        refine Go.by (fun _ kont => XS.icmpNo X163.here hx rfl (hb hby at_185) rfl (teq hd166).2 kont) ?_
        show Go _ _ _ _ _ _ _ (T163.setTop (mkF m 188 #[.val (.int c0), .val (.long s0), .second, .val (.int k0), .val (.long a1), .second, .val (.long b1), .second, .val (.long z1), .second, .val (.int cl), .val (.long sl), .second, .val (.int (3 : Int32)), .val (.long xx), .second, .val (.long yy), .second, .val (.long zz), .second, .val (.ref b153), .val (.long ((((0 : Int64) + xx) + yy) + xx)), .second, .val (.int (if own_room zz cl sl (3 : Int32) ((((0 : Int64) + xx) + yy) + xx) then 1 else 0)), .val (.int (1 : Int32))] []))
        refine Go.by (fun _ kont => XS.iconst X163.here hx rfl (hb hby at_188) (XS.goto X163.here hx rfl (pc0 := 189) (pc' := 193) rfl (hb hby at_189) (by decide) (by decide) kont)) ?_
        show Go _ _ _ _ _ _ _ (T163.setTop (mkF m 193 #[.val (.int c0), .val (.long s0), .second, .val (.int k0), .val (.long a1), .second, .val (.long b1), .second, .val (.long z1), .second, .val (.int cl), .val (.long sl), .second, .val (.int (3 : Int32)), .val (.long xx), .second, .val (.long yy), .second, .val (.long zz), .second, .val (.ref b153), .val (.long ((((0 : Int64) + xx) + yy) + xx)), .second, .val (.int (if own_room zz cl sl (3 : Int32) ((((0 : Int64) + xx) + yy) + xx) then 1 else 0)), .val (.int (1 : Int32))] [(.int (1 : Int32))]))
        refine Go.retN X163 hx (t := .boolean) hret (by simp) hlk (hb hby at_193) ?_ (by decide) (by decide)
        show Q0 Z h0 n0 (some (.int (1 : Int32))) T163.heap _
        rw [eh163]
        exact ⟨rfl, N163⟩
      · refine Go.by (fun _ kont => XS.ifYes X163.here hx rfl (pc0 := 154) (pc' := 163) rfl (hb hby at_154) rfl ((if0 _ _).trans (feq (fun z => hc165 ((lw_eq _ _).mp z))).2) (by decide) (by decide) kont) ?_
        show Go _ _ _ _ _ _ _ (T163.setTop (mkF m 163 #[.val (.int c0), .val (.long s0), .second, .val (.int k0), .val (.long a1), .second, .val (.long b1), .second, .val (.long z1), .second, .val (.int cl), .val (.long sl), .second, .val (.int (3 : Int32)), .val (.long xx), .second, .val (.long yy), .second, .val (.long zz), .second, .val (.ref b153), .val (.long ((((0 : Int64) + xx) + yy) + xx)), .second, .val (.int (if own_room zz cl sl (3 : Int32) ((((0 : Int64) + xx) + yy) + xx) then 1 else 0)), .unset] []))
        refine Go.by (fun _ kont => XS.lload X163.here hx rfl (hb hby at_163) rfl (XS.lload X163.here hx rfl (hb hby at_165) rfl (XS.lload X163.here hx rfl (hb hby at_167) rfl (XS.lsub X163.here hx rfl (hb hby at_169) rfl (XS.lcmp X163.here hx rfl (hb hby at_170) rfl kont))))) ?_
        show Go _ _ _ _ _ _ _ (T163.setTop (mkF m 171 #[.val (.int c0), .val (.long s0), .second, .val (.int k0), .val (.long a1), .second, .val (.long b1), .second, .val (.long z1), .second, .val (.int cl), .val (.long sl), .second, .val (.int (3 : Int32)), .val (.long xx), .second, .val (.long yy), .second, .val (.long zz), .second, .val (.ref b153), .val (.long ((((0 : Int64) + xx) + yy) + xx)), .second, .val (.int (if own_room zz cl sl (3 : Int32) ((((0 : Int64) + xx) + yy) + xx) then 1 else 0)), .unset] [(.int (lcmpW zz (sl - ((((0 : Int64) + xx) + yy) + xx))))]))
        by_cases hc167 : (sl - ((((0 : Int64) + xx) + yy) + xx)) < zz
        · refine Go.by (fun _ kont => XS.ifYes X163.here hx rfl (pc0 := 171) (pc' := 178) rfl (hb hby at_171) rfl ((if0 _ _).trans (tlt ((lw_gt _ _).mpr hc167)).2.2.1) (by decide) (by decide) kont) ?_
          show Go _ _ _ _ _ _ _ (T163.setTop (mkF m 178 #[.val (.int c0), .val (.long s0), .second, .val (.int k0), .val (.long a1), .second, .val (.long b1), .second, .val (.long z1), .second, .val (.int cl), .val (.long sl), .second, .val (.int (3 : Int32)), .val (.long xx), .second, .val (.long yy), .second, .val (.long zz), .second, .val (.ref b153), .val (.long ((((0 : Int64) + xx) + yy) + xx)), .second, .val (.int (if own_room zz cl sl (3 : Int32) ((((0 : Int64) + xx) + yy) + xx) then 1 else 0)), .unset] []))
          refine Go.by (fun _ kont => XS.iconst X163.here hx rfl (hb hby at_178) (XS.istore X163.here hx rfl (hb hby at_179) rfl (l' := #[.val (.int c0), .val (.long s0), .second, .val (.int k0), .val (.long a1), .second, .val (.long b1), .second, .val (.long z1), .second, .val (.int cl), .val (.long sl), .second, .val (.int (3 : Int32)), .val (.long xx), .second, .val (.long yy), .second, .val (.long zz), .second, .val (.ref b153), .val (.long ((((0 : Int64) + xx) + yy) + xx)), .second, .val (.int (if own_room zz cl sl (3 : Int32) ((((0 : Int64) + xx) + yy) + xx) then 1 else 0)), .val (.int (0 : Int32))]) rfl (XS.iload X163.here hx rfl (hb hby at_181) rfl (XS.iload X163.here hx rfl (hb hby at_183) rfl kont)))) ?_
          show Go _ _ _ _ _ _ _ (T163.setTop (mkF m 185 #[.val (.int c0), .val (.long s0), .second, .val (.int k0), .val (.long a1), .second, .val (.long b1), .second, .val (.long z1), .second, .val (.int cl), .val (.long sl), .second, .val (.int (3 : Int32)), .val (.long xx), .second, .val (.long yy), .second, .val (.long zz), .second, .val (.ref b153), .val (.long ((((0 : Int64) + xx) + yy) + xx)), .second, .val (.int (if own_room zz cl sl (3 : Int32) ((((0 : Int64) + xx) + yy) + xx) then 1 else 0)), .val (.int (0 : Int32))] [(.int (0 : Int32)), (.int (if own_room zz cl sl (3 : Int32) ((((0 : Int64) + xx) + yy) + xx) then 1 else 0))]))
          have t0 : 0 ≤ (0 : Int64).toInt ∧ (0 : Int64).toInt ≤ 0 * 2305843009213693951 := by decide
          have t1 := own_sum (0 : Int64) xx 0 t0 (by decide) Bxx
          have t2 := own_sum ((0 : Int64) + xx) yy 1 t1 (by decide) Byy
          have t3 := own_sum (((0 : Int64) + xx) + yy) xx 2 t2 (by decide) Bxx
          have key := own_key ((((0 : Int64) + xx) + yy) + xx) zz sl (by omega) Bzz Bsl
          have hd168 : (if own_room zz cl sl (3 : Int32) ((((0 : Int64) + xx) + yy) + xx) then 1 else 0) = (0 : Int32) := by simp only [own_room, decide_true, decide_false, Bool.or_true, Bool.true_or, Bool.true_and, Bool.and_true, Bool.false_or, Bool.or_false, decide_eq_true hc164, show decide ((3 : Int32) = 0) = false from by decide, decide_eq_false hc165, decide_eq_true (key.mpr hc167)] <;> rfl
          refine Go.by (fun _ kont => XS.icmpNo X163.here hx rfl (hb hby at_185) rfl (teq hd168).2 kont) ?_
          show Go _ _ _ _ _ _ _ (T163.setTop (mkF m 188 #[.val (.int c0), .val (.long s0), .second, .val (.int k0), .val (.long a1), .second, .val (.long b1), .second, .val (.long z1), .second, .val (.int cl), .val (.long sl), .second, .val (.int (3 : Int32)), .val (.long xx), .second, .val (.long yy), .second, .val (.long zz), .second, .val (.ref b153), .val (.long ((((0 : Int64) + xx) + yy) + xx)), .second, .val (.int (if own_room zz cl sl (3 : Int32) ((((0 : Int64) + xx) + yy) + xx) then 1 else 0)), .val (.int (0 : Int32))] []))
          refine Go.by (fun _ kont => XS.iconst X163.here hx rfl (hb hby at_188) (XS.goto X163.here hx rfl (pc0 := 189) (pc' := 193) rfl (hb hby at_189) (by decide) (by decide) kont)) ?_
          show Go _ _ _ _ _ _ _ (T163.setTop (mkF m 193 #[.val (.int c0), .val (.long s0), .second, .val (.int k0), .val (.long a1), .second, .val (.long b1), .second, .val (.long z1), .second, .val (.int cl), .val (.long sl), .second, .val (.int (3 : Int32)), .val (.long xx), .second, .val (.long yy), .second, .val (.long zz), .second, .val (.ref b153), .val (.long ((((0 : Int64) + xx) + yy) + xx)), .second, .val (.int (if own_room zz cl sl (3 : Int32) ((((0 : Int64) + xx) + yy) + xx) then 1 else 0)), .val (.int (0 : Int32))] [(.int (1 : Int32))]))
          refine Go.retN X163 hx (t := .boolean) hret (by simp) hlk (hb hby at_193) ?_ (by decide) (by decide)
          show Q0 Z h0 n0 (some (.int (1 : Int32))) T163.heap _
          rw [eh163]
          exact ⟨rfl, N163⟩
        · refine Go.by (fun _ kont => XS.ifNo X163.here hx rfl (hb hby at_171) rfl ((if0 _ _).trans (flt (fun z => hc167 ((lw_gt _ _).mp z))).2.2.1) kont) ?_
          show Go _ _ _ _ _ _ _ (T163.setTop (mkF m 174 #[.val (.int c0), .val (.long s0), .second, .val (.int k0), .val (.long a1), .second, .val (.long b1), .second, .val (.long z1), .second, .val (.int cl), .val (.long sl), .second, .val (.int (3 : Int32)), .val (.long xx), .second, .val (.long yy), .second, .val (.long zz), .second, .val (.ref b153), .val (.long ((((0 : Int64) + xx) + yy) + xx)), .second, .val (.int (if own_room zz cl sl (3 : Int32) ((((0 : Int64) + xx) + yy) + xx) then 1 else 0)), .unset] []))
          refine Go.by (fun _ kont => XS.iconst X163.here hx rfl (hb hby at_174) (XS.goto X163.here hx rfl (pc0 := 175) (pc' := 179) rfl (hb hby at_175) (by decide) (by decide) (XS.istore X163.here hx rfl (hb hby at_179) rfl (l' := #[.val (.int c0), .val (.long s0), .second, .val (.int k0), .val (.long a1), .second, .val (.long b1), .second, .val (.long z1), .second, .val (.int cl), .val (.long sl), .second, .val (.int (3 : Int32)), .val (.long xx), .second, .val (.long yy), .second, .val (.long zz), .second, .val (.ref b153), .val (.long ((((0 : Int64) + xx) + yy) + xx)), .second, .val (.int (if own_room zz cl sl (3 : Int32) ((((0 : Int64) + xx) + yy) + xx) then 1 else 0)), .val (.int (1 : Int32))]) rfl (XS.iload X163.here hx rfl (hb hby at_181) rfl (XS.iload X163.here hx rfl (hb hby at_183) rfl kont))))) ?_
          show Go _ _ _ _ _ _ _ (T163.setTop (mkF m 185 #[.val (.int c0), .val (.long s0), .second, .val (.int k0), .val (.long a1), .second, .val (.long b1), .second, .val (.long z1), .second, .val (.int cl), .val (.long sl), .second, .val (.int (3 : Int32)), .val (.long xx), .second, .val (.long yy), .second, .val (.long zz), .second, .val (.ref b153), .val (.long ((((0 : Int64) + xx) + yy) + xx)), .second, .val (.int (if own_room zz cl sl (3 : Int32) ((((0 : Int64) + xx) + yy) + xx) then 1 else 0)), .val (.int (1 : Int32))] [(.int (1 : Int32)), (.int (if own_room zz cl sl (3 : Int32) ((((0 : Int64) + xx) + yy) + xx) then 1 else 0))]))
          have t0 : 0 ≤ (0 : Int64).toInt ∧ (0 : Int64).toInt ≤ 0 * 2305843009213693951 := by decide
          have t1 := own_sum (0 : Int64) xx 0 t0 (by decide) Bxx
          have t2 := own_sum ((0 : Int64) + xx) yy 1 t1 (by decide) Byy
          have t3 := own_sum (((0 : Int64) + xx) + yy) xx 2 t2 (by decide) Bxx
          have key := own_key ((((0 : Int64) + xx) + yy) + xx) zz sl (by omega) Bzz Bsl
          have hd169 : (if own_room zz cl sl (3 : Int32) ((((0 : Int64) + xx) + yy) + xx) then 1 else 0) = (1 : Int32) := by simp only [own_room, decide_true, decide_false, Bool.or_true, Bool.true_or, Bool.true_and, Bool.and_true, Bool.false_or, Bool.or_false, decide_eq_true hc164, show decide ((3 : Int32) = 0) = false from by decide, decide_eq_false hc165, decide_eq_false (fun z => hc167 (key.mp z))] <;> rfl
          refine Go.by (fun _ kont => XS.icmpNo X163.here hx rfl (hb hby at_185) rfl (teq hd169).2 kont) ?_
          show Go _ _ _ _ _ _ _ (T163.setTop (mkF m 188 #[.val (.int c0), .val (.long s0), .second, .val (.int k0), .val (.long a1), .second, .val (.long b1), .second, .val (.long z1), .second, .val (.int cl), .val (.long sl), .second, .val (.int (3 : Int32)), .val (.long xx), .second, .val (.long yy), .second, .val (.long zz), .second, .val (.ref b153), .val (.long ((((0 : Int64) + xx) + yy) + xx)), .second, .val (.int (if own_room zz cl sl (3 : Int32) ((((0 : Int64) + xx) + yy) + xx) then 1 else 0)), .val (.int (1 : Int32))] []))
          refine Go.by (fun _ kont => XS.iconst X163.here hx rfl (hb hby at_188) (XS.goto X163.here hx rfl (pc0 := 189) (pc' := 193) rfl (hb hby at_189) (by decide) (by decide) kont)) ?_
          show Go _ _ _ _ _ _ _ (T163.setTop (mkF m 193 #[.val (.int c0), .val (.long s0), .second, .val (.int k0), .val (.long a1), .second, .val (.long b1), .second, .val (.long z1), .second, .val (.int cl), .val (.long sl), .second, .val (.int (3 : Int32)), .val (.long xx), .second, .val (.long yy), .second, .val (.long zz), .second, .val (.ref b153), .val (.long ((((0 : Int64) + xx) + yy) + xx)), .second, .val (.int (if own_room zz cl sl (3 : Int32) ((((0 : Int64) + xx) + yy) + xx) then 1 else 0)), .val (.int (1 : Int32))] [(.int (1 : Int32))]))
          refine Go.retN X163 hx (t := .boolean) hret (by simp) hlk (hb hby at_193) ?_ (by decide) (by decide)
          show Q0 Z h0 n0 (some (.int (1 : Int32))) T163.heap _
          rw [eh163]
          exact ⟨rfl, N163⟩
    · refine Go.by (fun _ kont => XS.ifNo X163.here hx rfl (hb hby at_129) rfl ((if0 _ _).trans (feq hc164).1) kont) ?_
      show Go _ _ _ _ _ _ _ (T163.setTop (mkF m 132 #[.val (.int c0), .val (.long s0), .second, .val (.int k0), .val (.long a1), .second, .val (.long b1), .second, .val (.long z1), .second, .val (.int cl), .val (.long sl), .second, .val (.int (3 : Int32)), .val (.long xx), .second, .val (.long yy), .second, .val (.long zz), .second, .val (.ref b153), .val (.long ((((0 : Int64) + xx) + yy) + xx)), .second, .val (.int (if own_room zz cl sl (3 : Int32) ((((0 : Int64) + xx) + yy) + xx) then 1 else 0)), .unset] []))
      refine Go.by (fun _ kont => XS.iload X163.here hx rfl (hb hby at_132) rfl (XS.iload X163.here hx rfl (hb hby at_134) rfl kont)) ?_
      show Go _ _ _ _ _ _ _ (T163.setTop (mkF m 136 #[.val (.int c0), .val (.long s0), .second, .val (.int k0), .val (.long a1), .second, .val (.long b1), .second, .val (.long z1), .second, .val (.int cl), .val (.long sl), .second, .val (.int (3 : Int32)), .val (.long xx), .second, .val (.long yy), .second, .val (.long zz), .second, .val (.ref b153), .val (.long ((((0 : Int64) + xx) + yy) + xx)), .second, .val (.int (if own_room zz cl sl (3 : Int32) ((((0 : Int64) + xx) + yy) + xx) then 1 else 0)), .unset] [(.int cl), (.int (3 : Int32))]))
      by_cases hc170 : (3 : Int32) < cl
      · refine Go.by (fun _ kont => XS.icmpYes X163.here hx rfl (pc0 := 136) (pc' := 145) rfl (hb hby at_136) rfl (tlt hc170).1 (by decide) (by decide) kont) ?_
        show Go _ _ _ _ _ _ _ (T163.setTop (mkF m 145 #[.val (.int c0), .val (.long s0), .second, .val (.int k0), .val (.long a1), .second, .val (.long b1), .second, .val (.long z1), .second, .val (.int cl), .val (.long sl), .second, .val (.int (3 : Int32)), .val (.long xx), .second, .val (.long yy), .second, .val (.long zz), .second, .val (.ref b153), .val (.long ((((0 : Int64) + xx) + yy) + xx)), .second, .val (.int (if own_room zz cl sl (3 : Int32) ((((0 : Int64) + xx) + yy) + xx) then 1 else 0)), .unset] []))
        refine Go.by (fun _ kont => XS.iload X163.here hx rfl (hb hby at_145) rfl kont) ?_
        show Go _ _ _ _ _ _ _ (T163.setTop (mkF m 147 #[.val (.int c0), .val (.long s0), .second, .val (.int k0), .val (.long a1), .second, .val (.long b1), .second, .val (.long z1), .second, .val (.int cl), .val (.long sl), .second, .val (.int (3 : Int32)), .val (.long xx), .second, .val (.long yy), .second, .val (.long zz), .second, .val (.ref b153), .val (.long ((((0 : Int64) + xx) + yy) + xx)), .second, .val (.int (if own_room zz cl sl (3 : Int32) ((((0 : Int64) + xx) + yy) + xx) then 1 else 0)), .unset] [(.int (3 : Int32))]))
        refine Go.by (fun _ kont => XS.ifNo X163.here hx rfl (hb hby at_147) rfl (by decide) kont) ?_
        show Go _ _ _ _ _ _ _ (T163.setTop (mkF m 150 #[.val (.int c0), .val (.long s0), .second, .val (.int k0), .val (.long a1), .second, .val (.long b1), .second, .val (.long z1), .second, .val (.int cl), .val (.long sl), .second, .val (.int (3 : Int32)), .val (.long xx), .second, .val (.long yy), .second, .val (.long zz), .second, .val (.ref b153), .val (.long ((((0 : Int64) + xx) + yy) + xx)), .second, .val (.int (if own_room zz cl sl (3 : Int32) ((((0 : Int64) + xx) + yy) + xx) then 1 else 0)), .unset] []))
        refine Go.by (fun _ kont => XS.lload X163.here hx rfl (hb hby at_150) rfl (XS.lconst X163.here hx rfl (hb hby at_152) (XS.lcmp X163.here hx rfl (hb hby at_153) rfl kont))) ?_
        show Go _ _ _ _ _ _ _ (T163.setTop (mkF m 154 #[.val (.int c0), .val (.long s0), .second, .val (.int k0), .val (.long a1), .second, .val (.long b1), .second, .val (.long z1), .second, .val (.int cl), .val (.long sl), .second, .val (.int (3 : Int32)), .val (.long xx), .second, .val (.long yy), .second, .val (.long zz), .second, .val (.ref b153), .val (.long ((((0 : Int64) + xx) + yy) + xx)), .second, .val (.int (if own_room zz cl sl (3 : Int32) ((((0 : Int64) + xx) + yy) + xx) then 1 else 0)), .unset] [(.int (lcmpW sl (0 : Int64)))]))
        by_cases hc171 : sl = (0 : Int64)
        · refine Go.by (fun _ kont => XS.ifNo X163.here hx rfl (hb hby at_154) rfl ((if0 _ _).trans (teq ((lw_eq _ _).mpr hc171)).2) kont) ?_
          show Go _ _ _ _ _ _ _ (T163.setTop (mkF m 157 #[.val (.int c0), .val (.long s0), .second, .val (.int k0), .val (.long a1), .second, .val (.long b1), .second, .val (.long z1), .second, .val (.int cl), .val (.long sl), .second, .val (.int (3 : Int32)), .val (.long xx), .second, .val (.long yy), .second, .val (.long zz), .second, .val (.ref b153), .val (.long ((((0 : Int64) + xx) + yy) + xx)), .second, .val (.int (if own_room zz cl sl (3 : Int32) ((((0 : Int64) + xx) + yy) + xx) then 1 else 0)), .unset] []))
          refine Go.by (fun _ kont => XS.iconst X163.here hx rfl (hb hby at_157) (XS.istore X163.here hx rfl (hb hby at_158) rfl (l' := #[.val (.int c0), .val (.long s0), .second, .val (.int k0), .val (.long a1), .second, .val (.long b1), .second, .val (.long z1), .second, .val (.int cl), .val (.long sl), .second, .val (.int (3 : Int32)), .val (.long xx), .second, .val (.long yy), .second, .val (.long zz), .second, .val (.ref b153), .val (.long ((((0 : Int64) + xx) + yy) + xx)), .second, .val (.int (if own_room zz cl sl (3 : Int32) ((((0 : Int64) + xx) + yy) + xx) then 1 else 0)), .val (.int (1 : Int32))]) rfl (XS.goto X163.here hx rfl (pc0 := 160) (pc' := 181) rfl (hb hby at_160) (by decide) (by decide) (XS.iload X163.here hx rfl (hb hby at_181) rfl (XS.iload X163.here hx rfl (hb hby at_183) rfl kont))))) ?_
          show Go _ _ _ _ _ _ _ (T163.setTop (mkF m 185 #[.val (.int c0), .val (.long s0), .second, .val (.int k0), .val (.long a1), .second, .val (.long b1), .second, .val (.long z1), .second, .val (.int cl), .val (.long sl), .second, .val (.int (3 : Int32)), .val (.long xx), .second, .val (.long yy), .second, .val (.long zz), .second, .val (.ref b153), .val (.long ((((0 : Int64) + xx) + yy) + xx)), .second, .val (.int (if own_room zz cl sl (3 : Int32) ((((0 : Int64) + xx) + yy) + xx) then 1 else 0)), .val (.int (1 : Int32))] [(.int (1 : Int32)), (.int (if own_room zz cl sl (3 : Int32) ((((0 : Int64) + xx) + yy) + xx) then 1 else 0))]))
          have hd172 : (if own_room zz cl sl (3 : Int32) ((((0 : Int64) + xx) + yy) + xx) then 1 else 0) = (1 : Int32) := by simp only [own_room, decide_true, decide_false, Bool.or_true, Bool.true_or, Bool.true_and, Bool.and_true, Bool.false_or, Bool.or_false, decide_eq_false hc164, decide_eq_true hc170, show decide ((3 : Int32) = 0) = false from by decide, decide_eq_true hc171] <;> rfl
          refine Go.by (fun _ kont => XS.icmpNo X163.here hx rfl (hb hby at_185) rfl (teq hd172).2 kont) ?_
          show Go _ _ _ _ _ _ _ (T163.setTop (mkF m 188 #[.val (.int c0), .val (.long s0), .second, .val (.int k0), .val (.long a1), .second, .val (.long b1), .second, .val (.long z1), .second, .val (.int cl), .val (.long sl), .second, .val (.int (3 : Int32)), .val (.long xx), .second, .val (.long yy), .second, .val (.long zz), .second, .val (.ref b153), .val (.long ((((0 : Int64) + xx) + yy) + xx)), .second, .val (.int (if own_room zz cl sl (3 : Int32) ((((0 : Int64) + xx) + yy) + xx) then 1 else 0)), .val (.int (1 : Int32))] []))
          refine Go.by (fun _ kont => XS.iconst X163.here hx rfl (hb hby at_188) (XS.goto X163.here hx rfl (pc0 := 189) (pc' := 193) rfl (hb hby at_189) (by decide) (by decide) kont)) ?_
          show Go _ _ _ _ _ _ _ (T163.setTop (mkF m 193 #[.val (.int c0), .val (.long s0), .second, .val (.int k0), .val (.long a1), .second, .val (.long b1), .second, .val (.long z1), .second, .val (.int cl), .val (.long sl), .second, .val (.int (3 : Int32)), .val (.long xx), .second, .val (.long yy), .second, .val (.long zz), .second, .val (.ref b153), .val (.long ((((0 : Int64) + xx) + yy) + xx)), .second, .val (.int (if own_room zz cl sl (3 : Int32) ((((0 : Int64) + xx) + yy) + xx) then 1 else 0)), .val (.int (1 : Int32))] [(.int (1 : Int32))]))
          refine Go.retN X163 hx (t := .boolean) hret (by simp) hlk (hb hby at_193) ?_ (by decide) (by decide)
          show Q0 Z h0 n0 (some (.int (1 : Int32))) T163.heap _
          rw [eh163]
          exact ⟨rfl, N163⟩
        · refine Go.by (fun _ kont => XS.ifYes X163.here hx rfl (pc0 := 154) (pc' := 163) rfl (hb hby at_154) rfl ((if0 _ _).trans (feq (fun z => hc171 ((lw_eq _ _).mp z))).2) (by decide) (by decide) kont) ?_
          show Go _ _ _ _ _ _ _ (T163.setTop (mkF m 163 #[.val (.int c0), .val (.long s0), .second, .val (.int k0), .val (.long a1), .second, .val (.long b1), .second, .val (.long z1), .second, .val (.int cl), .val (.long sl), .second, .val (.int (3 : Int32)), .val (.long xx), .second, .val (.long yy), .second, .val (.long zz), .second, .val (.ref b153), .val (.long ((((0 : Int64) + xx) + yy) + xx)), .second, .val (.int (if own_room zz cl sl (3 : Int32) ((((0 : Int64) + xx) + yy) + xx) then 1 else 0)), .unset] []))
          refine Go.by (fun _ kont => XS.lload X163.here hx rfl (hb hby at_163) rfl (XS.lload X163.here hx rfl (hb hby at_165) rfl (XS.lload X163.here hx rfl (hb hby at_167) rfl (XS.lsub X163.here hx rfl (hb hby at_169) rfl (XS.lcmp X163.here hx rfl (hb hby at_170) rfl kont))))) ?_
          show Go _ _ _ _ _ _ _ (T163.setTop (mkF m 171 #[.val (.int c0), .val (.long s0), .second, .val (.int k0), .val (.long a1), .second, .val (.long b1), .second, .val (.long z1), .second, .val (.int cl), .val (.long sl), .second, .val (.int (3 : Int32)), .val (.long xx), .second, .val (.long yy), .second, .val (.long zz), .second, .val (.ref b153), .val (.long ((((0 : Int64) + xx) + yy) + xx)), .second, .val (.int (if own_room zz cl sl (3 : Int32) ((((0 : Int64) + xx) + yy) + xx) then 1 else 0)), .unset] [(.int (lcmpW zz (sl - ((((0 : Int64) + xx) + yy) + xx))))]))
          by_cases hc173 : (sl - ((((0 : Int64) + xx) + yy) + xx)) < zz
          · refine Go.by (fun _ kont => XS.ifYes X163.here hx rfl (pc0 := 171) (pc' := 178) rfl (hb hby at_171) rfl ((if0 _ _).trans (tlt ((lw_gt _ _).mpr hc173)).2.2.1) (by decide) (by decide) kont) ?_
            show Go _ _ _ _ _ _ _ (T163.setTop (mkF m 178 #[.val (.int c0), .val (.long s0), .second, .val (.int k0), .val (.long a1), .second, .val (.long b1), .second, .val (.long z1), .second, .val (.int cl), .val (.long sl), .second, .val (.int (3 : Int32)), .val (.long xx), .second, .val (.long yy), .second, .val (.long zz), .second, .val (.ref b153), .val (.long ((((0 : Int64) + xx) + yy) + xx)), .second, .val (.int (if own_room zz cl sl (3 : Int32) ((((0 : Int64) + xx) + yy) + xx) then 1 else 0)), .unset] []))
            refine Go.by (fun _ kont => XS.iconst X163.here hx rfl (hb hby at_178) (XS.istore X163.here hx rfl (hb hby at_179) rfl (l' := #[.val (.int c0), .val (.long s0), .second, .val (.int k0), .val (.long a1), .second, .val (.long b1), .second, .val (.long z1), .second, .val (.int cl), .val (.long sl), .second, .val (.int (3 : Int32)), .val (.long xx), .second, .val (.long yy), .second, .val (.long zz), .second, .val (.ref b153), .val (.long ((((0 : Int64) + xx) + yy) + xx)), .second, .val (.int (if own_room zz cl sl (3 : Int32) ((((0 : Int64) + xx) + yy) + xx) then 1 else 0)), .val (.int (0 : Int32))]) rfl (XS.iload X163.here hx rfl (hb hby at_181) rfl (XS.iload X163.here hx rfl (hb hby at_183) rfl kont)))) ?_
            show Go _ _ _ _ _ _ _ (T163.setTop (mkF m 185 #[.val (.int c0), .val (.long s0), .second, .val (.int k0), .val (.long a1), .second, .val (.long b1), .second, .val (.long z1), .second, .val (.int cl), .val (.long sl), .second, .val (.int (3 : Int32)), .val (.long xx), .second, .val (.long yy), .second, .val (.long zz), .second, .val (.ref b153), .val (.long ((((0 : Int64) + xx) + yy) + xx)), .second, .val (.int (if own_room zz cl sl (3 : Int32) ((((0 : Int64) + xx) + yy) + xx) then 1 else 0)), .val (.int (0 : Int32))] [(.int (0 : Int32)), (.int (if own_room zz cl sl (3 : Int32) ((((0 : Int64) + xx) + yy) + xx) then 1 else 0))]))
            have t0 : 0 ≤ (0 : Int64).toInt ∧ (0 : Int64).toInt ≤ 0 * 2305843009213693951 := by decide
            have t1 := own_sum (0 : Int64) xx 0 t0 (by decide) Bxx
            have t2 := own_sum ((0 : Int64) + xx) yy 1 t1 (by decide) Byy
            have t3 := own_sum (((0 : Int64) + xx) + yy) xx 2 t2 (by decide) Bxx
            have key := own_key ((((0 : Int64) + xx) + yy) + xx) zz sl (by omega) Bzz Bsl
            have hd174 : (if own_room zz cl sl (3 : Int32) ((((0 : Int64) + xx) + yy) + xx) then 1 else 0) = (0 : Int32) := by simp only [own_room, decide_true, decide_false, Bool.or_true, Bool.true_or, Bool.true_and, Bool.and_true, Bool.false_or, Bool.or_false, decide_eq_false hc164, decide_eq_true hc170, show decide ((3 : Int32) = 0) = false from by decide, decide_eq_false hc171, decide_eq_true (key.mpr hc173)] <;> rfl
            refine Go.by (fun _ kont => XS.icmpNo X163.here hx rfl (hb hby at_185) rfl (teq hd174).2 kont) ?_
            show Go _ _ _ _ _ _ _ (T163.setTop (mkF m 188 #[.val (.int c0), .val (.long s0), .second, .val (.int k0), .val (.long a1), .second, .val (.long b1), .second, .val (.long z1), .second, .val (.int cl), .val (.long sl), .second, .val (.int (3 : Int32)), .val (.long xx), .second, .val (.long yy), .second, .val (.long zz), .second, .val (.ref b153), .val (.long ((((0 : Int64) + xx) + yy) + xx)), .second, .val (.int (if own_room zz cl sl (3 : Int32) ((((0 : Int64) + xx) + yy) + xx) then 1 else 0)), .val (.int (0 : Int32))] []))
            refine Go.by (fun _ kont => XS.iconst X163.here hx rfl (hb hby at_188) (XS.goto X163.here hx rfl (pc0 := 189) (pc' := 193) rfl (hb hby at_189) (by decide) (by decide) kont)) ?_
            show Go _ _ _ _ _ _ _ (T163.setTop (mkF m 193 #[.val (.int c0), .val (.long s0), .second, .val (.int k0), .val (.long a1), .second, .val (.long b1), .second, .val (.long z1), .second, .val (.int cl), .val (.long sl), .second, .val (.int (3 : Int32)), .val (.long xx), .second, .val (.long yy), .second, .val (.long zz), .second, .val (.ref b153), .val (.long ((((0 : Int64) + xx) + yy) + xx)), .second, .val (.int (if own_room zz cl sl (3 : Int32) ((((0 : Int64) + xx) + yy) + xx) then 1 else 0)), .val (.int (0 : Int32))] [(.int (1 : Int32))]))
            refine Go.retN X163 hx (t := .boolean) hret (by simp) hlk (hb hby at_193) ?_ (by decide) (by decide)
            show Q0 Z h0 n0 (some (.int (1 : Int32))) T163.heap _
            rw [eh163]
            exact ⟨rfl, N163⟩
          · refine Go.by (fun _ kont => XS.ifNo X163.here hx rfl (hb hby at_171) rfl ((if0 _ _).trans (flt (fun z => hc173 ((lw_gt _ _).mp z))).2.2.1) kont) ?_
            show Go _ _ _ _ _ _ _ (T163.setTop (mkF m 174 #[.val (.int c0), .val (.long s0), .second, .val (.int k0), .val (.long a1), .second, .val (.long b1), .second, .val (.long z1), .second, .val (.int cl), .val (.long sl), .second, .val (.int (3 : Int32)), .val (.long xx), .second, .val (.long yy), .second, .val (.long zz), .second, .val (.ref b153), .val (.long ((((0 : Int64) + xx) + yy) + xx)), .second, .val (.int (if own_room zz cl sl (3 : Int32) ((((0 : Int64) + xx) + yy) + xx) then 1 else 0)), .unset] []))
            refine Go.by (fun _ kont => XS.iconst X163.here hx rfl (hb hby at_174) (XS.goto X163.here hx rfl (pc0 := 175) (pc' := 179) rfl (hb hby at_175) (by decide) (by decide) (XS.istore X163.here hx rfl (hb hby at_179) rfl (l' := #[.val (.int c0), .val (.long s0), .second, .val (.int k0), .val (.long a1), .second, .val (.long b1), .second, .val (.long z1), .second, .val (.int cl), .val (.long sl), .second, .val (.int (3 : Int32)), .val (.long xx), .second, .val (.long yy), .second, .val (.long zz), .second, .val (.ref b153), .val (.long ((((0 : Int64) + xx) + yy) + xx)), .second, .val (.int (if own_room zz cl sl (3 : Int32) ((((0 : Int64) + xx) + yy) + xx) then 1 else 0)), .val (.int (1 : Int32))]) rfl (XS.iload X163.here hx rfl (hb hby at_181) rfl (XS.iload X163.here hx rfl (hb hby at_183) rfl kont))))) ?_
            show Go _ _ _ _ _ _ _ (T163.setTop (mkF m 185 #[.val (.int c0), .val (.long s0), .second, .val (.int k0), .val (.long a1), .second, .val (.long b1), .second, .val (.long z1), .second, .val (.int cl), .val (.long sl), .second, .val (.int (3 : Int32)), .val (.long xx), .second, .val (.long yy), .second, .val (.long zz), .second, .val (.ref b153), .val (.long ((((0 : Int64) + xx) + yy) + xx)), .second, .val (.int (if own_room zz cl sl (3 : Int32) ((((0 : Int64) + xx) + yy) + xx) then 1 else 0)), .val (.int (1 : Int32))] [(.int (1 : Int32)), (.int (if own_room zz cl sl (3 : Int32) ((((0 : Int64) + xx) + yy) + xx) then 1 else 0))]))
            have t0 : 0 ≤ (0 : Int64).toInt ∧ (0 : Int64).toInt ≤ 0 * 2305843009213693951 := by decide
            have t1 := own_sum (0 : Int64) xx 0 t0 (by decide) Bxx
            have t2 := own_sum ((0 : Int64) + xx) yy 1 t1 (by decide) Byy
            have t3 := own_sum (((0 : Int64) + xx) + yy) xx 2 t2 (by decide) Bxx
            have key := own_key ((((0 : Int64) + xx) + yy) + xx) zz sl (by omega) Bzz Bsl
            have hd175 : (if own_room zz cl sl (3 : Int32) ((((0 : Int64) + xx) + yy) + xx) then 1 else 0) = (1 : Int32) := by simp only [own_room, decide_true, decide_false, Bool.or_true, Bool.true_or, Bool.true_and, Bool.and_true, Bool.false_or, Bool.or_false, decide_eq_false hc164, decide_eq_true hc170, show decide ((3 : Int32) = 0) = false from by decide, decide_eq_false hc171, decide_eq_false (fun z => hc173 (key.mp z))] <;> rfl
            refine Go.by (fun _ kont => XS.icmpNo X163.here hx rfl (hb hby at_185) rfl (teq hd175).2 kont) ?_
            show Go _ _ _ _ _ _ _ (T163.setTop (mkF m 188 #[.val (.int c0), .val (.long s0), .second, .val (.int k0), .val (.long a1), .second, .val (.long b1), .second, .val (.long z1), .second, .val (.int cl), .val (.long sl), .second, .val (.int (3 : Int32)), .val (.long xx), .second, .val (.long yy), .second, .val (.long zz), .second, .val (.ref b153), .val (.long ((((0 : Int64) + xx) + yy) + xx)), .second, .val (.int (if own_room zz cl sl (3 : Int32) ((((0 : Int64) + xx) + yy) + xx) then 1 else 0)), .val (.int (1 : Int32))] []))
            refine Go.by (fun _ kont => XS.iconst X163.here hx rfl (hb hby at_188) (XS.goto X163.here hx rfl (pc0 := 189) (pc' := 193) rfl (hb hby at_189) (by decide) (by decide) kont)) ?_
            show Go _ _ _ _ _ _ _ (T163.setTop (mkF m 193 #[.val (.int c0), .val (.long s0), .second, .val (.int k0), .val (.long a1), .second, .val (.long b1), .second, .val (.long z1), .second, .val (.int cl), .val (.long sl), .second, .val (.int (3 : Int32)), .val (.long xx), .second, .val (.long yy), .second, .val (.long zz), .second, .val (.ref b153), .val (.long ((((0 : Int64) + xx) + yy) + xx)), .second, .val (.int (if own_room zz cl sl (3 : Int32) ((((0 : Int64) + xx) + yy) + xx) then 1 else 0)), .val (.int (1 : Int32))] [(.int (1 : Int32))]))
            refine Go.retN X163 hx (t := .boolean) hret (by simp) hlk (hb hby at_193) ?_ (by decide) (by decide)
            show Q0 Z h0 n0 (some (.int (1 : Int32))) T163.heap _
            rw [eh163]
            exact ⟨rfl, N163⟩
      · refine Go.by (fun _ kont => XS.icmpNo X163.here hx rfl (hb hby at_136) rfl (flt hc170).1 kont) ?_
        show Go _ _ _ _ _ _ _ (T163.setTop (mkF m 139 #[.val (.int c0), .val (.long s0), .second, .val (.int k0), .val (.long a1), .second, .val (.long b1), .second, .val (.long z1), .second, .val (.int cl), .val (.long sl), .second, .val (.int (3 : Int32)), .val (.long xx), .second, .val (.long yy), .second, .val (.long zz), .second, .val (.ref b153), .val (.long ((((0 : Int64) + xx) + yy) + xx)), .second, .val (.int (if own_room zz cl sl (3 : Int32) ((((0 : Int64) + xx) + yy) + xx) then 1 else 0)), .unset] []))
        refine Go.by (fun _ kont => XS.iconst X163.here hx rfl (hb hby at_139) (XS.istore X163.here hx rfl (hb hby at_140) rfl (l' := #[.val (.int c0), .val (.long s0), .second, .val (.int k0), .val (.long a1), .second, .val (.long b1), .second, .val (.long z1), .second, .val (.int cl), .val (.long sl), .second, .val (.int (3 : Int32)), .val (.long xx), .second, .val (.long yy), .second, .val (.long zz), .second, .val (.ref b153), .val (.long ((((0 : Int64) + xx) + yy) + xx)), .second, .val (.int (if own_room zz cl sl (3 : Int32) ((((0 : Int64) + xx) + yy) + xx) then 1 else 0)), .val (.int (0 : Int32))]) rfl (XS.goto X163.here hx rfl (pc0 := 142) (pc' := 181) rfl (hb hby at_142) (by decide) (by decide) (XS.iload X163.here hx rfl (hb hby at_181) rfl (XS.iload X163.here hx rfl (hb hby at_183) rfl kont))))) ?_
        show Go _ _ _ _ _ _ _ (T163.setTop (mkF m 185 #[.val (.int c0), .val (.long s0), .second, .val (.int k0), .val (.long a1), .second, .val (.long b1), .second, .val (.long z1), .second, .val (.int cl), .val (.long sl), .second, .val (.int (3 : Int32)), .val (.long xx), .second, .val (.long yy), .second, .val (.long zz), .second, .val (.ref b153), .val (.long ((((0 : Int64) + xx) + yy) + xx)), .second, .val (.int (if own_room zz cl sl (3 : Int32) ((((0 : Int64) + xx) + yy) + xx) then 1 else 0)), .val (.int (0 : Int32))] [(.int (0 : Int32)), (.int (if own_room zz cl sl (3 : Int32) ((((0 : Int64) + xx) + yy) + xx) then 1 else 0))]))
        have hd176 : (if own_room zz cl sl (3 : Int32) ((((0 : Int64) + xx) + yy) + xx) then 1 else 0) = (0 : Int32) := by simp only [own_room, decide_true, decide_false, Bool.or_true, Bool.true_or, Bool.true_and, Bool.and_true, Bool.false_or, Bool.or_false, decide_eq_false hc164, decide_eq_false hc170, show decide ((3 : Int32) = 0) = false from by decide] <;> rfl
        refine Go.by (fun _ kont => XS.icmpNo X163.here hx rfl (hb hby at_185) rfl (teq hd176).2 kont) ?_
        show Go _ _ _ _ _ _ _ (T163.setTop (mkF m 188 #[.val (.int c0), .val (.long s0), .second, .val (.int k0), .val (.long a1), .second, .val (.long b1), .second, .val (.long z1), .second, .val (.int cl), .val (.long sl), .second, .val (.int (3 : Int32)), .val (.long xx), .second, .val (.long yy), .second, .val (.long zz), .second, .val (.ref b153), .val (.long ((((0 : Int64) + xx) + yy) + xx)), .second, .val (.int (if own_room zz cl sl (3 : Int32) ((((0 : Int64) + xx) + yy) + xx) then 1 else 0)), .val (.int (0 : Int32))] []))
        refine Go.by (fun _ kont => XS.iconst X163.here hx rfl (hb hby at_188) (XS.goto X163.here hx rfl (pc0 := 189) (pc' := 193) rfl (hb hby at_189) (by decide) (by decide) kont)) ?_
        show Go _ _ _ _ _ _ _ (T163.setTop (mkF m 193 #[.val (.int c0), .val (.long s0), .second, .val (.int k0), .val (.long a1), .second, .val (.long b1), .second, .val (.long z1), .second, .val (.int cl), .val (.long sl), .second, .val (.int (3 : Int32)), .val (.long xx), .second, .val (.long yy), .second, .val (.long zz), .second, .val (.ref b153), .val (.long ((((0 : Int64) + xx) + yy) + xx)), .second, .val (.int (if own_room zz cl sl (3 : Int32) ((((0 : Int64) + xx) + yy) + xx) then 1 else 0)), .val (.int (0 : Int32))] [(.int (1 : Int32))]))
        refine Go.retN X163 hx (t := .boolean) hret (by simp) hlk (hb hby at_193) ?_ (by decide) (by decide)
        show Q0 Z h0 n0 (some (.int (1 : Int32))) T163.heap _
        rw [eh163]
        exact ⟨rfl, N163⟩

set_option maxRecDepth 65536 in
set_option maxHeartbeats 40000000 in
theorem comes_1 {Post : Tables → Env → Array Value → State → Outcome → State → Prop} (hpost : ∀ tb e args s v u, (limb_1_1.after args s (.returned v) u = true ∧ limb_1_2.after args s (.returned v) u = true ∧ True) → FrameEnd s (.returned v) u (Jvm.fieldLocs frame_1_writes args s ++ Jvm.arrayLocs frame_1_arrays args s ++ Jvm.staticLocs frame_1_statics s) 16 128 → Post tb e args s (.returned v) u) :
    ArmFor flags0 classFile x code maxLocals ret World_1 tables_1 room_1 Calls_1 rest_1 Pre_1 Post := by
  intro l hfl _ _ p e ha hc hk s m args below hf hA hF happ hP
  obtain ⟨hcalls, hrest, hpre⟩ := hP
  obtain ⟨-, -, -, hnamed, -, -, -, hat⟩ := (Spec.applies_iff hf).mp happ
  obtain ⟨hg, hn⟩ := and_e (Cond.before_iff.mp (show (Jvm.Cond.and given_1 narrow_1).before args s = true from hpre))
  obtain ⟨hh1, hh2⟩ := and_e hg
  obtain ⟨hh3, hh4⟩ := and_e hh2
  obtain ⟨hh5, hh6⟩ := and_e hh4
  obtain ⟨hh7, hh8⟩ := and_e hh6
  obtain ⟨hh9, hh10⟩ := and_e hh8
  obtain ⟨hh11, hh12⟩ := and_e hh10
  obtain ⟨w0, w1, w2, w3, w4, w5, rfl⟩ : ∃ w0 w1 w2 w3 w4 w5 : Value, args = #[w0, w1, w2, w3, w4, w5] := by
    have hs : args.size = 6 := by simpa [Cond.value, given_1] using hh1
    obtain ⟨L⟩ := args
    match L, hs with
    | [w0, w1, w2, w3, w4, w5], _ => exact ⟨w0, w1, w2, w3, w4, w5, rfl⟩
  have hw := fun d (hd : d ∈ tables_1) => atoms_spec (ws := Jvm.Cond.code x code maxLocals ret :: tables_1) hat d (List.mem_cons_of_mem _ hd)
  obtain ⟨i0, ei0⟩ := is_v hh3
  obtain rfl : w0 = (.int i0) := Option.some.inj ei0
  obtain ⟨i1, ei1⟩ := isL_v hh5
  obtain rfl : w1 = (.long i1) := Option.some.inj ei1
  obtain ⟨i2, ei2⟩ := is_v hh7
  obtain rfl : w2 = (.int i2) := Option.some.inj ei2
  obtain ⟨i3, ei3⟩ := isL_v hh9
  obtain rfl : w3 = (.long i3) := Option.some.inj ei3
  obtain ⟨i4, ei4⟩ := isL_v hh11
  obtain rfl : w4 = (.long i4) := Option.some.inj ei4
  obtain ⟨i5, ei5⟩ := isL_v hh12
  obtain rfl : w5 = (.long i5) := Option.some.inj ei5
  obtain ⟨n, o, h1, h2, h3, _, L, rfl, ⟨rfl, N⟩, hq⟩ := rm0 l s _ hw tables_1 i0 i1 i2 i3 i4 i5  s.heap s.heap.size (Nat.le_refl _)  p e ha hc hk s m _ below hf ((Spec.applies_iff_loose hf).mp happ).1 ⟨rfl, State.Warmed39.refl s, rfl⟩ trivial
  refine ⟨n, _, h1, h2, h3, hpost _ _ _ _ _ _ ⟨Cond.after_iff.mpr rfl, Cond.after_iff.mpr (eq_i res_at (Term.int_eval (1)) rfl), trivial⟩ ⟨hq.1, hq.2.1, (hq.2.2.sift fun y hy => Or.inr (N y hy)).mono (by decide) (by decide)⟩⟩
theorem main_1_1 : Claimed_1_1 := comes_1 fun _ _ _ _ _ _ h hF => ⟨h.1, hF⟩
theorem main_1_2 : Claimed_1_2 := comes_1 fun _ _ _ _ _ _ h hF => ⟨h.2.1, hF⟩

end Jvm.Pilot.@@N@@
namespace Jvm.Pilot.@@N@@
open Jvm Jvm.ClassFile Sem Op Lib Jvm.Free Jvm.Stand Jvm.Pilot.@@N@@.Jvm.D
/-! MADE BY PROGRAM (witnessworld.py) out of the Statement's table words and the real class files: 9 classes; the members and pool entries that the words name. The judged class is class 1, her method 1. -/
namespace start1
open Jvm.ClassFile
def u (s : String) : CpInfo := .utf8 (stringToUtf16 s)
/-- a pool by its gaps: so many unusable entries, then the entry; so many at the end -/
def gap : Nat → List CpInfo → List CpInfo
  | 0, r => r
  | n + 1, r => .unusable :: gap n r
def poolList (es : List (Nat × CpInfo)) (last : Nat) : List CpInfo := es.foldr (fun e r => gap e.1 (e.2 :: r)) (gap last [])
def pool (es : List (Nat × CpInfo)) (last : Nat) : Array CpInfo := ⟨poolList es last⟩
def fileOf (pool : Array CpInfo) (this : Nat) (attrs : Array Attribute := #[]) (ms : Array MethodInfo := #[]) (fl : Nat := 33) (sup : Nat := 0) (ifs : Array Nat := #[]) (fds : Array FieldInfo := #[]) : ClassFile where
  minorVersion := 0
  majorVersion := 65
  constantPool := pool
  accessFlags := fl
  thisClass := this
  superClass := sup
  interfaces := ifs
  fields := fds
  methods := ms
  attributes := attrs
def plain (name : String) (sup : Option ClassId) : Class where
  name := name
  kind := .ordinary
  loader := none
  accessFlags := 33
  super := sup
  interfaces := #[]
  cf := none
  fields := #[]
  methods := #[]
  instanceTypes := #[]
  staticTypes := #[]
  resolved := #[]
  callSites := []
  init := .initialized
  statics := none
  mirror := none

def pool0 : Array CpInfo := pool [(5, u "<init>"), (0, u "()V"), (1, .class_ 10), (1, u "java/lang/Object")] 113

def k0c0 : Code := { maxStack := 0, maxLocals := 1, code := object_method_1_code, exceptionTable := #[], attributes := #[] }
def k0m0 : Method := { name := "<init>", desc := "()V", sig := { parameters := [], returnType := none }, accessFlags := 1, code := some k0c0 }
/-- java/lang/Object -/
def k0 : Class := { plain "java/lang/Object" none with
  accessFlags := 33
  interfaces := #[]
  cf := some (fileOf pool0 8 #[] #[{ accessFlags := 1, nameIndex := 5, descriptorIndex := 6, attributes := #[] }] 33 0 #[] #[])
  fields := #[]
  methods := #[k0m0]
  instanceTypes := #[]
  staticTypes := #[]
  resolved := Array.replicate 124 none
  statics := none }

def pool1 : Array CpInfo := pool [(2, .class_ 4), (1, u "java/lang/Object"), (0, u "<init>"), (0, u "()V"), (0, .integer 65535), (0, .long 4294967295), (1, .class_ 11), (0, u "com/example/kyu/kyu/PrefetchWindowHasRoomForPinLaw"), (0, .long 2305843009213693951), (1, .class_ 15), (0, u "com/example/kyu/kyu/PrefetchWindow"), (0, .methodref 14 17), (0, .nameAndType 5 18), (0, u "(IJ)V"), (0, .methodref 14 20), (0, .nameAndType 21 22), (0, u "add"), (0, u "(J)V"), (0, .methodref 14 24), (0, .nameAndType 25 26), (0, u "hasRoomFor"), (0, u "(J)Z"), (0, u "M"), (0, u "J"), (3, u "law"), (0, u "(IJIJJJ)Z")] 3

def k1m0 : Method := { name := "<init>", desc := "()V", sig := { parameters := [], returnType := none }, accessFlags := 1, code := none }
def k1c1 : Code := { maxStack := 6, maxLocals := 25, code := code, exceptionTable := #[], attributes := #[] }
def k1m1 : Method := { name := "law", desc := "(IJIJJJ)Z", sig := { parameters := [.int, .long, .int, .long, .long, .long], returnType := some .boolean }, accessFlags := 9, code := some k1c1 }
/-- com/example/kyu/kyu/PrefetchWindowHasRoomForPinLaw -/
def k1 : Class := { plain "com/example/kyu/kyu/PrefetchWindowHasRoomForPinLaw" (some 0) with
  accessFlags := 49
  interfaces := #[]
  cf := some (fileOf pool1 10 #[] #[{ accessFlags := 1, nameIndex := 5, descriptorIndex := 6, attributes := #[] }, { accessFlags := 9, nameIndex := 32, descriptorIndex := 33, attributes := #[] }] 49 2 #[] #[{ accessFlags := 26, nameIndex := 27, descriptorIndex := 28, attributes := #[] }])
  fields := #[{ name := "M", type := .long, accessFlags := 26, slot := 0, constantValue := 0 }]
  methods := #[k1m0, k1m1]
  instanceTypes := #[]
  staticTypes := #[.long]
  resolved := Array.replicate 37 none
  statics := none }

def pool2 : Array CpInfo := pool [(1, .methodref 2 3), (0, .class_ 4), (0, .nameAndType 5 6), (0, u "java/lang/Object"), (0, u "<init>"), (0, u "()V"), (0, .fieldref 8 9), (0, .class_ 10), (0, .nameAndType 11 12), (0, u "com/example/kyu/kyu/PrefetchWindow"), (0, u "countLimit"), (0, u "I"), (0, .fieldref 8 14), (0, .nameAndType 15 16), (0, u "sizeLimit"), (0, u "J"), (0, .fieldref 8 18), (0, .nameAndType 19 12), (0, u "count"), (0, .fieldref 8 21), (0, .nameAndType 22 16), (0, u "size"), (0, u "(IJ)V"), (3, u "hasRoomFor"), (0, u "(J)Z"), (1, u "add"), (0, u "(J)V")] 3

def k2c0 : Code := { maxStack := 3, maxLocals := 4, code := prog_6_method_1_code, exceptionTable := #[], attributes := #[] }
def k2m0 : Method := { name := "<init>", desc := "(IJ)V", sig := { parameters := [.int, .long], returnType := none }, accessFlags := 0, code := some k2c0 }
def k2c1 : Code := { maxStack := 4, maxLocals := 5, code := prog_6_method_3_code, exceptionTable := #[], attributes := #[] }
def k2m1 : Method := { name := "hasRoomFor", desc := "(J)Z", sig := { parameters := [.long], returnType := some .boolean }, accessFlags := 0, code := some k2c1 }
def k2c2 : Code := { maxStack := 5, maxLocals := 3, code := prog_6_method_4_code, exceptionTable := #[], attributes := #[] }
def k2m2 : Method := { name := "add", desc := "(J)V", sig := { parameters := [.long], returnType := none }, accessFlags := 0, code := some k2c2 }
/-- com/example/kyu/kyu/PrefetchWindow -/
def k2 : Class := { plain "com/example/kyu/kyu/PrefetchWindow" (some 0) with
  accessFlags := 32
  interfaces := #[]
  cf := some (fileOf pool2 8 #[] #[{ accessFlags := 0, nameIndex := 5, descriptorIndex := 23, attributes := #[] }, { accessFlags := 0, nameIndex := 27, descriptorIndex := 28, attributes := #[] }, { accessFlags := 0, nameIndex := 30, descriptorIndex := 31, attributes := #[] }] 32 2 #[] #[{ accessFlags := 2, nameIndex := 11, descriptorIndex := 12, attributes := #[] }, { accessFlags := 2, nameIndex := 15, descriptorIndex := 16, attributes := #[] }, { accessFlags := 2, nameIndex := 19, descriptorIndex := 12, attributes := #[] }, { accessFlags := 2, nameIndex := 22, descriptorIndex := 16, attributes := #[] }])
  fields := #[{ name := "countLimit", type := .int, accessFlags := 2, slot := 0, constantValue := 0 }, { name := "sizeLimit", type := .long, accessFlags := 2, slot := 1, constantValue := 0 }, { name := "count", type := .int, accessFlags := 2, slot := 2, constantValue := 0 }, { name := "size", type := .long, accessFlags := 2, slot := 3, constantValue := 0 }]
  methods := #[k2m0, k2m1, k2m2]
  instanceTypes := #[.int, .long, .int, .long]
  staticTypes := #[]
  resolved := Array.replicate 35 none
  statics := none }

def pool3 : Array CpInfo := pool [(1, u "java/lang/Cloneable"), (0, .class_ 1), (0, u "java/lang/Object"), (0, .class_ 3)] 3

/-- java/lang/Cloneable -/
def k3 : Class := { plain "java/lang/Cloneable" (some 0) with
  accessFlags := 1537
  interfaces := #[]
  cf := some (fileOf pool3 2 #[] #[] 1537 4 #[] #[])
  fields := #[]
  methods := #[]
  instanceTypes := #[]
  staticTypes := #[]
  resolved := Array.replicate 8 none
  statics := none }

def pool4 : Array CpInfo := pool [(1, u "java/io/Serializable"), (0, .class_ 1), (0, u "java/lang/Object"), (0, .class_ 3)] 3

/-- java/io/Serializable -/
def k4 : Class := { plain "java/io/Serializable" (some 0) with
  accessFlags := 1537
  interfaces := #[]
  cf := some (fileOf pool4 2 #[] #[] 1537 4 #[] #[])
  fields := #[]
  methods := #[]
  instanceTypes := #[]
  staticTypes := #[]
  resolved := Array.replicate 8 none
  statics := none }

/-- the primitive byte -/
def k5 : Class := { plain "byte" none with kind := .primitive 'B', accessFlags := 0x411 }
/-- [B -/
def k6 : Class := { plain "[B" (some 0) with kind := .array 5 .byte, interfaces := #[3, 4], accessFlags := 1041 }

/-- the primitive int -/
def k7 : Class := { plain "int" none with kind := .primitive 'I', accessFlags := 0x411 }
/-- [I -/
def k8 : Class := { plain "[I" (some 0) with kind := .array 7 .int, interfaces := #[3, 4], accessFlags := 1041 }

def heap : Heap := #[]
def classes : Array Class := #[k0, k1, k2, k3, k4, k5, k6, k7, k8]
def interned : List (Array UInt16 × Addr) := []
def slotsUsed : Nat := 0
def theMethod : MethodId := ⟨1, 1⟩
def args0 : Array Value := #[.int 4, .long 300, .int 2, .long 5, .long 6, .long 7]
def aboutOver (below : List Frame) : State where
  vm := { classes := classes, interned := interned.toArray }
  heap := heap
  slotsUsed := slotsUsed
  threads := #[{ frames := .invoking theMethod args0 :: below }]
def below0 : List Frame := [.native { method := ⟨0, 0⟩, args := #[] }]
def about1 : State := aboutOver below0
def p0 : Program := .bare "" "" ""
def e0 : Env := launch0.env 0 0 0
theorem w_frames : about1.frames = Frame.invoking theMethod args0 :: below0 := rfl
set_option maxRecDepth 65536 in
theorem w_args : argsFit about1.vm theMethod args0 = true := by decide +kernel
set_option maxRecDepth 65536 in
theorem w_heap : heapFits about1 = true := by decide +kernel
set_option maxRecDepth 65536 in
theorem w_runnable : about1.curStatus? = some .runnable := by decide +kernel
set_option maxRecDepth 65536 in
theorem w_alone : about1.alone = true := by decide +kernel
set_option maxRecDepth 65536 in
theorem w_named : about1.methodNamed? x = some theMethod := by decide +kernel
set_option maxRecDepth 65536 in
theorem w_hears : about1.hears theMethod below0 = true := by decide +kernel
set_option maxRecDepth 65536 in
theorem w_ripe : about1.ripe theMethod args0 below0 = true := by decide +kernel
theorem w_running : about1.status = .running := rfl
set_option maxRecDepth 65536 in
theorem w_room : about1.hasRoom e0.platform room_1 = true :=
  launch0.hasRoom_least _ room_1 (by decide +kernel) (by decide +kernel) (by decide +kernel) (by decide +kernel) (by decide +kernel) (by decide +kernel)
theorem allAtoms_all (ts : List Jvm.Cond) (a : Array Jvm.Value) (st : Jvm.State) : (allAtoms ts).before a st = ts.all (fun c => c.before a st) := by
  induction ts with
  | nil => rfl
  | cons c t ih =>
    show (Jvm.Cond.and c (allAtoms t)).before a st = _
    rw [Jvm.Cond.before_and, ih, List.all_cons]
def words1 : List Jvm.Cond := Jvm.Cond.code x code maxLocals ret :: tables_1
/-- a 'code' word, met by the world's own term for the bytes: nothing is compared byte by byte -/
theorem code_word {y : MethodName} {bytes : ByteArray} {mx : Nat} {rt : Option FieldType} {a : Array Value} {s : State} {m : MethodId} {meth : Method} {c : Code} (h1 : s.methodNamed? y = some m) (h2 : s.vm.method? m = some meth) (h3 : meth.code = some c) (h4 : c.code = bytes)
    (h5 : (c.maxLocals == mx && c.exceptionTable.isEmpty && decide (c.maxStack ≤ mostOperands) && decide (meth.sig.returnType = rt) && !meth.locks && decide (parseMethodDescriptor y.desc = some meth.sig)) = true) : (Jvm.Cond.code y bytes mx rt).before a s = true := by
  simp only [Bool.and_eq_true, beq_iff_eq, Bool.not_eq_true', decide_eq_true_eq] at h5
  obtain ⟨⟨⟨⟨⟨g1, g2⟩, g3⟩, g4⟩, g5⟩, g6⟩ := h5
  simp [Cond.before, Cond.holds, Cond.value, h1, h2, h3, h4, g1, g2, g3, g4, g5, g6]
def isCode : Jvm.Cond → Bool
  | .code _ _ _ _ => true
  | _ => false
theorem all_split {L : List Jvm.Cond} {P : Jvm.Cond → Bool} (h1 : L.all (fun c => isCode c || P c) = true) (h2 : ∀ c ∈ L.filter isCode, P c = true) : L.all P = true := by
  refine List.all_eq_true.mpr fun c hc => ?_
  have h := List.all_eq_true.mp h1 c hc
  rcases Bool.eq_false_or_eq_true (isCode c) with hi | hi
  · exact h2 c (List.mem_filter.mpr ⟨hc, hi⟩)
  · simpa [hi] using h
set_option maxRecDepth 65536 in
theorem w_c0 : (Jvm.Cond.code x code maxLocals ret).before args0 about1 = true := code_word (m := ⟨1, 1⟩) (meth := k1m1) (c := k1c1) (by decide +kernel) rfl rfl rfl (by decide +kernel)
set_option maxRecDepth 65536 in
theorem w_c1 : (Jvm.Cond.code ({ cls := "com/example/kyu/kyu/PrefetchWindow", name := "<init>", desc := "(IJ)V" } : Jvm.MethodName) prog_6_method_1_code (4 : Nat) (Option.none : Option Jvm.ClassFile.FieldType)).before args0 about1 = true := code_word (m := ⟨2, 0⟩) (meth := k2m0) (c := k2c0) (by decide +kernel) rfl rfl rfl (by decide +kernel)
set_option maxRecDepth 65536 in
theorem w_c2 : (Jvm.Cond.code ({ cls := "java/lang/Object", name := "<init>", desc := "()V" } : Jvm.MethodName) object_method_1_code (1 : Nat) (Option.none : Option Jvm.ClassFile.FieldType)).before args0 about1 = true := code_word (m := ⟨0, 0⟩) (meth := k0m0) (c := k0c0) (by decide +kernel) rfl rfl rfl (by decide +kernel)
set_option maxRecDepth 65536 in
theorem w_c3 : (Jvm.Cond.code ({ cls := "com/example/kyu/kyu/PrefetchWindow", name := "add", desc := "(J)V" } : Jvm.MethodName) prog_6_method_4_code (3 : Nat) (Option.none : Option Jvm.ClassFile.FieldType)).before args0 about1 = true := code_word (m := ⟨2, 2⟩) (meth := k2m2) (c := k2c2) (by decide +kernel) rfl rfl rfl (by decide +kernel)
set_option maxRecDepth 65536 in
theorem w_c4 : (Jvm.Cond.code ({ cls := "com/example/kyu/kyu/PrefetchWindow", name := "hasRoomFor", desc := "(J)Z" } : Jvm.MethodName) prog_6_method_3_code (5 : Nat) (Option.some Jvm.ClassFile.FieldType.boolean)).before args0 about1 = true := code_word (m := ⟨2, 1⟩) (meth := k2m1) (c := k2c1) (by decide +kernel) rfl rfl rfl (by decide +kernel)
def codes1 : List Jvm.Cond := [Jvm.Cond.code x code maxLocals ret, Jvm.Cond.code ({ cls := "com/example/kyu/kyu/PrefetchWindow", name := "<init>", desc := "(IJ)V" } : Jvm.MethodName) prog_6_method_1_code (4 : Nat) (Option.none : Option Jvm.ClassFile.FieldType), Jvm.Cond.code ({ cls := "java/lang/Object", name := "<init>", desc := "()V" } : Jvm.MethodName) object_method_1_code (1 : Nat) (Option.none : Option Jvm.ClassFile.FieldType), Jvm.Cond.code ({ cls := "com/example/kyu/kyu/PrefetchWindow", name := "add", desc := "(J)V" } : Jvm.MethodName) prog_6_method_4_code (3 : Nat) (Option.none : Option Jvm.ClassFile.FieldType), Jvm.Cond.code ({ cls := "com/example/kyu/kyu/PrefetchWindow", name := "hasRoomFor", desc := "(J)Z" } : Jvm.MethodName) prog_6_method_3_code (5 : Nat) (Option.some Jvm.ClassFile.FieldType.boolean)]
set_option maxRecDepth 65536 in
theorem codes_eq : words1.filter isCode = codes1 := rfl
theorem w_codes : ∀ c ∈ words1.filter isCode, c.before args0 about1 = true := by
  rw [codes_eq]
  intro c hc
  simp only [codes1, List.mem_cons, List.not_mem_nil, or_false] at hc
  rcases hc with rfl | rfl | rfl | rfl | rfl
  · exact w_c0
  · exact w_c1
  · exact w_c2
  · exact w_c3
  · exact w_c4
set_option maxRecDepth 65536 in
theorem w_t1 : (words1.take 24).all (fun c => isCode c || c.before args0 about1) = true := by decide +kernel
set_option maxRecDepth 65536 in
theorem w_t2 : (words1.drop 24).all (fun c => isCode c || c.before args0 about1) = true := by decide +kernel
theorem w_tables : (allAtoms (Jvm.Cond.code x code maxLocals ret :: tables_1)).before args0 about1 = true := by
  rw [allAtoms_all]
  show words1.all (fun c => c.before args0 about1) = true
  refine all_split ?_ w_codes
  rw [← List.take_append_drop 24 words1, List.all_append, w_t1, w_t2]
  rfl
set_option maxRecDepth 65536 in
theorem w_case : (Jvm.Cond.and given_1 narrow_1).before args0 about1 = true := by decide +kernel
theorem w_applies : (headSpec (Jvm.Cond.code x code maxLocals ret :: tables_1) room_1).applies x e0.platform about1 = true :=
  (Spec.applies_iff w_frames).mpr ⟨w_running, w_runnable, w_alone, w_named, w_hears, w_ripe, w_room, w_tables⟩
theorem atStart : AtStart classFile x code maxLocals ret World_1 tables_1 room_1 Calls_1 rest_1 Pre_1 launch0 p0 e0 about1 theMethod args0 below0 :=
  ⟨lists_1, trivial, launch0.admits_env _ _ _, launch0.least_env, fairChoices_fair.cas, fairChoices_fair.clock, w_frames, w_args, w_heap, w_applies, trivial, trivial, w_case⟩
end start1
theorem witness_1 : WitnessClaimed_1 := ⟨start1.p0, start1.e0, start1.about1, start1.theMethod, start1.args0, start1.below0, start1.atStart⟩
end Jvm.Pilot.@@N@@
