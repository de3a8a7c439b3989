import JvmDerived
import JvmDerived.Pilot.@@N@@Statement
import JvmDerived.Pilot.@@N@@Code
set_option linter.unusedVariables false
set_option linter.unusedSimpArgs false
namespace Jvm.RoadKit
open Sem ClassFile Op Lib Jvm.Stand Jvm.Free Jvm.LawKit
section OwnGo
variable {p : Program} {l : Launch} {e : Env} {R : Room} {s : State} {m : MethodId} {args : Array Value} {below : List Frame} {meth : Method} {c : Code} {T T' : State} {locs : List Loc} {cells slots ck sk : Nat} {Q : Option Value → Heap → List Loc → Prop}
/-- from the state T the body comes to its end, with Q -/
def Go (p : Program) (e : Env) (below : List Frame) (s : State) (ck sk : Nat) (Q : Option Value → Heap → List Loc → Prop) (T : State) : Prop :=
  ∃ s₂ o, Steps p.tables e below T s₂ ∧ s₂.status = .running ∧ Ended s₂ below o ∧ ∃ v L, o = .returned v ∧ Q v s₂.heap L ∧ FrameEnd s o s₂ L ck sk
theorem Go.by (h : ∀ t, Steps p.tables e below T' t → Steps p.tables e below T t) (g : Go p e below s ck sk Q T') : Go p e below s ck sk Q T := by
  obtain ⟨s₂, o, h1, r⟩ := g
  exact ⟨s₂, o, h _ h1, r⟩
theorem Go.tr (h : Steps p.tables e below T T') (g : Go p e below s ck sk Q T') : Go p e below s ck sk Q T := by
  obtain ⟨s₂, o, h1, r⟩ := g
  exact ⟨s₂, o, h.trans h1, r⟩
theorem Go.fin (X : Stand p l e R s m args below meth c T locs cells slots) {v : Option Value} (hv : meth.sig.returnType = none → v = none) (hlk : meth.locks = false)
    (st : ∀ fs : List Frame, (∀ (f : JFrame) (acts : List Action), f.method = m → f.locked = none → f.entered = [] → (doReturn e (T.setTop f) acts v).1 = T.setFrames fs) → Steps p.tables e below T' (T.setFrames fs))
    (hq : Q v T.heap locs) (hc : cells ≤ ck) (hs : slots ≤ sk) : Go p e below s ck sk Q T' := by
  obtain ⟨fs, hr, hrun, hended, hW, hsame⟩ := X.leave hv hlk
  exact ⟨_, _, st fs hr, hrun, hended, _, _, rfl, hq, ⟨_, rfl⟩, hW, hsame.mono hc hs⟩
theorem Go.retV (X : Stand p l e R s m args below meth c T locs cells slots) (hx : p.tables.exec = Jvm.exec) {pc : Nat} {Ls : Array Slot} (hret : meth.sig.returnType = none) (hlk : meth.locks = false) (hd : decode c.code pc = .ok (.return_, 1))
    (hq : Q none T.heap locs) (hc : cells ≤ ck) (hs : slots ≤ sk) : Go p e below s ck sk Q (T.setTop (mkF m pc Ls [])) :=
  Go.fin X (fun _ => rfl) hlk (fun fs hr => X.returnOut hx hret hd hr) hq hc hs
theorem Go.retN (X : Stand p l e R s m args below meth c T locs cells slots) (hx : p.tables.exec = Jvm.exec) {pc : Nat} {Ls : Array Slot} {z : Int32} {t : FieldType} {rest : List Value} (hret : meth.sig.returnType = some t) (ht : t = .boolean ∨ t = .byte ∨ t = .char ∨ t = .short) (hlk : meth.locks = false) (hd : decode c.code pc = .ok (.ireturn, 1))
    (hq : Q (some (.int (nar t z))) T.heap locs) (hc : cells ≤ ck) (hs : slots ≤ sk) : Go p e below s ck sk Q (T.setTop (mkF m pc Ls (.int z :: rest))) :=
  Go.fin X (fun h => by rw [hret] at h; cases h) hlk (fun fs hr => Jvm.RoadKit.retN X hx hret ht hd hr) hq hc hs
theorem Go.retI (X : Stand p l e R s m args below meth c T locs cells slots) (hx : p.tables.exec = Jvm.exec) {pc : Nat} {Ls : Array Slot} {z : Int32} {rest : List Value} (hret : meth.sig.returnType = some .int) (hlk : meth.locks = false) (hd : decode c.code pc = .ok (.ireturn, 1))
    (hq : Q (some (.int z)) T.heap locs) (hc : cells ≤ ck) (hs : slots ≤ sk) : Go p e below s ck sk Q (T.setTop (mkF m pc Ls (.int z :: rest))) :=
  Go.fin X (fun h => by rw [hret] at h; cases h) hlk (fun fs hr => retOut X hx hret rfl (Or.inl ⟨rfl, Or.inl rfl, z, rfl⟩) hd hr) hq hc hs
theorem Go.retJ (X : Stand p l e R s m args below meth c T locs cells slots) (hx : p.tables.exec = Jvm.exec) {pc : Nat} {Ls : Array Slot} {z : Int64} {rest : List Value} (hret : meth.sig.returnType = some .long) (hlk : meth.locks = false) (hd : decode c.code pc = .ok (.lreturn, 1))
    (hq : Q (some (.long z)) T.heap locs) (hc : cells ≤ ck) (hs : slots ≤ sk) : Go p e below s ck sk Q (T.setTop (mkF m pc Ls (.long z :: rest))) :=
  Go.fin X (fun h => by rw [hret] at h; cases h) hlk (fun fs hr => retOut X hx hret rfl (Or.inr (Or.inl ⟨rfl, rfl, z, rfl⟩)) hd hr) hq hc hs
theorem Go.retR (X : Stand p l e R s m args below meth c T locs cells slots) (hx : p.tables.exec = Jvm.exec) {pc : Nat} {Ls : Array Slot} {w : Value} {t : FieldType} {rest : List Value} (hret : meth.sig.returnType = some t) (ht : t.isReference = true) (hw : w.isRef = true) (hlk : meth.locks = false) (hd : decode c.code pc = .ok (.areturn, 1))
    (hq : Q (some w) T.heap locs) (hc : cells ≤ ck) (hs : slots ≤ sk) : Go p e below s ck sk Q (T.setTop (mkF m pc Ls (w :: rest))) := by
  refine Go.fin X (fun h => by rw [hret] at h; cases h) hlk (fun fs hr => retOut X hx hret ?_ (Or.inr (Or.inr (Or.inr (Or.inr ⟨rfl, ht, hw⟩)))) hd hr) hq hc hs
  rcases ref_cases hw with rfl | ⟨a, rfl⟩ <;> cases t <;> first | rfl | cases ht
/-- the same where Strings may be interned on the way -/
def GoW (p : Program) (e : Env) (below : List Frame) (s : State) (ck sk : Nat) (Q : Option Value → Heap → List Loc → Prop) (T : State) : Prop :=
  ∃ s₂ o, Steps p.tables e below T s₂ ∧ s₂.status = .running ∧ Ended s₂ below o ∧ ∃ v L, o = .returned v ∧ Q v s₂.heap L ∧ ReturnedEndW s o s₂ L ck sk
theorem GoW.by (h : ∀ t, Steps p.tables e below T' t → Steps p.tables e below T t) (g : GoW p e below s ck sk Q T') : GoW p e below s ck sk Q T := by
  obtain ⟨s₂, o, h1, r⟩ := g
  exact ⟨s₂, o, h _ h1, r⟩
theorem GoW.tr (h : Steps p.tables e below T T') (g : GoW p e below s ck sk Q T') : GoW p e below s ck sk Q T := by
  obtain ⟨s₂, o, h1, r⟩ := g
  exact ⟨s₂, o, h.trans h1, r⟩
theorem GoW.fin {vm1 : Vm} {k1 : Nat} (X : Stand p l e R (s.setVm vm1) m args below meth c T locs cells slots) (hS : s.Since vm1 k1) (hk : k1 ≤ T.heap.size) {v : Option Value} (hv : meth.sig.returnType = none → v = none) (hlk : meth.locks = false)
    (st : ∀ fs : List Frame, (∀ (f : JFrame) (acts : List Action), f.method = m → f.locked = none → f.entered = [] → (doReturn e (T.setTop f) acts v).1 = T.setFrames fs) → Steps p.tables e below T' (T.setFrames fs))
    (hq : Q v T.heap locs) (hc : cells ≤ ck) (hs : slots ≤ sk) : GoW p e below s ck sk Q T' := by
  obtain ⟨fs, hr, hrun, hended, hW, hsame⟩ := X.leave hv hlk
  obtain ⟨q1, q2, q3⟩ := hS.ended (U := T.setFrames fs) hW hk hsame
  exact ⟨_, _, st fs hr, hrun, hended, _, _, rfl, hq, ⟨_, rfl⟩, q1, q2, q3.mono hc hs⟩
theorem GoW.retV {vm1 : Vm} {k1 : Nat} (X : Stand p l e R (s.setVm vm1) m args below meth c T locs cells slots) (hS : s.Since vm1 k1) (hk : k1 ≤ T.heap.size) (hx : p.tables.exec = Jvm.exec) {pc : Nat} {Ls : Array Slot} (hret : meth.sig.returnType = none) (hlk : meth.locks = false) (hd : decode c.code pc = .ok (.return_, 1))
    (hq : Q none T.heap locs) (hc : cells ≤ ck) (hs : slots ≤ sk) : GoW p e below s ck sk Q (T.setTop (mkF m pc Ls [])) :=
  GoW.fin X hS hk (fun _ => rfl) hlk (fun fs hr => X.returnOut hx hret hd hr) hq hc hs
theorem GoW.retN {vm1 : Vm} {k1 : Nat} (X : Stand p l e R (s.setVm vm1) m args below meth c T locs cells slots) (hS : s.Since vm1 k1) (hk : k1 ≤ T.heap.size) (hx : p.tables.exec = Jvm.exec) {pc : Nat} {Ls : Array Slot} {z : Int32} {t : FieldType} {rest : List Value} (hret : meth.sig.returnType = some t) (ht : t = .boolean ∨ t = .byte ∨ t = .char ∨ t = .short) (hlk : meth.locks = false) (hd : decode c.code pc = .ok (.ireturn, 1))
    (hq : Q (some (.int (nar t z))) T.heap locs) (hc : cells ≤ ck) (hs : slots ≤ sk) : GoW p e below s ck sk Q (T.setTop (mkF m pc Ls (.int z :: rest))) :=
  GoW.fin X hS hk (fun h => by rw [hret] at h; cases h) hlk (fun fs hr => Jvm.RoadKit.retN X hx hret ht hd hr) hq hc hs
theorem GoW.retR {vm1 : Vm} {k1 : Nat} (X : Stand p l e R (s.setVm vm1) m args below meth c T locs cells slots) (hS : s.Since vm1 k1) (hk : k1 ≤ T.heap.size) (hx : p.tables.exec = Jvm.exec) {pc : Nat} {Ls : Array Slot} {w : Value} {t : FieldType} {rest : List Value} (hret : meth.sig.returnType = some t) (ht : t.isReference = true) (hw : w.isRef = true) (hlk : meth.locks = false) (hd : decode c.code pc = .ok (.areturn, 1))
    (hq : Q (some w) T.heap locs) (hc : cells ≤ ck) (hs : slots ≤ sk) : GoW p e below s ck sk Q (T.setTop (mkF m pc Ls (w :: rest))) := by
  refine GoW.fin X hS hk (fun h => by rw [hret] at h; cases h) hlk (fun fs hr => retOut X hx hret ?_ (Or.inr (Or.inr (Or.inr (Or.inr ⟨rfl, ht, hw⟩)))) hd hr) hq hc hs
  rcases ref_cases hw with rfl | ⟨a, rfl⟩ <;> cases t <;> first | rfl | cases ht
end OwnGo
theorem own_selp {Z s : State} {a0 args : Array Value} {y : MethodName} {n : Nat} (hZ : Z.Warmed39 s.vm) (wi : (Cond.instantiable y.cls n).before a0 Z = true) (wp : (Cond.privateMethod y).before a0 Z = true) (wm : (Cond.instanceMethod y).before a0 Z = true) (hy : y.cls ≠ "java/lang/invoke/MethodHandle" ∧ y.cls ≠ "java/lang/invoke/VarHandle") : (Cond.selects y.cls y y).before args s = true := by
  obtain ⟨c, k, h1, h2, -, h4, -⟩ := Cond.instantiable_spec (mv (args := args) hZ wi)
  exact selects_self_of_private h1 h2 (by simpa using (Bool.or_eq_false_iff.mp h4).1) (Cond.privateMethod_at (mvP (args := args) hZ wp)) (mv hZ wm) hy
theorem own_zn {z : Int32} (h : z = (0 : Int32) ∨ z = (1 : Int32)) : narrow .boolean (.int z) = .int z := by rcases h with rfl | rfl <;> rfl
theorem own_zf {z : Int32} (h : z = (0 : Int32) ∨ z = (1 : Int32)) : fits .boolean (.int z) = true := by rcases h with rfl | rfl <;> rfl
theorem own_ns {Z : State} {h : Heap} {b : Addr} {C : String} (E : Exa Z h b C) : ∀ cell : Cell, h[b]? = some cell → cell.vm.isStatics = false := fun cell hc => by
  obtain ⟨c, _, h1, -, -, h4, -⟩ := E
  cases h1.symm.trans hc
  exact h4
theorem own_stakeep {Z : State} {h h' : Heap} {C n d : String} {v : Value} {ws : List Addr} (F : Sta Z h C n d v) (K : Keep h h' ws) (q : ∀ x ∈ ws, ∀ cell : Cell, h[x]? = some cell → cell.vm.isStatics = false) : Sta Z h' C n d v := by
  obtain ⟨cf, i, k, f, st, cell, h1, h2, h3, h4, h5, h6, h7⟩ := F
  refine ⟨cf, i, k, f, st, cell, h1, h2, h3, h4, K.2.1 st cell h5 fun z => ?_, h6, h7⟩
  rw [q st z cell h5] at h6
  cases h6
section OwnLong
variable {Z : State} {h h' : Heap} {a b : Addr} {k : ClassId} {n j : Int32} {x : Int64} {ws : List Addr} {sl : Nat} {v : Value}
/-- a long[] of the length n, whatever it holds -/
def LA (Z : State) (h : Heap) (a : Addr) (k : ClassId) (n : Int32) : Prop := ∃ c : Cell, Arr Z h a c .long ∧ c.cls = k ∧ c.slots.size = n.toNatClampNeg ∧ ¬ n < 0 ∧ ∀ i, i < c.slots.size → ∃ x : Int64, c.slots[i]? = some (.long x)
theorem LA.lt (F : LA Z h a k n) : a < h.size := by obtain ⟨c, A, -⟩ := F; exact A.lt
theorem LA.ext (F : LA Z h a k n) (E : Ext h h') : LA Z h' a k n := by obtain ⟨c, A, r⟩ := F; exact ⟨c, A.ext E, r⟩
theorem LA.other (F : LA Z h b k n) (W : Wr h h' a sl v) (q : b ≠ a) : LA Z h' b k n := by obtain ⟨c, A, r⟩ := F; exact ⟨c, A.other W q, r⟩
theorem LA.keep (F : LA Z h a k n) (K : Keep h h' ws) (q : a ∉ ws) : LA Z h' a k n := by obtain ⟨c, A, r⟩ := F; exact ⟨c, ⟨K.2.1 a c A.1 q, A.2⟩, r⟩
theorem LA.new (A : Arr Z h a (newA k .long n) .long) (q : ¬ n < 0) : LA Z h a k n := ⟨_, A, rfl, sz_new _ _ _, q, fun i hi => ⟨0, by
  have hi' : i < n.toNatClampNeg := by rw [sz_new] at hi; exact hi
  show (Array.replicate n.toNatClampNeg (defaultValue .long))[i]? = _
  simp [hi', defaultValue]⟩⟩
theorem LA.set {c : Cell} (A : Arr Z h a c .long) (q1 : c.cls = k) (S : c.slots.size = n.toNatClampNeg) (q3 : ¬ n < 0) (G : ∀ i, i < c.slots.size → ∃ x : Int64, c.slots[i]? = some (.long x)) (W : Wr h h' a sl (.long x)) : LA Z h' a k n := by
  refine ⟨_, A.same W, q1, by rw [sz_set]; exact S, q3, fun i hi => ?_⟩
  rw [sz_set] at hi
  by_cases e : sl = i
  · subst e; exact ⟨x, by simp [Cell.setSlot, hi]⟩
  · obtain ⟨y, hy⟩ := G i hi
    exact ⟨y, by rw [← hy]; exact Array.getElem?_setIfInBounds_ne e⟩
end OwnLong
section OwnStart
variable {args : Array Value} {s : State} {a b t : Term}
theorem own_eqI {n : Int32} (h : (Cond.eq a (.int n)).value args s none s [] = some true) : a.eval args s none [] s = some (.int n) := by
  cases ha : a.eval args s none [] s with
  | none => simp [Cond.value, ha] at h
  | some x => cases x <;> simp [Cond.value, ha, Term.eval] at h ⊢ <;> exact h
theorem own_eqL {n : Int64} (h : (Cond.eq a (.long n)).value args s none s [] = some true) : a.eval args s none [] s = some (.long n) := by
  cases ha : a.eval args s none [] s with
  | none => simp [Cond.value, ha] at h
  | some x => cases x <;> simp [Cond.value, ha, Term.eval] at h ⊢ <;> exact h
theorem own_eqR {x : Addr} (h : (Cond.eq a b).value args s none s [] = some true) (hb : b.eval args s none [] s = some (.ref x)) : a.eval args s none [] s = some (.ref x) := by
  cases ha : a.eval args s none [] s with
  | none => simp [Cond.value, ha] at h
  | some y => cases y <;> simp [Cond.value, ha, hb] at h ⊢ <;> exact h
theorem own_neR {x y : Addr} (h : (Cond.not (Cond.eq a b)).value args s none s [] = some true) (ha : a.eval args s none [] s = some (.ref x)) (hb : b.eval args s none [] s = some (.ref y)) : x ≠ y := by
  intro e
  subst e
  simp [Cond.value, ha, hb] at h
theorem own_lenv {n : Int32} {x : Addr} {cl : Cell} (h : (Term.length t).eval args s none [] s = some (.int n)) (ht : t.eval args s none [] s = some (.ref x)) (hc : s.heap[x]? = some cl) : cl.slots.size < 2 ^ 31 ∧ cl.slots.size.toInt32 = n := by
  obtain ⟨a', cell, e1, e2, e3⟩ := Term.length_spec h
  cases ht.symm.trans e1
  have hcl : cell = cl := by
    simp only [State.arrayAt?, hc, Option.bind_eq_bind, Option.bind_some] at e2
    cases hk : s.vm.classes[cl.cls]? with
    | none => simp [hk] at e2
    | some k =>
      simp only [hk, Option.bind_some] at e2
      split at e2
      · cases e2
      · split at e2
        · exact (Option.some.inj e2).symm
        · cases e2
  subst hcl
  refine ⟨?_, (Value.int.inj e3).symm⟩
  simp only [Term.eval, ht, e2, Option.bind_eq_bind, Option.bind_some] at h
  split at h
  · assumption
  · cases h
end OwnStart
end Jvm.RoadKit
namespace Jvm.Pilot.@@N@@
open Jvm Jvm.ClassFile Sem Op Lib Jvm.Free Jvm.Stand Jvm.LawKit Jvm.RoadKit Bundle Jvm.Pilot.@@N@@.Jvm.D
abbrev own_EL : List (String × Nat) := [("com/example/lotbook/lotbook/Flag", 23), ("com/example/lotbook/lotbook/Flag", 25)]
theorem own_w {Z : State} {a0 : Array Value} (hw : ∀ d ∈ tables_1, d.before a0 Z = true) (i : Nat) {d : Jvm.Cond} (h : tables_1[i]? = some d) : d.before a0 Z = true := hw _ (List.mem_of_getElem? h)
theorem own_fI {p : Program} {e : Env} {below : List Frame} {T t : State} {m : MethodId} {pc : Nat} {Ls : Array Slot} {a b : Int32} {rest : List Value} (h : a = b) (k : Steps p.tables e below (T.setTop (mkF m pc Ls (.int b :: rest))) t) : Steps p.tables e below (T.setTop (mkF m pc Ls (.int a :: rest))) t := by rw [h]; exact k
theorem own_at {T : State} {h : Heap} {a : Addr} {c : Cell} (q : T.heap = h) (g : h[a]? = some c) : T.heap[a]? = some c := by rw [q]; exact g
theorem own_ib {c : Cell} {n : Int32} (S : c.slots.size = n.toNatClampNeg) (j : Int32) (h : ¬ j < 0 ∧ j < n) : ¬ (j < 0 ∨ c.slots.size ≤ j.toNatClampNeg) := inb_of S h
abbrev Ct (l : Launch) (Z : State) (y : MethodName) (bytes : ByteArray) (maxL : Nat) (ret : Option FieldType) (ws : List Jvm.Cond) (rm : Room) (A : Array Value) (h0 : Heap) (Q : Option Value → Heap → List Loc → Prop) : Prop :=
  MetFree l y (head1 (Jvm.Cond.code y bytes maxL ret :: ws) rm) (fun aa_ U_ => aa_ = A ∧ Z.Warmed39 U_.vm ∧ U_.heap = h0) (fun _ _ _ _ _ => True) (fun _ U_ o_ V_ => ∃ v_ L_, o_ = .returned v_ ∧ Q v_ V_.heap L_ ∧ FrameEnd U_ o_ V_ L_ rm.cells rm.slots)
abbrev CtC (l : Launch) (Z : State) (y : MethodName) (bytes : ByteArray) (maxL : Nat) (ret : Option FieldType) (ws : List Jvm.Cond) (rm : Room) (A : Array Value) (h0 : Heap) (Q : Option Value → Heap → List Loc → Prop) : Prop :=
  MetFree l y (head1 (Jvm.Cond.code y bytes maxL ret :: ws) rm) (fun aa_ U_ => aa_ = A ∧ Z.Warmed39 U_.vm ∧ U_.heap = h0 ∧ CHv Z own_EL U_.vm h0) (fun _ _ _ _ _ => True) (fun _ U_ o_ V_ => ∃ v_ L_, o_ = .returned v_ ∧ Q v_ V_.heap L_ ∧ CHr Z own_EL U_.vm U_.heap V_.vm V_.heap ∧ ReturnedEndW U_ o_ V_ L_ rm.cells rm.slots)
section OwnStart
variable {p : Program} {l : Launch} {e : Env} {rm : Room} {s s₁ : State} {m : MethodId} {args : Array Value} {below : List Frame} {meth : Method} {c : Code} {y : MethodName} {ws : List Jvm.Cond} {bytes : ByteArray} {maxL : Nat} {ret : Option FieldType} {h0 : Heap}
theorem own_st (Bd : BodyLoose p l y (head1 ws rm) bytes maxL ret e s m args below meth c s₁) (own : String) (ho : y.cls = own) (hh : s.heap = h0) : p.tables.exec = Jvm.exec ∧ c.code = bytes ∧ s.vm.findClass own = some m.cls ∧ meth.name = y.name ∧ meth.locks = false ∧ meth.sig.returnType = ret ∧ Stand p l e rm s m args below meth c s₁ [] 0 0 ∧ s₁.heap = h0 :=
  ⟨Bd.exec, Bd.bytes, ho ▸ findClass_of_methodNamed Bd.named, (name_of_methodNamed Bd.named Bd.method).1, BodyLoose.notSynchronized Bd, Bd.returns, Stand.of_body Bd, by rw [← hh, Bd.state]; rfl⟩
theorem own_stW (Bd : BodyLoose p l y (head1 ws rm) bytes maxL ret e s m args below meth c s₁) (own : String) (ho : y.cls = own) (hh : s.heap = h0) : p.tables.exec = Jvm.exec ∧ c.code = bytes ∧ s.vm.findClass own = some m.cls ∧ meth.name = y.name ∧ meth.locks = false ∧ meth.sig.returnType = ret ∧ Stand p l e rm (s.setVm s.vm) m args below meth c s₁ [] 0 0 ∧ s₁.heap = h0 := own_st Bd own ho hh
end OwnStart
section OwnGoC
variable {p : Program} {l : Launch} {e : Env} {R : Room} {s : State} {m : MethodId} {args : Array Value} {below : List Frame} {meth : Method} {c : Code} {T T' Z : State} {locs : List Loc} {cells slots ck sk : Nat} {Q : Option Value → Heap → List Loc → Prop}
/-- the same, and what the tables book of the two constants is kept -/
def GoC (Z : State) (p : Program) (e : Env) (below : List Frame) (s : State) (ck sk : Nat) (Q : Option Value → Heap → List Loc → Prop) (T : State) : Prop :=
  ∃ s₂ o, Steps p.tables e below T s₂ ∧ s₂.status = .running ∧ Ended s₂ below o ∧ ∃ v L, o = .returned v ∧ Q v s₂.heap L ∧ CHr Z own_EL s.vm s.heap s₂.vm s₂.heap ∧ ReturnedEndW s o s₂ L ck sk
theorem GoC.by (h : ∀ t, Steps p.tables e below T' t → Steps p.tables e below T t) (g : GoC Z p e below s ck sk Q T') : GoC Z p e below s ck sk Q T := by
  obtain ⟨s₂, o, h1, r⟩ := g
  exact ⟨s₂, o, h _ h1, r⟩
theorem GoC.tr (h : Steps p.tables e below T T') (g : GoC Z p e below s ck sk Q T') : GoC Z p e below s ck sk Q T := by
  obtain ⟨s₂, o, h1, r⟩ := g
  exact ⟨s₂, o, h.trans h1, r⟩
theorem GoC.retR {vm1 : Vm} {k1 : Nat} {a0 : Array Value} (X : Stand p l e R (s.setVm vm1) m args below meth c T locs cells slots) (hS : s.Since vm1 k1) (hk : k1 ≤ T.heap.size) (hZ : Z.Warmed39 vm1) (hEL : EW Z a0 own_EL) (CR : CHr Z own_EL s.vm s.heap vm1 T.heap) (hx : p.tables.exec = Jvm.exec) {pc : Nat} {Ls : Array Slot} {w : Value} {t : FieldType} {rest : List Value} (hret : meth.sig.returnType = some t) (ht : t.isReference = true) (hw : w.isRef = true) (hlk : meth.locks = false) (hd : decode c.code pc = .ok (.areturn, 1))
    (hq : Q (some w) T.heap locs) (hc : cells ≤ ck) (hs : slots ≤ sk) : GoC Z p e below s ck sk Q (T.setTop (mkF m pc Ls (w :: rest))) := by
  obtain ⟨fs, hr, hrun, hended, hW, hsame⟩ := X.leave (v := some w) (fun h => by rw [hret] at h; cases h) hlk
  obtain ⟨q1, q2, q3⟩ := hS.ended (U := T.setFrames fs) hW hk hsame
  have AT := CR.trans (CHv.at X hZ hEL CR.1)
  refine ⟨_, _, retOut X hx hret ?_ (Or.inr (Or.inr (Or.inr (Or.inr ⟨rfl, ht, hw⟩)))) hd hr, hrun, hended, _, _, rfl, hq, AT, ⟨_, rfl⟩, q1, q2, q3.mono hc hs⟩
  rcases ref_cases hw with rfl | ⟨a, rfl⟩ <;> cases t <;> first | rfl | cases ht
end OwnGoC
theorem own_nlt {a b n : Nat} (h : a < n) (g : n ≤ b) : a ≠ b := Nat.ne_of_lt (Nat.lt_of_lt_of_le h g)
theorem own_snew {Z : State} {vm vm1 : Vm} {h h' : Heap} {x : Addr} (C : CHr Z own_EL vm h vm1 h') (hx : h'.size ≤ x) : Safe Z own_EL vm1 h' x := Safe.new hx
theorem own_nsA {Z : State} {h : Heap} {b : Addr} {k : ClassId} {ty : FieldType} {n : Int32} {vs : List Value} {d : Value} (A : Arv Z h b k ty n vs d) : ∀ cell : Cell, h[b]? = some cell → cell.vm.isStatics = false := fun cell hc => by
  obtain ⟨c, ⟨h1, h2, -⟩, -⟩ := A
  cases h1.symm.trans hc
  obtain ⟨hs, -⟩ := h2
  cases hq : cell.vm <;> first | rfl | exact absurd hq (hs _)
theorem own_selp2 {Z s : State} {a0 args : Array Value} {y : MethodName} {C : String} (hZ : Z.Warmed39 s.vm) (ws : (Cond.selects C y y).before a0 Z = true) (wp : (Cond.privateMethod y).before a0 Z = true) (wm : (Cond.instanceMethod y).before a0 Z = true) (hy : y.cls ≠ "java/lang/invoke/MethodHandle" ∧ y.cls ≠ "java/lang/invoke/VarHandle") : (Cond.selects y.cls y y).before args s = true := by
  obtain ⟨mk, methM, hn, hm, -, -⟩ := Cond.instanceMethod_spec (mv (args := args) hZ wm)
  obtain ⟨kr, h1, h2⟩ := notFace_of_selects (mv (args := args) hZ ws) _ hn
  exact selects_self_of_private (findClass_of_methodNamed hn) h1 h2 (Cond.privateMethod_at (mvP (args := args) hZ wp)) (mv hZ wm) hy
theorem own_same {Z : State} {a0 : Array Value} {y y' : MethodName} {C : String} (ws : (Cond.selects C y' y').before a0 Z = true) (wm' : (Cond.instanceMethod y').before a0 Z = true) (wm : (Cond.instanceMethod y).before a0 Z = true) (he : y'.cls = y.cls) (hy : y.cls ≠ "java/lang/invoke/MethodHandle" ∧ y.cls ≠ "java/lang/invoke/VarHandle") : (Cond.sameMethod y.cls y.cls y.name y.desc).before a0 Z = true := by
  obtain ⟨mk, methM, hn, -⟩ := Cond.instanceMethod_spec wm
  obtain ⟨mk', methM', hn', -⟩ := Cond.instanceMethod_spec wm'
  obtain ⟨kr, h1, h2⟩ := notFace_of_selects ws _ hn'
  have hc := findClass_of_methodNamed hn
  have hc' := findClass_of_methodNamed hn'
  rw [he] at hc'
  have ec : mk'.cls = mk.cls := Option.some.inj (hc'.symm.trans hc)
  rw [ec] at h1
  have hf : Z.methodFound? y.cls y.name y.desc = some mk := State.methodFound?_of_named hn hy
  simp only [Cond.before, Cond.holds, Cond.value, hc, hf, hn, h1]
  simp; exact h2
theorem own_e3 (y : Int32) : (y &&& (2147483647 : Int32)) % (3 : Int32) = 0 ∨ (y &&& (2147483647 : Int32)) % (3 : Int32) = 1 ∨ (y &&& (2147483647 : Int32)) % (3 : Int32) = 2 := by
  have h1 := c_mask y 2147483647 31 (by decide) (by decide)
  have h2 := (c_irem (y &&& 2147483647) 3 3 (by decide)).1 (by rw [h1]; omega)
  simp only [← Int32.toInt_inj, h2]
  have e0 : (0 : Int32).toInt = 0 := by decide
  have e1 : (1 : Int32).toInt = 1 := by decide
  have e2 : (2 : Int32).toInt = 2 := by decide
  rw [e0, e1, e2]; omega

theorem dCa0_0 : decode jdk_52_method_21_code 0 = .ok (.iconst 0, 1) := by decide +kernel
theorem dCa0_1 : decode jdk_52_method_21_code 1 = .ok (.istore 5, 2) := by decide +kernel
theorem dCa0_3 : decode jdk_52_method_21_code 3 = .ok (.iload 5, 2) := by decide +kernel
theorem dCa0_5 : decode jdk_52_method_21_code 5 = .ok (.iload 4, 2) := by decide +kernel
theorem dCa0_7 : decode jdk_52_method_21_code 7 = .ok (.if_icmp .ge 37, 3) := by decide +kernel
theorem dCa0_10 : decode jdk_52_method_21_code 10 = .ok (.aload_n 0, 1) := by decide +kernel
theorem dCa0_11 : decode jdk_52_method_21_code 11 = .ok (.iload_n 1, 1) := by decide +kernel
theorem dCa0_12 : decode jdk_52_method_21_code 12 = .ok (.caload, 1) := by decide +kernel
theorem dCa0_13 : decode jdk_52_method_21_code 13 = .ok (.istore 6, 2) := by decide +kernel
theorem dCa0_15 : decode jdk_52_method_21_code 15 = .ok (.iload 6, 2) := by decide +kernel
theorem dCa0_17 : decode jdk_52_method_21_code 17 = .ok (.sipush 255, 3) := by decide +kernel
theorem dCa0_20 : decode jdk_52_method_21_code 20 = .ok (.if_icmp .le 6, 3) := by decide +kernel
theorem dCa0_26 : decode jdk_52_method_21_code 26 = .ok (.aload_n 2, 1) := by decide +kernel
theorem dCa0_27 : decode jdk_52_method_21_code 27 = .ok (.iload_n 3, 1) := by decide +kernel
theorem dCa0_28 : decode jdk_52_method_21_code 28 = .ok (.iload 6, 2) := by decide +kernel
theorem dCa0_30 : decode jdk_52_method_21_code 30 = .ok (.i2b, 1) := by decide +kernel
theorem dCa0_31 : decode jdk_52_method_21_code 31 = .ok (.bastore, 1) := by decide +kernel
theorem dCa0_32 : decode jdk_52_method_21_code 32 = .ok (.iinc 1 1, 3) := by decide +kernel
theorem dCa0_35 : decode jdk_52_method_21_code 35 = .ok (.iinc 3 1, 3) := by decide +kernel
theorem dCa0_38 : decode jdk_52_method_21_code 38 = .ok (.iinc 5 1, 3) := by decide +kernel
theorem dCa0_41 : decode jdk_52_method_21_code 41 = .ok (.goto (-38), 3) := by decide +kernel
theorem dCa0_44 : decode jdk_52_method_21_code 44 = .ok (.iload 4, 2) := by decide +kernel
theorem dCa0_46 : decode jdk_52_method_21_code 46 = .ok (.ireturn, 1) := by decide +kernel
theorem pnCa0 : plainName "java/lang/StringUTF16" = true := by first | (simp [plainName, overriddenIn]; done) | decide +kernel
theorem efCa0 (m : MethodId) (ca : Addr) (ba : Addr) : entryFrame m #[(.ref ca), (.int 0), (.ref ba), (.int 0), (.int 6)] 7 = mkF m 0 #[.val (.ref ca), .val (.int 0), .val (.ref ba), .val (.int 0), .val (.int 6), .unset, .unset] [] := by first | (simp [entryFrame, mkF, argsToLocals, Value.category]; done) | rfl
def QCa0 (Z : State) (ba : Addr) (kc_ba : ClassId) (h0 : Heap) (n0 : Nat) (v : Option Value) (h : Heap) (L : List Loc) : Prop := (v = some (.int 6) ∧ Fr n0 L ∧ Keep h0 h [ba] ∧ Arv Z h ba kc_ba .byte (6 : Int32) [(.int 110), (.int 111), (.int 114), (.int 109), (.int 97), (.int 108)] (.int 0))
set_option maxRecDepth 65536 in
set_option maxHeartbeats 40000000 in
theorem rmCa0 (l : Launch) (Z : State) (a0 : Array Value) (hw : ∀ d ∈ tables_1, d.before a0 Z = true) (ws : List Jvm.Cond) (ca : Addr) (ba : Addr) (kc_ca : ClassId) (kc_ba : ClassId) (h0 : Heap) (n0 : Nat) (Z0 : n0 ≤ h0.size) (V0_ca : Arv Z h0 ca kc_ca .char (6 : Int32) [(.int 110), (.int 111), (.int 114), (.int 109), (.int 97), (.int 108)] (.int 0)) (V0_ba : Arv Z h0 ba kc_ba .byte (6 : Int32) [(.int 0), (.int 0), (.int 0), (.int 0), (.int 0), (.int 0)] (.int 0)) (ne0_ca_ba : ca ≠ ba) (ge0_ba : n0 ≤ ba) :
    Ct l Z (⟨"java/lang/StringUTF16", "compress", "([CI[BII)I"⟩ : MethodName) jdk_52_method_21_code 7 (some .int) ws (⟨0, 0, 0, 0⟩ : Room) #[(.ref ca), (.int 0), (.ref ba), (.int 0), (.int 6)] h0 (QCa0 Z ba kc_ba h0 n0) := by
  refine MetFree.of_bodySF (plainFor_of_name pnCa0) hisR ?_
  intro p e s m args below meth c s₁ Bd hml hP hK
  obtain ⟨rfl, hZ, hh⟩ := hP
  obtain ⟨hx, hby, hown, hnm, hlk, hret, X0, e0⟩ := own_st Bd "java/lang/StringUTF16" rfl hh
  have N0 := Fr.nil n0
  show Go p e below s (⟨0, 0, 0, 0⟩ : Room).cells (⟨0, 0, 0, 0⟩ : Room).slots (QCa0 Z ba kc_ba h0 n0) (s₁.setTop (entryFrame m #[(.ref ca), (.int 0), (.ref ba), (.int 0), (.int 6)] 7))
  rw [efCa0]
  obtain ⟨cl_q101, Ar_q101, q1_q101, S_q101, N_q101, H_q101, G_q101⟩ := id V0_ca
  have hin_q101 := own_ib S_q101 (0 : Int32) (by decide)
  have hat_q101 : cl_q101.slots[((0 : Int32)).toNatClampNeg]? = some (.int 110) := Has.at H_q101 hin_q101 rfl
  obtain ⟨cl_q102, Ar_q102, q1_q102, S_q102, N_q102, H_q102, G_q102⟩ := id V0_ba
  have hin_q102 := own_ib S_q102 (0 : Int32) (by decide)
  obtain ⟨T103, h103, X103, e103, W103, st103⟩ := stB X0 hx hZ e0 Ar_q102 (j := (0 : Int32)) hin_q102 (g := (mkF m 31 #[.val (.ref ca), .val (.int 0), .val (.ref ba), .val (.int 0), .val (.int 6), .val (.int 0), .val (.int 110)] [(.int 110), (.int 0), (.ref ba)])) rfl rfl (hb hby dCa0_31)
  have V103 : Arv Z h103 ba kc_ba .byte (6 : Int32) [(.int (nar .byte (110 : Int32))), (.int 0), (.int 0), (.int 0), (.int 0), (.int 0)] (.int 0) := Arv.set Ar_q102 q1_q102 S_q102 N_q102 H_q102 G_q102 (fits_nar_byte _) W103 0 rfl (Nat.le_of_ble_eq_true rfl)
  rw [show (nar .byte (110 : Int32)) = (110 : Int32) from by decide] at V103
  have Z104 := Nat.le_trans Z0 (Keep.of_wr W103).1
  have K104 : Keep h0 h103 [ba] := (Keep.refl h0 [ba]).wr W103 (Or.inl (by simp))
  have N103 := Fr.snoc X103 N0 ge0_ba
  obtain ⟨cl_q105, Ar_q105, q1_q105, S_q105, N_q105, H_q105, G_q105⟩ := id (V0_ca.keep K104 (ninS ne0_ca_ba nin0))
  have hin_q105 := own_ib S_q105 (1 : Int32) (by decide)
  have hat_q105 : cl_q105.slots[((1 : Int32)).toNatClampNeg]? = some (.int 111) := Has.at H_q105 hin_q105 rfl
  obtain ⟨cl_q106, Ar_q106, q1_q106, S_q106, N_q106, H_q106, G_q106⟩ := id V103
  have hin_q106 := own_ib S_q106 (1 : Int32) (by decide)
  obtain ⟨T107, h107, X107, e107, W107, st107⟩ := stB X103 hx hZ e103 Ar_q106 (j := (1 : Int32)) hin_q106 (g := (mkF m 31 #[.val (.ref ca), .val (.int 1), .val (.ref ba), .val (.int 1), .val (.int 6), .val (.int 1), .val (.int 111)] [(.int 111), (.int 1), (.ref ba)])) rfl rfl (hb hby dCa0_31)
  have V107 : Arv Z h107 ba kc_ba .byte (6 : Int32) [(.int 110), (.int (nar .byte (111 : Int32))), (.int 0), (.int 0), (.int 0), (.int 0)] (.int 0) := Arv.set Ar_q106 q1_q106 S_q106 N_q106 H_q106 G_q106 (fits_nar_byte _) W107 1 rfl (Nat.le_of_ble_eq_true rfl)
  rw [show (nar .byte (111 : Int32)) = (111 : Int32) from by decide] at V107
  have Z108 := Nat.le_trans Z104 (Keep.of_wr W107).1
  have K108 : Keep h0 h107 [ba] := K104.wr W107 (Or.inl (by simp))
  have N107 := Fr.snoc X107 N103 ge0_ba
  obtain ⟨cl_q109, Ar_q109, q1_q109, S_q109, N_q109, H_q109, G_q109⟩ := id (V0_ca.keep K108 (ninS ne0_ca_ba nin0))
  have hin_q109 := own_ib S_q109 (2 : Int32) (by decide)
  have hat_q109 : cl_q109.slots[((2 : Int32)).toNatClampNeg]? = some (.int 114) := Has.at H_q109 hin_q109 rfl
  obtain ⟨cl_q110, Ar_q110, q1_q110, S_q110, N_q110, H_q110, G_q110⟩ := id V107
  have hin_q110 := own_ib S_q110 (2 : Int32) (by decide)
  obtain ⟨T111, h111, X111, e111, W111, st111⟩ := stB X107 hx hZ e107 Ar_q110 (j := (2 : Int32)) hin_q110 (g := (mkF m 31 #[.val (.ref ca), .val (.int 2), .val (.ref ba), .val (.int 2), .val (.int 6), .val (.int 2), .val (.int 114)] [(.int 114), (.int 2), (.ref ba)])) rfl rfl (hb hby dCa0_31)
  have V111 : Arv Z h111 ba kc_ba .byte (6 : Int32) [(.int 110), (.int 111), (.int (nar .byte (114 : Int32))), (.int 0), (.int 0), (.int 0)] (.int 0) := Arv.set Ar_q110 q1_q110 S_q110 N_q110 H_q110 G_q110 (fits_nar_byte _) W111 2 rfl (Nat.le_of_ble_eq_true rfl)
  rw [show (nar .byte (114 : Int32)) = (114 : Int32) from by decide] at V111
  have Z112 := Nat.le_trans Z108 (Keep.of_wr W111).1
  have K112 : Keep h0 h111 [ba] := K108.wr W111 (Or.inl (by simp))
  have N111 := Fr.snoc X111 N107 ge0_ba
  refine Go.by (fun _ kont => XS.iconst X0.here hx rfl (hb hby dCa0_0) (XS.istore X0.here hx rfl (hb hby dCa0_1) rfl (l' := #[.val (.ref ca), .val (.int 0), .val (.ref ba), .val (.int 0), .val (.int 6), .val (.int 0), .unset]) rfl (XS.iload X0.here hx rfl (hb hby dCa0_3) rfl (XS.iload X0.here hx rfl (hb hby dCa0_5) rfl (XS.icmpNo X0.here hx rfl (hb hby dCa0_7) rfl (by decide) (XS.aloadN X0.here hx rfl (hb hby dCa0_10) rfl rfl (XS.iloadN X0.here hx rfl (hb hby dCa0_11) rfl (X0.caload hx (j := (0 : Int32)) (v := (.int 110)) (own_at e0 Ar_q101.1) (State.isArrayOf_alike hZ.alike Ar_q101.2.1) Ar_q101.2.2 hin_q101 hat_q101 (g := (mkF m 12 #[.val (.ref ca), .val (.int 0), .val (.ref ba), .val (.int 0), .val (.int 6), .val (.int 0), .unset] [(.int 0), (.ref ca)])) rfl rfl (hb hby dCa0_12) _ (XS.istore X0.here hx rfl (hb hby dCa0_13) rfl (l' := #[.val (.ref ca), .val (.int 0), .val (.ref ba), .val (.int 0), .val (.int 6), .val (.int 0), .val (.int 110)]) rfl (XS.iload X0.here hx rfl (hb hby dCa0_15) rfl (XS.sipush X0.here hx rfl (hb hby dCa0_17) (XS.icmpYes X0.here hx rfl (pc0 := 20) (pc' := 26) rfl (hb hby dCa0_20) rfl (by decide) (by decide) (by decide) (XS.aloadN X0.here hx rfl (hb hby dCa0_26) rfl rfl (XS.iloadN X0.here hx rfl (hb hby dCa0_27) rfl (XS.iload X0.here hx rfl (hb hby dCa0_28) rfl (XS.i2b X0.here hx rfl (hb hby dCa0_30) rfl (own_fI (show ((110 : Int32).toInt8.toInt32) = (110 : Int32) from by decide) (st103 _ (XS.iinc X103.here hx rfl (hb hby dCa0_32) rfl (l' := #[.val (.ref ca), .val (.int 1), .val (.ref ba), .val (.int 0), .val (.int 6), .val (.int 0), .val (.int 110)]) rfl (XS.iinc X103.here hx rfl (hb hby dCa0_35) rfl (l' := #[.val (.ref ca), .val (.int 1), .val (.ref ba), .val (.int 1), .val (.int 6), .val (.int 0), .val (.int 110)]) rfl (XS.iinc X103.here hx rfl (hb hby dCa0_38) rfl (l' := #[.val (.ref ca), .val (.int 1), .val (.ref ba), .val (.int 1), .val (.int 6), .val (.int 1), .val (.int 110)]) rfl (XS.goto X103.here hx rfl (pc0 := 41) (pc' := 3) rfl (hb hby dCa0_41) (by decide) (by decide) (XS.iload X103.here hx rfl (hb hby dCa0_3) rfl (XS.iload X103.here hx rfl (hb hby dCa0_5) rfl (XS.icmpNo X103.here hx rfl (hb hby dCa0_7) rfl (by decide) (XS.aloadN X103.here hx rfl (hb hby dCa0_10) rfl rfl (XS.iloadN X103.here hx rfl (hb hby dCa0_11) rfl (X103.caload hx (j := (1 : Int32)) (v := (.int 111)) (own_at e103 Ar_q105.1) (State.isArrayOf_alike hZ.alike Ar_q105.2.1) Ar_q105.2.2 hin_q105 hat_q105 (g := (mkF m 12 #[.val (.ref ca), .val (.int 1), .val (.ref ba), .val (.int 1), .val (.int 6), .val (.int 1), .val (.int 110)] [(.int 1), (.ref ca)])) rfl rfl (hb hby dCa0_12) _ (XS.istore X103.here hx rfl (hb hby dCa0_13) rfl (l' := #[.val (.ref ca), .val (.int 1), .val (.ref ba), .val (.int 1), .val (.int 6), .val (.int 1), .val (.int 111)]) rfl (XS.iload X103.here hx rfl (hb hby dCa0_15) rfl (XS.sipush X103.here hx rfl (hb hby dCa0_17) (XS.icmpYes X103.here hx rfl (pc0 := 20) (pc' := 26) rfl (hb hby dCa0_20) rfl (by decide) (by decide) (by decide) (XS.aloadN X103.here hx rfl (hb hby dCa0_26) rfl rfl (XS.iloadN X103.here hx rfl (hb hby dCa0_27) rfl (XS.iload X103.here hx rfl (hb hby dCa0_28) rfl (XS.i2b X103.here hx rfl (hb hby dCa0_30) rfl (own_fI (show ((111 : Int32).toInt8.toInt32) = (111 : Int32) from by decide) (st107 _ (XS.iinc X107.here hx rfl (hb hby dCa0_32) rfl (l' := #[.val (.ref ca), .val (.int 2), .val (.ref ba), .val (.int 1), .val (.int 6), .val (.int 1), .val (.int 111)]) rfl (XS.iinc X107.here hx rfl (hb hby dCa0_35) rfl (l' := #[.val (.ref ca), .val (.int 2), .val (.ref ba), .val (.int 2), .val (.int 6), .val (.int 1), .val (.int 111)]) rfl (XS.iinc X107.here hx rfl (hb hby dCa0_38) rfl (l' := #[.val (.ref ca), .val (.int 2), .val (.ref ba), .val (.int 2), .val (.int 6), .val (.int 2), .val (.int 111)]) rfl (XS.goto X107.here hx rfl (pc0 := 41) (pc' := 3) rfl (hb hby dCa0_41) (by decide) (by decide) (XS.iload X107.here hx rfl (hb hby dCa0_3) rfl (XS.iload X107.here hx rfl (hb hby dCa0_5) rfl (XS.icmpNo X107.here hx rfl (hb hby dCa0_7) rfl (by decide) (XS.aloadN X107.here hx rfl (hb hby dCa0_10) rfl rfl (XS.iloadN X107.here hx rfl (hb hby dCa0_11) rfl (X107.caload hx (j := (2 : Int32)) (v := (.int 114)) (own_at e107 Ar_q109.1) (State.isArrayOf_alike hZ.alike Ar_q109.2.1) Ar_q109.2.2 hin_q109 hat_q109 (g := (mkF m 12 #[.val (.ref ca), .val (.int 2), .val (.ref ba), .val (.int 2), .val (.int 6), .val (.int 2), .val (.int 111)] [(.int 2), (.ref ca)])) rfl rfl (hb hby dCa0_12) _ (XS.istore X107.here hx rfl (hb hby dCa0_13) rfl (l' := #[.val (.ref ca), .val (.int 2), .val (.ref ba), .val (.int 2), .val (.int 6), .val (.int 2), .val (.int 114)]) rfl (XS.iload X107.here hx rfl (hb hby dCa0_15) rfl (XS.sipush X107.here hx rfl (hb hby dCa0_17) (XS.icmpYes X107.here hx rfl (pc0 := 20) (pc' := 26) rfl (hb hby dCa0_20) rfl (by decide) (by decide) (by decide) (XS.aloadN X107.here hx rfl (hb hby dCa0_26) rfl rfl (XS.iloadN X107.here hx rfl (hb hby dCa0_27) rfl (XS.iload X107.here hx rfl (hb hby dCa0_28) rfl (XS.i2b X107.here hx rfl (hb hby dCa0_30) rfl (own_fI (show ((114 : Int32).toInt8.toInt32) = (114 : Int32) from by decide) (st111 _ (XS.iinc X111.here hx rfl (hb hby dCa0_32) rfl (l' := #[.val (.ref ca), .val (.int 3), .val (.ref ba), .val (.int 2), .val (.int 6), .val (.int 2), .val (.int 114)]) rfl (XS.iinc X111.here hx rfl (hb hby dCa0_35) rfl (l' := #[.val (.ref ca), .val (.int 3), .val (.ref ba), .val (.int 3), .val (.int 6), .val (.int 2), .val (.int 114)]) rfl kont)))))))))))))))))))))))))))))))))))))))))))))))))))))))))))) ?_
  show Go _ _ _ _ _ _ _ (T111.setTop (mkF m 38 #[.val (.ref ca), .val (.int 3), .val (.ref ba), .val (.int 3), .val (.int 6), .val (.int 2), .val (.int 114)] []))
  obtain ⟨cl_q113, Ar_q113, q1_q113, S_q113, N_q113, H_q113, G_q113⟩ := id (V0_ca.keep K112 (ninS ne0_ca_ba nin0))
  have hin_q113 := own_ib S_q113 (3 : Int32) (by decide)
  have hat_q113 : cl_q113.slots[((3 : Int32)).toNatClampNeg]? = some (.int 109) := Has.at H_q113 hin_q113 rfl
  obtain ⟨cl_q114, Ar_q114, q1_q114, S_q114, N_q114, H_q114, G_q114⟩ := id V111
  have hin_q114 := own_ib S_q114 (3 : Int32) (by decide)
  obtain ⟨T115, h115, X115, e115, W115, st115⟩ := stB X111 hx hZ e111 Ar_q114 (j := (3 : Int32)) hin_q114 (g := (mkF m 31 #[.val (.ref ca), .val (.int 3), .val (.ref ba), .val (.int 3), .val (.int 6), .val (.int 3), .val (.int 109)] [(.int 109), (.int 3), (.ref ba)])) rfl rfl (hb hby dCa0_31)
  have V115 : Arv Z h115 ba kc_ba .byte (6 : Int32) [(.int 110), (.int 111), (.int 114), (.int (nar .byte (109 : Int32))), (.int 0), (.int 0)] (.int 0) := Arv.set Ar_q114 q1_q114 S_q114 N_q114 H_q114 G_q114 (fits_nar_byte _) W115 3 rfl (Nat.le_of_ble_eq_true rfl)
  rw [show (nar .byte (109 : Int32)) = (109 : Int32) from by decide] at V115
  have Z116 := Nat.le_trans Z112 (Keep.of_wr W115).1
  have K116 : Keep h0 h115 [ba] := K112.wr W115 (Or.inl (by simp))
  have N115 := Fr.snoc X115 N111 ge0_ba
  obtain ⟨cl_q117, Ar_q117, q1_q117, S_q117, N_q117, H_q117, G_q117⟩ := id (V0_ca.keep K116 (ninS ne0_ca_ba nin0))
  have hin_q117 := own_ib S_q117 (4 : Int32) (by decide)
  have hat_q117 : cl_q117.slots[((4 : Int32)).toNatClampNeg]? = some (.int 97) := Has.at H_q117 hin_q117 rfl
  obtain ⟨cl_q118, Ar_q118, q1_q118, S_q118, N_q118, H_q118, G_q118⟩ := id V115
  have hin_q118 := own_ib S_q118 (4 : Int32) (by decide)
  obtain ⟨T119, h119, X119, e119, W119, st119⟩ := stB X115 hx hZ e115 Ar_q118 (j := (4 : Int32)) hin_q118 (g := (mkF m 31 #[.val (.ref ca), .val (.int 4), .val (.ref ba), .val (.int 4), .val (.int 6), .val (.int 4), .val (.int 97)] [(.int 97), (.int 4), (.ref ba)])) rfl rfl (hb hby dCa0_31)
  have V119 : Arv Z h119 ba kc_ba .byte (6 : Int32) [(.int 110), (.int 111), (.int 114), (.int 109), (.int (nar .byte (97 : Int32))), (.int 0)] (.int 0) := Arv.set Ar_q118 q1_q118 S_q118 N_q118 H_q118 G_q118 (fits_nar_byte _) W119 4 rfl (Nat.le_of_ble_eq_true rfl)
  rw [show (nar .byte (97 : Int32)) = (97 : Int32) from by decide] at V119
  have Z120 := Nat.le_trans Z116 (Keep.of_wr W119).1
  have K120 : Keep h0 h119 [ba] := K116.wr W119 (Or.inl (by simp))
  have N119 := Fr.snoc X119 N115 ge0_ba
  obtain ⟨cl_q121, Ar_q121, q1_q121, S_q121, N_q121, H_q121, G_q121⟩ := id (V0_ca.keep K120 (ninS ne0_ca_ba nin0))
  have hin_q121 := own_ib S_q121 (5 : Int32) (by decide)
  have hat_q121 : cl_q121.slots[((5 : Int32)).toNatClampNeg]? = some (.int 108) := Has.at H_q121 hin_q121 rfl
  obtain ⟨cl_q122, Ar_q122, q1_q122, S_q122, N_q122, H_q122, G_q122⟩ := id V119
  have hin_q122 := own_ib S_q122 (5 : Int32) (by decide)
  obtain ⟨T123, h123, X123, e123, W123, st123⟩ := stB X119 hx hZ e119 Ar_q122 (j := (5 : Int32)) hin_q122 (g := (mkF m 31 #[.val (.ref ca), .val (.int 5), .val (.ref ba), .val (.int 5), .val (.int 6), .val (.int 5), .val (.int 108)] [(.int 108), (.int 5), (.ref ba)])) rfl rfl (hb hby dCa0_31)
  have V123 : Arv Z h123 ba kc_ba .byte (6 : Int32) [(.int 110), (.int 111), (.int 114), (.int 109), (.int 97), (.int (nar .byte (108 : Int32)))] (.int 0) := Arv.set Ar_q122 q1_q122 S_q122 N_q122 H_q122 G_q122 (fits_nar_byte _) W123 5 rfl (Nat.le_of_ble_eq_true rfl)
  rw [show (nar .byte (108 : Int32)) = (108 : Int32) from by decide] at V123
  have Z124 := Nat.le_trans Z120 (Keep.of_wr W123).1
  have K124 : Keep h0 h123 [ba] := K120.wr W123 (Or.inl (by simp))
  have N123 := Fr.snoc X123 N119 ge0_ba
  refine Go.by (fun _ kont => XS.iinc X111.here hx rfl (hb hby dCa0_38) rfl (l' := #[.val (.ref ca), .val (.int 3), .val (.ref ba), .val (.int 3), .val (.int 6), .val (.int 3), .val (.int 114)]) rfl (XS.goto X111.here hx rfl (pc0 := 41) (pc' := 3) rfl (hb hby dCa0_41) (by decide) (by decide) (XS.iload X111.here hx rfl (hb hby dCa0_3) rfl (XS.iload X111.here hx rfl (hb hby dCa0_5) rfl (XS.icmpNo X111.here hx rfl (hb hby dCa0_7) rfl (by decide) (XS.aloadN X111.here hx rfl (hb hby dCa0_10) rfl rfl (XS.iloadN X111.here hx rfl (hb hby dCa0_11) rfl (X111.caload hx (j := (3 : Int32)) (v := (.int 109)) (own_at e111 Ar_q113.1) (State.isArrayOf_alike hZ.alike Ar_q113.2.1) Ar_q113.2.2 hin_q113 hat_q113 (g := (mkF m 12 #[.val (.ref ca), .val (.int 3), .val (.ref ba), .val (.int 3), .val (.int 6), .val (.int 3), .val (.int 114)] [(.int 3), (.ref ca)])) rfl rfl (hb hby dCa0_12) _ (XS.istore X111.here hx rfl (hb hby dCa0_13) rfl (l' := #[.val (.ref ca), .val (.int 3), .val (.ref ba), .val (.int 3), .val (.int 6), .val (.int 3), .val (.int 109)]) rfl (XS.iload X111.here hx rfl (hb hby dCa0_15) rfl (XS.sipush X111.here hx rfl (hb hby dCa0_17) (XS.icmpYes X111.here hx rfl (pc0 := 20) (pc' := 26) rfl (hb hby dCa0_20) rfl (by decide) (by decide) (by decide) (XS.aloadN X111.here hx rfl (hb hby dCa0_26) rfl rfl (XS.iloadN X111.here hx rfl (hb hby dCa0_27) rfl (XS.iload X111.here hx rfl (hb hby dCa0_28) rfl (XS.i2b X111.here hx rfl (hb hby dCa0_30) rfl (own_fI (show ((109 : Int32).toInt8.toInt32) = (109 : Int32) from by decide) (st115 _ (XS.iinc X115.here hx rfl (hb hby dCa0_32) rfl (l' := #[.val (.ref ca), .val (.int 4), .val (.ref ba), .val (.int 3), .val (.int 6), .val (.int 3), .val (.int 109)]) rfl (XS.iinc X115.here hx rfl (hb hby dCa0_35) rfl (l' := #[.val (.ref ca), .val (.int 4), .val (.ref ba), .val (.int 4), .val (.int 6), .val (.int 3), .val (.int 109)]) rfl (XS.iinc X115.here hx rfl (hb hby dCa0_38) rfl (l' := #[.val (.ref ca), .val (.int 4), .val (.ref ba), .val (.int 4), .val (.int 6), .val (.int 4), .val (.int 109)]) rfl (XS.goto X115.here hx rfl (pc0 := 41) (pc' := 3) rfl (hb hby dCa0_41) (by decide) (by decide) (XS.iload X115.here hx rfl (hb hby dCa0_3) rfl (XS.iload X115.here hx rfl (hb hby dCa0_5) rfl (XS.icmpNo X115.here hx rfl (hb hby dCa0_7) rfl (by decide) (XS.aloadN X115.here hx rfl (hb hby dCa0_10) rfl rfl (XS.iloadN X115.here hx rfl (hb hby dCa0_11) rfl (X115.caload hx (j := (4 : Int32)) (v := (.int 97)) (own_at e115 Ar_q117.1) (State.isArrayOf_alike hZ.alike Ar_q117.2.1) Ar_q117.2.2 hin_q117 hat_q117 (g := (mkF m 12 #[.val (.ref ca), .val (.int 4), .val (.ref ba), .val (.int 4), .val (.int 6), .val (.int 4), .val (.int 109)] [(.int 4), (.ref ca)])) rfl rfl (hb hby dCa0_12) _ (XS.istore X115.here hx rfl (hb hby dCa0_13) rfl (l' := #[.val (.ref ca), .val (.int 4), .val (.ref ba), .val (.int 4), .val (.int 6), .val (.int 4), .val (.int 97)]) rfl (XS.iload X115.here hx rfl (hb hby dCa0_15) rfl (XS.sipush X115.here hx rfl (hb hby dCa0_17) (XS.icmpYes X115.here hx rfl (pc0 := 20) (pc' := 26) rfl (hb hby dCa0_20) rfl (by decide) (by decide) (by decide) (XS.aloadN X115.here hx rfl (hb hby dCa0_26) rfl rfl (XS.iloadN X115.here hx rfl (hb hby dCa0_27) rfl (XS.iload X115.here hx rfl (hb hby dCa0_28) rfl (XS.i2b X115.here hx rfl (hb hby dCa0_30) rfl (own_fI (show ((97 : Int32).toInt8.toInt32) = (97 : Int32) from by decide) (st119 _ (XS.iinc X119.here hx rfl (hb hby dCa0_32) rfl (l' := #[.val (.ref ca), .val (.int 5), .val (.ref ba), .val (.int 4), .val (.int 6), .val (.int 4), .val (.int 97)]) rfl (XS.iinc X119.here hx rfl (hb hby dCa0_35) rfl (l' := #[.val (.ref ca), .val (.int 5), .val (.ref ba), .val (.int 5), .val (.int 6), .val (.int 4), .val (.int 97)]) rfl (XS.iinc X119.here hx rfl (hb hby dCa0_38) rfl (l' := #[.val (.ref ca), .val (.int 5), .val (.ref ba), .val (.int 5), .val (.int 6), .val (.int 5), .val (.int 97)]) rfl (XS.goto X119.here hx rfl (pc0 := 41) (pc' := 3) rfl (hb hby dCa0_41) (by decide) (by decide) (XS.iload X119.here hx rfl (hb hby dCa0_3) rfl (XS.iload X119.here hx rfl (hb hby dCa0_5) rfl (XS.icmpNo X119.here hx rfl (hb hby dCa0_7) rfl (by decide) (XS.aloadN X119.here hx rfl (hb hby dCa0_10) rfl rfl (XS.iloadN X119.here hx rfl (hb hby dCa0_11) rfl (X119.caload hx (j := (5 : Int32)) (v := (.int 108)) (own_at e119 Ar_q121.1) (State.isArrayOf_alike hZ.alike Ar_q121.2.1) Ar_q121.2.2 hin_q121 hat_q121 (g := (mkF m 12 #[.val (.ref ca), .val (.int 5), .val (.ref ba), .val (.int 5), .val (.int 6), .val (.int 5), .val (.int 97)] [(.int 5), (.ref ca)])) rfl rfl (hb hby dCa0_12) _ (XS.istore X119.here hx rfl (hb hby dCa0_13) rfl (l' := #[.val (.ref ca), .val (.int 5), .val (.ref ba), .val (.int 5), .val (.int 6), .val (.int 5), .val (.int 108)]) rfl (XS.iload X119.here hx rfl (hb hby dCa0_15) rfl (XS.sipush X119.here hx rfl (hb hby dCa0_17) (XS.icmpYes X119.here hx rfl (pc0 := 20) (pc' := 26) rfl (hb hby dCa0_20) rfl (by decide) (by decide) (by decide) (XS.aloadN X119.here hx rfl (hb hby dCa0_26) rfl rfl (XS.iloadN X119.here hx rfl (hb hby dCa0_27) rfl (XS.iload X119.here hx rfl (hb hby dCa0_28) rfl (XS.i2b X119.here hx rfl (hb hby dCa0_30) rfl (own_fI (show ((108 : Int32).toInt8.toInt32) = (108 : Int32) from by decide) (st123 _ (XS.iinc X123.here hx rfl (hb hby dCa0_32) rfl (l' := #[.val (.ref ca), .val (.int 6), .val (.ref ba), .val (.int 5), .val (.int 6), .val (.int 5), .val (.int 108)]) rfl (XS.iinc X123.here hx rfl (hb hby dCa0_35) rfl (l' := #[.val (.ref ca), .val (.int 6), .val (.ref ba), .val (.int 6), .val (.int 6), .val (.int 5), .val (.int 108)]) rfl kont)))))))))))))))))))))))))))))))))))))))))))))))))))))))))))) ?_
  show Go _ _ _ _ _ _ _ (T123.setTop (mkF m 38 #[.val (.ref ca), .val (.int 6), .val (.ref ba), .val (.int 6), .val (.int 6), .val (.int 5), .val (.int 108)] []))
  refine Go.by (fun _ kont => XS.iinc X123.here hx rfl (hb hby dCa0_38) rfl (l' := #[.val (.ref ca), .val (.int 6), .val (.ref ba), .val (.int 6), .val (.int 6), .val (.int 6), .val (.int 108)]) rfl (XS.goto X123.here hx rfl (pc0 := 41) (pc' := 3) rfl (hb hby dCa0_41) (by decide) (by decide) (XS.iload X123.here hx rfl (hb hby dCa0_3) rfl (XS.iload X123.here hx rfl (hb hby dCa0_5) rfl (XS.icmpYes X123.here hx rfl (pc0 := 7) (pc' := 44) rfl (hb hby dCa0_7) rfl (by decide) (by decide) (by decide) (XS.iload X123.here hx rfl (hb hby dCa0_44) rfl kont)))))) ?_
  show Go _ _ _ _ _ _ _ (T123.setTop (mkF m 46 #[.val (.ref ca), .val (.int 6), .val (.ref ba), .val (.int 6), .val (.int 6), .val (.int 6), .val (.int 108)] [(.int 6)]))
  refine Go.retI X123 hx hret hlk (hb hby dCa0_46) ?_ (by decide) (by decide)
  show QCa0 Z ba kc_ba h0 n0 (some (.int 6)) T123.heap _
  rw [e123]
  exact ⟨rfl, N123, K124, V123⟩

theorem dCb0_0 : decode jdk_52_method_16_code 0 = .ok (.iload_n 2, 1) := by decide +kernel
theorem dCb0_1 : decode jdk_52_method_16_code 1 = .ok (.newarray .byte, 2) := by decide +kernel
theorem dCb0_3 : decode jdk_52_method_16_code 3 = .ok (.astore_n 3, 1) := by decide +kernel
theorem dCb0_4 : decode jdk_52_method_16_code 4 = .ok (.aload_n 0, 1) := by decide +kernel
theorem dCb0_5 : decode jdk_52_method_16_code 5 = .ok (.iload_n 1, 1) := by decide +kernel
theorem dCb0_6 : decode jdk_52_method_16_code 6 = .ok (.aload_n 3, 1) := by decide +kernel
theorem dCb0_7 : decode jdk_52_method_16_code 7 = .ok (.iconst 0, 1) := by decide +kernel
theorem dCb0_8 : decode jdk_52_method_16_code 8 = .ok (.iload_n 2, 1) := by decide +kernel
theorem dCb0_9 : decode jdk_52_method_16_code 9 = .ok (.invokestatic 115, 3) := by decide +kernel
theorem dCb0_12 : decode jdk_52_method_16_code 12 = .ok (.istore 4, 2) := by decide +kernel
theorem dCb0_14 : decode jdk_52_method_16_code 14 = .ok (.iload 4, 2) := by decide +kernel
theorem dCb0_16 : decode jdk_52_method_16_code 16 = .ok (.iload_n 2, 1) := by decide +kernel
theorem dCb0_17 : decode jdk_52_method_16_code 17 = .ok (.if_icmp .eq 40, 3) := by decide +kernel
theorem dCb0_57 : decode jdk_52_method_16_code 57 = .ok (.aload_n 3, 1) := by decide +kernel
theorem dCb0_58 : decode jdk_52_method_16_code 58 = .ok (.areturn, 1) := by decide +kernel
theorem pdCb0_0 : parseMethodDescriptor "([CI[BII)I" = some ⟨[(.array .char), .int, (.array .byte), .int, .int], some .int⟩ := by decide +kernel
theorem pnCb0 : plainName "java/lang/StringUTF16" = true := by first | (simp [plainName, overriddenIn]; done) | decide +kernel
theorem efCb0 (m : MethodId) (ca : Addr) : entryFrame m #[(.ref ca), (.int 0), (.int 6)] 6 = mkF m 0 #[.val (.ref ca), .val (.int 0), .val (.int 6), .unset, .unset, .unset] [] := by first | (simp [entryFrame, mkF, argsToLocals, Value.category]; done) | rfl
def QCb0 (Z : State)  (h0 : Heap) (n0 : Nat) (v : Option Value) (h : Heap) (L : List Loc) : Prop := ∃ b101 : Addr, ∃ k101 : ClassId, (v = some (.ref b101) ∧ Fr n0 L ∧ Keep h0 h [] ∧ n0 ≤ b101 ∧ h0.size ≤ b101 ∧ Arv Z h b101 k101 .byte (6 : Int32) [(.int 110), (.int 111), (.int 114), (.int 109), (.int 97), (.int 108)] (.int 0))
set_option maxRecDepth 65536 in
set_option maxHeartbeats 40000000 in
theorem rmCb0 (l : Launch) (Z : State) (a0 : Array Value) (hw : ∀ d ∈ tables_1, d.before a0 Z = true) (ws : List Jvm.Cond) (ca : Addr) (kc_ca : ClassId) (h0 : Heap) (n0 : Nat) (Z0 : n0 ≤ h0.size) (V0_ca : Arv Z h0 ca kc_ca .char (6 : Int32) [(.int 110), (.int 111), (.int 114), (.int 109), (.int 97), (.int 108)] (.int 0)) :
    Ct l Z (⟨"java/lang/StringUTF16", "compress", "([CII)[B"⟩ : MethodName) jdk_52_method_16_code 6 (some (.array .byte)) ws (⟨1, 1, 6, 18⟩ : Room) #[(.ref ca), (.int 0), (.int 6)] h0 (QCb0 Z  h0 n0) := by
  refine MetFree.of_bodySF (plainFor_of_name pnCb0) hisR ?_
  intro p e s m args below meth c s₁ Bd hml hP hK
  obtain ⟨rfl, hZ, hh⟩ := hP
  obtain ⟨hx, hby, hown, hnm, hlk, hret, X0, e0⟩ := own_st Bd "java/lang/StringUTF16" rfl hh
  have N0 := Fr.nil n0
  show Go p e below s (⟨1, 1, 6, 18⟩ : Room).cells (⟨1, 1, 6, 18⟩ : Room).slots (QCb0 Z  h0 n0) (s₁.setTop (entryFrame m #[(.ref ca), (.int 0), (.int 6)] 6))
  rw [efCb0]
  obtain ⟨T101, h101, k101, X101, e101, X_101, A101, st101⟩ := newP X0 hx hZ (own_w hw 23 rfl) e0 (g := (mkF m 1 #[.val (.ref ca), .val (.int 0), .val (.int 6), .unset, .unset, .unset] [(.int 6)])) rfl (hb hby dCb0_1) rfl (by decide) (cap := 6) (by decide) (by decide) (by decide) (by decide)
  obtain ⟨b101, g101⟩ : ∃ z, z = h0.size := ⟨_, rfl⟩
  rw [← g101] at A101 st101
  have ge_b101 : n0 ≤ b101 := Nat.le_trans Z0 (Nat.le_of_eq g101.symm)
  have sz_b101 : h0.size ≤ b101 := Nat.le_trans (Keep.refl h0 []).1 (Nat.le_of_eq g101.symm)
  have Z102 := Nat.le_trans Z0 X_101.1
  have K102 : Keep h0 h101 [] := (Keep.refl h0 []).ext X_101
  have V101 : Arv Z h101 b101 k101 .byte (6 : Int32) [(.int 0), (.int 0), (.int 0), (.int 0), (.int 0), (.int 0)] (.int 0) := (Arv.new A101 (by decide)).pad (pad_rep [] (.int 0) 6)
  obtain ⟨_, _, ⟨T103, L103, k103, n103⟩, -, X103, ⟨Lc103, hQ103, l103, y103, z103⟩, st103⟩ := Jvm.LawKit.callS X101 hx (y := (⟨"java/lang/StringUTF16", "compress", "([CI[BII)I"⟩ : MethodName)) hown (mvT hZ (own_w hw 24 rfl)) (mvT hZ (own_w hw 25 rfl)) (mvT hZ (own_w hw 21 rfl)) (mvT hZ (own_w hw 26 rfl)) (by decide) (backOf (W := 0) (rmCa0 l Z a0 hw [] ca b101 kc_ca k101 h101 n0 Z102 (V0_ca.keep K102 nin0) V101 (own_nlt V0_ca.lt (Nat.le_of_eq g101.symm)) ge_b101) hZ (own_w hw 26 rfl) (own_w hw 21 rfl) (by decide) (by decide)) (g := (mkF m 9 #[.val (.ref ca), .val (.int 0), .val (.int 6), .val (.ref b101), .unset, .unset] [(.int 6), (.int 0), (.ref b101), (.int 0), (.ref ca)])) rfl (by rw [hml]; rfl) (argsL := [(.ref ca), (.int 0), (.ref b101), (.int 0), (.int 6)]) (rest := []) (lenOf pdCb0_0 rfl) rfl (by show 2 * 0 + _ ≤ _; exact Nat.le_of_eq rfl) (hb hby dCb0_9) (fun _ _ => ⟨rfl, e101, (by decide : 1 + 0 ≤ _), (by decide : 6 + 0 ≤ _)⟩)
  dsimp only [Pt.U, Pt.locs, Pt.cells, Pt.slots] at X103 l103 y103 z103 st103 hQ103
  subst l103 y103 z103
  obtain ⟨rfl, N103q, K103, g103_0⟩ := hQ103
  have Z104 := Nat.le_trans Z102 K103.1
  have K104 : Keep h0 T103.heap [] := Keep.trans K102 K103 (allS (Or.inr sz_b101) all0)
  have N103 := Fr.app N0 N103q
  refine Go.by (fun _ kont => XS.iloadN X0.here hx rfl (hb hby dCb0_0) rfl (st101 _ (XS.astoreN X101.here hx rfl (hb hby dCb0_3) rfl rfl (l' := #[.val (.ref ca), .val (.int 0), .val (.int 6), .val (.ref b101), .unset, .unset]) rfl (XS.aloadN X101.here hx rfl (hb hby dCb0_4) rfl rfl (XS.iloadN X101.here hx rfl (hb hby dCb0_5) rfl (XS.aloadN X101.here hx rfl (hb hby dCb0_6) rfl rfl (XS.iconst X101.here hx rfl (hb hby dCb0_7) (XS.iloadN X101.here hx rfl (hb hby dCb0_8) rfl (st103 _ (XS.istore X103.here hx rfl (hb hby dCb0_12) rfl (l' := #[.val (.ref ca), .val (.int 0), .val (.int 6), .val (.ref b101), .val (.int 6), .unset]) rfl (XS.iload X103.here hx rfl (hb hby dCb0_14) rfl (XS.iloadN X103.here hx rfl (hb hby dCb0_16) rfl (XS.icmpYes X103.here hx rfl (pc0 := 17) (pc' := 57) rfl (hb hby dCb0_17) rfl (by decide) (by decide) (by decide) (XS.aloadN X103.here hx rfl (hb hby dCb0_57) rfl rfl kont)))))))))))))) ?_
  show Go _ _ _ _ _ _ _ (T103.setTop (mkF m 58 #[.val (.ref ca), .val (.int 0), .val (.int 6), .val (.ref b101), .val (.int 6), .unset] [(.ref b101)]))
  refine Go.retR X103 hx hret rfl rfl hlk (hb hby dCb0_58) ?_ (by decide) (by decide)
  show QCb0 Z  h0 n0 (some (.ref b101)) T103.heap _
  exact ⟨b101, k101, rfl, N103, K104, ge_b101, sz_b101, g103_0⟩

theorem dCc0_0 : decode jdk_52_method_15_code 0 = .ok (.iload_n 1, 1) := by decide +kernel
theorem dCc0_1 : decode jdk_52_method_15_code 1 = .ok (.aload_n 0, 1) := by decide +kernel
theorem dCc0_2 : decode jdk_52_method_15_code 2 = .ok (.arraylength, 1) := by decide +kernel
theorem dCc0_3 : decode jdk_52_method_15_code 3 = .ok (.isub, 1) := by decide +kernel
theorem dCc0_4 : decode jdk_52_method_15_code 4 = .ok (.bipush 31, 2) := by decide +kernel
theorem dCc0_6 : decode jdk_52_method_15_code 6 = .ok (.iushr, 1) := by decide +kernel
theorem dCc0_7 : decode jdk_52_method_15_code 7 = .ok (.i2b, 1) := by decide +kernel
theorem dCc0_8 : decode jdk_52_method_15_code 8 = .ok (.ireturn, 1) := by decide +kernel
theorem pnCc0 : plainName "java/lang/StringUTF16" = true := by first | (simp [plainName, overriddenIn]; done) | decide +kernel
theorem efCc0 (m : MethodId) (ba : Addr) : entryFrame m #[(.ref ba), (.int 6)] 2 = mkF m 0 #[.val (.ref ba), .val (.int 6)] [] := by first | (simp [entryFrame, mkF, argsToLocals, Value.category]; done) | rfl
def QCc0 (Z : State)  (h0 : Heap) (n0 : Nat) (v : Option Value) (h : Heap) (L : List Loc) : Prop := (v = some (.int 0) ∧ Fr n0 L ∧ h = h0)
set_option maxRecDepth 65536 in
set_option maxHeartbeats 40000000 in
theorem rmCc0 (l : Launch) (Z : State) (a0 : Array Value) (hw : ∀ d ∈ tables_1, d.before a0 Z = true) (ws : List Jvm.Cond) (ba : Addr) (kc_ba : ClassId) (h0 : Heap) (n0 : Nat) (Z0 : n0 ≤ h0.size) (V0_ba : Arv Z h0 ba kc_ba .byte (6 : Int32) [(.int 110), (.int 111), (.int 114), (.int 109), (.int 97), (.int 108)] (.int 0)) :
    Ct l Z (⟨"java/lang/StringUTF16", "coderFromArrayLen", "([BI)B"⟩ : MethodName) jdk_52_method_15_code 2 (some .byte) ws (⟨0, 0, 0, 0⟩ : Room) #[(.ref ba), (.int 6)] h0 (QCc0 Z  h0 n0) := by
  refine MetFree.of_bodySF (plainFor_of_name pnCc0) hisR ?_
  intro p e s m args below meth c s₁ Bd hml hP hK
  obtain ⟨rfl, hZ, hh⟩ := hP
  obtain ⟨hx, hby, hown, hnm, hlk, hret, X0, e0⟩ := own_st Bd "java/lang/StringUTF16" rfl hh
  have N0 := Fr.nil n0
  show Go p e below s (⟨0, 0, 0, 0⟩ : Room).cells (⟨0, 0, 0, 0⟩ : Room).slots (QCc0 Z  h0 n0) (s₁.setTop (entryFrame m #[(.ref ba), (.int 6)] 2))
  rw [efCc0]
  obtain ⟨cl_q101, Ar_q101, q1_q101, S_q101, N_q101, H_q101, G_q101⟩ := id V0_ba
  refine Go.by (fun _ kont => XS.iloadN X0.here hx rfl (hb hby dCc0_0) rfl (XS.aloadN X0.here hx rfl (hb hby dCc0_1) rfl rfl (X0.arraylength hx (own_at e0 Ar_q101.1) (State.isArrayOf_alike hZ.alike Ar_q101.2.1) (g := (mkF m 2 #[.val (.ref ba), .val (.int 6)] [(.ref ba), (.int 6)])) rfl rfl (hb hby dCc0_2) _ (own_fI (len_of S_q101 N_q101) (XS.isub X0.here hx rfl (hb hby dCc0_3) rfl (own_fI (show ((6 : Int32) - (6 : Int32)) = (0 : Int32) from by decide) (XS.bipush X0.here hx rfl (hb hby dCc0_4) (XS.iushr X0.here hx rfl (hb hby dCc0_6) rfl (own_fI (show (((0 : Int32).toUInt32 >>> ((31 : Int32) &&& 31).toUInt32).toInt32) = (0 : Int32) from by decide) (XS.i2b X0.here hx rfl (hb hby dCc0_7) rfl (own_fI (show ((0 : Int32).toInt8.toInt32) = (0 : Int32) from by decide) kont))))))))))) ?_
  show Go _ _ _ _ _ _ _ (s₁.setTop (mkF m 8 #[.val (.ref ba), .val (.int 6)] [(.int 0)]))
  refine Go.retN X0 hx (t := .byte) hret (by simp) hlk (hb hby dCc0_8) ?_ (by decide) (by decide)
  show QCc0 Z  h0 n0 (some (.int (0 : Int32))) s₁.heap _
  rw [e0]
  exact ⟨rfl, N0, rfl⟩

theorem dNb0_0 : decode jdk_42_method_149_code 0 = .ok (.aload_n 0, 1) := by decide +kernel
theorem dNb0_1 : decode jdk_42_method_149_code 1 = .ok (.invokespecial 1, 3) := by decide +kernel
theorem dNb0_4 : decode jdk_42_method_149_code 4 = .ok (.iload_n 3, 1) := by decide +kernel
theorem dNb0_5 : decode jdk_42_method_149_code 5 = .ok (.ifCond .ne 22, 3) := by decide +kernel
theorem dNb0_27 : decode jdk_42_method_149_code 27 = .ok (.getstatic 38, 3) := by decide +kernel
theorem dNb0_30 : decode jdk_42_method_149_code 30 = .ok (.ifCond .eq 28, 3) := by decide +kernel
theorem dNb0_33 : decode jdk_42_method_149_code 33 = .ok (.aload_n 1, 1) := by decide +kernel
theorem dNb0_34 : decode jdk_42_method_149_code 34 = .ok (.iload_n 2, 1) := by decide +kernel
theorem dNb0_35 : decode jdk_42_method_149_code 35 = .ok (.iload_n 3, 1) := by decide +kernel
theorem dNb0_36 : decode jdk_42_method_149_code 36 = .ok (.invokestatic 177, 3) := by decide +kernel
theorem dNb0_39 : decode jdk_42_method_149_code 39 = .ok (.astore 5, 2) := by decide +kernel
theorem dNb0_41 : decode jdk_42_method_149_code 41 = .ok (.aload_n 0, 1) := by decide +kernel
theorem dNb0_42 : decode jdk_42_method_149_code 42 = .ok (.aload 5, 2) := by decide +kernel
theorem dNb0_44 : decode jdk_42_method_149_code 44 = .ok (.iload_n 3, 1) := by decide +kernel
theorem dNb0_45 : decode jdk_42_method_149_code 45 = .ok (.invokestatic 47, 3) := by decide +kernel
theorem dNb0_48 : decode jdk_42_method_149_code 48 = .ok (.putfield 15, 3) := by decide +kernel
theorem dNb0_51 : decode jdk_42_method_149_code 51 = .ok (.aload_n 0, 1) := by decide +kernel
theorem dNb0_52 : decode jdk_42_method_149_code 52 = .ok (.aload 5, 2) := by decide +kernel
theorem dNb0_54 : decode jdk_42_method_149_code 54 = .ok (.putfield 9, 3) := by decide +kernel
theorem dNb0_57 : decode jdk_42_method_149_code 57 = .ok (.return_, 1) := by decide +kernel
theorem pdNb0_0 : parseMethodDescriptor "([CII)[B" = some ⟨[(.array .char), .int, .int], some (.array .byte)⟩ := by decide +kernel
theorem pdNb0_1 : parseMethodDescriptor "([BI)B" = some ⟨[(.array .byte), .int], some .byte⟩ := by decide +kernel
theorem pnNb0 : plainName "java/lang/String" = true := by first | (simp [plainName, overriddenIn]; done) | decide +kernel
theorem efNb0 (m : MethodId) (a : Addr) (ca : Addr) : entryFrame m #[(.ref a), (.ref ca), (.int 0), (.int 6), .null] 6 = mkF m 0 #[.val (.ref a), .val (.ref ca), .val (.int 0), .val (.int 6), .val .null, .unset] [] := by first | (simp [entryFrame, mkF, argsToLocals, Value.category]; done) | rfl
def QNb0 (Z : State) (a : Addr) (h0 : Heap) (n0 : Nat) (v : Option Value) (h : Heap) (L : List Loc) : Prop := ∃ b101_103 : Addr, ∃ k101_103 : ClassId, (v = none ∧ Fr n0 L ∧ Keep h0 h [a] ∧ Exa Z h a "java/lang/String" ∧ Fld Z h a "java/lang/String" "coder" "B" (.int 0) ∧ Fld Z h a "java/lang/String" "value" "[B" (.ref b101_103) ∧ n0 ≤ b101_103 ∧ h0.size ≤ b101_103 ∧ Arv Z h b101_103 k101_103 .byte (6 : Int32) [(.int 110), (.int 111), (.int 114), (.int 109), (.int 97), (.int 108)] (.int 0))
set_option maxRecDepth 65536 in
set_option maxHeartbeats 40000000 in
theorem rmNb0 (l : Launch) (Z : State) (a0 : Array Value) (hw : ∀ d ∈ tables_1, d.before a0 Z = true) (ws : List Jvm.Cond) (a : Addr) (ca : Addr) (kc_ca : ClassId) (cs : Int32) (h0 : Heap) (n0 : Nat) (Z0 : n0 ≤ h0.size) (E0_a : Exa Z h0 a "java/lang/String") (F0_a_coder : Fld Z h0 a "java/lang/String" "coder" "B" (.int 0)) (F0_a_value : Fld Z h0 a "java/lang/String" "value" "[B" .null) (V0_ca : Arv Z h0 ca kc_ca .char (6 : Int32) [(.int 110), (.int 111), (.int 114), (.int 109), (.int 97), (.int 108)] (.int 0)) (ne0_a_ca : a ≠ ca) (S0_COMPACT_STRINGS : Sta Z h0 "java/lang/String" "COMPACT_STRINGS" "Z" (.int cs)) (ge0_a : n0 ≤ a) (hcs : ¬ (cs = (0 : Int32))) :
    Ct l Z (⟨"java/lang/String", "<init>", "([CIILjava/lang/Void;)V"⟩ : MethodName) jdk_42_method_149_code 6 none ws (⟨2, 1, 6, 35⟩ : Room) #[(.ref a), (.ref ca), (.int 0), (.int 6), .null] h0 (QNb0 Z a h0 n0) := by
  refine MetFree.of_bodySF (plainFor_of_name pnNb0) hisR ?_
  intro p e s m args below meth c s₁ Bd hml hP hK
  obtain ⟨rfl, hZ, hh⟩ := hP
  obtain ⟨hx, hby, hown, hnm, hlk, hret, X0, e0⟩ := own_st Bd "java/lang/String" rfl hh
  have N0 := Fr.nil n0
  show Go p e below s (⟨2, 1, 6, 35⟩ : Room).cells (⟨2, 1, 6, 35⟩ : Room).slots (QNb0 Z a h0 n0) (s₁.setTop (entryFrame m #[(.ref a), (.ref ca), (.int 0), (.int 6), .null] 6))
  rw [efNb0]
  obtain ⟨T101, X101, e101, st101⟩ := initO X0 hx hZ hown (own_w hw 15 rfl) (own_w hw 16 rfl) (own_w hw 17 rfl) e0 (g := (mkF m 1 #[.val (.ref a), .val (.ref ca), .val (.int 0), .val (.int 6), .val .null, .unset] [(.ref a)])) rfl (by rw [hml]; rfl) rfl (hb hby dNb0_1) (by decide) (W := 0) (by show 2 * 0 + _ ≤ _; exact Nat.le_of_eq rfl) (by decide)
  obtain ⟨T102, X102, e102, st102⟩ := getS2 X101 hx hZ hown (host := "") (Or.inl (own_w hw 18 rfl)) Via.refl e101 S0_COMPACT_STRINGS (g := (mkF m 27 #[.val (.ref a), .val (.ref ca), .val (.int 0), .val (.int 6), .val .null, .unset] [])) rfl (hb hby dNb0_27)
  refine Go.by (fun _ kont => XS.aloadN X0.here hx rfl (hb hby dNb0_0) rfl rfl (st101 _ (XS.iloadN X101.here hx rfl (hb hby dNb0_4) rfl (XS.ifYes X101.here hx rfl (pc0 := 5) (pc' := 27) rfl (hb hby dNb0_5) rfl (by decide) (by decide) (by decide) (st102 _ kont))))) ?_
  show Go _ _ _ _ _ _ _ (T102.setTop (mkF m 30 #[.val (.ref a), .val (.ref ca), .val (.int 0), .val (.int 6), .val .null, .unset] [(.int cs)]))
  refine Go.by (fun _ kont => XS.ifNo X102.here hx rfl (hb hby dNb0_30) rfl ((if0 _ _).trans (feq hcs).1) kont) ?_
  show Go _ _ _ _ _ _ _ (T102.setTop (mkF m 33 #[.val (.ref a), .val (.ref ca), .val (.int 0), .val (.int 6), .val .null, .unset] []))
  obtain ⟨_, _, ⟨T103, L103, k103, n103⟩, -, X103, ⟨Lc103, hQ103, l103, y103, z103⟩, st103⟩ := Jvm.LawKit.callS X102 hx (y := (⟨"java/lang/StringUTF16", "compress", "([CII)[B"⟩ : MethodName)) hown (mvT hZ (own_w hw 19 rfl)) (mvT hZ (own_w hw 20 rfl)) (mvT hZ (own_w hw 21 rfl)) (mvT hZ (own_w hw 22 rfl)) (by decide) (backOf (W := 0) (rmCb0 l Z a0 hw [] ca kc_ca h0 n0 Z0 V0_ca) hZ (own_w hw 22 rfl) (own_w hw 21 rfl) (by decide) (by decide)) (g := (mkF m 36 #[.val (.ref a), .val (.ref ca), .val (.int 0), .val (.int 6), .val .null, .unset] [(.int 6), (.int 0), (.ref ca)])) rfl (by rw [hml]; rfl) (argsL := [(.ref ca), (.int 0), (.int 6)]) (rest := []) (lenOf pdNb0_0 rfl) rfl (by show 2 * 0 + _ ≤ _; exact Nat.le_of_eq rfl) (hb hby dNb0_36) (fun _ _ => ⟨rfl, e102, (by decide : 0 + 1 ≤ _), (by decide : 0 + 6 ≤ _)⟩)
  dsimp only [Pt.U, Pt.locs, Pt.cells, Pt.slots] at X103 l103 y103 z103 st103 hQ103
  subst l103 y103 z103
  obtain ⟨b101_103, k101_103, rfl, N103q, K103, ge_b101_103, szc_b101_103, g103_0⟩ := hQ103
  have sz_b101_103 : h0.size ≤ b101_103 := Nat.le_trans (Keep.refl h0 [a]).1 szc_b101_103
  have F104_coder_a := F0_a_coder.keep K103 nin0
  have F104_value_a := F0_a_value.keep K103 nin0
  have Z104 := Nat.le_trans Z0 K103.1
  have K104 : Keep h0 T103.heap [a] := Keep.trans (Keep.refl h0 [a]) K103 all0
  have N103 := Fr.app N0 N103q
  obtain ⟨_, _, ⟨T105, L105, k105, n105⟩, -, X105, ⟨Lc105, hQ105, l105, y105, z105⟩, st105⟩ := Jvm.LawKit.callS X103 hx (y := (⟨"java/lang/StringUTF16", "coderFromArrayLen", "([BI)B"⟩ : MethodName)) hown (mvT hZ (own_w hw 27 rfl)) (mvT hZ (own_w hw 28 rfl)) (mvT hZ (own_w hw 21 rfl)) (mvT hZ (own_w hw 29 rfl)) (by decide) (backOf (W := 1) (rmCc0 l Z a0 hw [] b101_103 k101_103 T103.heap n0 Z104 g103_0) hZ (own_w hw 29 rfl) (own_w hw 21 rfl) (by decide) (by decide)) (g := (mkF m 45 #[.val (.ref a), .val (.ref ca), .val (.int 0), .val (.int 6), .val .null, .val (.ref b101_103)] [(.int 6), (.ref b101_103), (.ref a)])) rfl (by rw [hml]; rfl) (argsL := [(.ref b101_103), (.int 6)]) (rest := [(.ref a)]) (lenOf pdNb0_1 rfl) rfl (by show 2 * 0 + _ ≤ _; exact Nat.le_of_eq rfl) (hb hby dNb0_45) (fun _ _ => ⟨rfl, rfl, (by decide : 1 + 0 ≤ _), (by decide : 6 + 0 ≤ _)⟩)
  dsimp only [Pt.U, Pt.locs, Pt.cells, Pt.slots] at X105 l105 y105 z105 st105 hQ105
  subst l105 y105 z105
  obtain ⟨rfl, N105q, eh105⟩ := hQ105
  have N105 := Fr.app N103 N105q
  obtain ⟨T106, h106, X106, e106, W106, st106⟩ := putF X105 hx hZ hown (host := "") (Or.inl (own_w hw 30 rfl)) Via.refl eh105 F104_coder_a (E0_a.keep K104) (Or.inr ⟨(own_w hw 31 rfl), rfl, hnm⟩) (own_w hw 6 rfl) (ty := .byte) (by decide) rfl rfl (g := (mkF m 48 #[.val (.ref a), .val (.ref ca), .val (.int 0), .val (.int 6), .val .null, .val (.ref b101_103)] [(.int 0), (.ref a)])) rfl rfl (hb hby dNb0_48)
  have Fw106 := F104_coder_a.same W106
  have F107_value_a := F104_value_a.other W106 (Or.inr (slot_ne (Or.inr (own_w hw 33 rfl)) (Or.inr (own_w hw 31 rfl)) (by decide) (t := (.array .byte)) (t' := .byte) (by decide) (by decide)))
  have V107_b101_103 := g103_0.other W106 (Ne.symm (own_nlt F0_a_coder.lt szc_b101_103))
  have Z107 := Nat.le_trans Z104 (Keep.of_wr W106).1
  have K107 : Keep h0 h106 [a] := K104.wr W106 (Or.inl (by simp))
  have N106 := Fr.snoc X106 N105 ge0_a
  obtain ⟨T108, h108, X108, e108, W108, st108⟩ := putF X106 hx hZ hown (host := "") (Or.inl (own_w hw 32 rfl)) Via.refl e106 F107_value_a (E0_a.keep K107) (Or.inr ⟨(own_w hw 33 rfl), rfl, hnm⟩) (own_w hw 6 rfl) (ty := (.array .byte)) (by decide) rfl rfl (g := (mkF m 54 #[.val (.ref a), .val (.ref ca), .val (.int 0), .val (.int 6), .val .null, .val (.ref b101_103)] [(.ref b101_103), (.ref a)])) rfl rfl (hb hby dNb0_54)
  have Fw108 := F107_value_a.same W108
  have F109_coder_a := Fw106.other W108 (Or.inr (slot_ne (Or.inr (own_w hw 31 rfl)) (Or.inr (own_w hw 33 rfl)) (by decide) (t := .byte) (t' := (.array .byte)) (by decide) (by decide)))
  have V109_b101_103 := V107_b101_103.other W108 (Ne.symm (own_nlt F0_a_coder.lt szc_b101_103))
  have Z109 := Nat.le_trans Z107 (Keep.of_wr W108).1
  have K109 : Keep h0 h108 [a] := K107.wr W108 (Or.inl (by simp))
  have N108 := Fr.snoc X108 N106 ge0_a
  refine Go.by (fun _ kont => XS.aloadN X102.here hx rfl (hb hby dNb0_33) rfl rfl (XS.iloadN X102.here hx rfl (hb hby dNb0_34) rfl (XS.iloadN X102.here hx rfl (hb hby dNb0_35) rfl (st103 _ (XS.astore X103.here hx rfl (hb hby dNb0_39) rfl rfl (l' := #[.val (.ref a), .val (.ref ca), .val (.int 0), .val (.int 6), .val .null, .val (.ref b101_103)]) rfl (XS.aloadN X103.here hx rfl (hb hby dNb0_41) rfl rfl (XS.aload X103.here hx rfl (hb hby dNb0_42) rfl rfl (XS.iloadN X103.here hx rfl (hb hby dNb0_44) rfl (st105 _ (st106 _ (XS.aloadN X106.here hx rfl (hb hby dNb0_51) rfl rfl (XS.aload X106.here hx rfl (hb hby dNb0_52) rfl rfl (st108 _ kont))))))))))))) ?_
  show Go _ _ _ _ _ _ _ (T108.setTop (mkF m 57 #[.val (.ref a), .val (.ref ca), .val (.int 0), .val (.int 6), .val .null, .val (.ref b101_103)] []))
  refine Go.retV X108 hx hret hlk (hb hby dNb0_57) ?_ (by decide) (by decide)
  show QNb0 Z a h0 n0 none T108.heap _
  rw [e108]
  exact ⟨b101_103, k101_103, rfl, N108, K109, (E0_a.keep K109), F109_coder_a, Fw108, ge_b101_103, sz_b101_103, V109_b101_103⟩

theorem dNa0_0 : decode jdk_42_method_3_code 0 = .ok (.aload_n 0, 1) := by decide +kernel
theorem dNa0_1 : decode jdk_42_method_3_code 1 = .ok (.aload_n 1, 1) := by decide +kernel
theorem dNa0_2 : decode jdk_42_method_3_code 2 = .ok (.iconst 0, 1) := by decide +kernel
theorem dNa0_3 : decode jdk_42_method_3_code 3 = .ok (.aload_n 1, 1) := by decide +kernel
theorem dNa0_4 : decode jdk_42_method_3_code 4 = .ok (.arraylength, 1) := by decide +kernel
theorem dNa0_5 : decode jdk_42_method_3_code 5 = .ok (.aconst_null, 1) := by decide +kernel
theorem dNa0_6 : decode jdk_42_method_3_code 6 = .ok (.invokespecial 27, 3) := by decide +kernel
theorem dNa0_9 : decode jdk_42_method_3_code 9 = .ok (.return_, 1) := by decide +kernel
theorem pdNa0_0 : parseMethodDescriptor "([CIILjava/lang/Void;)V" = some ⟨[(.array .char), .int, .int, (.object "java/lang/Void")], none⟩ := by decide +kernel
theorem pnNa0 : plainName "java/lang/String" = true := by first | (simp [plainName, overriddenIn]; done) | decide +kernel
theorem efNa0 (m : MethodId) (a : Addr) (ca : Addr) : entryFrame m #[(.ref a), (.ref ca)] 2 = mkF m 0 #[.val (.ref a), .val (.ref ca)] [] := by first | (simp [entryFrame, mkF, argsToLocals, Value.category]; done) | rfl
def QNa0 (Z : State) (a : Addr) (h0 : Heap) (n0 : Nat) (v : Option Value) (h : Heap) (L : List Loc) : Prop := ∃ b101_103_102 : Addr, ∃ k101_103_102 : ClassId, (v = none ∧ Fr n0 L ∧ Keep h0 h [a] ∧ Exa Z h a "java/lang/String" ∧ Fld Z h a "java/lang/String" "coder" "B" (.int 0) ∧ Fld Z h a "java/lang/String" "value" "[B" (.ref b101_103_102) ∧ n0 ≤ b101_103_102 ∧ h0.size ≤ b101_103_102 ∧ Arv Z h b101_103_102 k101_103_102 .byte (6 : Int32) [(.int 110), (.int 111), (.int 114), (.int 109), (.int 97), (.int 108)] (.int 0))
set_option maxRecDepth 65536 in
set_option maxHeartbeats 40000000 in
theorem rmNa0 (l : Launch) (Z : State) (a0 : Array Value) (hw : ∀ d ∈ tables_1, d.before a0 Z = true) (ws : List Jvm.Cond) (a : Addr) (ca : Addr) (kc_ca : ClassId) (cs : Int32) (h0 : Heap) (n0 : Nat) (Z0 : n0 ≤ h0.size) (E0_a : Exa Z h0 a "java/lang/String") (F0_a_coder : Fld Z h0 a "java/lang/String" "coder" "B" (.int 0)) (F0_a_value : Fld Z h0 a "java/lang/String" "value" "[B" .null) (V0_ca : Arv Z h0 ca kc_ca .char (6 : Int32) [(.int 110), (.int 111), (.int 114), (.int 109), (.int 97), (.int 108)] (.int 0)) (ne0_a_ca : a ≠ ca) (S0_COMPACT_STRINGS : Sta Z h0 "java/lang/String" "COMPACT_STRINGS" "Z" (.int cs)) (ge0_a : n0 ≤ a) (hcs : ¬ (cs = (0 : Int32))) :
    Ct l Z (⟨"java/lang/String", "<init>", "([C)V"⟩ : MethodName) jdk_42_method_3_code 2 none ws (⟨3, 1, 6, 52⟩ : Room) #[(.ref a), (.ref ca)] h0 (QNa0 Z a h0 n0) := by
  refine MetFree.of_bodySF (plainFor_of_name pnNa0) hisR ?_
  intro p e s m args below meth c s₁ Bd hml hP hK
  obtain ⟨rfl, hZ, hh⟩ := hP
  obtain ⟨hx, hby, hown, hnm, hlk, hret, X0, e0⟩ := own_st Bd "java/lang/String" rfl hh
  have N0 := Fr.nil n0
  show Go p e below s (⟨3, 1, 6, 52⟩ : Room).cells (⟨3, 1, 6, 52⟩ : Room).slots (QNa0 Z a h0 n0) (s₁.setTop (entryFrame m #[(.ref a), (.ref ca)] 2))
  rw [efNa0]
  obtain ⟨cl_q101, Ar_q101, q1_q101, S_q101, N_q101, H_q101, G_q101⟩ := id V0_ca
  obtain ⟨_, _, ⟨T102, L102, k102, n102⟩, -, X102, ⟨Lc102, hQ102, l102, y102, z102⟩, st102⟩ := X0.specialBack hx (y := (⟨"java/lang/String", "<init>", "([CIILjava/lang/Void;)V"⟩ : MethodName)) rfl hown (mvT hZ (own_w hw 11 rfl)) (mvT hZ (own_w hw 12 rfl)) (mvT hZ (own_w hw 14 rfl)) (by decide) (backOf (W := 0) (rmNb0 l Z a0 hw [] a ca kc_ca cs h0 n0 Z0 E0_a F0_a_coder F0_a_value V0_ca ne0_a_ca S0_COMPACT_STRINGS ge0_a hcs) hZ (own_w hw 14 rfl) (own_w hw 7 rfl) (by decide) (by decide)) (g := (mkF m 6 #[.val (.ref a), .val (.ref ca)] [.null, (.int 6), (.int 0), (.ref ca), (.ref a)])) rfl (by rw [hml]; rfl) (Steps.refl _) (a := a) (argsL := [(.ref ca), (.int 0), (.int 6), .null]) (rest := []) (lenOf pdNa0_0 rfl) rfl (by show 2 * 0 + _ ≤ _; exact Nat.le_of_eq rfl) (hb hby dNa0_6) (fun _ _ => ⟨rfl, e0, (by decide : 0 + 1 ≤ _), (by decide : 0 + 6 ≤ _)⟩)
  dsimp only [Pt.U, Pt.locs, Pt.cells, Pt.slots] at X102 l102 y102 z102 st102 hQ102
  subst l102 y102 z102
  obtain ⟨b101_103_102, k101_103_102, rfl, N102q, K102, g102_0, g102_1, g102_2, ge_b101_103_102, szc_b101_103_102, g102_3⟩ := hQ102
  have sz_b101_103_102 : h0.size ≤ b101_103_102 := Nat.le_trans (Keep.refl h0 [a]).1 szc_b101_103_102
  have Z103 := Nat.le_trans Z0 K102.1
  have K103 : Keep h0 T102.heap [a] := Keep.trans (Keep.refl h0 [a]) K102 (allS (Or.inl (by simp)) all0)
  have N102 := Fr.app N0 N102q
  refine Go.by (fun _ kont => XS.aloadN X0.here hx rfl (hb hby dNa0_0) rfl rfl (XS.aloadN X0.here hx rfl (hb hby dNa0_1) rfl rfl (XS.iconst X0.here hx rfl (hb hby dNa0_2) (XS.aloadN X0.here hx rfl (hb hby dNa0_3) rfl rfl (X0.arraylength hx (own_at e0 Ar_q101.1) (State.isArrayOf_alike hZ.alike Ar_q101.2.1) (g := (mkF m 4 #[.val (.ref a), .val (.ref ca)] [(.ref ca), (.int 0), (.ref ca), (.ref a)])) rfl rfl (hb hby dNa0_4) _ (own_fI (len_of S_q101 N_q101) (XS.aconstNull X0.here hx rfl (hb hby dNa0_5) (st102.trans kont)))))))) ?_
  show Go _ _ _ _ _ _ _ (T102.setTop (mkF m 9 #[.val (.ref a), .val (.ref ca)] []))
  refine Go.retV X102 hx hret hlk (hb hby dNa0_9) ?_ (by decide) (by decide)
  show QNa0 Z a h0 n0 none T102.heap _
  exact ⟨b101_103_102, k101_103_102, rfl, N102, K103, g102_0, g102_1, g102_2, ge_b101_103_102, sz_b101_103_102, g102_3⟩

theorem pnCa1 : plainName "java/lang/StringUTF16" = true := by first | (simp [plainName, overriddenIn]; done) | decide +kernel
theorem efCa1 (m : MethodId) (ca : Addr) (ba : Addr) : entryFrame m #[(.ref ca), (.int 0), (.ref ba), (.int 0), (.int 11)] 7 = mkF m 0 #[.val (.ref ca), .val (.int 0), .val (.ref ba), .val (.int 0), .val (.int 11), .unset, .unset] [] := by first | (simp [entryFrame, mkF, argsToLocals, Value.category]; done) | rfl
def QCa1 (Z : State) (ba : Addr) (kc_ba : ClassId) (h0 : Heap) (n0 : Nat) (v : Option Value) (h : Heap) (L : List Loc) : Prop := (v = some (.int 11) ∧ Fr n0 L ∧ Keep h0 h [ba] ∧ Arv Z h ba kc_ba .byte (11 : Int32) [(.int 110), (.int 111), (.int 95), (.int 110), (.int 101), (.int 119), (.int 95), (.int 111), (.int 112), (.int 101), (.int 110)] (.int 0))
set_option maxRecDepth 65536 in
set_option maxHeartbeats 40000000 in
theorem rmCa1 (l : Launch) (Z : State) (a0 : Array Value) (hw : ∀ d ∈ tables_1, d.before a0 Z = true) (ws : List Jvm.Cond) (ca : Addr) (ba : Addr) (kc_ca : ClassId) (kc_ba : ClassId) (h0 : Heap) (n0 : Nat) (Z0 : n0 ≤ h0.size) (V0_ca : Arv Z h0 ca kc_ca .char (11 : Int32) [(.int 110), (.int 111), (.int 95), (.int 110), (.int 101), (.int 119), (.int 95), (.int 111), (.int 112), (.int 101), (.int 110)] (.int 0)) (V0_ba : Arv Z h0 ba kc_ba .byte (11 : Int32) [(.int 0), (.int 0), (.int 0), (.int 0), (.int 0), (.int 0), (.int 0), (.int 0), (.int 0), (.int 0), (.int 0)] (.int 0)) (ne0_ca_ba : ca ≠ ba) (ge0_ba : n0 ≤ ba) :
    Ct l Z (⟨"java/lang/StringUTF16", "compress", "([CI[BII)I"⟩ : MethodName) jdk_52_method_21_code 7 (some .int) ws (⟨0, 0, 0, 0⟩ : Room) #[(.ref ca), (.int 0), (.ref ba), (.int 0), (.int 11)] h0 (QCa1 Z ba kc_ba h0 n0) := by
  refine MetFree.of_bodySF (plainFor_of_name pnCa1) hisR ?_
  intro p e s m args below meth c s₁ Bd hml hP hK
  obtain ⟨rfl, hZ, hh⟩ := hP
  obtain ⟨hx, hby, hown, hnm, hlk, hret, X0, e0⟩ := own_st Bd "java/lang/StringUTF16" rfl hh
  have N0 := Fr.nil n0
  show Go p e below s (⟨0, 0, 0, 0⟩ : Room).cells (⟨0, 0, 0, 0⟩ : Room).slots (QCa1 Z ba kc_ba h0 n0) (s₁.setTop (entryFrame m #[(.ref ca), (.int 0), (.ref ba), (.int 0), (.int 11)] 7))
  rw [efCa1]
  obtain ⟨cl_q101, Ar_q101, q1_q101, S_q101, N_q101, H_q101, G_q101⟩ := id V0_ca
  have hin_q101 := own_ib S_q101 (0 : Int32) (by decide)
  have hat_q101 : cl_q101.slots[((0 : Int32)).toNatClampNeg]? = some (.int 110) := Has.at H_q101 hin_q101 rfl
  obtain ⟨cl_q102, Ar_q102, q1_q102, S_q102, N_q102, H_q102, G_q102⟩ := id V0_ba
  have hin_q102 := own_ib S_q102 (0 : Int32) (by decide)
  obtain ⟨T103, h103, X103, e103, W103, st103⟩ := stB X0 hx hZ e0 Ar_q102 (j := (0 : Int32)) hin_q102 (g := (mkF m 31 #[.val (.ref ca), .val (.int 0), .val (.ref ba), .val (.int 0), .val (.int 11), .val (.int 0), .val (.int 110)] [(.int 110), (.int 0), (.ref ba)])) rfl rfl (hb hby dCa0_31)
  have V103 : Arv Z h103 ba kc_ba .byte (11 : Int32) [(.int (nar .byte (110 : Int32))), (.int 0), (.int 0), (.int 0), (.int 0), (.int 0), (.int 0), (.int 0), (.int 0), (.int 0), (.int 0)] (.int 0) := Arv.set Ar_q102 q1_q102 S_q102 N_q102 H_q102 G_q102 (fits_nar_byte _) W103 0 rfl (Nat.le_of_ble_eq_true rfl)
  rw [show (nar .byte (110 : Int32)) = (110 : Int32) from by decide] at V103
  have Z104 := Nat.le_trans Z0 (Keep.of_wr W103).1
  have K104 : Keep h0 h103 [ba] := (Keep.refl h0 [ba]).wr W103 (Or.inl (by simp))
  have N103 := Fr.snoc X103 N0 ge0_ba
  obtain ⟨cl_q105, Ar_q105, q1_q105, S_q105, N_q105, H_q105, G_q105⟩ := id (V0_ca.keep K104 (ninS ne0_ca_ba nin0))
  have hin_q105 := own_ib S_q105 (1 : Int32) (by decide)
  have hat_q105 : cl_q105.slots[((1 : Int32)).toNatClampNeg]? = some (.int 111) := Has.at H_q105 hin_q105 rfl
  obtain ⟨cl_q106, Ar_q106, q1_q106, S_q106, N_q106, H_q106, G_q106⟩ := id V103
  have hin_q106 := own_ib S_q106 (1 : Int32) (by decide)
  obtain ⟨T107, h107, X107, e107, W107, st107⟩ := stB X103 hx hZ e103 Ar_q106 (j := (1 : Int32)) hin_q106 (g := (mkF m 31 #[.val (.ref ca), .val (.int 1), .val (.ref ba), .val (.int 1), .val (.int 11), .val (.int 1), .val (.int 111)] [(.int 111), (.int 1), (.ref ba)])) rfl rfl (hb hby dCa0_31)
  have V107 : Arv Z h107 ba kc_ba .byte (11 : Int32) [(.int 110), (.int (nar .byte (111 : Int32))), (.int 0), (.int 0), (.int 0), (.int 0), (.int 0), (.int 0), (.int 0), (.int 0), (.int 0)] (.int 0) := Arv.set Ar_q106 q1_q106 S_q106 N_q106 H_q106 G_q106 (fits_nar_byte _) W107 1 rfl (Nat.le_of_ble_eq_true rfl)
  rw [show (nar .byte (111 : Int32)) = (111 : Int32) from by decide] at V107
  have Z108 := Nat.le_trans Z104 (Keep.of_wr W107).1
  have K108 : Keep h0 h107 [ba] := K104.wr W107 (Or.inl (by simp))
  have N107 := Fr.snoc X107 N103 ge0_ba
  obtain ⟨cl_q109, Ar_q109, q1_q109, S_q109, N_q109, H_q109, G_q109⟩ := id (V0_ca.keep K108 (ninS ne0_ca_ba nin0))
  have hin_q109 := own_ib S_q109 (2 : Int32) (by decide)
  have hat_q109 : cl_q109.slots[((2 : Int32)).toNatClampNeg]? = some (.int 95) := Has.at H_q109 hin_q109 rfl
  obtain ⟨cl_q110, Ar_q110, q1_q110, S_q110, N_q110, H_q110, G_q110⟩ := id V107
  have hin_q110 := own_ib S_q110 (2 : Int32) (by decide)
  obtain ⟨T111, h111, X111, e111, W111, st111⟩ := stB X107 hx hZ e107 Ar_q110 (j := (2 : Int32)) hin_q110 (g := (mkF m 31 #[.val (.ref ca), .val (.int 2), .val (.ref ba), .val (.int 2), .val (.int 11), .val (.int 2), .val (.int 95)] [(.int 95), (.int 2), (.ref ba)])) rfl rfl (hb hby dCa0_31)
  have V111 : Arv Z h111 ba kc_ba .byte (11 : Int32) [(.int 110), (.int 111), (.int (nar .byte (95 : Int32))), (.int 0), (.int 0), (.int 0), (.int 0), (.int 0), (.int 0), (.int 0), (.int 0)] (.int 0) := Arv.set Ar_q110 q1_q110 S_q110 N_q110 H_q110 G_q110 (fits_nar_byte _) W111 2 rfl (Nat.le_of_ble_eq_true rfl)
  rw [show (nar .byte (95 : Int32)) = (95 : Int32) from by decide] at V111
  have Z112 := Nat.le_trans Z108 (Keep.of_wr W111).1
  have K112 : Keep h0 h111 [ba] := K108.wr W111 (Or.inl (by simp))
  have N111 := Fr.snoc X111 N107 ge0_ba
  refine Go.by (fun _ kont => XS.iconst X0.here hx rfl (hb hby dCa0_0) (XS.istore X0.here hx rfl (hb hby dCa0_1) rfl (l' := #[.val (.ref ca), .val (.int 0), .val (.ref ba), .val (.int 0), .val (.int 11), .val (.int 0), .unset]) rfl (XS.iload X0.here hx rfl (hb hby dCa0_3) rfl (XS.iload X0.here hx rfl (hb hby dCa0_5) rfl (XS.icmpNo X0.here hx rfl (hb hby dCa0_7) rfl (by decide) (XS.aloadN X0.here hx rfl (hb hby dCa0_10) rfl rfl (XS.iloadN X0.here hx rfl (hb hby dCa0_11) rfl (X0.caload hx (j := (0 : Int32)) (v := (.int 110)) (own_at e0 Ar_q101.1) (State.isArrayOf_alike hZ.alike Ar_q101.2.1) Ar_q101.2.2 hin_q101 hat_q101 (g := (mkF m 12 #[.val (.ref ca), .val (.int 0), .val (.ref ba), .val (.int 0), .val (.int 11), .val (.int 0), .unset] [(.int 0), (.ref ca)])) rfl rfl (hb hby dCa0_12) _ (XS.istore X0.here hx rfl (hb hby dCa0_13) rfl (l' := #[.val (.ref ca), .val (.int 0), .val (.ref ba), .val (.int 0), .val (.int 11), .val (.int 0), .val (.int 110)]) rfl (XS.iload X0.here hx rfl (hb hby dCa0_15) rfl (XS.sipush X0.here hx rfl (hb hby dCa0_17) (XS.icmpYes X0.here hx rfl (pc0 := 20) (pc' := 26) rfl (hb hby dCa0_20) rfl (by decide) (by decide) (by decide) (XS.aloadN X0.here hx rfl (hb hby dCa0_26) rfl rfl (XS.iloadN X0.here hx rfl (hb hby dCa0_27) rfl (XS.iload X0.here hx rfl (hb hby dCa0_28) rfl (XS.i2b X0.here hx rfl (hb hby dCa0_30) rfl (own_fI (show ((110 : Int32).toInt8.toInt32) = (110 : Int32) from by decide) (st103 _ (XS.iinc X103.here hx rfl (hb hby dCa0_32) rfl (l' := #[.val (.ref ca), .val (.int 1), .val (.ref ba), .val (.int 0), .val (.int 11), .val (.int 0), .val (.int 110)]) rfl (XS.iinc X103.here hx rfl (hb hby dCa0_35) rfl (l' := #[.val (.ref ca), .val (.int 1), .val (.ref ba), .val (.int 1), .val (.int 11), .val (.int 0), .val (.int 110)]) rfl (XS.iinc X103.here hx rfl (hb hby dCa0_38) rfl (l' := #[.val (.ref ca), .val (.int 1), .val (.ref ba), .val (.int 1), .val (.int 11), .val (.int 1), .val (.int 110)]) rfl (XS.goto X103.here hx rfl (pc0 := 41) (pc' := 3) rfl (hb hby dCa0_41) (by decide) (by decide) (XS.iload X103.here hx rfl (hb hby dCa0_3) rfl (XS.iload X103.here hx rfl (hb hby dCa0_5) rfl (XS.icmpNo X103.here hx rfl (hb hby dCa0_7) rfl (by decide) (XS.aloadN X103.here hx rfl (hb hby dCa0_10) rfl rfl (XS.iloadN X103.here hx rfl (hb hby dCa0_11) rfl (X103.caload hx (j := (1 : Int32)) (v := (.int 111)) (own_at e103 Ar_q105.1) (State.isArrayOf_alike hZ.alike Ar_q105.2.1) Ar_q105.2.2 hin_q105 hat_q105 (g := (mkF m 12 #[.val (.ref ca), .val (.int 1), .val (.ref ba), .val (.int 1), .val (.int 11), .val (.int 1), .val (.int 110)] [(.int 1), (.ref ca)])) rfl rfl (hb hby dCa0_12) _ (XS.istore X103.here hx rfl (hb hby dCa0_13) rfl (l' := #[.val (.ref ca), .val (.int 1), .val (.ref ba), .val (.int 1), .val (.int 11), .val (.int 1), .val (.int 111)]) rfl (XS.iload X103.here hx rfl (hb hby dCa0_15) rfl (XS.sipush X103.here hx rfl (hb hby dCa0_17) (XS.icmpYes X103.here hx rfl (pc0 := 20) (pc' := 26) rfl (hb hby dCa0_20) rfl (by decide) (by decide) (by decide) (XS.aloadN X103.here hx rfl (hb hby dCa0_26) rfl rfl (XS.iloadN X103.here hx rfl (hb hby dCa0_27) rfl (XS.iload X103.here hx rfl (hb hby dCa0_28) rfl (XS.i2b X103.here hx rfl (hb hby dCa0_30) rfl (own_fI (show ((111 : Int32).toInt8.toInt32) = (111 : Int32) from by decide) (st107 _ (XS.iinc X107.here hx rfl (hb hby dCa0_32) rfl (l' := #[.val (.ref ca), .val (.int 2), .val (.ref ba), .val (.int 1), .val (.int 11), .val (.int 1), .val (.int 111)]) rfl (XS.iinc X107.here hx rfl (hb hby dCa0_35) rfl (l' := #[.val (.ref ca), .val (.int 2), .val (.ref ba), .val (.int 2), .val (.int 11), .val (.int 1), .val (.int 111)]) rfl (XS.iinc X107.here hx rfl (hb hby dCa0_38) rfl (l' := #[.val (.ref ca), .val (.int 2), .val (.ref ba), .val (.int 2), .val (.int 11), .val (.int 2), .val (.int 111)]) rfl (XS.goto X107.here hx rfl (pc0 := 41) (pc' := 3) rfl (hb hby dCa0_41) (by decide) (by decide) (XS.iload X107.here hx rfl (hb hby dCa0_3) rfl (XS.iload X107.here hx rfl (hb hby dCa0_5) rfl (XS.icmpNo X107.here hx rfl (hb hby dCa0_7) rfl (by decide) (XS.aloadN X107.here hx rfl (hb hby dCa0_10) rfl rfl (XS.iloadN X107.here hx rfl (hb hby dCa0_11) rfl (X107.caload hx (j := (2 : Int32)) (v := (.int 95)) (own_at e107 Ar_q109.1) (State.isArrayOf_alike hZ.alike Ar_q109.2.1) Ar_q109.2.2 hin_q109 hat_q109 (g := (mkF m 12 #[.val (.ref ca), .val (.int 2), .val (.ref ba), .val (.int 2), .val (.int 11), .val (.int 2), .val (.int 111)] [(.int 2), (.ref ca)])) rfl rfl (hb hby dCa0_12) _ (XS.istore X107.here hx rfl (hb hby dCa0_13) rfl (l' := #[.val (.ref ca), .val (.int 2), .val (.ref ba), .val (.int 2), .val (.int 11), .val (.int 2), .val (.int 95)]) rfl (XS.iload X107.here hx rfl (hb hby dCa0_15) rfl (XS.sipush X107.here hx rfl (hb hby dCa0_17) (XS.icmpYes X107.here hx rfl (pc0 := 20) (pc' := 26) rfl (hb hby dCa0_20) rfl (by decide) (by decide) (by decide) (XS.aloadN X107.here hx rfl (hb hby dCa0_26) rfl rfl (XS.iloadN X107.here hx rfl (hb hby dCa0_27) rfl (XS.iload X107.here hx rfl (hb hby dCa0_28) rfl (XS.i2b X107.here hx rfl (hb hby dCa0_30) rfl (own_fI (show ((95 : Int32).toInt8.toInt32) = (95 : Int32) from by decide) (st111 _ (XS.iinc X111.here hx rfl (hb hby dCa0_32) rfl (l' := #[.val (.ref ca), .val (.int 3), .val (.ref ba), .val (.int 2), .val (.int 11), .val (.int 2), .val (.int 95)]) rfl (XS.iinc X111.here hx rfl (hb hby dCa0_35) rfl (l' := #[.val (.ref ca), .val (.int 3), .val (.ref ba), .val (.int 3), .val (.int 11), .val (.int 2), .val (.int 95)]) rfl kont)))))))))))))))))))))))))))))))))))))))))))))))))))))))))))) ?_
  show Go _ _ _ _ _ _ _ (T111.setTop (mkF m 38 #[.val (.ref ca), .val (.int 3), .val (.ref ba), .val (.int 3), .val (.int 11), .val (.int 2), .val (.int 95)] []))
  obtain ⟨cl_q113, Ar_q113, q1_q113, S_q113, N_q113, H_q113, G_q113⟩ := id (V0_ca.keep K112 (ninS ne0_ca_ba nin0))
  have hin_q113 := own_ib S_q113 (3 : Int32) (by decide)
  have hat_q113 : cl_q113.slots[((3 : Int32)).toNatClampNeg]? = some (.int 110) := Has.at H_q113 hin_q113 rfl
  obtain ⟨cl_q114, Ar_q114, q1_q114, S_q114, N_q114, H_q114, G_q114⟩ := id V111
  have hin_q114 := own_ib S_q114 (3 : Int32) (by decide)
  obtain ⟨T115, h115, X115, e115, W115, st115⟩ := stB X111 hx hZ e111 Ar_q114 (j := (3 : Int32)) hin_q114 (g := (mkF m 31 #[.val (.ref ca), .val (.int 3), .val (.ref ba), .val (.int 3), .val (.int 11), .val (.int 3), .val (.int 110)] [(.int 110), (.int 3), (.ref ba)])) rfl rfl (hb hby dCa0_31)
  have V115 : Arv Z h115 ba kc_ba .byte (11 : Int32) [(.int 110), (.int 111), (.int 95), (.int (nar .byte (110 : Int32))), (.int 0), (.int 0), (.int 0), (.int 0), (.int 0), (.int 0), (.int 0)] (.int 0) := Arv.set Ar_q114 q1_q114 S_q114 N_q114 H_q114 G_q114 (fits_nar_byte _) W115 3 rfl (Nat.le_of_ble_eq_true rfl)
  rw [show (nar .byte (110 : Int32)) = (110 : Int32) from by decide] at V115
  have Z116 := Nat.le_trans Z112 (Keep.of_wr W115).1
  have K116 : Keep h0 h115 [ba] := K112.wr W115 (Or.inl (by simp))
  have N115 := Fr.snoc X115 N111 ge0_ba
  obtain ⟨cl_q117, Ar_q117, q1_q117, S_q117, N_q117, H_q117, G_q117⟩ := id (V0_ca.keep K116 (ninS ne0_ca_ba nin0))
  have hin_q117 := own_ib S_q117 (4 : Int32) (by decide)
  have hat_q117 : cl_q117.slots[((4 : Int32)).toNatClampNeg]? = some (.int 101) := Has.at H_q117 hin_q117 rfl
  obtain ⟨cl_q118, Ar_q118, q1_q118, S_q118, N_q118, H_q118, G_q118⟩ := id V115
  have hin_q118 := own_ib S_q118 (4 : Int32) (by decide)
  obtain ⟨T119, h119, X119, e119, W119, st119⟩ := stB X115 hx hZ e115 Ar_q118 (j := (4 : Int32)) hin_q118 (g := (mkF m 31 #[.val (.ref ca), .val (.int 4), .val (.ref ba), .val (.int 4), .val (.int 11), .val (.int 4), .val (.int 101)] [(.int 101), (.int 4), (.ref ba)])) rfl rfl (hb hby dCa0_31)
  have V119 : Arv Z h119 ba kc_ba .byte (11 : Int32) [(.int 110), (.int 111), (.int 95), (.int 110), (.int (nar .byte (101 : Int32))), (.int 0), (.int 0), (.int 0), (.int 0), (.int 0), (.int 0)] (.int 0) := Arv.set Ar_q118 q1_q118 S_q118 N_q118 H_q118 G_q118 (fits_nar_byte _) W119 4 rfl (Nat.le_of_ble_eq_true rfl)
  rw [show (nar .byte (101 : Int32)) = (101 : Int32) from by decide] at V119
  have Z120 := Nat.le_trans Z116 (Keep.of_wr W119).1
  have K120 : Keep h0 h119 [ba] := K116.wr W119 (Or.inl (by simp))
  have N119 := Fr.snoc X119 N115 ge0_ba
  obtain ⟨cl_q121, Ar_q121, q1_q121, S_q121, N_q121, H_q121, G_q121⟩ := id (V0_ca.keep K120 (ninS ne0_ca_ba nin0))
  have hin_q121 := own_ib S_q121 (5 : Int32) (by decide)
  have hat_q121 : cl_q121.slots[((5 : Int32)).toNatClampNeg]? = some (.int 119) := Has.at H_q121 hin_q121 rfl
  obtain ⟨cl_q122, Ar_q122, q1_q122, S_q122, N_q122, H_q122, G_q122⟩ := id V119
  have hin_q122 := own_ib S_q122 (5 : Int32) (by decide)
  obtain ⟨T123, h123, X123, e123, W123, st123⟩ := stB X119 hx hZ e119 Ar_q122 (j := (5 : Int32)) hin_q122 (g := (mkF m 31 #[.val (.ref ca), .val (.int 5), .val (.ref ba), .val (.int 5), .val (.int 11), .val (.int 5), .val (.int 119)] [(.int 119), (.int 5), (.ref ba)])) rfl rfl (hb hby dCa0_31)
  have V123 : Arv Z h123 ba kc_ba .byte (11 : Int32) [(.int 110), (.int 111), (.int 95), (.int 110), (.int 101), (.int (nar .byte (119 : Int32))), (.int 0), (.int 0), (.int 0), (.int 0), (.int 0)] (.int 0) := Arv.set Ar_q122 q1_q122 S_q122 N_q122 H_q122 G_q122 (fits_nar_byte _) W123 5 rfl (Nat.le_of_ble_eq_true rfl)
  rw [show (nar .byte (119 : Int32)) = (119 : Int32) from by decide] at V123
  have Z124 := Nat.le_trans Z120 (Keep.of_wr W123).1
  have K124 : Keep h0 h123 [ba] := K120.wr W123 (Or.inl (by simp))
  have N123 := Fr.snoc X123 N119 ge0_ba
  refine Go.by (fun _ kont => XS.iinc X111.here hx rfl (hb hby dCa0_38) rfl (l' := #[.val (.ref ca), .val (.int 3), .val (.ref ba), .val (.int 3), .val (.int 11), .val (.int 3), .val (.int 95)]) rfl (XS.goto X111.here hx rfl (pc0 := 41) (pc' := 3) rfl (hb hby dCa0_41) (by decide) (by decide) (XS.iload X111.here hx rfl (hb hby dCa0_3) rfl (XS.iload X111.here hx rfl (hb hby dCa0_5) rfl (XS.icmpNo X111.here hx rfl (hb hby dCa0_7) rfl (by decide) (XS.aloadN X111.here hx rfl (hb hby dCa0_10) rfl rfl (XS.iloadN X111.here hx rfl (hb hby dCa0_11) rfl (X111.caload hx (j := (3 : Int32)) (v := (.int 110)) (own_at e111 Ar_q113.1) (State.isArrayOf_alike hZ.alike Ar_q113.2.1) Ar_q113.2.2 hin_q113 hat_q113 (g := (mkF m 12 #[.val (.ref ca), .val (.int 3), .val (.ref ba), .val (.int 3), .val (.int 11), .val (.int 3), .val (.int 95)] [(.int 3), (.ref ca)])) rfl rfl (hb hby dCa0_12) _ (XS.istore X111.here hx rfl (hb hby dCa0_13) rfl (l' := #[.val (.ref ca), .val (.int 3), .val (.ref ba), .val (.int 3), .val (.int 11), .val (.int 3), .val (.int 110)]) rfl (XS.iload X111.here hx rfl (hb hby dCa0_15) rfl (XS.sipush X111.here hx rfl (hb hby dCa0_17) (XS.icmpYes X111.here hx rfl (pc0 := 20) (pc' := 26) rfl (hb hby dCa0_20) rfl (by decide) (by decide) (by decide) (XS.aloadN X111.here hx rfl (hb hby dCa0_26) rfl rfl (XS.iloadN X111.here hx rfl (hb hby dCa0_27) rfl (XS.iload X111.here hx rfl (hb hby dCa0_28) rfl (XS.i2b X111.here hx rfl (hb hby dCa0_30) rfl (own_fI (show ((110 : Int32).toInt8.toInt32) = (110 : Int32) from by decide) (st115 _ (XS.iinc X115.here hx rfl (hb hby dCa0_32) rfl (l' := #[.val (.ref ca), .val (.int 4), .val (.ref ba), .val (.int 3), .val (.int 11), .val (.int 3), .val (.int 110)]) rfl (XS.iinc X115.here hx rfl (hb hby dCa0_35) rfl (l' := #[.val (.ref ca), .val (.int 4), .val (.ref ba), .val (.int 4), .val (.int 11), .val (.int 3), .val (.int 110)]) rfl (XS.iinc X115.here hx rfl (hb hby dCa0_38) rfl (l' := #[.val (.ref ca), .val (.int 4), .val (.ref ba), .val (.int 4), .val (.int 11), .val (.int 4), .val (.int 110)]) rfl (XS.goto X115.here hx rfl (pc0 := 41) (pc' := 3) rfl (hb hby dCa0_41) (by decide) (by decide) (XS.iload X115.here hx rfl (hb hby dCa0_3) rfl (XS.iload X115.here hx rfl (hb hby dCa0_5) rfl (XS.icmpNo X115.here hx rfl (hb hby dCa0_7) rfl (by decide) (XS.aloadN X115.here hx rfl (hb hby dCa0_10) rfl rfl (XS.iloadN X115.here hx rfl (hb hby dCa0_11) rfl (X115.caload hx (j := (4 : Int32)) (v := (.int 101)) (own_at e115 Ar_q117.1) (State.isArrayOf_alike hZ.alike Ar_q117.2.1) Ar_q117.2.2 hin_q117 hat_q117 (g := (mkF m 12 #[.val (.ref ca), .val (.int 4), .val (.ref ba), .val (.int 4), .val (.int 11), .val (.int 4), .val (.int 110)] [(.int 4), (.ref ca)])) rfl rfl (hb hby dCa0_12) _ (XS.istore X115.here hx rfl (hb hby dCa0_13) rfl (l' := #[.val (.ref ca), .val (.int 4), .val (.ref ba), .val (.int 4), .val (.int 11), .val (.int 4), .val (.int 101)]) rfl (XS.iload X115.here hx rfl (hb hby dCa0_15) rfl (XS.sipush X115.here hx rfl (hb hby dCa0_17) (XS.icmpYes X115.here hx rfl (pc0 := 20) (pc' := 26) rfl (hb hby dCa0_20) rfl (by decide) (by decide) (by decide) (XS.aloadN X115.here hx rfl (hb hby dCa0_26) rfl rfl (XS.iloadN X115.here hx rfl (hb hby dCa0_27) rfl (XS.iload X115.here hx rfl (hb hby dCa0_28) rfl (XS.i2b X115.here hx rfl (hb hby dCa0_30) rfl (own_fI (show ((101 : Int32).toInt8.toInt32) = (101 : Int32) from by decide) (st119 _ (XS.iinc X119.here hx rfl (hb hby dCa0_32) rfl (l' := #[.val (.ref ca), .val (.int 5), .val (.ref ba), .val (.int 4), .val (.int 11), .val (.int 4), .val (.int 101)]) rfl (XS.iinc X119.here hx rfl (hb hby dCa0_35) rfl (l' := #[.val (.ref ca), .val (.int 5), .val (.ref ba), .val (.int 5), .val (.int 11), .val (.int 4), .val (.int 101)]) rfl (XS.iinc X119.here hx rfl (hb hby dCa0_38) rfl (l' := #[.val (.ref ca), .val (.int 5), .val (.ref ba), .val (.int 5), .val (.int 11), .val (.int 5), .val (.int 101)]) rfl (XS.goto X119.here hx rfl (pc0 := 41) (pc' := 3) rfl (hb hby dCa0_41) (by decide) (by decide) (XS.iload X119.here hx rfl (hb hby dCa0_3) rfl (XS.iload X119.here hx rfl (hb hby dCa0_5) rfl (XS.icmpNo X119.here hx rfl (hb hby dCa0_7) rfl (by decide) (XS.aloadN X119.here hx rfl (hb hby dCa0_10) rfl rfl (XS.iloadN X119.here hx rfl (hb hby dCa0_11) rfl (X119.caload hx (j := (5 : Int32)) (v := (.int 119)) (own_at e119 Ar_q121.1) (State.isArrayOf_alike hZ.alike Ar_q121.2.1) Ar_q121.2.2 hin_q121 hat_q121 (g := (mkF m 12 #[.val (.ref ca), .val (.int 5), .val (.ref ba), .val (.int 5), .val (.int 11), .val (.int 5), .val (.int 101)] [(.int 5), (.ref ca)])) rfl rfl (hb hby dCa0_12) _ (XS.istore X119.here hx rfl (hb hby dCa0_13) rfl (l' := #[.val (.ref ca), .val (.int 5), .val (.ref ba), .val (.int 5), .val (.int 11), .val (.int 5), .val (.int 119)]) rfl (XS.iload X119.here hx rfl (hb hby dCa0_15) rfl (XS.sipush X119.here hx rfl (hb hby dCa0_17) (XS.icmpYes X119.here hx rfl (pc0 := 20) (pc' := 26) rfl (hb hby dCa0_20) rfl (by decide) (by decide) (by decide) (XS.aloadN X119.here hx rfl (hb hby dCa0_26) rfl rfl (XS.iloadN X119.here hx rfl (hb hby dCa0_27) rfl (XS.iload X119.here hx rfl (hb hby dCa0_28) rfl (XS.i2b X119.here hx rfl (hb hby dCa0_30) rfl (own_fI (show ((119 : Int32).toInt8.toInt32) = (119 : Int32) from by decide) (st123 _ (XS.iinc X123.here hx rfl (hb hby dCa0_32) rfl (l' := #[.val (.ref ca), .val (.int 6), .val (.ref ba), .val (.int 5), .val (.int 11), .val (.int 5), .val (.int 119)]) rfl (XS.iinc X123.here hx rfl (hb hby dCa0_35) rfl (l' := #[.val (.ref ca), .val (.int 6), .val (.ref ba), .val (.int 6), .val (.int 11), .val (.int 5), .val (.int 119)]) rfl kont)))))))))))))))))))))))))))))))))))))))))))))))))))))))))))) ?_
  show Go _ _ _ _ _ _ _ (T123.setTop (mkF m 38 #[.val (.ref ca), .val (.int 6), .val (.ref ba), .val (.int 6), .val (.int 11), .val (.int 5), .val (.int 119)] []))
  obtain ⟨cl_q125, Ar_q125, q1_q125, S_q125, N_q125, H_q125, G_q125⟩ := id (V0_ca.keep K124 (ninS ne0_ca_ba nin0))
  have hin_q125 := own_ib S_q125 (6 : Int32) (by decide)
  have hat_q125 : cl_q125.slots[((6 : Int32)).toNatClampNeg]? = some (.int 95) := Has.at H_q125 hin_q125 rfl
  obtain ⟨cl_q126, Ar_q126, q1_q126, S_q126, N_q126, H_q126, G_q126⟩ := id V123
  have hin_q126 := own_ib S_q126 (6 : Int32) (by decide)
  obtain ⟨T127, h127, X127, e127, W127, st127⟩ := stB X123 hx hZ e123 Ar_q126 (j := (6 : Int32)) hin_q126 (g := (mkF m 31 #[.val (.ref ca), .val (.int 6), .val (.ref ba), .val (.int 6), .val (.int 11), .val (.int 6), .val (.int 95)] [(.int 95), (.int 6), (.ref ba)])) rfl rfl (hb hby dCa0_31)
  have V127 : Arv Z h127 ba kc_ba .byte (11 : Int32) [(.int 110), (.int 111), (.int 95), (.int 110), (.int 101), (.int 119), (.int (nar .byte (95 : Int32))), (.int 0), (.int 0), (.int 0), (.int 0)] (.int 0) := Arv.set Ar_q126 q1_q126 S_q126 N_q126 H_q126 G_q126 (fits_nar_byte _) W127 6 rfl (Nat.le_of_ble_eq_true rfl)
  rw [show (nar .byte (95 : Int32)) = (95 : Int32) from by decide] at V127
  have Z128 := Nat.le_trans Z124 (Keep.of_wr W127).1
  have K128 : Keep h0 h127 [ba] := K124.wr W127 (Or.inl (by simp))
  have N127 := Fr.snoc X127 N123 ge0_ba
  obtain ⟨cl_q129, Ar_q129, q1_q129, S_q129, N_q129, H_q129, G_q129⟩ := id (V0_ca.keep K128 (ninS ne0_ca_ba nin0))
  have hin_q129 := own_ib S_q129 (7 : Int32) (by decide)
  have hat_q129 : cl_q129.slots[((7 : Int32)).toNatClampNeg]? = some (.int 111) := Has.at H_q129 hin_q129 rfl
  obtain ⟨cl_q130, Ar_q130, q1_q130, S_q130, N_q130, H_q130, G_q130⟩ := id V127
  have hin_q130 := own_ib S_q130 (7 : Int32) (by decide)
  obtain ⟨T131, h131, X131, e131, W131, st131⟩ := stB X127 hx hZ e127 Ar_q130 (j := (7 : Int32)) hin_q130 (g := (mkF m 31 #[.val (.ref ca), .val (.int 7), .val (.ref ba), .val (.int 7), .val (.int 11), .val (.int 7), .val (.int 111)] [(.int 111), (.int 7), (.ref ba)])) rfl rfl (hb hby dCa0_31)
  have V131 : Arv Z h131 ba kc_ba .byte (11 : Int32) [(.int 110), (.int 111), (.int 95), (.int 110), (.int 101), (.int 119), (.int 95), (.int (nar .byte (111 : Int32))), (.int 0), (.int 0), (.int 0)] (.int 0) := Arv.set Ar_q130 q1_q130 S_q130 N_q130 H_q130 G_q130 (fits_nar_byte _) W131 7 rfl (Nat.le_of_ble_eq_true rfl)
  rw [show (nar .byte (111 : Int32)) = (111 : Int32) from by decide] at V131
  have Z132 := Nat.le_trans Z128 (Keep.of_wr W131).1
  have K132 : Keep h0 h131 [ba] := K128.wr W131 (Or.inl (by simp))
  have N131 := Fr.snoc X131 N127 ge0_ba
  obtain ⟨cl_q133, Ar_q133, q1_q133, S_q133, N_q133, H_q133, G_q133⟩ := id (V0_ca.keep K132 (ninS ne0_ca_ba nin0))
  have hin_q133 := own_ib S_q133 (8 : Int32) (by decide)
  have hat_q133 : cl_q133.slots[((8 : Int32)).toNatClampNeg]? = some (.int 112) := Has.at H_q133 hin_q133 rfl
  obtain ⟨cl_q134, Ar_q134, q1_q134, S_q134, N_q134, H_q134, G_q134⟩ := id V131
  have hin_q134 := own_ib S_q134 (8 : Int32) (by decide)
  obtain ⟨T135, h135, X135, e135, W135, st135⟩ := stB X131 hx hZ e131 Ar_q134 (j := (8 : Int32)) hin_q134 (g := (mkF m 31 #[.val (.ref ca), .val (.int 8), .val (.ref ba), .val (.int 8), .val (.int 11), .val (.int 8), .val (.int 112)] [(.int 112), (.int 8), (.ref ba)])) rfl rfl (hb hby dCa0_31)
  have V135 : Arv Z h135 ba kc_ba .byte (11 : Int32) [(.int 110), (.int 111), (.int 95), (.int 110), (.int 101), (.int 119), (.int 95), (.int 111), (.int (nar .byte (112 : Int32))), (.int 0), (.int 0)] (.int 0) := Arv.set Ar_q134 q1_q134 S_q134 N_q134 H_q134 G_q134 (fits_nar_byte _) W135 8 rfl (Nat.le_of_ble_eq_true rfl)
  rw [show (nar .byte (112 : Int32)) = (112 : Int32) from by decide] at V135
  have Z136 := Nat.le_trans Z132 (Keep.of_wr W135).1
  have K136 : Keep h0 h135 [ba] := K132.wr W135 (Or.inl (by simp))
  have N135 := Fr.snoc X135 N131 ge0_ba
  refine Go.by (fun _ kont => XS.iinc X123.here hx rfl (hb hby dCa0_38) rfl (l' := #[.val (.ref ca), .val (.int 6), .val (.ref ba), .val (.int 6), .val (.int 11), .val (.int 6), .val (.int 119)]) rfl (XS.goto X123.here hx rfl (pc0 := 41) (pc' := 3) rfl (hb hby dCa0_41) (by decide) (by decide) (XS.iload X123.here hx rfl (hb hby dCa0_3) rfl (XS.iload X123.here hx rfl (hb hby dCa0_5) rfl (XS.icmpNo X123.here hx rfl (hb hby dCa0_7) rfl (by decide) (XS.aloadN X123.here hx rfl (hb hby dCa0_10) rfl rfl (XS.iloadN X123.here hx rfl (hb hby dCa0_11) rfl (X123.caload hx (j := (6 : Int32)) (v := (.int 95)) (own_at e123 Ar_q125.1) (State.isArrayOf_alike hZ.alike Ar_q125.2.1) Ar_q125.2.2 hin_q125 hat_q125 (g := (mkF m 12 #[.val (.ref ca), .val (.int 6), .val (.ref ba), .val (.int 6), .val (.int 11), .val (.int 6), .val (.int 119)] [(.int 6), (.ref ca)])) rfl rfl (hb hby dCa0_12) _ (XS.istore X123.here hx rfl (hb hby dCa0_13) rfl (l' := #[.val (.ref ca), .val (.int 6), .val (.ref ba), .val (.int 6), .val (.int 11), .val (.int 6), .val (.int 95)]) rfl (XS.iload X123.here hx rfl (hb hby dCa0_15) rfl (XS.sipush X123.here hx rfl (hb hby dCa0_17) (XS.icmpYes X123.here hx rfl (pc0 := 20) (pc' := 26) rfl (hb hby dCa0_20) rfl (by decide) (by decide) (by decide) (XS.aloadN X123.here hx rfl (hb hby dCa0_26) rfl rfl (XS.iloadN X123.here hx rfl (hb hby dCa0_27) rfl (XS.iload X123.here hx rfl (hb hby dCa0_28) rfl (XS.i2b X123.here hx rfl (hb hby dCa0_30) rfl (own_fI (show ((95 : Int32).toInt8.toInt32) = (95 : Int32) from by decide) (st127 _ (XS.iinc X127.here hx rfl (hb hby dCa0_32) rfl (l' := #[.val (.ref ca), .val (.int 7), .val (.ref ba), .val (.int 6), .val (.int 11), .val (.int 6), .val (.int 95)]) rfl (XS.iinc X127.here hx rfl (hb hby dCa0_35) rfl (l' := #[.val (.ref ca), .val (.int 7), .val (.ref ba), .val (.int 7), .val (.int 11), .val (.int 6), .val (.int 95)]) rfl (XS.iinc X127.here hx rfl (hb hby dCa0_38) rfl (l' := #[.val (.ref ca), .val (.int 7), .val (.ref ba), .val (.int 7), .val (.int 11), .val (.int 7), .val (.int 95)]) rfl (XS.goto X127.here hx rfl (pc0 := 41) (pc' := 3) rfl (hb hby dCa0_41) (by decide) (by decide) (XS.iload X127.here hx rfl (hb hby dCa0_3) rfl (XS.iload X127.here hx rfl (hb hby dCa0_5) rfl (XS.icmpNo X127.here hx rfl (hb hby dCa0_7) rfl (by decide) (XS.aloadN X127.here hx rfl (hb hby dCa0_10) rfl rfl (XS.iloadN X127.here hx rfl (hb hby dCa0_11) rfl (X127.caload hx (j := (7 : Int32)) (v := (.int 111)) (own_at e127 Ar_q129.1) (State.isArrayOf_alike hZ.alike Ar_q129.2.1) Ar_q129.2.2 hin_q129 hat_q129 (g := (mkF m 12 #[.val (.ref ca), .val (.int 7), .val (.ref ba), .val (.int 7), .val (.int 11), .val (.int 7), .val (.int 95)] [(.int 7), (.ref ca)])) rfl rfl (hb hby dCa0_12) _ (XS.istore X127.here hx rfl (hb hby dCa0_13) rfl (l' := #[.val (.ref ca), .val (.int 7), .val (.ref ba), .val (.int 7), .val (.int 11), .val (.int 7), .val (.int 111)]) rfl (XS.iload X127.here hx rfl (hb hby dCa0_15) rfl (XS.sipush X127.here hx rfl (hb hby dCa0_17) (XS.icmpYes X127.here hx rfl (pc0 := 20) (pc' := 26) rfl (hb hby dCa0_20) rfl (by decide) (by decide) (by decide) (XS.aloadN X127.here hx rfl (hb hby dCa0_26) rfl rfl (XS.iloadN X127.here hx rfl (hb hby dCa0_27) rfl (XS.iload X127.here hx rfl (hb hby dCa0_28) rfl (XS.i2b X127.here hx rfl (hb hby dCa0_30) rfl (own_fI (show ((111 : Int32).toInt8.toInt32) = (111 : Int32) from by decide) (st131 _ (XS.iinc X131.here hx rfl (hb hby dCa0_32) rfl (l' := #[.val (.ref ca), .val (.int 8), .val (.ref ba), .val (.int 7), .val (.int 11), .val (.int 7), .val (.int 111)]) rfl (XS.iinc X131.here hx rfl (hb hby dCa0_35) rfl (l' := #[.val (.ref ca), .val (.int 8), .val (.ref ba), .val (.int 8), .val (.int 11), .val (.int 7), .val (.int 111)]) rfl (XS.iinc X131.here hx rfl (hb hby dCa0_38) rfl (l' := #[.val (.ref ca), .val (.int 8), .val (.ref ba), .val (.int 8), .val (.int 11), .val (.int 8), .val (.int 111)]) rfl (XS.goto X131.here hx rfl (pc0 := 41) (pc' := 3) rfl (hb hby dCa0_41) (by decide) (by decide) (XS.iload X131.here hx rfl (hb hby dCa0_3) rfl (XS.iload X131.here hx rfl (hb hby dCa0_5) rfl (XS.icmpNo X131.here hx rfl (hb hby dCa0_7) rfl (by decide) (XS.aloadN X131.here hx rfl (hb hby dCa0_10) rfl rfl (XS.iloadN X131.here hx rfl (hb hby dCa0_11) rfl (X131.caload hx (j := (8 : Int32)) (v := (.int 112)) (own_at e131 Ar_q133.1) (State.isArrayOf_alike hZ.alike Ar_q133.2.1) Ar_q133.2.2 hin_q133 hat_q133 (g := (mkF m 12 #[.val (.ref ca), .val (.int 8), .val (.ref ba), .val (.int 8), .val (.int 11), .val (.int 8), .val (.int 111)] [(.int 8), (.ref ca)])) rfl rfl (hb hby dCa0_12) _ (XS.istore X131.here hx rfl (hb hby dCa0_13) rfl (l' := #[.val (.ref ca), .val (.int 8), .val (.ref ba), .val (.int 8), .val (.int 11), .val (.int 8), .val (.int 112)]) rfl (XS.iload X131.here hx rfl (hb hby dCa0_15) rfl (XS.sipush X131.here hx rfl (hb hby dCa0_17) (XS.icmpYes X131.here hx rfl (pc0 := 20) (pc' := 26) rfl (hb hby dCa0_20) rfl (by decide) (by decide) (by decide) (XS.aloadN X131.here hx rfl (hb hby dCa0_26) rfl rfl (XS.iloadN X131.here hx rfl (hb hby dCa0_27) rfl (XS.iload X131.here hx rfl (hb hby dCa0_28) rfl (XS.i2b X131.here hx rfl (hb hby dCa0_30) rfl (own_fI (show ((112 : Int32).toInt8.toInt32) = (112 : Int32) from by decide) (st135 _ (XS.iinc X135.here hx rfl (hb hby dCa0_32) rfl (l' := #[.val (.ref ca), .val (.int 9), .val (.ref ba), .val (.int 8), .val (.int 11), .val (.int 8), .val (.int 112)]) rfl (XS.iinc X135.here hx rfl (hb hby dCa0_35) rfl (l' := #[.val (.ref ca), .val (.int 9), .val (.ref ba), .val (.int 9), .val (.int 11), .val (.int 8), .val (.int 112)]) rfl kont)))))))))))))))))))))))))))))))))))))))))))))))))))))))))))) ?_
  show Go _ _ _ _ _ _ _ (T135.setTop (mkF m 38 #[.val (.ref ca), .val (.int 9), .val (.ref ba), .val (.int 9), .val (.int 11), .val (.int 8), .val (.int 112)] []))
  obtain ⟨cl_q137, Ar_q137, q1_q137, S_q137, N_q137, H_q137, G_q137⟩ := id (V0_ca.keep K136 (ninS ne0_ca_ba nin0))
  have hin_q137 := own_ib S_q137 (9 : Int32) (by decide)
  have hat_q137 : cl_q137.slots[((9 : Int32)).toNatClampNeg]? = some (.int 101) := Has.at H_q137 hin_q137 rfl
  obtain ⟨cl_q138, Ar_q138, q1_q138, S_q138, N_q138, H_q138, G_q138⟩ := id V135
  have hin_q138 := own_ib S_q138 (9 : Int32) (by decide)
  obtain ⟨T139, h139, X139, e139, W139, st139⟩ := stB X135 hx hZ e135 Ar_q138 (j := (9 : Int32)) hin_q138 (g := (mkF m 31 #[.val (.ref ca), .val (.int 9), .val (.ref ba), .val (.int 9), .val (.int 11), .val (.int 9), .val (.int 101)] [(.int 101), (.int 9), (.ref ba)])) rfl rfl (hb hby dCa0_31)
  have V139 : Arv Z h139 ba kc_ba .byte (11 : Int32) [(.int 110), (.int 111), (.int 95), (.int 110), (.int 101), (.int 119), (.int 95), (.int 111), (.int 112), (.int (nar .byte (101 : Int32))), (.int 0)] (.int 0) := Arv.set Ar_q138 q1_q138 S_q138 N_q138 H_q138 G_q138 (fits_nar_byte _) W139 9 rfl (Nat.le_of_ble_eq_true rfl)
  rw [show (nar .byte (101 : Int32)) = (101 : Int32) from by decide] at V139
  have Z140 := Nat.le_trans Z136 (Keep.of_wr W139).1
  have K140 : Keep h0 h139 [ba] := K136.wr W139 (Or.inl (by simp))
  have N139 := Fr.snoc X139 N135 ge0_ba
  obtain ⟨cl_q141, Ar_q141, q1_q141, S_q141, N_q141, H_q141, G_q141⟩ := id (V0_ca.keep K140 (ninS ne0_ca_ba nin0))
  have hin_q141 := own_ib S_q141 (10 : Int32) (by decide)
  have hat_q141 : cl_q141.slots[((10 : Int32)).toNatClampNeg]? = some (.int 110) := Has.at H_q141 hin_q141 rfl
  obtain ⟨cl_q142, Ar_q142, q1_q142, S_q142, N_q142, H_q142, G_q142⟩ := id V139
  have hin_q142 := own_ib S_q142 (10 : Int32) (by decide)
  obtain ⟨T143, h143, X143, e143, W143, st143⟩ := stB X139 hx hZ e139 Ar_q142 (j := (10 : Int32)) hin_q142 (g := (mkF m 31 #[.val (.ref ca), .val (.int 10), .val (.ref ba), .val (.int 10), .val (.int 11), .val (.int 10), .val (.int 110)] [(.int 110), (.int 10), (.ref ba)])) rfl rfl (hb hby dCa0_31)
  have V143 : Arv Z h143 ba kc_ba .byte (11 : Int32) [(.int 110), (.int 111), (.int 95), (.int 110), (.int 101), (.int 119), (.int 95), (.int 111), (.int 112), (.int 101), (.int (nar .byte (110 : Int32)))] (.int 0) := Arv.set Ar_q142 q1_q142 S_q142 N_q142 H_q142 G_q142 (fits_nar_byte _) W143 10 rfl (Nat.le_of_ble_eq_true rfl)
  rw [show (nar .byte (110 : Int32)) = (110 : Int32) from by decide] at V143
  have Z144 := Nat.le_trans Z140 (Keep.of_wr W143).1
  have K144 : Keep h0 h143 [ba] := K140.wr W143 (Or.inl (by simp))
  have N143 := Fr.snoc X143 N139 ge0_ba
  refine Go.by (fun _ kont => XS.iinc X135.here hx rfl (hb hby dCa0_38) rfl (l' := #[.val (.ref ca), .val (.int 9), .val (.ref ba), .val (.int 9), .val (.int 11), .val (.int 9), .val (.int 112)]) rfl (XS.goto X135.here hx rfl (pc0 := 41) (pc' := 3) rfl (hb hby dCa0_41) (by decide) (by decide) (XS.iload X135.here hx rfl (hb hby dCa0_3) rfl (XS.iload X135.here hx rfl (hb hby dCa0_5) rfl (XS.icmpNo X135.here hx rfl (hb hby dCa0_7) rfl (by decide) (XS.aloadN X135.here hx rfl (hb hby dCa0_10) rfl rfl (XS.iloadN X135.here hx rfl (hb hby dCa0_11) rfl (X135.caload hx (j := (9 : Int32)) (v := (.int 101)) (own_at e135 Ar_q137.1) (State.isArrayOf_alike hZ.alike Ar_q137.2.1) Ar_q137.2.2 hin_q137 hat_q137 (g := (mkF m 12 #[.val (.ref ca), .val (.int 9), .val (.ref ba), .val (.int 9), .val (.int 11), .val (.int 9), .val (.int 112)] [(.int 9), (.ref ca)])) rfl rfl (hb hby dCa0_12) _ (XS.istore X135.here hx rfl (hb hby dCa0_13) rfl (l' := #[.val (.ref ca), .val (.int 9), .val (.ref ba), .val (.int 9), .val (.int 11), .val (.int 9), .val (.int 101)]) rfl (XS.iload X135.here hx rfl (hb hby dCa0_15) rfl (XS.sipush X135.here hx rfl (hb hby dCa0_17) (XS.icmpYes X135.here hx rfl (pc0 := 20) (pc' := 26) rfl (hb hby dCa0_20) rfl (by decide) (by decide) (by decide) (XS.aloadN X135.here hx rfl (hb hby dCa0_26) rfl rfl (XS.iloadN X135.here hx rfl (hb hby dCa0_27) rfl (XS.iload X135.here hx rfl (hb hby dCa0_28) rfl (XS.i2b X135.here hx rfl (hb hby dCa0_30) rfl (own_fI (show ((101 : Int32).toInt8.toInt32) = (101 : Int32) from by decide) (st139 _ (XS.iinc X139.here hx rfl (hb hby dCa0_32) rfl (l' := #[.val (.ref ca), .val (.int 10), .val (.ref ba), .val (.int 9), .val (.int 11), .val (.int 9), .val (.int 101)]) rfl (XS.iinc X139.here hx rfl (hb hby dCa0_35) rfl (l' := #[.val (.ref ca), .val (.int 10), .val (.ref ba), .val (.int 10), .val (.int 11), .val (.int 9), .val (.int 101)]) rfl (XS.iinc X139.here hx rfl (hb hby dCa0_38) rfl (l' := #[.val (.ref ca), .val (.int 10), .val (.ref ba), .val (.int 10), .val (.int 11), .val (.int 10), .val (.int 101)]) rfl (XS.goto X139.here hx rfl (pc0 := 41) (pc' := 3) rfl (hb hby dCa0_41) (by decide) (by decide) (XS.iload X139.here hx rfl (hb hby dCa0_3) rfl (XS.iload X139.here hx rfl (hb hby dCa0_5) rfl (XS.icmpNo X139.here hx rfl (hb hby dCa0_7) rfl (by decide) (XS.aloadN X139.here hx rfl (hb hby dCa0_10) rfl rfl (XS.iloadN X139.here hx rfl (hb hby dCa0_11) rfl (X139.caload hx (j := (10 : Int32)) (v := (.int 110)) (own_at e139 Ar_q141.1) (State.isArrayOf_alike hZ.alike Ar_q141.2.1) Ar_q141.2.2 hin_q141 hat_q141 (g := (mkF m 12 #[.val (.ref ca), .val (.int 10), .val (.ref ba), .val (.int 10), .val (.int 11), .val (.int 10), .val (.int 101)] [(.int 10), (.ref ca)])) rfl rfl (hb hby dCa0_12) _ (XS.istore X139.here hx rfl (hb hby dCa0_13) rfl (l' := #[.val (.ref ca), .val (.int 10), .val (.ref ba), .val (.int 10), .val (.int 11), .val (.int 10), .val (.int 110)]) rfl (XS.iload X139.here hx rfl (hb hby dCa0_15) rfl (XS.sipush X139.here hx rfl (hb hby dCa0_17) (XS.icmpYes X139.here hx rfl (pc0 := 20) (pc' := 26) rfl (hb hby dCa0_20) rfl (by decide) (by decide) (by decide) (XS.aloadN X139.here hx rfl (hb hby dCa0_26) rfl rfl (XS.iloadN X139.here hx rfl (hb hby dCa0_27) rfl (XS.iload X139.here hx rfl (hb hby dCa0_28) rfl (XS.i2b X139.here hx rfl (hb hby dCa0_30) rfl (own_fI (show ((110 : Int32).toInt8.toInt32) = (110 : Int32) from by decide) (st143 _ (XS.iinc X143.here hx rfl (hb hby dCa0_32) rfl (l' := #[.val (.ref ca), .val (.int 11), .val (.ref ba), .val (.int 10), .val (.int 11), .val (.int 10), .val (.int 110)]) rfl (XS.iinc X143.here hx rfl (hb hby dCa0_35) rfl (l' := #[.val (.ref ca), .val (.int 11), .val (.ref ba), .val (.int 11), .val (.int 11), .val (.int 10), .val (.int 110)]) rfl (XS.iinc X143.here hx rfl (hb hby dCa0_38) rfl (l' := #[.val (.ref ca), .val (.int 11), .val (.ref ba), .val (.int 11), .val (.int 11), .val (.int 11), .val (.int 110)]) rfl (XS.goto X143.here hx rfl (pc0 := 41) (pc' := 3) rfl (hb hby dCa0_41) (by decide) (by decide) (XS.iload X143.here hx rfl (hb hby dCa0_3) rfl (XS.iload X143.here hx rfl (hb hby dCa0_5) rfl (XS.icmpYes X143.here hx rfl (pc0 := 7) (pc' := 44) rfl (hb hby dCa0_7) rfl (by decide) (by decide) (by decide) (XS.iload X143.here hx rfl (hb hby dCa0_44) rfl kont)))))))))))))))))))))))))))))))))))))))))))))) ?_
  show Go _ _ _ _ _ _ _ (T143.setTop (mkF m 46 #[.val (.ref ca), .val (.int 11), .val (.ref ba), .val (.int 11), .val (.int 11), .val (.int 11), .val (.int 110)] [(.int 11)]))
  refine Go.retI X143 hx hret hlk (hb hby dCa0_46) ?_ (by decide) (by decide)
  show QCa1 Z ba kc_ba h0 n0 (some (.int 11)) T143.heap _
  rw [e143]
  exact ⟨rfl, N143, K144, V143⟩

theorem pdCb1_0 : parseMethodDescriptor "([CI[BII)I" = some ⟨[(.array .char), .int, (.array .byte), .int, .int], some .int⟩ := by decide +kernel
theorem pnCb1 : plainName "java/lang/StringUTF16" = true := by first | (simp [plainName, overriddenIn]; done) | decide +kernel
theorem efCb1 (m : MethodId) (ca : Addr) : entryFrame m #[(.ref ca), (.int 0), (.int 11)] 6 = mkF m 0 #[.val (.ref ca), .val (.int 0), .val (.int 11), .unset, .unset, .unset] [] := by first | (simp [entryFrame, mkF, argsToLocals, Value.category]; done) | rfl
def QCb1 (Z : State)  (h0 : Heap) (n0 : Nat) (v : Option Value) (h : Heap) (L : List Loc) : Prop := ∃ b101 : Addr, ∃ k101 : ClassId, (v = some (.ref b101) ∧ Fr n0 L ∧ Keep h0 h [] ∧ n0 ≤ b101 ∧ h0.size ≤ b101 ∧ Arv Z h b101 k101 .byte (11 : Int32) [(.int 110), (.int 111), (.int 95), (.int 110), (.int 101), (.int 119), (.int 95), (.int 111), (.int 112), (.int 101), (.int 110)] (.int 0))
set_option maxRecDepth 65536 in
set_option maxHeartbeats 40000000 in
theorem rmCb1 (l : Launch) (Z : State) (a0 : Array Value) (hw : ∀ d ∈ tables_1, d.before a0 Z = true) (ws : List Jvm.Cond) (ca : Addr) (kc_ca : ClassId) (h0 : Heap) (n0 : Nat) (Z0 : n0 ≤ h0.size) (V0_ca : Arv Z h0 ca kc_ca .char (11 : Int32) [(.int 110), (.int 111), (.int 95), (.int 110), (.int 101), (.int 119), (.int 95), (.int 111), (.int 112), (.int 101), (.int 110)] (.int 0)) :
    Ct l Z (⟨"java/lang/StringUTF16", "compress", "([CII)[B"⟩ : MethodName) jdk_52_method_16_code 6 (some (.array .byte)) ws (⟨1, 1, 11, 18⟩ : Room) #[(.ref ca), (.int 0), (.int 11)] h0 (QCb1 Z  h0 n0) := by
  refine MetFree.of_bodySF (plainFor_of_name pnCb1) hisR ?_
  intro p e s m args below meth c s₁ Bd hml hP hK
  obtain ⟨rfl, hZ, hh⟩ := hP
  obtain ⟨hx, hby, hown, hnm, hlk, hret, X0, e0⟩ := own_st Bd "java/lang/StringUTF16" rfl hh
  have N0 := Fr.nil n0
  show Go p e below s (⟨1, 1, 11, 18⟩ : Room).cells (⟨1, 1, 11, 18⟩ : Room).slots (QCb1 Z  h0 n0) (s₁.setTop (entryFrame m #[(.ref ca), (.int 0), (.int 11)] 6))
  rw [efCb1]
  obtain ⟨T101, h101, k101, X101, e101, X_101, A101, st101⟩ := newP X0 hx hZ (own_w hw 23 rfl) e0 (g := (mkF m 1 #[.val (.ref ca), .val (.int 0), .val (.int 11), .unset, .unset, .unset] [(.int 11)])) rfl (hb hby dCb0_1) rfl (by decide) (cap := 11) (by decide) (by decide) (by decide) (by decide)
  obtain ⟨b101, g101⟩ : ∃ z, z = h0.size := ⟨_, rfl⟩
  rw [← g101] at A101 st101
  have ge_b101 : n0 ≤ b101 := Nat.le_trans Z0 (Nat.le_of_eq g101.symm)
  have sz_b101 : h0.size ≤ b101 := Nat.le_trans (Keep.refl h0 []).1 (Nat.le_of_eq g101.symm)
  have Z102 := Nat.le_trans Z0 X_101.1
  have K102 : Keep h0 h101 [] := (Keep.refl h0 []).ext X_101
  have V101 : Arv Z h101 b101 k101 .byte (11 : Int32) [(.int 0), (.int 0), (.int 0), (.int 0), (.int 0), (.int 0), (.int 0), (.int 0), (.int 0), (.int 0), (.int 0)] (.int 0) := (Arv.new A101 (by decide)).pad (pad_rep [] (.int 0) 11)
  obtain ⟨_, _, ⟨T103, L103, k103, n103⟩, -, X103, ⟨Lc103, hQ103, l103, y103, z103⟩, st103⟩ := Jvm.LawKit.callS X101 hx (y := (⟨"java/lang/StringUTF16", "compress", "([CI[BII)I"⟩ : MethodName)) hown (mvT hZ (own_w hw 24 rfl)) (mvT hZ (own_w hw 25 rfl)) (mvT hZ (own_w hw 21 rfl)) (mvT hZ (own_w hw 26 rfl)) (by decide) (backOf (W := 0) (rmCa1 l Z a0 hw [] ca b101 kc_ca k101 h101 n0 Z102 (V0_ca.keep K102 nin0) V101 (own_nlt V0_ca.lt (Nat.le_of_eq g101.symm)) ge_b101) hZ (own_w hw 26 rfl) (own_w hw 21 rfl) (by decide) (by decide)) (g := (mkF m 9 #[.val (.ref ca), .val (.int 0), .val (.int 11), .val (.ref b101), .unset, .unset] [(.int 11), (.int 0), (.ref b101), (.int 0), (.ref ca)])) rfl (by rw [hml]; rfl) (argsL := [(.ref ca), (.int 0), (.ref b101), (.int 0), (.int 11)]) (rest := []) (lenOf pdCb1_0 rfl) rfl (by show 2 * 0 + _ ≤ _; exact Nat.le_of_eq rfl) (hb hby dCb0_9) (fun _ _ => ⟨rfl, e101, (by decide : 1 + 0 ≤ _), (by decide : 11 + 0 ≤ _)⟩)
  dsimp only [Pt.U, Pt.locs, Pt.cells, Pt.slots] at X103 l103 y103 z103 st103 hQ103
  subst l103 y103 z103
  obtain ⟨rfl, N103q, K103, g103_0⟩ := hQ103
  have Z104 := Nat.le_trans Z102 K103.1
  have K104 : Keep h0 T103.heap [] := Keep.trans K102 K103 (allS (Or.inr sz_b101) all0)
  have N103 := Fr.app N0 N103q
  refine Go.by (fun _ kont => XS.iloadN X0.here hx rfl (hb hby dCb0_0) rfl (st101 _ (XS.astoreN X101.here hx rfl (hb hby dCb0_3) rfl rfl (l' := #[.val (.ref ca), .val (.int 0), .val (.int 11), .val (.ref b101), .unset, .unset]) rfl (XS.aloadN X101.here hx rfl (hb hby dCb0_4) rfl rfl (XS.iloadN X101.here hx rfl (hb hby dCb0_5) rfl (XS.aloadN X101.here hx rfl (hb hby dCb0_6) rfl rfl (XS.iconst X101.here hx rfl (hb hby dCb0_7) (XS.iloadN X101.here hx rfl (hb hby dCb0_8) rfl (st103 _ (XS.istore X103.here hx rfl (hb hby dCb0_12) rfl (l' := #[.val (.ref ca), .val (.int 0), .val (.int 11), .val (.ref b101), .val (.int 11), .unset]) rfl (XS.iload X103.here hx rfl (hb hby dCb0_14) rfl (XS.iloadN X103.here hx rfl (hb hby dCb0_16) rfl (XS.icmpYes X103.here hx rfl (pc0 := 17) (pc' := 57) rfl (hb hby dCb0_17) rfl (by decide) (by decide) (by decide) (XS.aloadN X103.here hx rfl (hb hby dCb0_57) rfl rfl kont)))))))))))))) ?_
  show Go _ _ _ _ _ _ _ (T103.setTop (mkF m 58 #[.val (.ref ca), .val (.int 0), .val (.int 11), .val (.ref b101), .val (.int 11), .unset] [(.ref b101)]))
  refine Go.retR X103 hx hret rfl rfl hlk (hb hby dCb0_58) ?_ (by decide) (by decide)
  show QCb1 Z  h0 n0 (some (.ref b101)) T103.heap _
  exact ⟨b101, k101, rfl, N103, K104, ge_b101, sz_b101, g103_0⟩

theorem pnCc1 : plainName "java/lang/StringUTF16" = true := by first | (simp [plainName, overriddenIn]; done) | decide +kernel
theorem efCc1 (m : MethodId) (ba : Addr) : entryFrame m #[(.ref ba), (.int 11)] 2 = mkF m 0 #[.val (.ref ba), .val (.int 11)] [] := by first | (simp [entryFrame, mkF, argsToLocals, Value.category]; done) | rfl
def QCc1 (Z : State)  (h0 : Heap) (n0 : Nat) (v : Option Value) (h : Heap) (L : List Loc) : Prop := (v = some (.int 0) ∧ Fr n0 L ∧ h = h0)
set_option maxRecDepth 65536 in
set_option maxHeartbeats 40000000 in
theorem rmCc1 (l : Launch) (Z : State) (a0 : Array Value) (hw : ∀ d ∈ tables_1, d.before a0 Z = true) (ws : List Jvm.Cond) (ba : Addr) (kc_ba : ClassId) (h0 : Heap) (n0 : Nat) (Z0 : n0 ≤ h0.size) (V0_ba : Arv Z h0 ba kc_ba .byte (11 : Int32) [(.int 110), (.int 111), (.int 95), (.int 110), (.int 101), (.int 119), (.int 95), (.int 111), (.int 112), (.int 101), (.int 110)] (.int 0)) :
    Ct l Z (⟨"java/lang/StringUTF16", "coderFromArrayLen", "([BI)B"⟩ : MethodName) jdk_52_method_15_code 2 (some .byte) ws (⟨0, 0, 0, 0⟩ : Room) #[(.ref ba), (.int 11)] h0 (QCc1 Z  h0 n0) := by
  refine MetFree.of_bodySF (plainFor_of_name pnCc1) hisR ?_
  intro p e s m args below meth c s₁ Bd hml hP hK
  obtain ⟨rfl, hZ, hh⟩ := hP
  obtain ⟨hx, hby, hown, hnm, hlk, hret, X0, e0⟩ := own_st Bd "java/lang/StringUTF16" rfl hh
  have N0 := Fr.nil n0
  show Go p e below s (⟨0, 0, 0, 0⟩ : Room).cells (⟨0, 0, 0, 0⟩ : Room).slots (QCc1 Z  h0 n0) (s₁.setTop (entryFrame m #[(.ref ba), (.int 11)] 2))
  rw [efCc1]
  obtain ⟨cl_q101, Ar_q101, q1_q101, S_q101, N_q101, H_q101, G_q101⟩ := id V0_ba
  refine Go.by (fun _ kont => XS.iloadN X0.here hx rfl (hb hby dCc0_0) rfl (XS.aloadN X0.here hx rfl (hb hby dCc0_1) rfl rfl (X0.arraylength hx (own_at e0 Ar_q101.1) (State.isArrayOf_alike hZ.alike Ar_q101.2.1) (g := (mkF m 2 #[.val (.ref ba), .val (.int 11)] [(.ref ba), (.int 11)])) rfl rfl (hb hby dCc0_2) _ (own_fI (len_of S_q101 N_q101) (XS.isub X0.here hx rfl (hb hby dCc0_3) rfl (own_fI (show ((11 : Int32) - (11 : Int32)) = (0 : Int32) from by decide) (XS.bipush X0.here hx rfl (hb hby dCc0_4) (XS.iushr X0.here hx rfl (hb hby dCc0_6) rfl (own_fI (show (((0 : Int32).toUInt32 >>> ((31 : Int32) &&& 31).toUInt32).toInt32) = (0 : Int32) from by decide) (XS.i2b X0.here hx rfl (hb hby dCc0_7) rfl (own_fI (show ((0 : Int32).toInt8.toInt32) = (0 : Int32) from by decide) kont))))))))))) ?_
  show Go _ _ _ _ _ _ _ (s₁.setTop (mkF m 8 #[.val (.ref ba), .val (.int 11)] [(.int 0)]))
  refine Go.retN X0 hx (t := .byte) hret (by simp) hlk (hb hby dCc0_8) ?_ (by decide) (by decide)
  show QCc1 Z  h0 n0 (some (.int (0 : Int32))) s₁.heap _
  rw [e0]
  exact ⟨rfl, N0, rfl⟩

theorem pdNb1_0 : parseMethodDescriptor "([CII)[B" = some ⟨[(.array .char), .int, .int], some (.array .byte)⟩ := by decide +kernel
theorem pdNb1_1 : parseMethodDescriptor "([BI)B" = some ⟨[(.array .byte), .int], some .byte⟩ := by decide +kernel
theorem pnNb1 : plainName "java/lang/String" = true := by first | (simp [plainName, overriddenIn]; done) | decide +kernel
theorem efNb1 (m : MethodId) (a : Addr) (ca : Addr) : entryFrame m #[(.ref a), (.ref ca), (.int 0), (.int 11), .null] 6 = mkF m 0 #[.val (.ref a), .val (.ref ca), .val (.int 0), .val (.int 11), .val .null, .unset] [] := by first | (simp [entryFrame, mkF, argsToLocals, Value.category]; done) | rfl
def QNb1 (Z : State) (a : Addr) (h0 : Heap) (n0 : Nat) (v : Option Value) (h : Heap) (L : List Loc) : Prop := ∃ b101_103 : Addr, ∃ k101_103 : ClassId, (v = none ∧ Fr n0 L ∧ Keep h0 h [a] ∧ Exa Z h a "java/lang/String" ∧ Fld Z h a "java/lang/String" "coder" "B" (.int 0) ∧ Fld Z h a "java/lang/String" "value" "[B" (.ref b101_103) ∧ n0 ≤ b101_103 ∧ h0.size ≤ b101_103 ∧ Arv Z h b101_103 k101_103 .byte (11 : Int32) [(.int 110), (.int 111), (.int 95), (.int 110), (.int 101), (.int 119), (.int 95), (.int 111), (.int 112), (.int 101), (.int 110)] (.int 0))
set_option maxRecDepth 65536 in
set_option maxHeartbeats 40000000 in
theorem rmNb1 (l : Launch) (Z : State) (a0 : Array Value) (hw : ∀ d ∈ tables_1, d.before a0 Z = true) (ws : List Jvm.Cond) (a : Addr) (ca : Addr) (kc_ca : ClassId) (cs : Int32) (h0 : Heap) (n0 : Nat) (Z0 : n0 ≤ h0.size) (E0_a : Exa Z h0 a "java/lang/String") (F0_a_coder : Fld Z h0 a "java/lang/String" "coder" "B" (.int 0)) (F0_a_value : Fld Z h0 a "java/lang/String" "value" "[B" .null) (V0_ca : Arv Z h0 ca kc_ca .char (11 : Int32) [(.int 110), (.int 111), (.int 95), (.int 110), (.int 101), (.int 119), (.int 95), (.int 111), (.int 112), (.int 101), (.int 110)] (.int 0)) (ne0_a_ca : a ≠ ca) (S0_COMPACT_STRINGS : Sta Z h0 "java/lang/String" "COMPACT_STRINGS" "Z" (.int cs)) (ge0_a : n0 ≤ a) (hcs : ¬ (cs = (0 : Int32))) :
    Ct l Z (⟨"java/lang/String", "<init>", "([CIILjava/lang/Void;)V"⟩ : MethodName) jdk_42_method_149_code 6 none ws (⟨2, 1, 11, 35⟩ : Room) #[(.ref a), (.ref ca), (.int 0), (.int 11), .null] h0 (QNb1 Z a h0 n0) := by
  refine MetFree.of_bodySF (plainFor_of_name pnNb1) hisR ?_
  intro p e s m args below meth c s₁ Bd hml hP hK
  obtain ⟨rfl, hZ, hh⟩ := hP
  obtain ⟨hx, hby, hown, hnm, hlk, hret, X0, e0⟩ := own_st Bd "java/lang/String" rfl hh
  have N0 := Fr.nil n0
  show Go p e below s (⟨2, 1, 11, 35⟩ : Room).cells (⟨2, 1, 11, 35⟩ : Room).slots (QNb1 Z a h0 n0) (s₁.setTop (entryFrame m #[(.ref a), (.ref ca), (.int 0), (.int 11), .null] 6))
  rw [efNb1]
  obtain ⟨T101, X101, e101, st101⟩ := initO X0 hx hZ hown (own_w hw 15 rfl) (own_w hw 16 rfl) (own_w hw 17 rfl) e0 (g := (mkF m 1 #[.val (.ref a), .val (.ref ca), .val (.int 0), .val (.int 11), .val .null, .unset] [(.ref a)])) rfl (by rw [hml]; rfl) rfl (hb hby dNb0_1) (by decide) (W := 0) (by show 2 * 0 + _ ≤ _; exact Nat.le_of_eq rfl) (by decide)
  obtain ⟨T102, X102, e102, st102⟩ := getS2 X101 hx hZ hown (host := "") (Or.inl (own_w hw 18 rfl)) Via.refl e101 S0_COMPACT_STRINGS (g := (mkF m 27 #[.val (.ref a), .val (.ref ca), .val (.int 0), .val (.int 11), .val .null, .unset] [])) rfl (hb hby dNb0_27)
  refine Go.by (fun _ kont => XS.aloadN X0.here hx rfl (hb hby dNb0_0) rfl rfl (st101 _ (XS.iloadN X101.here hx rfl (hb hby dNb0_4) rfl (XS.ifYes X101.here hx rfl (pc0 := 5) (pc' := 27) rfl (hb hby dNb0_5) rfl (by decide) (by decide) (by decide) (st102 _ kont))))) ?_
  show Go _ _ _ _ _ _ _ (T102.setTop (mkF m 30 #[.val (.ref a), .val (.ref ca), .val (.int 0), .val (.int 11), .val .null, .unset] [(.int cs)]))
  refine Go.by (fun _ kont => XS.ifNo X102.here hx rfl (hb hby dNb0_30) rfl ((if0 _ _).trans (feq hcs).1) kont) ?_
  show Go _ _ _ _ _ _ _ (T102.setTop (mkF m 33 #[.val (.ref a), .val (.ref ca), .val (.int 0), .val (.int 11), .val .null, .unset] []))
  obtain ⟨_, _, ⟨T103, L103, k103, n103⟩, -, X103, ⟨Lc103, hQ103, l103, y103, z103⟩, st103⟩ := Jvm.LawKit.callS X102 hx (y := (⟨"java/lang/StringUTF16", "compress", "([CII)[B"⟩ : MethodName)) hown (mvT hZ (own_w hw 19 rfl)) (mvT hZ (own_w hw 20 rfl)) (mvT hZ (own_w hw 21 rfl)) (mvT hZ (own_w hw 22 rfl)) (by decide) (backOf (W := 0) (rmCb1 l Z a0 hw [] ca kc_ca h0 n0 Z0 V0_ca) hZ (own_w hw 22 rfl) (own_w hw 21 rfl) (by decide) (by decide)) (g := (mkF m 36 #[.val (.ref a), .val (.ref ca), .val (.int 0), .val (.int 11), .val .null, .unset] [(.int 11), (.int 0), (.ref ca)])) rfl (by rw [hml]; rfl) (argsL := [(.ref ca), (.int 0), (.int 11)]) (rest := []) (lenOf pdNb1_0 rfl) rfl (by show 2 * 0 + _ ≤ _; exact Nat.le_of_eq rfl) (hb hby dNb0_36) (fun _ _ => ⟨rfl, e102, (by decide : 0 + 1 ≤ _), (by decide : 0 + 11 ≤ _)⟩)
  dsimp only [Pt.U, Pt.locs, Pt.cells, Pt.slots] at X103 l103 y103 z103 st103 hQ103
  subst l103 y103 z103
  obtain ⟨b101_103, k101_103, rfl, N103q, K103, ge_b101_103, szc_b101_103, g103_0⟩ := hQ103
  have sz_b101_103 : h0.size ≤ b101_103 := Nat.le_trans (Keep.refl h0 [a]).1 szc_b101_103
  have F104_coder_a := F0_a_coder.keep K103 nin0
  have F104_value_a := F0_a_value.keep K103 nin0
  have Z104 := Nat.le_trans Z0 K103.1
  have K104 : Keep h0 T103.heap [a] := Keep.trans (Keep.refl h0 [a]) K103 all0
  have N103 := Fr.app N0 N103q
  obtain ⟨_, _, ⟨T105, L105, k105, n105⟩, -, X105, ⟨Lc105, hQ105, l105, y105, z105⟩, st105⟩ := Jvm.LawKit.callS X103 hx (y := (⟨"java/lang/StringUTF16", "coderFromArrayLen", "([BI)B"⟩ : MethodName)) hown (mvT hZ (own_w hw 27 rfl)) (mvT hZ (own_w hw 28 rfl)) (mvT hZ (own_w hw 21 rfl)) (mvT hZ (own_w hw 29 rfl)) (by decide) (backOf (W := 1) (rmCc1 l Z a0 hw [] b101_103 k101_103 T103.heap n0 Z104 g103_0) hZ (own_w hw 29 rfl) (own_w hw 21 rfl) (by decide) (by decide)) (g := (mkF m 45 #[.val (.ref a), .val (.ref ca), .val (.int 0), .val (.int 11), .val .null, .val (.ref b101_103)] [(.int 11), (.ref b101_103), (.ref a)])) rfl (by rw [hml]; rfl) (argsL := [(.ref b101_103), (.int 11)]) (rest := [(.ref a)]) (lenOf pdNb1_1 rfl) rfl (by show 2 * 0 + _ ≤ _; exact Nat.le_of_eq rfl) (hb hby dNb0_45) (fun _ _ => ⟨rfl, rfl, (by decide : 1 + 0 ≤ _), (by decide : 11 + 0 ≤ _)⟩)
  dsimp only [Pt.U, Pt.locs, Pt.cells, Pt.slots] at X105 l105 y105 z105 st105 hQ105
  subst l105 y105 z105
  obtain ⟨rfl, N105q, eh105⟩ := hQ105
  have N105 := Fr.app N103 N105q
  obtain ⟨T106, h106, X106, e106, W106, st106⟩ := putF X105 hx hZ hown (host := "") (Or.inl (own_w hw 30 rfl)) Via.refl eh105 F104_coder_a (E0_a.keep K104) (Or.inr ⟨(own_w hw 31 rfl), rfl, hnm⟩) (own_w hw 6 rfl) (ty := .byte) (by decide) rfl rfl (g := (mkF m 48 #[.val (.ref a), .val (.ref ca), .val (.int 0), .val (.int 11), .val .null, .val (.ref b101_103)] [(.int 0), (.ref a)])) rfl rfl (hb hby dNb0_48)
  have Fw106 := F104_coder_a.same W106
  have F107_value_a := F104_value_a.other W106 (Or.inr (slot_ne (Or.inr (own_w hw 33 rfl)) (Or.inr (own_w hw 31 rfl)) (by decide) (t := (.array .byte)) (t' := .byte) (by decide) (by decide)))
  have V107_b101_103 := g103_0.other W106 (Ne.symm (own_nlt F0_a_coder.lt szc_b101_103))
  have Z107 := Nat.le_trans Z104 (Keep.of_wr W106).1
  have K107 : Keep h0 h106 [a] := K104.wr W106 (Or.inl (by simp))
  have N106 := Fr.snoc X106 N105 ge0_a
  obtain ⟨T108, h108, X108, e108, W108, st108⟩ := putF X106 hx hZ hown (host := "") (Or.inl (own_w hw 32 rfl)) Via.refl e106 F107_value_a (E0_a.keep K107) (Or.inr ⟨(own_w hw 33 rfl), rfl, hnm⟩) (own_w hw 6 rfl) (ty := (.array .byte)) (by decide) rfl rfl (g := (mkF m 54 #[.val (.ref a), .val (.ref ca), .val (.int 0), .val (.int 11), .val .null, .val (.ref b101_103)] [(.ref b101_103), (.ref a)])) rfl rfl (hb hby dNb0_54)
  have Fw108 := F107_value_a.same W108
  have F109_coder_a := Fw106.other W108 (Or.inr (slot_ne (Or.inr (own_w hw 31 rfl)) (Or.inr (own_w hw 33 rfl)) (by decide) (t := .byte) (t' := (.array .byte)) (by decide) (by decide)))
  have V109_b101_103 := V107_b101_103.other W108 (Ne.symm (own_nlt F0_a_coder.lt szc_b101_103))
  have Z109 := Nat.le_trans Z107 (Keep.of_wr W108).1
  have K109 : Keep h0 h108 [a] := K107.wr W108 (Or.inl (by simp))
  have N108 := Fr.snoc X108 N106 ge0_a
  refine Go.by (fun _ kont => XS.aloadN X102.here hx rfl (hb hby dNb0_33) rfl rfl (XS.iloadN X102.here hx rfl (hb hby dNb0_34) rfl (XS.iloadN X102.here hx rfl (hb hby dNb0_35) rfl (st103 _ (XS.astore X103.here hx rfl (hb hby dNb0_39) rfl rfl (l' := #[.val (.ref a), .val (.ref ca), .val (.int 0), .val (.int 11), .val .null, .val (.ref b101_103)]) rfl (XS.aloadN X103.here hx rfl (hb hby dNb0_41) rfl rfl (XS.aload X103.here hx rfl (hb hby dNb0_42) rfl rfl (XS.iloadN X103.here hx rfl (hb hby dNb0_44) rfl (st105 _ (st106 _ (XS.aloadN X106.here hx rfl (hb hby dNb0_51) rfl rfl (XS.aload X106.here hx rfl (hb hby dNb0_52) rfl rfl (st108 _ kont))))))))))))) ?_
  show Go _ _ _ _ _ _ _ (T108.setTop (mkF m 57 #[.val (.ref a), .val (.ref ca), .val (.int 0), .val (.int 11), .val .null, .val (.ref b101_103)] []))
  refine Go.retV X108 hx hret hlk (hb hby dNb0_57) ?_ (by decide) (by decide)
  show QNb1 Z a h0 n0 none T108.heap _
  rw [e108]
  exact ⟨b101_103, k101_103, rfl, N108, K109, (E0_a.keep K109), F109_coder_a, Fw108, ge_b101_103, sz_b101_103, V109_b101_103⟩

theorem pdNa1_0 : parseMethodDescriptor "([CIILjava/lang/Void;)V" = some ⟨[(.array .char), .int, .int, (.object "java/lang/Void")], none⟩ := by decide +kernel
theorem pnNa1 : plainName "java/lang/String" = true := by first | (simp [plainName, overriddenIn]; done) | decide +kernel
theorem efNa1 (m : MethodId) (a : Addr) (ca : Addr) : entryFrame m #[(.ref a), (.ref ca)] 2 = mkF m 0 #[.val (.ref a), .val (.ref ca)] [] := by first | (simp [entryFrame, mkF, argsToLocals, Value.category]; done) | rfl
def QNa1 (Z : State) (a : Addr) (h0 : Heap) (n0 : Nat) (v : Option Value) (h : Heap) (L : List Loc) : Prop := ∃ b101_103_102 : Addr, ∃ k101_103_102 : ClassId, (v = none ∧ Fr n0 L ∧ Keep h0 h [a] ∧ Exa Z h a "java/lang/String" ∧ Fld Z h a "java/lang/String" "coder" "B" (.int 0) ∧ Fld Z h a "java/lang/String" "value" "[B" (.ref b101_103_102) ∧ n0 ≤ b101_103_102 ∧ h0.size ≤ b101_103_102 ∧ Arv Z h b101_103_102 k101_103_102 .byte (11 : Int32) [(.int 110), (.int 111), (.int 95), (.int 110), (.int 101), (.int 119), (.int 95), (.int 111), (.int 112), (.int 101), (.int 110)] (.int 0))
set_option maxRecDepth 65536 in
set_option maxHeartbeats 40000000 in
theorem rmNa1 (l : Launch) (Z : State) (a0 : Array Value) (hw : ∀ d ∈ tables_1, d.before a0 Z = true) (ws : List Jvm.Cond) (a : Addr) (ca : Addr) (kc_ca : ClassId) (cs : Int32) (h0 : Heap) (n0 : Nat) (Z0 : n0 ≤ h0.size) (E0_a : Exa Z h0 a "java/lang/String") (F0_a_coder : Fld Z h0 a "java/lang/String" "coder" "B" (.int 0)) (F0_a_value : Fld Z h0 a "java/lang/String" "value" "[B" .null) (V0_ca : Arv Z h0 ca kc_ca .char (11 : Int32) [(.int 110), (.int 111), (.int 95), (.int 110), (.int 101), (.int 119), (.int 95), (.int 111), (.int 112), (.int 101), (.int 110)] (.int 0)) (ne0_a_ca : a ≠ ca) (S0_COMPACT_STRINGS : Sta Z h0 "java/lang/String" "COMPACT_STRINGS" "Z" (.int cs)) (ge0_a : n0 ≤ a) (hcs : ¬ (cs = (0 : Int32))) :
    Ct l Z (⟨"java/lang/String", "<init>", "([C)V"⟩ : MethodName) jdk_42_method_3_code 2 none ws (⟨3, 1, 11, 52⟩ : Room) #[(.ref a), (.ref ca)] h0 (QNa1 Z a h0 n0) := by
  refine MetFree.of_bodySF (plainFor_of_name pnNa1) hisR ?_
  intro p e s m args below meth c s₁ Bd hml hP hK
  obtain ⟨rfl, hZ, hh⟩ := hP
  obtain ⟨hx, hby, hown, hnm, hlk, hret, X0, e0⟩ := own_st Bd "java/lang/String" rfl hh
  have N0 := Fr.nil n0
  show Go p e below s (⟨3, 1, 11, 52⟩ : Room).cells (⟨3, 1, 11, 52⟩ : Room).slots (QNa1 Z a h0 n0) (s₁.setTop (entryFrame m #[(.ref a), (.ref ca)] 2))
  rw [efNa1]
  obtain ⟨cl_q101, Ar_q101, q1_q101, S_q101, N_q101, H_q101, G_q101⟩ := id V0_ca
  obtain ⟨_, _, ⟨T102, L102, k102, n102⟩, -, X102, ⟨Lc102, hQ102, l102, y102, z102⟩, st102⟩ := X0.specialBack hx (y := (⟨"java/lang/String", "<init>", "([CIILjava/lang/Void;)V"⟩ : MethodName)) rfl hown (mvT hZ (own_w hw 11 rfl)) (mvT hZ (own_w hw 12 rfl)) (mvT hZ (own_w hw 14 rfl)) (by decide) (backOf (W := 0) (rmNb1 l Z a0 hw [] a ca kc_ca cs h0 n0 Z0 E0_a F0_a_coder F0_a_value V0_ca ne0_a_ca S0_COMPACT_STRINGS ge0_a hcs) hZ (own_w hw 14 rfl) (own_w hw 7 rfl) (by decide) (by decide)) (g := (mkF m 6 #[.val (.ref a), .val (.ref ca)] [.null, (.int 11), (.int 0), (.ref ca), (.ref a)])) rfl (by rw [hml]; rfl) (Steps.refl _) (a := a) (argsL := [(.ref ca), (.int 0), (.int 11), .null]) (rest := []) (lenOf pdNa1_0 rfl) rfl (by show 2 * 0 + _ ≤ _; exact Nat.le_of_eq rfl) (hb hby dNa0_6) (fun _ _ => ⟨rfl, e0, (by decide : 0 + 1 ≤ _), (by decide : 0 + 11 ≤ _)⟩)
  dsimp only [Pt.U, Pt.locs, Pt.cells, Pt.slots] at X102 l102 y102 z102 st102 hQ102
  subst l102 y102 z102
  obtain ⟨b101_103_102, k101_103_102, rfl, N102q, K102, g102_0, g102_1, g102_2, ge_b101_103_102, szc_b101_103_102, g102_3⟩ := hQ102
  have sz_b101_103_102 : h0.size ≤ b101_103_102 := Nat.le_trans (Keep.refl h0 [a]).1 szc_b101_103_102
  have Z103 := Nat.le_trans Z0 K102.1
  have K103 : Keep h0 T102.heap [a] := Keep.trans (Keep.refl h0 [a]) K102 (allS (Or.inl (by simp)) all0)
  have N102 := Fr.app N0 N102q
  refine Go.by (fun _ kont => XS.aloadN X0.here hx rfl (hb hby dNa0_0) rfl rfl (XS.aloadN X0.here hx rfl (hb hby dNa0_1) rfl rfl (XS.iconst X0.here hx rfl (hb hby dNa0_2) (XS.aloadN X0.here hx rfl (hb hby dNa0_3) rfl rfl (X0.arraylength hx (own_at e0 Ar_q101.1) (State.isArrayOf_alike hZ.alike Ar_q101.2.1) (g := (mkF m 4 #[.val (.ref a), .val (.ref ca)] [(.ref ca), (.int 0), (.ref ca), (.ref a)])) rfl rfl (hb hby dNa0_4) _ (own_fI (len_of S_q101 N_q101) (XS.aconstNull X0.here hx rfl (hb hby dNa0_5) (st102.trans kont)))))))) ?_
  show Go _ _ _ _ _ _ _ (T102.setTop (mkF m 9 #[.val (.ref a), .val (.ref ca)] []))
  refine Go.retV X102 hx hret hlk (hb hby dNa0_9) ?_ (by decide) (by decide)
  show QNa1 Z a h0 n0 none T102.heap _
  exact ⟨b101_103_102, k101_103_102, rfl, N102, K103, g102_0, g102_1, g102_2, ge_b101_103_102, sz_b101_103_102, g102_3⟩

theorem pnCa2 : plainName "java/lang/StringUTF16" = true := by first | (simp [plainName, overriddenIn]; done) | decide +kernel
theorem efCa2 (m : MethodId) (ca : Addr) (ba : Addr) : entryFrame m #[(.ref ca), (.int 0), (.ref ba), (.int 0), (.int 9)] 7 = mkF m 0 #[.val (.ref ca), .val (.int 0), .val (.ref ba), .val (.int 0), .val (.int 9), .unset, .unset] [] := by first | (simp [entryFrame, mkF, argsToLocals, Value.category]; done) | rfl
def QCa2 (Z : State) (ba : Addr) (kc_ba : ClassId) (h0 : Heap) (n0 : Nat) (v : Option Value) (h : Heap) (L : List Loc) : Prop := (v = some (.int 9) ∧ Fr n0 L ∧ Keep h0 h [ba] ∧ Arv Z h ba kc_ba .byte (9 : Int32) [(.int 108), (.int 105), (.int 113), (.int 117), (.int 105), (.int 100), (.int 97), (.int 116), (.int 101)] (.int 0))
set_option maxRecDepth 65536 in
set_option maxHeartbeats 40000000 in
theorem rmCa2 (l : Launch) (Z : State) (a0 : Array Value) (hw : ∀ d ∈ tables_1, d.before a0 Z = true) (ws : List Jvm.Cond) (ca : Addr) (ba : Addr) (kc_ca : ClassId) (kc_ba : ClassId) (h0 : Heap) (n0 : Nat) (Z0 : n0 ≤ h0.size) (V0_ca : Arv Z h0 ca kc_ca .char (9 : Int32) [(.int 108), (.int 105), (.int 113), (.int 117), (.int 105), (.int 100), (.int 97), (.int 116), (.int 101)] (.int 0)) (V0_ba : Arv Z h0 ba kc_ba .byte (9 : Int32) [(.int 0), (.int 0), (.int 0), (.int 0), (.int 0), (.int 0), (.int 0), (.int 0), (.int 0)] (.int 0)) (ne0_ca_ba : ca ≠ ba) (ge0_ba : n0 ≤ ba) :
    Ct l Z (⟨"java/lang/StringUTF16", "compress", "([CI[BII)I"⟩ : MethodName) jdk_52_method_21_code 7 (some .int) ws (⟨0, 0, 0, 0⟩ : Room) #[(.ref ca), (.int 0), (.ref ba), (.int 0), (.int 9)] h0 (QCa2 Z ba kc_ba h0 n0) := by
  refine MetFree.of_bodySF (plainFor_of_name pnCa2) hisR ?_
  intro p e s m args below meth c s₁ Bd hml hP hK
  obtain ⟨rfl, hZ, hh⟩ := hP
  obtain ⟨hx, hby, hown, hnm, hlk, hret, X0, e0⟩ := own_st Bd "java/lang/StringUTF16" rfl hh
  have N0 := Fr.nil n0
  show Go p e below s (⟨0, 0, 0, 0⟩ : Room).cells (⟨0, 0, 0, 0⟩ : Room).slots (QCa2 Z ba kc_ba h0 n0) (s₁.setTop (entryFrame m #[(.ref ca), (.int 0), (.ref ba), (.int 0), (.int 9)] 7))
  rw [efCa2]
  obtain ⟨cl_q101, Ar_q101, q1_q101, S_q101, N_q101, H_q101, G_q101⟩ := id V0_ca
  have hin_q101 := own_ib S_q101 (0 : Int32) (by decide)
  have hat_q101 : cl_q101.slots[((0 : Int32)).toNatClampNeg]? = some (.int 108) := Has.at H_q101 hin_q101 rfl
  obtain ⟨cl_q102, Ar_q102, q1_q102, S_q102, N_q102, H_q102, G_q102⟩ := id V0_ba
  have hin_q102 := own_ib S_q102 (0 : Int32) (by decide)
  obtain ⟨T103, h103, X103, e103, W103, st103⟩ := stB X0 hx hZ e0 Ar_q102 (j := (0 : Int32)) hin_q102 (g := (mkF m 31 #[.val (.ref ca), .val (.int 0), .val (.ref ba), .val (.int 0), .val (.int 9), .val (.int 0), .val (.int 108)] [(.int 108), (.int 0), (.ref ba)])) rfl rfl (hb hby dCa0_31)
  have V103 : Arv Z h103 ba kc_ba .byte (9 : Int32) [(.int (nar .byte (108 : Int32))), (.int 0), (.int 0), (.int 0), (.int 0), (.int 0), (.int 0), (.int 0), (.int 0)] (.int 0) := Arv.set Ar_q102 q1_q102 S_q102 N_q102 H_q102 G_q102 (fits_nar_byte _) W103 0 rfl (Nat.le_of_ble_eq_true rfl)
  rw [show (nar .byte (108 : Int32)) = (108 : Int32) from by decide] at V103
  have Z104 := Nat.le_trans Z0 (Keep.of_wr W103).1
  have K104 : Keep h0 h103 [ba] := (Keep.refl h0 [ba]).wr W103 (Or.inl (by simp))
  have N103 := Fr.snoc X103 N0 ge0_ba
  obtain ⟨cl_q105, Ar_q105, q1_q105, S_q105, N_q105, H_q105, G_q105⟩ := id (V0_ca.keep K104 (ninS ne0_ca_ba nin0))
  have hin_q105 := own_ib S_q105 (1 : Int32) (by decide)
  have hat_q105 : cl_q105.slots[((1 : Int32)).toNatClampNeg]? = some (.int 105) := Has.at H_q105 hin_q105 rfl
  obtain ⟨cl_q106, Ar_q106, q1_q106, S_q106, N_q106, H_q106, G_q106⟩ := id V103
  have hin_q106 := own_ib S_q106 (1 : Int32) (by decide)
  obtain ⟨T107, h107, X107, e107, W107, st107⟩ := stB X103 hx hZ e103 Ar_q106 (j := (1 : Int32)) hin_q106 (g := (mkF m 31 #[.val (.ref ca), .val (.int 1), .val (.ref ba), .val (.int 1), .val (.int 9), .val (.int 1), .val (.int 105)] [(.int 105), (.int 1), (.ref ba)])) rfl rfl (hb hby dCa0_31)
  have V107 : Arv Z h107 ba kc_ba .byte (9 : Int32) [(.int 108), (.int (nar .byte (105 : Int32))), (.int 0), (.int 0), (.int 0), (.int 0), (.int 0), (.int 0), (.int 0)] (.int 0) := Arv.set Ar_q106 q1_q106 S_q106 N_q106 H_q106 G_q106 (fits_nar_byte _) W107 1 rfl (Nat.le_of_ble_eq_true rfl)
  rw [show (nar .byte (105 : Int32)) = (105 : Int32) from by decide] at V107
  have Z108 := Nat.le_trans Z104 (Keep.of_wr W107).1
  have K108 : Keep h0 h107 [ba] := K104.wr W107 (Or.inl (by simp))
  have N107 := Fr.snoc X107 N103 ge0_ba
  obtain ⟨cl_q109, Ar_q109, q1_q109, S_q109, N_q109, H_q109, G_q109⟩ := id (V0_ca.keep K108 (ninS ne0_ca_ba nin0))
  have hin_q109 := own_ib S_q109 (2 : Int32) (by decide)
  have hat_q109 : cl_q109.slots[((2 : Int32)).toNatClampNeg]? = some (.int 113) := Has.at H_q109 hin_q109 rfl
  obtain ⟨cl_q110, Ar_q110, q1_q110, S_q110, N_q110, H_q110, G_q110⟩ := id V107
  have hin_q110 := own_ib S_q110 (2 : Int32) (by decide)
  obtain ⟨T111, h111, X111, e111, W111, st111⟩ := stB X107 hx hZ e107 Ar_q110 (j := (2 : Int32)) hin_q110 (g := (mkF m 31 #[.val (.ref ca), .val (.int 2), .val (.ref ba), .val (.int 2), .val (.int 9), .val (.int 2), .val (.int 113)] [(.int 113), (.int 2), (.ref ba)])) rfl rfl (hb hby dCa0_31)
  have V111 : Arv Z h111 ba kc_ba .byte (9 : Int32) [(.int 108), (.int 105), (.int (nar .byte (113 : Int32))), (.int 0), (.int 0), (.int 0), (.int 0), (.int 0), (.int 0)] (.int 0) := Arv.set Ar_q110 q1_q110 S_q110 N_q110 H_q110 G_q110 (fits_nar_byte _) W111 2 rfl (Nat.le_of_ble_eq_true rfl)
  rw [show (nar .byte (113 : Int32)) = (113 : Int32) from by decide] at V111
  have Z112 := Nat.le_trans Z108 (Keep.of_wr W111).1
  have K112 : Keep h0 h111 [ba] := K108.wr W111 (Or.inl (by simp))
  have N111 := Fr.snoc X111 N107 ge0_ba
  refine Go.by (fun _ kont => XS.iconst X0.here hx rfl (hb hby dCa0_0) (XS.istore X0.here hx rfl (hb hby dCa0_1) rfl (l' := #[.val (.ref ca), .val (.int 0), .val (.ref ba), .val (.int 0), .val (.int 9), .val (.int 0), .unset]) rfl (XS.iload X0.here hx rfl (hb hby dCa0_3) rfl (XS.iload X0.here hx rfl (hb hby dCa0_5) rfl (XS.icmpNo X0.here hx rfl (hb hby dCa0_7) rfl (by decide) (XS.aloadN X0.here hx rfl (hb hby dCa0_10) rfl rfl (XS.iloadN X0.here hx rfl (hb hby dCa0_11) rfl (X0.caload hx (j := (0 : Int32)) (v := (.int 108)) (own_at e0 Ar_q101.1) (State.isArrayOf_alike hZ.alike Ar_q101.2.1) Ar_q101.2.2 hin_q101 hat_q101 (g := (mkF m 12 #[.val (.ref ca), .val (.int 0), .val (.ref ba), .val (.int 0), .val (.int 9), .val (.int 0), .unset] [(.int 0), (.ref ca)])) rfl rfl (hb hby dCa0_12) _ (XS.istore X0.here hx rfl (hb hby dCa0_13) rfl (l' := #[.val (.ref ca), .val (.int 0), .val (.ref ba), .val (.int 0), .val (.int 9), .val (.int 0), .val (.int 108)]) rfl (XS.iload X0.here hx rfl (hb hby dCa0_15) rfl (XS.sipush X0.here hx rfl (hb hby dCa0_17) (XS.icmpYes X0.here hx rfl (pc0 := 20) (pc' := 26) rfl (hb hby dCa0_20) rfl (by decide) (by decide) (by decide) (XS.aloadN X0.here hx rfl (hb hby dCa0_26) rfl rfl (XS.iloadN X0.here hx rfl (hb hby dCa0_27) rfl (XS.iload X0.here hx rfl (hb hby dCa0_28) rfl (XS.i2b X0.here hx rfl (hb hby dCa0_30) rfl (own_fI (show ((108 : Int32).toInt8.toInt32) = (108 : Int32) from by decide) (st103 _ (XS.iinc X103.here hx rfl (hb hby dCa0_32) rfl (l' := #[.val (.ref ca), .val (.int 1), .val (.ref ba), .val (.int 0), .val (.int 9), .val (.int 0), .val (.int 108)]) rfl (XS.iinc X103.here hx rfl (hb hby dCa0_35) rfl (l' := #[.val (.ref ca), .val (.int 1), .val (.ref ba), .val (.int 1), .val (.int 9), .val (.int 0), .val (.int 108)]) rfl (XS.iinc X103.here hx rfl (hb hby dCa0_38) rfl (l' := #[.val (.ref ca), .val (.int 1), .val (.ref ba), .val (.int 1), .val (.int 9), .val (.int 1), .val (.int 108)]) rfl (XS.goto X103.here hx rfl (pc0 := 41) (pc' := 3) rfl (hb hby dCa0_41) (by decide) (by decide) (XS.iload X103.here hx rfl (hb hby dCa0_3) rfl (XS.iload X103.here hx rfl (hb hby dCa0_5) rfl (XS.icmpNo X103.here hx rfl (hb hby dCa0_7) rfl (by decide) (XS.aloadN X103.here hx rfl (hb hby dCa0_10) rfl rfl (XS.iloadN X103.here hx rfl (hb hby dCa0_11) rfl (X103.caload hx (j := (1 : Int32)) (v := (.int 105)) (own_at e103 Ar_q105.1) (State.isArrayOf_alike hZ.alike Ar_q105.2.1) Ar_q105.2.2 hin_q105 hat_q105 (g := (mkF m 12 #[.val (.ref ca), .val (.int 1), .val (.ref ba), .val (.int 1), .val (.int 9), .val (.int 1), .val (.int 108)] [(.int 1), (.ref ca)])) rfl rfl (hb hby dCa0_12) _ (XS.istore X103.here hx rfl (hb hby dCa0_13) rfl (l' := #[.val (.ref ca), .val (.int 1), .val (.ref ba), .val (.int 1), .val (.int 9), .val (.int 1), .val (.int 105)]) rfl (XS.iload X103.here hx rfl (hb hby dCa0_15) rfl (XS.sipush X103.here hx rfl (hb hby dCa0_17) (XS.icmpYes X103.here hx rfl (pc0 := 20) (pc' := 26) rfl (hb hby dCa0_20) rfl (by decide) (by decide) (by decide) (XS.aloadN X103.here hx rfl (hb hby dCa0_26) rfl rfl (XS.iloadN X103.here hx rfl (hb hby dCa0_27) rfl (XS.iload X103.here hx rfl (hb hby dCa0_28) rfl (XS.i2b X103.here hx rfl (hb hby dCa0_30) rfl (own_fI (show ((105 : Int32).toInt8.toInt32) = (105 : Int32) from by decide) (st107 _ (XS.iinc X107.here hx rfl (hb hby dCa0_32) rfl (l' := #[.val (.ref ca), .val (.int 2), .val (.ref ba), .val (.int 1), .val (.int 9), .val (.int 1), .val (.int 105)]) rfl (XS.iinc X107.here hx rfl (hb hby dCa0_35) rfl (l' := #[.val (.ref ca), .val (.int 2), .val (.ref ba), .val (.int 2), .val (.int 9), .val (.int 1), .val (.int 105)]) rfl (XS.iinc X107.here hx rfl (hb hby dCa0_38) rfl (l' := #[.val (.ref ca), .val (.int 2), .val (.ref ba), .val (.int 2), .val (.int 9), .val (.int 2), .val (.int 105)]) rfl (XS.goto X107.here hx rfl (pc0 := 41) (pc' := 3) rfl (hb hby dCa0_41) (by decide) (by decide) (XS.iload X107.here hx rfl (hb hby dCa0_3) rfl (XS.iload X107.here hx rfl (hb hby dCa0_5) rfl (XS.icmpNo X107.here hx rfl (hb hby dCa0_7) rfl (by decide) (XS.aloadN X107.here hx rfl (hb hby dCa0_10) rfl rfl (XS.iloadN X107.here hx rfl (hb hby dCa0_11) rfl (X107.caload hx (j := (2 : Int32)) (v := (.int 113)) (own_at e107 Ar_q109.1) (State.isArrayOf_alike hZ.alike Ar_q109.2.1) Ar_q109.2.2 hin_q109 hat_q109 (g := (mkF m 12 #[.val (.ref ca), .val (.int 2), .val (.ref ba), .val (.int 2), .val (.int 9), .val (.int 2), .val (.int 105)] [(.int 2), (.ref ca)])) rfl rfl (hb hby dCa0_12) _ (XS.istore X107.here hx rfl (hb hby dCa0_13) rfl (l' := #[.val (.ref ca), .val (.int 2), .val (.ref ba), .val (.int 2), .val (.int 9), .val (.int 2), .val (.int 113)]) rfl (XS.iload X107.here hx rfl (hb hby dCa0_15) rfl (XS.sipush X107.here hx rfl (hb hby dCa0_17) (XS.icmpYes X107.here hx rfl (pc0 := 20) (pc' := 26) rfl (hb hby dCa0_20) rfl (by decide) (by decide) (by decide) (XS.aloadN X107.here hx rfl (hb hby dCa0_26) rfl rfl (XS.iloadN X107.here hx rfl (hb hby dCa0_27) rfl (XS.iload X107.here hx rfl (hb hby dCa0_28) rfl (XS.i2b X107.here hx rfl (hb hby dCa0_30) rfl (own_fI (show ((113 : Int32).toInt8.toInt32) = (113 : Int32) from by decide) (st111 _ (XS.iinc X111.here hx rfl (hb hby dCa0_32) rfl (l' := #[.val (.ref ca), .val (.int 3), .val (.ref ba), .val (.int 2), .val (.int 9), .val (.int 2), .val (.int 113)]) rfl (XS.iinc X111.here hx rfl (hb hby dCa0_35) rfl (l' := #[.val (.ref ca), .val (.int 3), .val (.ref ba), .val (.int 3), .val (.int 9), .val (.int 2), .val (.int 113)]) rfl kont)))))))))))))))))))))))))))))))))))))))))))))))))))))))))))) ?_
  show Go _ _ _ _ _ _ _ (T111.setTop (mkF m 38 #[.val (.ref ca), .val (.int 3), .val (.ref ba), .val (.int 3), .val (.int 9), .val (.int 2), .val (.int 113)] []))
  obtain ⟨cl_q113, Ar_q113, q1_q113, S_q113, N_q113, H_q113, G_q113⟩ := id (V0_ca.keep K112 (ninS ne0_ca_ba nin0))
  have hin_q113 := own_ib S_q113 (3 : Int32) (by decide)
  have hat_q113 : cl_q113.slots[((3 : Int32)).toNatClampNeg]? = some (.int 117) := Has.at H_q113 hin_q113 rfl
  obtain ⟨cl_q114, Ar_q114, q1_q114, S_q114, N_q114, H_q114, G_q114⟩ := id V111
  have hin_q114 := own_ib S_q114 (3 : Int32) (by decide)
  obtain ⟨T115, h115, X115, e115, W115, st115⟩ := stB X111 hx hZ e111 Ar_q114 (j := (3 : Int32)) hin_q114 (g := (mkF m 31 #[.val (.ref ca), .val (.int 3), .val (.ref ba), .val (.int 3), .val (.int 9), .val (.int 3), .val (.int 117)] [(.int 117), (.int 3), (.ref ba)])) rfl rfl (hb hby dCa0_31)
  have V115 : Arv Z h115 ba kc_ba .byte (9 : Int32) [(.int 108), (.int 105), (.int 113), (.int (nar .byte (117 : Int32))), (.int 0), (.int 0), (.int 0), (.int 0), (.int 0)] (.int 0) := Arv.set Ar_q114 q1_q114 S_q114 N_q114 H_q114 G_q114 (fits_nar_byte _) W115 3 rfl (Nat.le_of_ble_eq_true rfl)
  rw [show (nar .byte (117 : Int32)) = (117 : Int32) from by decide] at V115
  have Z116 := Nat.le_trans Z112 (Keep.of_wr W115).1
  have K116 : Keep h0 h115 [ba] := K112.wr W115 (Or.inl (by simp))
  have N115 := Fr.snoc X115 N111 ge0_ba
  obtain ⟨cl_q117, Ar_q117, q1_q117, S_q117, N_q117, H_q117, G_q117⟩ := id (V0_ca.keep K116 (ninS ne0_ca_ba nin0))
  have hin_q117 := own_ib S_q117 (4 : Int32) (by decide)
  have hat_q117 : cl_q117.slots[((4 : Int32)).toNatClampNeg]? = some (.int 105) := Has.at H_q117 hin_q117 rfl
  obtain ⟨cl_q118, Ar_q118, q1_q118, S_q118, N_q118, H_q118, G_q118⟩ := id V115
  have hin_q118 := own_ib S_q118 (4 : Int32) (by decide)
  obtain ⟨T119, h119, X119, e119, W119, st119⟩ := stB X115 hx hZ e115 Ar_q118 (j := (4 : Int32)) hin_q118 (g := (mkF m 31 #[.val (.ref ca), .val (.int 4), .val (.ref ba), .val (.int 4), .val (.int 9), .val (.int 4), .val (.int 105)] [(.int 105), (.int 4), (.ref ba)])) rfl rfl (hb hby dCa0_31)
  have V119 : Arv Z h119 ba kc_ba .byte (9 : Int32) [(.int 108), (.int 105), (.int 113), (.int 117), (.int (nar .byte (105 : Int32))), (.int 0), (.int 0), (.int 0), (.int 0)] (.int 0) := Arv.set Ar_q118 q1_q118 S_q118 N_q118 H_q118 G_q118 (fits_nar_byte _) W119 4 rfl (Nat.le_of_ble_eq_true rfl)
  rw [show (nar .byte (105 : Int32)) = (105 : Int32) from by decide] at V119
  have Z120 := Nat.le_trans Z116 (Keep.of_wr W119).1
  have K120 : Keep h0 h119 [ba] := K116.wr W119 (Or.inl (by simp))
  have N119 := Fr.snoc X119 N115 ge0_ba
  obtain ⟨cl_q121, Ar_q121, q1_q121, S_q121, N_q121, H_q121, G_q121⟩ := id (V0_ca.keep K120 (ninS ne0_ca_ba nin0))
  have hin_q121 := own_ib S_q121 (5 : Int32) (by decide)
  have hat_q121 : cl_q121.slots[((5 : Int32)).toNatClampNeg]? = some (.int 100) := Has.at H_q121 hin_q121 rfl
  obtain ⟨cl_q122, Ar_q122, q1_q122, S_q122, N_q122, H_q122, G_q122⟩ := id V119
  have hin_q122 := own_ib S_q122 (5 : Int32) (by decide)
  obtain ⟨T123, h123, X123, e123, W123, st123⟩ := stB X119 hx hZ e119 Ar_q122 (j := (5 : Int32)) hin_q122 (g := (mkF m 31 #[.val (.ref ca), .val (.int 5), .val (.ref ba), .val (.int 5), .val (.int 9), .val (.int 5), .val (.int 100)] [(.int 100), (.int 5), (.ref ba)])) rfl rfl (hb hby dCa0_31)
  have V123 : Arv Z h123 ba kc_ba .byte (9 : Int32) [(.int 108), (.int 105), (.int 113), (.int 117), (.int 105), (.int (nar .byte (100 : Int32))), (.int 0), (.int 0), (.int 0)] (.int 0) := Arv.set Ar_q122 q1_q122 S_q122 N_q122 H_q122 G_q122 (fits_nar_byte _) W123 5 rfl (Nat.le_of_ble_eq_true rfl)
  rw [show (nar .byte (100 : Int32)) = (100 : Int32) from by decide] at V123
  have Z124 := Nat.le_trans Z120 (Keep.of_wr W123).1
  have K124 : Keep h0 h123 [ba] := K120.wr W123 (Or.inl (by simp))
  have N123 := Fr.snoc X123 N119 ge0_ba
  refine Go.by (fun _ kont => XS.iinc X111.here hx rfl (hb hby dCa0_38) rfl (l' := #[.val (.ref ca), .val (.int 3), .val (.ref ba), .val (.int 3), .val (.int 9), .val (.int 3), .val (.int 113)]) rfl (XS.goto X111.here hx rfl (pc0 := 41) (pc' := 3) rfl (hb hby dCa0_41) (by decide) (by decide) (XS.iload X111.here hx rfl (hb hby dCa0_3) rfl (XS.iload X111.here hx rfl (hb hby dCa0_5) rfl (XS.icmpNo X111.here hx rfl (hb hby dCa0_7) rfl (by decide) (XS.aloadN X111.here hx rfl (hb hby dCa0_10) rfl rfl (XS.iloadN X111.here hx rfl (hb hby dCa0_11) rfl (X111.caload hx (j := (3 : Int32)) (v := (.int 117)) (own_at e111 Ar_q113.1) (State.isArrayOf_alike hZ.alike Ar_q113.2.1) Ar_q113.2.2 hin_q113 hat_q113 (g := (mkF m 12 #[.val (.ref ca), .val (.int 3), .val (.ref ba), .val (.int 3), .val (.int 9), .val (.int 3), .val (.int 113)] [(.int 3), (.ref ca)])) rfl rfl (hb hby dCa0_12) _ (XS.istore X111.here hx rfl (hb hby dCa0_13) rfl (l' := #[.val (.ref ca), .val (.int 3), .val (.ref ba), .val (.int 3), .val (.int 9), .val (.int 3), .val (.int 117)]) rfl (XS.iload X111.here hx rfl (hb hby dCa0_15) rfl (XS.sipush X111.here hx rfl (hb hby dCa0_17) (XS.icmpYes X111.here hx rfl (pc0 := 20) (pc' := 26) rfl (hb hby dCa0_20) rfl (by decide) (by decide) (by decide) (XS.aloadN X111.here hx rfl (hb hby dCa0_26) rfl rfl (XS.iloadN X111.here hx rfl (hb hby dCa0_27) rfl (XS.iload X111.here hx rfl (hb hby dCa0_28) rfl (XS.i2b X111.here hx rfl (hb hby dCa0_30) rfl (own_fI (show ((117 : Int32).toInt8.toInt32) = (117 : Int32) from by decide) (st115 _ (XS.iinc X115.here hx rfl (hb hby dCa0_32) rfl (l' := #[.val (.ref ca), .val (.int 4), .val (.ref ba), .val (.int 3), .val (.int 9), .val (.int 3), .val (.int 117)]) rfl (XS.iinc X115.here hx rfl (hb hby dCa0_35) rfl (l' := #[.val (.ref ca), .val (.int 4), .val (.ref ba), .val (.int 4), .val (.int 9), .val (.int 3), .val (.int 117)]) rfl (XS.iinc X115.here hx rfl (hb hby dCa0_38) rfl (l' := #[.val (.ref ca), .val (.int 4), .val (.ref ba), .val (.int 4), .val (.int 9), .val (.int 4), .val (.int 117)]) rfl (XS.goto X115.here hx rfl (pc0 := 41) (pc' := 3) rfl (hb hby dCa0_41) (by decide) (by decide) (XS.iload X115.here hx rfl (hb hby dCa0_3) rfl (XS.iload X115.here hx rfl (hb hby dCa0_5) rfl (XS.icmpNo X115.here hx rfl (hb hby dCa0_7) rfl (by decide) (XS.aloadN X115.here hx rfl (hb hby dCa0_10) rfl rfl (XS.iloadN X115.here hx rfl (hb hby dCa0_11) rfl (X115.caload hx (j := (4 : Int32)) (v := (.int 105)) (own_at e115 Ar_q117.1) (State.isArrayOf_alike hZ.alike Ar_q117.2.1) Ar_q117.2.2 hin_q117 hat_q117 (g := (mkF m 12 #[.val (.ref ca), .val (.int 4), .val (.ref ba), .val (.int 4), .val (.int 9), .val (.int 4), .val (.int 117)] [(.int 4), (.ref ca)])) rfl rfl (hb hby dCa0_12) _ (XS.istore X115.here hx rfl (hb hby dCa0_13) rfl (l' := #[.val (.ref ca), .val (.int 4), .val (.ref ba), .val (.int 4), .val (.int 9), .val (.int 4), .val (.int 105)]) rfl (XS.iload X115.here hx rfl (hb hby dCa0_15) rfl (XS.sipush X115.here hx rfl (hb hby dCa0_17) (XS.icmpYes X115.here hx rfl (pc0 := 20) (pc' := 26) rfl (hb hby dCa0_20) rfl (by decide) (by decide) (by decide) (XS.aloadN X115.here hx rfl (hb hby dCa0_26) rfl rfl (XS.iloadN X115.here hx rfl (hb hby dCa0_27) rfl (XS.iload X115.here hx rfl (hb hby dCa0_28) rfl (XS.i2b X115.here hx rfl (hb hby dCa0_30) rfl (own_fI (show ((105 : Int32).toInt8.toInt32) = (105 : Int32) from by decide) (st119 _ (XS.iinc X119.here hx rfl (hb hby dCa0_32) rfl (l' := #[.val (.ref ca), .val (.int 5), .val (.ref ba), .val (.int 4), .val (.int 9), .val (.int 4), .val (.int 105)]) rfl (XS.iinc X119.here hx rfl (hb hby dCa0_35) rfl (l' := #[.val (.ref ca), .val (.int 5), .val (.ref ba), .val (.int 5), .val (.int 9), .val (.int 4), .val (.int 105)]) rfl (XS.iinc X119.here hx rfl (hb hby dCa0_38) rfl (l' := #[.val (.ref ca), .val (.int 5), .val (.ref ba), .val (.int 5), .val (.int 9), .val (.int 5), .val (.int 105)]) rfl (XS.goto X119.here hx rfl (pc0 := 41) (pc' := 3) rfl (hb hby dCa0_41) (by decide) (by decide) (XS.iload X119.here hx rfl (hb hby dCa0_3) rfl (XS.iload X119.here hx rfl (hb hby dCa0_5) rfl (XS.icmpNo X119.here hx rfl (hb hby dCa0_7) rfl (by decide) (XS.aloadN X119.here hx rfl (hb hby dCa0_10) rfl rfl (XS.iloadN X119.here hx rfl (hb hby dCa0_11) rfl (X119.caload hx (j := (5 : Int32)) (v := (.int 100)) (own_at e119 Ar_q121.1) (State.isArrayOf_alike hZ.alike Ar_q121.2.1) Ar_q121.2.2 hin_q121 hat_q121 (g := (mkF m 12 #[.val (.ref ca), .val (.int 5), .val (.ref ba), .val (.int 5), .val (.int 9), .val (.int 5), .val (.int 105)] [(.int 5), (.ref ca)])) rfl rfl (hb hby dCa0_12) _ (XS.istore X119.here hx rfl (hb hby dCa0_13) rfl (l' := #[.val (.ref ca), .val (.int 5), .val (.ref ba), .val (.int 5), .val (.int 9), .val (.int 5), .val (.int 100)]) rfl (XS.iload X119.here hx rfl (hb hby dCa0_15) rfl (XS.sipush X119.here hx rfl (hb hby dCa0_17) (XS.icmpYes X119.here hx rfl (pc0 := 20) (pc' := 26) rfl (hb hby dCa0_20) rfl (by decide) (by decide) (by decide) (XS.aloadN X119.here hx rfl (hb hby dCa0_26) rfl rfl (XS.iloadN X119.here hx rfl (hb hby dCa0_27) rfl (XS.iload X119.here hx rfl (hb hby dCa0_28) rfl (XS.i2b X119.here hx rfl (hb hby dCa0_30) rfl (own_fI (show ((100 : Int32).toInt8.toInt32) = (100 : Int32) from by decide) (st123 _ (XS.iinc X123.here hx rfl (hb hby dCa0_32) rfl (l' := #[.val (.ref ca), .val (.int 6), .val (.ref ba), .val (.int 5), .val (.int 9), .val (.int 5), .val (.int 100)]) rfl (XS.iinc X123.here hx rfl (hb hby dCa0_35) rfl (l' := #[.val (.ref ca), .val (.int 6), .val (.ref ba), .val (.int 6), .val (.int 9), .val (.int 5), .val (.int 100)]) rfl kont)))))))))))))))))))))))))))))))))))))))))))))))))))))))))))) ?_
  show Go _ _ _ _ _ _ _ (T123.setTop (mkF m 38 #[.val (.ref ca), .val (.int 6), .val (.ref ba), .val (.int 6), .val (.int 9), .val (.int 5), .val (.int 100)] []))
  obtain ⟨cl_q125, Ar_q125, q1_q125, S_q125, N_q125, H_q125, G_q125⟩ := id (V0_ca.keep K124 (ninS ne0_ca_ba nin0))
  have hin_q125 := own_ib S_q125 (6 : Int32) (by decide)
  have hat_q125 : cl_q125.slots[((6 : Int32)).toNatClampNeg]? = some (.int 97) := Has.at H_q125 hin_q125 rfl
  obtain ⟨cl_q126, Ar_q126, q1_q126, S_q126, N_q126, H_q126, G_q126⟩ := id V123
  have hin_q126 := own_ib S_q126 (6 : Int32) (by decide)
  obtain ⟨T127, h127, X127, e127, W127, st127⟩ := stB X123 hx hZ e123 Ar_q126 (j := (6 : Int32)) hin_q126 (g := (mkF m 31 #[.val (.ref ca), .val (.int 6), .val (.ref ba), .val (.int 6), .val (.int 9), .val (.int 6), .val (.int 97)] [(.int 97), (.int 6), (.ref ba)])) rfl rfl (hb hby dCa0_31)
  have V127 : Arv Z h127 ba kc_ba .byte (9 : Int32) [(.int 108), (.int 105), (.int 113), (.int 117), (.int 105), (.int 100), (.int (nar .byte (97 : Int32))), (.int 0), (.int 0)] (.int 0) := Arv.set Ar_q126 q1_q126 S_q126 N_q126 H_q126 G_q126 (fits_nar_byte _) W127 6 rfl (Nat.le_of_ble_eq_true rfl)
  rw [show (nar .byte (97 : Int32)) = (97 : Int32) from by decide] at V127
  have Z128 := Nat.le_trans Z124 (Keep.of_wr W127).1
  have K128 : Keep h0 h127 [ba] := K124.wr W127 (Or.inl (by simp))
  have N127 := Fr.snoc X127 N123 ge0_ba
  obtain ⟨cl_q129, Ar_q129, q1_q129, S_q129, N_q129, H_q129, G_q129⟩ := id (V0_ca.keep K128 (ninS ne0_ca_ba nin0))
  have hin_q129 := own_ib S_q129 (7 : Int32) (by decide)
  have hat_q129 : cl_q129.slots[((7 : Int32)).toNatClampNeg]? = some (.int 116) := Has.at H_q129 hin_q129 rfl
  obtain ⟨cl_q130, Ar_q130, q1_q130, S_q130, N_q130, H_q130, G_q130⟩ := id V127
  have hin_q130 := own_ib S_q130 (7 : Int32) (by decide)
  obtain ⟨T131, h131, X131, e131, W131, st131⟩ := stB X127 hx hZ e127 Ar_q130 (j := (7 : Int32)) hin_q130 (g := (mkF m 31 #[.val (.ref ca), .val (.int 7), .val (.ref ba), .val (.int 7), .val (.int 9), .val (.int 7), .val (.int 116)] [(.int 116), (.int 7), (.ref ba)])) rfl rfl (hb hby dCa0_31)
  have V131 : Arv Z h131 ba kc_ba .byte (9 : Int32) [(.int 108), (.int 105), (.int 113), (.int 117), (.int 105), (.int 100), (.int 97), (.int (nar .byte (116 : Int32))), (.int 0)] (.int 0) := Arv.set Ar_q130 q1_q130 S_q130 N_q130 H_q130 G_q130 (fits_nar_byte _) W131 7 rfl (Nat.le_of_ble_eq_true rfl)
  rw [show (nar .byte (116 : Int32)) = (116 : Int32) from by decide] at V131
  have Z132 := Nat.le_trans Z128 (Keep.of_wr W131).1
  have K132 : Keep h0 h131 [ba] := K128.wr W131 (Or.inl (by simp))
  have N131 := Fr.snoc X131 N127 ge0_ba
  obtain ⟨cl_q133, Ar_q133, q1_q133, S_q133, N_q133, H_q133, G_q133⟩ := id (V0_ca.keep K132 (ninS ne0_ca_ba nin0))
  have hin_q133 := own_ib S_q133 (8 : Int32) (by decide)
  have hat_q133 : cl_q133.slots[((8 : Int32)).toNatClampNeg]? = some (.int 101) := Has.at H_q133 hin_q133 rfl
  obtain ⟨cl_q134, Ar_q134, q1_q134, S_q134, N_q134, H_q134, G_q134⟩ := id V131
  have hin_q134 := own_ib S_q134 (8 : Int32) (by decide)
  obtain ⟨T135, h135, X135, e135, W135, st135⟩ := stB X131 hx hZ e131 Ar_q134 (j := (8 : Int32)) hin_q134 (g := (mkF m 31 #[.val (.ref ca), .val (.int 8), .val (.ref ba), .val (.int 8), .val (.int 9), .val (.int 8), .val (.int 101)] [(.int 101), (.int 8), (.ref ba)])) rfl rfl (hb hby dCa0_31)
  have V135 : Arv Z h135 ba kc_ba .byte (9 : Int32) [(.int 108), (.int 105), (.int 113), (.int 117), (.int 105), (.int 100), (.int 97), (.int 116), (.int (nar .byte (101 : Int32)))] (.int 0) := Arv.set Ar_q134 q1_q134 S_q134 N_q134 H_q134 G_q134 (fits_nar_byte _) W135 8 rfl (Nat.le_of_ble_eq_true rfl)
  rw [show (nar .byte (101 : Int32)) = (101 : Int32) from by decide] at V135
  have Z136 := Nat.le_trans Z132 (Keep.of_wr W135).1
  have K136 : Keep h0 h135 [ba] := K132.wr W135 (Or.inl (by simp))
  have N135 := Fr.snoc X135 N131 ge0_ba
  refine Go.by (fun _ kont => XS.iinc X123.here hx rfl (hb hby dCa0_38) rfl (l' := #[.val (.ref ca), .val (.int 6), .val (.ref ba), .val (.int 6), .val (.int 9), .val (.int 6), .val (.int 100)]) rfl (XS.goto X123.here hx rfl (pc0 := 41) (pc' := 3) rfl (hb hby dCa0_41) (by decide) (by decide) (XS.iload X123.here hx rfl (hb hby dCa0_3) rfl (XS.iload X123.here hx rfl (hb hby dCa0_5) rfl (XS.icmpNo X123.here hx rfl (hb hby dCa0_7) rfl (by decide) (XS.aloadN X123.here hx rfl (hb hby dCa0_10) rfl rfl (XS.iloadN X123.here hx rfl (hb hby dCa0_11) rfl (X123.caload hx (j := (6 : Int32)) (v := (.int 97)) (own_at e123 Ar_q125.1) (State.isArrayOf_alike hZ.alike Ar_q125.2.1) Ar_q125.2.2 hin_q125 hat_q125 (g := (mkF m 12 #[.val (.ref ca), .val (.int 6), .val (.ref ba), .val (.int 6), .val (.int 9), .val (.int 6), .val (.int 100)] [(.int 6), (.ref ca)])) rfl rfl (hb hby dCa0_12) _ (XS.istore X123.here hx rfl (hb hby dCa0_13) rfl (l' := #[.val (.ref ca), .val (.int 6), .val (.ref ba), .val (.int 6), .val (.int 9), .val (.int 6), .val (.int 97)]) rfl (XS.iload X123.here hx rfl (hb hby dCa0_15) rfl (XS.sipush X123.here hx rfl (hb hby dCa0_17) (XS.icmpYes X123.here hx rfl (pc0 := 20) (pc' := 26) rfl (hb hby dCa0_20) rfl (by decide) (by decide) (by decide) (XS.aloadN X123.here hx rfl (hb hby dCa0_26) rfl rfl (XS.iloadN X123.here hx rfl (hb hby dCa0_27) rfl (XS.iload X123.here hx rfl (hb hby dCa0_28) rfl (XS.i2b X123.here hx rfl (hb hby dCa0_30) rfl (own_fI (show ((97 : Int32).toInt8.toInt32) = (97 : Int32) from by decide) (st127 _ (XS.iinc X127.here hx rfl (hb hby dCa0_32) rfl (l' := #[.val (.ref ca), .val (.int 7), .val (.ref ba), .val (.int 6), .val (.int 9), .val (.int 6), .val (.int 97)]) rfl (XS.iinc X127.here hx rfl (hb hby dCa0_35) rfl (l' := #[.val (.ref ca), .val (.int 7), .val (.ref ba), .val (.int 7), .val (.int 9), .val (.int 6), .val (.int 97)]) rfl (XS.iinc X127.here hx rfl (hb hby dCa0_38) rfl (l' := #[.val (.ref ca), .val (.int 7), .val (.ref ba), .val (.int 7), .val (.int 9), .val (.int 7), .val (.int 97)]) rfl (XS.goto X127.here hx rfl (pc0 := 41) (pc' := 3) rfl (hb hby dCa0_41) (by decide) (by decide) (XS.iload X127.here hx rfl (hb hby dCa0_3) rfl (XS.iload X127.here hx rfl (hb hby dCa0_5) rfl (XS.icmpNo X127.here hx rfl (hb hby dCa0_7) rfl (by decide) (XS.aloadN X127.here hx rfl (hb hby dCa0_10) rfl rfl (XS.iloadN X127.here hx rfl (hb hby dCa0_11) rfl (X127.caload hx (j := (7 : Int32)) (v := (.int 116)) (own_at e127 Ar_q129.1) (State.isArrayOf_alike hZ.alike Ar_q129.2.1) Ar_q129.2.2 hin_q129 hat_q129 (g := (mkF m 12 #[.val (.ref ca), .val (.int 7), .val (.ref ba), .val (.int 7), .val (.int 9), .val (.int 7), .val (.int 97)] [(.int 7), (.ref ca)])) rfl rfl (hb hby dCa0_12) _ (XS.istore X127.here hx rfl (hb hby dCa0_13) rfl (l' := #[.val (.ref ca), .val (.int 7), .val (.ref ba), .val (.int 7), .val (.int 9), .val (.int 7), .val (.int 116)]) rfl (XS.iload X127.here hx rfl (hb hby dCa0_15) rfl (XS.sipush X127.here hx rfl (hb hby dCa0_17) (XS.icmpYes X127.here hx rfl (pc0 := 20) (pc' := 26) rfl (hb hby dCa0_20) rfl (by decide) (by decide) (by decide) (XS.aloadN X127.here hx rfl (hb hby dCa0_26) rfl rfl (XS.iloadN X127.here hx rfl (hb hby dCa0_27) rfl (XS.iload X127.here hx rfl (hb hby dCa0_28) rfl (XS.i2b X127.here hx rfl (hb hby dCa0_30) rfl (own_fI (show ((116 : Int32).toInt8.toInt32) = (116 : Int32) from by decide) (st131 _ (XS.iinc X131.here hx rfl (hb hby dCa0_32) rfl (l' := #[.val (.ref ca), .val (.int 8), .val (.ref ba), .val (.int 7), .val (.int 9), .val (.int 7), .val (.int 116)]) rfl (XS.iinc X131.here hx rfl (hb hby dCa0_35) rfl (l' := #[.val (.ref ca), .val (.int 8), .val (.ref ba), .val (.int 8), .val (.int 9), .val (.int 7), .val (.int 116)]) rfl (XS.iinc X131.here hx rfl (hb hby dCa0_38) rfl (l' := #[.val (.ref ca), .val (.int 8), .val (.ref ba), .val (.int 8), .val (.int 9), .val (.int 8), .val (.int 116)]) rfl (XS.goto X131.here hx rfl (pc0 := 41) (pc' := 3) rfl (hb hby dCa0_41) (by decide) (by decide) (XS.iload X131.here hx rfl (hb hby dCa0_3) rfl (XS.iload X131.here hx rfl (hb hby dCa0_5) rfl (XS.icmpNo X131.here hx rfl (hb hby dCa0_7) rfl (by decide) (XS.aloadN X131.here hx rfl (hb hby dCa0_10) rfl rfl (XS.iloadN X131.here hx rfl (hb hby dCa0_11) rfl (X131.caload hx (j := (8 : Int32)) (v := (.int 101)) (own_at e131 Ar_q133.1) (State.isArrayOf_alike hZ.alike Ar_q133.2.1) Ar_q133.2.2 hin_q133 hat_q133 (g := (mkF m 12 #[.val (.ref ca), .val (.int 8), .val (.ref ba), .val (.int 8), .val (.int 9), .val (.int 8), .val (.int 116)] [(.int 8), (.ref ca)])) rfl rfl (hb hby dCa0_12) _ (XS.istore X131.here hx rfl (hb hby dCa0_13) rfl (l' := #[.val (.ref ca), .val (.int 8), .val (.ref ba), .val (.int 8), .val (.int 9), .val (.int 8), .val (.int 101)]) rfl (XS.iload X131.here hx rfl (hb hby dCa0_15) rfl (XS.sipush X131.here hx rfl (hb hby dCa0_17) (XS.icmpYes X131.here hx rfl (pc0 := 20) (pc' := 26) rfl (hb hby dCa0_20) rfl (by decide) (by decide) (by decide) (XS.aloadN X131.here hx rfl (hb hby dCa0_26) rfl rfl (XS.iloadN X131.here hx rfl (hb hby dCa0_27) rfl (XS.iload X131.here hx rfl (hb hby dCa0_28) rfl (XS.i2b X131.here hx rfl (hb hby dCa0_30) rfl (own_fI (show ((101 : Int32).toInt8.toInt32) = (101 : Int32) from by decide) (st135 _ (XS.iinc X135.here hx rfl (hb hby dCa0_32) rfl (l' := #[.val (.ref ca), .val (.int 9), .val (.ref ba), .val (.int 8), .val (.int 9), .val (.int 8), .val (.int 101)]) rfl (XS.iinc X135.here hx rfl (hb hby dCa0_35) rfl (l' := #[.val (.ref ca), .val (.int 9), .val (.ref ba), .val (.int 9), .val (.int 9), .val (.int 8), .val (.int 101)]) rfl kont)))))))))))))))))))))))))))))))))))))))))))))))))))))))))))) ?_
  show Go _ _ _ _ _ _ _ (T135.setTop (mkF m 38 #[.val (.ref ca), .val (.int 9), .val (.ref ba), .val (.int 9), .val (.int 9), .val (.int 8), .val (.int 101)] []))
  refine Go.by (fun _ kont => XS.iinc X135.here hx rfl (hb hby dCa0_38) rfl (l' := #[.val (.ref ca), .val (.int 9), .val (.ref ba), .val (.int 9), .val (.int 9), .val (.int 9), .val (.int 101)]) rfl (XS.goto X135.here hx rfl (pc0 := 41) (pc' := 3) rfl (hb hby dCa0_41) (by decide) (by decide) (XS.iload X135.here hx rfl (hb hby dCa0_3) rfl (XS.iload X135.here hx rfl (hb hby dCa0_5) rfl (XS.icmpYes X135.here hx rfl (pc0 := 7) (pc' := 44) rfl (hb hby dCa0_7) rfl (by decide) (by decide) (by decide) (XS.iload X135.here hx rfl (hb hby dCa0_44) rfl kont)))))) ?_
  show Go _ _ _ _ _ _ _ (T135.setTop (mkF m 46 #[.val (.ref ca), .val (.int 9), .val (.ref ba), .val (.int 9), .val (.int 9), .val (.int 9), .val (.int 101)] [(.int 9)]))
  refine Go.retI X135 hx hret hlk (hb hby dCa0_46) ?_ (by decide) (by decide)
  show QCa2 Z ba kc_ba h0 n0 (some (.int 9)) T135.heap _
  rw [e135]
  exact ⟨rfl, N135, K136, V135⟩

theorem pdCb2_0 : parseMethodDescriptor "([CI[BII)I" = some ⟨[(.array .char), .int, (.array .byte), .int, .int], some .int⟩ := by decide +kernel
theorem pnCb2 : plainName "java/lang/StringUTF16" = true := by first | (simp [plainName, overriddenIn]; done) | decide +kernel
theorem efCb2 (m : MethodId) (ca : Addr) : entryFrame m #[(.ref ca), (.int 0), (.int 9)] 6 = mkF m 0 #[.val (.ref ca), .val (.int 0), .val (.int 9), .unset, .unset, .unset] [] := by first | (simp [entryFrame, mkF, argsToLocals, Value.category]; done) | rfl
def QCb2 (Z : State)  (h0 : Heap) (n0 : Nat) (v : Option Value) (h : Heap) (L : List Loc) : Prop := ∃ b101 : Addr, ∃ k101 : ClassId, (v = some (.ref b101) ∧ Fr n0 L ∧ Keep h0 h [] ∧ n0 ≤ b101 ∧ h0.size ≤ b101 ∧ Arv Z h b101 k101 .byte (9 : Int32) [(.int 108), (.int 105), (.int 113), (.int 117), (.int 105), (.int 100), (.int 97), (.int 116), (.int 101)] (.int 0))
set_option maxRecDepth 65536 in
set_option maxHeartbeats 40000000 in
theorem rmCb2 (l : Launch) (Z : State) (a0 : Array Value) (hw : ∀ d ∈ tables_1, d.before a0 Z = true) (ws : List Jvm.Cond) (ca : Addr) (kc_ca : ClassId) (h0 : Heap) (n0 : Nat) (Z0 : n0 ≤ h0.size) (V0_ca : Arv Z h0 ca kc_ca .char (9 : Int32) [(.int 108), (.int 105), (.int 113), (.int 117), (.int 105), (.int 100), (.int 97), (.int 116), (.int 101)] (.int 0)) :
    Ct l Z (⟨"java/lang/StringUTF16", "compress", "([CII)[B"⟩ : MethodName) jdk_52_method_16_code 6 (some (.array .byte)) ws (⟨1, 1, 9, 18⟩ : Room) #[(.ref ca), (.int 0), (.int 9)] h0 (QCb2 Z  h0 n0) := by
  refine MetFree.of_bodySF (plainFor_of_name pnCb2) hisR ?_
  intro p e s m args below meth c s₁ Bd hml hP hK
  obtain ⟨rfl, hZ, hh⟩ := hP
  obtain ⟨hx, hby, hown, hnm, hlk, hret, X0, e0⟩ := own_st Bd "java/lang/StringUTF16" rfl hh
  have N0 := Fr.nil n0
  show Go p e below s (⟨1, 1, 9, 18⟩ : Room).cells (⟨1, 1, 9, 18⟩ : Room).slots (QCb2 Z  h0 n0) (s₁.setTop (entryFrame m #[(.ref ca), (.int 0), (.int 9)] 6))
  rw [efCb2]
  obtain ⟨T101, h101, k101, X101, e101, X_101, A101, st101⟩ := newP X0 hx hZ (own_w hw 23 rfl) e0 (g := (mkF m 1 #[.val (.ref ca), .val (.int 0), .val (.int 9), .unset, .unset, .unset] [(.int 9)])) rfl (hb hby dCb0_1) rfl (by decide) (cap := 9) (by decide) (by decide) (by decide) (by decide)
  obtain ⟨b101, g101⟩ : ∃ z, z = h0.size := ⟨_, rfl⟩
  rw [← g101] at A101 st101
  have ge_b101 : n0 ≤ b101 := Nat.le_trans Z0 (Nat.le_of_eq g101.symm)
  have sz_b101 : h0.size ≤ b101 := Nat.le_trans (Keep.refl h0 []).1 (Nat.le_of_eq g101.symm)
  have Z102 := Nat.le_trans Z0 X_101.1
  have K102 : Keep h0 h101 [] := (Keep.refl h0 []).ext X_101
  have V101 : Arv Z h101 b101 k101 .byte (9 : Int32) [(.int 0), (.int 0), (.int 0), (.int 0), (.int 0), (.int 0), (.int 0), (.int 0), (.int 0)] (.int 0) := (Arv.new A101 (by decide)).pad (pad_rep [] (.int 0) 9)
  obtain ⟨_, _, ⟨T103, L103, k103, n103⟩, -, X103, ⟨Lc103, hQ103, l103, y103, z103⟩, st103⟩ := Jvm.LawKit.callS X101 hx (y := (⟨"java/lang/StringUTF16", "compress", "([CI[BII)I"⟩ : MethodName)) hown (mvT hZ (own_w hw 24 rfl)) (mvT hZ (own_w hw 25 rfl)) (mvT hZ (own_w hw 21 rfl)) (mvT hZ (own_w hw 26 rfl)) (by decide) (backOf (W := 0) (rmCa2 l Z a0 hw [] ca b101 kc_ca k101 h101 n0 Z102 (V0_ca.keep K102 nin0) V101 (own_nlt V0_ca.lt (Nat.le_of_eq g101.symm)) ge_b101) hZ (own_w hw 26 rfl) (own_w hw 21 rfl) (by decide) (by decide)) (g := (mkF m 9 #[.val (.ref ca), .val (.int 0), .val (.int 9), .val (.ref b101), .unset, .unset] [(.int 9), (.int 0), (.ref b101), (.int 0), (.ref ca)])) rfl (by rw [hml]; rfl) (argsL := [(.ref ca), (.int 0), (.ref b101), (.int 0), (.int 9)]) (rest := []) (lenOf pdCb2_0 rfl) rfl (by show 2 * 0 + _ ≤ _; exact Nat.le_of_eq rfl) (hb hby dCb0_9) (fun _ _ => ⟨rfl, e101, (by decide : 1 + 0 ≤ _), (by decide : 9 + 0 ≤ _)⟩)
  dsimp only [Pt.U, Pt.locs, Pt.cells, Pt.slots] at X103 l103 y103 z103 st103 hQ103
  subst l103 y103 z103
  obtain ⟨rfl, N103q, K103, g103_0⟩ := hQ103
  have Z104 := Nat.le_trans Z102 K103.1
  have K104 : Keep h0 T103.heap [] := Keep.trans K102 K103 (allS (Or.inr sz_b101) all0)
  have N103 := Fr.app N0 N103q
  refine Go.by (fun _ kont => XS.iloadN X0.here hx rfl (hb hby dCb0_0) rfl (st101 _ (XS.astoreN X101.here hx rfl (hb hby dCb0_3) rfl rfl (l' := #[.val (.ref ca), .val (.int 0), .val (.int 9), .val (.ref b101), .unset, .unset]) rfl (XS.aloadN X101.here hx rfl (hb hby dCb0_4) rfl rfl (XS.iloadN X101.here hx rfl (hb hby dCb0_5) rfl (XS.aloadN X101.here hx rfl (hb hby dCb0_6) rfl rfl (XS.iconst X101.here hx rfl (hb hby dCb0_7) (XS.iloadN X101.here hx rfl (hb hby dCb0_8) rfl (st103 _ (XS.istore X103.here hx rfl (hb hby dCb0_12) rfl (l' := #[.val (.ref ca), .val (.int 0), .val (.int 9), .val (.ref b101), .val (.int 9), .unset]) rfl (XS.iload X103.here hx rfl (hb hby dCb0_14) rfl (XS.iloadN X103.here hx rfl (hb hby dCb0_16) rfl (XS.icmpYes X103.here hx rfl (pc0 := 17) (pc' := 57) rfl (hb hby dCb0_17) rfl (by decide) (by decide) (by decide) (XS.aloadN X103.here hx rfl (hb hby dCb0_57) rfl rfl kont)))))))))))))) ?_
  show Go _ _ _ _ _ _ _ (T103.setTop (mkF m 58 #[.val (.ref ca), .val (.int 0), .val (.int 9), .val (.ref b101), .val (.int 9), .unset] [(.ref b101)]))
  refine Go.retR X103 hx hret rfl rfl hlk (hb hby dCb0_58) ?_ (by decide) (by decide)
  show QCb2 Z  h0 n0 (some (.ref b101)) T103.heap _
  exact ⟨b101, k101, rfl, N103, K104, ge_b101, sz_b101, g103_0⟩

theorem pnCc2 : plainName "java/lang/StringUTF16" = true := by first | (simp [plainName, overriddenIn]; done) | decide +kernel
theorem efCc2 (m : MethodId) (ba : Addr) : entryFrame m #[(.ref ba), (.int 9)] 2 = mkF m 0 #[.val (.ref ba), .val (.int 9)] [] := by first | (simp [entryFrame, mkF, argsToLocals, Value.category]; done) | rfl
def QCc2 (Z : State)  (h0 : Heap) (n0 : Nat) (v : Option Value) (h : Heap) (L : List Loc) : Prop := (v = some (.int 0) ∧ Fr n0 L ∧ h = h0)
set_option maxRecDepth 65536 in
set_option maxHeartbeats 40000000 in
theorem rmCc2 (l : Launch) (Z : State) (a0 : Array Value) (hw : ∀ d ∈ tables_1, d.before a0 Z = true) (ws : List Jvm.Cond) (ba : Addr) (kc_ba : ClassId) (h0 : Heap) (n0 : Nat) (Z0 : n0 ≤ h0.size) (V0_ba : Arv Z h0 ba kc_ba .byte (9 : Int32) [(.int 108), (.int 105), (.int 113), (.int 117), (.int 105), (.int 100), (.int 97), (.int 116), (.int 101)] (.int 0)) :
    Ct l Z (⟨"java/lang/StringUTF16", "coderFromArrayLen", "([BI)B"⟩ : MethodName) jdk_52_method_15_code 2 (some .byte) ws (⟨0, 0, 0, 0⟩ : Room) #[(.ref ba), (.int 9)] h0 (QCc2 Z  h0 n0) := by
  refine MetFree.of_bodySF (plainFor_of_name pnCc2) hisR ?_
  intro p e s m args below meth c s₁ Bd hml hP hK
  obtain ⟨rfl, hZ, hh⟩ := hP
  obtain ⟨hx, hby, hown, hnm, hlk, hret, X0, e0⟩ := own_st Bd "java/lang/StringUTF16" rfl hh
  have N0 := Fr.nil n0
  show Go p e below s (⟨0, 0, 0, 0⟩ : Room).cells (⟨0, 0, 0, 0⟩ : Room).slots (QCc2 Z  h0 n0) (s₁.setTop (entryFrame m #[(.ref ba), (.int 9)] 2))
  rw [efCc2]
  obtain ⟨cl_q101, Ar_q101, q1_q101, S_q101, N_q101, H_q101, G_q101⟩ := id V0_ba
  refine Go.by (fun _ kont => XS.iloadN X0.here hx rfl (hb hby dCc0_0) rfl (XS.aloadN X0.here hx rfl (hb hby dCc0_1) rfl rfl (X0.arraylength hx (own_at e0 Ar_q101.1) (State.isArrayOf_alike hZ.alike Ar_q101.2.1) (g := (mkF m 2 #[.val (.ref ba), .val (.int 9)] [(.ref ba), (.int 9)])) rfl rfl (hb hby dCc0_2) _ (own_fI (len_of S_q101 N_q101) (XS.isub X0.here hx rfl (hb hby dCc0_3) rfl (own_fI (show ((9 : Int32) - (9 : Int32)) = (0 : Int32) from by decide) (XS.bipush X0.here hx rfl (hb hby dCc0_4) (XS.iushr X0.here hx rfl (hb hby dCc0_6) rfl (own_fI (show (((0 : Int32).toUInt32 >>> ((31 : Int32) &&& 31).toUInt32).toInt32) = (0 : Int32) from by decide) (XS.i2b X0.here hx rfl (hb hby dCc0_7) rfl (own_fI (show ((0 : Int32).toInt8.toInt32) = (0 : Int32) from by decide) kont))))))))))) ?_
  show Go _ _ _ _ _ _ _ (s₁.setTop (mkF m 8 #[.val (.ref ba), .val (.int 9)] [(.int 0)]))
  refine Go.retN X0 hx (t := .byte) hret (by simp) hlk (hb hby dCc0_8) ?_ (by decide) (by decide)
  show QCc2 Z  h0 n0 (some (.int (0 : Int32))) s₁.heap _
  rw [e0]
  exact ⟨rfl, N0, rfl⟩

theorem pdNb2_0 : parseMethodDescriptor "([CII)[B" = some ⟨[(.array .char), .int, .int], some (.array .byte)⟩ := by decide +kernel
theorem pdNb2_1 : parseMethodDescriptor "([BI)B" = some ⟨[(.array .byte), .int], some .byte⟩ := by decide +kernel
theorem pnNb2 : plainName "java/lang/String" = true := by first | (simp [plainName, overriddenIn]; done) | decide +kernel
theorem efNb2 (m : MethodId) (a : Addr) (ca : Addr) : entryFrame m #[(.ref a), (.ref ca), (.int 0), (.int 9), .null] 6 = mkF m 0 #[.val (.ref a), .val (.ref ca), .val (.int 0), .val (.int 9), .val .null, .unset] [] := by first | (simp [entryFrame, mkF, argsToLocals, Value.category]; done) | rfl
def QNb2 (Z : State) (a : Addr) (h0 : Heap) (n0 : Nat) (v : Option Value) (h : Heap) (L : List Loc) : Prop := ∃ b101_103 : Addr, ∃ k101_103 : ClassId, (v = none ∧ Fr n0 L ∧ Keep h0 h [a] ∧ Exa Z h a "java/lang/String" ∧ Fld Z h a "java/lang/String" "coder" "B" (.int 0) ∧ Fld Z h a "java/lang/String" "value" "[B" (.ref b101_103) ∧ n0 ≤ b101_103 ∧ h0.size ≤ b101_103 ∧ Arv Z h b101_103 k101_103 .byte (9 : Int32) [(.int 108), (.int 105), (.int 113), (.int 117), (.int 105), (.int 100), (.int 97), (.int 116), (.int 101)] (.int 0))
set_option maxRecDepth 65536 in
set_option maxHeartbeats 40000000 in
theorem rmNb2 (l : Launch) (Z : State) (a0 : Array Value) (hw : ∀ d ∈ tables_1, d.before a0 Z = true) (ws : List Jvm.Cond) (a : Addr) (ca : Addr) (kc_ca : ClassId) (cs : Int32) (h0 : Heap) (n0 : Nat) (Z0 : n0 ≤ h0.size) (E0_a : Exa Z h0 a "java/lang/String") (F0_a_coder : Fld Z h0 a "java/lang/String" "coder" "B" (.int 0)) (F0_a_value : Fld Z h0 a "java/lang/String" "value" "[B" .null) (V0_ca : Arv Z h0 ca kc_ca .char (9 : Int32) [(.int 108), (.int 105), (.int 113), (.int 117), (.int 105), (.int 100), (.int 97), (.int 116), (.int 101)] (.int 0)) (ne0_a_ca : a ≠ ca) (S0_COMPACT_STRINGS : Sta Z h0 "java/lang/String" "COMPACT_STRINGS" "Z" (.int cs)) (ge0_a : n0 ≤ a) (hcs : ¬ (cs = (0 : Int32))) :
    Ct l Z (⟨"java/lang/String", "<init>", "([CIILjava/lang/Void;)V"⟩ : MethodName) jdk_42_method_149_code 6 none ws (⟨2, 1, 9, 35⟩ : Room) #[(.ref a), (.ref ca), (.int 0), (.int 9), .null] h0 (QNb2 Z a h0 n0) := by
  refine MetFree.of_bodySF (plainFor_of_name pnNb2) hisR ?_
  intro p e s m args below meth c s₁ Bd hml hP hK
  obtain ⟨rfl, hZ, hh⟩ := hP
  obtain ⟨hx, hby, hown, hnm, hlk, hret, X0, e0⟩ := own_st Bd "java/lang/String" rfl hh
  have N0 := Fr.nil n0
  show Go p e below s (⟨2, 1, 9, 35⟩ : Room).cells (⟨2, 1, 9, 35⟩ : Room).slots (QNb2 Z a h0 n0) (s₁.setTop (entryFrame m #[(.ref a), (.ref ca), (.int 0), (.int 9), .null] 6))
  rw [efNb2]
  obtain ⟨T101, X101, e101, st101⟩ := initO X0 hx hZ hown (own_w hw 15 rfl) (own_w hw 16 rfl) (own_w hw 17 rfl) e0 (g := (mkF m 1 #[.val (.ref a), .val (.ref ca), .val (.int 0), .val (.int 9), .val .null, .unset] [(.ref a)])) rfl (by rw [hml]; rfl) rfl (hb hby dNb0_1) (by decide) (W := 0) (by show 2 * 0 + _ ≤ _; exact Nat.le_of_eq rfl) (by decide)
  obtain ⟨T102, X102, e102, st102⟩ := getS2 X101 hx hZ hown (host := "") (Or.inl (own_w hw 18 rfl)) Via.refl e101 S0_COMPACT_STRINGS (g := (mkF m 27 #[.val (.ref a), .val (.ref ca), .val (.int 0), .val (.int 9), .val .null, .unset] [])) rfl (hb hby dNb0_27)
  refine Go.by (fun _ kont => XS.aloadN X0.here hx rfl (hb hby dNb0_0) rfl rfl (st101 _ (XS.iloadN X101.here hx rfl (hb hby dNb0_4) rfl (XS.ifYes X101.here hx rfl (pc0 := 5) (pc' := 27) rfl (hb hby dNb0_5) rfl (by decide) (by decide) (by decide) (st102 _ kont))))) ?_
  show Go _ _ _ _ _ _ _ (T102.setTop (mkF m 30 #[.val (.ref a), .val (.ref ca), .val (.int 0), .val (.int 9), .val .null, .unset] [(.int cs)]))
  refine Go.by (fun _ kont => XS.ifNo X102.here hx rfl (hb hby dNb0_30) rfl ((if0 _ _).trans (feq hcs).1) kont) ?_
  show Go _ _ _ _ _ _ _ (T102.setTop (mkF m 33 #[.val (.ref a), .val (.ref ca), .val (.int 0), .val (.int 9), .val .null, .unset] []))
  obtain ⟨_, _, ⟨T103, L103, k103, n103⟩, -, X103, ⟨Lc103, hQ103, l103, y103, z103⟩, st103⟩ := Jvm.LawKit.callS X102 hx (y := (⟨"java/lang/StringUTF16", "compress", "([CII)[B"⟩ : MethodName)) hown (mvT hZ (own_w hw 19 rfl)) (mvT hZ (own_w hw 20 rfl)) (mvT hZ (own_w hw 21 rfl)) (mvT hZ (own_w hw 22 rfl)) (by decide) (backOf (W := 0) (rmCb2 l Z a0 hw [] ca kc_ca h0 n0 Z0 V0_ca) hZ (own_w hw 22 rfl) (own_w hw 21 rfl) (by decide) (by decide)) (g := (mkF m 36 #[.val (.ref a), .val (.ref ca), .val (.int 0), .val (.int 9), .val .null, .unset] [(.int 9), (.int 0), (.ref ca)])) rfl (by rw [hml]; rfl) (argsL := [(.ref ca), (.int 0), (.int 9)]) (rest := []) (lenOf pdNb2_0 rfl) rfl (by show 2 * 0 + _ ≤ _; exact Nat.le_of_eq rfl) (hb hby dNb0_36) (fun _ _ => ⟨rfl, e102, (by decide : 0 + 1 ≤ _), (by decide : 0 + 9 ≤ _)⟩)
  dsimp only [Pt.U, Pt.locs, Pt.cells, Pt.slots] at X103 l103 y103 z103 st103 hQ103
  subst l103 y103 z103
  obtain ⟨b101_103, k101_103, rfl, N103q, K103, ge_b101_103, szc_b101_103, g103_0⟩ := hQ103
  have sz_b101_103 : h0.size ≤ b101_103 := Nat.le_trans (Keep.refl h0 [a]).1 szc_b101_103
  have F104_coder_a := F0_a_coder.keep K103 nin0
  have F104_value_a := F0_a_value.keep K103 nin0
  have Z104 := Nat.le_trans Z0 K103.1
  have K104 : Keep h0 T103.heap [a] := Keep.trans (Keep.refl h0 [a]) K103 all0
  have N103 := Fr.app N0 N103q
  obtain ⟨_, _, ⟨T105, L105, k105, n105⟩, -, X105, ⟨Lc105, hQ105, l105, y105, z105⟩, st105⟩ := Jvm.LawKit.callS X103 hx (y := (⟨"java/lang/StringUTF16", "coderFromArrayLen", "([BI)B"⟩ : MethodName)) hown (mvT hZ (own_w hw 27 rfl)) (mvT hZ (own_w hw 28 rfl)) (mvT hZ (own_w hw 21 rfl)) (mvT hZ (own_w hw 29 rfl)) (by decide) (backOf (W := 1) (rmCc2 l Z a0 hw [] b101_103 k101_103 T103.heap n0 Z104 g103_0) hZ (own_w hw 29 rfl) (own_w hw 21 rfl) (by decide) (by decide)) (g := (mkF m 45 #[.val (.ref a), .val (.ref ca), .val (.int 0), .val (.int 9), .val .null, .val (.ref b101_103)] [(.int 9), (.ref b101_103), (.ref a)])) rfl (by rw [hml]; rfl) (argsL := [(.ref b101_103), (.int 9)]) (rest := [(.ref a)]) (lenOf pdNb2_1 rfl) rfl (by show 2 * 0 + _ ≤ _; exact Nat.le_of_eq rfl) (hb hby dNb0_45) (fun _ _ => ⟨rfl, rfl, (by decide : 1 + 0 ≤ _), (by decide : 9 + 0 ≤ _)⟩)
  dsimp only [Pt.U, Pt.locs, Pt.cells, Pt.slots] at X105 l105 y105 z105 st105 hQ105
  subst l105 y105 z105
  obtain ⟨rfl, N105q, eh105⟩ := hQ105
  have N105 := Fr.app N103 N105q
  obtain ⟨T106, h106, X106, e106, W106, st106⟩ := putF X105 hx hZ hown (host := "") (Or.inl (own_w hw 30 rfl)) Via.refl eh105 F104_coder_a (E0_a.keep K104) (Or.inr ⟨(own_w hw 31 rfl), rfl, hnm⟩) (own_w hw 6 rfl) (ty := .byte) (by decide) rfl rfl (g := (mkF m 48 #[.val (.ref a), .val (.ref ca), .val (.int 0), .val (.int 9), .val .null, .val (.ref b101_103)] [(.int 0), (.ref a)])) rfl rfl (hb hby dNb0_48)
  have Fw106 := F104_coder_a.same W106
  have F107_value_a := F104_value_a.other W106 (Or.inr (slot_ne (Or.inr (own_w hw 33 rfl)) (Or.inr (own_w hw 31 rfl)) (by decide) (t := (.array .byte)) (t' := .byte) (by decide) (by decide)))
  have V107_b101_103 := g103_0.other W106 (Ne.symm (own_nlt F0_a_coder.lt szc_b101_103))
  have Z107 := Nat.le_trans Z104 (Keep.of_wr W106).1
  have K107 : Keep h0 h106 [a] := K104.wr W106 (Or.inl (by simp))
  have N106 := Fr.snoc X106 N105 ge0_a
  obtain ⟨T108, h108, X108, e108, W108, st108⟩ := putF X106 hx hZ hown (host := "") (Or.inl (own_w hw 32 rfl)) Via.refl e106 F107_value_a (E0_a.keep K107) (Or.inr ⟨(own_w hw 33 rfl), rfl, hnm⟩) (own_w hw 6 rfl) (ty := (.array .byte)) (by decide) rfl rfl (g := (mkF m 54 #[.val (.ref a), .val (.ref ca), .val (.int 0), .val (.int 9), .val .null, .val (.ref b101_103)] [(.ref b101_103), (.ref a)])) rfl rfl (hb hby dNb0_54)
  have Fw108 := F107_value_a.same W108
  have F109_coder_a := Fw106.other W108 (Or.inr (slot_ne (Or.inr (own_w hw 31 rfl)) (Or.inr (own_w hw 33 rfl)) (by decide) (t := .byte) (t' := (.array .byte)) (by decide) (by decide)))
  have V109_b101_103 := V107_b101_103.other W108 (Ne.symm (own_nlt F0_a_coder.lt szc_b101_103))
  have Z109 := Nat.le_trans Z107 (Keep.of_wr W108).1
  have K109 : Keep h0 h108 [a] := K107.wr W108 (Or.inl (by simp))
  have N108 := Fr.snoc X108 N106 ge0_a
  refine Go.by (fun _ kont => XS.aloadN X102.here hx rfl (hb hby dNb0_33) rfl rfl (XS.iloadN X102.here hx rfl (hb hby dNb0_34) rfl (XS.iloadN X102.here hx rfl (hb hby dNb0_35) rfl (st103 _ (XS.astore X103.here hx rfl (hb hby dNb0_39) rfl rfl (l' := #[.val (.ref a), .val (.ref ca), .val (.int 0), .val (.int 9), .val .null, .val (.ref b101_103)]) rfl (XS.aloadN X103.here hx rfl (hb hby dNb0_41) rfl rfl (XS.aload X103.here hx rfl (hb hby dNb0_42) rfl rfl (XS.iloadN X103.here hx rfl (hb hby dNb0_44) rfl (st105 _ (st106 _ (XS.aloadN X106.here hx rfl (hb hby dNb0_51) rfl rfl (XS.aload X106.here hx rfl (hb hby dNb0_52) rfl rfl (st108 _ kont))))))))))))) ?_
  show Go _ _ _ _ _ _ _ (T108.setTop (mkF m 57 #[.val (.ref a), .val (.ref ca), .val (.int 0), .val (.int 9), .val .null, .val (.ref b101_103)] []))
  refine Go.retV X108 hx hret hlk (hb hby dNb0_57) ?_ (by decide) (by decide)
  show QNb2 Z a h0 n0 none T108.heap _
  rw [e108]
  exact ⟨b101_103, k101_103, rfl, N108, K109, (E0_a.keep K109), F109_coder_a, Fw108, ge_b101_103, sz_b101_103, V109_b101_103⟩

theorem pdNa2_0 : parseMethodDescriptor "([CIILjava/lang/Void;)V" = some ⟨[(.array .char), .int, .int, (.object "java/lang/Void")], none⟩ := by decide +kernel
theorem pnNa2 : plainName "java/lang/String" = true := by first | (simp [plainName, overriddenIn]; done) | decide +kernel
theorem efNa2 (m : MethodId) (a : Addr) (ca : Addr) : entryFrame m #[(.ref a), (.ref ca)] 2 = mkF m 0 #[.val (.ref a), .val (.ref ca)] [] := by first | (simp [entryFrame, mkF, argsToLocals, Value.category]; done) | rfl
def QNa2 (Z : State) (a : Addr) (h0 : Heap) (n0 : Nat) (v : Option Value) (h : Heap) (L : List Loc) : Prop := ∃ b101_103_102 : Addr, ∃ k101_103_102 : ClassId, (v = none ∧ Fr n0 L ∧ Keep h0 h [a] ∧ Exa Z h a "java/lang/String" ∧ Fld Z h a "java/lang/String" "coder" "B" (.int 0) ∧ Fld Z h a "java/lang/String" "value" "[B" (.ref b101_103_102) ∧ n0 ≤ b101_103_102 ∧ h0.size ≤ b101_103_102 ∧ Arv Z h b101_103_102 k101_103_102 .byte (9 : Int32) [(.int 108), (.int 105), (.int 113), (.int 117), (.int 105), (.int 100), (.int 97), (.int 116), (.int 101)] (.int 0))
set_option maxRecDepth 65536 in
set_option maxHeartbeats 40000000 in
theorem rmNa2 (l : Launch) (Z : State) (a0 : Array Value) (hw : ∀ d ∈ tables_1, d.before a0 Z = true) (ws : List Jvm.Cond) (a : Addr) (ca : Addr) (kc_ca : ClassId) (cs : Int32) (h0 : Heap) (n0 : Nat) (Z0 : n0 ≤ h0.size) (E0_a : Exa Z h0 a "java/lang/String") (F0_a_coder : Fld Z h0 a "java/lang/String" "coder" "B" (.int 0)) (F0_a_value : Fld Z h0 a "java/lang/String" "value" "[B" .null) (V0_ca : Arv Z h0 ca kc_ca .char (9 : Int32) [(.int 108), (.int 105), (.int 113), (.int 117), (.int 105), (.int 100), (.int 97), (.int 116), (.int 101)] (.int 0)) (ne0_a_ca : a ≠ ca) (S0_COMPACT_STRINGS : Sta Z h0 "java/lang/String" "COMPACT_STRINGS" "Z" (.int cs)) (ge0_a : n0 ≤ a) (hcs : ¬ (cs = (0 : Int32))) :
    Ct l Z (⟨"java/lang/String", "<init>", "([C)V"⟩ : MethodName) jdk_42_method_3_code 2 none ws (⟨3, 1, 9, 52⟩ : Room) #[(.ref a), (.ref ca)] h0 (QNa2 Z a h0 n0) := by
  refine MetFree.of_bodySF (plainFor_of_name pnNa2) hisR ?_
  intro p e s m args below meth c s₁ Bd hml hP hK
  obtain ⟨rfl, hZ, hh⟩ := hP
  obtain ⟨hx, hby, hown, hnm, hlk, hret, X0, e0⟩ := own_st Bd "java/lang/String" rfl hh
  have N0 := Fr.nil n0
  show Go p e below s (⟨3, 1, 9, 52⟩ : Room).cells (⟨3, 1, 9, 52⟩ : Room).slots (QNa2 Z a h0 n0) (s₁.setTop (entryFrame m #[(.ref a), (.ref ca)] 2))
  rw [efNa2]
  obtain ⟨cl_q101, Ar_q101, q1_q101, S_q101, N_q101, H_q101, G_q101⟩ := id V0_ca
  obtain ⟨_, _, ⟨T102, L102, k102, n102⟩, -, X102, ⟨Lc102, hQ102, l102, y102, z102⟩, st102⟩ := X0.specialBack hx (y := (⟨"java/lang/String", "<init>", "([CIILjava/lang/Void;)V"⟩ : MethodName)) rfl hown (mvT hZ (own_w hw 11 rfl)) (mvT hZ (own_w hw 12 rfl)) (mvT hZ (own_w hw 14 rfl)) (by decide) (backOf (W := 0) (rmNb2 l Z a0 hw [] a ca kc_ca cs h0 n0 Z0 E0_a F0_a_coder F0_a_value V0_ca ne0_a_ca S0_COMPACT_STRINGS ge0_a hcs) hZ (own_w hw 14 rfl) (own_w hw 7 rfl) (by decide) (by decide)) (g := (mkF m 6 #[.val (.ref a), .val (.ref ca)] [.null, (.int 9), (.int 0), (.ref ca), (.ref a)])) rfl (by rw [hml]; rfl) (Steps.refl _) (a := a) (argsL := [(.ref ca), (.int 0), (.int 9), .null]) (rest := []) (lenOf pdNa2_0 rfl) rfl (by show 2 * 0 + _ ≤ _; exact Nat.le_of_eq rfl) (hb hby dNa0_6) (fun _ _ => ⟨rfl, e0, (by decide : 0 + 1 ≤ _), (by decide : 0 + 9 ≤ _)⟩)
  dsimp only [Pt.U, Pt.locs, Pt.cells, Pt.slots] at X102 l102 y102 z102 st102 hQ102
  subst l102 y102 z102
  obtain ⟨b101_103_102, k101_103_102, rfl, N102q, K102, g102_0, g102_1, g102_2, ge_b101_103_102, szc_b101_103_102, g102_3⟩ := hQ102
  have sz_b101_103_102 : h0.size ≤ b101_103_102 := Nat.le_trans (Keep.refl h0 [a]).1 szc_b101_103_102
  have Z103 := Nat.le_trans Z0 K102.1
  have K103 : Keep h0 T102.heap [a] := Keep.trans (Keep.refl h0 [a]) K102 (allS (Or.inl (by simp)) all0)
  have N102 := Fr.app N0 N102q
  refine Go.by (fun _ kont => XS.aloadN X0.here hx rfl (hb hby dNa0_0) rfl rfl (XS.aloadN X0.here hx rfl (hb hby dNa0_1) rfl rfl (XS.iconst X0.here hx rfl (hb hby dNa0_2) (XS.aloadN X0.here hx rfl (hb hby dNa0_3) rfl rfl (X0.arraylength hx (own_at e0 Ar_q101.1) (State.isArrayOf_alike hZ.alike Ar_q101.2.1) (g := (mkF m 4 #[.val (.ref a), .val (.ref ca)] [(.ref ca), (.int 0), (.ref ca), (.ref a)])) rfl rfl (hb hby dNa0_4) _ (own_fI (len_of S_q101 N_q101) (XS.aconstNull X0.here hx rfl (hb hby dNa0_5) (st102.trans kont)))))))) ?_
  show Go _ _ _ _ _ _ _ (T102.setTop (mkF m 9 #[.val (.ref a), .val (.ref ca)] []))
  refine Go.retV X102 hx hret hlk (hb hby dNa0_9) ?_ (by decide) (by decide)
  show QNa2 Z a h0 n0 none T102.heap _
  exact ⟨b101_103_102, k101_103_102, rfl, N102, K103, g102_0, g102_1, g102_2, ge_b101_103_102, sz_b101_103_102, g102_3⟩

theorem dEs_0 : decode jdk_42_method_66_code 0 = .ok (.aload_n 0, 1) := by decide +kernel
theorem dEs_1 : decode jdk_42_method_66_code 1 = .ok (.aload_n 1, 1) := by decide +kernel
theorem dEs_2 : decode jdk_42_method_66_code 2 = .ok (.if_acmp .ne 5, 3) := by decide +kernel
theorem dEs_5 : decode jdk_42_method_66_code 5 = .ok (.iconst 1, 1) := by decide +kernel
theorem dEs_6 : decode jdk_42_method_66_code 6 = .ok (.ireturn, 1) := by decide +kernel
theorem pnEs : plainName "java/lang/String" = true := by first | (simp [plainName, overriddenIn]; done) | decide +kernel
theorem efEs (m : MethodId) (a : Addr) : entryFrame m #[(.ref a), (.ref a)] 3 = mkF m 0 #[.val (.ref a), .val (.ref a), .unset] [] := by first | (simp [entryFrame, mkF, argsToLocals, Value.category]; done) | rfl
def QEs (Z : State)  (h0 : Heap) (n0 : Nat) (v : Option Value) (h : Heap) (L : List Loc) : Prop := (v = some (.int 1) ∧ Fr n0 L ∧ h = h0)
set_option maxRecDepth 65536 in
set_option maxHeartbeats 40000000 in
theorem rmEs (l : Launch) (Z : State) (a0 : Array Value) (hw : ∀ d ∈ tables_1, d.before a0 Z = true) (ws : List Jvm.Cond) (a : Addr) (h0 : Heap) (n0 : Nat) (Z0 : n0 ≤ h0.size) :
    Ct l Z (⟨"java/lang/String", "equals", "(Ljava/lang/Object;)Z"⟩ : MethodName) jdk_42_method_66_code 3 (some .boolean) ws (⟨0, 0, 0, 0⟩ : Room) #[(.ref a), (.ref a)] h0 (QEs Z  h0 n0) := by
  refine MetFree.of_bodySF (plainFor_of_name pnEs) hisR ?_
  intro p e s m args below meth c s₁ Bd hml hP hK
  obtain ⟨rfl, hZ, hh⟩ := hP
  obtain ⟨hx, hby, hown, hnm, hlk, hret, X0, e0⟩ := own_st Bd "java/lang/String" rfl hh
  have N0 := Fr.nil n0
  show Go p e below s (⟨0, 0, 0, 0⟩ : Room).cells (⟨0, 0, 0, 0⟩ : Room).slots (QEs Z  h0 n0) (s₁.setTop (entryFrame m #[(.ref a), (.ref a)] 3))
  rw [efEs]
  refine Go.by (fun _ kont => XS.aloadN X0.here hx rfl (hb hby dEs_0) rfl rfl (XS.aloadN X0.here hx rfl (hb hby dEs_1) rfl rfl kont)) ?_
  show Go _ _ _ _ _ _ _ (s₁.setTop (mkF m 2 #[.val (.ref a), .val (.ref a), .unset] [(.ref a), (.ref a)]))
  refine Go.by (fun _ kont => Jvm.RoadKit.acmp (g := (mkF m 2 #[.val (.ref a), .val (.ref a), .unset] [(.ref a), (.ref a)])) X0 hx rfl rfl rfl (pc0 := 2) (pc' := 5) (same := true) rfl (hb hby dEs_2) rfl (decide_eq_true rfl) (by decide) (by decide) kont) ?_
  show Go _ _ _ _ _ _ _ (s₁.setTop (mkF m 5 #[.val (.ref a), .val (.ref a), .unset] []))
  refine Go.by (fun _ kont => XS.iconst X0.here hx rfl (hb hby dEs_5) kont) ?_
  show Go _ _ _ _ _ _ _ (s₁.setTop (mkF m 6 #[.val (.ref a), .val (.ref a), .unset] [(.int 1)]))
  refine Go.retN X0 hx (t := .boolean) hret (by simp) hlk (hb hby dEs_6) ?_ (by decide) (by decide)
  show QEs Z  h0 n0 (some (.int (1 : Int32))) s₁.heap _
  rw [e0]
  exact ⟨rfl, N0, rfl⟩

theorem dQl00_0 : decode jdk_43_method_13_code 0 = .ok (.aload_n 0, 1) := by decide +kernel
theorem dQl00_1 : decode jdk_43_method_13_code 1 = .ok (.arraylength, 1) := by decide +kernel
theorem dQl00_2 : decode jdk_43_method_13_code 2 = .ok (.aload_n 1, 1) := by decide +kernel
theorem dQl00_3 : decode jdk_43_method_13_code 3 = .ok (.arraylength, 1) := by decide +kernel
theorem dQl00_4 : decode jdk_43_method_13_code 4 = .ok (.if_icmp .ne 30, 3) := by decide +kernel
theorem dQl00_7 : decode jdk_43_method_13_code 7 = .ok (.iconst 0, 1) := by decide +kernel
theorem dQl00_8 : decode jdk_43_method_13_code 8 = .ok (.istore_n 2, 1) := by decide +kernel
theorem dQl00_9 : decode jdk_43_method_13_code 9 = .ok (.iload_n 2, 1) := by decide +kernel
theorem dQl00_10 : decode jdk_43_method_13_code 10 = .ok (.aload_n 0, 1) := by decide +kernel
theorem dQl00_11 : decode jdk_43_method_13_code 11 = .ok (.arraylength, 1) := by decide +kernel
theorem dQl00_12 : decode jdk_43_method_13_code 12 = .ok (.if_icmp .ge 20, 3) := by decide +kernel
theorem dQl00_15 : decode jdk_43_method_13_code 15 = .ok (.aload_n 0, 1) := by decide +kernel
theorem dQl00_16 : decode jdk_43_method_13_code 16 = .ok (.iload_n 2, 1) := by decide +kernel
theorem dQl00_17 : decode jdk_43_method_13_code 17 = .ok (.baload, 1) := by decide +kernel
theorem dQl00_18 : decode jdk_43_method_13_code 18 = .ok (.aload_n 1, 1) := by decide +kernel
theorem dQl00_19 : decode jdk_43_method_13_code 19 = .ok (.iload_n 2, 1) := by decide +kernel
theorem dQl00_20 : decode jdk_43_method_13_code 20 = .ok (.baload, 1) := by decide +kernel
theorem dQl00_21 : decode jdk_43_method_13_code 21 = .ok (.if_icmp .eq 5, 3) := by decide +kernel
theorem dQl00_26 : decode jdk_43_method_13_code 26 = .ok (.iinc 2 1, 3) := by decide +kernel
theorem dQl00_29 : decode jdk_43_method_13_code 29 = .ok (.goto (-20), 3) := by decide +kernel
theorem dQl00_32 : decode jdk_43_method_13_code 32 = .ok (.iconst 1, 1) := by decide +kernel
theorem dQl00_33 : decode jdk_43_method_13_code 33 = .ok (.ireturn, 1) := by decide +kernel
theorem pnQl00 : plainName "java/lang/StringLatin1" = true := by first | (simp [plainName, overriddenIn]; done) | decide +kernel
theorem efQl00 (m : MethodId) (va : Addr) (vb : Addr) : entryFrame m #[(.ref va), (.ref vb)] 3 = mkF m 0 #[.val (.ref va), .val (.ref vb), .unset] [] := by first | (simp [entryFrame, mkF, argsToLocals, Value.category]; done) | rfl
def QQl00 (Z : State)  (h0 : Heap) (n0 : Nat) (v : Option Value) (h : Heap) (L : List Loc) : Prop := (v = some (.int 1) ∧ Fr n0 L ∧ h = h0)
set_option maxRecDepth 65536 in
set_option maxHeartbeats 40000000 in
theorem rmQl00 (l : Launch) (Z : State) (a0 : Array Value) (hw : ∀ d ∈ tables_1, d.before a0 Z = true) (ws : List Jvm.Cond) (va : Addr) (vb : Addr) (kc_va : ClassId) (kc_vb : ClassId) (h0 : Heap) (n0 : Nat) (Z0 : n0 ≤ h0.size) (V0_va : Arv Z h0 va kc_va .byte (6 : Int32) [(.int 110), (.int 111), (.int 114), (.int 109), (.int 97), (.int 108)] (.int 0)) (V0_vb : Arv Z h0 vb kc_vb .byte (6 : Int32) [(.int 110), (.int 111), (.int 114), (.int 109), (.int 97), (.int 108)] (.int 0)) :
    Ct l Z (⟨"java/lang/StringLatin1", "equals", "([B[B)Z"⟩ : MethodName) jdk_43_method_13_code 3 (some .boolean) ws (⟨0, 0, 0, 0⟩ : Room) #[(.ref va), (.ref vb)] h0 (QQl00 Z  h0 n0) := by
  refine MetFree.of_bodySF (plainFor_of_name pnQl00) hisR ?_
  intro p e s m args below meth c s₁ Bd hml hP hK
  obtain ⟨rfl, hZ, hh⟩ := hP
  obtain ⟨hx, hby, hown, hnm, hlk, hret, X0, e0⟩ := own_st Bd "java/lang/StringLatin1" rfl hh
  have N0 := Fr.nil n0
  show Go p e below s (⟨0, 0, 0, 0⟩ : Room).cells (⟨0, 0, 0, 0⟩ : Room).slots (QQl00 Z  h0 n0) (s₁.setTop (entryFrame m #[(.ref va), (.ref vb)] 3))
  rw [efQl00]
  obtain ⟨cl_q101, Ar_q101, q1_q101, S_q101, N_q101, H_q101, G_q101⟩ := id V0_va
  obtain ⟨cl_q102, Ar_q102, q1_q102, S_q102, N_q102, H_q102, G_q102⟩ := id V0_vb
  obtain ⟨cl_q103, Ar_q103, q1_q103, S_q103, N_q103, H_q103, G_q103⟩ := id V0_va
  obtain ⟨cl_q104, Ar_q104, q1_q104, S_q104, N_q104, H_q104, G_q104⟩ := id V0_va
  have hin_q104 := own_ib S_q104 (0 : Int32) (by decide)
  have hat_q104 : cl_q104.slots[((0 : Int32)).toNatClampNeg]? = some (.int 110) := Has.at H_q104 hin_q104 rfl
  obtain ⟨cl_q105, Ar_q105, q1_q105, S_q105, N_q105, H_q105, G_q105⟩ := id V0_vb
  have hin_q105 := own_ib S_q105 (0 : Int32) (by decide)
  have hat_q105 : cl_q105.slots[((0 : Int32)).toNatClampNeg]? = some (.int 110) := Has.at H_q105 hin_q105 rfl
  obtain ⟨cl_q106, Ar_q106, q1_q106, S_q106, N_q106, H_q106, G_q106⟩ := id V0_va
  obtain ⟨cl_q107, Ar_q107, q1_q107, S_q107, N_q107, H_q107, G_q107⟩ := id V0_va
  have hin_q107 := own_ib S_q107 (1 : Int32) (by decide)
  have hat_q107 : cl_q107.slots[((1 : Int32)).toNatClampNeg]? = some (.int 111) := Has.at H_q107 hin_q107 rfl
  obtain ⟨cl_q108, Ar_q108, q1_q108, S_q108, N_q108, H_q108, G_q108⟩ := id V0_vb
  have hin_q108 := own_ib S_q108 (1 : Int32) (by decide)
  have hat_q108 : cl_q108.slots[((1 : Int32)).toNatClampNeg]? = some (.int 111) := Has.at H_q108 hin_q108 rfl
  obtain ⟨cl_q109, Ar_q109, q1_q109, S_q109, N_q109, H_q109, G_q109⟩ := id V0_va
  obtain ⟨cl_q110, Ar_q110, q1_q110, S_q110, N_q110, H_q110, G_q110⟩ := id V0_va
  have hin_q110 := own_ib S_q110 (2 : Int32) (by decide)
  have hat_q110 : cl_q110.slots[((2 : Int32)).toNatClampNeg]? = some (.int 114) := Has.at H_q110 hin_q110 rfl
  obtain ⟨cl_q111, Ar_q111, q1_q111, S_q111, N_q111, H_q111, G_q111⟩ := id V0_vb
  have hin_q111 := own_ib S_q111 (2 : Int32) (by decide)
  have hat_q111 : cl_q111.slots[((2 : Int32)).toNatClampNeg]? = some (.int 114) := Has.at H_q111 hin_q111 rfl
  obtain ⟨cl_q112, Ar_q112, q1_q112, S_q112, N_q112, H_q112, G_q112⟩ := id V0_va
  obtain ⟨cl_q113, Ar_q113, q1_q113, S_q113, N_q113, H_q113, G_q113⟩ := id V0_va
  have hin_q113 := own_ib S_q113 (3 : Int32) (by decide)
  have hat_q113 : cl_q113.slots[((3 : Int32)).toNatClampNeg]? = some (.int 109) := Has.at H_q113 hin_q113 rfl
  refine Go.by (fun _ kont => XS.aloadN X0.here hx rfl (hb hby dQl00_0) rfl rfl (X0.arraylength hx (own_at e0 Ar_q101.1) (State.isArrayOf_alike hZ.alike Ar_q101.2.1) (g := (mkF m 1 #[.val (.ref va), .val (.ref vb), .unset] [(.ref va)])) rfl rfl (hb hby dQl00_1) _ (own_fI (len_of S_q101 N_q101) (XS.aloadN X0.here hx rfl (hb hby dQl00_2) rfl rfl (X0.arraylength hx (own_at e0 Ar_q102.1) (State.isArrayOf_alike hZ.alike Ar_q102.2.1) (g := (mkF m 3 #[.val (.ref va), .val (.ref vb), .unset] [(.ref vb), (.int 6)])) rfl rfl (hb hby dQl00_3) _ (own_fI (len_of S_q102 N_q102) (XS.icmpNo X0.here hx rfl (hb hby dQl00_4) rfl (by decide) (XS.iconst X0.here hx rfl (hb hby dQl00_7) (XS.istoreN X0.here hx rfl (hb hby dQl00_8) rfl (l' := #[.val (.ref va), .val (.ref vb), .val (.int 0)]) rfl (XS.iloadN X0.here hx rfl (hb hby dQl00_9) rfl (XS.aloadN X0.here hx rfl (hb hby dQl00_10) rfl rfl (X0.arraylength hx (own_at e0 Ar_q103.1) (State.isArrayOf_alike hZ.alike Ar_q103.2.1) (g := (mkF m 11 #[.val (.ref va), .val (.ref vb), .val (.int 0)] [(.ref va), (.int 0)])) rfl rfl (hb hby dQl00_11) _ (own_fI (len_of S_q103 N_q103) (XS.icmpNo X0.here hx rfl (hb hby dQl00_12) rfl (by decide) (XS.aloadN X0.here hx rfl (hb hby dQl00_15) rfl rfl (XS.iloadN X0.here hx rfl (hb hby dQl00_16) rfl (X0.baloadBytes hx (j := (0 : Int32)) (v := (.int 110)) (own_at e0 Ar_q104.1) (State.isArrayOf_alike hZ.alike Ar_q104.2.1) Ar_q104.2.2 hin_q104 hat_q104 (g := (mkF m 17 #[.val (.ref va), .val (.ref vb), .val (.int 0)] [(.int 0), (.ref va)])) rfl rfl (hb hby dQl00_17) _ (XS.aloadN X0.here hx rfl (hb hby dQl00_18) rfl rfl (XS.iloadN X0.here hx rfl (hb hby dQl00_19) rfl (X0.baloadBytes hx (j := (0 : Int32)) (v := (.int 110)) (own_at e0 Ar_q105.1) (State.isArrayOf_alike hZ.alike Ar_q105.2.1) Ar_q105.2.2 hin_q105 hat_q105 (g := (mkF m 20 #[.val (.ref va), .val (.ref vb), .val (.int 0)] [(.int 0), (.ref vb), (.int 110)])) rfl rfl (hb hby dQl00_20) _ (XS.icmpYes X0.here hx rfl (pc0 := 21) (pc' := 26) rfl (hb hby dQl00_21) rfl (by decide) (by decide) (by decide) (XS.iinc X0.here hx rfl (hb hby dQl00_26) rfl (l' := #[.val (.ref va), .val (.ref vb), .val (.int 1)]) rfl (XS.goto X0.here hx rfl (pc0 := 29) (pc' := 9) rfl (hb hby dQl00_29) (by decide) (by decide) (XS.iloadN X0.here hx rfl (hb hby dQl00_9) rfl (XS.aloadN X0.here hx rfl (hb hby dQl00_10) rfl rfl (X0.arraylength hx (own_at e0 Ar_q106.1) (State.isArrayOf_alike hZ.alike Ar_q106.2.1) (g := (mkF m 11 #[.val (.ref va), .val (.ref vb), .val (.int 1)] [(.ref va), (.int 1)])) rfl rfl (hb hby dQl00_11) _ (own_fI (len_of S_q106 N_q106) (XS.icmpNo X0.here hx rfl (hb hby dQl00_12) rfl (by decide) (XS.aloadN X0.here hx rfl (hb hby dQl00_15) rfl rfl (XS.iloadN X0.here hx rfl (hb hby dQl00_16) rfl (X0.baloadBytes hx (j := (1 : Int32)) (v := (.int 111)) (own_at e0 Ar_q107.1) (State.isArrayOf_alike hZ.alike Ar_q107.2.1) Ar_q107.2.2 hin_q107 hat_q107 (g := (mkF m 17 #[.val (.ref va), .val (.ref vb), .val (.int 1)] [(.int 1), (.ref va)])) rfl rfl (hb hby dQl00_17) _ (XS.aloadN X0.here hx rfl (hb hby dQl00_18) rfl rfl (XS.iloadN X0.here hx rfl (hb hby dQl00_19) rfl (X0.baloadBytes hx (j := (1 : Int32)) (v := (.int 111)) (own_at e0 Ar_q108.1) (State.isArrayOf_alike hZ.alike Ar_q108.2.1) Ar_q108.2.2 hin_q108 hat_q108 (g := (mkF m 20 #[.val (.ref va), .val (.ref vb), .val (.int 1)] [(.int 1), (.ref vb), (.int 111)])) rfl rfl (hb hby dQl00_20) _ (XS.icmpYes X0.here hx rfl (pc0 := 21) (pc' := 26) rfl (hb hby dQl00_21) rfl (by decide) (by decide) (by decide) (XS.iinc X0.here hx rfl (hb hby dQl00_26) rfl (l' := #[.val (.ref va), .val (.ref vb), .val (.int 2)]) rfl (XS.goto X0.here hx rfl (pc0 := 29) (pc' := 9) rfl (hb hby dQl00_29) (by decide) (by decide) (XS.iloadN X0.here hx rfl (hb hby dQl00_9) rfl (XS.aloadN X0.here hx rfl (hb hby dQl00_10) rfl rfl (X0.arraylength hx (own_at e0 Ar_q109.1) (State.isArrayOf_alike hZ.alike Ar_q109.2.1) (g := (mkF m 11 #[.val (.ref va), .val (.ref vb), .val (.int 2)] [(.ref va), (.int 2)])) rfl rfl (hb hby dQl00_11) _ (own_fI (len_of S_q109 N_q109) (XS.icmpNo X0.here hx rfl (hb hby dQl00_12) rfl (by decide) (XS.aloadN X0.here hx rfl (hb hby dQl00_15) rfl rfl (XS.iloadN X0.here hx rfl (hb hby dQl00_16) rfl (X0.baloadBytes hx (j := (2 : Int32)) (v := (.int 114)) (own_at e0 Ar_q110.1) (State.isArrayOf_alike hZ.alike Ar_q110.2.1) Ar_q110.2.2 hin_q110 hat_q110 (g := (mkF m 17 #[.val (.ref va), .val (.ref vb), .val (.int 2)] [(.int 2), (.ref va)])) rfl rfl (hb hby dQl00_17) _ (XS.aloadN X0.here hx rfl (hb hby dQl00_18) rfl rfl (XS.iloadN X0.here hx rfl (hb hby dQl00_19) rfl (X0.baloadBytes hx (j := (2 : Int32)) (v := (.int 114)) (own_at e0 Ar_q111.1) (State.isArrayOf_alike hZ.alike Ar_q111.2.1) Ar_q111.2.2 hin_q111 hat_q111 (g := (mkF m 20 #[.val (.ref va), .val (.ref vb), .val (.int 2)] [(.int 2), (.ref vb), (.int 114)])) rfl rfl (hb hby dQl00_20) _ (XS.icmpYes X0.here hx rfl (pc0 := 21) (pc' := 26) rfl (hb hby dQl00_21) rfl (by decide) (by decide) (by decide) (XS.iinc X0.here hx rfl (hb hby dQl00_26) rfl (l' := #[.val (.ref va), .val (.ref vb), .val (.int 3)]) rfl (XS.goto X0.here hx rfl (pc0 := 29) (pc' := 9) rfl (hb hby dQl00_29) (by decide) (by decide) (XS.iloadN X0.here hx rfl (hb hby dQl00_9) rfl (XS.aloadN X0.here hx rfl (hb hby dQl00_10) rfl rfl (X0.arraylength hx (own_at e0 Ar_q112.1) (State.isArrayOf_alike hZ.alike Ar_q112.2.1) (g := (mkF m 11 #[.val (.ref va), .val (.ref vb), .val (.int 3)] [(.ref va), (.int 3)])) rfl rfl (hb hby dQl00_11) _ (own_fI (len_of S_q112 N_q112) (XS.icmpNo X0.here hx rfl (hb hby dQl00_12) rfl (by decide) (XS.aloadN X0.here hx rfl (hb hby dQl00_15) rfl rfl (XS.iloadN X0.here hx rfl (hb hby dQl00_16) rfl (X0.baloadBytes hx (j := (3 : Int32)) (v := (.int 109)) (own_at e0 Ar_q113.1) (State.isArrayOf_alike hZ.alike Ar_q113.2.1) Ar_q113.2.2 hin_q113 hat_q113 (g := (mkF m 17 #[.val (.ref va), .val (.ref vb), .val (.int 3)] [(.int 3), (.ref va)])) rfl rfl (hb hby dQl00_17) _ (XS.aloadN X0.here hx rfl (hb hby dQl00_18) rfl rfl kont)))))))))))))))))))))))))))))))))))))))))))))))))))))))))))) ?_
  show Go _ _ _ _ _ _ _ (s₁.setTop (mkF m 19 #[.val (.ref va), .val (.ref vb), .val (.int 3)] [(.ref vb), (.int 109)]))
  obtain ⟨cl_q114, Ar_q114, q1_q114, S_q114, N_q114, H_q114, G_q114⟩ := id V0_vb
  have hin_q114 := own_ib S_q114 (3 : Int32) (by decide)
  have hat_q114 : cl_q114.slots[((3 : Int32)).toNatClampNeg]? = some (.int 109) := Has.at H_q114 hin_q114 rfl
  obtain ⟨cl_q115, Ar_q115, q1_q115, S_q115, N_q115, H_q115, G_q115⟩ := id V0_va
  obtain ⟨cl_q116, Ar_q116, q1_q116, S_q116, N_q116, H_q116, G_q116⟩ := id V0_va
  have hin_q116 := own_ib S_q116 (4 : Int32) (by decide)
  have hat_q116 : cl_q116.slots[((4 : Int32)).toNatClampNeg]? = some (.int 97) := Has.at H_q116 hin_q116 rfl
  obtain ⟨cl_q117, Ar_q117, q1_q117, S_q117, N_q117, H_q117, G_q117⟩ := id V0_vb
  have hin_q117 := own_ib S_q117 (4 : Int32) (by decide)
  have hat_q117 : cl_q117.slots[((4 : Int32)).toNatClampNeg]? = some (.int 97) := Has.at H_q117 hin_q117 rfl
  obtain ⟨cl_q118, Ar_q118, q1_q118, S_q118, N_q118, H_q118, G_q118⟩ := id V0_va
  obtain ⟨cl_q119, Ar_q119, q1_q119, S_q119, N_q119, H_q119, G_q119⟩ := id V0_va
  have hin_q119 := own_ib S_q119 (5 : Int32) (by decide)
  have hat_q119 : cl_q119.slots[((5 : Int32)).toNatClampNeg]? = some (.int 108) := Has.at H_q119 hin_q119 rfl
  obtain ⟨cl_q120, Ar_q120, q1_q120, S_q120, N_q120, H_q120, G_q120⟩ := id V0_vb
  have hin_q120 := own_ib S_q120 (5 : Int32) (by decide)
  have hat_q120 : cl_q120.slots[((5 : Int32)).toNatClampNeg]? = some (.int 108) := Has.at H_q120 hin_q120 rfl
  obtain ⟨cl_q121, Ar_q121, q1_q121, S_q121, N_q121, H_q121, G_q121⟩ := id V0_va
  refine Go.by (fun _ kont => XS.iloadN X0.here hx rfl (hb hby dQl00_19) rfl (X0.baloadBytes hx (j := (3 : Int32)) (v := (.int 109)) (own_at e0 Ar_q114.1) (State.isArrayOf_alike hZ.alike Ar_q114.2.1) Ar_q114.2.2 hin_q114 hat_q114 (g := (mkF m 20 #[.val (.ref va), .val (.ref vb), .val (.int 3)] [(.int 3), (.ref vb), (.int 109)])) rfl rfl (hb hby dQl00_20) _ (XS.icmpYes X0.here hx rfl (pc0 := 21) (pc' := 26) rfl (hb hby dQl00_21) rfl (by decide) (by decide) (by decide) (XS.iinc X0.here hx rfl (hb hby dQl00_26) rfl (l' := #[.val (.ref va), .val (.ref vb), .val (.int 4)]) rfl (XS.goto X0.here hx rfl (pc0 := 29) (pc' := 9) rfl (hb hby dQl00_29) (by decide) (by decide) (XS.iloadN X0.here hx rfl (hb hby dQl00_9) rfl (XS.aloadN X0.here hx rfl (hb hby dQl00_10) rfl rfl (X0.arraylength hx (own_at e0 Ar_q115.1) (State.isArrayOf_alike hZ.alike Ar_q115.2.1) (g := (mkF m 11 #[.val (.ref va), .val (.ref vb), .val (.int 4)] [(.ref va), (.int 4)])) rfl rfl (hb hby dQl00_11) _ (own_fI (len_of S_q115 N_q115) (XS.icmpNo X0.here hx rfl (hb hby dQl00_12) rfl (by decide) (XS.aloadN X0.here hx rfl (hb hby dQl00_15) rfl rfl (XS.iloadN X0.here hx rfl (hb hby dQl00_16) rfl (X0.baloadBytes hx (j := (4 : Int32)) (v := (.int 97)) (own_at e0 Ar_q116.1) (State.isArrayOf_alike hZ.alike Ar_q116.2.1) Ar_q116.2.2 hin_q116 hat_q116 (g := (mkF m 17 #[.val (.ref va), .val (.ref vb), .val (.int 4)] [(.int 4), (.ref va)])) rfl rfl (hb hby dQl00_17) _ (XS.aloadN X0.here hx rfl (hb hby dQl00_18) rfl rfl (XS.iloadN X0.here hx rfl (hb hby dQl00_19) rfl (X0.baloadBytes hx (j := (4 : Int32)) (v := (.int 97)) (own_at e0 Ar_q117.1) (State.isArrayOf_alike hZ.alike Ar_q117.2.1) Ar_q117.2.2 hin_q117 hat_q117 (g := (mkF m 20 #[.val (.ref va), .val (.ref vb), .val (.int 4)] [(.int 4), (.ref vb), (.int 97)])) rfl rfl (hb hby dQl00_20) _ (XS.icmpYes X0.here hx rfl (pc0 := 21) (pc' := 26) rfl (hb hby dQl00_21) rfl (by decide) (by decide) (by decide) (XS.iinc X0.here hx rfl (hb hby dQl00_26) rfl (l' := #[.val (.ref va), .val (.ref vb), .val (.int 5)]) rfl (XS.goto X0.here hx rfl (pc0 := 29) (pc' := 9) rfl (hb hby dQl00_29) (by decide) (by decide) (XS.iloadN X0.here hx rfl (hb hby dQl00_9) rfl (XS.aloadN X0.here hx rfl (hb hby dQl00_10) rfl rfl (X0.arraylength hx (own_at e0 Ar_q118.1) (State.isArrayOf_alike hZ.alike Ar_q118.2.1) (g := (mkF m 11 #[.val (.ref va), .val (.ref vb), .val (.int 5)] [(.ref va), (.int 5)])) rfl rfl (hb hby dQl00_11) _ (own_fI (len_of S_q118 N_q118) (XS.icmpNo X0.here hx rfl (hb hby dQl00_12) rfl (by decide) (XS.aloadN X0.here hx rfl (hb hby dQl00_15) rfl rfl (XS.iloadN X0.here hx rfl (hb hby dQl00_16) rfl (X0.baloadBytes hx (j := (5 : Int32)) (v := (.int 108)) (own_at e0 Ar_q119.1) (State.isArrayOf_alike hZ.alike Ar_q119.2.1) Ar_q119.2.2 hin_q119 hat_q119 (g := (mkF m 17 #[.val (.ref va), .val (.ref vb), .val (.int 5)] [(.int 5), (.ref va)])) rfl rfl (hb hby dQl00_17) _ (XS.aloadN X0.here hx rfl (hb hby dQl00_18) rfl rfl (XS.iloadN X0.here hx rfl (hb hby dQl00_19) rfl (X0.baloadBytes hx (j := (5 : Int32)) (v := (.int 108)) (own_at e0 Ar_q120.1) (State.isArrayOf_alike hZ.alike Ar_q120.2.1) Ar_q120.2.2 hin_q120 hat_q120 (g := (mkF m 20 #[.val (.ref va), .val (.ref vb), .val (.int 5)] [(.int 5), (.ref vb), (.int 108)])) rfl rfl (hb hby dQl00_20) _ (XS.icmpYes X0.here hx rfl (pc0 := 21) (pc' := 26) rfl (hb hby dQl00_21) rfl (by decide) (by decide) (by decide) (XS.iinc X0.here hx rfl (hb hby dQl00_26) rfl (l' := #[.val (.ref va), .val (.ref vb), .val (.int 6)]) rfl (XS.goto X0.here hx rfl (pc0 := 29) (pc' := 9) rfl (hb hby dQl00_29) (by decide) (by decide) (XS.iloadN X0.here hx rfl (hb hby dQl00_9) rfl (XS.aloadN X0.here hx rfl (hb hby dQl00_10) rfl rfl (X0.arraylength hx (own_at e0 Ar_q121.1) (State.isArrayOf_alike hZ.alike Ar_q121.2.1) (g := (mkF m 11 #[.val (.ref va), .val (.ref vb), .val (.int 6)] [(.ref va), (.int 6)])) rfl rfl (hb hby dQl00_11) _ (own_fI (len_of S_q121 N_q121) (XS.icmpYes X0.here hx rfl (pc0 := 12) (pc' := 32) rfl (hb hby dQl00_12) rfl (by decide) (by decide) (by decide) (XS.iconst X0.here hx rfl (hb hby dQl00_32) kont))))))))))))))))))))))))))))))))))))))) ?_
  show Go _ _ _ _ _ _ _ (s₁.setTop (mkF m 33 #[.val (.ref va), .val (.ref vb), .val (.int 6)] [(.int 1)]))
  refine Go.retN X0 hx (t := .boolean) hret (by simp) hlk (hb hby dQl00_33) ?_ (by decide) (by decide)
  show QQl00 Z  h0 n0 (some (.int (1 : Int32))) s₁.heap _
  rw [e0]
  exact ⟨rfl, N0, rfl⟩

theorem dEq00_7 : decode jdk_42_method_66_code 7 = .ok (.aload_n 1, 1) := by decide +kernel
theorem dEq00_8 : decode jdk_42_method_66_code 8 = .ok (.instanceof 10, 3) := by decide +kernel
theorem dEq00_11 : decode jdk_42_method_66_code 11 = .ok (.ifCond .eq 43, 3) := by decide +kernel
theorem dEq00_14 : decode jdk_42_method_66_code 14 = .ok (.aload_n 1, 1) := by decide +kernel
theorem dEq00_15 : decode jdk_42_method_66_code 15 = .ok (.checkcast 10, 3) := by decide +kernel
theorem dEq00_18 : decode jdk_42_method_66_code 18 = .ok (.astore_n 2, 1) := by decide +kernel
theorem dEq00_19 : decode jdk_42_method_66_code 19 = .ok (.getstatic 38, 3) := by decide +kernel
theorem dEq00_22 : decode jdk_42_method_66_code 22 = .ok (.ifCond .eq 14, 3) := by decide +kernel
theorem dEq00_25 : decode jdk_42_method_66_code 25 = .ok (.aload_n 0, 1) := by decide +kernel
theorem dEq00_26 : decode jdk_42_method_66_code 26 = .ok (.getfield 15, 3) := by decide +kernel
theorem dEq00_29 : decode jdk_42_method_66_code 29 = .ok (.aload_n 2, 1) := by decide +kernel
theorem dEq00_30 : decode jdk_42_method_66_code 30 = .ok (.getfield 15, 3) := by decide +kernel
theorem dEq00_33 : decode jdk_42_method_66_code 33 = .ok (.if_icmp .ne 21, 3) := by decide +kernel
theorem dEq00_36 : decode jdk_42_method_66_code 36 = .ok (.aload_n 0, 1) := by decide +kernel
theorem dEq00_37 : decode jdk_42_method_66_code 37 = .ok (.getfield 9, 3) := by decide +kernel
theorem dEq00_40 : decode jdk_42_method_66_code 40 = .ok (.aload_n 2, 1) := by decide +kernel
theorem dEq00_41 : decode jdk_42_method_66_code 41 = .ok (.getfield 9, 3) := by decide +kernel
theorem dEq00_44 : decode jdk_42_method_66_code 44 = .ok (.invokestatic 541, 3) := by decide +kernel
theorem dEq00_47 : decode jdk_42_method_66_code 47 = .ok (.ifCond .eq 7, 3) := by decide +kernel
theorem dEq00_50 : decode jdk_42_method_66_code 50 = .ok (.iconst 1, 1) := by decide +kernel
theorem dEq00_51 : decode jdk_42_method_66_code 51 = .ok (.goto 4, 3) := by decide +kernel
theorem dEq00_55 : decode jdk_42_method_66_code 55 = .ok (.ireturn, 1) := by decide +kernel
theorem pdEq00_0 : parseMethodDescriptor "([B[B)Z" = some ⟨[(.array .byte), (.array .byte)], some .boolean⟩ := by decide +kernel
theorem pnEq00 : plainName "java/lang/String" = true := by first | (simp [plainName, overriddenIn]; done) | decide +kernel
theorem efEq00 (m : MethodId) (a : Addr) (b : Addr) : entryFrame m #[(.ref a), (.ref b)] 3 = mkF m 0 #[.val (.ref a), .val (.ref b), .unset] [] := by first | (simp [entryFrame, mkF, argsToLocals, Value.category]; done) | rfl
def QEq00 (Z : State)  (h0 : Heap) (n0 : Nat) (v : Option Value) (h : Heap) (L : List Loc) : Prop := (v = some (.int 1) ∧ Fr n0 L ∧ h = h0)
set_option maxRecDepth 65536 in
set_option maxHeartbeats 40000000 in
theorem rmEq00 (l : Launch) (Z : State) (a0 : Array Value) (hw : ∀ d ∈ tables_1, d.before a0 Z = true) (ws : List Jvm.Cond) (a : Addr) (b : Addr) (va : Addr) (vb : Addr) (kc_va : ClassId) (kc_vb : ClassId) (cs : Int32) (h0 : Heap) (n0 : Nat) (Z0 : n0 ≤ h0.size) (E0_a : Exa Z h0 a "java/lang/String") (F0_a_coder : Fld Z h0 a "java/lang/String" "coder" "B" (.int 0)) (F0_a_value : Fld Z h0 a "java/lang/String" "value" "[B" (.ref va)) (E0_b : Exa Z h0 b "java/lang/String") (F0_b_coder : Fld Z h0 b "java/lang/String" "coder" "B" (.int 0)) (F0_b_value : Fld Z h0 b "java/lang/String" "value" "[B" (.ref vb)) (V0_va : Arv Z h0 va kc_va .byte (6 : Int32) [(.int 110), (.int 111), (.int 114), (.int 109), (.int 97), (.int 108)] (.int 0)) (V0_vb : Arv Z h0 vb kc_vb .byte (6 : Int32) [(.int 110), (.int 111), (.int 114), (.int 109), (.int 97), (.int 108)] (.int 0)) (ne0_a_b : a ≠ b) (S0_COMPACT_STRINGS : Sta Z h0 "java/lang/String" "COMPACT_STRINGS" "Z" (.int cs)) (hcs : ¬ (cs = (0 : Int32))) :
    Ct l Z (⟨"java/lang/String", "equals", "(Ljava/lang/Object;)Z"⟩ : MethodName) jdk_42_method_66_code 3 (some .boolean) ws (⟨1, 0, 0, 14⟩ : Room) #[(.ref a), (.ref b)] h0 (QEq00 Z  h0 n0) := by
  refine MetFree.of_bodySF (plainFor_of_name pnEq00) hisR ?_
  intro p e s m args below meth c s₁ Bd hml hP hK
  obtain ⟨rfl, hZ, hh⟩ := hP
  obtain ⟨hx, hby, hown, hnm, hlk, hret, X0, e0⟩ := own_st Bd "java/lang/String" rfl hh
  have N0 := Fr.nil n0
  show Go p e below s (⟨1, 0, 0, 14⟩ : Room).cells (⟨1, 0, 0, 14⟩ : Room).slots (QEq00 Z  h0 n0) (s₁.setTop (entryFrame m #[(.ref a), (.ref b)] 3))
  rw [efEq00]
  refine Go.by (fun _ kont => XS.aloadN X0.here hx rfl (hb hby dEs_0) rfl rfl (XS.aloadN X0.here hx rfl (hb hby dEs_1) rfl rfl kont)) ?_
  show Go _ _ _ _ _ _ _ (s₁.setTop (mkF m 2 #[.val (.ref a), .val (.ref b), .unset] [(.ref b), (.ref a)]))
  refine Go.by (fun _ kont => Jvm.RoadKit.acmp (g := (mkF m 2 #[.val (.ref a), .val (.ref b), .unset] [(.ref b), (.ref a)])) X0 hx rfl rfl rfl (pc0 := 2) (pc' := 7) (same := false) rfl (hb hby dEs_2) rfl (decide_eq_false fun q => ne0_a_b (Value.ref.inj q)) (by decide) (by decide) kont) ?_
  show Go _ _ _ _ _ _ _ (s₁.setTop (mkF m 7 #[.val (.ref a), .val (.ref b), .unset] []))
  obtain ⟨T101, X101, e101, st101⟩ := instY X0 hx hZ hown (own_w hw 95 rfl) e0 (Ins.self E0_b) (g := (mkF m 8 #[.val (.ref a), .val (.ref b), .unset] [(.ref b)])) rfl rfl (hb hby dEq00_8)
  obtain ⟨T102, X102, e102, st102⟩ := castY X101 hx hZ hown (own_w hw 95 rfl) e101 (Ins.self E0_b) (g := (mkF m 15 #[.val (.ref a), .val (.ref b), .unset] [(.ref b)])) rfl rfl (hb hby dEq00_15)
  obtain ⟨T103, X103, e103, st103⟩ := getS2 X102 hx hZ hown (host := "") (Or.inl (own_w hw 18 rfl)) Via.refl e102 S0_COMPACT_STRINGS (g := (mkF m 19 #[.val (.ref a), .val (.ref b), .val (.ref b)] [])) rfl (hb hby dEq00_19)
  refine Go.by (fun _ kont => XS.aloadN X0.here hx rfl (hb hby dEq00_7) rfl rfl (st101 _ (XS.ifNo X101.here hx rfl (hb hby dEq00_11) rfl (by decide) (XS.aloadN X101.here hx rfl (hb hby dEq00_14) rfl rfl (st102 _ (XS.astoreN X102.here hx rfl (hb hby dEq00_18) rfl rfl (l' := #[.val (.ref a), .val (.ref b), .val (.ref b)]) rfl (st103 _ kont))))))) ?_
  show Go _ _ _ _ _ _ _ (T103.setTop (mkF m 22 #[.val (.ref a), .val (.ref b), .val (.ref b)] [(.int cs)]))
  refine Go.by (fun _ kont => XS.ifNo X103.here hx rfl (hb hby dEq00_22) rfl ((if0 _ _).trans (feq hcs).1) kont) ?_
  show Go _ _ _ _ _ _ _ (T103.setTop (mkF m 25 #[.val (.ref a), .val (.ref b), .val (.ref b)] []))
  obtain ⟨T104, X104, e104, st104⟩ := getF X103 hx hZ hown (host := "") (Or.inl (own_w hw 30 rfl)) Via.refl e103 F0_a_coder (g := (mkF m 26 #[.val (.ref a), .val (.ref b), .val (.ref b)] [(.ref a)])) rfl rfl (hb hby dEq00_26)
  obtain ⟨T105, X105, e105, st105⟩ := getF X104 hx hZ hown (host := "") (Or.inl (own_w hw 30 rfl)) Via.refl e104 F0_b_coder (g := (mkF m 30 #[.val (.ref a), .val (.ref b), .val (.ref b)] [(.ref b), (.int 0)])) rfl rfl (hb hby dEq00_30)
  obtain ⟨T106, X106, e106, st106⟩ := getF X105 hx hZ hown (host := "") (Or.inl (own_w hw 32 rfl)) Via.refl e105 F0_a_value (g := (mkF m 37 #[.val (.ref a), .val (.ref b), .val (.ref b)] [(.ref a)])) rfl rfl (hb hby dEq00_37)
  obtain ⟨T107, X107, e107, st107⟩ := getF X106 hx hZ hown (host := "") (Or.inl (own_w hw 32 rfl)) Via.refl e106 F0_b_value (g := (mkF m 41 #[.val (.ref a), .val (.ref b), .val (.ref b)] [(.ref b), (.ref va)])) rfl rfl (hb hby dEq00_41)
  obtain ⟨_, _, ⟨T108, L108, k108, n108⟩, -, X108, ⟨Lc108, hQ108, l108, y108, z108⟩, st108⟩ := Jvm.LawKit.callS X107 hx (y := (⟨"java/lang/StringLatin1", "equals", "([B[B)Z"⟩ : MethodName)) hown (mvT hZ (own_w hw 96 rfl)) (mvT hZ (own_w hw 97 rfl)) (mvT hZ (own_w hw 98 rfl)) (mvT hZ (own_w hw 99 rfl)) (by decide) (backOf (W := 0) (rmQl00 l Z a0 hw [] va vb kc_va kc_vb h0 n0 Z0 V0_va V0_vb) hZ (own_w hw 99 rfl) (own_w hw 98 rfl) (by decide) (by decide)) (g := (mkF m 44 #[.val (.ref a), .val (.ref b), .val (.ref b)] [(.ref vb), (.ref va)])) rfl (by rw [hml]; rfl) (argsL := [(.ref va), (.ref vb)]) (rest := []) (lenOf pdEq00_0 rfl) rfl (by show 2 * 0 + _ ≤ _; exact Nat.le_of_eq rfl) (hb hby dEq00_44) (fun _ _ => ⟨rfl, e107, (by decide : 0 + 0 ≤ _), (by decide : 0 + 0 ≤ _)⟩)
  dsimp only [Pt.U, Pt.locs, Pt.cells, Pt.slots] at X108 l108 y108 z108 st108 hQ108
  subst l108 y108 z108
  obtain ⟨rfl, N108q, eh108⟩ := hQ108
  have N108 := Fr.app N0 N108q
  refine Go.by (fun _ kont => XS.aloadN X103.here hx rfl (hb hby dEq00_25) rfl rfl (st104 _ (XS.aloadN X104.here hx rfl (hb hby dEq00_29) rfl rfl (st105 _ (XS.icmpNo X105.here hx rfl (hb hby dEq00_33) rfl (by decide) (XS.aloadN X105.here hx rfl (hb hby dEq00_36) rfl rfl (st106 _ (XS.aloadN X106.here hx rfl (hb hby dEq00_40) rfl rfl (st107 _ (st108 _ (XS.ifNo X108.here hx rfl (hb hby dEq00_47) rfl (by decide) (XS.iconst X108.here hx rfl (hb hby dEq00_50) (XS.goto X108.here hx rfl (pc0 := 51) (pc' := 55) rfl (hb hby dEq00_51) (by decide) (by decide) kont))))))))))))) ?_
  show Go _ _ _ _ _ _ _ (T108.setTop (mkF m 55 #[.val (.ref a), .val (.ref b), .val (.ref b)] [(.int 1)]))
  refine Go.retN X108 hx (t := .boolean) hret (by simp) hlk (hb hby dEq00_55) ?_ (by decide) (by decide)
  show QEq00 Z  h0 n0 (some (.int (1 : Int32))) T108.heap _
  rw [eh108]
  exact ⟨rfl, N108, rfl⟩

theorem pnQl11 : plainName "java/lang/StringLatin1" = true := by first | (simp [plainName, overriddenIn]; done) | decide +kernel
theorem efQl11 (m : MethodId) (va : Addr) (vb : Addr) : entryFrame m #[(.ref va), (.ref vb)] 3 = mkF m 0 #[.val (.ref va), .val (.ref vb), .unset] [] := by first | (simp [entryFrame, mkF, argsToLocals, Value.category]; done) | rfl
def QQl11 (Z : State)  (h0 : Heap) (n0 : Nat) (v : Option Value) (h : Heap) (L : List Loc) : Prop := (v = some (.int 1) ∧ Fr n0 L ∧ h = h0)
set_option maxRecDepth 65536 in
set_option maxHeartbeats 40000000 in
theorem rmQl11 (l : Launch) (Z : State) (a0 : Array Value) (hw : ∀ d ∈ tables_1, d.before a0 Z = true) (ws : List Jvm.Cond) (va : Addr) (vb : Addr) (kc_va : ClassId) (kc_vb : ClassId) (h0 : Heap) (n0 : Nat) (Z0 : n0 ≤ h0.size) (V0_va : Arv Z h0 va kc_va .byte (11 : Int32) [(.int 110), (.int 111), (.int 95), (.int 110), (.int 101), (.int 119), (.int 95), (.int 111), (.int 112), (.int 101), (.int 110)] (.int 0)) (V0_vb : Arv Z h0 vb kc_vb .byte (11 : Int32) [(.int 110), (.int 111), (.int 95), (.int 110), (.int 101), (.int 119), (.int 95), (.int 111), (.int 112), (.int 101), (.int 110)] (.int 0)) :
    Ct l Z (⟨"java/lang/StringLatin1", "equals", "([B[B)Z"⟩ : MethodName) jdk_43_method_13_code 3 (some .boolean) ws (⟨0, 0, 0, 0⟩ : Room) #[(.ref va), (.ref vb)] h0 (QQl11 Z  h0 n0) := by
  refine MetFree.of_bodySF (plainFor_of_name pnQl11) hisR ?_
  intro p e s m args below meth c s₁ Bd hml hP hK
  obtain ⟨rfl, hZ, hh⟩ := hP
  obtain ⟨hx, hby, hown, hnm, hlk, hret, X0, e0⟩ := own_st Bd "java/lang/StringLatin1" rfl hh
  have N0 := Fr.nil n0
  show Go p e below s (⟨0, 0, 0, 0⟩ : Room).cells (⟨0, 0, 0, 0⟩ : Room).slots (QQl11 Z  h0 n0) (s₁.setTop (entryFrame m #[(.ref va), (.ref vb)] 3))
  rw [efQl11]
  obtain ⟨cl_q101, Ar_q101, q1_q101, S_q101, N_q101, H_q101, G_q101⟩ := id V0_va
  obtain ⟨cl_q102, Ar_q102, q1_q102, S_q102, N_q102, H_q102, G_q102⟩ := id V0_vb
  obtain ⟨cl_q103, Ar_q103, q1_q103, S_q103, N_q103, H_q103, G_q103⟩ := id V0_va
  obtain ⟨cl_q104, Ar_q104, q1_q104, S_q104, N_q104, H_q104, G_q104⟩ := id V0_va
  have hin_q104 := own_ib S_q104 (0 : Int32) (by decide)
  have hat_q104 : cl_q104.slots[((0 : Int32)).toNatClampNeg]? = some (.int 110) := Has.at H_q104 hin_q104 rfl
  obtain ⟨cl_q105, Ar_q105, q1_q105, S_q105, N_q105, H_q105, G_q105⟩ := id V0_vb
  have hin_q105 := own_ib S_q105 (0 : Int32) (by decide)
  have hat_q105 : cl_q105.slots[((0 : Int32)).toNatClampNeg]? = some (.int 110) := Has.at H_q105 hin_q105 rfl
  obtain ⟨cl_q106, Ar_q106, q1_q106, S_q106, N_q106, H_q106, G_q106⟩ := id V0_va
  obtain ⟨cl_q107, Ar_q107, q1_q107, S_q107, N_q107, H_q107, G_q107⟩ := id V0_va
  have hin_q107 := own_ib S_q107 (1 : Int32) (by decide)
  have hat_q107 : cl_q107.slots[((1 : Int32)).toNatClampNeg]? = some (.int 111) := Has.at H_q107 hin_q107 rfl
  obtain ⟨cl_q108, Ar_q108, q1_q108, S_q108, N_q108, H_q108, G_q108⟩ := id V0_vb
  have hin_q108 := own_ib S_q108 (1 : Int32) (by decide)
  have hat_q108 : cl_q108.slots[((1 : Int32)).toNatClampNeg]? = some (.int 111) := Has.at H_q108 hin_q108 rfl
  obtain ⟨cl_q109, Ar_q109, q1_q109, S_q109, N_q109, H_q109, G_q109⟩ := id V0_va
  obtain ⟨cl_q110, Ar_q110, q1_q110, S_q110, N_q110, H_q110, G_q110⟩ := id V0_va
  have hin_q110 := own_ib S_q110 (2 : Int32) (by decide)
  have hat_q110 : cl_q110.slots[((2 : Int32)).toNatClampNeg]? = some (.int 95) := Has.at H_q110 hin_q110 rfl
  obtain ⟨cl_q111, Ar_q111, q1_q111, S_q111, N_q111, H_q111, G_q111⟩ := id V0_vb
  have hin_q111 := own_ib S_q111 (2 : Int32) (by decide)
  have hat_q111 : cl_q111.slots[((2 : Int32)).toNatClampNeg]? = some (.int 95) := Has.at H_q111 hin_q111 rfl
  obtain ⟨cl_q112, Ar_q112, q1_q112, S_q112, N_q112, H_q112, G_q112⟩ := id V0_va
  obtain ⟨cl_q113, Ar_q113, q1_q113, S_q113, N_q113, H_q113, G_q113⟩ := id V0_va
  have hin_q113 := own_ib S_q113 (3 : Int32) (by decide)
  have hat_q113 : cl_q113.slots[((3 : Int32)).toNatClampNeg]? = some (.int 110) := Has.at H_q113 hin_q113 rfl
  refine Go.by (fun _ kont => XS.aloadN X0.here hx rfl (hb hby dQl00_0) rfl rfl (X0.arraylength hx (own_at e0 Ar_q101.1) (State.isArrayOf_alike hZ.alike Ar_q101.2.1) (g := (mkF m 1 #[.val (.ref va), .val (.ref vb), .unset] [(.ref va)])) rfl rfl (hb hby dQl00_1) _ (own_fI (len_of S_q101 N_q101) (XS.aloadN X0.here hx rfl (hb hby dQl00_2) rfl rfl (X0.arraylength hx (own_at e0 Ar_q102.1) (State.isArrayOf_alike hZ.alike Ar_q102.2.1) (g := (mkF m 3 #[.val (.ref va), .val (.ref vb), .unset] [(.ref vb), (.int 11)])) rfl rfl (hb hby dQl00_3) _ (own_fI (len_of S_q102 N_q102) (XS.icmpNo X0.here hx rfl (hb hby dQl00_4) rfl (by decide) (XS.iconst X0.here hx rfl (hb hby dQl00_7) (XS.istoreN X0.here hx rfl (hb hby dQl00_8) rfl (l' := #[.val (.ref va), .val (.ref vb), .val (.int 0)]) rfl (XS.iloadN X0.here hx rfl (hb hby dQl00_9) rfl (XS.aloadN X0.here hx rfl (hb hby dQl00_10) rfl rfl (X0.arraylength hx (own_at e0 Ar_q103.1) (State.isArrayOf_alike hZ.alike Ar_q103.2.1) (g := (mkF m 11 #[.val (.ref va), .val (.ref vb), .val (.int 0)] [(.ref va), (.int 0)])) rfl rfl (hb hby dQl00_11) _ (own_fI (len_of S_q103 N_q103) (XS.icmpNo X0.here hx rfl (hb hby dQl00_12) rfl (by decide) (XS.aloadN X0.here hx rfl (hb hby dQl00_15) rfl rfl (XS.iloadN X0.here hx rfl (hb hby dQl00_16) rfl (X0.baloadBytes hx (j := (0 : Int32)) (v := (.int 110)) (own_at e0 Ar_q104.1) (State.isArrayOf_alike hZ.alike Ar_q104.2.1) Ar_q104.2.2 hin_q104 hat_q104 (g := (mkF m 17 #[.val (.ref va), .val (.ref vb), .val (.int 0)] [(.int 0), (.ref va)])) rfl rfl (hb hby dQl00_17) _ (XS.aloadN X0.here hx rfl (hb hby dQl00_18) rfl rfl (XS.iloadN X0.here hx rfl (hb hby dQl00_19) rfl (X0.baloadBytes hx (j := (0 : Int32)) (v := (.int 110)) (own_at e0 Ar_q105.1) (State.isArrayOf_alike hZ.alike Ar_q105.2.1) Ar_q105.2.2 hin_q105 hat_q105 (g := (mkF m 20 #[.val (.ref va), .val (.ref vb), .val (.int 0)] [(.int 0), (.ref vb), (.int 110)])) rfl rfl (hb hby dQl00_20) _ (XS.icmpYes X0.here hx rfl (pc0 := 21) (pc' := 26) rfl (hb hby dQl00_21) rfl (by decide) (by decide) (by decide) (XS.iinc X0.here hx rfl (hb hby dQl00_26) rfl (l' := #[.val (.ref va), .val (.ref vb), .val (.int 1)]) rfl (XS.goto X0.here hx rfl (pc0 := 29) (pc' := 9) rfl (hb hby dQl00_29) (by decide) (by decide) (XS.iloadN X0.here hx rfl (hb hby dQl00_9) rfl (XS.aloadN X0.here hx rfl (hb hby dQl00_10) rfl rfl (X0.arraylength hx (own_at e0 Ar_q106.1) (State.isArrayOf_alike hZ.alike Ar_q106.2.1) (g := (mkF m 11 #[.val (.ref va), .val (.ref vb), .val (.int 1)] [(.ref va), (.int 1)])) rfl rfl (hb hby dQl00_11) _ (own_fI (len_of S_q106 N_q106) (XS.icmpNo X0.here hx rfl (hb hby dQl00_12) rfl (by decide) (XS.aloadN X0.here hx rfl (hb hby dQl00_15) rfl rfl (XS.iloadN X0.here hx rfl (hb hby dQl00_16) rfl (X0.baloadBytes hx (j := (1 : Int32)) (v := (.int 111)) (own_at e0 Ar_q107.1) (State.isArrayOf_alike hZ.alike Ar_q107.2.1) Ar_q107.2.2 hin_q107 hat_q107 (g := (mkF m 17 #[.val (.ref va), .val (.ref vb), .val (.int 1)] [(.int 1), (.ref va)])) rfl rfl (hb hby dQl00_17) _ (XS.aloadN X0.here hx rfl (hb hby dQl00_18) rfl rfl (XS.iloadN X0.here hx rfl (hb hby dQl00_19) rfl (X0.baloadBytes hx (j := (1 : Int32)) (v := (.int 111)) (own_at e0 Ar_q108.1) (State.isArrayOf_alike hZ.alike Ar_q108.2.1) Ar_q108.2.2 hin_q108 hat_q108 (g := (mkF m 20 #[.val (.ref va), .val (.ref vb), .val (.int 1)] [(.int 1), (.ref vb), (.int 111)])) rfl rfl (hb hby dQl00_20) _ (XS.icmpYes X0.here hx rfl (pc0 := 21) (pc' := 26) rfl (hb hby dQl00_21) rfl (by decide) (by decide) (by decide) (XS.iinc X0.here hx rfl (hb hby dQl00_26) rfl (l' := #[.val (.ref va), .val (.ref vb), .val (.int 2)]) rfl (XS.goto X0.here hx rfl (pc0 := 29) (pc' := 9) rfl (hb hby dQl00_29) (by decide) (by decide) (XS.iloadN X0.here hx rfl (hb hby dQl00_9) rfl (XS.aloadN X0.here hx rfl (hb hby dQl00_10) rfl rfl (X0.arraylength hx (own_at e0 Ar_q109.1) (State.isArrayOf_alike hZ.alike Ar_q109.2.1) (g := (mkF m 11 #[.val (.ref va), .val (.ref vb), .val (.int 2)] [(.ref va), (.int 2)])) rfl rfl (hb hby dQl00_11) _ (own_fI (len_of S_q109 N_q109) (XS.icmpNo X0.here hx rfl (hb hby dQl00_12) rfl (by decide) (XS.aloadN X0.here hx rfl (hb hby dQl00_15) rfl rfl (XS.iloadN X0.here hx rfl (hb hby dQl00_16) rfl (X0.baloadBytes hx (j := (2 : Int32)) (v := (.int 95)) (own_at e0 Ar_q110.1) (State.isArrayOf_alike hZ.alike Ar_q110.2.1) Ar_q110.2.2 hin_q110 hat_q110 (g := (mkF m 17 #[.val (.ref va), .val (.ref vb), .val (.int 2)] [(.int 2), (.ref va)])) rfl rfl (hb hby dQl00_17) _ (XS.aloadN X0.here hx rfl (hb hby dQl00_18) rfl rfl (XS.iloadN X0.here hx rfl (hb hby dQl00_19) rfl (X0.baloadBytes hx (j := (2 : Int32)) (v := (.int 95)) (own_at e0 Ar_q111.1) (State.isArrayOf_alike hZ.alike Ar_q111.2.1) Ar_q111.2.2 hin_q111 hat_q111 (g := (mkF m 20 #[.val (.ref va), .val (.ref vb), .val (.int 2)] [(.int 2), (.ref vb), (.int 95)])) rfl rfl (hb hby dQl00_20) _ (XS.icmpYes X0.here hx rfl (pc0 := 21) (pc' := 26) rfl (hb hby dQl00_21) rfl (by decide) (by decide) (by decide) (XS.iinc X0.here hx rfl (hb hby dQl00_26) rfl (l' := #[.val (.ref va), .val (.ref vb), .val (.int 3)]) rfl (XS.goto X0.here hx rfl (pc0 := 29) (pc' := 9) rfl (hb hby dQl00_29) (by decide) (by decide) (XS.iloadN X0.here hx rfl (hb hby dQl00_9) rfl (XS.aloadN X0.here hx rfl (hb hby dQl00_10) rfl rfl (X0.arraylength hx (own_at e0 Ar_q112.1) (State.isArrayOf_alike hZ.alike Ar_q112.2.1) (g := (mkF m 11 #[.val (.ref va), .val (.ref vb), .val (.int 3)] [(.ref va), (.int 3)])) rfl rfl (hb hby dQl00_11) _ (own_fI (len_of S_q112 N_q112) (XS.icmpNo X0.here hx rfl (hb hby dQl00_12) rfl (by decide) (XS.aloadN X0.here hx rfl (hb hby dQl00_15) rfl rfl (XS.iloadN X0.here hx rfl (hb hby dQl00_16) rfl (X0.baloadBytes hx (j := (3 : Int32)) (v := (.int 110)) (own_at e0 Ar_q113.1) (State.isArrayOf_alike hZ.alike Ar_q113.2.1) Ar_q113.2.2 hin_q113 hat_q113 (g := (mkF m 17 #[.val (.ref va), .val (.ref vb), .val (.int 3)] [(.int 3), (.ref va)])) rfl rfl (hb hby dQl00_17) _ (XS.aloadN X0.here hx rfl (hb hby dQl00_18) rfl rfl kont)))))))))))))))))))))))))))))))))))))))))))))))))))))))))))) ?_
  show Go _ _ _ _ _ _ _ (s₁.setTop (mkF m 19 #[.val (.ref va), .val (.ref vb), .val (.int 3)] [(.ref vb), (.int 110)]))
  obtain ⟨cl_q114, Ar_q114, q1_q114, S_q114, N_q114, H_q114, G_q114⟩ := id V0_vb
  have hin_q114 := own_ib S_q114 (3 : Int32) (by decide)
  have hat_q114 : cl_q114.slots[((3 : Int32)).toNatClampNeg]? = some (.int 110) := Has.at H_q114 hin_q114 rfl
  obtain ⟨cl_q115, Ar_q115, q1_q115, S_q115, N_q115, H_q115, G_q115⟩ := id V0_va
  obtain ⟨cl_q116, Ar_q116, q1_q116, S_q116, N_q116, H_q116, G_q116⟩ := id V0_va
  have hin_q116 := own_ib S_q116 (4 : Int32) (by decide)
  have hat_q116 : cl_q116.slots[((4 : Int32)).toNatClampNeg]? = some (.int 101) := Has.at H_q116 hin_q116 rfl
  obtain ⟨cl_q117, Ar_q117, q1_q117, S_q117, N_q117, H_q117, G_q117⟩ := id V0_vb
  have hin_q117 := own_ib S_q117 (4 : Int32) (by decide)
  have hat_q117 : cl_q117.slots[((4 : Int32)).toNatClampNeg]? = some (.int 101) := Has.at H_q117 hin_q117 rfl
  obtain ⟨cl_q118, Ar_q118, q1_q118, S_q118, N_q118, H_q118, G_q118⟩ := id V0_va
  obtain ⟨cl_q119, Ar_q119, q1_q119, S_q119, N_q119, H_q119, G_q119⟩ := id V0_va
  have hin_q119 := own_ib S_q119 (5 : Int32) (by decide)
  have hat_q119 : cl_q119.slots[((5 : Int32)).toNatClampNeg]? = some (.int 119) := Has.at H_q119 hin_q119 rfl
  obtain ⟨cl_q120, Ar_q120, q1_q120, S_q120, N_q120, H_q120, G_q120⟩ := id V0_vb
  have hin_q120 := own_ib S_q120 (5 : Int32) (by decide)
  have hat_q120 : cl_q120.slots[((5 : Int32)).toNatClampNeg]? = some (.int 119) := Has.at H_q120 hin_q120 rfl
  obtain ⟨cl_q121, Ar_q121, q1_q121, S_q121, N_q121, H_q121, G_q121⟩ := id V0_va
  obtain ⟨cl_q122, Ar_q122, q1_q122, S_q122, N_q122, H_q122, G_q122⟩ := id V0_va
  have hin_q122 := own_ib S_q122 (6 : Int32) (by decide)
  have hat_q122 : cl_q122.slots[((6 : Int32)).toNatClampNeg]? = some (.int 95) := Has.at H_q122 hin_q122 rfl
  obtain ⟨cl_q123, Ar_q123, q1_q123, S_q123, N_q123, H_q123, G_q123⟩ := id V0_vb
  have hin_q123 := own_ib S_q123 (6 : Int32) (by decide)
  have hat_q123 : cl_q123.slots[((6 : Int32)).toNatClampNeg]? = some (.int 95) := Has.at H_q123 hin_q123 rfl
  obtain ⟨cl_q124, Ar_q124, q1_q124, S_q124, N_q124, H_q124, G_q124⟩ := id V0_va
  obtain ⟨cl_q125, Ar_q125, q1_q125, S_q125, N_q125, H_q125, G_q125⟩ := id V0_va
  have hin_q125 := own_ib S_q125 (7 : Int32) (by decide)
  have hat_q125 : cl_q125.slots[((7 : Int32)).toNatClampNeg]? = some (.int 111) := Has.at H_q125 hin_q125 rfl
  obtain ⟨cl_q126, Ar_q126, q1_q126, S_q126, N_q126, H_q126, G_q126⟩ := id V0_vb
  have hin_q126 := own_ib S_q126 (7 : Int32) (by decide)
  have hat_q126 : cl_q126.slots[((7 : Int32)).toNatClampNeg]? = some (.int 111) := Has.at H_q126 hin_q126 rfl
  refine Go.by (fun _ kont => XS.iloadN X0.here hx rfl (hb hby dQl00_19) rfl (X0.baloadBytes hx (j := (3 : Int32)) (v := (.int 110)) (own_at e0 Ar_q114.1) (State.isArrayOf_alike hZ.alike Ar_q114.2.1) Ar_q114.2.2 hin_q114 hat_q114 (g := (mkF m 20 #[.val (.ref va), .val (.ref vb), .val (.int 3)] [(.int 3), (.ref vb), (.int 110)])) rfl rfl (hb hby dQl00_20) _ (XS.icmpYes X0.here hx rfl (pc0 := 21) (pc' := 26) rfl (hb hby dQl00_21) rfl (by decide) (by decide) (by decide) (XS.iinc X0.here hx rfl (hb hby dQl00_26) rfl (l' := #[.val (.ref va), .val (.ref vb), .val (.int 4)]) rfl (XS.goto X0.here hx rfl (pc0 := 29) (pc' := 9) rfl (hb hby dQl00_29) (by decide) (by decide) (XS.iloadN X0.here hx rfl (hb hby dQl00_9) rfl (XS.aloadN X0.here hx rfl (hb hby dQl00_10) rfl rfl (X0.arraylength hx (own_at e0 Ar_q115.1) (State.isArrayOf_alike hZ.alike Ar_q115.2.1) (g := (mkF m 11 #[.val (.ref va), .val (.ref vb), .val (.int 4)] [(.ref va), (.int 4)])) rfl rfl (hb hby dQl00_11) _ (own_fI (len_of S_q115 N_q115) (XS.icmpNo X0.here hx rfl (hb hby dQl00_12) rfl (by decide) (XS.aloadN X0.here hx rfl (hb hby dQl00_15) rfl rfl (XS.iloadN X0.here hx rfl (hb hby dQl00_16) rfl (X0.baloadBytes hx (j := (4 : Int32)) (v := (.int 101)) (own_at e0 Ar_q116.1) (State.isArrayOf_alike hZ.alike Ar_q116.2.1) Ar_q116.2.2 hin_q116 hat_q116 (g := (mkF m 17 #[.val (.ref va), .val (.ref vb), .val (.int 4)] [(.int 4), (.ref va)])) rfl rfl (hb hby dQl00_17) _ (XS.aloadN X0.here hx rfl (hb hby dQl00_18) rfl rfl (XS.iloadN X0.here hx rfl (hb hby dQl00_19) rfl (X0.baloadBytes hx (j := (4 : Int32)) (v := (.int 101)) (own_at e0 Ar_q117.1) (State.isArrayOf_alike hZ.alike Ar_q117.2.1) Ar_q117.2.2 hin_q117 hat_q117 (g := (mkF m 20 #[.val (.ref va), .val (.ref vb), .val (.int 4)] [(.int 4), (.ref vb), (.int 101)])) rfl rfl (hb hby dQl00_20) _ (XS.icmpYes X0.here hx rfl (pc0 := 21) (pc' := 26) rfl (hb hby dQl00_21) rfl (by decide) (by decide) (by decide) (XS.iinc X0.here hx rfl (hb hby dQl00_26) rfl (l' := #[.val (.ref va), .val (.ref vb), .val (.int 5)]) rfl (XS.goto X0.here hx rfl (pc0 := 29) (pc' := 9) rfl (hb hby dQl00_29) (by decide) (by decide) (XS.iloadN X0.here hx rfl (hb hby dQl00_9) rfl (XS.aloadN X0.here hx rfl (hb hby dQl00_10) rfl rfl (X0.arraylength hx (own_at e0 Ar_q118.1) (State.isArrayOf_alike hZ.alike Ar_q118.2.1) (g := (mkF m 11 #[.val (.ref va), .val (.ref vb), .val (.int 5)] [(.ref va), (.int 5)])) rfl rfl (hb hby dQl00_11) _ (own_fI (len_of S_q118 N_q118) (XS.icmpNo X0.here hx rfl (hb hby dQl00_12) rfl (by decide) (XS.aloadN X0.here hx rfl (hb hby dQl00_15) rfl rfl (XS.iloadN X0.here hx rfl (hb hby dQl00_16) rfl (X0.baloadBytes hx (j := (5 : Int32)) (v := (.int 119)) (own_at e0 Ar_q119.1) (State.isArrayOf_alike hZ.alike Ar_q119.2.1) Ar_q119.2.2 hin_q119 hat_q119 (g := (mkF m 17 #[.val (.ref va), .val (.ref vb), .val (.int 5)] [(.int 5), (.ref va)])) rfl rfl (hb hby dQl00_17) _ (XS.aloadN X0.here hx rfl (hb hby dQl00_18) rfl rfl (XS.iloadN X0.here hx rfl (hb hby dQl00_19) rfl (X0.baloadBytes hx (j := (5 : Int32)) (v := (.int 119)) (own_at e0 Ar_q120.1) (State.isArrayOf_alike hZ.alike Ar_q120.2.1) Ar_q120.2.2 hin_q120 hat_q120 (g := (mkF m 20 #[.val (.ref va), .val (.ref vb), .val (.int 5)] [(.int 5), (.ref vb), (.int 119)])) rfl rfl (hb hby dQl00_20) _ (XS.icmpYes X0.here hx rfl (pc0 := 21) (pc' := 26) rfl (hb hby dQl00_21) rfl (by decide) (by decide) (by decide) (XS.iinc X0.here hx rfl (hb hby dQl00_26) rfl (l' := #[.val (.ref va), .val (.ref vb), .val (.int 6)]) rfl (XS.goto X0.here hx rfl (pc0 := 29) (pc' := 9) rfl (hb hby dQl00_29) (by decide) (by decide) (XS.iloadN X0.here hx rfl (hb hby dQl00_9) rfl (XS.aloadN X0.here hx rfl (hb hby dQl00_10) rfl rfl (X0.arraylength hx (own_at e0 Ar_q121.1) (State.isArrayOf_alike hZ.alike Ar_q121.2.1) (g := (mkF m 11 #[.val (.ref va), .val (.ref vb), .val (.int 6)] [(.ref va), (.int 6)])) rfl rfl (hb hby dQl00_11) _ (own_fI (len_of S_q121 N_q121) (XS.icmpNo X0.here hx rfl (hb hby dQl00_12) rfl (by decide) (XS.aloadN X0.here hx rfl (hb hby dQl00_15) rfl rfl (XS.iloadN X0.here hx rfl (hb hby dQl00_16) rfl (X0.baloadBytes hx (j := (6 : Int32)) (v := (.int 95)) (own_at e0 Ar_q122.1) (State.isArrayOf_alike hZ.alike Ar_q122.2.1) Ar_q122.2.2 hin_q122 hat_q122 (g := (mkF m 17 #[.val (.ref va), .val (.ref vb), .val (.int 6)] [(.int 6), (.ref va)])) rfl rfl (hb hby dQl00_17) _ (XS.aloadN X0.here hx rfl (hb hby dQl00_18) rfl rfl (XS.iloadN X0.here hx rfl (hb hby dQl00_19) rfl (X0.baloadBytes hx (j := (6 : Int32)) (v := (.int 95)) (own_at e0 Ar_q123.1) (State.isArrayOf_alike hZ.alike Ar_q123.2.1) Ar_q123.2.2 hin_q123 hat_q123 (g := (mkF m 20 #[.val (.ref va), .val (.ref vb), .val (.int 6)] [(.int 6), (.ref vb), (.int 95)])) rfl rfl (hb hby dQl00_20) _ (XS.icmpYes X0.here hx rfl (pc0 := 21) (pc' := 26) rfl (hb hby dQl00_21) rfl (by decide) (by decide) (by decide) (XS.iinc X0.here hx rfl (hb hby dQl00_26) rfl (l' := #[.val (.ref va), .val (.ref vb), .val (.int 7)]) rfl (XS.goto X0.here hx rfl (pc0 := 29) (pc' := 9) rfl (hb hby dQl00_29) (by decide) (by decide) (XS.iloadN X0.here hx rfl (hb hby dQl00_9) rfl (XS.aloadN X0.here hx rfl (hb hby dQl00_10) rfl rfl (X0.arraylength hx (own_at e0 Ar_q124.1) (State.isArrayOf_alike hZ.alike Ar_q124.2.1) (g := (mkF m 11 #[.val (.ref va), .val (.ref vb), .val (.int 7)] [(.ref va), (.int 7)])) rfl rfl (hb hby dQl00_11) _ (own_fI (len_of S_q124 N_q124) (XS.icmpNo X0.here hx rfl (hb hby dQl00_12) rfl (by decide) (XS.aloadN X0.here hx rfl (hb hby dQl00_15) rfl rfl (XS.iloadN X0.here hx rfl (hb hby dQl00_16) rfl (X0.baloadBytes hx (j := (7 : Int32)) (v := (.int 111)) (own_at e0 Ar_q125.1) (State.isArrayOf_alike hZ.alike Ar_q125.2.1) Ar_q125.2.2 hin_q125 hat_q125 (g := (mkF m 17 #[.val (.ref va), .val (.ref vb), .val (.int 7)] [(.int 7), (.ref va)])) rfl rfl (hb hby dQl00_17) _ (XS.aloadN X0.here hx rfl (hb hby dQl00_18) rfl rfl (XS.iloadN X0.here hx rfl (hb hby dQl00_19) rfl (X0.baloadBytes hx (j := (7 : Int32)) (v := (.int 111)) (own_at e0 Ar_q126.1) (State.isArrayOf_alike hZ.alike Ar_q126.2.1) Ar_q126.2.2 hin_q126 hat_q126 (g := (mkF m 20 #[.val (.ref va), .val (.ref vb), .val (.int 7)] [(.int 7), (.ref vb), (.int 111)])) rfl rfl (hb hby dQl00_20) _ (XS.icmpYes X0.here hx rfl (pc0 := 21) (pc' := 26) rfl (hb hby dQl00_21) rfl (by decide) (by decide) (by decide) (XS.iinc X0.here hx rfl (hb hby dQl00_26) rfl (l' := #[.val (.ref va), .val (.ref vb), .val (.int 8)]) rfl kont)))))))))))))))))))))))))))))))))))))))))))))))))))))))))))) ?_
  show Go _ _ _ _ _ _ _ (s₁.setTop (mkF m 29 #[.val (.ref va), .val (.ref vb), .val (.int 8)] []))
  obtain ⟨cl_q127, Ar_q127, q1_q127, S_q127, N_q127, H_q127, G_q127⟩ := id V0_va
  obtain ⟨cl_q128, Ar_q128, q1_q128, S_q128, N_q128, H_q128, G_q128⟩ := id V0_va
  have hin_q128 := own_ib S_q128 (8 : Int32) (by decide)
  have hat_q128 : cl_q128.slots[((8 : Int32)).toNatClampNeg]? = some (.int 112) := Has.at H_q128 hin_q128 rfl
  obtain ⟨cl_q129, Ar_q129, q1_q129, S_q129, N_q129, H_q129, G_q129⟩ := id V0_vb
  have hin_q129 := own_ib S_q129 (8 : Int32) (by decide)
  have hat_q129 : cl_q129.slots[((8 : Int32)).toNatClampNeg]? = some (.int 112) := Has.at H_q129 hin_q129 rfl
  obtain ⟨cl_q130, Ar_q130, q1_q130, S_q130, N_q130, H_q130, G_q130⟩ := id V0_va
  obtain ⟨cl_q131, Ar_q131, q1_q131, S_q131, N_q131, H_q131, G_q131⟩ := id V0_va
  have hin_q131 := own_ib S_q131 (9 : Int32) (by decide)
  have hat_q131 : cl_q131.slots[((9 : Int32)).toNatClampNeg]? = some (.int 101) := Has.at H_q131 hin_q131 rfl
  obtain ⟨cl_q132, Ar_q132, q1_q132, S_q132, N_q132, H_q132, G_q132⟩ := id V0_vb
  have hin_q132 := own_ib S_q132 (9 : Int32) (by decide)
  have hat_q132 : cl_q132.slots[((9 : Int32)).toNatClampNeg]? = some (.int 101) := Has.at H_q132 hin_q132 rfl
  obtain ⟨cl_q133, Ar_q133, q1_q133, S_q133, N_q133, H_q133, G_q133⟩ := id V0_va
  obtain ⟨cl_q134, Ar_q134, q1_q134, S_q134, N_q134, H_q134, G_q134⟩ := id V0_va
  have hin_q134 := own_ib S_q134 (10 : Int32) (by decide)
  have hat_q134 : cl_q134.slots[((10 : Int32)).toNatClampNeg]? = some (.int 110) := Has.at H_q134 hin_q134 rfl
  obtain ⟨cl_q135, Ar_q135, q1_q135, S_q135, N_q135, H_q135, G_q135⟩ := id V0_vb
  have hin_q135 := own_ib S_q135 (10 : Int32) (by decide)
  have hat_q135 : cl_q135.slots[((10 : Int32)).toNatClampNeg]? = some (.int 110) := Has.at H_q135 hin_q135 rfl
  obtain ⟨cl_q136, Ar_q136, q1_q136, S_q136, N_q136, H_q136, G_q136⟩ := id V0_va
  refine Go.by (fun _ kont => XS.goto X0.here hx rfl (pc0 := 29) (pc' := 9) rfl (hb hby dQl00_29) (by decide) (by decide) (XS.iloadN X0.here hx rfl (hb hby dQl00_9) rfl (XS.aloadN X0.here hx rfl (hb hby dQl00_10) rfl rfl (X0.arraylength hx (own_at e0 Ar_q127.1) (State.isArrayOf_alike hZ.alike Ar_q127.2.1) (g := (mkF m 11 #[.val (.ref va), .val (.ref vb), .val (.int 8)] [(.ref va), (.int 8)])) rfl rfl (hb hby dQl00_11) _ (own_fI (len_of S_q127 N_q127) (XS.icmpNo X0.here hx rfl (hb hby dQl00_12) rfl (by decide) (XS.aloadN X0.here hx rfl (hb hby dQl00_15) rfl rfl (XS.iloadN X0.here hx rfl (hb hby dQl00_16) rfl (X0.baloadBytes hx (j := (8 : Int32)) (v := (.int 112)) (own_at e0 Ar_q128.1) (State.isArrayOf_alike hZ.alike Ar_q128.2.1) Ar_q128.2.2 hin_q128 hat_q128 (g := (mkF m 17 #[.val (.ref va), .val (.ref vb), .val (.int 8)] [(.int 8), (.ref va)])) rfl rfl (hb hby dQl00_17) _ (XS.aloadN X0.here hx rfl (hb hby dQl00_18) rfl rfl (XS.iloadN X0.here hx rfl (hb hby dQl00_19) rfl (X0.baloadBytes hx (j := (8 : Int32)) (v := (.int 112)) (own_at e0 Ar_q129.1) (State.isArrayOf_alike hZ.alike Ar_q129.2.1) Ar_q129.2.2 hin_q129 hat_q129 (g := (mkF m 20 #[.val (.ref va), .val (.ref vb), .val (.int 8)] [(.int 8), (.ref vb), (.int 112)])) rfl rfl (hb hby dQl00_20) _ (XS.icmpYes X0.here hx rfl (pc0 := 21) (pc' := 26) rfl (hb hby dQl00_21) rfl (by decide) (by decide) (by decide) (XS.iinc X0.here hx rfl (hb hby dQl00_26) rfl (l' := #[.val (.ref va), .val (.ref vb), .val (.int 9)]) rfl (XS.goto X0.here hx rfl (pc0 := 29) (pc' := 9) rfl (hb hby dQl00_29) (by decide) (by decide) (XS.iloadN X0.here hx rfl (hb hby dQl00_9) rfl (XS.aloadN X0.here hx rfl (hb hby dQl00_10) rfl rfl (X0.arraylength hx (own_at e0 Ar_q130.1) (State.isArrayOf_alike hZ.alike Ar_q130.2.1) (g := (mkF m 11 #[.val (.ref va), .val (.ref vb), .val (.int 9)] [(.ref va), (.int 9)])) rfl rfl (hb hby dQl00_11) _ (own_fI (len_of S_q130 N_q130) (XS.icmpNo X0.here hx rfl (hb hby dQl00_12) rfl (by decide) (XS.aloadN X0.here hx rfl (hb hby dQl00_15) rfl rfl (XS.iloadN X0.here hx rfl (hb hby dQl00_16) rfl (X0.baloadBytes hx (j := (9 : Int32)) (v := (.int 101)) (own_at e0 Ar_q131.1) (State.isArrayOf_alike hZ.alike Ar_q131.2.1) Ar_q131.2.2 hin_q131 hat_q131 (g := (mkF m 17 #[.val (.ref va), .val (.ref vb), .val (.int 9)] [(.int 9), (.ref va)])) rfl rfl (hb hby dQl00_17) _ (XS.aloadN X0.here hx rfl (hb hby dQl00_18) rfl rfl (XS.iloadN X0.here hx rfl (hb hby dQl00_19) rfl (X0.baloadBytes hx (j := (9 : Int32)) (v := (.int 101)) (own_at e0 Ar_q132.1) (State.isArrayOf_alike hZ.alike Ar_q132.2.1) Ar_q132.2.2 hin_q132 hat_q132 (g := (mkF m 20 #[.val (.ref va), .val (.ref vb), .val (.int 9)] [(.int 9), (.ref vb), (.int 101)])) rfl rfl (hb hby dQl00_20) _ (XS.icmpYes X0.here hx rfl (pc0 := 21) (pc' := 26) rfl (hb hby dQl00_21) rfl (by decide) (by decide) (by decide) (XS.iinc X0.here hx rfl (hb hby dQl00_26) rfl (l' := #[.val (.ref va), .val (.ref vb), .val (.int 10)]) rfl (XS.goto X0.here hx rfl (pc0 := 29) (pc' := 9) rfl (hb hby dQl00_29) (by decide) (by decide) (XS.iloadN X0.here hx rfl (hb hby dQl00_9) rfl (XS.aloadN X0.here hx rfl (hb hby dQl00_10) rfl rfl (X0.arraylength hx (own_at e0 Ar_q133.1) (State.isArrayOf_alike hZ.alike Ar_q133.2.1) (g := (mkF m 11 #[.val (.ref va), .val (.ref vb), .val (.int 10)] [(.ref va), (.int 10)])) rfl rfl (hb hby dQl00_11) _ (own_fI (len_of S_q133 N_q133) (XS.icmpNo X0.here hx rfl (hb hby dQl00_12) rfl (by decide) (XS.aloadN X0.here hx rfl (hb hby dQl00_15) rfl rfl (XS.iloadN X0.here hx rfl (hb hby dQl00_16) rfl (X0.baloadBytes hx (j := (10 : Int32)) (v := (.int 110)) (own_at e0 Ar_q134.1) (State.isArrayOf_alike hZ.alike Ar_q134.2.1) Ar_q134.2.2 hin_q134 hat_q134 (g := (mkF m 17 #[.val (.ref va), .val (.ref vb), .val (.int 10)] [(.int 10), (.ref va)])) rfl rfl (hb hby dQl00_17) _ (XS.aloadN X0.here hx rfl (hb hby dQl00_18) rfl rfl (XS.iloadN X0.here hx rfl (hb hby dQl00_19) rfl (X0.baloadBytes hx (j := (10 : Int32)) (v := (.int 110)) (own_at e0 Ar_q135.1) (State.isArrayOf_alike hZ.alike Ar_q135.2.1) Ar_q135.2.2 hin_q135 hat_q135 (g := (mkF m 20 #[.val (.ref va), .val (.ref vb), .val (.int 10)] [(.int 10), (.ref vb), (.int 110)])) rfl rfl (hb hby dQl00_20) _ (XS.icmpYes X0.here hx rfl (pc0 := 21) (pc' := 26) rfl (hb hby dQl00_21) rfl (by decide) (by decide) (by decide) (XS.iinc X0.here hx rfl (hb hby dQl00_26) rfl (l' := #[.val (.ref va), .val (.ref vb), .val (.int 11)]) rfl (XS.goto X0.here hx rfl (pc0 := 29) (pc' := 9) rfl (hb hby dQl00_29) (by decide) (by decide) (XS.iloadN X0.here hx rfl (hb hby dQl00_9) rfl (XS.aloadN X0.here hx rfl (hb hby dQl00_10) rfl rfl (X0.arraylength hx (own_at e0 Ar_q136.1) (State.isArrayOf_alike hZ.alike Ar_q136.2.1) (g := (mkF m 11 #[.val (.ref va), .val (.ref vb), .val (.int 11)] [(.ref va), (.int 11)])) rfl rfl (hb hby dQl00_11) _ (own_fI (len_of S_q136 N_q136) (XS.icmpYes X0.here hx rfl (pc0 := 12) (pc' := 32) rfl (hb hby dQl00_12) rfl (by decide) (by decide) (by decide) (XS.iconst X0.here hx rfl (hb hby dQl00_32) kont))))))))))))))))))))))))))))))))))))))))))))))))) ?_
  show Go _ _ _ _ _ _ _ (s₁.setTop (mkF m 33 #[.val (.ref va), .val (.ref vb), .val (.int 11)] [(.int 1)]))
  refine Go.retN X0 hx (t := .boolean) hret (by simp) hlk (hb hby dQl00_33) ?_ (by decide) (by decide)
  show QQl11 Z  h0 n0 (some (.int (1 : Int32))) s₁.heap _
  rw [e0]
  exact ⟨rfl, N0, rfl⟩

theorem pdEq11_0 : parseMethodDescriptor "([B[B)Z" = some ⟨[(.array .byte), (.array .byte)], some .boolean⟩ := by decide +kernel
theorem pnEq11 : plainName "java/lang/String" = true := by first | (simp [plainName, overriddenIn]; done) | decide +kernel
theorem efEq11 (m : MethodId) (a : Addr) (b : Addr) : entryFrame m #[(.ref a), (.ref b)] 3 = mkF m 0 #[.val (.ref a), .val (.ref b), .unset] [] := by first | (simp [entryFrame, mkF, argsToLocals, Value.category]; done) | rfl
def QEq11 (Z : State)  (h0 : Heap) (n0 : Nat) (v : Option Value) (h : Heap) (L : List Loc) : Prop := (v = some (.int 1) ∧ Fr n0 L ∧ h = h0)
set_option maxRecDepth 65536 in
set_option maxHeartbeats 40000000 in
theorem rmEq11 (l : Launch) (Z : State) (a0 : Array Value) (hw : ∀ d ∈ tables_1, d.before a0 Z = true) (ws : List Jvm.Cond) (a : Addr) (b : Addr) (va : Addr) (vb : Addr) (kc_va : ClassId) (kc_vb : ClassId) (cs : Int32) (h0 : Heap) (n0 : Nat) (Z0 : n0 ≤ h0.size) (E0_a : Exa Z h0 a "java/lang/String") (F0_a_coder : Fld Z h0 a "java/lang/String" "coder" "B" (.int 0)) (F0_a_value : Fld Z h0 a "java/lang/String" "value" "[B" (.ref va)) (E0_b : Exa Z h0 b "java/lang/String") (F0_b_coder : Fld Z h0 b "java/lang/String" "coder" "B" (.int 0)) (F0_b_value : Fld Z h0 b "java/lang/String" "value" "[B" (.ref vb)) (V0_va : Arv Z h0 va kc_va .byte (11 : Int32) [(.int 110), (.int 111), (.int 95), (.int 110), (.int 101), (.int 119), (.int 95), (.int 111), (.int 112), (.int 101), (.int 110)] (.int 0)) (V0_vb : Arv Z h0 vb kc_vb .byte (11 : Int32) [(.int 110), (.int 111), (.int 95), (.int 110), (.int 101), (.int 119), (.int 95), (.int 111), (.int 112), (.int 101), (.int 110)] (.int 0)) (ne0_a_b : a ≠ b) (S0_COMPACT_STRINGS : Sta Z h0 "java/lang/String" "COMPACT_STRINGS" "Z" (.int cs)) (hcs : ¬ (cs = (0 : Int32))) :
    Ct l Z (⟨"java/lang/String", "equals", "(Ljava/lang/Object;)Z"⟩ : MethodName) jdk_42_method_66_code 3 (some .boolean) ws (⟨1, 0, 0, 14⟩ : Room) #[(.ref a), (.ref b)] h0 (QEq11 Z  h0 n0) := by
  refine MetFree.of_bodySF (plainFor_of_name pnEq11) hisR ?_
  intro p e s m args below meth c s₁ Bd hml hP hK
  obtain ⟨rfl, hZ, hh⟩ := hP
  obtain ⟨hx, hby, hown, hnm, hlk, hret, X0, e0⟩ := own_st Bd "java/lang/String" rfl hh
  have N0 := Fr.nil n0
  show Go p e below s (⟨1, 0, 0, 14⟩ : Room).cells (⟨1, 0, 0, 14⟩ : Room).slots (QEq11 Z  h0 n0) (s₁.setTop (entryFrame m #[(.ref a), (.ref b)] 3))
  rw [efEq11]
  refine Go.by (fun _ kont => XS.aloadN X0.here hx rfl (hb hby dEs_0) rfl rfl (XS.aloadN X0.here hx rfl (hb hby dEs_1) rfl rfl kont)) ?_
  show Go _ _ _ _ _ _ _ (s₁.setTop (mkF m 2 #[.val (.ref a), .val (.ref b), .unset] [(.ref b), (.ref a)]))
  refine Go.by (fun _ kont => Jvm.RoadKit.acmp (g := (mkF m 2 #[.val (.ref a), .val (.ref b), .unset] [(.ref b), (.ref a)])) X0 hx rfl rfl rfl (pc0 := 2) (pc' := 7) (same := false) rfl (hb hby dEs_2) rfl (decide_eq_false fun q => ne0_a_b (Value.ref.inj q)) (by decide) (by decide) kont) ?_
  show Go _ _ _ _ _ _ _ (s₁.setTop (mkF m 7 #[.val (.ref a), .val (.ref b), .unset] []))
  obtain ⟨T101, X101, e101, st101⟩ := instY X0 hx hZ hown (own_w hw 95 rfl) e0 (Ins.self E0_b) (g := (mkF m 8 #[.val (.ref a), .val (.ref b), .unset] [(.ref b)])) rfl rfl (hb hby dEq00_8)
  obtain ⟨T102, X102, e102, st102⟩ := castY X101 hx hZ hown (own_w hw 95 rfl) e101 (Ins.self E0_b) (g := (mkF m 15 #[.val (.ref a), .val (.ref b), .unset] [(.ref b)])) rfl rfl (hb hby dEq00_15)
  obtain ⟨T103, X103, e103, st103⟩ := getS2 X102 hx hZ hown (host := "") (Or.inl (own_w hw 18 rfl)) Via.refl e102 S0_COMPACT_STRINGS (g := (mkF m 19 #[.val (.ref a), .val (.ref b), .val (.ref b)] [])) rfl (hb hby dEq00_19)
  refine Go.by (fun _ kont => XS.aloadN X0.here hx rfl (hb hby dEq00_7) rfl rfl (st101 _ (XS.ifNo X101.here hx rfl (hb hby dEq00_11) rfl (by decide) (XS.aloadN X101.here hx rfl (hb hby dEq00_14) rfl rfl (st102 _ (XS.astoreN X102.here hx rfl (hb hby dEq00_18) rfl rfl (l' := #[.val (.ref a), .val (.ref b), .val (.ref b)]) rfl (st103 _ kont))))))) ?_
  show Go _ _ _ _ _ _ _ (T103.setTop (mkF m 22 #[.val (.ref a), .val (.ref b), .val (.ref b)] [(.int cs)]))
  refine Go.by (fun _ kont => XS.ifNo X103.here hx rfl (hb hby dEq00_22) rfl ((if0 _ _).trans (feq hcs).1) kont) ?_
  show Go _ _ _ _ _ _ _ (T103.setTop (mkF m 25 #[.val (.ref a), .val (.ref b), .val (.ref b)] []))
  obtain ⟨T104, X104, e104, st104⟩ := getF X103 hx hZ hown (host := "") (Or.inl (own_w hw 30 rfl)) Via.refl e103 F0_a_coder (g := (mkF m 26 #[.val (.ref a), .val (.ref b), .val (.ref b)] [(.ref a)])) rfl rfl (hb hby dEq00_26)
  obtain ⟨T105, X105, e105, st105⟩ := getF X104 hx hZ hown (host := "") (Or.inl (own_w hw 30 rfl)) Via.refl e104 F0_b_coder (g := (mkF m 30 #[.val (.ref a), .val (.ref b), .val (.ref b)] [(.ref b), (.int 0)])) rfl rfl (hb hby dEq00_30)
  obtain ⟨T106, X106, e106, st106⟩ := getF X105 hx hZ hown (host := "") (Or.inl (own_w hw 32 rfl)) Via.refl e105 F0_a_value (g := (mkF m 37 #[.val (.ref a), .val (.ref b), .val (.ref b)] [(.ref a)])) rfl rfl (hb hby dEq00_37)
  obtain ⟨T107, X107, e107, st107⟩ := getF X106 hx hZ hown (host := "") (Or.inl (own_w hw 32 rfl)) Via.refl e106 F0_b_value (g := (mkF m 41 #[.val (.ref a), .val (.ref b), .val (.ref b)] [(.ref b), (.ref va)])) rfl rfl (hb hby dEq00_41)
  obtain ⟨_, _, ⟨T108, L108, k108, n108⟩, -, X108, ⟨Lc108, hQ108, l108, y108, z108⟩, st108⟩ := Jvm.LawKit.callS X107 hx (y := (⟨"java/lang/StringLatin1", "equals", "([B[B)Z"⟩ : MethodName)) hown (mvT hZ (own_w hw 96 rfl)) (mvT hZ (own_w hw 97 rfl)) (mvT hZ (own_w hw 98 rfl)) (mvT hZ (own_w hw 99 rfl)) (by decide) (backOf (W := 0) (rmQl11 l Z a0 hw [] va vb kc_va kc_vb h0 n0 Z0 V0_va V0_vb) hZ (own_w hw 99 rfl) (own_w hw 98 rfl) (by decide) (by decide)) (g := (mkF m 44 #[.val (.ref a), .val (.ref b), .val (.ref b)] [(.ref vb), (.ref va)])) rfl (by rw [hml]; rfl) (argsL := [(.ref va), (.ref vb)]) (rest := []) (lenOf pdEq11_0 rfl) rfl (by show 2 * 0 + _ ≤ _; exact Nat.le_of_eq rfl) (hb hby dEq00_44) (fun _ _ => ⟨rfl, e107, (by decide : 0 + 0 ≤ _), (by decide : 0 + 0 ≤ _)⟩)
  dsimp only [Pt.U, Pt.locs, Pt.cells, Pt.slots] at X108 l108 y108 z108 st108 hQ108
  subst l108 y108 z108
  obtain ⟨rfl, N108q, eh108⟩ := hQ108
  have N108 := Fr.app N0 N108q
  refine Go.by (fun _ kont => XS.aloadN X103.here hx rfl (hb hby dEq00_25) rfl rfl (st104 _ (XS.aloadN X104.here hx rfl (hb hby dEq00_29) rfl rfl (st105 _ (XS.icmpNo X105.here hx rfl (hb hby dEq00_33) rfl (by decide) (XS.aloadN X105.here hx rfl (hb hby dEq00_36) rfl rfl (st106 _ (XS.aloadN X106.here hx rfl (hb hby dEq00_40) rfl rfl (st107 _ (st108 _ (XS.ifNo X108.here hx rfl (hb hby dEq00_47) rfl (by decide) (XS.iconst X108.here hx rfl (hb hby dEq00_50) (XS.goto X108.here hx rfl (pc0 := 51) (pc' := 55) rfl (hb hby dEq00_51) (by decide) (by decide) kont))))))))))))) ?_
  show Go _ _ _ _ _ _ _ (T108.setTop (mkF m 55 #[.val (.ref a), .val (.ref b), .val (.ref b)] [(.int 1)]))
  refine Go.retN X108 hx (t := .boolean) hret (by simp) hlk (hb hby dEq00_55) ?_ (by decide) (by decide)
  show QEq11 Z  h0 n0 (some (.int (1 : Int32))) T108.heap _
  rw [eh108]
  exact ⟨rfl, N108, rfl⟩

theorem pnQl22 : plainName "java/lang/StringLatin1" = true := by first | (simp [plainName, overriddenIn]; done) | decide +kernel
theorem efQl22 (m : MethodId) (va : Addr) (vb : Addr) : entryFrame m #[(.ref va), (.ref vb)] 3 = mkF m 0 #[.val (.ref va), .val (.ref vb), .unset] [] := by first | (simp [entryFrame, mkF, argsToLocals, Value.category]; done) | rfl
def QQl22 (Z : State)  (h0 : Heap) (n0 : Nat) (v : Option Value) (h : Heap) (L : List Loc) : Prop := (v = some (.int 1) ∧ Fr n0 L ∧ h = h0)
set_option maxRecDepth 65536 in
set_option maxHeartbeats 40000000 in
theorem rmQl22 (l : Launch) (Z : State) (a0 : Array Value) (hw : ∀ d ∈ tables_1, d.before a0 Z = true) (ws : List Jvm.Cond) (va : Addr) (vb : Addr) (kc_va : ClassId) (kc_vb : ClassId) (h0 : Heap) (n0 : Nat) (Z0 : n0 ≤ h0.size) (V0_va : Arv Z h0 va kc_va .byte (9 : Int32) [(.int 108), (.int 105), (.int 113), (.int 117), (.int 105), (.int 100), (.int 97), (.int 116), (.int 101)] (.int 0)) (V0_vb : Arv Z h0 vb kc_vb .byte (9 : Int32) [(.int 108), (.int 105), (.int 113), (.int 117), (.int 105), (.int 100), (.int 97), (.int 116), (.int 101)] (.int 0)) :
    Ct l Z (⟨"java/lang/StringLatin1", "equals", "([B[B)Z"⟩ : MethodName) jdk_43_method_13_code 3 (some .boolean) ws (⟨0, 0, 0, 0⟩ : Room) #[(.ref va), (.ref vb)] h0 (QQl22 Z  h0 n0) := by
  refine MetFree.of_bodySF (plainFor_of_name pnQl22) hisR ?_
  intro p e s m args below meth c s₁ Bd hml hP hK
  obtain ⟨rfl, hZ, hh⟩ := hP
  obtain ⟨hx, hby, hown, hnm, hlk, hret, X0, e0⟩ := own_st Bd "java/lang/StringLatin1" rfl hh
  have N0 := Fr.nil n0
  show Go p e below s (⟨0, 0, 0, 0⟩ : Room).cells (⟨0, 0, 0, 0⟩ : Room).slots (QQl22 Z  h0 n0) (s₁.setTop (entryFrame m #[(.ref va), (.ref vb)] 3))
  rw [efQl22]
  obtain ⟨cl_q101, Ar_q101, q1_q101, S_q101, N_q101, H_q101, G_q101⟩ := id V0_va
  obtain ⟨cl_q102, Ar_q102, q1_q102, S_q102, N_q102, H_q102, G_q102⟩ := id V0_vb
  obtain ⟨cl_q103, Ar_q103, q1_q103, S_q103, N_q103, H_q103, G_q103⟩ := id V0_va
  obtain ⟨cl_q104, Ar_q104, q1_q104, S_q104, N_q104, H_q104, G_q104⟩ := id V0_va
  have hin_q104 := own_ib S_q104 (0 : Int32) (by decide)
  have hat_q104 : cl_q104.slots[((0 : Int32)).toNatClampNeg]? = some (.int 108) := Has.at H_q104 hin_q104 rfl
  obtain ⟨cl_q105, Ar_q105, q1_q105, S_q105, N_q105, H_q105, G_q105⟩ := id V0_vb
  have hin_q105 := own_ib S_q105 (0 : Int32) (by decide)
  have hat_q105 : cl_q105.slots[((0 : Int32)).toNatClampNeg]? = some (.int 108) := Has.at H_q105 hin_q105 rfl
  obtain ⟨cl_q106, Ar_q106, q1_q106, S_q106, N_q106, H_q106, G_q106⟩ := id V0_va
  obtain ⟨cl_q107, Ar_q107, q1_q107, S_q107, N_q107, H_q107, G_q107⟩ := id V0_va
  have hin_q107 := own_ib S_q107 (1 : Int32) (by decide)
  have hat_q107 : cl_q107.slots[((1 : Int32)).toNatClampNeg]? = some (.int 105) := Has.at H_q107 hin_q107 rfl
  obtain ⟨cl_q108, Ar_q108, q1_q108, S_q108, N_q108, H_q108, G_q108⟩ := id V0_vb
  have hin_q108 := own_ib S_q108 (1 : Int32) (by decide)
  have hat_q108 : cl_q108.slots[((1 : Int32)).toNatClampNeg]? = some (.int 105) := Has.at H_q108 hin_q108 rfl
  obtain ⟨cl_q109, Ar_q109, q1_q109, S_q109, N_q109, H_q109, G_q109⟩ := id V0_va
  obtain ⟨cl_q110, Ar_q110, q1_q110, S_q110, N_q110, H_q110, G_q110⟩ := id V0_va
  have hin_q110 := own_ib S_q110 (2 : Int32) (by decide)
  have hat_q110 : cl_q110.slots[((2 : Int32)).toNatClampNeg]? = some (.int 113) := Has.at H_q110 hin_q110 rfl
  obtain ⟨cl_q111, Ar_q111, q1_q111, S_q111, N_q111, H_q111, G_q111⟩ := id V0_vb
  have hin_q111 := own_ib S_q111 (2 : Int32) (by decide)
  have hat_q111 : cl_q111.slots[((2 : Int32)).toNatClampNeg]? = some (.int 113) := Has.at H_q111 hin_q111 rfl
  obtain ⟨cl_q112, Ar_q112, q1_q112, S_q112, N_q112, H_q112, G_q112⟩ := id V0_va
  obtain ⟨cl_q113, Ar_q113, q1_q113, S_q113, N_q113, H_q113, G_q113⟩ := id V0_va
  have hin_q113 := own_ib S_q113 (3 : Int32) (by decide)
  have hat_q113 : cl_q113.slots[((3 : Int32)).toNatClampNeg]? = some (.int 117) := Has.at H_q113 hin_q113 rfl
  refine Go.by (fun _ kont => XS.aloadN X0.here hx rfl (hb hby dQl00_0) rfl rfl (X0.arraylength hx (own_at e0 Ar_q101.1) (State.isArrayOf_alike hZ.alike Ar_q101.2.1) (g := (mkF m 1 #[.val (.ref va), .val (.ref vb), .unset] [(.ref va)])) rfl rfl (hb hby dQl00_1) _ (own_fI (len_of S_q101 N_q101) (XS.aloadN X0.here hx rfl (hb hby dQl00_2) rfl rfl (X0.arraylength hx (own_at e0 Ar_q102.1) (State.isArrayOf_alike hZ.alike Ar_q102.2.1) (g := (mkF m 3 #[.val (.ref va), .val (.ref vb), .unset] [(.ref vb), (.int 9)])) rfl rfl (hb hby dQl00_3) _ (own_fI (len_of S_q102 N_q102) (XS.icmpNo X0.here hx rfl (hb hby dQl00_4) rfl (by decide) (XS.iconst X0.here hx rfl (hb hby dQl00_7) (XS.istoreN X0.here hx rfl (hb hby dQl00_8) rfl (l' := #[.val (.ref va), .val (.ref vb), .val (.int 0)]) rfl (XS.iloadN X0.here hx rfl (hb hby dQl00_9) rfl (XS.aloadN X0.here hx rfl (hb hby dQl00_10) rfl rfl (X0.arraylength hx (own_at e0 Ar_q103.1) (State.isArrayOf_alike hZ.alike Ar_q103.2.1) (g := (mkF m 11 #[.val (.ref va), .val (.ref vb), .val (.int 0)] [(.ref va), (.int 0)])) rfl rfl (hb hby dQl00_11) _ (own_fI (len_of S_q103 N_q103) (XS.icmpNo X0.here hx rfl (hb hby dQl00_12) rfl (by decide) (XS.aloadN X0.here hx rfl (hb hby dQl00_15) rfl rfl (XS.iloadN X0.here hx rfl (hb hby dQl00_16) rfl (X0.baloadBytes hx (j := (0 : Int32)) (v := (.int 108)) (own_at e0 Ar_q104.1) (State.isArrayOf_alike hZ.alike Ar_q104.2.1) Ar_q104.2.2 hin_q104 hat_q104 (g := (mkF m 17 #[.val (.ref va), .val (.ref vb), .val (.int 0)] [(.int 0), (.ref va)])) rfl rfl (hb hby dQl00_17) _ (XS.aloadN X0.here hx rfl (hb hby dQl00_18) rfl rfl (XS.iloadN X0.here hx rfl (hb hby dQl00_19) rfl (X0.baloadBytes hx (j := (0 : Int32)) (v := (.int 108)) (own_at e0 Ar_q105.1) (State.isArrayOf_alike hZ.alike Ar_q105.2.1) Ar_q105.2.2 hin_q105 hat_q105 (g := (mkF m 20 #[.val (.ref va), .val (.ref vb), .val (.int 0)] [(.int 0), (.ref vb), (.int 108)])) rfl rfl (hb hby dQl00_20) _ (XS.icmpYes X0.here hx rfl (pc0 := 21) (pc' := 26) rfl (hb hby dQl00_21) rfl (by decide) (by decide) (by decide) (XS.iinc X0.here hx rfl (hb hby dQl00_26) rfl (l' := #[.val (.ref va), .val (.ref vb), .val (.int 1)]) rfl (XS.goto X0.here hx rfl (pc0 := 29) (pc' := 9) rfl (hb hby dQl00_29) (by decide) (by decide) (XS.iloadN X0.here hx rfl (hb hby dQl00_9) rfl (XS.aloadN X0.here hx rfl (hb hby dQl00_10) rfl rfl (X0.arraylength hx (own_at e0 Ar_q106.1) (State.isArrayOf_alike hZ.alike Ar_q106.2.1) (g := (mkF m 11 #[.val (.ref va), .val (.ref vb), .val (.int 1)] [(.ref va), (.int 1)])) rfl rfl (hb hby dQl00_11) _ (own_fI (len_of S_q106 N_q106) (XS.icmpNo X0.here hx rfl (hb hby dQl00_12) rfl (by decide) (XS.aloadN X0.here hx rfl (hb hby dQl00_15) rfl rfl (XS.iloadN X0.here hx rfl (hb hby dQl00_16) rfl (X0.baloadBytes hx (j := (1 : Int32)) (v := (.int 105)) (own_at e0 Ar_q107.1) (State.isArrayOf_alike hZ.alike Ar_q107.2.1) Ar_q107.2.2 hin_q107 hat_q107 (g := (mkF m 17 #[.val (.ref va), .val (.ref vb), .val (.int 1)] [(.int 1), (.ref va)])) rfl rfl (hb hby dQl00_17) _ (XS.aloadN X0.here hx rfl (hb hby dQl00_18) rfl rfl (XS.iloadN X0.here hx rfl (hb hby dQl00_19) rfl (X0.baloadBytes hx (j := (1 : Int32)) (v := (.int 105)) (own_at e0 Ar_q108.1) (State.isArrayOf_alike hZ.alike Ar_q108.2.1) Ar_q108.2.2 hin_q108 hat_q108 (g := (mkF m 20 #[.val (.ref va), .val (.ref vb), .val (.int 1)] [(.int 1), (.ref vb), (.int 105)])) rfl rfl (hb hby dQl00_20) _ (XS.icmpYes X0.here hx rfl (pc0 := 21) (pc' := 26) rfl (hb hby dQl00_21) rfl (by decide) (by decide) (by decide) (XS.iinc X0.here hx rfl (hb hby dQl00_26) rfl (l' := #[.val (.ref va), .val (.ref vb), .val (.int 2)]) rfl (XS.goto X0.here hx rfl (pc0 := 29) (pc' := 9) rfl (hb hby dQl00_29) (by decide) (by decide) (XS.iloadN X0.here hx rfl (hb hby dQl00_9) rfl (XS.aloadN X0.here hx rfl (hb hby dQl00_10) rfl rfl (X0.arraylength hx (own_at e0 Ar_q109.1) (State.isArrayOf_alike hZ.alike Ar_q109.2.1) (g := (mkF m 11 #[.val (.ref va), .val (.ref vb), .val (.int 2)] [(.ref va), (.int 2)])) rfl rfl (hb hby dQl00_11) _ (own_fI (len_of S_q109 N_q109) (XS.icmpNo X0.here hx rfl (hb hby dQl00_12) rfl (by decide) (XS.aloadN X0.here hx rfl (hb hby dQl00_15) rfl rfl (XS.iloadN X0.here hx rfl (hb hby dQl00_16) rfl (X0.baloadBytes hx (j := (2 : Int32)) (v := (.int 113)) (own_at e0 Ar_q110.1) (State.isArrayOf_alike hZ.alike Ar_q110.2.1) Ar_q110.2.2 hin_q110 hat_q110 (g := (mkF m 17 #[.val (.ref va), .val (.ref vb), .val (.int 2)] [(.int 2), (.ref va)])) rfl rfl (hb hby dQl00_17) _ (XS.aloadN X0.here hx rfl (hb hby dQl00_18) rfl rfl (XS.iloadN X0.here hx rfl (hb hby dQl00_19) rfl (X0.baloadBytes hx (j := (2 : Int32)) (v := (.int 113)) (own_at e0 Ar_q111.1) (State.isArrayOf_alike hZ.alike Ar_q111.2.1) Ar_q111.2.2 hin_q111 hat_q111 (g := (mkF m 20 #[.val (.ref va), .val (.ref vb), .val (.int 2)] [(.int 2), (.ref vb), (.int 113)])) rfl rfl (hb hby dQl00_20) _ (XS.icmpYes X0.here hx rfl (pc0 := 21) (pc' := 26) rfl (hb hby dQl00_21) rfl (by decide) (by decide) (by decide) (XS.iinc X0.here hx rfl (hb hby dQl00_26) rfl (l' := #[.val (.ref va), .val (.ref vb), .val (.int 3)]) rfl (XS.goto X0.here hx rfl (pc0 := 29) (pc' := 9) rfl (hb hby dQl00_29) (by decide) (by decide) (XS.iloadN X0.here hx rfl (hb hby dQl00_9) rfl (XS.aloadN X0.here hx rfl (hb hby dQl00_10) rfl rfl (X0.arraylength hx (own_at e0 Ar_q112.1) (State.isArrayOf_alike hZ.alike Ar_q112.2.1) (g := (mkF m 11 #[.val (.ref va), .val (.ref vb), .val (.int 3)] [(.ref va), (.int 3)])) rfl rfl (hb hby dQl00_11) _ (own_fI (len_of S_q112 N_q112) (XS.icmpNo X0.here hx rfl (hb hby dQl00_12) rfl (by decide) (XS.aloadN X0.here hx rfl (hb hby dQl00_15) rfl rfl (XS.iloadN X0.here hx rfl (hb hby dQl00_16) rfl (X0.baloadBytes hx (j := (3 : Int32)) (v := (.int 117)) (own_at e0 Ar_q113.1) (State.isArrayOf_alike hZ.alike Ar_q113.2.1) Ar_q113.2.2 hin_q113 hat_q113 (g := (mkF m 17 #[.val (.ref va), .val (.ref vb), .val (.int 3)] [(.int 3), (.ref va)])) rfl rfl (hb hby dQl00_17) _ (XS.aloadN X0.here hx rfl (hb hby dQl00_18) rfl rfl kont)))))))))))))))))))))))))))))))))))))))))))))))))))))))))))) ?_
  show Go _ _ _ _ _ _ _ (s₁.setTop (mkF m 19 #[.val (.ref va), .val (.ref vb), .val (.int 3)] [(.ref vb), (.int 117)]))
  obtain ⟨cl_q114, Ar_q114, q1_q114, S_q114, N_q114, H_q114, G_q114⟩ := id V0_vb
  have hin_q114 := own_ib S_q114 (3 : Int32) (by decide)
  have hat_q114 : cl_q114.slots[((3 : Int32)).toNatClampNeg]? = some (.int 117) := Has.at H_q114 hin_q114 rfl
  obtain ⟨cl_q115, Ar_q115, q1_q115, S_q115, N_q115, H_q115, G_q115⟩ := id V0_va
  obtain ⟨cl_q116, Ar_q116, q1_q116, S_q116, N_q116, H_q116, G_q116⟩ := id V0_va
  have hin_q116 := own_ib S_q116 (4 : Int32) (by decide)
  have hat_q116 : cl_q116.slots[((4 : Int32)).toNatClampNeg]? = some (.int 105) := Has.at H_q116 hin_q116 rfl
  obtain ⟨cl_q117, Ar_q117, q1_q117, S_q117, N_q117, H_q117, G_q117⟩ := id V0_vb
  have hin_q117 := own_ib S_q117 (4 : Int32) (by decide)
  have hat_q117 : cl_q117.slots[((4 : Int32)).toNatClampNeg]? = some (.int 105) := Has.at H_q117 hin_q117 rfl
  obtain ⟨cl_q118, Ar_q118, q1_q118, S_q118, N_q118, H_q118, G_q118⟩ := id V0_va
  obtain ⟨cl_q119, Ar_q119, q1_q119, S_q119, N_q119, H_q119, G_q119⟩ := id V0_va
  have hin_q119 := own_ib S_q119 (5 : Int32) (by decide)
  have hat_q119 : cl_q119.slots[((5 : Int32)).toNatClampNeg]? = some (.int 100) := Has.at H_q119 hin_q119 rfl
  obtain ⟨cl_q120, Ar_q120, q1_q120, S_q120, N_q120, H_q120, G_q120⟩ := id V0_vb
  have hin_q120 := own_ib S_q120 (5 : Int32) (by decide)
  have hat_q120 : cl_q120.slots[((5 : Int32)).toNatClampNeg]? = some (.int 100) := Has.at H_q120 hin_q120 rfl
  obtain ⟨cl_q121, Ar_q121, q1_q121, S_q121, N_q121, H_q121, G_q121⟩ := id V0_va
  obtain ⟨cl_q122, Ar_q122, q1_q122, S_q122, N_q122, H_q122, G_q122⟩ := id V0_va
  have hin_q122 := own_ib S_q122 (6 : Int32) (by decide)
  have hat_q122 : cl_q122.slots[((6 : Int32)).toNatClampNeg]? = some (.int 97) := Has.at H_q122 hin_q122 rfl
  obtain ⟨cl_q123, Ar_q123, q1_q123, S_q123, N_q123, H_q123, G_q123⟩ := id V0_vb
  have hin_q123 := own_ib S_q123 (6 : Int32) (by decide)
  have hat_q123 : cl_q123.slots[((6 : Int32)).toNatClampNeg]? = some (.int 97) := Has.at H_q123 hin_q123 rfl
  obtain ⟨cl_q124, Ar_q124, q1_q124, S_q124, N_q124, H_q124, G_q124⟩ := id V0_va
  obtain ⟨cl_q125, Ar_q125, q1_q125, S_q125, N_q125, H_q125, G_q125⟩ := id V0_va
  have hin_q125 := own_ib S_q125 (7 : Int32) (by decide)
  have hat_q125 : cl_q125.slots[((7 : Int32)).toNatClampNeg]? = some (.int 116) := Has.at H_q125 hin_q125 rfl
  obtain ⟨cl_q126, Ar_q126, q1_q126, S_q126, N_q126, H_q126, G_q126⟩ := id V0_vb
  have hin_q126 := own_ib S_q126 (7 : Int32) (by decide)
  have hat_q126 : cl_q126.slots[((7 : Int32)).toNatClampNeg]? = some (.int 116) := Has.at H_q126 hin_q126 rfl
  refine Go.by (fun _ kont => XS.iloadN X0.here hx rfl (hb hby dQl00_19) rfl (X0.baloadBytes hx (j := (3 : Int32)) (v := (.int 117)) (own_at e0 Ar_q114.1) (State.isArrayOf_alike hZ.alike Ar_q114.2.1) Ar_q114.2.2 hin_q114 hat_q114 (g := (mkF m 20 #[.val (.ref va), .val (.ref vb), .val (.int 3)] [(.int 3), (.ref vb), (.int 117)])) rfl rfl (hb hby dQl00_20) _ (XS.icmpYes X0.here hx rfl (pc0 := 21) (pc' := 26) rfl (hb hby dQl00_21) rfl (by decide) (by decide) (by decide) (XS.iinc X0.here hx rfl (hb hby dQl00_26) rfl (l' := #[.val (.ref va), .val (.ref vb), .val (.int 4)]) rfl (XS.goto X0.here hx rfl (pc0 := 29) (pc' := 9) rfl (hb hby dQl00_29) (by decide) (by decide) (XS.iloadN X0.here hx rfl (hb hby dQl00_9) rfl (XS.aloadN X0.here hx rfl (hb hby dQl00_10) rfl rfl (X0.arraylength hx (own_at e0 Ar_q115.1) (State.isArrayOf_alike hZ.alike Ar_q115.2.1) (g := (mkF m 11 #[.val (.ref va), .val (.ref vb), .val (.int 4)] [(.ref va), (.int 4)])) rfl rfl (hb hby dQl00_11) _ (own_fI (len_of S_q115 N_q115) (XS.icmpNo X0.here hx rfl (hb hby dQl00_12) rfl (by decide) (XS.aloadN X0.here hx rfl (hb hby dQl00_15) rfl rfl (XS.iloadN X0.here hx rfl (hb hby dQl00_16) rfl (X0.baloadBytes hx (j := (4 : Int32)) (v := (.int 105)) (own_at e0 Ar_q116.1) (State.isArrayOf_alike hZ.alike Ar_q116.2.1) Ar_q116.2.2 hin_q116 hat_q116 (g := (mkF m 17 #[.val (.ref va), .val (.ref vb), .val (.int 4)] [(.int 4), (.ref va)])) rfl rfl (hb hby dQl00_17) _ (XS.aloadN X0.here hx rfl (hb hby dQl00_18) rfl rfl (XS.iloadN X0.here hx rfl (hb hby dQl00_19) rfl (X0.baloadBytes hx (j := (4 : Int32)) (v := (.int 105)) (own_at e0 Ar_q117.1) (State.isArrayOf_alike hZ.alike Ar_q117.2.1) Ar_q117.2.2 hin_q117 hat_q117 (g := (mkF m 20 #[.val (.ref va), .val (.ref vb), .val (.int 4)] [(.int 4), (.ref vb), (.int 105)])) rfl rfl (hb hby dQl00_20) _ (XS.icmpYes X0.here hx rfl (pc0 := 21) (pc' := 26) rfl (hb hby dQl00_21) rfl (by decide) (by decide) (by decide) (XS.iinc X0.here hx rfl (hb hby dQl00_26) rfl (l' := #[.val (.ref va), .val (.ref vb), .val (.int 5)]) rfl (XS.goto X0.here hx rfl (pc0 := 29) (pc' := 9) rfl (hb hby dQl00_29) (by decide) (by decide) (XS.iloadN X0.here hx rfl (hb hby dQl00_9) rfl (XS.aloadN X0.here hx rfl (hb hby dQl00_10) rfl rfl (X0.arraylength hx (own_at e0 Ar_q118.1) (State.isArrayOf_alike hZ.alike Ar_q118.2.1) (g := (mkF m 11 #[.val (.ref va), .val (.ref vb), .val (.int 5)] [(.ref va), (.int 5)])) rfl rfl (hb hby dQl00_11) _ (own_fI (len_of S_q118 N_q118) (XS.icmpNo X0.here hx rfl (hb hby dQl00_12) rfl (by decide) (XS.aloadN X0.here hx rfl (hb hby dQl00_15) rfl rfl (XS.iloadN X0.here hx rfl (hb hby dQl00_16) rfl (X0.baloadBytes hx (j := (5 : Int32)) (v := (.int 100)) (own_at e0 Ar_q119.1) (State.isArrayOf_alike hZ.alike Ar_q119.2.1) Ar_q119.2.2 hin_q119 hat_q119 (g := (mkF m 17 #[.val (.ref va), .val (.ref vb), .val (.int 5)] [(.int 5), (.ref va)])) rfl rfl (hb hby dQl00_17) _ (XS.aloadN X0.here hx rfl (hb hby dQl00_18) rfl rfl (XS.iloadN X0.here hx rfl (hb hby dQl00_19) rfl (X0.baloadBytes hx (j := (5 : Int32)) (v := (.int 100)) (own_at e0 Ar_q120.1) (State.isArrayOf_alike hZ.alike Ar_q120.2.1) Ar_q120.2.2 hin_q120 hat_q120 (g := (mkF m 20 #[.val (.ref va), .val (.ref vb), .val (.int 5)] [(.int 5), (.ref vb), (.int 100)])) rfl rfl (hb hby dQl00_20) _ (XS.icmpYes X0.here hx rfl (pc0 := 21) (pc' := 26) rfl (hb hby dQl00_21) rfl (by decide) (by decide) (by decide) (XS.iinc X0.here hx rfl (hb hby dQl00_26) rfl (l' := #[.val (.ref va), .val (.ref vb), .val (.int 6)]) rfl (XS.goto X0.here hx rfl (pc0 := 29) (pc' := 9) rfl (hb hby dQl00_29) (by decide) (by decide) (XS.iloadN X0.here hx rfl (hb hby dQl00_9) rfl (XS.aloadN X0.here hx rfl (hb hby dQl00_10) rfl rfl (X0.arraylength hx (own_at e0 Ar_q121.1) (State.isArrayOf_alike hZ.alike Ar_q121.2.1) (g := (mkF m 11 #[.val (.ref va), .val (.ref vb), .val (.int 6)] [(.ref va), (.int 6)])) rfl rfl (hb hby dQl00_11) _ (own_fI (len_of S_q121 N_q121) (XS.icmpNo X0.here hx rfl (hb hby dQl00_12) rfl (by decide) (XS.aloadN X0.here hx rfl (hb hby dQl00_15) rfl rfl (XS.iloadN X0.here hx rfl (hb hby dQl00_16) rfl (X0.baloadBytes hx (j := (6 : Int32)) (v := (.int 97)) (own_at e0 Ar_q122.1) (State.isArrayOf_alike hZ.alike Ar_q122.2.1) Ar_q122.2.2 hin_q122 hat_q122 (g := (mkF m 17 #[.val (.ref va), .val (.ref vb), .val (.int 6)] [(.int 6), (.ref va)])) rfl rfl (hb hby dQl00_17) _ (XS.aloadN X0.here hx rfl (hb hby dQl00_18) rfl rfl (XS.iloadN X0.here hx rfl (hb hby dQl00_19) rfl (X0.baloadBytes hx (j := (6 : Int32)) (v := (.int 97)) (own_at e0 Ar_q123.1) (State.isArrayOf_alike hZ.alike Ar_q123.2.1) Ar_q123.2.2 hin_q123 hat_q123 (g := (mkF m 20 #[.val (.ref va), .val (.ref vb), .val (.int 6)] [(.int 6), (.ref vb), (.int 97)])) rfl rfl (hb hby dQl00_20) _ (XS.icmpYes X0.here hx rfl (pc0 := 21) (pc' := 26) rfl (hb hby dQl00_21) rfl (by decide) (by decide) (by decide) (XS.iinc X0.here hx rfl (hb hby dQl00_26) rfl (l' := #[.val (.ref va), .val (.ref vb), .val (.int 7)]) rfl (XS.goto X0.here hx rfl (pc0 := 29) (pc' := 9) rfl (hb hby dQl00_29) (by decide) (by decide) (XS.iloadN X0.here hx rfl (hb hby dQl00_9) rfl (XS.aloadN X0.here hx rfl (hb hby dQl00_10) rfl rfl (X0.arraylength hx (own_at e0 Ar_q124.1) (State.isArrayOf_alike hZ.alike Ar_q124.2.1) (g := (mkF m 11 #[.val (.ref va), .val (.ref vb), .val (.int 7)] [(.ref va), (.int 7)])) rfl rfl (hb hby dQl00_11) _ (own_fI (len_of S_q124 N_q124) (XS.icmpNo X0.here hx rfl (hb hby dQl00_12) rfl (by decide) (XS.aloadN X0.here hx rfl (hb hby dQl00_15) rfl rfl (XS.iloadN X0.here hx rfl (hb hby dQl00_16) rfl (X0.baloadBytes hx (j := (7 : Int32)) (v := (.int 116)) (own_at e0 Ar_q125.1) (State.isArrayOf_alike hZ.alike Ar_q125.2.1) Ar_q125.2.2 hin_q125 hat_q125 (g := (mkF m 17 #[.val (.ref va), .val (.ref vb), .val (.int 7)] [(.int 7), (.ref va)])) rfl rfl (hb hby dQl00_17) _ (XS.aloadN X0.here hx rfl (hb hby dQl00_18) rfl rfl (XS.iloadN X0.here hx rfl (hb hby dQl00_19) rfl (X0.baloadBytes hx (j := (7 : Int32)) (v := (.int 116)) (own_at e0 Ar_q126.1) (State.isArrayOf_alike hZ.alike Ar_q126.2.1) Ar_q126.2.2 hin_q126 hat_q126 (g := (mkF m 20 #[.val (.ref va), .val (.ref vb), .val (.int 7)] [(.int 7), (.ref vb), (.int 116)])) rfl rfl (hb hby dQl00_20) _ (XS.icmpYes X0.here hx rfl (pc0 := 21) (pc' := 26) rfl (hb hby dQl00_21) rfl (by decide) (by decide) (by decide) (XS.iinc X0.here hx rfl (hb hby dQl00_26) rfl (l' := #[.val (.ref va), .val (.ref vb), .val (.int 8)]) rfl kont)))))))))))))))))))))))))))))))))))))))))))))))))))))))))))) ?_
  show Go _ _ _ _ _ _ _ (s₁.setTop (mkF m 29 #[.val (.ref va), .val (.ref vb), .val (.int 8)] []))
  obtain ⟨cl_q127, Ar_q127, q1_q127, S_q127, N_q127, H_q127, G_q127⟩ := id V0_va
  obtain ⟨cl_q128, Ar_q128, q1_q128, S_q128, N_q128, H_q128, G_q128⟩ := id V0_va
  have hin_q128 := own_ib S_q128 (8 : Int32) (by decide)
  have hat_q128 : cl_q128.slots[((8 : Int32)).toNatClampNeg]? = some (.int 101) := Has.at H_q128 hin_q128 rfl
  obtain ⟨cl_q129, Ar_q129, q1_q129, S_q129, N_q129, H_q129, G_q129⟩ := id V0_vb
  have hin_q129 := own_ib S_q129 (8 : Int32) (by decide)
  have hat_q129 : cl_q129.slots[((8 : Int32)).toNatClampNeg]? = some (.int 101) := Has.at H_q129 hin_q129 rfl
  obtain ⟨cl_q130, Ar_q130, q1_q130, S_q130, N_q130, H_q130, G_q130⟩ := id V0_va
  refine Go.by (fun _ kont => XS.goto X0.here hx rfl (pc0 := 29) (pc' := 9) rfl (hb hby dQl00_29) (by decide) (by decide) (XS.iloadN X0.here hx rfl (hb hby dQl00_9) rfl (XS.aloadN X0.here hx rfl (hb hby dQl00_10) rfl rfl (X0.arraylength hx (own_at e0 Ar_q127.1) (State.isArrayOf_alike hZ.alike Ar_q127.2.1) (g := (mkF m 11 #[.val (.ref va), .val (.ref vb), .val (.int 8)] [(.ref va), (.int 8)])) rfl rfl (hb hby dQl00_11) _ (own_fI (len_of S_q127 N_q127) (XS.icmpNo X0.here hx rfl (hb hby dQl00_12) rfl (by decide) (XS.aloadN X0.here hx rfl (hb hby dQl00_15) rfl rfl (XS.iloadN X0.here hx rfl (hb hby dQl00_16) rfl (X0.baloadBytes hx (j := (8 : Int32)) (v := (.int 101)) (own_at e0 Ar_q128.1) (State.isArrayOf_alike hZ.alike Ar_q128.2.1) Ar_q128.2.2 hin_q128 hat_q128 (g := (mkF m 17 #[.val (.ref va), .val (.ref vb), .val (.int 8)] [(.int 8), (.ref va)])) rfl rfl (hb hby dQl00_17) _ (XS.aloadN X0.here hx rfl (hb hby dQl00_18) rfl rfl (XS.iloadN X0.here hx rfl (hb hby dQl00_19) rfl (X0.baloadBytes hx (j := (8 : Int32)) (v := (.int 101)) (own_at e0 Ar_q129.1) (State.isArrayOf_alike hZ.alike Ar_q129.2.1) Ar_q129.2.2 hin_q129 hat_q129 (g := (mkF m 20 #[.val (.ref va), .val (.ref vb), .val (.int 8)] [(.int 8), (.ref vb), (.int 101)])) rfl rfl (hb hby dQl00_20) _ (XS.icmpYes X0.here hx rfl (pc0 := 21) (pc' := 26) rfl (hb hby dQl00_21) rfl (by decide) (by decide) (by decide) (XS.iinc X0.here hx rfl (hb hby dQl00_26) rfl (l' := #[.val (.ref va), .val (.ref vb), .val (.int 9)]) rfl (XS.goto X0.here hx rfl (pc0 := 29) (pc' := 9) rfl (hb hby dQl00_29) (by decide) (by decide) (XS.iloadN X0.here hx rfl (hb hby dQl00_9) rfl (XS.aloadN X0.here hx rfl (hb hby dQl00_10) rfl rfl (X0.arraylength hx (own_at e0 Ar_q130.1) (State.isArrayOf_alike hZ.alike Ar_q130.2.1) (g := (mkF m 11 #[.val (.ref va), .val (.ref vb), .val (.int 9)] [(.ref va), (.int 9)])) rfl rfl (hb hby dQl00_11) _ (own_fI (len_of S_q130 N_q130) (XS.icmpYes X0.here hx rfl (pc0 := 12) (pc' := 32) rfl (hb hby dQl00_12) rfl (by decide) (by decide) (by decide) (XS.iconst X0.here hx rfl (hb hby dQl00_32) kont))))))))))))))))))))) ?_
  show Go _ _ _ _ _ _ _ (s₁.setTop (mkF m 33 #[.val (.ref va), .val (.ref vb), .val (.int 9)] [(.int 1)]))
  refine Go.retN X0 hx (t := .boolean) hret (by simp) hlk (hb hby dQl00_33) ?_ (by decide) (by decide)
  show QQl22 Z  h0 n0 (some (.int (1 : Int32))) s₁.heap _
  rw [e0]
  exact ⟨rfl, N0, rfl⟩

theorem pdEq22_0 : parseMethodDescriptor "([B[B)Z" = some ⟨[(.array .byte), (.array .byte)], some .boolean⟩ := by decide +kernel
theorem pnEq22 : plainName "java/lang/String" = true := by first | (simp [plainName, overriddenIn]; done) | decide +kernel
theorem efEq22 (m : MethodId) (a : Addr) (b : Addr) : entryFrame m #[(.ref a), (.ref b)] 3 = mkF m 0 #[.val (.ref a), .val (.ref b), .unset] [] := by first | (simp [entryFrame, mkF, argsToLocals, Value.category]; done) | rfl
def QEq22 (Z : State)  (h0 : Heap) (n0 : Nat) (v : Option Value) (h : Heap) (L : List Loc) : Prop := (v = some (.int 1) ∧ Fr n0 L ∧ h = h0)
set_option maxRecDepth 65536 in
set_option maxHeartbeats 40000000 in
theorem rmEq22 (l : Launch) (Z : State) (a0 : Array Value) (hw : ∀ d ∈ tables_1, d.before a0 Z = true) (ws : List Jvm.Cond) (a : Addr) (b : Addr) (va : Addr) (vb : Addr) (kc_va : ClassId) (kc_vb : ClassId) (cs : Int32) (h0 : Heap) (n0 : Nat) (Z0 : n0 ≤ h0.size) (E0_a : Exa Z h0 a "java/lang/String") (F0_a_coder : Fld Z h0 a "java/lang/String" "coder" "B" (.int 0)) (F0_a_value : Fld Z h0 a "java/lang/String" "value" "[B" (.ref va)) (E0_b : Exa Z h0 b "java/lang/String") (F0_b_coder : Fld Z h0 b "java/lang/String" "coder" "B" (.int 0)) (F0_b_value : Fld Z h0 b "java/lang/String" "value" "[B" (.ref vb)) (V0_va : Arv Z h0 va kc_va .byte (9 : Int32) [(.int 108), (.int 105), (.int 113), (.int 117), (.int 105), (.int 100), (.int 97), (.int 116), (.int 101)] (.int 0)) (V0_vb : Arv Z h0 vb kc_vb .byte (9 : Int32) [(.int 108), (.int 105), (.int 113), (.int 117), (.int 105), (.int 100), (.int 97), (.int 116), (.int 101)] (.int 0)) (ne0_a_b : a ≠ b) (S0_COMPACT_STRINGS : Sta Z h0 "java/lang/String" "COMPACT_STRINGS" "Z" (.int cs)) (hcs : ¬ (cs = (0 : Int32))) :
    Ct l Z (⟨"java/lang/String", "equals", "(Ljava/lang/Object;)Z"⟩ : MethodName) jdk_42_method_66_code 3 (some .boolean) ws (⟨1, 0, 0, 14⟩ : Room) #[(.ref a), (.ref b)] h0 (QEq22 Z  h0 n0) := by
  refine MetFree.of_bodySF (plainFor_of_name pnEq22) hisR ?_
  intro p e s m args below meth c s₁ Bd hml hP hK
  obtain ⟨rfl, hZ, hh⟩ := hP
  obtain ⟨hx, hby, hown, hnm, hlk, hret, X0, e0⟩ := own_st Bd "java/lang/String" rfl hh
  have N0 := Fr.nil n0
  show Go p e below s (⟨1, 0, 0, 14⟩ : Room).cells (⟨1, 0, 0, 14⟩ : Room).slots (QEq22 Z  h0 n0) (s₁.setTop (entryFrame m #[(.ref a), (.ref b)] 3))
  rw [efEq22]
  refine Go.by (fun _ kont => XS.aloadN X0.here hx rfl (hb hby dEs_0) rfl rfl (XS.aloadN X0.here hx rfl (hb hby dEs_1) rfl rfl kont)) ?_
  show Go _ _ _ _ _ _ _ (s₁.setTop (mkF m 2 #[.val (.ref a), .val (.ref b), .unset] [(.ref b), (.ref a)]))
  refine Go.by (fun _ kont => Jvm.RoadKit.acmp (g := (mkF m 2 #[.val (.ref a), .val (.ref b), .unset] [(.ref b), (.ref a)])) X0 hx rfl rfl rfl (pc0 := 2) (pc' := 7) (same := false) rfl (hb hby dEs_2) rfl (decide_eq_false fun q => ne0_a_b (Value.ref.inj q)) (by decide) (by decide) kont) ?_
  show Go _ _ _ _ _ _ _ (s₁.setTop (mkF m 7 #[.val (.ref a), .val (.ref b), .unset] []))
  obtain ⟨T101, X101, e101, st101⟩ := instY X0 hx hZ hown (own_w hw 95 rfl) e0 (Ins.self E0_b) (g := (mkF m 8 #[.val (.ref a), .val (.ref b), .unset] [(.ref b)])) rfl rfl (hb hby dEq00_8)
  obtain ⟨T102, X102, e102, st102⟩ := castY X101 hx hZ hown (own_w hw 95 rfl) e101 (Ins.self E0_b) (g := (mkF m 15 #[.val (.ref a), .val (.ref b), .unset] [(.ref b)])) rfl rfl (hb hby dEq00_15)
  obtain ⟨T103, X103, e103, st103⟩ := getS2 X102 hx hZ hown (host := "") (Or.inl (own_w hw 18 rfl)) Via.refl e102 S0_COMPACT_STRINGS (g := (mkF m 19 #[.val (.ref a), .val (.ref b), .val (.ref b)] [])) rfl (hb hby dEq00_19)
  refine Go.by (fun _ kont => XS.aloadN X0.here hx rfl (hb hby dEq00_7) rfl rfl (st101 _ (XS.ifNo X101.here hx rfl (hb hby dEq00_11) rfl (by decide) (XS.aloadN X101.here hx rfl (hb hby dEq00_14) rfl rfl (st102 _ (XS.astoreN X102.here hx rfl (hb hby dEq00_18) rfl rfl (l' := #[.val (.ref a), .val (.ref b), .val (.ref b)]) rfl (st103 _ kont))))))) ?_
  show Go _ _ _ _ _ _ _ (T103.setTop (mkF m 22 #[.val (.ref a), .val (.ref b), .val (.ref b)] [(.int cs)]))
  refine Go.by (fun _ kont => XS.ifNo X103.here hx rfl (hb hby dEq00_22) rfl ((if0 _ _).trans (feq hcs).1) kont) ?_
  show Go _ _ _ _ _ _ _ (T103.setTop (mkF m 25 #[.val (.ref a), .val (.ref b), .val (.ref b)] []))
  obtain ⟨T104, X104, e104, st104⟩ := getF X103 hx hZ hown (host := "") (Or.inl (own_w hw 30 rfl)) Via.refl e103 F0_a_coder (g := (mkF m 26 #[.val (.ref a), .val (.ref b), .val (.ref b)] [(.ref a)])) rfl rfl (hb hby dEq00_26)
  obtain ⟨T105, X105, e105, st105⟩ := getF X104 hx hZ hown (host := "") (Or.inl (own_w hw 30 rfl)) Via.refl e104 F0_b_coder (g := (mkF m 30 #[.val (.ref a), .val (.ref b), .val (.ref b)] [(.ref b), (.int 0)])) rfl rfl (hb hby dEq00_30)
  obtain ⟨T106, X106, e106, st106⟩ := getF X105 hx hZ hown (host := "") (Or.inl (own_w hw 32 rfl)) Via.refl e105 F0_a_value (g := (mkF m 37 #[.val (.ref a), .val (.ref b), .val (.ref b)] [(.ref a)])) rfl rfl (hb hby dEq00_37)
  obtain ⟨T107, X107, e107, st107⟩ := getF X106 hx hZ hown (host := "") (Or.inl (own_w hw 32 rfl)) Via.refl e106 F0_b_value (g := (mkF m 41 #[.val (.ref a), .val (.ref b), .val (.ref b)] [(.ref b), (.ref va)])) rfl rfl (hb hby dEq00_41)
  obtain ⟨_, _, ⟨T108, L108, k108, n108⟩, -, X108, ⟨Lc108, hQ108, l108, y108, z108⟩, st108⟩ := Jvm.LawKit.callS X107 hx (y := (⟨"java/lang/StringLatin1", "equals", "([B[B)Z"⟩ : MethodName)) hown (mvT hZ (own_w hw 96 rfl)) (mvT hZ (own_w hw 97 rfl)) (mvT hZ (own_w hw 98 rfl)) (mvT hZ (own_w hw 99 rfl)) (by decide) (backOf (W := 0) (rmQl22 l Z a0 hw [] va vb kc_va kc_vb h0 n0 Z0 V0_va V0_vb) hZ (own_w hw 99 rfl) (own_w hw 98 rfl) (by decide) (by decide)) (g := (mkF m 44 #[.val (.ref a), .val (.ref b), .val (.ref b)] [(.ref vb), (.ref va)])) rfl (by rw [hml]; rfl) (argsL := [(.ref va), (.ref vb)]) (rest := []) (lenOf pdEq22_0 rfl) rfl (by show 2 * 0 + _ ≤ _; exact Nat.le_of_eq rfl) (hb hby dEq00_44) (fun _ _ => ⟨rfl, e107, (by decide : 0 + 0 ≤ _), (by decide : 0 + 0 ≤ _)⟩)
  dsimp only [Pt.U, Pt.locs, Pt.cells, Pt.slots] at X108 l108 y108 z108 st108 hQ108
  subst l108 y108 z108
  obtain ⟨rfl, N108q, eh108⟩ := hQ108
  have N108 := Fr.app N0 N108q
  refine Go.by (fun _ kont => XS.aloadN X103.here hx rfl (hb hby dEq00_25) rfl rfl (st104 _ (XS.aloadN X104.here hx rfl (hb hby dEq00_29) rfl rfl (st105 _ (XS.icmpNo X105.here hx rfl (hb hby dEq00_33) rfl (by decide) (XS.aloadN X105.here hx rfl (hb hby dEq00_36) rfl rfl (st106 _ (XS.aloadN X106.here hx rfl (hb hby dEq00_40) rfl rfl (st107 _ (st108 _ (XS.ifNo X108.here hx rfl (hb hby dEq00_47) rfl (by decide) (XS.iconst X108.here hx rfl (hb hby dEq00_50) (XS.goto X108.here hx rfl (pc0 := 51) (pc' := 55) rfl (hb hby dEq00_51) (by decide) (by decide) kont))))))))))))) ?_
  show Go _ _ _ _ _ _ _ (T108.setTop (mkF m 55 #[.val (.ref a), .val (.ref b), .val (.ref b)] [(.int 1)]))
  refine Go.retN X108 hx (t := .boolean) hret (by simp) hlk (hb hby dEq00_55) ?_ (by decide) (by decide)
  show QEq22 Z  h0 n0 (some (.int (1 : Int32))) T108.heap _
  rw [eh108]
  exact ⟨rfl, N108, rfl⟩

theorem dQl01_34 : decode jdk_43_method_13_code 34 = .ok (.iconst 0, 1) := by decide +kernel
theorem dQl01_35 : decode jdk_43_method_13_code 35 = .ok (.ireturn, 1) := by decide +kernel
theorem pnQl01 : plainName "java/lang/StringLatin1" = true := by first | (simp [plainName, overriddenIn]; done) | decide +kernel
theorem efQl01 (m : MethodId) (va : Addr) (vb : Addr) : entryFrame m #[(.ref va), (.ref vb)] 3 = mkF m 0 #[.val (.ref va), .val (.ref vb), .unset] [] := by first | (simp [entryFrame, mkF, argsToLocals, Value.category]; done) | rfl
def QQl01 (Z : State)  (h0 : Heap) (n0 : Nat) (v : Option Value) (h : Heap) (L : List Loc) : Prop := (v = some (.int 0) ∧ Fr n0 L ∧ h = h0)
set_option maxRecDepth 65536 in
set_option maxHeartbeats 40000000 in
theorem rmQl01 (l : Launch) (Z : State) (a0 : Array Value) (hw : ∀ d ∈ tables_1, d.before a0 Z = true) (ws : List Jvm.Cond) (va : Addr) (vb : Addr) (kc_va : ClassId) (kc_vb : ClassId) (h0 : Heap) (n0 : Nat) (Z0 : n0 ≤ h0.size) (V0_va : Arv Z h0 va kc_va .byte (6 : Int32) [(.int 110), (.int 111), (.int 114), (.int 109), (.int 97), (.int 108)] (.int 0)) (V0_vb : Arv Z h0 vb kc_vb .byte (11 : Int32) [(.int 110), (.int 111), (.int 95), (.int 110), (.int 101), (.int 119), (.int 95), (.int 111), (.int 112), (.int 101), (.int 110)] (.int 0)) :
    Ct l Z (⟨"java/lang/StringLatin1", "equals", "([B[B)Z"⟩ : MethodName) jdk_43_method_13_code 3 (some .boolean) ws (⟨0, 0, 0, 0⟩ : Room) #[(.ref va), (.ref vb)] h0 (QQl01 Z  h0 n0) := by
  refine MetFree.of_bodySF (plainFor_of_name pnQl01) hisR ?_
  intro p e s m args below meth c s₁ Bd hml hP hK
  obtain ⟨rfl, hZ, hh⟩ := hP
  obtain ⟨hx, hby, hown, hnm, hlk, hret, X0, e0⟩ := own_st Bd "java/lang/StringLatin1" rfl hh
  have N0 := Fr.nil n0
  show Go p e below s (⟨0, 0, 0, 0⟩ : Room).cells (⟨0, 0, 0, 0⟩ : Room).slots (QQl01 Z  h0 n0) (s₁.setTop (entryFrame m #[(.ref va), (.ref vb)] 3))
  rw [efQl01]
  obtain ⟨cl_q101, Ar_q101, q1_q101, S_q101, N_q101, H_q101, G_q101⟩ := id V0_va
  obtain ⟨cl_q102, Ar_q102, q1_q102, S_q102, N_q102, H_q102, G_q102⟩ := id V0_vb
  refine Go.by (fun _ kont => XS.aloadN X0.here hx rfl (hb hby dQl00_0) rfl rfl (X0.arraylength hx (own_at e0 Ar_q101.1) (State.isArrayOf_alike hZ.alike Ar_q101.2.1) (g := (mkF m 1 #[.val (.ref va), .val (.ref vb), .unset] [(.ref va)])) rfl rfl (hb hby dQl00_1) _ (own_fI (len_of S_q101 N_q101) (XS.aloadN X0.here hx rfl (hb hby dQl00_2) rfl rfl (X0.arraylength hx (own_at e0 Ar_q102.1) (State.isArrayOf_alike hZ.alike Ar_q102.2.1) (g := (mkF m 3 #[.val (.ref va), .val (.ref vb), .unset] [(.ref vb), (.int 6)])) rfl rfl (hb hby dQl00_3) _ (own_fI (len_of S_q102 N_q102) (XS.icmpYes X0.here hx rfl (pc0 := 4) (pc' := 34) rfl (hb hby dQl00_4) rfl (by decide) (by decide) (by decide) (XS.iconst X0.here hx rfl (hb hby dQl01_34) kont)))))))) ?_
  show Go _ _ _ _ _ _ _ (s₁.setTop (mkF m 35 #[.val (.ref va), .val (.ref vb), .unset] [(.int 0)]))
  refine Go.retN X0 hx (t := .boolean) hret (by simp) hlk (hb hby dQl01_35) ?_ (by decide) (by decide)
  show QQl01 Z  h0 n0 (some (.int (0 : Int32))) s₁.heap _
  rw [e0]
  exact ⟨rfl, N0, rfl⟩

theorem dEq01_54 : decode jdk_42_method_66_code 54 = .ok (.iconst 0, 1) := by decide +kernel
theorem pdEq01_0 : parseMethodDescriptor "([B[B)Z" = some ⟨[(.array .byte), (.array .byte)], some .boolean⟩ := by decide +kernel
theorem pnEq01 : plainName "java/lang/String" = true := by first | (simp [plainName, overriddenIn]; done) | decide +kernel
theorem efEq01 (m : MethodId) (a : Addr) (b : Addr) : entryFrame m #[(.ref a), (.ref b)] 3 = mkF m 0 #[.val (.ref a), .val (.ref b), .unset] [] := by first | (simp [entryFrame, mkF, argsToLocals, Value.category]; done) | rfl
def QEq01 (Z : State)  (h0 : Heap) (n0 : Nat) (v : Option Value) (h : Heap) (L : List Loc) : Prop := (v = some (.int 0) ∧ Fr n0 L ∧ h = h0)
set_option maxRecDepth 65536 in
set_option maxHeartbeats 40000000 in
theorem rmEq01 (l : Launch) (Z : State) (a0 : Array Value) (hw : ∀ d ∈ tables_1, d.before a0 Z = true) (ws : List Jvm.Cond) (a : Addr) (b : Addr) (va : Addr) (vb : Addr) (kc_va : ClassId) (kc_vb : ClassId) (cs : Int32) (h0 : Heap) (n0 : Nat) (Z0 : n0 ≤ h0.size) (E0_a : Exa Z h0 a "java/lang/String") (F0_a_coder : Fld Z h0 a "java/lang/String" "coder" "B" (.int 0)) (F0_a_value : Fld Z h0 a "java/lang/String" "value" "[B" (.ref va)) (E0_b : Exa Z h0 b "java/lang/String") (F0_b_coder : Fld Z h0 b "java/lang/String" "coder" "B" (.int 0)) (F0_b_value : Fld Z h0 b "java/lang/String" "value" "[B" (.ref vb)) (V0_va : Arv Z h0 va kc_va .byte (6 : Int32) [(.int 110), (.int 111), (.int 114), (.int 109), (.int 97), (.int 108)] (.int 0)) (V0_vb : Arv Z h0 vb kc_vb .byte (11 : Int32) [(.int 110), (.int 111), (.int 95), (.int 110), (.int 101), (.int 119), (.int 95), (.int 111), (.int 112), (.int 101), (.int 110)] (.int 0)) (ne0_a_b : a ≠ b) (S0_COMPACT_STRINGS : Sta Z h0 "java/lang/String" "COMPACT_STRINGS" "Z" (.int cs)) (hcs : ¬ (cs = (0 : Int32))) :
    Ct l Z (⟨"java/lang/String", "equals", "(Ljava/lang/Object;)Z"⟩ : MethodName) jdk_42_method_66_code 3 (some .boolean) ws (⟨1, 0, 0, 14⟩ : Room) #[(.ref a), (.ref b)] h0 (QEq01 Z  h0 n0) := by
  refine MetFree.of_bodySF (plainFor_of_name pnEq01) hisR ?_
  intro p e s m args below meth c s₁ Bd hml hP hK
  obtain ⟨rfl, hZ, hh⟩ := hP
  obtain ⟨hx, hby, hown, hnm, hlk, hret, X0, e0⟩ := own_st Bd "java/lang/String" rfl hh
  have N0 := Fr.nil n0
  show Go p e below s (⟨1, 0, 0, 14⟩ : Room).cells (⟨1, 0, 0, 14⟩ : Room).slots (QEq01 Z  h0 n0) (s₁.setTop (entryFrame m #[(.ref a), (.ref b)] 3))
  rw [efEq01]
  refine Go.by (fun _ kont => XS.aloadN X0.here hx rfl (hb hby dEs_0) rfl rfl (XS.aloadN X0.here hx rfl (hb hby dEs_1) rfl rfl kont)) ?_
  show Go _ _ _ _ _ _ _ (s₁.setTop (mkF m 2 #[.val (.ref a), .val (.ref b), .unset] [(.ref b), (.ref a)]))
  refine Go.by (fun _ kont => Jvm.RoadKit.acmp (g := (mkF m 2 #[.val (.ref a), .val (.ref b), .unset] [(.ref b), (.ref a)])) X0 hx rfl rfl rfl (pc0 := 2) (pc' := 7) (same := false) rfl (hb hby dEs_2) rfl (decide_eq_false fun q => ne0_a_b (Value.ref.inj q)) (by decide) (by decide) kont) ?_
  show Go _ _ _ _ _ _ _ (s₁.setTop (mkF m 7 #[.val (.ref a), .val (.ref b), .unset] []))
  obtain ⟨T101, X101, e101, st101⟩ := instY X0 hx hZ hown (own_w hw 95 rfl) e0 (Ins.self E0_b) (g := (mkF m 8 #[.val (.ref a), .val (.ref b), .unset] [(.ref b)])) rfl rfl (hb hby dEq00_8)
  obtain ⟨T102, X102, e102, st102⟩ := castY X101 hx hZ hown (own_w hw 95 rfl) e101 (Ins.self E0_b) (g := (mkF m 15 #[.val (.ref a), .val (.ref b), .unset] [(.ref b)])) rfl rfl (hb hby dEq00_15)
  obtain ⟨T103, X103, e103, st103⟩ := getS2 X102 hx hZ hown (host := "") (Or.inl (own_w hw 18 rfl)) Via.refl e102 S0_COMPACT_STRINGS (g := (mkF m 19 #[.val (.ref a), .val (.ref b), .val (.ref b)] [])) rfl (hb hby dEq00_19)
  refine Go.by (fun _ kont => XS.aloadN X0.here hx rfl (hb hby dEq00_7) rfl rfl (st101 _ (XS.ifNo X101.here hx rfl (hb hby dEq00_11) rfl (by decide) (XS.aloadN X101.here hx rfl (hb hby dEq00_14) rfl rfl (st102 _ (XS.astoreN X102.here hx rfl (hb hby dEq00_18) rfl rfl (l' := #[.val (.ref a), .val (.ref b), .val (.ref b)]) rfl (st103 _ kont))))))) ?_
  show Go _ _ _ _ _ _ _ (T103.setTop (mkF m 22 #[.val (.ref a), .val (.ref b), .val (.ref b)] [(.int cs)]))
  refine Go.by (fun _ kont => XS.ifNo X103.here hx rfl (hb hby dEq00_22) rfl ((if0 _ _).trans (feq hcs).1) kont) ?_
  show Go _ _ _ _ _ _ _ (T103.setTop (mkF m 25 #[.val (.ref a), .val (.ref b), .val (.ref b)] []))
  obtain ⟨T104, X104, e104, st104⟩ := getF X103 hx hZ hown (host := "") (Or.inl (own_w hw 30 rfl)) Via.refl e103 F0_a_coder (g := (mkF m 26 #[.val (.ref a), .val (.ref b), .val (.ref b)] [(.ref a)])) rfl rfl (hb hby dEq00_26)
  obtain ⟨T105, X105, e105, st105⟩ := getF X104 hx hZ hown (host := "") (Or.inl (own_w hw 30 rfl)) Via.refl e104 F0_b_coder (g := (mkF m 30 #[.val (.ref a), .val (.ref b), .val (.ref b)] [(.ref b), (.int 0)])) rfl rfl (hb hby dEq00_30)
  obtain ⟨T106, X106, e106, st106⟩ := getF X105 hx hZ hown (host := "") (Or.inl (own_w hw 32 rfl)) Via.refl e105 F0_a_value (g := (mkF m 37 #[.val (.ref a), .val (.ref b), .val (.ref b)] [(.ref a)])) rfl rfl (hb hby dEq00_37)
  obtain ⟨T107, X107, e107, st107⟩ := getF X106 hx hZ hown (host := "") (Or.inl (own_w hw 32 rfl)) Via.refl e106 F0_b_value (g := (mkF m 41 #[.val (.ref a), .val (.ref b), .val (.ref b)] [(.ref b), (.ref va)])) rfl rfl (hb hby dEq00_41)
  obtain ⟨_, _, ⟨T108, L108, k108, n108⟩, -, X108, ⟨Lc108, hQ108, l108, y108, z108⟩, st108⟩ := Jvm.LawKit.callS X107 hx (y := (⟨"java/lang/StringLatin1", "equals", "([B[B)Z"⟩ : MethodName)) hown (mvT hZ (own_w hw 96 rfl)) (mvT hZ (own_w hw 97 rfl)) (mvT hZ (own_w hw 98 rfl)) (mvT hZ (own_w hw 99 rfl)) (by decide) (backOf (W := 0) (rmQl01 l Z a0 hw [] va vb kc_va kc_vb h0 n0 Z0 V0_va V0_vb) hZ (own_w hw 99 rfl) (own_w hw 98 rfl) (by decide) (by decide)) (g := (mkF m 44 #[.val (.ref a), .val (.ref b), .val (.ref b)] [(.ref vb), (.ref va)])) rfl (by rw [hml]; rfl) (argsL := [(.ref va), (.ref vb)]) (rest := []) (lenOf pdEq01_0 rfl) rfl (by show 2 * 0 + _ ≤ _; exact Nat.le_of_eq rfl) (hb hby dEq00_44) (fun _ _ => ⟨rfl, e107, (by decide : 0 + 0 ≤ _), (by decide : 0 + 0 ≤ _)⟩)
  dsimp only [Pt.U, Pt.locs, Pt.cells, Pt.slots] at X108 l108 y108 z108 st108 hQ108
  subst l108 y108 z108
  obtain ⟨rfl, N108q, eh108⟩ := hQ108
  have N108 := Fr.app N0 N108q
  refine Go.by (fun _ kont => XS.aloadN X103.here hx rfl (hb hby dEq00_25) rfl rfl (st104 _ (XS.aloadN X104.here hx rfl (hb hby dEq00_29) rfl rfl (st105 _ (XS.icmpNo X105.here hx rfl (hb hby dEq00_33) rfl (by decide) (XS.aloadN X105.here hx rfl (hb hby dEq00_36) rfl rfl (st106 _ (XS.aloadN X106.here hx rfl (hb hby dEq00_40) rfl rfl (st107 _ (st108 _ (XS.ifYes X108.here hx rfl (pc0 := 47) (pc' := 54) rfl (hb hby dEq00_47) rfl (by decide) (by decide) (by decide) (XS.iconst X108.here hx rfl (hb hby dEq01_54) kont)))))))))))) ?_
  show Go _ _ _ _ _ _ _ (T108.setTop (mkF m 55 #[.val (.ref a), .val (.ref b), .val (.ref b)] [(.int 0)]))
  refine Go.retN X108 hx (t := .boolean) hret (by simp) hlk (hb hby dEq00_55) ?_ (by decide) (by decide)
  show QEq01 Z  h0 n0 (some (.int (0 : Int32))) T108.heap _
  rw [eh108]
  exact ⟨rfl, N108, rfl⟩

theorem pnQl02 : plainName "java/lang/StringLatin1" = true := by first | (simp [plainName, overriddenIn]; done) | decide +kernel
theorem efQl02 (m : MethodId) (va : Addr) (vb : Addr) : entryFrame m #[(.ref va), (.ref vb)] 3 = mkF m 0 #[.val (.ref va), .val (.ref vb), .unset] [] := by first | (simp [entryFrame, mkF, argsToLocals, Value.category]; done) | rfl
def QQl02 (Z : State)  (h0 : Heap) (n0 : Nat) (v : Option Value) (h : Heap) (L : List Loc) : Prop := (v = some (.int 0) ∧ Fr n0 L ∧ h = h0)
set_option maxRecDepth 65536 in
set_option maxHeartbeats 40000000 in
theorem rmQl02 (l : Launch) (Z : State) (a0 : Array Value) (hw : ∀ d ∈ tables_1, d.before a0 Z = true) (ws : List Jvm.Cond) (va : Addr) (vb : Addr) (kc_va : ClassId) (kc_vb : ClassId) (h0 : Heap) (n0 : Nat) (Z0 : n0 ≤ h0.size) (V0_va : Arv Z h0 va kc_va .byte (6 : Int32) [(.int 110), (.int 111), (.int 114), (.int 109), (.int 97), (.int 108)] (.int 0)) (V0_vb : Arv Z h0 vb kc_vb .byte (9 : Int32) [(.int 108), (.int 105), (.int 113), (.int 117), (.int 105), (.int 100), (.int 97), (.int 116), (.int 101)] (.int 0)) :
    Ct l Z (⟨"java/lang/StringLatin1", "equals", "([B[B)Z"⟩ : MethodName) jdk_43_method_13_code 3 (some .boolean) ws (⟨0, 0, 0, 0⟩ : Room) #[(.ref va), (.ref vb)] h0 (QQl02 Z  h0 n0) := by
  refine MetFree.of_bodySF (plainFor_of_name pnQl02) hisR ?_
  intro p e s m args below meth c s₁ Bd hml hP hK
  obtain ⟨rfl, hZ, hh⟩ := hP
  obtain ⟨hx, hby, hown, hnm, hlk, hret, X0, e0⟩ := own_st Bd "java/lang/StringLatin1" rfl hh
  have N0 := Fr.nil n0
  show Go p e below s (⟨0, 0, 0, 0⟩ : Room).cells (⟨0, 0, 0, 0⟩ : Room).slots (QQl02 Z  h0 n0) (s₁.setTop (entryFrame m #[(.ref va), (.ref vb)] 3))
  rw [efQl02]
  obtain ⟨cl_q101, Ar_q101, q1_q101, S_q101, N_q101, H_q101, G_q101⟩ := id V0_va
  obtain ⟨cl_q102, Ar_q102, q1_q102, S_q102, N_q102, H_q102, G_q102⟩ := id V0_vb
  refine Go.by (fun _ kont => XS.aloadN X0.here hx rfl (hb hby dQl00_0) rfl rfl (X0.arraylength hx (own_at e0 Ar_q101.1) (State.isArrayOf_alike hZ.alike Ar_q101.2.1) (g := (mkF m 1 #[.val (.ref va), .val (.ref vb), .unset] [(.ref va)])) rfl rfl (hb hby dQl00_1) _ (own_fI (len_of S_q101 N_q101) (XS.aloadN X0.here hx rfl (hb hby dQl00_2) rfl rfl (X0.arraylength hx (own_at e0 Ar_q102.1) (State.isArrayOf_alike hZ.alike Ar_q102.2.1) (g := (mkF m 3 #[.val (.ref va), .val (.ref vb), .unset] [(.ref vb), (.int 6)])) rfl rfl (hb hby dQl00_3) _ (own_fI (len_of S_q102 N_q102) (XS.icmpYes X0.here hx rfl (pc0 := 4) (pc' := 34) rfl (hb hby dQl00_4) rfl (by decide) (by decide) (by decide) (XS.iconst X0.here hx rfl (hb hby dQl01_34) kont)))))))) ?_
  show Go _ _ _ _ _ _ _ (s₁.setTop (mkF m 35 #[.val (.ref va), .val (.ref vb), .unset] [(.int 0)]))
  refine Go.retN X0 hx (t := .boolean) hret (by simp) hlk (hb hby dQl01_35) ?_ (by decide) (by decide)
  show QQl02 Z  h0 n0 (some (.int (0 : Int32))) s₁.heap _
  rw [e0]
  exact ⟨rfl, N0, rfl⟩

theorem pdEq02_0 : parseMethodDescriptor "([B[B)Z" = some ⟨[(.array .byte), (.array .byte)], some .boolean⟩ := by decide +kernel
theorem pnEq02 : plainName "java/lang/String" = true := by first | (simp [plainName, overriddenIn]; done) | decide +kernel
theorem efEq02 (m : MethodId) (a : Addr) (b : Addr) : entryFrame m #[(.ref a), (.ref b)] 3 = mkF m 0 #[.val (.ref a), .val (.ref b), .unset] [] := by first | (simp [entryFrame, mkF, argsToLocals, Value.category]; done) | rfl
def QEq02 (Z : State)  (h0 : Heap) (n0 : Nat) (v : Option Value) (h : Heap) (L : List Loc) : Prop := (v = some (.int 0) ∧ Fr n0 L ∧ h = h0)
set_option maxRecDepth 65536 in
set_option maxHeartbeats 40000000 in
theorem rmEq02 (l : Launch) (Z : State) (a0 : Array Value) (hw : ∀ d ∈ tables_1, d.before a0 Z = true) (ws : List Jvm.Cond) (a : Addr) (b : Addr) (va : Addr) (vb : Addr) (kc_va : ClassId) (kc_vb : ClassId) (cs : Int32) (h0 : Heap) (n0 : Nat) (Z0 : n0 ≤ h0.size) (E0_a : Exa Z h0 a "java/lang/String") (F0_a_coder : Fld Z h0 a "java/lang/String" "coder" "B" (.int 0)) (F0_a_value : Fld Z h0 a "java/lang/String" "value" "[B" (.ref va)) (E0_b : Exa Z h0 b "java/lang/String") (F0_b_coder : Fld Z h0 b "java/lang/String" "coder" "B" (.int 0)) (F0_b_value : Fld Z h0 b "java/lang/String" "value" "[B" (.ref vb)) (V0_va : Arv Z h0 va kc_va .byte (6 : Int32) [(.int 110), (.int 111), (.int 114), (.int 109), (.int 97), (.int 108)] (.int 0)) (V0_vb : Arv Z h0 vb kc_vb .byte (9 : Int32) [(.int 108), (.int 105), (.int 113), (.int 117), (.int 105), (.int 100), (.int 97), (.int 116), (.int 101)] (.int 0)) (ne0_a_b : a ≠ b) (S0_COMPACT_STRINGS : Sta Z h0 "java/lang/String" "COMPACT_STRINGS" "Z" (.int cs)) (hcs : ¬ (cs = (0 : Int32))) :
    Ct l Z (⟨"java/lang/String", "equals", "(Ljava/lang/Object;)Z"⟩ : MethodName) jdk_42_method_66_code 3 (some .boolean) ws (⟨1, 0, 0, 14⟩ : Room) #[(.ref a), (.ref b)] h0 (QEq02 Z  h0 n0) := by
  refine MetFree.of_bodySF (plainFor_of_name pnEq02) hisR ?_
  intro p e s m args below meth c s₁ Bd hml hP hK
  obtain ⟨rfl, hZ, hh⟩ := hP
  obtain ⟨hx, hby, hown, hnm, hlk, hret, X0, e0⟩ := own_st Bd "java/lang/String" rfl hh
  have N0 := Fr.nil n0
  show Go p e below s (⟨1, 0, 0, 14⟩ : Room).cells (⟨1, 0, 0, 14⟩ : Room).slots (QEq02 Z  h0 n0) (s₁.setTop (entryFrame m #[(.ref a), (.ref b)] 3))
  rw [efEq02]
  refine Go.by (fun _ kont => XS.aloadN X0.here hx rfl (hb hby dEs_0) rfl rfl (XS.aloadN X0.here hx rfl (hb hby dEs_1) rfl rfl kont)) ?_
  show Go _ _ _ _ _ _ _ (s₁.setTop (mkF m 2 #[.val (.ref a), .val (.ref b), .unset] [(.ref b), (.ref a)]))
  refine Go.by (fun _ kont => Jvm.RoadKit.acmp (g := (mkF m 2 #[.val (.ref a), .val (.ref b), .unset] [(.ref b), (.ref a)])) X0 hx rfl rfl rfl (pc0 := 2) (pc' := 7) (same := false) rfl (hb hby dEs_2) rfl (decide_eq_false fun q => ne0_a_b (Value.ref.inj q)) (by decide) (by decide) kont) ?_
  show Go _ _ _ _ _ _ _ (s₁.setTop (mkF m 7 #[.val (.ref a), .val (.ref b), .unset] []))
  obtain ⟨T101, X101, e101, st101⟩ := instY X0 hx hZ hown (own_w hw 95 rfl) e0 (Ins.self E0_b) (g := (mkF m 8 #[.val (.ref a), .val (.ref b), .unset] [(.ref b)])) rfl rfl (hb hby dEq00_8)
  obtain ⟨T102, X102, e102, st102⟩ := castY X101 hx hZ hown (own_w hw 95 rfl) e101 (Ins.self E0_b) (g := (mkF m 15 #[.val (.ref a), .val (.ref b), .unset] [(.ref b)])) rfl rfl (hb hby dEq00_15)
  obtain ⟨T103, X103, e103, st103⟩ := getS2 X102 hx hZ hown (host := "") (Or.inl (own_w hw 18 rfl)) Via.refl e102 S0_COMPACT_STRINGS (g := (mkF m 19 #[.val (.ref a), .val (.ref b), .val (.ref b)] [])) rfl (hb hby dEq00_19)
  refine Go.by (fun _ kont => XS.aloadN X0.here hx rfl (hb hby dEq00_7) rfl rfl (st101 _ (XS.ifNo X101.here hx rfl (hb hby dEq00_11) rfl (by decide) (XS.aloadN X101.here hx rfl (hb hby dEq00_14) rfl rfl (st102 _ (XS.astoreN X102.here hx rfl (hb hby dEq00_18) rfl rfl (l' := #[.val (.ref a), .val (.ref b), .val (.ref b)]) rfl (st103 _ kont))))))) ?_
  show Go _ _ _ _ _ _ _ (T103.setTop (mkF m 22 #[.val (.ref a), .val (.ref b), .val (.ref b)] [(.int cs)]))
  refine Go.by (fun _ kont => XS.ifNo X103.here hx rfl (hb hby dEq00_22) rfl ((if0 _ _).trans (feq hcs).1) kont) ?_
  show Go _ _ _ _ _ _ _ (T103.setTop (mkF m 25 #[.val (.ref a), .val (.ref b), .val (.ref b)] []))
  obtain ⟨T104, X104, e104, st104⟩ := getF X103 hx hZ hown (host := "") (Or.inl (own_w hw 30 rfl)) Via.refl e103 F0_a_coder (g := (mkF m 26 #[.val (.ref a), .val (.ref b), .val (.ref b)] [(.ref a)])) rfl rfl (hb hby dEq00_26)
  obtain ⟨T105, X105, e105, st105⟩ := getF X104 hx hZ hown (host := "") (Or.inl (own_w hw 30 rfl)) Via.refl e104 F0_b_coder (g := (mkF m 30 #[.val (.ref a), .val (.ref b), .val (.ref b)] [(.ref b), (.int 0)])) rfl rfl (hb hby dEq00_30)
  obtain ⟨T106, X106, e106, st106⟩ := getF X105 hx hZ hown (host := "") (Or.inl (own_w hw 32 rfl)) Via.refl e105 F0_a_value (g := (mkF m 37 #[.val (.ref a), .val (.ref b), .val (.ref b)] [(.ref a)])) rfl rfl (hb hby dEq00_37)
  obtain ⟨T107, X107, e107, st107⟩ := getF X106 hx hZ hown (host := "") (Or.inl (own_w hw 32 rfl)) Via.refl e106 F0_b_value (g := (mkF m 41 #[.val (.ref a), .val (.ref b), .val (.ref b)] [(.ref b), (.ref va)])) rfl rfl (hb hby dEq00_41)
  obtain ⟨_, _, ⟨T108, L108, k108, n108⟩, -, X108, ⟨Lc108, hQ108, l108, y108, z108⟩, st108⟩ := Jvm.LawKit.callS X107 hx (y := (⟨"java/lang/StringLatin1", "equals", "([B[B)Z"⟩ : MethodName)) hown (mvT hZ (own_w hw 96 rfl)) (mvT hZ (own_w hw 97 rfl)) (mvT hZ (own_w hw 98 rfl)) (mvT hZ (own_w hw 99 rfl)) (by decide) (backOf (W := 0) (rmQl02 l Z a0 hw [] va vb kc_va kc_vb h0 n0 Z0 V0_va V0_vb) hZ (own_w hw 99 rfl) (own_w hw 98 rfl) (by decide) (by decide)) (g := (mkF m 44 #[.val (.ref a), .val (.ref b), .val (.ref b)] [(.ref vb), (.ref va)])) rfl (by rw [hml]; rfl) (argsL := [(.ref va), (.ref vb)]) (rest := []) (lenOf pdEq02_0 rfl) rfl (by show 2 * 0 + _ ≤ _; exact Nat.le_of_eq rfl) (hb hby dEq00_44) (fun _ _ => ⟨rfl, e107, (by decide : 0 + 0 ≤ _), (by decide : 0 + 0 ≤ _)⟩)
  dsimp only [Pt.U, Pt.locs, Pt.cells, Pt.slots] at X108 l108 y108 z108 st108 hQ108
  subst l108 y108 z108
  obtain ⟨rfl, N108q, eh108⟩ := hQ108
  have N108 := Fr.app N0 N108q
  refine Go.by (fun _ kont => XS.aloadN X103.here hx rfl (hb hby dEq00_25) rfl rfl (st104 _ (XS.aloadN X104.here hx rfl (hb hby dEq00_29) rfl rfl (st105 _ (XS.icmpNo X105.here hx rfl (hb hby dEq00_33) rfl (by decide) (XS.aloadN X105.here hx rfl (hb hby dEq00_36) rfl rfl (st106 _ (XS.aloadN X106.here hx rfl (hb hby dEq00_40) rfl rfl (st107 _ (st108 _ (XS.ifYes X108.here hx rfl (pc0 := 47) (pc' := 54) rfl (hb hby dEq00_47) rfl (by decide) (by decide) (by decide) (XS.iconst X108.here hx rfl (hb hby dEq01_54) kont)))))))))))) ?_
  show Go _ _ _ _ _ _ _ (T108.setTop (mkF m 55 #[.val (.ref a), .val (.ref b), .val (.ref b)] [(.int 0)]))
  refine Go.retN X108 hx (t := .boolean) hret (by simp) hlk (hb hby dEq00_55) ?_ (by decide) (by decide)
  show QEq02 Z  h0 n0 (some (.int (0 : Int32))) T108.heap _
  rw [eh108]
  exact ⟨rfl, N108, rfl⟩

theorem pnQl12 : plainName "java/lang/StringLatin1" = true := by first | (simp [plainName, overriddenIn]; done) | decide +kernel
theorem efQl12 (m : MethodId) (va : Addr) (vb : Addr) : entryFrame m #[(.ref va), (.ref vb)] 3 = mkF m 0 #[.val (.ref va), .val (.ref vb), .unset] [] := by first | (simp [entryFrame, mkF, argsToLocals, Value.category]; done) | rfl
def QQl12 (Z : State)  (h0 : Heap) (n0 : Nat) (v : Option Value) (h : Heap) (L : List Loc) : Prop := (v = some (.int 0) ∧ Fr n0 L ∧ h = h0)
set_option maxRecDepth 65536 in
set_option maxHeartbeats 40000000 in
theorem rmQl12 (l : Launch) (Z : State) (a0 : Array Value) (hw : ∀ d ∈ tables_1, d.before a0 Z = true) (ws : List Jvm.Cond) (va : Addr) (vb : Addr) (kc_va : ClassId) (kc_vb : ClassId) (h0 : Heap) (n0 : Nat) (Z0 : n0 ≤ h0.size) (V0_va : Arv Z h0 va kc_va .byte (11 : Int32) [(.int 110), (.int 111), (.int 95), (.int 110), (.int 101), (.int 119), (.int 95), (.int 111), (.int 112), (.int 101), (.int 110)] (.int 0)) (V0_vb : Arv Z h0 vb kc_vb .byte (9 : Int32) [(.int 108), (.int 105), (.int 113), (.int 117), (.int 105), (.int 100), (.int 97), (.int 116), (.int 101)] (.int 0)) :
    Ct l Z (⟨"java/lang/StringLatin1", "equals", "([B[B)Z"⟩ : MethodName) jdk_43_method_13_code 3 (some .boolean) ws (⟨0, 0, 0, 0⟩ : Room) #[(.ref va), (.ref vb)] h0 (QQl12 Z  h0 n0) := by
  refine MetFree.of_bodySF (plainFor_of_name pnQl12) hisR ?_
  intro p e s m args below meth c s₁ Bd hml hP hK
  obtain ⟨rfl, hZ, hh⟩ := hP
  obtain ⟨hx, hby, hown, hnm, hlk, hret, X0, e0⟩ := own_st Bd "java/lang/StringLatin1" rfl hh
  have N0 := Fr.nil n0
  show Go p e below s (⟨0, 0, 0, 0⟩ : Room).cells (⟨0, 0, 0, 0⟩ : Room).slots (QQl12 Z  h0 n0) (s₁.setTop (entryFrame m #[(.ref va), (.ref vb)] 3))
  rw [efQl12]
  obtain ⟨cl_q101, Ar_q101, q1_q101, S_q101, N_q101, H_q101, G_q101⟩ := id V0_va
  obtain ⟨cl_q102, Ar_q102, q1_q102, S_q102, N_q102, H_q102, G_q102⟩ := id V0_vb
  refine Go.by (fun _ kont => XS.aloadN X0.here hx rfl (hb hby dQl00_0) rfl rfl (X0.arraylength hx (own_at e0 Ar_q101.1) (State.isArrayOf_alike hZ.alike Ar_q101.2.1) (g := (mkF m 1 #[.val (.ref va), .val (.ref vb), .unset] [(.ref va)])) rfl rfl (hb hby dQl00_1) _ (own_fI (len_of S_q101 N_q101) (XS.aloadN X0.here hx rfl (hb hby dQl00_2) rfl rfl (X0.arraylength hx (own_at e0 Ar_q102.1) (State.isArrayOf_alike hZ.alike Ar_q102.2.1) (g := (mkF m 3 #[.val (.ref va), .val (.ref vb), .unset] [(.ref vb), (.int 11)])) rfl rfl (hb hby dQl00_3) _ (own_fI (len_of S_q102 N_q102) (XS.icmpYes X0.here hx rfl (pc0 := 4) (pc' := 34) rfl (hb hby dQl00_4) rfl (by decide) (by decide) (by decide) (XS.iconst X0.here hx rfl (hb hby dQl01_34) kont)))))))) ?_
  show Go _ _ _ _ _ _ _ (s₁.setTop (mkF m 35 #[.val (.ref va), .val (.ref vb), .unset] [(.int 0)]))
  refine Go.retN X0 hx (t := .boolean) hret (by simp) hlk (hb hby dQl01_35) ?_ (by decide) (by decide)
  show QQl12 Z  h0 n0 (some (.int (0 : Int32))) s₁.heap _
  rw [e0]
  exact ⟨rfl, N0, rfl⟩

theorem pdEq12_0 : parseMethodDescriptor "([B[B)Z" = some ⟨[(.array .byte), (.array .byte)], some .boolean⟩ := by decide +kernel
theorem pnEq12 : plainName "java/lang/String" = true := by first | (simp [plainName, overriddenIn]; done) | decide +kernel
theorem efEq12 (m : MethodId) (a : Addr) (b : Addr) : entryFrame m #[(.ref a), (.ref b)] 3 = mkF m 0 #[.val (.ref a), .val (.ref b), .unset] [] := by first | (simp [entryFrame, mkF, argsToLocals, Value.category]; done) | rfl
def QEq12 (Z : State)  (h0 : Heap) (n0 : Nat) (v : Option Value) (h : Heap) (L : List Loc) : Prop := (v = some (.int 0) ∧ Fr n0 L ∧ h = h0)
set_option maxRecDepth 65536 in
set_option maxHeartbeats 40000000 in
theorem rmEq12 (l : Launch) (Z : State) (a0 : Array Value) (hw : ∀ d ∈ tables_1, d.before a0 Z = true) (ws : List Jvm.Cond) (a : Addr) (b : Addr) (va : Addr) (vb : Addr) (kc_va : ClassId) (kc_vb : ClassId) (cs : Int32) (h0 : Heap) (n0 : Nat) (Z0 : n0 ≤ h0.size) (E0_a : Exa Z h0 a "java/lang/String") (F0_a_coder : Fld Z h0 a "java/lang/String" "coder" "B" (.int 0)) (F0_a_value : Fld Z h0 a "java/lang/String" "value" "[B" (.ref va)) (E0_b : Exa Z h0 b "java/lang/String") (F0_b_coder : Fld Z h0 b "java/lang/String" "coder" "B" (.int 0)) (F0_b_value : Fld Z h0 b "java/lang/String" "value" "[B" (.ref vb)) (V0_va : Arv Z h0 va kc_va .byte (11 : Int32) [(.int 110), (.int 111), (.int 95), (.int 110), (.int 101), (.int 119), (.int 95), (.int 111), (.int 112), (.int 101), (.int 110)] (.int 0)) (V0_vb : Arv Z h0 vb kc_vb .byte (9 : Int32) [(.int 108), (.int 105), (.int 113), (.int 117), (.int 105), (.int 100), (.int 97), (.int 116), (.int 101)] (.int 0)) (ne0_a_b : a ≠ b) (S0_COMPACT_STRINGS : Sta Z h0 "java/lang/String" "COMPACT_STRINGS" "Z" (.int cs)) (hcs : ¬ (cs = (0 : Int32))) :
    Ct l Z (⟨"java/lang/String", "equals", "(Ljava/lang/Object;)Z"⟩ : MethodName) jdk_42_method_66_code 3 (some .boolean) ws (⟨1, 0, 0, 14⟩ : Room) #[(.ref a), (.ref b)] h0 (QEq12 Z  h0 n0) := by
  refine MetFree.of_bodySF (plainFor_of_name pnEq12) hisR ?_
  intro p e s m args below meth c s₁ Bd hml hP hK
  obtain ⟨rfl, hZ, hh⟩ := hP
  obtain ⟨hx, hby, hown, hnm, hlk, hret, X0, e0⟩ := own_st Bd "java/lang/String" rfl hh
  have N0 := Fr.nil n0
  show Go p e below s (⟨1, 0, 0, 14⟩ : Room).cells (⟨1, 0, 0, 14⟩ : Room).slots (QEq12 Z  h0 n0) (s₁.setTop (entryFrame m #[(.ref a), (.ref b)] 3))
  rw [efEq12]
  refine Go.by (fun _ kont => XS.aloadN X0.here hx rfl (hb hby dEs_0) rfl rfl (XS.aloadN X0.here hx rfl (hb hby dEs_1) rfl rfl kont)) ?_
  show Go _ _ _ _ _ _ _ (s₁.setTop (mkF m 2 #[.val (.ref a), .val (.ref b), .unset] [(.ref b), (.ref a)]))
  refine Go.by (fun _ kont => Jvm.RoadKit.acmp (g := (mkF m 2 #[.val (.ref a), .val (.ref b), .unset] [(.ref b), (.ref a)])) X0 hx rfl rfl rfl (pc0 := 2) (pc' := 7) (same := false) rfl (hb hby dEs_2) rfl (decide_eq_false fun q => ne0_a_b (Value.ref.inj q)) (by decide) (by decide) kont) ?_
  show Go _ _ _ _ _ _ _ (s₁.setTop (mkF m 7 #[.val (.ref a), .val (.ref b), .unset] []))
  obtain ⟨T101, X101, e101, st101⟩ := instY X0 hx hZ hown (own_w hw 95 rfl) e0 (Ins.self E0_b) (g := (mkF m 8 #[.val (.ref a), .val (.ref b), .unset] [(.ref b)])) rfl rfl (hb hby dEq00_8)
  obtain ⟨T102, X102, e102, st102⟩ := castY X101 hx hZ hown (own_w hw 95 rfl) e101 (Ins.self E0_b) (g := (mkF m 15 #[.val (.ref a), .val (.ref b), .unset] [(.ref b)])) rfl rfl (hb hby dEq00_15)
  obtain ⟨T103, X103, e103, st103⟩ := getS2 X102 hx hZ hown (host := "") (Or.inl (own_w hw 18 rfl)) Via.refl e102 S0_COMPACT_STRINGS (g := (mkF m 19 #[.val (.ref a), .val (.ref b), .val (.ref b)] [])) rfl (hb hby dEq00_19)
  refine Go.by (fun _ kont => XS.aloadN X0.here hx rfl (hb hby dEq00_7) rfl rfl (st101 _ (XS.ifNo X101.here hx rfl (hb hby dEq00_11) rfl (by decide) (XS.aloadN X101.here hx rfl (hb hby dEq00_14) rfl rfl (st102 _ (XS.astoreN X102.here hx rfl (hb hby dEq00_18) rfl rfl (l' := #[.val (.ref a), .val (.ref b), .val (.ref b)]) rfl (st103 _ kont))))))) ?_
  show Go _ _ _ _ _ _ _ (T103.setTop (mkF m 22 #[.val (.ref a), .val (.ref b), .val (.ref b)] [(.int cs)]))
  refine Go.by (fun _ kont => XS.ifNo X103.here hx rfl (hb hby dEq00_22) rfl ((if0 _ _).trans (feq hcs).1) kont) ?_
  show Go _ _ _ _ _ _ _ (T103.setTop (mkF m 25 #[.val (.ref a), .val (.ref b), .val (.ref b)] []))
  obtain ⟨T104, X104, e104, st104⟩ := getF X103 hx hZ hown (host := "") (Or.inl (own_w hw 30 rfl)) Via.refl e103 F0_a_coder (g := (mkF m 26 #[.val (.ref a), .val (.ref b), .val (.ref b)] [(.ref a)])) rfl rfl (hb hby dEq00_26)
  obtain ⟨T105, X105, e105, st105⟩ := getF X104 hx hZ hown (host := "") (Or.inl (own_w hw 30 rfl)) Via.refl e104 F0_b_coder (g := (mkF m 30 #[.val (.ref a), .val (.ref b), .val (.ref b)] [(.ref b), (.int 0)])) rfl rfl (hb hby dEq00_30)
  obtain ⟨T106, X106, e106, st106⟩ := getF X105 hx hZ hown (host := "") (Or.inl (own_w hw 32 rfl)) Via.refl e105 F0_a_value (g := (mkF m 37 #[.val (.ref a), .val (.ref b), .val (.ref b)] [(.ref a)])) rfl rfl (hb hby dEq00_37)
  obtain ⟨T107, X107, e107, st107⟩ := getF X106 hx hZ hown (host := "") (Or.inl (own_w hw 32 rfl)) Via.refl e106 F0_b_value (g := (mkF m 41 #[.val (.ref a), .val (.ref b), .val (.ref b)] [(.ref b), (.ref va)])) rfl rfl (hb hby dEq00_41)
  obtain ⟨_, _, ⟨T108, L108, k108, n108⟩, -, X108, ⟨Lc108, hQ108, l108, y108, z108⟩, st108⟩ := Jvm.LawKit.callS X107 hx (y := (⟨"java/lang/StringLatin1", "equals", "([B[B)Z"⟩ : MethodName)) hown (mvT hZ (own_w hw 96 rfl)) (mvT hZ (own_w hw 97 rfl)) (mvT hZ (own_w hw 98 rfl)) (mvT hZ (own_w hw 99 rfl)) (by decide) (backOf (W := 0) (rmQl12 l Z a0 hw [] va vb kc_va kc_vb h0 n0 Z0 V0_va V0_vb) hZ (own_w hw 99 rfl) (own_w hw 98 rfl) (by decide) (by decide)) (g := (mkF m 44 #[.val (.ref a), .val (.ref b), .val (.ref b)] [(.ref vb), (.ref va)])) rfl (by rw [hml]; rfl) (argsL := [(.ref va), (.ref vb)]) (rest := []) (lenOf pdEq12_0 rfl) rfl (by show 2 * 0 + _ ≤ _; exact Nat.le_of_eq rfl) (hb hby dEq00_44) (fun _ _ => ⟨rfl, e107, (by decide : 0 + 0 ≤ _), (by decide : 0 + 0 ≤ _)⟩)
  dsimp only [Pt.U, Pt.locs, Pt.cells, Pt.slots] at X108 l108 y108 z108 st108 hQ108
  subst l108 y108 z108
  obtain ⟨rfl, N108q, eh108⟩ := hQ108
  have N108 := Fr.app N0 N108q
  refine Go.by (fun _ kont => XS.aloadN X103.here hx rfl (hb hby dEq00_25) rfl rfl (st104 _ (XS.aloadN X104.here hx rfl (hb hby dEq00_29) rfl rfl (st105 _ (XS.icmpNo X105.here hx rfl (hb hby dEq00_33) rfl (by decide) (XS.aloadN X105.here hx rfl (hb hby dEq00_36) rfl rfl (st106 _ (XS.aloadN X106.here hx rfl (hb hby dEq00_40) rfl rfl (st107 _ (st108 _ (XS.ifYes X108.here hx rfl (pc0 := 47) (pc' := 54) rfl (hb hby dEq00_47) rfl (by decide) (by decide) (by decide) (XS.iconst X108.here hx rfl (hb hby dEq01_54) kont)))))))))))) ?_
  show Go _ _ _ _ _ _ _ (T108.setTop (mkF m 55 #[.val (.ref a), .val (.ref b), .val (.ref b)] [(.int 0)]))
  refine Go.retN X108 hx (t := .boolean) hret (by simp) hlk (hb hby dEq00_55) ?_ (by decide) (by decide)
  show QEq12 Z  h0 n0 (some (.int (0 : Int32))) T108.heap _
  rw [eh108]
  exact ⟨rfl, N108, rfl⟩

theorem dBi_0 : decode jdk_68_method_2_code 0 = .ok (.aload_n 0, 1) := by decide +kernel
theorem dBi_1 : decode jdk_68_method_2_code 1 = .ok (.invokespecial 3, 3) := by decide +kernel
theorem dBi_4 : decode jdk_68_method_2_code 4 = .ok (.getstatic 18, 3) := by decide +kernel
theorem dBi_7 : decode jdk_68_method_2_code 7 = .ok (.ifCond .eq 18, 3) := by decide +kernel
theorem dBi_10 : decode jdk_68_method_2_code 10 = .ok (.aload_n 0, 1) := by decide +kernel
theorem dBi_11 : decode jdk_68_method_2_code 11 = .ok (.iload_n 1, 1) := by decide +kernel
theorem dBi_12 : decode jdk_68_method_2_code 12 = .ok (.newarray .byte, 2) := by decide +kernel
theorem dBi_14 : decode jdk_68_method_2_code 14 = .ok (.putfield 15, 3) := by decide +kernel
theorem dBi_17 : decode jdk_68_method_2_code 17 = .ok (.aload_n 0, 1) := by decide +kernel
theorem dBi_18 : decode jdk_68_method_2_code 18 = .ok (.iconst 0, 1) := by decide +kernel
theorem dBi_19 : decode jdk_68_method_2_code 19 = .ok (.putfield 22, 3) := by decide +kernel
theorem dBi_22 : decode jdk_68_method_2_code 22 = .ok (.goto 16, 3) := by decide +kernel
theorem dBi_38 : decode jdk_68_method_2_code 38 = .ok (.return_, 1) := by decide +kernel
theorem pnBi : plainName "java/lang/AbstractStringBuilder" = true := by first | (simp [plainName, overriddenIn]; done) | decide +kernel
theorem efBi (m : MethodId) (a : Addr) : entryFrame m #[(.ref a), (.int 16)] 2 = mkF m 0 #[.val (.ref a), .val (.int 16)] [] := by first | (simp [entryFrame, mkF, argsToLocals, Value.category]; done) | rfl
def QBi (Z : State) (a : Addr) (h0 : Heap) (n0 : Nat) (v : Option Value) (h : Heap) (L : List Loc) : Prop := ∃ b103 : Addr, ∃ k103 : ClassId, (v = none ∧ Fr n0 L ∧ Keep h0 h [a] ∧ Exa Z h a "java/lang/StringBuilder" ∧ Fld Z h a "java/lang/AbstractStringBuilder" "value" "[B" (.ref b103) ∧ Fld Z h a "java/lang/AbstractStringBuilder" "coder" "B" (.int 0) ∧ Fld Z h a "java/lang/AbstractStringBuilder" "count" "I" (.int 0) ∧ n0 ≤ b103 ∧ h0.size ≤ b103 ∧ Arv Z h b103 k103 .byte (16 : Int32) [(.int 0), (.int 0), (.int 0), (.int 0), (.int 0), (.int 0), (.int 0), (.int 0), (.int 0), (.int 0), (.int 0), (.int 0), (.int 0), (.int 0), (.int 0), (.int 0)] (.int 0))
set_option maxRecDepth 65536 in
set_option maxHeartbeats 40000000 in
theorem rmBi (l : Launch) (Z : State) (a0 : Array Value) (hw : ∀ d ∈ tables_1, d.before a0 Z = true) (ws : List Jvm.Cond) (a : Addr) (cs : Int32) (h0 : Heap) (n0 : Nat) (Z0 : n0 ≤ h0.size) (E0_a : Exa Z h0 a "java/lang/StringBuilder") (F0_a_value : Fld Z h0 a "java/lang/AbstractStringBuilder" "value" "[B" .null) (F0_a_coder : Fld Z h0 a "java/lang/AbstractStringBuilder" "coder" "B" (.int 0)) (F0_a_count : Fld Z h0 a "java/lang/AbstractStringBuilder" "count" "I" (.int 0)) (S0_COMPACT_STRINGS : Sta Z h0 "java/lang/String" "COMPACT_STRINGS" "Z" (.int cs)) (ge0_a : n0 ≤ a) (hcs : ¬ (cs = (0 : Int32))) :
    Ct l Z (⟨"java/lang/AbstractStringBuilder", "<init>", "(I)V"⟩ : MethodName) jdk_68_method_2_code 2 none ws (⟨1, 1, 16, 12⟩ : Room) #[(.ref a), (.int 16)] h0 (QBi Z a h0 n0) := by
  refine MetFree.of_bodySF (plainFor_of_name pnBi) hisR ?_
  intro p e s m args below meth c s₁ Bd hml hP hK
  obtain ⟨rfl, hZ, hh⟩ := hP
  obtain ⟨hx, hby, hown, hnm, hlk, hret, X0, e0⟩ := own_st Bd "java/lang/AbstractStringBuilder" rfl hh
  have N0 := Fr.nil n0
  show Go p e below s (⟨1, 1, 16, 12⟩ : Room).cells (⟨1, 1, 16, 12⟩ : Room).slots (QBi Z a h0 n0) (s₁.setTop (entryFrame m #[(.ref a), (.int 16)] 2))
  rw [efBi]
  obtain ⟨T101, X101, e101, st101⟩ := initO X0 hx hZ hown (own_w hw 73 rfl) (own_w hw 16 rfl) (own_w hw 17 rfl) e0 (g := (mkF m 1 #[.val (.ref a), .val (.int 16)] [(.ref a)])) rfl (by rw [hml]; rfl) rfl (hb hby dBi_1) (by decide) (W := 0) (by show 2 * 0 + _ ≤ _; exact Nat.le_of_eq rfl) (by decide)
  obtain ⟨T102, X102, e102, st102⟩ := getS2 X101 hx hZ hown (host := "") (Or.inl (own_w hw 74 rfl)) Via.refl e101 S0_COMPACT_STRINGS (g := (mkF m 4 #[.val (.ref a), .val (.int 16)] [])) rfl (hb hby dBi_4)
  refine Go.by (fun _ kont => XS.aloadN X0.here hx rfl (hb hby dBi_0) rfl rfl (st101 _ (st102 _ kont))) ?_
  show Go _ _ _ _ _ _ _ (T102.setTop (mkF m 7 #[.val (.ref a), .val (.int 16)] [(.int cs)]))
  refine Go.by (fun _ kont => XS.ifNo X102.here hx rfl (hb hby dBi_7) rfl ((if0 _ _).trans (feq hcs).1) kont) ?_
  show Go _ _ _ _ _ _ _ (T102.setTop (mkF m 10 #[.val (.ref a), .val (.int 16)] []))
  obtain ⟨T103, h103, k103, X103, e103, X_103, A103, st103⟩ := newP X102 hx hZ (own_w hw 23 rfl) e102 (g := (mkF m 12 #[.val (.ref a), .val (.int 16)] [(.int 16), (.ref a)])) rfl (hb hby dBi_12) rfl (by decide) (cap := 16) (by decide) (by decide) (by decide) (by decide)
  obtain ⟨b103, g103⟩ : ∃ z, z = h0.size := ⟨_, rfl⟩
  rw [← g103] at A103 st103
  have ge_b103 : n0 ≤ b103 := Nat.le_trans Z0 (Nat.le_of_eq g103.symm)
  have sz_b103 : h0.size ≤ b103 := Nat.le_trans (Keep.refl h0 [a]).1 (Nat.le_of_eq g103.symm)
  have F104_value_a := F0_a_value.ext X_103
  have F104_coder_a := F0_a_coder.ext X_103
  have F104_count_a := F0_a_count.ext X_103
  have Z104 := Nat.le_trans Z0 X_103.1
  have K104 : Keep h0 h103 [a] := (Keep.refl h0 [a]).ext X_103
  have V103 : Arv Z h103 b103 k103 .byte (16 : Int32) [(.int 0), (.int 0), (.int 0), (.int 0), (.int 0), (.int 0), (.int 0), (.int 0), (.int 0), (.int 0), (.int 0), (.int 0), (.int 0), (.int 0), (.int 0), (.int 0)] (.int 0) := (Arv.new A103 (by decide)).pad (pad_rep [] (.int 0) 16)
  obtain ⟨T105, h105, X105, e105, W105, st105⟩ := putF X103 hx hZ hown (host := "") (Or.inl (own_w hw 75 rfl)) Via.refl e103 F104_value_a (E0_a.keep K104) (Or.inl (own_w hw 76 rfl)) (own_w hw 62 rfl) (ty := (.array .byte)) (by decide) rfl rfl (g := (mkF m 14 #[.val (.ref a), .val (.int 16)] [(.ref b103), (.ref a)])) rfl rfl (hb hby dBi_14)
  have Fw105 := F104_value_a.same W105
  have F106_coder_a := F104_coder_a.other W105 (Or.inr (slot_ne (Or.inl (own_w hw 78 rfl)) (Or.inl (own_w hw 76 rfl)) (by decide) (t := .byte) (t' := (.array .byte)) (by decide) (by decide)))
  have F106_count_a := F104_count_a.other W105 (Or.inr (slot_ne (Or.inl (own_w hw 118 rfl)) (Or.inl (own_w hw 76 rfl)) (by decide) (t := .int) (t' := (.array .byte)) (by decide) (by decide)))
  have V106_b103 := V103.other W105 (Ne.symm (own_nlt F0_a_value.lt (Nat.le_of_eq g103.symm)))
  have Z106 := Nat.le_trans Z104 (Keep.of_wr W105).1
  have K106 : Keep h0 h105 [a] := K104.wr W105 (Or.inl (by simp))
  have N105 := Fr.snoc X105 N0 ge0_a
  obtain ⟨T107, h107, X107, e107, W107, st107⟩ := putF X105 hx hZ hown (host := "") (Or.inl (own_w hw 77 rfl)) Via.refl e105 F106_coder_a (E0_a.keep K106) (Or.inl (own_w hw 78 rfl)) (own_w hw 62 rfl) (ty := .byte) (by decide) rfl rfl (g := (mkF m 19 #[.val (.ref a), .val (.int 16)] [(.int 0), (.ref a)])) rfl rfl (hb hby dBi_19)
  have Fw107 := F106_coder_a.same W107
  have F108_value_a := Fw105.other W107 (Or.inr (slot_ne (Or.inl (own_w hw 76 rfl)) (Or.inl (own_w hw 78 rfl)) (by decide) (t := (.array .byte)) (t' := .byte) (by decide) (by decide)))
  have F108_count_a := F106_count_a.other W107 (Or.inr (slot_ne (Or.inl (own_w hw 118 rfl)) (Or.inl (own_w hw 78 rfl)) (by decide) (t := .int) (t' := .byte) (by decide) (by decide)))
  have V108_b103 := V106_b103.other W107 (Ne.symm (own_nlt F0_a_value.lt (Nat.le_of_eq g103.symm)))
  have Z108 := Nat.le_trans Z106 (Keep.of_wr W107).1
  have K108 : Keep h0 h107 [a] := K106.wr W107 (Or.inl (by simp))
  have N107 := Fr.snoc X107 N105 ge0_a
  refine Go.by (fun _ kont => XS.aloadN X102.here hx rfl (hb hby dBi_10) rfl rfl (XS.iloadN X102.here hx rfl (hb hby dBi_11) rfl (st103 _ (st105 _ (XS.aloadN X105.here hx rfl (hb hby dBi_17) rfl rfl (XS.iconst X105.here hx rfl (hb hby dBi_18) (st107 _ (XS.goto X107.here hx rfl (pc0 := 22) (pc' := 38) rfl (hb hby dBi_22) (by decide) (by decide) kont)))))))) ?_
  show Go _ _ _ _ _ _ _ (T107.setTop (mkF m 38 #[.val (.ref a), .val (.int 16)] []))
  refine Go.retV X107 hx hret hlk (hb hby dBi_38) ?_ (by decide) (by decide)
  show QBi Z a h0 n0 none T107.heap _
  rw [e107]
  exact ⟨b103, k103, rfl, N107, K108, (E0_a.keep K108), F108_value_a, Fw107, F108_count_a, ge_b103, sz_b103, V108_b103⟩

theorem dBz_0 : decode jdk_67_method_1_code 0 = .ok (.aload_n 0, 1) := by decide +kernel
theorem dBz_1 : decode jdk_67_method_1_code 1 = .ok (.bipush 16, 2) := by decide +kernel
theorem dBz_3 : decode jdk_67_method_1_code 3 = .ok (.invokespecial 1, 3) := by decide +kernel
theorem dBz_6 : decode jdk_67_method_1_code 6 = .ok (.return_, 1) := by decide +kernel
theorem pdBz_0 : parseMethodDescriptor "(I)V" = some ⟨[.int], none⟩ := by decide +kernel
theorem pnBz : plainName "java/lang/StringBuilder" = true := by first | (simp [plainName, overriddenIn]; done) | decide +kernel
theorem efBz (m : MethodId) (a : Addr) : entryFrame m #[(.ref a)] 1 = mkF m 0 #[.val (.ref a)] [] := by first | (simp [entryFrame, mkF, argsToLocals, Value.category]; done) | rfl
def QBz (Z : State) (a : Addr) (h0 : Heap) (n0 : Nat) (v : Option Value) (h : Heap) (L : List Loc) : Prop := ∃ b103_101 : Addr, ∃ k103_101 : ClassId, (v = none ∧ Fr n0 L ∧ Keep h0 h [a] ∧ Exa Z h a "java/lang/StringBuilder" ∧ Fld Z h a "java/lang/AbstractStringBuilder" "value" "[B" (.ref b103_101) ∧ Fld Z h a "java/lang/AbstractStringBuilder" "coder" "B" (.int 0) ∧ Fld Z h a "java/lang/AbstractStringBuilder" "count" "I" (.int 0) ∧ n0 ≤ b103_101 ∧ h0.size ≤ b103_101 ∧ Arv Z h b103_101 k103_101 .byte (16 : Int32) [(.int 0), (.int 0), (.int 0), (.int 0), (.int 0), (.int 0), (.int 0), (.int 0), (.int 0), (.int 0), (.int 0), (.int 0), (.int 0), (.int 0), (.int 0), (.int 0)] (.int 0))
set_option maxRecDepth 65536 in
set_option maxHeartbeats 40000000 in
theorem rmBz (l : Launch) (Z : State) (a0 : Array Value) (hw : ∀ d ∈ tables_1, d.before a0 Z = true) (ws : List Jvm.Cond) (a : Addr) (cs : Int32) (h0 : Heap) (n0 : Nat) (Z0 : n0 ≤ h0.size) (E0_a : Exa Z h0 a "java/lang/StringBuilder") (F0_a_value : Fld Z h0 a "java/lang/AbstractStringBuilder" "value" "[B" .null) (F0_a_coder : Fld Z h0 a "java/lang/AbstractStringBuilder" "coder" "B" (.int 0)) (F0_a_count : Fld Z h0 a "java/lang/AbstractStringBuilder" "count" "I" (.int 0)) (S0_COMPACT_STRINGS : Sta Z h0 "java/lang/String" "COMPACT_STRINGS" "Z" (.int cs)) (ge0_a : n0 ≤ a) (hcs : ¬ (cs = (0 : Int32))) :
    Ct l Z (⟨"java/lang/StringBuilder", "<init>", "()V"⟩ : MethodName) jdk_67_method_1_code 1 none ws (⟨2, 1, 16, 25⟩ : Room) #[(.ref a)] h0 (QBz Z a h0 n0) := by
  refine MetFree.of_bodySF (plainFor_of_name pnBz) hisR ?_
  intro p e s m args below meth c s₁ Bd hml hP hK
  obtain ⟨rfl, hZ, hh⟩ := hP
  obtain ⟨hx, hby, hown, hnm, hlk, hret, X0, e0⟩ := own_st Bd "java/lang/StringBuilder" rfl hh
  have N0 := Fr.nil n0
  show Go p e below s (⟨2, 1, 16, 25⟩ : Room).cells (⟨2, 1, 16, 25⟩ : Room).slots (QBz Z a h0 n0) (s₁.setTop (entryFrame m #[(.ref a)] 1))
  rw [efBz]
  obtain ⟨_, _, ⟨T101, L101, k101, n101⟩, -, X101, ⟨Lc101, hQ101, l101, y101, z101⟩, st101⟩ := X0.specialBack hx (y := (⟨"java/lang/AbstractStringBuilder", "<init>", "(I)V"⟩ : MethodName)) rfl hown (mvT hZ (own_w hw 67 rfl)) (mvT hZ (own_w hw 68 rfl)) (mvT hZ (own_w hw 72 rfl)) (by decide) (backOf (W := 0) (rmBi l Z a0 hw [] a cs h0 n0 Z0 E0_a F0_a_value F0_a_coder F0_a_count S0_COMPACT_STRINGS ge0_a hcs) hZ (own_w hw 72 rfl) (own_w hw 71 rfl) (by decide) (by decide)) (g := (mkF m 3 #[.val (.ref a)] [(.int 16), (.ref a)])) rfl (by rw [hml]; rfl) (Steps.refl _) (a := a) (argsL := [(.int 16)]) (rest := []) (lenOf pdBz_0 rfl) rfl (by show 2 * 0 + _ ≤ _; exact Nat.le_of_eq rfl) (hb hby dBz_3) (fun _ _ => ⟨rfl, e0, (by decide : 0 + 1 ≤ _), (by decide : 0 + 16 ≤ _)⟩)
  dsimp only [Pt.U, Pt.locs, Pt.cells, Pt.slots] at X101 l101 y101 z101 st101 hQ101
  subst l101 y101 z101
  obtain ⟨b103_101, k103_101, rfl, N101q, K101, g101_0, g101_1, g101_2, g101_3, ge_b103_101, szc_b103_101, g101_4⟩ := hQ101
  have sz_b103_101 : h0.size ≤ b103_101 := Nat.le_trans (Keep.refl h0 [a]).1 szc_b103_101
  have Z102 := Nat.le_trans Z0 K101.1
  have K102 : Keep h0 T101.heap [a] := Keep.trans (Keep.refl h0 [a]) K101 (allS (Or.inl (by simp)) all0)
  have N101 := Fr.app N0 N101q
  refine Go.by (fun _ kont => XS.aloadN X0.here hx rfl (hb hby dBz_0) rfl rfl (XS.bipush X0.here hx rfl (hb hby dBz_1) (st101.trans kont))) ?_
  show Go _ _ _ _ _ _ _ (T101.setTop (mkF m 6 #[.val (.ref a)] []))
  refine Go.retV X101 hx hret hlk (hb hby dBz_6) ?_ (by decide) (by decide)
  show QBz Z a h0 n0 none T101.heap _
  exact ⟨b103_101, k103_101, rfl, N101, K102, g101_0, g101_1, g101_2, g101_3, ge_b103_101, sz_b103_101, g101_4⟩

theorem dAl_0 : decode jdk_68_method_6_code 0 = .ok (.aload_n 0, 1) := by decide +kernel
theorem dAl_1 : decode jdk_68_method_6_code 1 = .ok (.getfield 79, 3) := by decide +kernel
theorem dAl_4 : decode jdk_68_method_6_code 4 = .ok (.ireturn, 1) := by decide +kernel
theorem pnAl : plainName "java/lang/AbstractStringBuilder" = true := by first | (simp [plainName, overriddenIn]; done) | decide +kernel
theorem efAl (m : MethodId) (a : Addr) : entryFrame m #[(.ref a)] 1 = mkF m 0 #[.val (.ref a)] [] := by first | (simp [entryFrame, mkF, argsToLocals, Value.category]; done) | rfl
def QAl (Z : State) (ct : Int32) (h0 : Heap) (n0 : Nat) (v : Option Value) (h : Heap) (L : List Loc) : Prop := (v = some (.int ct) ∧ Fr n0 L ∧ h = h0)
set_option maxRecDepth 65536 in
set_option maxHeartbeats 40000000 in
theorem rmAl (l : Launch) (Z : State) (a0 : Array Value) (hw : ∀ d ∈ tables_1, d.before a0 Z = true) (ws : List Jvm.Cond) (a : Addr) (ct : Int32) (h0 : Heap) (n0 : Nat) (Z0 : n0 ≤ h0.size) (E0_a : Exa Z h0 a "java/lang/StringBuilder") (F0_a_count : Fld Z h0 a "java/lang/AbstractStringBuilder" "count" "I" (.int ct)) :
    Ct l Z (⟨"java/lang/AbstractStringBuilder", "length", "()I"⟩ : MethodName) jdk_68_method_6_code 1 (some .int) ws (⟨0, 0, 0, 0⟩ : Room) #[(.ref a)] h0 (QAl Z ct h0 n0) := by
  refine MetFree.of_bodySF (plainFor_of_name pnAl) hisR ?_
  intro p e s m args below meth c s₁ Bd hml hP hK
  obtain ⟨rfl, hZ, hh⟩ := hP
  obtain ⟨hx, hby, hown, hnm, hlk, hret, X0, e0⟩ := own_st Bd "java/lang/AbstractStringBuilder" rfl hh
  have N0 := Fr.nil n0
  show Go p e below s (⟨0, 0, 0, 0⟩ : Room).cells (⟨0, 0, 0, 0⟩ : Room).slots (QAl Z ct h0 n0) (s₁.setTop (entryFrame m #[(.ref a)] 1))
  rw [efAl]
  obtain ⟨T101, X101, e101, st101⟩ := getF X0 hx hZ hown (host := "") (Or.inl (own_w hw 117 rfl)) Via.refl e0 F0_a_count (g := (mkF m 1 #[.val (.ref a)] [(.ref a)])) rfl rfl (hb hby dAl_1)
  refine Go.by (fun _ kont => XS.aloadN X0.here hx rfl (hb hby dAl_0) rfl rfl (st101 _ kont)) ?_
  show Go _ _ _ _ _ _ _ (T101.setTop (mkF m 4 #[.val (.ref a)] [(.int ct)]))
  refine Go.retI X101 hx hret hlk (hb hby dAl_4) ?_ (by decide) (by decide)
  show QAl Z ct h0 n0 (some (.int ct)) T101.heap _
  rw [e101]
  exact ⟨rfl, N0, rfl⟩

theorem dBl_0 : decode jdk_67_method_93_code 0 = .ok (.aload_n 0, 1) := by decide +kernel
theorem dBl_1 : decode jdk_67_method_93_code 1 = .ok (.invokespecial 343, 3) := by decide +kernel
theorem dBl_4 : decode jdk_67_method_93_code 4 = .ok (.ireturn, 1) := by decide +kernel
theorem pdBl_0 : parseMethodDescriptor "()I" = some ⟨[], some .int⟩ := by decide +kernel
theorem pnBl : plainName "java/lang/StringBuilder" = true := by first | (simp [plainName, overriddenIn]; done) | decide +kernel
theorem efBl (m : MethodId) (a : Addr) : entryFrame m #[(.ref a)] 1 = mkF m 0 #[.val (.ref a)] [] := by first | (simp [entryFrame, mkF, argsToLocals, Value.category]; done) | rfl
def QBl (Z : State) (ct : Int32) (h0 : Heap) (n0 : Nat) (v : Option Value) (h : Heap) (L : List Loc) : Prop := (v = some (.int ct) ∧ Fr n0 L ∧ h = h0)
set_option maxRecDepth 65536 in
set_option maxHeartbeats 40000000 in
theorem rmBl (l : Launch) (Z : State) (a0 : Array Value) (hw : ∀ d ∈ tables_1, d.before a0 Z = true) (ws : List Jvm.Cond) (a : Addr) (ct : Int32) (h0 : Heap) (n0 : Nat) (Z0 : n0 ≤ h0.size) (E0_a : Exa Z h0 a "java/lang/StringBuilder") (F0_a_count : Fld Z h0 a "java/lang/AbstractStringBuilder" "count" "I" (.int ct)) :
    Ct l Z (⟨"java/lang/StringBuilder", "length", "()I"⟩ : MethodName) jdk_67_method_93_code 1 (some .int) ws (⟨1, 0, 0, 12⟩ : Room) #[(.ref a)] h0 (QBl Z ct h0 n0) := by
  refine MetFree.of_bodySF (plainFor_of_name pnBl) hisR ?_
  intro p e s m args below meth c s₁ Bd hml hP hK
  obtain ⟨rfl, hZ, hh⟩ := hP
  obtain ⟨hx, hby, hown, hnm, hlk, hret, X0, e0⟩ := own_st Bd "java/lang/StringBuilder" rfl hh
  have N0 := Fr.nil n0
  show Go p e below s (⟨1, 0, 0, 12⟩ : Room).cells (⟨1, 0, 0, 12⟩ : Room).slots (QBl Z ct h0 n0) (s₁.setTop (entryFrame m #[(.ref a)] 1))
  rw [efBl]
  obtain ⟨_, _, ⟨T101, L101, k101, n101⟩, -, X101, ⟨Lc101, hQ101, l101, y101, z101⟩, st101⟩ := superBack X0 hx hZ (y := (⟨"java/lang/AbstractStringBuilder", "length", "()I"⟩ : MethodName)) hown (own_w hw 112 rfl) (own_same (own_w hw 142 rfl) (own_w hw 140 rfl) (own_w hw 113 rfl) rfl (by decide)) (own_w hw 113 rfl) (own_w hw 114 rfl) (by decide) (backOf (W := 0) (rmAl l Z a0 hw [] a ct h0 n0 Z0 E0_a F0_a_count) hZ (own_w hw 116 rfl) (own_w hw 71 rfl) (by decide) (by decide)) e0 (Ins.self E0_a) (g := (mkF m 1 #[.val (.ref a)] [(.ref a)])) rfl (by rw [hml]; rfl) (own_w hw 116 rfl) (argsL := []) (rest := []) (lenOf pdBl_0 rfl) rfl (by show 2 * 0 + _ ≤ _; exact Nat.le_of_eq rfl) (hb hby dBl_1) (fun _ _ => ⟨rfl, e0, (by decide : 0 + 0 ≤ _), (by decide : 0 + 0 ≤ _)⟩)
  dsimp only [Pt.U, Pt.locs, Pt.cells, Pt.slots] at X101 l101 y101 z101 st101 hQ101
  subst l101 y101 z101
  obtain ⟨rfl, N101q, eh101⟩ := hQ101
  have N101 := Fr.app N0 N101q
  refine Go.by (fun _ kont => XS.aloadN X0.here hx rfl (hb hby dBl_0) rfl rfl (st101.trans kont)) ?_
  show Go _ _ _ _ _ _ _ (T101.setTop (mkF m 4 #[.val (.ref a)] [(.int ct)]))
  refine Go.retI X101 hx hret hlk (hb hby dBl_4) ?_ (by decide) (by decide)
  show QBl Z ct h0 n0 (some (.int ct)) T101.heap _
  rw [eh101]
  exact ⟨rfl, N101, rfl⟩

theorem dCo_0 : decode jdk_42_method_152_code 0 = .ok (.getstatic 38, 3) := by decide +kernel
theorem dCo_3 : decode jdk_42_method_152_code 3 = .ok (.ifCond .eq 10, 3) := by decide +kernel
theorem dCo_6 : decode jdk_42_method_152_code 6 = .ok (.aload_n 0, 1) := by decide +kernel
theorem dCo_7 : decode jdk_42_method_152_code 7 = .ok (.getfield 15, 3) := by decide +kernel
theorem dCo_10 : decode jdk_42_method_152_code 10 = .ok (.goto 4, 3) := by decide +kernel
theorem dCo_14 : decode jdk_42_method_152_code 14 = .ok (.ireturn, 1) := by decide +kernel
theorem pnCo : plainName "java/lang/String" = true := by first | (simp [plainName, overriddenIn]; done) | decide +kernel
theorem efCo (m : MethodId) (a : Addr) : entryFrame m #[(.ref a)] 1 = mkF m 0 #[.val (.ref a)] [] := by first | (simp [entryFrame, mkF, argsToLocals, Value.category]; done) | rfl
def QCo (Z : State)  (h0 : Heap) (n0 : Nat) (v : Option Value) (h : Heap) (L : List Loc) : Prop := (v = some (.int 0) ∧ Fr n0 L ∧ h = h0)
set_option maxRecDepth 65536 in
set_option maxHeartbeats 40000000 in
theorem rmCo (l : Launch) (Z : State) (a0 : Array Value) (hw : ∀ d ∈ tables_1, d.before a0 Z = true) (ws : List Jvm.Cond) (a : Addr) (cs : Int32) (h0 : Heap) (n0 : Nat) (Z0 : n0 ≤ h0.size) (E0_a : Exa Z h0 a "java/lang/String") (F0_a_coder : Fld Z h0 a "java/lang/String" "coder" "B" (.int 0)) (S0_COMPACT_STRINGS : Sta Z h0 "java/lang/String" "COMPACT_STRINGS" "Z" (.int cs)) (hcs : ¬ (cs = (0 : Int32))) :
    Ct l Z (⟨"java/lang/String", "coder", "()B"⟩ : MethodName) jdk_42_method_152_code 1 (some .byte) ws (⟨0, 0, 0, 0⟩ : Room) #[(.ref a)] h0 (QCo Z  h0 n0) := by
  refine MetFree.of_bodySF (plainFor_of_name pnCo) hisR ?_
  intro p e s m args below meth c s₁ Bd hml hP hK
  obtain ⟨rfl, hZ, hh⟩ := hP
  obtain ⟨hx, hby, hown, hnm, hlk, hret, X0, e0⟩ := own_st Bd "java/lang/String" rfl hh
  have N0 := Fr.nil n0
  show Go p e below s (⟨0, 0, 0, 0⟩ : Room).cells (⟨0, 0, 0, 0⟩ : Room).slots (QCo Z  h0 n0) (s₁.setTop (entryFrame m #[(.ref a)] 1))
  rw [efCo]
  obtain ⟨T101, X101, e101, st101⟩ := getS2 X0 hx hZ hown (host := "") (Or.inl (own_w hw 18 rfl)) Via.refl e0 S0_COMPACT_STRINGS (g := (mkF m 0 #[.val (.ref a)] [])) rfl (hb hby dCo_0)
  refine Go.by (fun _ kont => st101 _ kont) ?_
  show Go _ _ _ _ _ _ _ (T101.setTop (mkF m 3 #[.val (.ref a)] [(.int cs)]))
  refine Go.by (fun _ kont => XS.ifNo X101.here hx rfl (hb hby dCo_3) rfl ((if0 _ _).trans (feq hcs).1) kont) ?_
  show Go _ _ _ _ _ _ _ (T101.setTop (mkF m 6 #[.val (.ref a)] []))
  obtain ⟨T102, X102, e102, st102⟩ := getF X101 hx hZ hown (host := "") (Or.inl (own_w hw 30 rfl)) Via.refl e101 F0_a_coder (g := (mkF m 7 #[.val (.ref a)] [(.ref a)])) rfl rfl (hb hby dCo_7)
  refine Go.by (fun _ kont => XS.aloadN X101.here hx rfl (hb hby dCo_6) rfl rfl (st102 _ (XS.goto X102.here hx rfl (pc0 := 10) (pc' := 14) rfl (hb hby dCo_10) (by decide) (by decide) kont))) ?_
  show Go _ _ _ _ _ _ _ (T102.setTop (mkF m 14 #[.val (.ref a)] [(.int 0)]))
  refine Go.retN X102 hx (t := .byte) hret (by simp) hlk (hb hby dCo_14) ?_ (by decide) (by decide)
  show QCo Z  h0 n0 (some (.int (0 : Int32))) T102.heap _
  rw [e102]
  exact ⟨rfl, N0, rfl⟩

theorem dSl0_0 : decode jdk_42_method_54_code 0 = .ok (.aload_n 0, 1) := by decide +kernel
theorem dSl0_1 : decode jdk_42_method_54_code 1 = .ok (.getfield 9, 3) := by decide +kernel
theorem dSl0_4 : decode jdk_42_method_54_code 4 = .ok (.arraylength, 1) := by decide +kernel
theorem dSl0_5 : decode jdk_42_method_54_code 5 = .ok (.aload_n 0, 1) := by decide +kernel
theorem dSl0_6 : decode jdk_42_method_54_code 6 = .ok (.invokevirtual 335, 3) := by decide +kernel
theorem dSl0_9 : decode jdk_42_method_54_code 9 = .ok (.ishr, 1) := by decide +kernel
theorem dSl0_10 : decode jdk_42_method_54_code 10 = .ok (.ireturn, 1) := by decide +kernel
theorem pdSl0_0 : parseMethodDescriptor "()B" = some ⟨[], some .byte⟩ := by decide +kernel
theorem pnSl0 : plainName "java/lang/String" = true := by first | (simp [plainName, overriddenIn]; done) | decide +kernel
theorem efSl0 (m : MethodId) (a : Addr) : entryFrame m #[(.ref a)] 1 = mkF m 0 #[.val (.ref a)] [] := by first | (simp [entryFrame, mkF, argsToLocals, Value.category]; done) | rfl
def QSl0 (Z : State)  (h0 : Heap) (n0 : Nat) (v : Option Value) (h : Heap) (L : List Loc) : Prop := (v = some (.int 0) ∧ Fr n0 L ∧ h = h0)
set_option maxRecDepth 65536 in
set_option maxHeartbeats 40000000 in
theorem rmSl0 (l : Launch) (Z : State) (a0 : Array Value) (hw : ∀ d ∈ tables_1, d.before a0 Z = true) (ws : List Jvm.Cond) (a : Addr) (za : Addr) (kc_za : ClassId) (cs : Int32) (h0 : Heap) (n0 : Nat) (Z0 : n0 ≤ h0.size) (E0_a : Exa Z h0 a "java/lang/String") (F0_a_coder : Fld Z h0 a "java/lang/String" "coder" "B" (.int 0)) (F0_a_value : Fld Z h0 a "java/lang/String" "value" "[B" (.ref za)) (V0_za : Arv Z h0 za kc_za .byte (0 : Int32) [] (.int 0)) (S0_COMPACT_STRINGS : Sta Z h0 "java/lang/String" "COMPACT_STRINGS" "Z" (.int cs)) (hcs : ¬ (cs = (0 : Int32))) :
    Ct l Z (⟨"java/lang/String", "length", "()I"⟩ : MethodName) jdk_42_method_54_code 1 (some .int) ws (⟨1, 0, 0, 13⟩ : Room) #[(.ref a)] h0 (QSl0 Z  h0 n0) := by
  refine MetFree.of_bodySF (plainFor_of_name pnSl0) hisR ?_
  intro p e s m args below meth c s₁ Bd hml hP hK
  obtain ⟨rfl, hZ, hh⟩ := hP
  obtain ⟨hx, hby, hown, hnm, hlk, hret, X0, e0⟩ := own_st Bd "java/lang/String" rfl hh
  have N0 := Fr.nil n0
  show Go p e below s (⟨1, 0, 0, 13⟩ : Room).cells (⟨1, 0, 0, 13⟩ : Room).slots (QSl0 Z  h0 n0) (s₁.setTop (entryFrame m #[(.ref a)] 1))
  rw [efSl0]
  obtain ⟨T101, X101, e101, st101⟩ := getF X0 hx hZ hown (host := "") (Or.inl (own_w hw 32 rfl)) Via.refl e0 F0_a_value (g := (mkF m 1 #[.val (.ref a)] [(.ref a)])) rfl rfl (hb hby dSl0_1)
  obtain ⟨cl_q102, Ar_q102, q1_q102, S_q102, N_q102, H_q102, G_q102⟩ := id V0_za
  obtain ⟨cq103, kq103, q103a, q103b, q103c⟩ := isOf hZ e101 E0_a
  obtain ⟨_, _, ⟨T103, L103, k103, n103⟩, -, X103, ⟨Lc103, hQ103, l103, y103, z103⟩, st103⟩ := X101.virtualBack hx (y := (⟨"java/lang/String", "coder", "()B"⟩ : MethodName)) (z := (⟨"java/lang/String", "coder", "()B"⟩ : MethodName)) hown (mvT hZ (own_w hw 134 rfl)) (mvT hZ (own_w hw 135 rfl)) (notFace_of_selects (args := #[]) (mvT hZ (own_w hw 137 rfl))) (mvT hZ (own_w hw 137 rfl)) (mvT hZ (own_w hw 136 rfl)) (by decide) (backOf (W := 1) (rmCo l Z a0 hw [] a cs h0 n0 Z0 E0_a F0_a_coder S0_COMPACT_STRINGS hcs) hZ (own_w hw 138 rfl) (own_w hw 7 rfl) (by decide) (by decide)) q103a q103c (g := (mkF m 6 #[.val (.ref a)] [(.ref a), (.int 0)])) rfl (by rw [hml]; rfl) (Steps.refl _) (argsL := []) (rest := [(.int 0)]) (lenOf pdSl0_0 rfl) rfl (by show 2 * 0 + _ ≤ _; exact Nat.le_of_eq rfl) (hb hby dSl0_6) (fun _ _ => ⟨rfl, e101, (by decide : 0 + 0 ≤ _), (by decide : 0 + 0 ≤ _)⟩)
  dsimp only [Pt.U, Pt.locs, Pt.cells, Pt.slots] at X103 l103 y103 z103 st103 hQ103
  subst l103 y103 z103
  obtain ⟨rfl, N103q, eh103⟩ := hQ103
  have N103 := Fr.app N0 N103q
  refine Go.by (fun _ kont => XS.aloadN X0.here hx rfl (hb hby dSl0_0) rfl rfl (st101 _ (X101.arraylength hx (own_at e101 Ar_q102.1) (State.isArrayOf_alike hZ.alike Ar_q102.2.1) (g := (mkF m 4 #[.val (.ref a)] [(.ref za)])) rfl rfl (hb hby dSl0_4) _ (own_fI (len_of S_q102 N_q102) (XS.aloadN X101.here hx rfl (hb hby dSl0_5) rfl rfl (st103.trans (XS.ishr X103.here hx rfl (hb hby dSl0_9) rfl (own_fI (show ((0 : Int32) >>> ((0 : Int32) &&& 31)) = (0 : Int32) from by decide) kont)))))))) ?_
  show Go _ _ _ _ _ _ _ (T103.setTop (mkF m 10 #[.val (.ref a)] [(.int 0)]))
  refine Go.retI X103 hx hret hlk (hb hby dSl0_10) ?_ (by decide) (by decide)
  show QSl0 Z  h0 n0 (some (.int 0)) T103.heap _
  rw [eh103]
  exact ⟨rfl, N103, rfl⟩

theorem pdSl1_0 : parseMethodDescriptor "()B" = some ⟨[], some .byte⟩ := by decide +kernel
theorem pnSl1 : plainName "java/lang/String" = true := by first | (simp [plainName, overriddenIn]; done) | decide +kernel
theorem efSl1 (m : MethodId) (a : Addr) : entryFrame m #[(.ref a)] 1 = mkF m 0 #[.val (.ref a)] [] := by first | (simp [entryFrame, mkF, argsToLocals, Value.category]; done) | rfl
def QSl1 (Z : State)  (h0 : Heap) (n0 : Nat) (v : Option Value) (h : Heap) (L : List Loc) : Prop := (v = some (.int 6) ∧ Fr n0 L ∧ h = h0)
set_option maxRecDepth 65536 in
set_option maxHeartbeats 40000000 in
theorem rmSl1 (l : Launch) (Z : State) (a0 : Array Value) (hw : ∀ d ∈ tables_1, d.before a0 Z = true) (ws : List Jvm.Cond) (a : Addr) (za : Addr) (kc_za : ClassId) (cs : Int32) (h0 : Heap) (n0 : Nat) (Z0 : n0 ≤ h0.size) (E0_a : Exa Z h0 a "java/lang/String") (F0_a_coder : Fld Z h0 a "java/lang/String" "coder" "B" (.int 0)) (F0_a_value : Fld Z h0 a "java/lang/String" "value" "[B" (.ref za)) (V0_za : Arv Z h0 za kc_za .byte (6 : Int32) [(.int 110), (.int 111), (.int 114), (.int 109), (.int 97), (.int 108)] (.int 0)) (S0_COMPACT_STRINGS : Sta Z h0 "java/lang/String" "COMPACT_STRINGS" "Z" (.int cs)) (hcs : ¬ (cs = (0 : Int32))) :
    Ct l Z (⟨"java/lang/String", "length", "()I"⟩ : MethodName) jdk_42_method_54_code 1 (some .int) ws (⟨1, 0, 0, 13⟩ : Room) #[(.ref a)] h0 (QSl1 Z  h0 n0) := by
  refine MetFree.of_bodySF (plainFor_of_name pnSl1) hisR ?_
  intro p e s m args below meth c s₁ Bd hml hP hK
  obtain ⟨rfl, hZ, hh⟩ := hP
  obtain ⟨hx, hby, hown, hnm, hlk, hret, X0, e0⟩ := own_st Bd "java/lang/String" rfl hh
  have N0 := Fr.nil n0
  show Go p e below s (⟨1, 0, 0, 13⟩ : Room).cells (⟨1, 0, 0, 13⟩ : Room).slots (QSl1 Z  h0 n0) (s₁.setTop (entryFrame m #[(.ref a)] 1))
  rw [efSl1]
  obtain ⟨T101, X101, e101, st101⟩ := getF X0 hx hZ hown (host := "") (Or.inl (own_w hw 32 rfl)) Via.refl e0 F0_a_value (g := (mkF m 1 #[.val (.ref a)] [(.ref a)])) rfl rfl (hb hby dSl0_1)
  obtain ⟨cl_q102, Ar_q102, q1_q102, S_q102, N_q102, H_q102, G_q102⟩ := id V0_za
  obtain ⟨cq103, kq103, q103a, q103b, q103c⟩ := isOf hZ e101 E0_a
  obtain ⟨_, _, ⟨T103, L103, k103, n103⟩, -, X103, ⟨Lc103, hQ103, l103, y103, z103⟩, st103⟩ := X101.virtualBack hx (y := (⟨"java/lang/String", "coder", "()B"⟩ : MethodName)) (z := (⟨"java/lang/String", "coder", "()B"⟩ : MethodName)) hown (mvT hZ (own_w hw 134 rfl)) (mvT hZ (own_w hw 135 rfl)) (notFace_of_selects (args := #[]) (mvT hZ (own_w hw 137 rfl))) (mvT hZ (own_w hw 137 rfl)) (mvT hZ (own_w hw 136 rfl)) (by decide) (backOf (W := 1) (rmCo l Z a0 hw [] a cs h0 n0 Z0 E0_a F0_a_coder S0_COMPACT_STRINGS hcs) hZ (own_w hw 138 rfl) (own_w hw 7 rfl) (by decide) (by decide)) q103a q103c (g := (mkF m 6 #[.val (.ref a)] [(.ref a), (.int 6)])) rfl (by rw [hml]; rfl) (Steps.refl _) (argsL := []) (rest := [(.int 6)]) (lenOf pdSl1_0 rfl) rfl (by show 2 * 0 + _ ≤ _; exact Nat.le_of_eq rfl) (hb hby dSl0_6) (fun _ _ => ⟨rfl, e101, (by decide : 0 + 0 ≤ _), (by decide : 0 + 0 ≤ _)⟩)
  dsimp only [Pt.U, Pt.locs, Pt.cells, Pt.slots] at X103 l103 y103 z103 st103 hQ103
  subst l103 y103 z103
  obtain ⟨rfl, N103q, eh103⟩ := hQ103
  have N103 := Fr.app N0 N103q
  refine Go.by (fun _ kont => XS.aloadN X0.here hx rfl (hb hby dSl0_0) rfl rfl (st101 _ (X101.arraylength hx (own_at e101 Ar_q102.1) (State.isArrayOf_alike hZ.alike Ar_q102.2.1) (g := (mkF m 4 #[.val (.ref a)] [(.ref za)])) rfl rfl (hb hby dSl0_4) _ (own_fI (len_of S_q102 N_q102) (XS.aloadN X101.here hx rfl (hb hby dSl0_5) rfl rfl (st103.trans (XS.ishr X103.here hx rfl (hb hby dSl0_9) rfl (own_fI (show ((6 : Int32) >>> ((0 : Int32) &&& 31)) = (6 : Int32) from by decide) kont)))))))) ?_
  show Go _ _ _ _ _ _ _ (T103.setTop (mkF m 10 #[.val (.ref a)] [(.int 6)]))
  refine Go.retI X103 hx hret hlk (hb hby dSl0_10) ?_ (by decide) (by decide)
  show QSl1 Z  h0 n0 (some (.int 6)) T103.heap _
  rw [eh103]
  exact ⟨rfl, N103, rfl⟩

theorem pdSl2_0 : parseMethodDescriptor "()B" = some ⟨[], some .byte⟩ := by decide +kernel
theorem pnSl2 : plainName "java/lang/String" = true := by first | (simp [plainName, overriddenIn]; done) | decide +kernel
theorem efSl2 (m : MethodId) (a : Addr) : entryFrame m #[(.ref a)] 1 = mkF m 0 #[.val (.ref a)] [] := by first | (simp [entryFrame, mkF, argsToLocals, Value.category]; done) | rfl
def QSl2 (Z : State)  (h0 : Heap) (n0 : Nat) (v : Option Value) (h : Heap) (L : List Loc) : Prop := (v = some (.int 4) ∧ Fr n0 L ∧ h = h0)
set_option maxRecDepth 65536 in
set_option maxHeartbeats 40000000 in
theorem rmSl2 (l : Launch) (Z : State) (a0 : Array Value) (hw : ∀ d ∈ tables_1, d.before a0 Z = true) (ws : List Jvm.Cond) (a : Addr) (za : Addr) (kc_za : ClassId) (cs : Int32) (h0 : Heap) (n0 : Nat) (Z0 : n0 ≤ h0.size) (E0_a : Exa Z h0 a "java/lang/String") (F0_a_coder : Fld Z h0 a "java/lang/String" "coder" "B" (.int 0)) (F0_a_value : Fld Z h0 a "java/lang/String" "value" "[B" (.ref za)) (V0_za : Arv Z h0 za kc_za .byte (4 : Int32) [(.int 32), (.int 111), (.int 114), (.int 32)] (.int 0)) (S0_COMPACT_STRINGS : Sta Z h0 "java/lang/String" "COMPACT_STRINGS" "Z" (.int cs)) (hcs : ¬ (cs = (0 : Int32))) :
    Ct l Z (⟨"java/lang/String", "length", "()I"⟩ : MethodName) jdk_42_method_54_code 1 (some .int) ws (⟨1, 0, 0, 13⟩ : Room) #[(.ref a)] h0 (QSl2 Z  h0 n0) := by
  refine MetFree.of_bodySF (plainFor_of_name pnSl2) hisR ?_
  intro p e s m args below meth c s₁ Bd hml hP hK
  obtain ⟨rfl, hZ, hh⟩ := hP
  obtain ⟨hx, hby, hown, hnm, hlk, hret, X0, e0⟩ := own_st Bd "java/lang/String" rfl hh
  have N0 := Fr.nil n0
  show Go p e below s (⟨1, 0, 0, 13⟩ : Room).cells (⟨1, 0, 0, 13⟩ : Room).slots (QSl2 Z  h0 n0) (s₁.setTop (entryFrame m #[(.ref a)] 1))
  rw [efSl2]
  obtain ⟨T101, X101, e101, st101⟩ := getF X0 hx hZ hown (host := "") (Or.inl (own_w hw 32 rfl)) Via.refl e0 F0_a_value (g := (mkF m 1 #[.val (.ref a)] [(.ref a)])) rfl rfl (hb hby dSl0_1)
  obtain ⟨cl_q102, Ar_q102, q1_q102, S_q102, N_q102, H_q102, G_q102⟩ := id V0_za
  obtain ⟨cq103, kq103, q103a, q103b, q103c⟩ := isOf hZ e101 E0_a
  obtain ⟨_, _, ⟨T103, L103, k103, n103⟩, -, X103, ⟨Lc103, hQ103, l103, y103, z103⟩, st103⟩ := X101.virtualBack hx (y := (⟨"java/lang/String", "coder", "()B"⟩ : MethodName)) (z := (⟨"java/lang/String", "coder", "()B"⟩ : MethodName)) hown (mvT hZ (own_w hw 134 rfl)) (mvT hZ (own_w hw 135 rfl)) (notFace_of_selects (args := #[]) (mvT hZ (own_w hw 137 rfl))) (mvT hZ (own_w hw 137 rfl)) (mvT hZ (own_w hw 136 rfl)) (by decide) (backOf (W := 1) (rmCo l Z a0 hw [] a cs h0 n0 Z0 E0_a F0_a_coder S0_COMPACT_STRINGS hcs) hZ (own_w hw 138 rfl) (own_w hw 7 rfl) (by decide) (by decide)) q103a q103c (g := (mkF m 6 #[.val (.ref a)] [(.ref a), (.int 4)])) rfl (by rw [hml]; rfl) (Steps.refl _) (argsL := []) (rest := [(.int 4)]) (lenOf pdSl2_0 rfl) rfl (by show 2 * 0 + _ ≤ _; exact Nat.le_of_eq rfl) (hb hby dSl0_6) (fun _ _ => ⟨rfl, e101, (by decide : 0 + 0 ≤ _), (by decide : 0 + 0 ≤ _)⟩)
  dsimp only [Pt.U, Pt.locs, Pt.cells, Pt.slots] at X103 l103 y103 z103 st103 hQ103
  subst l103 y103 z103
  obtain ⟨rfl, N103q, eh103⟩ := hQ103
  have N103 := Fr.app N0 N103q
  refine Go.by (fun _ kont => XS.aloadN X0.here hx rfl (hb hby dSl0_0) rfl rfl (st101 _ (X101.arraylength hx (own_at e101 Ar_q102.1) (State.isArrayOf_alike hZ.alike Ar_q102.2.1) (g := (mkF m 4 #[.val (.ref a)] [(.ref za)])) rfl rfl (hb hby dSl0_4) _ (own_fI (len_of S_q102 N_q102) (XS.aloadN X101.here hx rfl (hb hby dSl0_5) rfl rfl (st103.trans (XS.ishr X103.here hx rfl (hb hby dSl0_9) rfl (own_fI (show ((4 : Int32) >>> ((0 : Int32) &&& 31)) = (4 : Int32) from by decide) kont)))))))) ?_
  show Go _ _ _ _ _ _ _ (T103.setTop (mkF m 10 #[.val (.ref a)] [(.int 4)]))
  refine Go.retI X103 hx hret hlk (hb hby dSl0_10) ?_ (by decide) (by decide)
  show QSl2 Z  h0 n0 (some (.int 4)) T103.heap _
  rw [eh103]
  exact ⟨rfl, N103, rfl⟩

theorem pdSl3_0 : parseMethodDescriptor "()B" = some ⟨[], some .byte⟩ := by decide +kernel
theorem pnSl3 : plainName "java/lang/String" = true := by first | (simp [plainName, overriddenIn]; done) | decide +kernel
theorem efSl3 (m : MethodId) (a : Addr) : entryFrame m #[(.ref a)] 1 = mkF m 0 #[.val (.ref a)] [] := by first | (simp [entryFrame, mkF, argsToLocals, Value.category]; done) | rfl
def QSl3 (Z : State)  (h0 : Heap) (n0 : Nat) (v : Option Value) (h : Heap) (L : List Loc) : Prop := (v = some (.int 11) ∧ Fr n0 L ∧ h = h0)
set_option maxRecDepth 65536 in
set_option maxHeartbeats 40000000 in
theorem rmSl3 (l : Launch) (Z : State) (a0 : Array Value) (hw : ∀ d ∈ tables_1, d.before a0 Z = true) (ws : List Jvm.Cond) (a : Addr) (za : Addr) (kc_za : ClassId) (cs : Int32) (h0 : Heap) (n0 : Nat) (Z0 : n0 ≤ h0.size) (E0_a : Exa Z h0 a "java/lang/String") (F0_a_coder : Fld Z h0 a "java/lang/String" "coder" "B" (.int 0)) (F0_a_value : Fld Z h0 a "java/lang/String" "value" "[B" (.ref za)) (V0_za : Arv Z h0 za kc_za .byte (11 : Int32) [(.int 110), (.int 111), (.int 95), (.int 110), (.int 101), (.int 119), (.int 95), (.int 111), (.int 112), (.int 101), (.int 110)] (.int 0)) (S0_COMPACT_STRINGS : Sta Z h0 "java/lang/String" "COMPACT_STRINGS" "Z" (.int cs)) (hcs : ¬ (cs = (0 : Int32))) :
    Ct l Z (⟨"java/lang/String", "length", "()I"⟩ : MethodName) jdk_42_method_54_code 1 (some .int) ws (⟨1, 0, 0, 13⟩ : Room) #[(.ref a)] h0 (QSl3 Z  h0 n0) := by
  refine MetFree.of_bodySF (plainFor_of_name pnSl3) hisR ?_
  intro p e s m args below meth c s₁ Bd hml hP hK
  obtain ⟨rfl, hZ, hh⟩ := hP
  obtain ⟨hx, hby, hown, hnm, hlk, hret, X0, e0⟩ := own_st Bd "java/lang/String" rfl hh
  have N0 := Fr.nil n0
  show Go p e below s (⟨1, 0, 0, 13⟩ : Room).cells (⟨1, 0, 0, 13⟩ : Room).slots (QSl3 Z  h0 n0) (s₁.setTop (entryFrame m #[(.ref a)] 1))
  rw [efSl3]
  obtain ⟨T101, X101, e101, st101⟩ := getF X0 hx hZ hown (host := "") (Or.inl (own_w hw 32 rfl)) Via.refl e0 F0_a_value (g := (mkF m 1 #[.val (.ref a)] [(.ref a)])) rfl rfl (hb hby dSl0_1)
  obtain ⟨cl_q102, Ar_q102, q1_q102, S_q102, N_q102, H_q102, G_q102⟩ := id V0_za
  obtain ⟨cq103, kq103, q103a, q103b, q103c⟩ := isOf hZ e101 E0_a
  obtain ⟨_, _, ⟨T103, L103, k103, n103⟩, -, X103, ⟨Lc103, hQ103, l103, y103, z103⟩, st103⟩ := X101.virtualBack hx (y := (⟨"java/lang/String", "coder", "()B"⟩ : MethodName)) (z := (⟨"java/lang/String", "coder", "()B"⟩ : MethodName)) hown (mvT hZ (own_w hw 134 rfl)) (mvT hZ (own_w hw 135 rfl)) (notFace_of_selects (args := #[]) (mvT hZ (own_w hw 137 rfl))) (mvT hZ (own_w hw 137 rfl)) (mvT hZ (own_w hw 136 rfl)) (by decide) (backOf (W := 1) (rmCo l Z a0 hw [] a cs h0 n0 Z0 E0_a F0_a_coder S0_COMPACT_STRINGS hcs) hZ (own_w hw 138 rfl) (own_w hw 7 rfl) (by decide) (by decide)) q103a q103c (g := (mkF m 6 #[.val (.ref a)] [(.ref a), (.int 11)])) rfl (by rw [hml]; rfl) (Steps.refl _) (argsL := []) (rest := [(.int 11)]) (lenOf pdSl3_0 rfl) rfl (by show 2 * 0 + _ ≤ _; exact Nat.le_of_eq rfl) (hb hby dSl0_6) (fun _ _ => ⟨rfl, e101, (by decide : 0 + 0 ≤ _), (by decide : 0 + 0 ≤ _)⟩)
  dsimp only [Pt.U, Pt.locs, Pt.cells, Pt.slots] at X103 l103 y103 z103 st103 hQ103
  subst l103 y103 z103
  obtain ⟨rfl, N103q, eh103⟩ := hQ103
  have N103 := Fr.app N0 N103q
  refine Go.by (fun _ kont => XS.aloadN X0.here hx rfl (hb hby dSl0_0) rfl rfl (st101 _ (X101.arraylength hx (own_at e101 Ar_q102.1) (State.isArrayOf_alike hZ.alike Ar_q102.2.1) (g := (mkF m 4 #[.val (.ref a)] [(.ref za)])) rfl rfl (hb hby dSl0_4) _ (own_fI (len_of S_q102 N_q102) (XS.aloadN X101.here hx rfl (hb hby dSl0_5) rfl rfl (st103.trans (XS.ishr X103.here hx rfl (hb hby dSl0_9) rfl (own_fI (show ((11 : Int32) >>> ((0 : Int32) &&& 31)) = (11 : Int32) from by decide) kont)))))))) ?_
  show Go _ _ _ _ _ _ _ (T103.setTop (mkF m 10 #[.val (.ref a)] [(.int 11)]))
  refine Go.retI X103 hx hret hlk (hb hby dSl0_10) ?_ (by decide) (by decide)
  show QSl3 Z  h0 n0 (some (.int 11)) T103.heap _
  rw [eh103]
  exact ⟨rfl, N103, rfl⟩

theorem dMx_0 : decode jdk_29_method_65_code 0 = .ok (.iload_n 0, 1) := by decide +kernel
theorem dMx_1 : decode jdk_29_method_65_code 1 = .ok (.iload_n 1, 1) := by decide +kernel
theorem dMx_2 : decode jdk_29_method_65_code 2 = .ok (.if_icmp .lt 7, 3) := by decide +kernel
theorem dMx_9 : decode jdk_29_method_65_code 9 = .ok (.iload_n 1, 1) := by decide +kernel
theorem dMx_10 : decode jdk_29_method_65_code 10 = .ok (.ireturn, 1) := by decide +kernel
theorem efMx (m : MethodId)  : entryFrame m #[(.int 5), (.int 18)] 2 = mkF m 0 #[.val (.int 5), .val (.int 18)] [] := by first | (simp [entryFrame, mkF, argsToLocals, Value.category]; done) | rfl
def QMx (Z : State)  (h0 : Heap) (n0 : Nat) (v : Option Value) (h : Heap) (L : List Loc) : Prop := (v = some (.int 18) ∧ Fr n0 L ∧ h = h0)
set_option maxRecDepth 65536 in
set_option maxHeartbeats 40000000 in
theorem rmMx (l : Launch) (Z : State) (a0 : Array Value) (hw : ∀ d ∈ tables_1, d.before a0 Z = true) (ws : List Jvm.Cond)  (h0 : Heap) (n0 : Nat) (Z0 : n0 ≤ h0.size) :
    Ct l Z (⟨"java/lang/Math", "max", "(II)I"⟩ : MethodName) jdk_29_method_65_code 2 (some .int) ws (⟨0, 0, 0, 0⟩ : Room) #[(.int 5), (.int 18)] h0 (QMx Z  h0 n0) := by
  refine MetFree.of_bodySF (Jvm.Free.JP.mathPlain rfl (by decide +kernel)) hisR ?_
  intro p e s m args below meth c s₁ Bd hml hP hK
  obtain ⟨rfl, hZ, hh⟩ := hP
  obtain ⟨hx, hby, hown, hnm, hlk, hret, X0, e0⟩ := own_st Bd "java/lang/Math" rfl hh
  have N0 := Fr.nil n0
  show Go p e below s (⟨0, 0, 0, 0⟩ : Room).cells (⟨0, 0, 0, 0⟩ : Room).slots (QMx Z  h0 n0) (s₁.setTop (entryFrame m #[(.int 5), (.int 18)] 2))
  rw [efMx]
  refine Go.by (fun _ kont => XS.iloadN X0.here hx rfl (hb hby dMx_0) rfl (XS.iloadN X0.here hx rfl (hb hby dMx_1) rfl (XS.icmpYes X0.here hx rfl (pc0 := 2) (pc' := 9) rfl (hb hby dMx_2) rfl (by decide) (by decide) (by decide) (XS.iloadN X0.here hx rfl (hb hby dMx_9) rfl kont)))) ?_
  show Go _ _ _ _ _ _ _ (s₁.setTop (mkF m 10 #[.val (.int 5), .val (.int 18)] [(.int 18)]))
  refine Go.retI X0 hx hret hlk (hb hby dMx_10) ?_ (by decide) (by decide)
  show QMx Z  h0 n0 (some (.int 18)) s₁.heap _
  rw [e0]
  exact ⟨rfl, N0, rfl⟩

theorem dMn_0 : decode jdk_29_method_69_code 0 = .ok (.iload_n 0, 1) := by decide +kernel
theorem dMn_1 : decode jdk_29_method_69_code 1 = .ok (.iload_n 1, 1) := by decide +kernel
theorem dMn_2 : decode jdk_29_method_69_code 2 = .ok (.if_icmp .gt 7, 3) := by decide +kernel
theorem dMn_5 : decode jdk_29_method_69_code 5 = .ok (.iload_n 0, 1) := by decide +kernel
theorem dMn_6 : decode jdk_29_method_69_code 6 = .ok (.goto 4, 3) := by decide +kernel
theorem dMn_10 : decode jdk_29_method_69_code 10 = .ok (.ireturn, 1) := by decide +kernel
theorem efMn (m : MethodId)  : entryFrame m #[(.int 16), (.int 34)] 2 = mkF m 0 #[.val (.int 16), .val (.int 34)] [] := by first | (simp [entryFrame, mkF, argsToLocals, Value.category]; done) | rfl
def QMn (Z : State)  (h0 : Heap) (n0 : Nat) (v : Option Value) (h : Heap) (L : List Loc) : Prop := (v = some (.int 16) ∧ Fr n0 L ∧ h = h0)
set_option maxRecDepth 65536 in
set_option maxHeartbeats 40000000 in
theorem rmMn (l : Launch) (Z : State) (a0 : Array Value) (hw : ∀ d ∈ tables_1, d.before a0 Z = true) (ws : List Jvm.Cond)  (h0 : Heap) (n0 : Nat) (Z0 : n0 ≤ h0.size) :
    Ct l Z (⟨"java/lang/Math", "min", "(II)I"⟩ : MethodName) jdk_29_method_69_code 2 (some .int) ws (⟨0, 0, 0, 0⟩ : Room) #[(.int 16), (.int 34)] h0 (QMn Z  h0 n0) := by
  refine MetFree.of_bodySF (Jvm.Free.JP.mathPlain rfl (by decide +kernel)) hisR ?_
  intro p e s m args below meth c s₁ Bd hml hP hK
  obtain ⟨rfl, hZ, hh⟩ := hP
  obtain ⟨hx, hby, hown, hnm, hlk, hret, X0, e0⟩ := own_st Bd "java/lang/Math" rfl hh
  have N0 := Fr.nil n0
  show Go p e below s (⟨0, 0, 0, 0⟩ : Room).cells (⟨0, 0, 0, 0⟩ : Room).slots (QMn Z  h0 n0) (s₁.setTop (entryFrame m #[(.int 16), (.int 34)] 2))
  rw [efMn]
  refine Go.by (fun _ kont => XS.iloadN X0.here hx rfl (hb hby dMn_0) rfl (XS.iloadN X0.here hx rfl (hb hby dMn_1) rfl (XS.icmpNo X0.here hx rfl (hb hby dMn_2) rfl (by decide) (XS.iloadN X0.here hx rfl (hb hby dMn_5) rfl (XS.goto X0.here hx rfl (pc0 := 6) (pc' := 10) rfl (hb hby dMn_6) (by decide) (by decide) kont))))) ?_
  show Go _ _ _ _ _ _ _ (s₁.setTop (mkF m 10 #[.val (.int 16), .val (.int 34)] [(.int 16)]))
  refine Go.retI X0 hx hret hlk (hb hby dMn_10) ?_ (by decide) (by decide)
  show QMn Z  h0 n0 (some (.int 16)) s₁.heap _
  rw [e0]
  exact ⟨rfl, N0, rfl⟩

theorem dNl_0 : decode jdk_48_method_27_code 0 = .ok (.iload_n 0, 1) := by decide +kernel
theorem dNl_1 : decode jdk_48_method_27_code 1 = .ok (.iload_n 1, 1) := by decide +kernel
theorem dNl_2 : decode jdk_48_method_27_code 2 = .ok (.iload_n 2, 1) := by decide +kernel
theorem dNl_3 : decode jdk_48_method_27_code 3 = .ok (.invokestatic 194, 3) := by decide +kernel
theorem dNl_6 : decode jdk_48_method_27_code 6 = .ok (.iadd, 1) := by decide +kernel
theorem dNl_7 : decode jdk_48_method_27_code 7 = .ok (.istore_n 3, 1) := by decide +kernel
theorem dNl_8 : decode jdk_48_method_27_code 8 = .ok (.iconst 0, 1) := by decide +kernel
theorem dNl_9 : decode jdk_48_method_27_code 9 = .ok (.iload_n 3, 1) := by decide +kernel
theorem dNl_10 : decode jdk_48_method_27_code 10 = .ok (.if_icmp .ge 11, 3) := by decide +kernel
theorem dNl_13 : decode jdk_48_method_27_code 13 = .ok (.iload_n 3, 1) := by decide +kernel
theorem dNl_14 : decode jdk_48_method_27_code 14 = .ok (.ldc 200, 2) := by decide +kernel
theorem dNl_16 : decode jdk_48_method_27_code 16 = .ok (.if_icmp .gt 5, 3) := by decide +kernel
theorem dNl_19 : decode jdk_48_method_27_code 19 = .ok (.iload_n 3, 1) := by decide +kernel
theorem dNl_20 : decode jdk_48_method_27_code 20 = .ok (.ireturn, 1) := by decide +kernel
theorem pdNl_0 : parseMethodDescriptor "(II)I" = some ⟨[.int, .int], some .int⟩ := by decide +kernel
theorem pnNl : plainName "jdk/internal/util/ArraysSupport" = true := by first | (simp [plainName, overriddenIn]; done) | decide +kernel
theorem efNl (m : MethodId)  : entryFrame m #[(.int 16), (.int 5), (.int 18)] 4 = mkF m 0 #[.val (.int 16), .val (.int 5), .val (.int 18), .unset] [] := by first | (simp [entryFrame, mkF, argsToLocals, Value.category]; done) | rfl
def QNl (Z : State)  (h0 : Heap) (n0 : Nat) (v : Option Value) (h : Heap) (L : List Loc) : Prop := (v = some (.int 34) ∧ Fr n0 L ∧ h = h0)
set_option maxRecDepth 65536 in
set_option maxHeartbeats 40000000 in
theorem rmNl (l : Launch) (Z : State) (a0 : Array Value) (hw : ∀ d ∈ tables_1, d.before a0 Z = true) (ws : List Jvm.Cond)  (h0 : Heap) (n0 : Nat) (Z0 : n0 ≤ h0.size) :
    Ct l Z (⟨"jdk/internal/util/ArraysSupport", "newLength", "(III)I"⟩ : MethodName) jdk_48_method_27_code 4 (some .int) ws (⟨1, 0, 0, 14⟩ : Room) #[(.int 16), (.int 5), (.int 18)] h0 (QNl Z  h0 n0) := by
  refine MetFree.of_bodySF (plainFor_of_name pnNl) hisR ?_
  intro p e s m args below meth c s₁ Bd hml hP hK
  obtain ⟨rfl, hZ, hh⟩ := hP
  obtain ⟨hx, hby, hown, hnm, hlk, hret, X0, e0⟩ := own_st Bd "jdk/internal/util/ArraysSupport" rfl hh
  have N0 := Fr.nil n0
  show Go p e below s (⟨1, 0, 0, 14⟩ : Room).cells (⟨1, 0, 0, 14⟩ : Room).slots (QNl Z  h0 n0) (s₁.setTop (entryFrame m #[(.int 16), (.int 5), (.int 18)] 4))
  rw [efNl]
  obtain ⟨_, _, ⟨T101, L101, k101, n101⟩, -, X101, ⟨Lc101, hQ101, l101, y101, z101⟩, st101⟩ := Jvm.LawKit.callS X0 hx (y := (⟨"java/lang/Math", "max", "(II)I"⟩ : MethodName)) hown (mvT hZ (own_w hw 174 rfl)) (mvT hZ (own_w hw 175 rfl)) (mvT hZ (own_w hw 176 rfl)) (mvT hZ (own_w hw 177 rfl)) (by decide) (backOf (W := 1) (rmMx l Z a0 hw []  h0 n0 Z0 ) hZ (own_w hw 177 rfl) (own_w hw 176 rfl) (by decide) (by decide)) (g := (mkF m 3 #[.val (.int 16), .val (.int 5), .val (.int 18), .unset] [(.int 18), (.int 5), (.int 16)])) rfl (by rw [hml]; rfl) (argsL := [(.int 5), (.int 18)]) (rest := [(.int 16)]) (lenOf pdNl_0 rfl) rfl (by show 2 * 0 + _ ≤ _; exact Nat.le_of_eq rfl) (hb hby dNl_3) (fun _ _ => ⟨rfl, e0, (by decide : 0 + 0 ≤ _), (by decide : 0 + 0 ≤ _)⟩)
  dsimp only [Pt.U, Pt.locs, Pt.cells, Pt.slots] at X101 l101 y101 z101 st101 hQ101
  subst l101 y101 z101
  obtain ⟨rfl, N101q, eh101⟩ := hQ101
  have N101 := Fr.app N0 N101q
  refine Go.by (fun _ kont => XS.iloadN X0.here hx rfl (hb hby dNl_0) rfl (XS.iloadN X0.here hx rfl (hb hby dNl_1) rfl (XS.iloadN X0.here hx rfl (hb hby dNl_2) rfl (st101 _ (XS.iadd X101.here hx rfl (hb hby dNl_6) rfl (own_fI (show ((16 : Int32) + (18 : Int32)) = (34 : Int32) from by decide) (XS.istoreN X101.here hx rfl (hb hby dNl_7) rfl (l' := #[.val (.int 16), .val (.int 5), .val (.int 18), .val (.int 34)]) rfl (XS.iconst X101.here hx rfl (hb hby dNl_8) (XS.iloadN X101.here hx rfl (hb hby dNl_9) rfl (XS.icmpNo X101.here hx rfl (hb hby dNl_10) rfl (by decide) (XS.iloadN X101.here hx rfl (hb hby dNl_13) rfl (X101.ldcInt hx hown (mvT hZ (own_w hw 178 rfl)) (g := (mkF m 14 #[.val (.int 16), .val (.int 5), .val (.int 18), .val (.int 34)] [(.int 34)])) rfl (hb hby dNl_14) _ (XS.icmpNo X101.here hx rfl (hb hby dNl_16) rfl (by decide) (XS.iloadN X101.here hx rfl (hb hby dNl_19) rfl kont)))))))))))))) ?_
  show Go _ _ _ _ _ _ _ (T101.setTop (mkF m 20 #[.val (.int 16), .val (.int 5), .val (.int 18), .val (.int 34)] [(.int 34)]))
  refine Go.retI X101 hx hret hlk (hb hby dNl_20) ?_ (by decide) (by decide)
  show QNl Z  h0 n0 (some (.int 34)) T101.heap _
  rw [eh101]
  exact ⟨rfl, N101, rfl⟩

theorem dNc_0 : decode jdk_68_method_10_code 0 = .ok (.aload_n 0, 1) := by decide +kernel
theorem dNc_1 : decode jdk_68_method_10_code 1 = .ok (.getfield 15, 3) := by decide +kernel
theorem dNc_4 : decode jdk_68_method_10_code 4 = .ok (.arraylength, 1) := by decide +kernel
theorem dNc_5 : decode jdk_68_method_10_code 5 = .ok (.istore_n 2, 1) := by decide +kernel
theorem dNc_6 : decode jdk_68_method_10_code 6 = .ok (.iload_n 1, 1) := by decide +kernel
theorem dNc_7 : decode jdk_68_method_10_code 7 = .ok (.aload_n 0, 1) := by decide +kernel
theorem dNc_8 : decode jdk_68_method_10_code 8 = .ok (.getfield 22, 3) := by decide +kernel
theorem dNc_11 : decode jdk_68_method_10_code 11 = .ok (.ishl, 1) := by decide +kernel
theorem dNc_12 : decode jdk_68_method_10_code 12 = .ok (.istore_n 3, 1) := by decide +kernel
theorem dNc_13 : decode jdk_68_method_10_code 13 = .ok (.iload_n 3, 1) := by decide +kernel
theorem dNc_14 : decode jdk_68_method_10_code 14 = .ok (.iload_n 2, 1) := by decide +kernel
theorem dNc_15 : decode jdk_68_method_10_code 15 = .ok (.isub, 1) := by decide +kernel
theorem dNc_16 : decode jdk_68_method_10_code 16 = .ok (.istore 4, 2) := by decide +kernel
theorem dNc_18 : decode jdk_68_method_10_code 18 = .ok (.iload_n 2, 1) := by decide +kernel
theorem dNc_19 : decode jdk_68_method_10_code 19 = .ok (.iload 4, 2) := by decide +kernel
theorem dNc_21 : decode jdk_68_method_10_code 21 = .ok (.iload_n 2, 1) := by decide +kernel
theorem dNc_22 : decode jdk_68_method_10_code 22 = .ok (.iconst 2, 1) := by decide +kernel
theorem dNc_23 : decode jdk_68_method_10_code 23 = .ok (.aload_n 0, 1) := by decide +kernel
theorem dNc_24 : decode jdk_68_method_10_code 24 = .ok (.getfield 22, 3) := by decide +kernel
theorem dNc_27 : decode jdk_68_method_10_code 27 = .ok (.ishl, 1) := by decide +kernel
theorem dNc_28 : decode jdk_68_method_10_code 28 = .ok (.iadd, 1) := by decide +kernel
theorem dNc_29 : decode jdk_68_method_10_code 29 = .ok (.invokestatic 114, 3) := by decide +kernel
theorem dNc_32 : decode jdk_68_method_10_code 32 = .ok (.istore 5, 2) := by decide +kernel
theorem dNc_34 : decode jdk_68_method_10_code 34 = .ok (.iload 5, 2) := by decide +kernel
theorem dNc_36 : decode jdk_68_method_10_code 36 = .ok (.ldc 39, 2) := by decide +kernel
theorem dNc_38 : decode jdk_68_method_10_code 38 = .ok (.if_icmp .ne 13, 3) := by decide +kernel
theorem dNc_51 : decode jdk_68_method_10_code 51 = .ok (.iload 5, 2) := by decide +kernel
theorem dNc_53 : decode jdk_68_method_10_code 53 = .ok (.aload_n 0, 1) := by decide +kernel
theorem dNc_54 : decode jdk_68_method_10_code 54 = .ok (.getfield 22, 3) := by decide +kernel
theorem dNc_57 : decode jdk_68_method_10_code 57 = .ok (.ishr, 1) := by decide +kernel
theorem dNc_58 : decode jdk_68_method_10_code 58 = .ok (.ireturn, 1) := by decide +kernel
theorem pdNc_0 : parseMethodDescriptor "(III)I" = some ⟨[.int, .int, .int], some .int⟩ := by decide +kernel
theorem pnNc : plainName "java/lang/AbstractStringBuilder" = true := by first | (simp [plainName, overriddenIn]; done) | decide +kernel
theorem efNc (m : MethodId) (a : Addr) : entryFrame m #[(.ref a), (.int 21)] 6 = mkF m 0 #[.val (.ref a), .val (.int 21), .unset, .unset, .unset, .unset] [] := by first | (simp [entryFrame, mkF, argsToLocals, Value.category]; done) | rfl
def QNc (Z : State)  (h0 : Heap) (n0 : Nat) (v : Option Value) (h : Heap) (L : List Loc) : Prop := (v = some (.int 34) ∧ Fr n0 L ∧ h = h0)
set_option maxRecDepth 65536 in
set_option maxHeartbeats 40000000 in
theorem rmNc (l : Launch) (Z : State) (a0 : Array Value) (hw : ∀ d ∈ tables_1, d.before a0 Z = true) (ws : List Jvm.Cond) (a : Addr) (va : Addr) (kc_va : ClassId) (v0 : Int32) (v1 : Int32) (v2 : Int32) (v3 : Int32) (v4 : Int32) (v5 : Int32) (v6 : Int32) (v7 : Int32) (v8 : Int32) (v9 : Int32) (v10 : Int32) (v11 : Int32) (v12 : Int32) (v13 : Int32) (v14 : Int32) (v15 : Int32) (h0 : Heap) (n0 : Nat) (Z0 : n0 ≤ h0.size) (E0_a : Exa Z h0 a "java/lang/StringBuilder") (F0_a_value : Fld Z h0 a "java/lang/AbstractStringBuilder" "value" "[B" (.ref va)) (F0_a_coder : Fld Z h0 a "java/lang/AbstractStringBuilder" "coder" "B" (.int 0)) (V0_va : Arv Z h0 va kc_va .byte (16 : Int32) [(.int v0), (.int v1), (.int v2), (.int v3), (.int v4), (.int v5), (.int v6), (.int v7), (.int v8), (.int v9), (.int v10), (.int v11), (.int v12), (.int v13), (.int v14), (.int v15)] (.int 0)) :
    Ct l Z (⟨"java/lang/AbstractStringBuilder", "newCapacity", "(I)I"⟩ : MethodName) jdk_68_method_10_code 6 (some .int) ws (⟨2, 0, 0, 29⟩ : Room) #[(.ref a), (.int 21)] h0 (QNc Z  h0 n0) := by
  refine MetFree.of_bodySF (plainFor_of_name pnNc) hisR ?_
  intro p e s m args below meth c s₁ Bd hml hP hK
  obtain ⟨rfl, hZ, hh⟩ := hP
  obtain ⟨hx, hby, hown, hnm, hlk, hret, X0, e0⟩ := own_st Bd "java/lang/AbstractStringBuilder" rfl hh
  have N0 := Fr.nil n0
  show Go p e below s (⟨2, 0, 0, 29⟩ : Room).cells (⟨2, 0, 0, 29⟩ : Room).slots (QNc Z  h0 n0) (s₁.setTop (entryFrame m #[(.ref a), (.int 21)] 6))
  rw [efNc]
  obtain ⟨T101, X101, e101, st101⟩ := getF X0 hx hZ hown (host := "") (Or.inl (own_w hw 75 rfl)) Via.refl e0 F0_a_value (g := (mkF m 1 #[.val (.ref a), .val (.int 21), .unset, .unset, .unset, .unset] [(.ref a)])) rfl rfl (hb hby dNc_1)
  obtain ⟨cl_q102, Ar_q102, q1_q102, S_q102, N_q102, H_q102, G_q102⟩ := id V0_va
  obtain ⟨T103, X103, e103, st103⟩ := getF X101 hx hZ hown (host := "") (Or.inl (own_w hw 77 rfl)) Via.refl e101 F0_a_coder (g := (mkF m 8 #[.val (.ref a), .val (.int 21), .val (.int 16), .unset, .unset, .unset] [(.ref a), (.int 21)])) rfl rfl (hb hby dNc_8)
  obtain ⟨T104, X104, e104, st104⟩ := getF X103 hx hZ hown (host := "") (Or.inl (own_w hw 77 rfl)) Via.refl e103 F0_a_coder (g := (mkF m 24 #[.val (.ref a), .val (.int 21), .val (.int 16), .val (.int 21), .val (.int 5), .unset] [(.ref a), (.int 2), (.int 16), (.int 5), (.int 16)])) rfl rfl (hb hby dNc_24)
  obtain ⟨_, _, ⟨T105, L105, k105, n105⟩, -, X105, ⟨Lc105, hQ105, l105, y105, z105⟩, st105⟩ := Jvm.LawKit.callS X104 hx (y := (⟨"jdk/internal/util/ArraysSupport", "newLength", "(III)I"⟩ : MethodName)) hown (mvT hZ (own_w hw 170 rfl)) (mvT hZ (own_w hw 171 rfl)) (mvT hZ (own_w hw 172 rfl)) (mvT hZ (own_w hw 173 rfl)) (by decide) (backOf (W := 0) (rmNl l Z a0 hw []  h0 n0 Z0 ) hZ (own_w hw 173 rfl) (own_w hw 172 rfl) (by decide) (by decide)) (g := (mkF m 29 #[.val (.ref a), .val (.int 21), .val (.int 16), .val (.int 21), .val (.int 5), .unset] [(.int 18), (.int 5), (.int 16)])) rfl (by rw [hml]; rfl) (argsL := [(.int 16), (.int 5), (.int 18)]) (rest := []) (lenOf pdNc_0 rfl) rfl (by show 2 * 0 + _ ≤ _; exact Nat.le_of_eq rfl) (hb hby dNc_29) (fun _ _ => ⟨rfl, e104, (by decide : 0 + 0 ≤ _), (by decide : 0 + 0 ≤ _)⟩)
  dsimp only [Pt.U, Pt.locs, Pt.cells, Pt.slots] at X105 l105 y105 z105 st105 hQ105
  subst l105 y105 z105
  obtain ⟨rfl, N105q, eh105⟩ := hQ105
  have N105 := Fr.app N0 N105q
  obtain ⟨T106, X106, e106, st106⟩ := getF X105 hx hZ hown (host := "") (Or.inl (own_w hw 77 rfl)) Via.refl eh105 F0_a_coder (g := (mkF m 54 #[.val (.ref a), .val (.int 21), .val (.int 16), .val (.int 21), .val (.int 5), .val (.int 34)] [(.ref a), (.int 34)])) rfl rfl (hb hby dNc_54)
  refine Go.by (fun _ kont => XS.aloadN X0.here hx rfl (hb hby dNc_0) rfl rfl (st101 _ (X101.arraylength hx (own_at e101 Ar_q102.1) (State.isArrayOf_alike hZ.alike Ar_q102.2.1) (g := (mkF m 4 #[.val (.ref a), .val (.int 21), .unset, .unset, .unset, .unset] [(.ref va)])) rfl rfl (hb hby dNc_4) _ (own_fI (len_of S_q102 N_q102) (XS.istoreN X101.here hx rfl (hb hby dNc_5) rfl (l' := #[.val (.ref a), .val (.int 21), .val (.int 16), .unset, .unset, .unset]) rfl (XS.iloadN X101.here hx rfl (hb hby dNc_6) rfl (XS.aloadN X101.here hx rfl (hb hby dNc_7) rfl rfl (st103 _ (XS.ishl X103.here hx rfl (hb hby dNc_11) rfl (own_fI (show ((21 : Int32) <<< ((0 : Int32) &&& 31)) = (21 : Int32) from by decide) (XS.istoreN X103.here hx rfl (hb hby dNc_12) rfl (l' := #[.val (.ref a), .val (.int 21), .val (.int 16), .val (.int 21), .unset, .unset]) rfl (XS.iloadN X103.here hx rfl (hb hby dNc_13) rfl (XS.iloadN X103.here hx rfl (hb hby dNc_14) rfl (XS.isub X103.here hx rfl (hb hby dNc_15) rfl (own_fI (show ((21 : Int32) - (16 : Int32)) = (5 : Int32) from by decide) (XS.istore X103.here hx rfl (hb hby dNc_16) rfl (l' := #[.val (.ref a), .val (.int 21), .val (.int 16), .val (.int 21), .val (.int 5), .unset]) rfl (XS.iloadN X103.here hx rfl (hb hby dNc_18) rfl (XS.iload X103.here hx rfl (hb hby dNc_19) rfl (XS.iloadN X103.here hx rfl (hb hby dNc_21) rfl (XS.iconst X103.here hx rfl (hb hby dNc_22) (XS.aloadN X103.here hx rfl (hb hby dNc_23) rfl rfl (st104 _ (XS.ishl X104.here hx rfl (hb hby dNc_27) rfl (own_fI (show ((2 : Int32) <<< ((0 : Int32) &&& 31)) = (2 : Int32) from by decide) (XS.iadd X104.here hx rfl (hb hby dNc_28) rfl (own_fI (show ((16 : Int32) + (2 : Int32)) = (18 : Int32) from by decide) (st105 _ (XS.istore X105.here hx rfl (hb hby dNc_32) rfl (l' := #[.val (.ref a), .val (.int 21), .val (.int 16), .val (.int 21), .val (.int 5), .val (.int 34)]) rfl (XS.iload X105.here hx rfl (hb hby dNc_34) rfl (X105.ldcInt hx hown (mvT hZ (own_w hw 179 rfl)) (g := (mkF m 36 #[.val (.ref a), .val (.int 21), .val (.int 16), .val (.int 21), .val (.int 5), .val (.int 34)] [(.int 34)])) rfl (hb hby dNc_36) _ (XS.icmpYes X105.here hx rfl (pc0 := 38) (pc' := 51) rfl (hb hby dNc_38) rfl (by decide) (by decide) (by decide) (XS.iload X105.here hx rfl (hb hby dNc_51) rfl (XS.aloadN X105.here hx rfl (hb hby dNc_53) rfl rfl (st106 _ (XS.ishr X106.here hx rfl (hb hby dNc_57) rfl (own_fI (show ((34 : Int32) >>> ((0 : Int32) &&& 31)) = (34 : Int32) from by decide) kont)))))))))))))))))))))))))))))))))))) ?_
  show Go _ _ _ _ _ _ _ (T106.setTop (mkF m 58 #[.val (.ref a), .val (.int 21), .val (.int 16), .val (.int 21), .val (.int 5), .val (.int 34)] [(.int 34)]))
  refine Go.retI X106 hx hret hlk (hb hby dNc_58) ?_ (by decide) (by decide)
  show QNc Z  h0 n0 (some (.int 34)) T106.heap _
  rw [e106]
  exact ⟨rfl, N105, rfl⟩

theorem dCp_0 : decode jdk_65_method_121_code 0 = .ok (.iload_n 1, 1) := by decide +kernel
theorem dCp_1 : decode jdk_65_method_121_code 1 = .ok (.aload_n 0, 1) := by decide +kernel
theorem dCp_2 : decode jdk_65_method_121_code 2 = .ok (.arraylength, 1) := by decide +kernel
theorem dCp_3 : decode jdk_65_method_121_code 3 = .ok (.if_icmp .ne 11, 3) := by decide +kernel
theorem dCp_14 : decode jdk_65_method_121_code 14 = .ok (.iload_n 1, 1) := by decide +kernel
theorem dCp_15 : decode jdk_65_method_121_code 15 = .ok (.newarray .byte, 2) := by decide +kernel
theorem dCp_17 : decode jdk_65_method_121_code 17 = .ok (.astore_n 2, 1) := by decide +kernel
theorem dCp_18 : decode jdk_65_method_121_code 18 = .ok (.aload_n 0, 1) := by decide +kernel
theorem dCp_19 : decode jdk_65_method_121_code 19 = .ok (.iconst 0, 1) := by decide +kernel
theorem dCp_20 : decode jdk_65_method_121_code 20 = .ok (.aload_n 2, 1) := by decide +kernel
theorem dCp_21 : decode jdk_65_method_121_code 21 = .ok (.iconst 0, 1) := by decide +kernel
theorem dCp_22 : decode jdk_65_method_121_code 22 = .ok (.aload_n 0, 1) := by decide +kernel
theorem dCp_23 : decode jdk_65_method_121_code 23 = .ok (.arraylength, 1) := by decide +kernel
theorem dCp_24 : decode jdk_65_method_121_code 24 = .ok (.iload_n 1, 1) := by decide +kernel
theorem dCp_25 : decode jdk_65_method_121_code 25 = .ok (.invokestatic 304, 3) := by decide +kernel
theorem dCp_28 : decode jdk_65_method_121_code 28 = .ok (.invokestatic 150, 3) := by decide +kernel
theorem dCp_31 : decode jdk_65_method_121_code 31 = .ok (.aload_n 2, 1) := by decide +kernel
theorem dCp_32 : decode jdk_65_method_121_code 32 = .ok (.areturn, 1) := by decide +kernel
theorem pdCp_0 : parseMethodDescriptor "(II)I" = some ⟨[.int, .int], some .int⟩ := by decide +kernel
theorem pnCp : plainName "java/util/Arrays" = true := by first | (simp [plainName, overriddenIn]; done) | decide +kernel
theorem efCp (m : MethodId) (va : Addr) : entryFrame m #[(.ref va), (.int 34)] 3 = mkF m 0 #[.val (.ref va), .val (.int 34), .unset] [] := by first | (simp [entryFrame, mkF, argsToLocals, Value.category]; done) | rfl
def QCp (Z : State) (v0 : Int32) (v1 : Int32) (v2 : Int32) (v3 : Int32) (v4 : Int32) (v5 : Int32) (v6 : Int32) (v7 : Int32) (v8 : Int32) (v9 : Int32) (v10 : Int32) (v11 : Int32) (v12 : Int32) (v13 : Int32) (v14 : Int32) (v15 : Int32) (h0 : Heap) (n0 : Nat) (v : Option Value) (h : Heap) (L : List Loc) : Prop := ∃ b102 : Addr, ∃ k102 : ClassId, (v = some (.ref b102) ∧ Fr n0 L ∧ Keep h0 h [] ∧ n0 ≤ b102 ∧ h0.size ≤ b102 ∧ Arv Z h b102 k102 .byte (34 : Int32) [(.int v0), (.int v1), (.int v2), (.int v3), (.int v4), (.int v5), (.int v6), (.int v7), (.int v8), (.int v9), (.int v10), (.int v11), (.int v12), (.int v13), (.int v14), (.int v15), (.int 0), (.int 0), (.int 0), (.int 0), (.int 0), (.int 0), (.int 0), (.int 0), (.int 0), (.int 0), (.int 0), (.int 0), (.int 0), (.int 0), (.int 0), (.int 0), (.int 0), (.int 0)] (.int 0))
set_option maxRecDepth 65536 in
set_option maxHeartbeats 40000000 in
theorem rmCp (l : Launch) (Z : State) (a0 : Array Value) (hw : ∀ d ∈ tables_1, d.before a0 Z = true) (ws : List Jvm.Cond) (va : Addr) (kc_va : ClassId) (v0 : Int32) (v1 : Int32) (v2 : Int32) (v3 : Int32) (v4 : Int32) (v5 : Int32) (v6 : Int32) (v7 : Int32) (v8 : Int32) (v9 : Int32) (v10 : Int32) (v11 : Int32) (v12 : Int32) (v13 : Int32) (v14 : Int32) (v15 : Int32) (h0 : Heap) (n0 : Nat) (Z0 : n0 ≤ h0.size) (V0_va : Arv Z h0 va kc_va .byte (16 : Int32) [(.int v0), (.int v1), (.int v2), (.int v3), (.int v4), (.int v5), (.int v6), (.int v7), (.int v8), (.int v9), (.int v10), (.int v11), (.int v12), (.int v13), (.int v14), (.int v15)] (.int 0)) :
    Ct l Z (⟨"java/util/Arrays", "copyOf", "([BI)[B"⟩ : MethodName) jdk_65_method_121_code 3 (some (.array .byte)) ws (⟨1, 1, 34, 18⟩ : Room) #[(.ref va), (.int 34)] h0 (QCp Z v0 v1 v2 v3 v4 v5 v6 v7 v8 v9 v10 v11 v12 v13 v14 v15 h0 n0) := by
  refine MetFree.of_bodySF (plainFor_of_name pnCp) hisR ?_
  intro p e s m args below meth c s₁ Bd hml hP hK
  obtain ⟨rfl, hZ, hh⟩ := hP
  obtain ⟨hx, hby, hown, hnm, hlk, hret, X0, e0⟩ := own_st Bd "java/util/Arrays" rfl hh
  have N0 := Fr.nil n0
  show Go p e below s (⟨1, 1, 34, 18⟩ : Room).cells (⟨1, 1, 34, 18⟩ : Room).slots (QCp Z v0 v1 v2 v3 v4 v5 v6 v7 v8 v9 v10 v11 v12 v13 v14 v15 h0 n0) (s₁.setTop (entryFrame m #[(.ref va), (.int 34)] 3))
  rw [efCp]
  obtain ⟨cl_q101, Ar_q101, q1_q101, S_q101, N_q101, H_q101, G_q101⟩ := id V0_va
  obtain ⟨T102, h102, k102, X102, e102, X_102, A102, st102⟩ := newP X0 hx hZ (own_w hw 23 rfl) e0 (g := (mkF m 15 #[.val (.ref va), .val (.int 34), .unset] [(.int 34)])) rfl (hb hby dCp_15) rfl (by decide) (cap := 34) (by decide) (by decide) (by decide) (by decide)
  obtain ⟨b102, g102⟩ : ∃ z, z = h0.size := ⟨_, rfl⟩
  rw [← g102] at A102 st102
  have ge_b102 : n0 ≤ b102 := Nat.le_trans Z0 (Nat.le_of_eq g102.symm)
  have sz_b102 : h0.size ≤ b102 := Nat.le_trans (Keep.refl h0 []).1 (Nat.le_of_eq g102.symm)
  have Z103 := Nat.le_trans Z0 X_102.1
  have K103 : Keep h0 h102 [] := (Keep.refl h0 []).ext X_102
  have V102 : Arv Z h102 b102 k102 .byte (34 : Int32) [(.int 0), (.int 0), (.int 0), (.int 0), (.int 0), (.int 0), (.int 0), (.int 0), (.int 0), (.int 0), (.int 0), (.int 0), (.int 0), (.int 0), (.int 0), (.int 0), (.int 0), (.int 0), (.int 0), (.int 0), (.int 0), (.int 0), (.int 0), (.int 0), (.int 0), (.int 0), (.int 0), (.int 0), (.int 0), (.int 0), (.int 0), (.int 0), (.int 0), (.int 0)] (.int 0) := (Arv.new A102 (by decide)).pad (pad_rep [] (.int 0) 34)
  obtain ⟨cl_q104, Ar_q104, q1_q104, S_q104, N_q104, H_q104, G_q104⟩ := id (V0_va.keep K103 nin0)
  obtain ⟨_, _, ⟨T105, L105, k105, n105⟩, -, X105, ⟨Lc105, hQ105, l105, y105, z105⟩, st105⟩ := Jvm.LawKit.callS X102 hx (y := (⟨"java/lang/Math", "min", "(II)I"⟩ : MethodName)) hown (mvT hZ (own_w hw 184 rfl)) (mvT hZ (own_w hw 185 rfl)) (mvT hZ (own_w hw 176 rfl)) (mvT hZ (own_w hw 186 rfl)) (by decide) (backOf (W := 4) (rmMn l Z a0 hw []  h102 n0 Z103 ) hZ (own_w hw 186 rfl) (own_w hw 176 rfl) (by decide) (by decide)) (g := (mkF m 25 #[.val (.ref va), .val (.int 34), .val (.ref b102)] [(.int 34), (.int 16), (.int 0), (.ref b102), (.int 0), (.ref va)])) rfl (by rw [hml]; rfl) (argsL := [(.int 16), (.int 34)]) (rest := [(.int 0), (.ref b102), (.int 0), (.ref va)]) (lenOf pdCp_0 rfl) rfl (by show 2 * 0 + _ ≤ _; exact Nat.le_of_eq rfl) (hb hby dCp_25) (fun _ _ => ⟨rfl, e102, (by decide : 1 + 0 ≤ _), (by decide : 34 + 0 ≤ _)⟩)
  dsimp only [Pt.U, Pt.locs, Pt.cells, Pt.slots] at X105 l105 y105 z105 st105 hQ105
  subst l105 y105 z105
  obtain ⟨rfl, N105q, eh105⟩ := hQ105
  have N105 := Fr.app N0 N105q
  obtain ⟨T106, h106, L106, X106, e106, N106, K106, V106, st106⟩ := cpA X105 hx hZ hown (own_w hw 187 rfl) (own_w hw 163 rfl) (own_w hw 161 rfl) (own_w hw 162 rfl) eh105 (V0_va.keep K103 nin0) V102 (us := [(.int v0), (.int v1), (.int v2), (.int v3), (.int v4), (.int v5), (.int v6), (.int v7), (.int v8), (.int v9), (.int v10), (.int v11), (.int v12), (.int v13), (.int v14), (.int v15)]) (Or.inl ⟨rfl, rfl⟩) (by decide) (by decide) (by decide) (by decide) (by decide) rfl (Nat.le_of_ble_eq_true rfl) N105 ge_b102 (g := (mkF m 28 #[.val (.ref va), .val (.int 34), .val (.ref b102)] [(.int 16), (.int 0), (.ref b102), (.int 0), (.ref va)])) rfl (by rw [hml]; rfl) rfl (hb hby dCp_28) (by decide) (W := 0) (by show 2 * 0 + _ ≤ _; exact Nat.le_of_eq rfl) (by decide)
  have Vz106 : Arv Z h106 b102 k102 .byte (34 : Int32) [(.int v0), (.int v1), (.int v2), (.int v3), (.int v4), (.int v5), (.int v6), (.int v7), (.int v8), (.int v9), (.int v10), (.int v11), (.int v12), (.int v13), (.int v14), (.int v15), (.int 0), (.int 0), (.int 0), (.int 0), (.int 0), (.int 0), (.int 0), (.int 0), (.int 0), (.int 0), (.int 0), (.int 0), (.int 0), (.int 0), (.int 0), (.int 0), (.int 0), (.int 0)] (.int 0) := V106
  have Z107 := Nat.le_trans Z103 K106.1
  have K107 : Keep h0 h106 [] := Keep.trans K103 K106 (allS (Or.inr sz_b102) all0)
  refine Go.by (fun _ kont => XS.iloadN X0.here hx rfl (hb hby dCp_0) rfl (XS.aloadN X0.here hx rfl (hb hby dCp_1) rfl rfl (X0.arraylength hx (own_at e0 Ar_q101.1) (State.isArrayOf_alike hZ.alike Ar_q101.2.1) (g := (mkF m 2 #[.val (.ref va), .val (.int 34), .unset] [(.ref va), (.int 34)])) rfl rfl (hb hby dCp_2) _ (own_fI (len_of S_q101 N_q101) (XS.icmpYes X0.here hx rfl (pc0 := 3) (pc' := 14) rfl (hb hby dCp_3) rfl (by decide) (by decide) (by decide) (XS.iloadN X0.here hx rfl (hb hby dCp_14) rfl (st102 _ (XS.astoreN X102.here hx rfl (hb hby dCp_17) rfl rfl (l' := #[.val (.ref va), .val (.int 34), .val (.ref b102)]) rfl (XS.aloadN X102.here hx rfl (hb hby dCp_18) rfl rfl (XS.iconst X102.here hx rfl (hb hby dCp_19) (XS.aloadN X102.here hx rfl (hb hby dCp_20) rfl rfl (XS.iconst X102.here hx rfl (hb hby dCp_21) (XS.aloadN X102.here hx rfl (hb hby dCp_22) rfl rfl (X102.arraylength hx (own_at e102 Ar_q104.1) (State.isArrayOf_alike hZ.alike Ar_q104.2.1) (g := (mkF m 23 #[.val (.ref va), .val (.int 34), .val (.ref b102)] [(.ref va), (.int 0), (.ref b102), (.int 0), (.ref va)])) rfl rfl (hb hby dCp_23) _ (own_fI (len_of S_q104 N_q104) (XS.iloadN X102.here hx rfl (hb hby dCp_24) rfl (st105 _ (st106 _ (XS.aloadN X106.here hx rfl (hb hby dCp_31) rfl rfl kont))))))))))))))))))) ?_
  show Go _ _ _ _ _ _ _ (T106.setTop (mkF m 32 #[.val (.ref va), .val (.int 34), .val (.ref b102)] [(.ref b102)]))
  refine Go.retR X106 hx hret rfl rfl hlk (hb hby dCp_32) ?_ (by decide) (by decide)
  show QCp Z v0 v1 v2 v3 v4 v5 v6 v7 v8 v9 v10 v11 v12 v13 v14 v15 h0 n0 (some (.ref b102)) T106.heap _
  rw [e106]
  exact ⟨b102, k102, rfl, N106, K107, ge_b102, sz_b102, Vz106⟩

theorem dEc0_0 : decode jdk_68_method_9_code 0 = .ok (.aload_n 0, 1) := by decide +kernel
theorem dEc0_1 : decode jdk_68_method_9_code 1 = .ok (.getfield 15, 3) := by decide +kernel
theorem dEc0_4 : decode jdk_68_method_9_code 4 = .ok (.arraylength, 1) := by decide +kernel
theorem dEc0_5 : decode jdk_68_method_9_code 5 = .ok (.aload_n 0, 1) := by decide +kernel
theorem dEc0_6 : decode jdk_68_method_9_code 6 = .ok (.getfield 22, 3) := by decide +kernel
theorem dEc0_9 : decode jdk_68_method_9_code 9 = .ok (.ishr, 1) := by decide +kernel
theorem dEc0_10 : decode jdk_68_method_9_code 10 = .ok (.istore_n 2, 1) := by decide +kernel
theorem dEc0_11 : decode jdk_68_method_9_code 11 = .ok (.iload_n 1, 1) := by decide +kernel
theorem dEc0_12 : decode jdk_68_method_9_code 12 = .ok (.iload_n 2, 1) := by decide +kernel
theorem dEc0_13 : decode jdk_68_method_9_code 13 = .ok (.isub, 1) := by decide +kernel
theorem dEc0_14 : decode jdk_68_method_9_code 14 = .ok (.ifCond .le 24, 3) := by decide +kernel
theorem dEc0_38 : decode jdk_68_method_9_code 38 = .ok (.return_, 1) := by decide +kernel
theorem pnEc0 : plainName "java/lang/AbstractStringBuilder" = true := by first | (simp [plainName, overriddenIn]; done) | decide +kernel
theorem efEc0 (m : MethodId) (a : Addr) : entryFrame m #[(.ref a), (.int 0)] 3 = mkF m 0 #[.val (.ref a), .val (.int 0), .unset] [] := by first | (simp [entryFrame, mkF, argsToLocals, Value.category]; done) | rfl
def QEc0 (Z : State)  (h0 : Heap) (n0 : Nat) (v : Option Value) (h : Heap) (L : List Loc) : Prop := (v = none ∧ Fr n0 L ∧ h = h0)
set_option maxRecDepth 65536 in
set_option maxHeartbeats 40000000 in
theorem rmEc0 (l : Launch) (Z : State) (a0 : Array Value) (hw : ∀ d ∈ tables_1, d.before a0 Z = true) (ws : List Jvm.Cond) (a : Addr) (va : Addr) (kc_va : ClassId) (v0 : Int32) (v1 : Int32) (v2 : Int32) (v3 : Int32) (v4 : Int32) (v5 : Int32) (v6 : Int32) (v7 : Int32) (v8 : Int32) (v9 : Int32) (v10 : Int32) (v11 : Int32) (v12 : Int32) (v13 : Int32) (v14 : Int32) (v15 : Int32) (h0 : Heap) (n0 : Nat) (Z0 : n0 ≤ h0.size) (E0_a : Exa Z h0 a "java/lang/StringBuilder") (F0_a_value : Fld Z h0 a "java/lang/AbstractStringBuilder" "value" "[B" (.ref va)) (F0_a_coder : Fld Z h0 a "java/lang/AbstractStringBuilder" "coder" "B" (.int 0)) (V0_va : Arv Z h0 va kc_va .byte (16 : Int32) [(.int v0), (.int v1), (.int v2), (.int v3), (.int v4), (.int v5), (.int v6), (.int v7), (.int v8), (.int v9), (.int v10), (.int v11), (.int v12), (.int v13), (.int v14), (.int v15)] (.int 0)) :
    Ct l Z (⟨"java/lang/AbstractStringBuilder", "ensureCapacityInternal", "(I)V"⟩ : MethodName) jdk_68_method_9_code 3 none ws (⟨0, 0, 0, 0⟩ : Room) #[(.ref a), (.int 0)] h0 (QEc0 Z  h0 n0) := by
  refine MetFree.of_bodySF (plainFor_of_name pnEc0) hisR ?_
  intro p e s m args below meth c s₁ Bd hml hP hK
  obtain ⟨rfl, hZ, hh⟩ := hP
  obtain ⟨hx, hby, hown, hnm, hlk, hret, X0, e0⟩ := own_st Bd "java/lang/AbstractStringBuilder" rfl hh
  have N0 := Fr.nil n0
  show Go p e below s (⟨0, 0, 0, 0⟩ : Room).cells (⟨0, 0, 0, 0⟩ : Room).slots (QEc0 Z  h0 n0) (s₁.setTop (entryFrame m #[(.ref a), (.int 0)] 3))
  rw [efEc0]
  obtain ⟨T101, X101, e101, st101⟩ := getF X0 hx hZ hown (host := "") (Or.inl (own_w hw 75 rfl)) Via.refl e0 F0_a_value (g := (mkF m 1 #[.val (.ref a), .val (.int 0), .unset] [(.ref a)])) rfl rfl (hb hby dEc0_1)
  obtain ⟨cl_q102, Ar_q102, q1_q102, S_q102, N_q102, H_q102, G_q102⟩ := id V0_va
  obtain ⟨T103, X103, e103, st103⟩ := getF X101 hx hZ hown (host := "") (Or.inl (own_w hw 77 rfl)) Via.refl e101 F0_a_coder (g := (mkF m 6 #[.val (.ref a), .val (.int 0), .unset] [(.ref a), (.int 16)])) rfl rfl (hb hby dEc0_6)
  refine Go.by (fun _ kont => XS.aloadN X0.here hx rfl (hb hby dEc0_0) rfl rfl (st101 _ (X101.arraylength hx (own_at e101 Ar_q102.1) (State.isArrayOf_alike hZ.alike Ar_q102.2.1) (g := (mkF m 4 #[.val (.ref a), .val (.int 0), .unset] [(.ref va)])) rfl rfl (hb hby dEc0_4) _ (own_fI (len_of S_q102 N_q102) (XS.aloadN X101.here hx rfl (hb hby dEc0_5) rfl rfl (st103 _ (XS.ishr X103.here hx rfl (hb hby dEc0_9) rfl (own_fI (show ((16 : Int32) >>> ((0 : Int32) &&& 31)) = (16 : Int32) from by decide) (XS.istoreN X103.here hx rfl (hb hby dEc0_10) rfl (l' := #[.val (.ref a), .val (.int 0), .val (.int 16)]) rfl (XS.iloadN X103.here hx rfl (hb hby dEc0_11) rfl (XS.iloadN X103.here hx rfl (hb hby dEc0_12) rfl (XS.isub X103.here hx rfl (hb hby dEc0_13) rfl (own_fI (show ((0 : Int32) - (16 : Int32)) = (-16 : Int32) from by decide) (XS.ifYes X103.here hx rfl (pc0 := 14) (pc' := 38) rfl (hb hby dEc0_14) rfl (by decide) (by decide) (by decide) kont)))))))))))))) ?_
  show Go _ _ _ _ _ _ _ (T103.setTop (mkF m 38 #[.val (.ref a), .val (.int 0), .val (.int 16)] []))
  refine Go.retV X103 hx hret hlk (hb hby dEc0_38) ?_ (by decide) (by decide)
  show QEc0 Z  h0 n0 none T103.heap _
  rw [e103]
  exact ⟨rfl, N0, rfl⟩

theorem pnEc6 : plainName "java/lang/AbstractStringBuilder" = true := by first | (simp [plainName, overriddenIn]; done) | decide +kernel
theorem efEc6 (m : MethodId) (a : Addr) : entryFrame m #[(.ref a), (.int 6)] 3 = mkF m 0 #[.val (.ref a), .val (.int 6), .unset] [] := by first | (simp [entryFrame, mkF, argsToLocals, Value.category]; done) | rfl
def QEc6 (Z : State)  (h0 : Heap) (n0 : Nat) (v : Option Value) (h : Heap) (L : List Loc) : Prop := (v = none ∧ Fr n0 L ∧ h = h0)
set_option maxRecDepth 65536 in
set_option maxHeartbeats 40000000 in
theorem rmEc6 (l : Launch) (Z : State) (a0 : Array Value) (hw : ∀ d ∈ tables_1, d.before a0 Z = true) (ws : List Jvm.Cond) (a : Addr) (va : Addr) (kc_va : ClassId) (v0 : Int32) (v1 : Int32) (v2 : Int32) (v3 : Int32) (v4 : Int32) (v5 : Int32) (v6 : Int32) (v7 : Int32) (v8 : Int32) (v9 : Int32) (v10 : Int32) (v11 : Int32) (v12 : Int32) (v13 : Int32) (v14 : Int32) (v15 : Int32) (h0 : Heap) (n0 : Nat) (Z0 : n0 ≤ h0.size) (E0_a : Exa Z h0 a "java/lang/StringBuilder") (F0_a_value : Fld Z h0 a "java/lang/AbstractStringBuilder" "value" "[B" (.ref va)) (F0_a_coder : Fld Z h0 a "java/lang/AbstractStringBuilder" "coder" "B" (.int 0)) (V0_va : Arv Z h0 va kc_va .byte (16 : Int32) [(.int v0), (.int v1), (.int v2), (.int v3), (.int v4), (.int v5), (.int v6), (.int v7), (.int v8), (.int v9), (.int v10), (.int v11), (.int v12), (.int v13), (.int v14), (.int v15)] (.int 0)) :
    Ct l Z (⟨"java/lang/AbstractStringBuilder", "ensureCapacityInternal", "(I)V"⟩ : MethodName) jdk_68_method_9_code 3 none ws (⟨0, 0, 0, 0⟩ : Room) #[(.ref a), (.int 6)] h0 (QEc6 Z  h0 n0) := by
  refine MetFree.of_bodySF (plainFor_of_name pnEc6) hisR ?_
  intro p e s m args below meth c s₁ Bd hml hP hK
  obtain ⟨rfl, hZ, hh⟩ := hP
  obtain ⟨hx, hby, hown, hnm, hlk, hret, X0, e0⟩ := own_st Bd "java/lang/AbstractStringBuilder" rfl hh
  have N0 := Fr.nil n0
  show Go p e below s (⟨0, 0, 0, 0⟩ : Room).cells (⟨0, 0, 0, 0⟩ : Room).slots (QEc6 Z  h0 n0) (s₁.setTop (entryFrame m #[(.ref a), (.int 6)] 3))
  rw [efEc6]
  obtain ⟨T101, X101, e101, st101⟩ := getF X0 hx hZ hown (host := "") (Or.inl (own_w hw 75 rfl)) Via.refl e0 F0_a_value (g := (mkF m 1 #[.val (.ref a), .val (.int 6), .unset] [(.ref a)])) rfl rfl (hb hby dEc0_1)
  obtain ⟨cl_q102, Ar_q102, q1_q102, S_q102, N_q102, H_q102, G_q102⟩ := id V0_va
  obtain ⟨T103, X103, e103, st103⟩ := getF X101 hx hZ hown (host := "") (Or.inl (own_w hw 77 rfl)) Via.refl e101 F0_a_coder (g := (mkF m 6 #[.val (.ref a), .val (.int 6), .unset] [(.ref a), (.int 16)])) rfl rfl (hb hby dEc0_6)
  refine Go.by (fun _ kont => XS.aloadN X0.here hx rfl (hb hby dEc0_0) rfl rfl (st101 _ (X101.arraylength hx (own_at e101 Ar_q102.1) (State.isArrayOf_alike hZ.alike Ar_q102.2.1) (g := (mkF m 4 #[.val (.ref a), .val (.int 6), .unset] [(.ref va)])) rfl rfl (hb hby dEc0_4) _ (own_fI (len_of S_q102 N_q102) (XS.aloadN X101.here hx rfl (hb hby dEc0_5) rfl rfl (st103 _ (XS.ishr X103.here hx rfl (hb hby dEc0_9) rfl (own_fI (show ((16 : Int32) >>> ((0 : Int32) &&& 31)) = (16 : Int32) from by decide) (XS.istoreN X103.here hx rfl (hb hby dEc0_10) rfl (l' := #[.val (.ref a), .val (.int 6), .val (.int 16)]) rfl (XS.iloadN X103.here hx rfl (hb hby dEc0_11) rfl (XS.iloadN X103.here hx rfl (hb hby dEc0_12) rfl (XS.isub X103.here hx rfl (hb hby dEc0_13) rfl (own_fI (show ((6 : Int32) - (16 : Int32)) = (-10 : Int32) from by decide) (XS.ifYes X103.here hx rfl (pc0 := 14) (pc' := 38) rfl (hb hby dEc0_14) rfl (by decide) (by decide) (by decide) kont)))))))))))))) ?_
  show Go _ _ _ _ _ _ _ (T103.setTop (mkF m 38 #[.val (.ref a), .val (.int 6), .val (.int 16)] []))
  refine Go.retV X103 hx hret hlk (hb hby dEc0_38) ?_ (by decide) (by decide)
  show QEc6 Z  h0 n0 none T103.heap _
  rw [e103]
  exact ⟨rfl, N0, rfl⟩

theorem pnEc10 : plainName "java/lang/AbstractStringBuilder" = true := by first | (simp [plainName, overriddenIn]; done) | decide +kernel
theorem efEc10 (m : MethodId) (a : Addr) : entryFrame m #[(.ref a), (.int 10)] 3 = mkF m 0 #[.val (.ref a), .val (.int 10), .unset] [] := by first | (simp [entryFrame, mkF, argsToLocals, Value.category]; done) | rfl
def QEc10 (Z : State)  (h0 : Heap) (n0 : Nat) (v : Option Value) (h : Heap) (L : List Loc) : Prop := (v = none ∧ Fr n0 L ∧ h = h0)
set_option maxRecDepth 65536 in
set_option maxHeartbeats 40000000 in
theorem rmEc10 (l : Launch) (Z : State) (a0 : Array Value) (hw : ∀ d ∈ tables_1, d.before a0 Z = true) (ws : List Jvm.Cond) (a : Addr) (va : Addr) (kc_va : ClassId) (v0 : Int32) (v1 : Int32) (v2 : Int32) (v3 : Int32) (v4 : Int32) (v5 : Int32) (v6 : Int32) (v7 : Int32) (v8 : Int32) (v9 : Int32) (v10 : Int32) (v11 : Int32) (v12 : Int32) (v13 : Int32) (v14 : Int32) (v15 : Int32) (h0 : Heap) (n0 : Nat) (Z0 : n0 ≤ h0.size) (E0_a : Exa Z h0 a "java/lang/StringBuilder") (F0_a_value : Fld Z h0 a "java/lang/AbstractStringBuilder" "value" "[B" (.ref va)) (F0_a_coder : Fld Z h0 a "java/lang/AbstractStringBuilder" "coder" "B" (.int 0)) (V0_va : Arv Z h0 va kc_va .byte (16 : Int32) [(.int v0), (.int v1), (.int v2), (.int v3), (.int v4), (.int v5), (.int v6), (.int v7), (.int v8), (.int v9), (.int v10), (.int v11), (.int v12), (.int v13), (.int v14), (.int v15)] (.int 0)) :
    Ct l Z (⟨"java/lang/AbstractStringBuilder", "ensureCapacityInternal", "(I)V"⟩ : MethodName) jdk_68_method_9_code 3 none ws (⟨0, 0, 0, 0⟩ : Room) #[(.ref a), (.int 10)] h0 (QEc10 Z  h0 n0) := by
  refine MetFree.of_bodySF (plainFor_of_name pnEc10) hisR ?_
  intro p e s m args below meth c s₁ Bd hml hP hK
  obtain ⟨rfl, hZ, hh⟩ := hP
  obtain ⟨hx, hby, hown, hnm, hlk, hret, X0, e0⟩ := own_st Bd "java/lang/AbstractStringBuilder" rfl hh
  have N0 := Fr.nil n0
  show Go p e below s (⟨0, 0, 0, 0⟩ : Room).cells (⟨0, 0, 0, 0⟩ : Room).slots (QEc10 Z  h0 n0) (s₁.setTop (entryFrame m #[(.ref a), (.int 10)] 3))
  rw [efEc10]
  obtain ⟨T101, X101, e101, st101⟩ := getF X0 hx hZ hown (host := "") (Or.inl (own_w hw 75 rfl)) Via.refl e0 F0_a_value (g := (mkF m 1 #[.val (.ref a), .val (.int 10), .unset] [(.ref a)])) rfl rfl (hb hby dEc0_1)
  obtain ⟨cl_q102, Ar_q102, q1_q102, S_q102, N_q102, H_q102, G_q102⟩ := id V0_va
  obtain ⟨T103, X103, e103, st103⟩ := getF X101 hx hZ hown (host := "") (Or.inl (own_w hw 77 rfl)) Via.refl e101 F0_a_coder (g := (mkF m 6 #[.val (.ref a), .val (.int 10), .unset] [(.ref a), (.int 16)])) rfl rfl (hb hby dEc0_6)
  refine Go.by (fun _ kont => XS.aloadN X0.here hx rfl (hb hby dEc0_0) rfl rfl (st101 _ (X101.arraylength hx (own_at e101 Ar_q102.1) (State.isArrayOf_alike hZ.alike Ar_q102.2.1) (g := (mkF m 4 #[.val (.ref a), .val (.int 10), .unset] [(.ref va)])) rfl rfl (hb hby dEc0_4) _ (own_fI (len_of S_q102 N_q102) (XS.aloadN X101.here hx rfl (hb hby dEc0_5) rfl rfl (st103 _ (XS.ishr X103.here hx rfl (hb hby dEc0_9) rfl (own_fI (show ((16 : Int32) >>> ((0 : Int32) &&& 31)) = (16 : Int32) from by decide) (XS.istoreN X103.here hx rfl (hb hby dEc0_10) rfl (l' := #[.val (.ref a), .val (.int 10), .val (.int 16)]) rfl (XS.iloadN X103.here hx rfl (hb hby dEc0_11) rfl (XS.iloadN X103.here hx rfl (hb hby dEc0_12) rfl (XS.isub X103.here hx rfl (hb hby dEc0_13) rfl (own_fI (show ((10 : Int32) - (16 : Int32)) = (-6 : Int32) from by decide) (XS.ifYes X103.here hx rfl (pc0 := 14) (pc' := 38) rfl (hb hby dEc0_14) rfl (by decide) (by decide) (by decide) kont)))))))))))))) ?_
  show Go _ _ _ _ _ _ _ (T103.setTop (mkF m 38 #[.val (.ref a), .val (.int 10), .val (.int 16)] []))
  refine Go.retV X103 hx hret hlk (hb hby dEc0_38) ?_ (by decide) (by decide)
  show QEc10 Z  h0 n0 none T103.heap _
  rw [e103]
  exact ⟨rfl, N0, rfl⟩

theorem dEcg_17 : decode jdk_68_method_9_code 17 = .ok (.aload_n 0, 1) := by decide +kernel
theorem dEcg_18 : decode jdk_68_method_9_code 18 = .ok (.aload_n 0, 1) := by decide +kernel
theorem dEcg_19 : decode jdk_68_method_9_code 19 = .ok (.getfield 15, 3) := by decide +kernel
theorem dEcg_22 : decode jdk_68_method_9_code 22 = .ok (.aload_n 0, 1) := by decide +kernel
theorem dEcg_23 : decode jdk_68_method_9_code 23 = .ok (.iload_n 1, 1) := by decide +kernel
theorem dEcg_24 : decode jdk_68_method_9_code 24 = .ok (.invokevirtual 104, 3) := by decide +kernel
theorem dEcg_27 : decode jdk_68_method_9_code 27 = .ok (.aload_n 0, 1) := by decide +kernel
theorem dEcg_28 : decode jdk_68_method_9_code 28 = .ok (.getfield 22, 3) := by decide +kernel
theorem dEcg_31 : decode jdk_68_method_9_code 31 = .ok (.ishl, 1) := by decide +kernel
theorem dEcg_32 : decode jdk_68_method_9_code 32 = .ok (.invokestatic 108, 3) := by decide +kernel
theorem dEcg_35 : decode jdk_68_method_9_code 35 = .ok (.putfield 15, 3) := by decide +kernel
theorem pdEcg_0 : parseMethodDescriptor "(I)I" = some ⟨[.int], some .int⟩ := by decide +kernel
theorem pdEcg_1 : parseMethodDescriptor "([BI)[B" = some ⟨[(.array .byte), .int], some (.array .byte)⟩ := by decide +kernel
theorem pnEcg : plainName "java/lang/AbstractStringBuilder" = true := by first | (simp [plainName, overriddenIn]; done) | decide +kernel
theorem efEcg (m : MethodId) (a : Addr) : entryFrame m #[(.ref a), (.int 21)] 3 = mkF m 0 #[.val (.ref a), .val (.int 21), .unset] [] := by first | (simp [entryFrame, mkF, argsToLocals, Value.category]; done) | rfl
def QEcg (Z : State) (a : Addr) (ct : Int32) (v0 : Int32) (v1 : Int32) (v2 : Int32) (v3 : Int32) (v4 : Int32) (v5 : Int32) (v6 : Int32) (v7 : Int32) (v8 : Int32) (v9 : Int32) (v10 : Int32) (v11 : Int32) (v12 : Int32) (v13 : Int32) (v14 : Int32) (v15 : Int32) (h0 : Heap) (n0 : Nat) (v : Option Value) (h : Heap) (L : List Loc) : Prop := ∃ b102_107 : Addr, ∃ k102_107 : ClassId, (v = none ∧ Fr n0 L ∧ Keep h0 h [a] ∧ Exa Z h a "java/lang/StringBuilder" ∧ Fld Z h a "java/lang/AbstractStringBuilder" "value" "[B" (.ref b102_107) ∧ Fld Z h a "java/lang/AbstractStringBuilder" "coder" "B" (.int 0) ∧ Fld Z h a "java/lang/AbstractStringBuilder" "count" "I" (.int ct) ∧ n0 ≤ b102_107 ∧ h0.size ≤ b102_107 ∧ Arv Z h b102_107 k102_107 .byte (34 : Int32) [(.int v0), (.int v1), (.int v2), (.int v3), (.int v4), (.int v5), (.int v6), (.int v7), (.int v8), (.int v9), (.int v10), (.int v11), (.int v12), (.int v13), (.int v14), (.int v15), (.int 0), (.int 0), (.int 0), (.int 0), (.int 0), (.int 0), (.int 0), (.int 0), (.int 0), (.int 0), (.int 0), (.int 0), (.int 0), (.int 0), (.int 0), (.int 0), (.int 0), (.int 0)] (.int 0))
set_option maxRecDepth 65536 in
set_option maxHeartbeats 40000000 in
theorem rmEcg (l : Launch) (Z : State) (a0 : Array Value) (hw : ∀ d ∈ tables_1, d.before a0 Z = true) (ws : List Jvm.Cond) (a : Addr) (va : Addr) (ct : Int32) (kc_va : ClassId) (v0 : Int32) (v1 : Int32) (v2 : Int32) (v3 : Int32) (v4 : Int32) (v5 : Int32) (v6 : Int32) (v7 : Int32) (v8 : Int32) (v9 : Int32) (v10 : Int32) (v11 : Int32) (v12 : Int32) (v13 : Int32) (v14 : Int32) (v15 : Int32) (h0 : Heap) (n0 : Nat) (Z0 : n0 ≤ h0.size) (E0_a : Exa Z h0 a "java/lang/StringBuilder") (F0_a_value : Fld Z h0 a "java/lang/AbstractStringBuilder" "value" "[B" (.ref va)) (F0_a_coder : Fld Z h0 a "java/lang/AbstractStringBuilder" "coder" "B" (.int 0)) (F0_a_count : Fld Z h0 a "java/lang/AbstractStringBuilder" "count" "I" (.int ct)) (V0_va : Arv Z h0 va kc_va .byte (16 : Int32) [(.int v0), (.int v1), (.int v2), (.int v3), (.int v4), (.int v5), (.int v6), (.int v7), (.int v8), (.int v9), (.int v10), (.int v11), (.int v12), (.int v13), (.int v14), (.int v15)] (.int 0)) (ne0_a_va : a ≠ va) (ge0_a : n0 ≤ a) :
    Ct l Z (⟨"java/lang/AbstractStringBuilder", "ensureCapacityInternal", "(I)V"⟩ : MethodName) jdk_68_method_9_code 3 none ws (⟨3, 1, 34, 48⟩ : Room) #[(.ref a), (.int 21)] h0 (QEcg Z a ct v0 v1 v2 v3 v4 v5 v6 v7 v8 v9 v10 v11 v12 v13 v14 v15 h0 n0) := by
  refine MetFree.of_bodySF (plainFor_of_name pnEcg) hisR ?_
  intro p e s m args below meth c s₁ Bd hml hP hK
  obtain ⟨rfl, hZ, hh⟩ := hP
  obtain ⟨hx, hby, hown, hnm, hlk, hret, X0, e0⟩ := own_st Bd "java/lang/AbstractStringBuilder" rfl hh
  have N0 := Fr.nil n0
  show Go p e below s (⟨3, 1, 34, 48⟩ : Room).cells (⟨3, 1, 34, 48⟩ : Room).slots (QEcg Z a ct v0 v1 v2 v3 v4 v5 v6 v7 v8 v9 v10 v11 v12 v13 v14 v15 h0 n0) (s₁.setTop (entryFrame m #[(.ref a), (.int 21)] 3))
  rw [efEcg]
  obtain ⟨T101, X101, e101, st101⟩ := getF X0 hx hZ hown (host := "") (Or.inl (own_w hw 75 rfl)) Via.refl e0 F0_a_value (g := (mkF m 1 #[.val (.ref a), .val (.int 21), .unset] [(.ref a)])) rfl rfl (hb hby dEc0_1)
  obtain ⟨cl_q102, Ar_q102, q1_q102, S_q102, N_q102, H_q102, G_q102⟩ := id V0_va
  obtain ⟨T103, X103, e103, st103⟩ := getF X101 hx hZ hown (host := "") (Or.inl (own_w hw 77 rfl)) Via.refl e101 F0_a_coder (g := (mkF m 6 #[.val (.ref a), .val (.int 21), .unset] [(.ref a), (.int 16)])) rfl rfl (hb hby dEc0_6)
  obtain ⟨T104, X104, e104, st104⟩ := getF X103 hx hZ hown (host := "") (Or.inl (own_w hw 75 rfl)) Via.refl e103 F0_a_value (g := (mkF m 19 #[.val (.ref a), .val (.int 21), .val (.int 16)] [(.ref a), (.ref a)])) rfl rfl (hb hby dEcg_19)
  obtain ⟨cq105, q105, q105'⟩ := E0_a.cell
  obtain ⟨_, _, ⟨T105, L105, k105, n105⟩, -, X105, ⟨Lc105, hQ105, l105, y105, z105⟩, st105⟩ := X104.privateBack hx (y := (⟨"java/lang/AbstractStringBuilder", "newCapacity", "(I)I"⟩ : MethodName)) hown (mvT hZ (own_w hw 165 rfl)) (mvT hZ (own_w hw 166 rfl)) (own_selp2 hZ (own_w hw 168 rfl) (own_w hw 167 rfl) (own_w hw 166 rfl) (by decide)) (Cond.privateMethod_at (mvP hZ (own_w hw 167 rfl) (args := #[]))) (mvT hZ (own_w hw 169 rfl)) (by decide) (backOf (W := 2) (rmNc l Z a0 hw [] a va kc_va v0 v1 v2 v3 v4 v5 v6 v7 v8 v9 v10 v11 v12 v13 v14 v15 h0 n0 Z0 E0_a F0_a_value F0_a_coder V0_va) hZ (own_w hw 169 rfl) (own_w hw 71 rfl) (by decide) (by decide)) (g := (mkF m 24 #[.val (.ref a), .val (.int 21), .val (.int 16)] [(.int 21), (.ref a), (.ref va), (.ref a)])) rfl (by rw [hml]; rfl) (Steps.refl _) (a := a) (by rw [e104]; exact q105) q105' (argsL := [(.int 21)]) (rest := [(.ref va), (.ref a)]) (lenOf pdEcg_0 rfl) rfl (by show 2 * 0 + _ ≤ _; exact Nat.le_of_eq rfl) (hb hby dEcg_24) (fun _ _ => ⟨rfl, e104, (by decide : 0 + 0 ≤ _), (by decide : 0 + 0 ≤ _)⟩)
  dsimp only [Pt.U, Pt.locs, Pt.cells, Pt.slots] at X105 l105 y105 z105 st105 hQ105
  subst l105 y105 z105
  obtain ⟨rfl, N105q, eh105⟩ := hQ105
  have N105 := Fr.app N0 N105q
  obtain ⟨T106, X106, e106, st106⟩ := getF X105 hx hZ hown (host := "") (Or.inl (own_w hw 77 rfl)) Via.refl eh105 F0_a_coder (g := (mkF m 28 #[.val (.ref a), .val (.int 21), .val (.int 16)] [(.ref a), (.int 34), (.ref va), (.ref a)])) rfl rfl (hb hby dEcg_28)
  obtain ⟨_, _, ⟨T107, L107, k107, n107⟩, -, X107, ⟨Lc107, hQ107, l107, y107, z107⟩, st107⟩ := Jvm.LawKit.callS X106 hx (y := (⟨"java/util/Arrays", "copyOf", "([BI)[B"⟩ : MethodName)) hown (mvT hZ (own_w hw 180 rfl)) (mvT hZ (own_w hw 181 rfl)) (mvT hZ (own_w hw 182 rfl)) (mvT hZ (own_w hw 183 rfl)) (by decide) (backOf (W := 1) (rmCp l Z a0 hw [] va kc_va v0 v1 v2 v3 v4 v5 v6 v7 v8 v9 v10 v11 v12 v13 v14 v15 h0 n0 Z0 V0_va) hZ (own_w hw 183 rfl) (own_w hw 182 rfl) (by decide) (by decide)) (g := (mkF m 32 #[.val (.ref a), .val (.int 21), .val (.int 16)] [(.int 34), (.ref va), (.ref a)])) rfl (by rw [hml]; rfl) (argsL := [(.ref va), (.int 34)]) (rest := [(.ref a)]) (lenOf pdEcg_1 rfl) rfl (by show 2 * 0 + _ ≤ _; exact Nat.le_of_eq rfl) (hb hby dEcg_32) (fun _ _ => ⟨rfl, e106, (by decide : 0 + 1 ≤ _), (by decide : 0 + 34 ≤ _)⟩)
  dsimp only [Pt.U, Pt.locs, Pt.cells, Pt.slots] at X107 l107 y107 z107 st107 hQ107
  subst l107 y107 z107
  obtain ⟨b102_107, k102_107, rfl, N107q, K107, ge_b102_107, szc_b102_107, g107_0⟩ := hQ107
  have sz_b102_107 : h0.size ≤ b102_107 := Nat.le_trans (Keep.refl h0 [a]).1 szc_b102_107
  have F108_value_a := F0_a_value.keep K107 nin0
  have F108_coder_a := F0_a_coder.keep K107 nin0
  have F108_count_a := F0_a_count.keep K107 nin0
  have Z108 := Nat.le_trans Z0 K107.1
  have K108 : Keep h0 T107.heap [a] := Keep.trans (Keep.refl h0 [a]) K107 all0
  have N107 := Fr.app N105 N107q
  obtain ⟨T109, h109, X109, e109, W109, st109⟩ := putF X107 hx hZ hown (host := "") (Or.inl (own_w hw 75 rfl)) Via.refl rfl F108_value_a (E0_a.keep K108) (Or.inl (own_w hw 76 rfl)) (own_w hw 62 rfl) (ty := (.array .byte)) (by decide) rfl rfl (g := (mkF m 35 #[.val (.ref a), .val (.int 21), .val (.int 16)] [(.ref b102_107), (.ref a)])) rfl rfl (hb hby dEcg_35)
  have Fw109 := F108_value_a.same W109
  have F110_coder_a := F108_coder_a.other W109 (Or.inr (slot_ne (Or.inl (own_w hw 78 rfl)) (Or.inl (own_w hw 76 rfl)) (by decide) (t := .byte) (t' := (.array .byte)) (by decide) (by decide)))
  have F110_count_a := F108_count_a.other W109 (Or.inr (slot_ne (Or.inl (own_w hw 118 rfl)) (Or.inl (own_w hw 76 rfl)) (by decide) (t := .int) (t' := (.array .byte)) (by decide) (by decide)))
  have V110_b102_107 := g107_0.other W109 (Ne.symm (own_nlt F0_a_value.lt szc_b102_107))
  have Z110 := Nat.le_trans Z108 (Keep.of_wr W109).1
  have K110 : Keep h0 h109 [a] := K108.wr W109 (Or.inl (by simp))
  have N109 := Fr.snoc X109 N107 ge0_a
  refine Go.by (fun _ kont => XS.aloadN X0.here hx rfl (hb hby dEc0_0) rfl rfl (st101 _ (X101.arraylength hx (own_at e101 Ar_q102.1) (State.isArrayOf_alike hZ.alike Ar_q102.2.1) (g := (mkF m 4 #[.val (.ref a), .val (.int 21), .unset] [(.ref va)])) rfl rfl (hb hby dEc0_4) _ (own_fI (len_of S_q102 N_q102) (XS.aloadN X101.here hx rfl (hb hby dEc0_5) rfl rfl (st103 _ (XS.ishr X103.here hx rfl (hb hby dEc0_9) rfl (own_fI (show ((16 : Int32) >>> ((0 : Int32) &&& 31)) = (16 : Int32) from by decide) (XS.istoreN X103.here hx rfl (hb hby dEc0_10) rfl (l' := #[.val (.ref a), .val (.int 21), .val (.int 16)]) rfl (XS.iloadN X103.here hx rfl (hb hby dEc0_11) rfl (XS.iloadN X103.here hx rfl (hb hby dEc0_12) rfl (XS.isub X103.here hx rfl (hb hby dEc0_13) rfl (own_fI (show ((21 : Int32) - (16 : Int32)) = (5 : Int32) from by decide) (XS.ifNo X103.here hx rfl (hb hby dEc0_14) rfl (by decide) (XS.aloadN X103.here hx rfl (hb hby dEcg_17) rfl rfl (XS.aloadN X103.here hx rfl (hb hby dEcg_18) rfl rfl (st104 _ (XS.aloadN X104.here hx rfl (hb hby dEcg_22) rfl rfl (XS.iloadN X104.here hx rfl (hb hby dEcg_23) rfl (st105.trans (XS.aloadN X105.here hx rfl (hb hby dEcg_27) rfl rfl (st106 _ (XS.ishl X106.here hx rfl (hb hby dEcg_31) rfl (own_fI (show ((34 : Int32) <<< ((0 : Int32) &&& 31)) = (34 : Int32) from by decide) (st107 _ (st109 _ kont)))))))))))))))))))))))))) ?_
  show Go _ _ _ _ _ _ _ (T109.setTop (mkF m 38 #[.val (.ref a), .val (.int 21), .val (.int 16)] []))
  refine Go.retV X109 hx hret hlk (hb hby dEc0_38) ?_ (by decide) (by decide)
  show QEcg Z a ct v0 v1 v2 v3 v4 v5 v6 v7 v8 v9 v10 v11 v12 v13 v14 v15 h0 n0 none T109.heap _
  rw [e109]
  exact ⟨b102_107, k102_107, rfl, N109, K110, (E0_a.keep K110), Fw109, F110_coder_a, F110_count_a, ge_b102_107, sz_b102_107, V110_b102_107⟩

theorem dIn_0 : decode jdk_68_method_71_code 0 = .ok (.getstatic 18, 3) := by decide +kernel
theorem dIn_3 : decode jdk_68_method_71_code 3 = .ok (.ifCond .eq 18, 3) := by decide +kernel
theorem dIn_6 : decode jdk_68_method_71_code 6 = .ok (.aload_n 0, 1) := by decide +kernel
theorem dIn_7 : decode jdk_68_method_71_code 7 = .ok (.getfield 22, 3) := by decide +kernel
theorem dIn_10 : decode jdk_68_method_71_code 10 = .ok (.aload_n 1, 1) := by decide +kernel
theorem dIn_11 : decode jdk_68_method_71_code 11 = .ok (.invokevirtual 40, 3) := by decide +kernel
theorem dIn_14 : decode jdk_68_method_71_code 14 = .ok (.if_icmp .eq 7, 3) := by decide +kernel
theorem dIn_21 : decode jdk_68_method_71_code 21 = .ok (.return_, 1) := by decide +kernel
theorem pdIn_0 : parseMethodDescriptor "()B" = some ⟨[], some .byte⟩ := by decide +kernel
theorem pnIn : plainName "java/lang/AbstractStringBuilder" = true := by first | (simp [plainName, overriddenIn]; done) | decide +kernel
theorem efIn (m : MethodId) (a : Addr) (sg : Addr) : entryFrame m #[(.ref a), (.ref sg)] 2 = mkF m 0 #[.val (.ref a), .val (.ref sg)] [] := by first | (simp [entryFrame, mkF, argsToLocals, Value.category]; done) | rfl
def QIn (Z : State)  (h0 : Heap) (n0 : Nat) (v : Option Value) (h : Heap) (L : List Loc) : Prop := (v = none ∧ Fr n0 L ∧ h = h0)
set_option maxRecDepth 65536 in
set_option maxHeartbeats 40000000 in
theorem rmIn (l : Launch) (Z : State) (a0 : Array Value) (hw : ∀ d ∈ tables_1, d.before a0 Z = true) (ws : List Jvm.Cond) (a : Addr) (sg : Addr) (cs : Int32) (h0 : Heap) (n0 : Nat) (Z0 : n0 ≤ h0.size) (E0_a : Exa Z h0 a "java/lang/StringBuilder") (F0_a_coder : Fld Z h0 a "java/lang/AbstractStringBuilder" "coder" "B" (.int 0)) (E0_sg : Exa Z h0 sg "java/lang/String") (F0_sg_coder : Fld Z h0 sg "java/lang/String" "coder" "B" (.int 0)) (S0_COMPACT_STRINGS : Sta Z h0 "java/lang/String" "COMPACT_STRINGS" "Z" (.int cs)) (hcs : ¬ (cs = (0 : Int32))) :
    Ct l Z (⟨"java/lang/AbstractStringBuilder", "inflateIfNeededFor", "(Ljava/lang/String;)V"⟩ : MethodName) jdk_68_method_71_code 2 none ws (⟨1, 0, 0, 13⟩ : Room) #[(.ref a), (.ref sg)] h0 (QIn Z  h0 n0) := by
  refine MetFree.of_bodySF (plainFor_of_name pnIn) hisR ?_
  intro p e s m args below meth c s₁ Bd hml hP hK
  obtain ⟨rfl, hZ, hh⟩ := hP
  obtain ⟨hx, hby, hown, hnm, hlk, hret, X0, e0⟩ := own_st Bd "java/lang/AbstractStringBuilder" rfl hh
  have N0 := Fr.nil n0
  show Go p e below s (⟨1, 0, 0, 13⟩ : Room).cells (⟨1, 0, 0, 13⟩ : Room).slots (QIn Z  h0 n0) (s₁.setTop (entryFrame m #[(.ref a), (.ref sg)] 2))
  rw [efIn]
  obtain ⟨T101, X101, e101, st101⟩ := getS2 X0 hx hZ hown (host := "") (Or.inl (own_w hw 74 rfl)) Via.refl e0 S0_COMPACT_STRINGS (g := (mkF m 0 #[.val (.ref a), .val (.ref sg)] [])) rfl (hb hby dIn_0)
  refine Go.by (fun _ kont => st101 _ kont) ?_
  show Go _ _ _ _ _ _ _ (T101.setTop (mkF m 3 #[.val (.ref a), .val (.ref sg)] [(.int cs)]))
  refine Go.by (fun _ kont => XS.ifNo X101.here hx rfl (hb hby dIn_3) rfl ((if0 _ _).trans (feq hcs).1) kont) ?_
  show Go _ _ _ _ _ _ _ (T101.setTop (mkF m 6 #[.val (.ref a), .val (.ref sg)] []))
  obtain ⟨T102, X102, e102, st102⟩ := getF X101 hx hZ hown (host := "") (Or.inl (own_w hw 77 rfl)) Via.refl e101 F0_a_coder (g := (mkF m 7 #[.val (.ref a), .val (.ref sg)] [(.ref a)])) rfl rfl (hb hby dIn_7)
  obtain ⟨cq103, kq103, q103a, q103b, q103c⟩ := isOf hZ e102 E0_sg
  obtain ⟨_, _, ⟨T103, L103, k103, n103⟩, -, X103, ⟨Lc103, hQ103, l103, y103, z103⟩, st103⟩ := X102.virtualBack hx (y := (⟨"java/lang/String", "coder", "()B"⟩ : MethodName)) (z := (⟨"java/lang/String", "coder", "()B"⟩ : MethodName)) hown (mvT hZ (own_w hw 154 rfl)) (mvT hZ (own_w hw 135 rfl)) (notFace_of_selects (args := #[]) (mvT hZ (own_w hw 137 rfl))) (mvT hZ (own_w hw 137 rfl)) (mvT hZ (own_w hw 136 rfl)) (by decide) (backOf (W := 1) (rmCo l Z a0 hw [] sg cs h0 n0 Z0 E0_sg F0_sg_coder S0_COMPACT_STRINGS hcs) hZ (own_w hw 138 rfl) (own_w hw 7 rfl) (by decide) (by decide)) q103a q103c (g := (mkF m 11 #[.val (.ref a), .val (.ref sg)] [(.ref sg), (.int 0)])) rfl (by rw [hml]; rfl) (Steps.refl _) (argsL := []) (rest := [(.int 0)]) (lenOf pdIn_0 rfl) rfl (by show 2 * 0 + _ ≤ _; exact Nat.le_of_eq rfl) (hb hby dIn_11) (fun _ _ => ⟨rfl, e102, (by decide : 0 + 0 ≤ _), (by decide : 0 + 0 ≤ _)⟩)
  dsimp only [Pt.U, Pt.locs, Pt.cells, Pt.slots] at X103 l103 y103 z103 st103 hQ103
  subst l103 y103 z103
  obtain ⟨rfl, N103q, eh103⟩ := hQ103
  have N103 := Fr.app N0 N103q
  refine Go.by (fun _ kont => XS.aloadN X101.here hx rfl (hb hby dIn_6) rfl rfl (st102 _ (XS.aloadN X102.here hx rfl (hb hby dIn_10) rfl rfl (st103.trans (XS.icmpYes X103.here hx rfl (pc0 := 14) (pc' := 21) rfl (hb hby dIn_14) rfl (by decide) (by decide) (by decide) kont))))) ?_
  show Go _ _ _ _ _ _ _ (T103.setTop (mkF m 21 #[.val (.ref a), .val (.ref sg)] []))
  refine Go.retV X103 hx hret hlk (hb hby dIn_21) ?_ (by decide) (by decide)
  show QIn Z  h0 n0 none T103.heap _
  rw [eh103]
  exact ⟨rfl, N103, rfl⟩

theorem dGb0_0 : decode jdk_42_method_147_code 0 = .ok (.aload_n 0, 1) := by decide +kernel
theorem dGb0_1 : decode jdk_42_method_147_code 1 = .ok (.invokevirtual 335, 3) := by decide +kernel
theorem dGb0_4 : decode jdk_42_method_147_code 4 = .ok (.iload_n 3, 1) := by decide +kernel
theorem dGb0_5 : decode jdk_42_method_147_code 5 = .ok (.if_icmp .ne 23, 3) := by decide +kernel
theorem dGb0_8 : decode jdk_42_method_147_code 8 = .ok (.aload_n 0, 1) := by decide +kernel
theorem dGb0_9 : decode jdk_42_method_147_code 9 = .ok (.getfield 9, 3) := by decide +kernel
theorem dGb0_12 : decode jdk_42_method_147_code 12 = .ok (.iconst 0, 1) := by decide +kernel
theorem dGb0_13 : decode jdk_42_method_147_code 13 = .ok (.aload_n 1, 1) := by decide +kernel
theorem dGb0_14 : decode jdk_42_method_147_code 14 = .ok (.iload_n 2, 1) := by decide +kernel
theorem dGb0_15 : decode jdk_42_method_147_code 15 = .ok (.iload_n 3, 1) := by decide +kernel
theorem dGb0_16 : decode jdk_42_method_147_code 16 = .ok (.ishl, 1) := by decide +kernel
theorem dGb0_17 : decode jdk_42_method_147_code 17 = .ok (.aload_n 0, 1) := by decide +kernel
theorem dGb0_18 : decode jdk_42_method_147_code 18 = .ok (.getfield 9, 3) := by decide +kernel
theorem dGb0_21 : decode jdk_42_method_147_code 21 = .ok (.arraylength, 1) := by decide +kernel
theorem dGb0_22 : decode jdk_42_method_147_code 22 = .ok (.invokestatic 212, 3) := by decide +kernel
theorem dGb0_25 : decode jdk_42_method_147_code 25 = .ok (.goto 18, 3) := by decide +kernel
theorem dGb0_43 : decode jdk_42_method_147_code 43 = .ok (.return_, 1) := by decide +kernel
theorem pdGb0_0 : parseMethodDescriptor "()B" = some ⟨[], some .byte⟩ := by decide +kernel
theorem pnGb0 : plainName "java/lang/String" = true := by first | (simp [plainName, overriddenIn]; done) | decide +kernel
theorem efGb0 (m : MethodId) (sg : Addr) (va : Addr) : entryFrame m #[(.ref sg), (.ref va), (.int 0), (.int 0)] 4 = mkF m 0 #[.val (.ref sg), .val (.ref va), .val (.int 0), .val (.int 0)] [] := by first | (simp [entryFrame, mkF, argsToLocals, Value.category]; done) | rfl
def QGb0 (Z : State) (va : Addr) (kc_va : ClassId) (v0 : Int32) (v1 : Int32) (v2 : Int32) (v3 : Int32) (v4 : Int32) (v5 : Int32) (v6 : Int32) (v7 : Int32) (v8 : Int32) (v9 : Int32) (v10 : Int32) (v11 : Int32) (v12 : Int32) (v13 : Int32) (v14 : Int32) (v15 : Int32) (h0 : Heap) (n0 : Nat) (v : Option Value) (h : Heap) (L : List Loc) : Prop := (v = none ∧ Fr n0 L ∧ Keep h0 h [va] ∧ Arv Z h va kc_va .byte (16 : Int32) [(.int v0), (.int v1), (.int v2), (.int v3), (.int v4), (.int v5), (.int v6), (.int v7), (.int v8), (.int v9), (.int v10), (.int v11), (.int v12), (.int v13), (.int v14), (.int v15)] (.int 0))
set_option maxRecDepth 65536 in
set_option maxHeartbeats 40000000 in
theorem rmGb0 (l : Launch) (Z : State) (a0 : Array Value) (hw : ∀ d ∈ tables_1, d.before a0 Z = true) (ws : List Jvm.Cond) (sg : Addr) (va : Addr) (za : Addr) (kc_za : ClassId) (kc_va : ClassId) (v0 : Int32) (v1 : Int32) (v2 : Int32) (v3 : Int32) (v4 : Int32) (v5 : Int32) (v6 : Int32) (v7 : Int32) (v8 : Int32) (v9 : Int32) (v10 : Int32) (v11 : Int32) (v12 : Int32) (v13 : Int32) (v14 : Int32) (v15 : Int32) (cs : Int32) (h0 : Heap) (n0 : Nat) (Z0 : n0 ≤ h0.size) (E0_sg : Exa Z h0 sg "java/lang/String") (F0_sg_coder : Fld Z h0 sg "java/lang/String" "coder" "B" (.int 0)) (F0_sg_value : Fld Z h0 sg "java/lang/String" "value" "[B" (.ref za)) (V0_za : Arv Z h0 za kc_za .byte (0 : Int32) [] (.int 0)) (V0_va : Arv Z h0 va kc_va .byte (16 : Int32) [(.int v0), (.int v1), (.int v2), (.int v3), (.int v4), (.int v5), (.int v6), (.int v7), (.int v8), (.int v9), (.int v10), (.int v11), (.int v12), (.int v13), (.int v14), (.int v15)] (.int 0)) (ne0_za_va : za ≠ va) (ne0_sg_va : sg ≠ va) (S0_COMPACT_STRINGS : Sta Z h0 "java/lang/String" "COMPACT_STRINGS" "Z" (.int cs)) (ge0_va : n0 ≤ va) (hcs : ¬ (cs = (0 : Int32))) :
    Ct l Z (⟨"java/lang/String", "getBytes", "([BIB)V"⟩ : MethodName) jdk_42_method_147_code 4 none ws (⟨1, 0, 0, 18⟩ : Room) #[(.ref sg), (.ref va), (.int 0), (.int 0)] h0 (QGb0 Z va kc_va v0 v1 v2 v3 v4 v5 v6 v7 v8 v9 v10 v11 v12 v13 v14 v15 h0 n0) := by
  refine MetFree.of_bodySF (plainFor_of_name pnGb0) hisR ?_
  intro p e s m args below meth c s₁ Bd hml hP hK
  obtain ⟨rfl, hZ, hh⟩ := hP
  obtain ⟨hx, hby, hown, hnm, hlk, hret, X0, e0⟩ := own_st Bd "java/lang/String" rfl hh
  have N0 := Fr.nil n0
  show Go p e below s (⟨1, 0, 0, 18⟩ : Room).cells (⟨1, 0, 0, 18⟩ : Room).slots (QGb0 Z va kc_va v0 v1 v2 v3 v4 v5 v6 v7 v8 v9 v10 v11 v12 v13 v14 v15 h0 n0) (s₁.setTop (entryFrame m #[(.ref sg), (.ref va), (.int 0), (.int 0)] 4))
  rw [efGb0]
  obtain ⟨cq101, kq101, q101a, q101b, q101c⟩ := isOf hZ e0 E0_sg
  obtain ⟨_, _, ⟨T101, L101, k101, n101⟩, -, X101, ⟨Lc101, hQ101, l101, y101, z101⟩, st101⟩ := X0.virtualBack hx (y := (⟨"java/lang/String", "coder", "()B"⟩ : MethodName)) (z := (⟨"java/lang/String", "coder", "()B"⟩ : MethodName)) hown (mvT hZ (own_w hw 134 rfl)) (mvT hZ (own_w hw 135 rfl)) (notFace_of_selects (args := #[]) (mvT hZ (own_w hw 137 rfl))) (mvT hZ (own_w hw 137 rfl)) (mvT hZ (own_w hw 136 rfl)) (by decide) (backOf (W := 0) (rmCo l Z a0 hw [] sg cs h0 n0 Z0 E0_sg F0_sg_coder S0_COMPACT_STRINGS hcs) hZ (own_w hw 138 rfl) (own_w hw 7 rfl) (by decide) (by decide)) q101a q101c (g := (mkF m 1 #[.val (.ref sg), .val (.ref va), .val (.int 0), .val (.int 0)] [(.ref sg)])) rfl (by rw [hml]; rfl) (Steps.refl _) (argsL := []) (rest := []) (lenOf pdGb0_0 rfl) rfl (by show 2 * 0 + _ ≤ _; exact Nat.le_of_eq rfl) (hb hby dGb0_1) (fun _ _ => ⟨rfl, e0, (by decide : 0 + 0 ≤ _), (by decide : 0 + 0 ≤ _)⟩)
  dsimp only [Pt.U, Pt.locs, Pt.cells, Pt.slots] at X101 l101 y101 z101 st101 hQ101
  subst l101 y101 z101
  obtain ⟨rfl, N101q, eh101⟩ := hQ101
  have N101 := Fr.app N0 N101q
  obtain ⟨T102, X102, e102, st102⟩ := getF X101 hx hZ hown (host := "") (Or.inl (own_w hw 32 rfl)) Via.refl eh101 F0_sg_value (g := (mkF m 9 #[.val (.ref sg), .val (.ref va), .val (.int 0), .val (.int 0)] [(.ref sg)])) rfl rfl (hb hby dGb0_9)
  obtain ⟨T103, X103, e103, st103⟩ := getF X102 hx hZ hown (host := "") (Or.inl (own_w hw 32 rfl)) Via.refl e102 F0_sg_value (g := (mkF m 18 #[.val (.ref sg), .val (.ref va), .val (.int 0), .val (.int 0)] [(.ref sg), (.int 0), (.ref va), (.int 0), (.ref za)])) rfl rfl (hb hby dGb0_18)
  obtain ⟨cl_q104, Ar_q104, q1_q104, S_q104, N_q104, H_q104, G_q104⟩ := id V0_za
  obtain ⟨T105, h105, L105, X105, e105, N105, K105, V105, st105⟩ := cpA X103 hx hZ hown (own_w hw 160 rfl) (own_w hw 163 rfl) (own_w hw 161 rfl) (own_w hw 162 rfl) e103 V0_za V0_va (us := []) (Or.inl ⟨rfl, rfl⟩) (by decide) (by decide) (by decide) (by decide) (by decide) rfl (Nat.le_of_ble_eq_true rfl) N101 ge0_va (g := (mkF m 22 #[.val (.ref sg), .val (.ref va), .val (.int 0), .val (.int 0)] [(.int 0), (.int 0), (.ref va), (.int 0), (.ref za)])) rfl (by rw [hml]; rfl) rfl (hb hby dGb0_22) (by decide) (W := 0) (by show 2 * 0 + _ ≤ _; exact Nat.le_of_eq rfl) (by decide)
  have Vz105 : Arv Z h105 va kc_va .byte (16 : Int32) [(.int v0), (.int v1), (.int v2), (.int v3), (.int v4), (.int v5), (.int v6), (.int v7), (.int v8), (.int v9), (.int v10), (.int v11), (.int v12), (.int v13), (.int v14), (.int v15)] (.int 0) := V105
  have S106_COMPACT_STRINGS := own_stakeep S0_COMPACT_STRINGS K105 (allS (own_nsA V0_va) all0)
  have Z106 := Nat.le_trans Z0 K105.1
  have K106 : Keep h0 h105 [va] := Keep.trans (Keep.refl h0 [va]) K105 (allS (Or.inl (by simp)) all0)
  refine Go.by (fun _ kont => XS.aloadN X0.here hx rfl (hb hby dGb0_0) rfl rfl (st101.trans (XS.iloadN X101.here hx rfl (hb hby dGb0_4) rfl (XS.icmpNo X101.here hx rfl (hb hby dGb0_5) rfl (by decide) (XS.aloadN X101.here hx rfl (hb hby dGb0_8) rfl rfl (st102 _ (XS.iconst X102.here hx rfl (hb hby dGb0_12) (XS.aloadN X102.here hx rfl (hb hby dGb0_13) rfl rfl (XS.iloadN X102.here hx rfl (hb hby dGb0_14) rfl (XS.iloadN X102.here hx rfl (hb hby dGb0_15) rfl (XS.ishl X102.here hx rfl (hb hby dGb0_16) rfl (own_fI (show ((0 : Int32) <<< ((0 : Int32) &&& 31)) = (0 : Int32) from by decide) (XS.aloadN X102.here hx rfl (hb hby dGb0_17) rfl rfl (st103 _ (X103.arraylength hx (own_at e103 Ar_q104.1) (State.isArrayOf_alike hZ.alike Ar_q104.2.1) (g := (mkF m 21 #[.val (.ref sg), .val (.ref va), .val (.int 0), .val (.int 0)] [(.ref za), (.int 0), (.ref va), (.int 0), (.ref za)])) rfl rfl (hb hby dGb0_21) _ (own_fI (len_of S_q104 N_q104) (st105 _ (XS.goto X105.here hx rfl (pc0 := 25) (pc' := 43) rfl (hb hby dGb0_25) (by decide) (by decide) kont)))))))))))))))))) ?_
  show Go _ _ _ _ _ _ _ (T105.setTop (mkF m 43 #[.val (.ref sg), .val (.ref va), .val (.int 0), .val (.int 0)] []))
  refine Go.retV X105 hx hret hlk (hb hby dGb0_43) ?_ (by decide) (by decide)
  show QGb0 Z va kc_va v0 v1 v2 v3 v4 v5 v6 v7 v8 v9 v10 v11 v12 v13 v14 v15 h0 n0 none T105.heap _
  rw [e105]
  exact ⟨rfl, N105, K106, Vz105⟩

theorem dPs0_0 : decode jdk_68_method_73_code 0 = .ok (.aload_n 0, 1) := by decide +kernel
theorem dPs0_1 : decode jdk_68_method_73_code 1 = .ok (.aload_n 2, 1) := by decide +kernel
theorem dPs0_2 : decode jdk_68_method_73_code 2 = .ok (.invokevirtual 397, 3) := by decide +kernel
theorem dPs0_5 : decode jdk_68_method_73_code 5 = .ok (.aload_n 2, 1) := by decide +kernel
theorem dPs0_6 : decode jdk_68_method_73_code 6 = .ok (.aload_n 0, 1) := by decide +kernel
theorem dPs0_7 : decode jdk_68_method_73_code 7 = .ok (.getfield 15, 3) := by decide +kernel
theorem dPs0_10 : decode jdk_68_method_73_code 10 = .ok (.iload_n 1, 1) := by decide +kernel
theorem dPs0_11 : decode jdk_68_method_73_code 11 = .ok (.aload_n 0, 1) := by decide +kernel
theorem dPs0_12 : decode jdk_68_method_73_code 12 = .ok (.getfield 22, 3) := by decide +kernel
theorem dPs0_15 : decode jdk_68_method_73_code 15 = .ok (.invokevirtual 399, 3) := by decide +kernel
theorem dPs0_18 : decode jdk_68_method_73_code 18 = .ok (.return_, 1) := by decide +kernel
theorem pdPs0_0 : parseMethodDescriptor "(Ljava/lang/String;)V" = some ⟨[(.object "java/lang/String")], none⟩ := by decide +kernel
theorem pdPs0_1 : parseMethodDescriptor "([BIB)V" = some ⟨[(.array .byte), .int, .byte], none⟩ := by decide +kernel
theorem pnPs0 : plainName "java/lang/AbstractStringBuilder" = true := by first | (simp [plainName, overriddenIn]; done) | decide +kernel
theorem efPs0 (m : MethodId) (a : Addr) (sg : Addr) : entryFrame m #[(.ref a), (.int 0), (.ref sg)] 3 = mkF m 0 #[.val (.ref a), .val (.int 0), .val (.ref sg)] [] := by first | (simp [entryFrame, mkF, argsToLocals, Value.category]; done) | rfl
def QPs0 (Z : State) (va : Addr) (kc_va : ClassId) (v0 : Int32) (v1 : Int32) (v2 : Int32) (v3 : Int32) (v4 : Int32) (v5 : Int32) (v6 : Int32) (v7 : Int32) (v8 : Int32) (v9 : Int32) (v10 : Int32) (v11 : Int32) (v12 : Int32) (v13 : Int32) (v14 : Int32) (v15 : Int32) (h0 : Heap) (n0 : Nat) (v : Option Value) (h : Heap) (L : List Loc) : Prop := (v = none ∧ Fr n0 L ∧ Keep h0 h [va] ∧ Arv Z h va kc_va .byte (16 : Int32) [(.int v0), (.int v1), (.int v2), (.int v3), (.int v4), (.int v5), (.int v6), (.int v7), (.int v8), (.int v9), (.int v10), (.int v11), (.int v12), (.int v13), (.int v14), (.int v15)] (.int 0))
set_option maxRecDepth 65536 in
set_option maxHeartbeats 40000000 in
theorem rmPs0 (l : Launch) (Z : State) (a0 : Array Value) (hw : ∀ d ∈ tables_1, d.before a0 Z = true) (ws : List Jvm.Cond) (a : Addr) (sg : Addr) (va : Addr) (za : Addr) (kc_za : ClassId) (kc_va : ClassId) (v0 : Int32) (v1 : Int32) (v2 : Int32) (v3 : Int32) (v4 : Int32) (v5 : Int32) (v6 : Int32) (v7 : Int32) (v8 : Int32) (v9 : Int32) (v10 : Int32) (v11 : Int32) (v12 : Int32) (v13 : Int32) (v14 : Int32) (v15 : Int32) (cs : Int32) (h0 : Heap) (n0 : Nat) (Z0 : n0 ≤ h0.size) (E0_a : Exa Z h0 a "java/lang/StringBuilder") (F0_a_value : Fld Z h0 a "java/lang/AbstractStringBuilder" "value" "[B" (.ref va)) (F0_a_coder : Fld Z h0 a "java/lang/AbstractStringBuilder" "coder" "B" (.int 0)) (E0_sg : Exa Z h0 sg "java/lang/String") (F0_sg_coder : Fld Z h0 sg "java/lang/String" "coder" "B" (.int 0)) (F0_sg_value : Fld Z h0 sg "java/lang/String" "value" "[B" (.ref za)) (V0_za : Arv Z h0 za kc_za .byte (0 : Int32) [] (.int 0)) (V0_va : Arv Z h0 va kc_va .byte (16 : Int32) [(.int v0), (.int v1), (.int v2), (.int v3), (.int v4), (.int v5), (.int v6), (.int v7), (.int v8), (.int v9), (.int v10), (.int v11), (.int v12), (.int v13), (.int v14), (.int v15)] (.int 0)) (ne0_a_va : a ≠ va) (ne0_za_va : za ≠ va) (ne0_a_za : a ≠ za) (ne0_a_sg : a ≠ sg) (ne0_sg_va : sg ≠ va) (S0_COMPACT_STRINGS : Sta Z h0 "java/lang/String" "COMPACT_STRINGS" "Z" (.int cs)) (ge0_va : n0 ≤ va) (hcs : ¬ (cs = (0 : Int32))) :
    Ct l Z (⟨"java/lang/AbstractStringBuilder", "putStringAt", "(ILjava/lang/String;)V"⟩ : MethodName) jdk_68_method_73_code 3 none ws (⟨2, 0, 0, 33⟩ : Room) #[(.ref a), (.int 0), (.ref sg)] h0 (QPs0 Z va kc_va v0 v1 v2 v3 v4 v5 v6 v7 v8 v9 v10 v11 v12 v13 v14 v15 h0 n0) := by
  refine MetFree.of_bodySF (plainFor_of_name pnPs0) hisR ?_
  intro p e s m args below meth c s₁ Bd hml hP hK
  obtain ⟨rfl, hZ, hh⟩ := hP
  obtain ⟨hx, hby, hown, hnm, hlk, hret, X0, e0⟩ := own_st Bd "java/lang/AbstractStringBuilder" rfl hh
  have N0 := Fr.nil n0
  show Go p e below s (⟨2, 0, 0, 33⟩ : Room).cells (⟨2, 0, 0, 33⟩ : Room).slots (QPs0 Z va kc_va v0 v1 v2 v3 v4 v5 v6 v7 v8 v9 v10 v11 v12 v13 v14 v15 h0 n0) (s₁.setTop (entryFrame m #[(.ref a), (.int 0), (.ref sg)] 3))
  rw [efPs0]
  obtain ⟨cq101, q101, q101'⟩ := E0_a.cell
  obtain ⟨_, _, ⟨T101, L101, k101, n101⟩, -, X101, ⟨Lc101, hQ101, l101, y101, z101⟩, st101⟩ := X0.privateBack hx (y := (⟨"java/lang/AbstractStringBuilder", "inflateIfNeededFor", "(Ljava/lang/String;)V"⟩ : MethodName)) hown (mvT hZ (own_w hw 149 rfl)) (mvT hZ (own_w hw 150 rfl)) (own_selp2 hZ (own_w hw 152 rfl) (own_w hw 151 rfl) (own_w hw 150 rfl) (by decide)) (Cond.privateMethod_at (mvP hZ (own_w hw 151 rfl) (args := #[]))) (mvT hZ (own_w hw 153 rfl)) (by decide) (backOf (W := 0) (rmIn l Z a0 hw [] a sg cs h0 n0 Z0 E0_a F0_a_coder E0_sg F0_sg_coder S0_COMPACT_STRINGS hcs) hZ (own_w hw 153 rfl) (own_w hw 71 rfl) (by decide) (by decide)) (g := (mkF m 2 #[.val (.ref a), .val (.int 0), .val (.ref sg)] [(.ref sg), (.ref a)])) rfl (by rw [hml]; rfl) (Steps.refl _) (a := a) (by rw [e0]; exact q101) q101' (argsL := [(.ref sg)]) (rest := []) (lenOf pdPs0_0 rfl) rfl (by show 2 * 0 + _ ≤ _; exact Nat.le_of_eq rfl) (hb hby dPs0_2) (fun _ _ => ⟨rfl, e0, (by decide : 0 + 0 ≤ _), (by decide : 0 + 0 ≤ _)⟩)
  dsimp only [Pt.U, Pt.locs, Pt.cells, Pt.slots] at X101 l101 y101 z101 st101 hQ101
  subst l101 y101 z101
  obtain ⟨rfl, N101q, eh101⟩ := hQ101
  have N101 := Fr.app N0 N101q
  obtain ⟨T102, X102, e102, st102⟩ := getF X101 hx hZ hown (host := "") (Or.inl (own_w hw 75 rfl)) Via.refl eh101 F0_a_value (g := (mkF m 7 #[.val (.ref a), .val (.int 0), .val (.ref sg)] [(.ref a), (.ref sg)])) rfl rfl (hb hby dPs0_7)
  obtain ⟨T103, X103, e103, st103⟩ := getF X102 hx hZ hown (host := "") (Or.inl (own_w hw 77 rfl)) Via.refl e102 F0_a_coder (g := (mkF m 12 #[.val (.ref a), .val (.int 0), .val (.ref sg)] [(.ref a), (.int 0), (.ref va), (.ref sg)])) rfl rfl (hb hby dPs0_12)
  obtain ⟨cq104, kq104, q104a, q104b, q104c⟩ := isOf hZ e103 E0_sg
  obtain ⟨_, _, ⟨T104, L104, k104, n104⟩, -, X104, ⟨Lc104, hQ104, l104, y104, z104⟩, st104⟩ := X103.virtualBack hx (y := (⟨"java/lang/String", "getBytes", "([BIB)V"⟩ : MethodName)) (z := (⟨"java/lang/String", "getBytes", "([BIB)V"⟩ : MethodName)) hown (mvT hZ (own_w hw 155 rfl)) (mvT hZ (own_w hw 156 rfl)) (notFace_of_selects (args := #[]) (mvT hZ (own_w hw 158 rfl))) (mvT hZ (own_w hw 158 rfl)) (mvT hZ (own_w hw 157 rfl)) (by decide) (backOf (W := 0) (rmGb0 l Z a0 hw [] sg va za kc_za kc_va v0 v1 v2 v3 v4 v5 v6 v7 v8 v9 v10 v11 v12 v13 v14 v15 cs h0 n0 Z0 E0_sg F0_sg_coder F0_sg_value V0_za V0_va ne0_za_va ne0_sg_va S0_COMPACT_STRINGS ge0_va hcs) hZ (own_w hw 159 rfl) (own_w hw 7 rfl) (by decide) (by decide)) q104a q104c (g := (mkF m 15 #[.val (.ref a), .val (.int 0), .val (.ref sg)] [(.int 0), (.int 0), (.ref va), (.ref sg)])) rfl (by rw [hml]; rfl) (Steps.refl _) (argsL := [(.ref va), (.int 0), (.int 0)]) (rest := []) (lenOf pdPs0_1 rfl) rfl (by show 2 * 0 + _ ≤ _; exact Nat.le_of_eq rfl) (hb hby dPs0_15) (fun _ _ => ⟨rfl, e103, (by decide : 0 + 0 ≤ _), (by decide : 0 + 0 ≤ _)⟩)
  dsimp only [Pt.U, Pt.locs, Pt.cells, Pt.slots] at X104 l104 y104 z104 st104 hQ104
  subst l104 y104 z104
  obtain ⟨rfl, N104q, K104, g104_0⟩ := hQ104
  have S105_COMPACT_STRINGS := own_stakeep S0_COMPACT_STRINGS K104 (allS (own_nsA V0_va) all0)
  have Z105 := Nat.le_trans Z0 K104.1
  have K105 : Keep h0 T104.heap [va] := Keep.trans (Keep.refl h0 [va]) K104 (allS (Or.inl (by simp)) all0)
  have N104 := Fr.app N101 N104q
  refine Go.by (fun _ kont => XS.aloadN X0.here hx rfl (hb hby dPs0_0) rfl rfl (XS.aloadN X0.here hx rfl (hb hby dPs0_1) rfl rfl (st101.trans (XS.aloadN X101.here hx rfl (hb hby dPs0_5) rfl rfl (XS.aloadN X101.here hx rfl (hb hby dPs0_6) rfl rfl (st102 _ (XS.iloadN X102.here hx rfl (hb hby dPs0_10) rfl (XS.aloadN X102.here hx rfl (hb hby dPs0_11) rfl rfl (st103 _ (st104.trans kont)))))))))) ?_
  show Go _ _ _ _ _ _ _ (T104.setTop (mkF m 18 #[.val (.ref a), .val (.int 0), .val (.ref sg)] []))
  refine Go.retV X104 hx hret hlk (hb hby dPs0_18) ?_ (by decide) (by decide)
  show QPs0 Z va kc_va v0 v1 v2 v3 v4 v5 v6 v7 v8 v9 v10 v11 v12 v13 v14 v15 h0 n0 none T104.heap _
  exact ⟨rfl, N104, K105, g104_0⟩

theorem dAa0_0 : decode jdk_68_method_22_code 0 = .ok (.aload_n 1, 1) := by decide +kernel
theorem dAa0_1 : decode jdk_68_method_22_code 1 = .ok (.ifnonnull 8, 3) := by decide +kernel
theorem dAa0_9 : decode jdk_68_method_22_code 9 = .ok (.aload_n 1, 1) := by decide +kernel
theorem dAa0_10 : decode jdk_68_method_22_code 10 = .ok (.invokevirtual 32, 3) := by decide +kernel
theorem dAa0_13 : decode jdk_68_method_22_code 13 = .ok (.istore_n 2, 1) := by decide +kernel
theorem dAa0_14 : decode jdk_68_method_22_code 14 = .ok (.aload_n 0, 1) := by decide +kernel
theorem dAa0_15 : decode jdk_68_method_22_code 15 = .ok (.aload_n 0, 1) := by decide +kernel
theorem dAa0_16 : decode jdk_68_method_22_code 16 = .ok (.getfield 79, 3) := by decide +kernel
theorem dAa0_19 : decode jdk_68_method_22_code 19 = .ok (.iload_n 2, 1) := by decide +kernel
theorem dAa0_20 : decode jdk_68_method_22_code 20 = .ok (.iadd, 1) := by decide +kernel
theorem dAa0_21 : decode jdk_68_method_22_code 21 = .ok (.invokevirtual 100, 3) := by decide +kernel
theorem dAa0_24 : decode jdk_68_method_22_code 24 = .ok (.aload_n 0, 1) := by decide +kernel
theorem dAa0_25 : decode jdk_68_method_22_code 25 = .ok (.aload_n 0, 1) := by decide +kernel
theorem dAa0_26 : decode jdk_68_method_22_code 26 = .ok (.getfield 79, 3) := by decide +kernel
theorem dAa0_29 : decode jdk_68_method_22_code 29 = .ok (.aload_n 1, 1) := by decide +kernel
theorem dAa0_30 : decode jdk_68_method_22_code 30 = .ok (.invokevirtual 208, 3) := by decide +kernel
theorem dAa0_33 : decode jdk_68_method_22_code 33 = .ok (.aload_n 0, 1) := by decide +kernel
theorem dAa0_34 : decode jdk_68_method_22_code 34 = .ok (.dup, 1) := by decide +kernel
theorem dAa0_35 : decode jdk_68_method_22_code 35 = .ok (.getfield 79, 3) := by decide +kernel
theorem dAa0_38 : decode jdk_68_method_22_code 38 = .ok (.iload_n 2, 1) := by decide +kernel
theorem dAa0_39 : decode jdk_68_method_22_code 39 = .ok (.iadd, 1) := by decide +kernel
theorem dAa0_40 : decode jdk_68_method_22_code 40 = .ok (.putfield 79, 3) := by decide +kernel
theorem dAa0_43 : decode jdk_68_method_22_code 43 = .ok (.aload_n 0, 1) := by decide +kernel
theorem dAa0_44 : decode jdk_68_method_22_code 44 = .ok (.areturn, 1) := by decide +kernel
theorem pdAa0_0 : parseMethodDescriptor "()I" = some ⟨[], some .int⟩ := by decide +kernel
theorem pdAa0_1 : parseMethodDescriptor "(I)V" = some ⟨[.int], none⟩ := by decide +kernel
theorem pdAa0_2 : parseMethodDescriptor "(ILjava/lang/String;)V" = some ⟨[.int, (.object "java/lang/String")], none⟩ := by decide +kernel
theorem pnAa0 : plainName "java/lang/AbstractStringBuilder" = true := by first | (simp [plainName, overriddenIn]; done) | decide +kernel
theorem efAa0 (m : MethodId) (a : Addr) (sg : Addr) : entryFrame m #[(.ref a), (.ref sg)] 3 = mkF m 0 #[.val (.ref a), .val (.ref sg), .unset] [] := by first | (simp [entryFrame, mkF, argsToLocals, Value.category]; done) | rfl
def QAa0 (Z : State) (a : Addr) (va : Addr) (kc_va : ClassId) (v0 : Int32) (v1 : Int32) (v2 : Int32) (v3 : Int32) (v4 : Int32) (v5 : Int32) (v6 : Int32) (v7 : Int32) (v8 : Int32) (v9 : Int32) (v10 : Int32) (v11 : Int32) (v12 : Int32) (v13 : Int32) (v14 : Int32) (v15 : Int32) (h0 : Heap) (n0 : Nat) (v : Option Value) (h : Heap) (L : List Loc) : Prop := (v = some (.ref a) ∧ Fr n0 L ∧ Keep h0 h [a, va] ∧ Exa Z h a "java/lang/StringBuilder" ∧ Fld Z h a "java/lang/AbstractStringBuilder" "value" "[B" (.ref va) ∧ Fld Z h a "java/lang/AbstractStringBuilder" "coder" "B" (.int 0) ∧ Fld Z h a "java/lang/AbstractStringBuilder" "count" "I" (.int 0) ∧ Arv Z h va kc_va .byte (16 : Int32) [(.int v0), (.int v1), (.int v2), (.int v3), (.int v4), (.int v5), (.int v6), (.int v7), (.int v8), (.int v9), (.int v10), (.int v11), (.int v12), (.int v13), (.int v14), (.int v15)] (.int 0))
set_option maxRecDepth 65536 in
set_option maxHeartbeats 40000000 in
theorem rmAa0 (l : Launch) (Z : State) (a0 : Array Value) (hw : ∀ d ∈ tables_1, d.before a0 Z = true) (ws : List Jvm.Cond) (a : Addr) (sg : Addr) (va : Addr) (za : Addr) (kc_za : ClassId) (kc_va : ClassId) (v0 : Int32) (v1 : Int32) (v2 : Int32) (v3 : Int32) (v4 : Int32) (v5 : Int32) (v6 : Int32) (v7 : Int32) (v8 : Int32) (v9 : Int32) (v10 : Int32) (v11 : Int32) (v12 : Int32) (v13 : Int32) (v14 : Int32) (v15 : Int32) (cs : Int32) (h0 : Heap) (n0 : Nat) (Z0 : n0 ≤ h0.size) (E0_a : Exa Z h0 a "java/lang/StringBuilder") (F0_a_value : Fld Z h0 a "java/lang/AbstractStringBuilder" "value" "[B" (.ref va)) (F0_a_coder : Fld Z h0 a "java/lang/AbstractStringBuilder" "coder" "B" (.int 0)) (F0_a_count : Fld Z h0 a "java/lang/AbstractStringBuilder" "count" "I" (.int 0)) (E0_sg : Exa Z h0 sg "java/lang/String") (F0_sg_coder : Fld Z h0 sg "java/lang/String" "coder" "B" (.int 0)) (F0_sg_value : Fld Z h0 sg "java/lang/String" "value" "[B" (.ref za)) (V0_za : Arv Z h0 za kc_za .byte (0 : Int32) [] (.int 0)) (V0_va : Arv Z h0 va kc_va .byte (16 : Int32) [(.int v0), (.int v1), (.int v2), (.int v3), (.int v4), (.int v5), (.int v6), (.int v7), (.int v8), (.int v9), (.int v10), (.int v11), (.int v12), (.int v13), (.int v14), (.int v15)] (.int 0)) (ne0_a_va : a ≠ va) (ne0_za_va : za ≠ va) (ne0_a_za : a ≠ za) (ne0_a_sg : a ≠ sg) (ne0_sg_va : sg ≠ va) (S0_COMPACT_STRINGS : Sta Z h0 "java/lang/String" "COMPACT_STRINGS" "Z" (.int cs)) (ge0_a : n0 ≤ a) (ge0_va : n0 ≤ va) (hcs : ¬ (cs = (0 : Int32))) :
    Ct l Z (⟨"java/lang/AbstractStringBuilder", "append", "(Ljava/lang/String;)Ljava/lang/AbstractStringBuilder;"⟩ : MethodName) jdk_68_method_22_code 3 (some (.object "java/lang/AbstractStringBuilder")) ws (⟨3, 0, 0, 47⟩ : Room) #[(.ref a), (.ref sg)] h0 (QAa0 Z a va kc_va v0 v1 v2 v3 v4 v5 v6 v7 v8 v9 v10 v11 v12 v13 v14 v15 h0 n0) := by
  refine MetFree.of_bodySF (plainFor_of_name pnAa0) hisR ?_
  intro p e s m args below meth c s₁ Bd hml hP hK
  obtain ⟨rfl, hZ, hh⟩ := hP
  obtain ⟨hx, hby, hown, hnm, hlk, hret, X0, e0⟩ := own_st Bd "java/lang/AbstractStringBuilder" rfl hh
  have N0 := Fr.nil n0
  show Go p e below s (⟨3, 0, 0, 47⟩ : Room).cells (⟨3, 0, 0, 47⟩ : Room).slots (QAa0 Z a va kc_va v0 v1 v2 v3 v4 v5 v6 v7 v8 v9 v10 v11 v12 v13 v14 v15 h0 n0) (s₁.setTop (entryFrame m #[(.ref a), (.ref sg)] 3))
  rw [efAa0]
  obtain ⟨cq101, kq101, q101a, q101b, q101c⟩ := isOf hZ e0 E0_sg
  obtain ⟨_, _, ⟨T101, L101, k101, n101⟩, -, X101, ⟨Lc101, hQ101, l101, y101, z101⟩, st101⟩ := X0.virtualBack hx (y := (⟨"java/lang/String", "length", "()I"⟩ : MethodName)) (z := (⟨"java/lang/String", "length", "()I"⟩ : MethodName)) hown (mvT hZ (own_w hw 129 rfl)) (mvT hZ (own_w hw 130 rfl)) (notFace_of_selects (args := #[]) (mvT hZ (own_w hw 132 rfl))) (mvT hZ (own_w hw 132 rfl)) (mvT hZ (own_w hw 131 rfl)) (by decide) (backOf (W := 0) (rmSl0 l Z a0 hw [] sg za kc_za cs h0 n0 Z0 E0_sg F0_sg_coder F0_sg_value V0_za S0_COMPACT_STRINGS hcs) hZ (own_w hw 133 rfl) (own_w hw 7 rfl) (by decide) (by decide)) q101a q101c (g := (mkF m 10 #[.val (.ref a), .val (.ref sg), .unset] [(.ref sg)])) rfl (by rw [hml]; rfl) (Steps.refl _) (argsL := []) (rest := []) (lenOf pdAa0_0 rfl) rfl (by show 2 * 0 + _ ≤ _; exact Nat.le_of_eq rfl) (hb hby dAa0_10) (fun _ _ => ⟨rfl, e0, (by decide : 0 + 0 ≤ _), (by decide : 0 + 0 ≤ _)⟩)
  dsimp only [Pt.U, Pt.locs, Pt.cells, Pt.slots] at X101 l101 y101 z101 st101 hQ101
  subst l101 y101 z101
  obtain ⟨rfl, N101q, eh101⟩ := hQ101
  have N101 := Fr.app N0 N101q
  obtain ⟨T102, X102, e102, st102⟩ := getF X101 hx hZ hown (host := "") (Or.inl (own_w hw 117 rfl)) Via.refl eh101 F0_a_count (g := (mkF m 16 #[.val (.ref a), .val (.ref sg), .val (.int 0)] [(.ref a), (.ref a)])) rfl rfl (hb hby dAa0_16)
  obtain ⟨cq103, q103, q103'⟩ := E0_a.cell
  obtain ⟨_, _, ⟨T103, L103, k103, n103⟩, -, X103, ⟨Lc103, hQ103, l103, y103, z103⟩, st103⟩ := X102.privateBack hx (y := (⟨"java/lang/AbstractStringBuilder", "ensureCapacityInternal", "(I)V"⟩ : MethodName)) hown (mvT hZ (own_w hw 139 rfl)) (mvT hZ (own_w hw 140 rfl)) (own_selp2 hZ (own_w hw 142 rfl) (own_w hw 141 rfl) (own_w hw 140 rfl) (by decide)) (Cond.privateMethod_at (mvP hZ (own_w hw 141 rfl) (args := #[]))) (mvT hZ (own_w hw 143 rfl)) (by decide) (backOf (W := 0) (rmEc0 l Z a0 hw [] a va kc_va v0 v1 v2 v3 v4 v5 v6 v7 v8 v9 v10 v11 v12 v13 v14 v15 h0 n0 Z0 E0_a F0_a_value F0_a_coder V0_va) hZ (own_w hw 143 rfl) (own_w hw 71 rfl) (by decide) (by decide)) (g := (mkF m 21 #[.val (.ref a), .val (.ref sg), .val (.int 0)] [(.int 0), (.ref a)])) rfl (by rw [hml]; rfl) (Steps.refl _) (a := a) (by rw [e102]; exact q103) q103' (argsL := [(.int 0)]) (rest := []) (lenOf pdAa0_1 rfl) rfl (by show 2 * 0 + _ ≤ _; exact Nat.le_of_eq rfl) (hb hby dAa0_21) (fun _ _ => ⟨rfl, e102, (by decide : 0 + 0 ≤ _), (by decide : 0 + 0 ≤ _)⟩)
  dsimp only [Pt.U, Pt.locs, Pt.cells, Pt.slots] at X103 l103 y103 z103 st103 hQ103
  subst l103 y103 z103
  obtain ⟨rfl, N103q, eh103⟩ := hQ103
  have N103 := Fr.app N101 N103q
  obtain ⟨T104, X104, e104, st104⟩ := getF X103 hx hZ hown (host := "") (Or.inl (own_w hw 117 rfl)) Via.refl eh103 F0_a_count (g := (mkF m 26 #[.val (.ref a), .val (.ref sg), .val (.int 0)] [(.ref a), (.ref a)])) rfl rfl (hb hby dAa0_26)
  obtain ⟨cq105, q105, q105'⟩ := E0_a.cell
  obtain ⟨_, _, ⟨T105, L105, k105, n105⟩, -, X105, ⟨Lc105, hQ105, l105, y105, z105⟩, st105⟩ := X104.privateBack hx (y := (⟨"java/lang/AbstractStringBuilder", "putStringAt", "(ILjava/lang/String;)V"⟩ : MethodName)) hown (mvT hZ (own_w hw 144 rfl)) (mvT hZ (own_w hw 145 rfl)) (own_selp2 hZ (own_w hw 147 rfl) (own_w hw 146 rfl) (own_w hw 145 rfl) (by decide)) (Cond.privateMethod_at (mvP hZ (own_w hw 146 rfl) (args := #[]))) (mvT hZ (own_w hw 148 rfl)) (by decide) (backOf (W := 0) (rmPs0 l Z a0 hw [] a sg va za kc_za kc_va v0 v1 v2 v3 v4 v5 v6 v7 v8 v9 v10 v11 v12 v13 v14 v15 cs h0 n0 Z0 E0_a F0_a_value F0_a_coder E0_sg F0_sg_coder F0_sg_value V0_za V0_va ne0_a_va ne0_za_va ne0_a_za ne0_a_sg ne0_sg_va S0_COMPACT_STRINGS ge0_va hcs) hZ (own_w hw 148 rfl) (own_w hw 71 rfl) (by decide) (by decide)) (g := (mkF m 30 #[.val (.ref a), .val (.ref sg), .val (.int 0)] [(.ref sg), (.int 0), (.ref a)])) rfl (by rw [hml]; rfl) (Steps.refl _) (a := a) (by rw [e104]; exact q105) q105' (argsL := [(.int 0), (.ref sg)]) (rest := []) (lenOf pdAa0_2 rfl) rfl (by show 2 * 0 + _ ≤ _; exact Nat.le_of_eq rfl) (hb hby dAa0_30) (fun _ _ => ⟨rfl, e104, (by decide : 0 + 0 ≤ _), (by decide : 0 + 0 ≤ _)⟩)
  dsimp only [Pt.U, Pt.locs, Pt.cells, Pt.slots] at X105 l105 y105 z105 st105 hQ105
  subst l105 y105 z105
  obtain ⟨rfl, N105q, K105, g105_0⟩ := hQ105
  have S106_COMPACT_STRINGS := own_stakeep S0_COMPACT_STRINGS K105 (allS (own_nsA V0_va) all0)
  have F106_value_a := F0_a_value.keep K105 (ninS ne0_a_va nin0)
  have F106_coder_a := F0_a_coder.keep K105 (ninS ne0_a_va nin0)
  have F106_count_a := F0_a_count.keep K105 (ninS ne0_a_va nin0)
  have Z106 := Nat.le_trans Z0 K105.1
  have K106 : Keep h0 T105.heap [a, va] := Keep.trans (Keep.refl h0 [a, va]) K105 (allS (Or.inl (by simp)) all0)
  have N105 := Fr.app N103 N105q
  obtain ⟨T107, X107, e107, st107⟩ := getF X105 hx hZ hown (host := "") (Or.inl (own_w hw 117 rfl)) Via.refl rfl F106_count_a (g := (mkF m 35 #[.val (.ref a), .val (.ref sg), .val (.int 0)] [(.ref a), (.ref a)])) rfl rfl (hb hby dAa0_35)
  obtain ⟨T108, h108, X108, e108, W108, st108⟩ := putF X107 hx hZ hown (host := "") (Or.inl (own_w hw 117 rfl)) Via.refl e107 F106_count_a (E0_a.keep K106) (Or.inl (own_w hw 118 rfl)) (own_w hw 62 rfl) (ty := .int) (by decide) rfl rfl (g := (mkF m 40 #[.val (.ref a), .val (.ref sg), .val (.int 0)] [(.int 0), (.ref a)])) rfl rfl (hb hby dAa0_40)
  have Fw108 := F106_count_a.same W108
  have F109_value_a := F106_value_a.other W108 (Or.inr (slot_ne (Or.inl (own_w hw 76 rfl)) (Or.inl (own_w hw 118 rfl)) (by decide) (t := (.array .byte)) (t' := .int) (by decide) (by decide)))
  have F109_coder_a := F106_coder_a.other W108 (Or.inr (slot_ne (Or.inl (own_w hw 78 rfl)) (Or.inl (own_w hw 118 rfl)) (by decide) (t := .byte) (t' := .int) (by decide) (by decide)))
  have V109_va := g105_0.other W108 (Ne.symm ne0_a_va)
  have S109_COMPACT_STRINGS := S106_COMPACT_STRINGS.wr W108
  have Z109 := Nat.le_trans Z106 (Keep.of_wr W108).1
  have K109 : Keep h0 h108 [a, va] := K106.wr W108 (Or.inl (by simp))
  have N108 := Fr.snoc X108 N105 ge0_a
  refine Go.by (fun _ kont => XS.aloadN X0.here hx rfl (hb hby dAa0_0) rfl rfl (XS.ifnonnullYes X0.here hx rfl (pc0 := 1) (pc' := 9) rfl (hb hby dAa0_1) rfl (by decide) (by decide) (XS.aloadN X0.here hx rfl (hb hby dAa0_9) rfl rfl (st101.trans (XS.istoreN X101.here hx rfl (hb hby dAa0_13) rfl (l' := #[.val (.ref a), .val (.ref sg), .val (.int 0)]) rfl (XS.aloadN X101.here hx rfl (hb hby dAa0_14) rfl rfl (XS.aloadN X101.here hx rfl (hb hby dAa0_15) rfl rfl (st102 _ (XS.iloadN X102.here hx rfl (hb hby dAa0_19) rfl (XS.iadd X102.here hx rfl (hb hby dAa0_20) rfl (own_fI (show ((0 : Int32) + (0 : Int32)) = (0 : Int32) from by decide) (st103.trans (XS.aloadN X103.here hx rfl (hb hby dAa0_24) rfl rfl (XS.aloadN X103.here hx rfl (hb hby dAa0_25) rfl rfl (st104 _ (XS.aloadN X104.here hx rfl (hb hby dAa0_29) rfl rfl (st105.trans (XS.aloadN X105.here hx rfl (hb hby dAa0_33) rfl rfl (XS.dup X105.here hx rfl (hb hby dAa0_34) rfl rfl (st107 _ (XS.iloadN X107.here hx rfl (hb hby dAa0_38) rfl (XS.iadd X107.here hx rfl (hb hby dAa0_39) rfl (own_fI (show ((0 : Int32) + (0 : Int32)) = (0 : Int32) from by decide) (st108 _ (XS.aloadN X108.here hx rfl (hb hby dAa0_43) rfl rfl kont))))))))))))))))))))))))) ?_
  show Go _ _ _ _ _ _ _ (T108.setTop (mkF m 44 #[.val (.ref a), .val (.ref sg), .val (.int 0)] [(.ref a)]))
  refine Go.retR X108 hx hret rfl rfl hlk (hb hby dAa0_44) ?_ (by decide) (by decide)
  show QAa0 Z a va kc_va v0 v1 v2 v3 v4 v5 v6 v7 v8 v9 v10 v11 v12 v13 v14 v15 h0 n0 (some (.ref a)) T108.heap _
  rw [e108]
  exact ⟨rfl, N108, K109, (E0_a.keep K109), F109_value_a, F109_coder_a, Fw108, V109_va⟩

theorem dBa0_0 : decode jdk_67_method_7_code 0 = .ok (.aload_n 0, 1) := by decide +kernel
theorem dBa0_1 : decode jdk_67_method_7_code 1 = .ok (.aload_n 1, 1) := by decide +kernel
theorem dBa0_2 : decode jdk_67_method_7_code 2 = .ok (.invokespecial 29, 3) := by decide +kernel
theorem dBa0_5 : decode jdk_67_method_7_code 5 = .ok (.pop, 1) := by decide +kernel
theorem dBa0_6 : decode jdk_67_method_7_code 6 = .ok (.aload_n 0, 1) := by decide +kernel
theorem dBa0_7 : decode jdk_67_method_7_code 7 = .ok (.areturn, 1) := by decide +kernel
theorem pdBa0_0 : parseMethodDescriptor "(Ljava/lang/String;)Ljava/lang/AbstractStringBuilder;" = some ⟨[(.object "java/lang/String")], some (.object "java/lang/AbstractStringBuilder")⟩ := by decide +kernel
theorem pnBa0 : plainName "java/lang/StringBuilder" = true := by first | (simp [plainName, overriddenIn]; done) | decide +kernel
theorem efBa0 (m : MethodId) (a : Addr) (sg : Addr) : entryFrame m #[(.ref a), (.ref sg)] 2 = mkF m 0 #[.val (.ref a), .val (.ref sg)] [] := by first | (simp [entryFrame, mkF, argsToLocals, Value.category]; done) | rfl
def QBa0 (Z : State) (a : Addr) (va : Addr) (kc_va : ClassId) (v0 : Int32) (v1 : Int32) (v2 : Int32) (v3 : Int32) (v4 : Int32) (v5 : Int32) (v6 : Int32) (v7 : Int32) (v8 : Int32) (v9 : Int32) (v10 : Int32) (v11 : Int32) (v12 : Int32) (v13 : Int32) (v14 : Int32) (v15 : Int32) (h0 : Heap) (n0 : Nat) (v : Option Value) (h : Heap) (L : List Loc) : Prop := (v = some (.ref a) ∧ Fr n0 L ∧ Keep h0 h [a, va] ∧ Exa Z h a "java/lang/StringBuilder" ∧ Fld Z h a "java/lang/AbstractStringBuilder" "value" "[B" (.ref va) ∧ Fld Z h a "java/lang/AbstractStringBuilder" "coder" "B" (.int 0) ∧ Fld Z h a "java/lang/AbstractStringBuilder" "count" "I" (.int 0) ∧ Arv Z h va kc_va .byte (16 : Int32) [(.int v0), (.int v1), (.int v2), (.int v3), (.int v4), (.int v5), (.int v6), (.int v7), (.int v8), (.int v9), (.int v10), (.int v11), (.int v12), (.int v13), (.int v14), (.int v15)] (.int 0))
set_option maxRecDepth 65536 in
set_option maxHeartbeats 40000000 in
theorem rmBa0 (l : Launch) (Z : State) (a0 : Array Value) (hw : ∀ d ∈ tables_1, d.before a0 Z = true) (ws : List Jvm.Cond) (a : Addr) (sg : Addr) (va : Addr) (za : Addr) (kc_za : ClassId) (kc_va : ClassId) (v0 : Int32) (v1 : Int32) (v2 : Int32) (v3 : Int32) (v4 : Int32) (v5 : Int32) (v6 : Int32) (v7 : Int32) (v8 : Int32) (v9 : Int32) (v10 : Int32) (v11 : Int32) (v12 : Int32) (v13 : Int32) (v14 : Int32) (v15 : Int32) (cs : Int32) (h0 : Heap) (n0 : Nat) (Z0 : n0 ≤ h0.size) (E0_a : Exa Z h0 a "java/lang/StringBuilder") (F0_a_value : Fld Z h0 a "java/lang/AbstractStringBuilder" "value" "[B" (.ref va)) (F0_a_coder : Fld Z h0 a "java/lang/AbstractStringBuilder" "coder" "B" (.int 0)) (F0_a_count : Fld Z h0 a "java/lang/AbstractStringBuilder" "count" "I" (.int 0)) (E0_sg : Exa Z h0 sg "java/lang/String") (F0_sg_coder : Fld Z h0 sg "java/lang/String" "coder" "B" (.int 0)) (F0_sg_value : Fld Z h0 sg "java/lang/String" "value" "[B" (.ref za)) (V0_za : Arv Z h0 za kc_za .byte (0 : Int32) [] (.int 0)) (V0_va : Arv Z h0 va kc_va .byte (16 : Int32) [(.int v0), (.int v1), (.int v2), (.int v3), (.int v4), (.int v5), (.int v6), (.int v7), (.int v8), (.int v9), (.int v10), (.int v11), (.int v12), (.int v13), (.int v14), (.int v15)] (.int 0)) (ne0_a_va : a ≠ va) (ne0_za_va : za ≠ va) (ne0_a_za : a ≠ za) (ne0_a_sg : a ≠ sg) (ne0_sg_va : sg ≠ va) (S0_COMPACT_STRINGS : Sta Z h0 "java/lang/String" "COMPACT_STRINGS" "Z" (.int cs)) (ge0_a : n0 ≤ a) (ge0_va : n0 ≤ va) (hcs : ¬ (cs = (0 : Int32))) :
    Ct l Z (⟨"java/lang/StringBuilder", "append", "(Ljava/lang/String;)Ljava/lang/StringBuilder;"⟩ : MethodName) jdk_67_method_7_code 2 (some (.object "java/lang/StringBuilder")) ws (⟨4, 0, 0, 61⟩ : Room) #[(.ref a), (.ref sg)] h0 (QBa0 Z a va kc_va v0 v1 v2 v3 v4 v5 v6 v7 v8 v9 v10 v11 v12 v13 v14 v15 h0 n0) := by
  refine MetFree.of_bodySF (plainFor_of_name pnBa0) hisR ?_
  intro p e s m args below meth c s₁ Bd hml hP hK
  obtain ⟨rfl, hZ, hh⟩ := hP
  obtain ⟨hx, hby, hown, hnm, hlk, hret, X0, e0⟩ := own_st Bd "java/lang/StringBuilder" rfl hh
  have N0 := Fr.nil n0
  show Go p e below s (⟨4, 0, 0, 61⟩ : Room).cells (⟨4, 0, 0, 61⟩ : Room).slots (QBa0 Z a va kc_va v0 v1 v2 v3 v4 v5 v6 v7 v8 v9 v10 v11 v12 v13 v14 v15 h0 n0) (s₁.setTop (entryFrame m #[(.ref a), (.ref sg)] 2))
  rw [efBa0]
  obtain ⟨_, _, ⟨T101, L101, k101, n101⟩, -, X101, ⟨Lc101, hQ101, l101, y101, z101⟩, st101⟩ := superBack X0 hx hZ (y := (⟨"java/lang/AbstractStringBuilder", "append", "(Ljava/lang/String;)Ljava/lang/AbstractStringBuilder;"⟩ : MethodName)) hown (own_w hw 125 rfl) (own_same (own_w hw 142 rfl) (own_w hw 140 rfl) (own_w hw 126 rfl) rfl (by decide)) (own_w hw 126 rfl) (own_w hw 114 rfl) (by decide) (backOf (W := 0) (rmAa0 l Z a0 hw [] a sg va za kc_za kc_va v0 v1 v2 v3 v4 v5 v6 v7 v8 v9 v10 v11 v12 v13 v14 v15 cs h0 n0 Z0 E0_a F0_a_value F0_a_coder F0_a_count E0_sg F0_sg_coder F0_sg_value V0_za V0_va ne0_a_va ne0_za_va ne0_a_za ne0_a_sg ne0_sg_va S0_COMPACT_STRINGS ge0_a ge0_va hcs) hZ (own_w hw 128 rfl) (own_w hw 71 rfl) (by decide) (by decide)) e0 (Ins.self E0_a) (g := (mkF m 2 #[.val (.ref a), .val (.ref sg)] [(.ref sg), (.ref a)])) rfl (by rw [hml]; rfl) (own_w hw 128 rfl) (argsL := [(.ref sg)]) (rest := []) (lenOf pdBa0_0 rfl) rfl (by show 2 * 0 + _ ≤ _; exact Nat.le_of_eq rfl) (hb hby dBa0_2) (fun _ _ => ⟨rfl, e0, (by decide : 0 + 0 ≤ _), (by decide : 0 + 0 ≤ _)⟩)
  dsimp only [Pt.U, Pt.locs, Pt.cells, Pt.slots] at X101 l101 y101 z101 st101 hQ101
  subst l101 y101 z101
  obtain ⟨rfl, N101q, K101, g101_0, g101_1, g101_2, g101_3, g101_4⟩ := hQ101
  have S102_COMPACT_STRINGS := own_stakeep S0_COMPACT_STRINGS K101 (allS (own_ns E0_a) (allS (own_nsA V0_va) all0))
  have Z102 := Nat.le_trans Z0 K101.1
  have K102 : Keep h0 T101.heap [a, va] := Keep.trans (Keep.refl h0 [a, va]) K101 (allS (Or.inl (by simp)) (allS (Or.inl (by simp)) all0))
  have N101 := Fr.app N0 N101q
  refine Go.by (fun _ kont => XS.aloadN X0.here hx rfl (hb hby dBa0_0) rfl rfl (XS.aloadN X0.here hx rfl (hb hby dBa0_1) rfl rfl (st101.trans (XS.pop X101.here hx rfl (hb hby dBa0_5) rfl rfl (XS.aloadN X101.here hx rfl (hb hby dBa0_6) rfl rfl kont))))) ?_
  show Go _ _ _ _ _ _ _ (T101.setTop (mkF m 7 #[.val (.ref a), .val (.ref sg)] [(.ref a)]))
  refine Go.retR X101 hx hret rfl rfl hlk (hb hby dBa0_7) ?_ (by decide) (by decide)
  show QBa0 Z a va kc_va v0 v1 v2 v3 v4 v5 v6 v7 v8 v9 v10 v11 v12 v13 v14 v15 h0 n0 (some (.ref a)) T101.heap _
  exact ⟨rfl, N101, K102, g101_0, g101_1, g101_2, g101_3, g101_4⟩

theorem pdGb1_0 : parseMethodDescriptor "()B" = some ⟨[], some .byte⟩ := by decide +kernel
theorem pnGb1 : plainName "java/lang/String" = true := by first | (simp [plainName, overriddenIn]; done) | decide +kernel
theorem efGb1 (m : MethodId) (sg : Addr) (va : Addr) : entryFrame m #[(.ref sg), (.ref va), (.int 0), (.int 0)] 4 = mkF m 0 #[.val (.ref sg), .val (.ref va), .val (.int 0), .val (.int 0)] [] := by first | (simp [entryFrame, mkF, argsToLocals, Value.category]; done) | rfl
def QGb1 (Z : State) (va : Addr) (kc_va : ClassId) (v6 : Int32) (v7 : Int32) (v8 : Int32) (v9 : Int32) (v10 : Int32) (v11 : Int32) (v12 : Int32) (v13 : Int32) (v14 : Int32) (v15 : Int32) (h0 : Heap) (n0 : Nat) (v : Option Value) (h : Heap) (L : List Loc) : Prop := (v = none ∧ Fr n0 L ∧ Keep h0 h [va] ∧ Arv Z h va kc_va .byte (16 : Int32) [(.int 110), (.int 111), (.int 114), (.int 109), (.int 97), (.int 108), (.int v6), (.int v7), (.int v8), (.int v9), (.int v10), (.int v11), (.int v12), (.int v13), (.int v14), (.int v15)] (.int 0))
set_option maxRecDepth 65536 in
set_option maxHeartbeats 40000000 in
theorem rmGb1 (l : Launch) (Z : State) (a0 : Array Value) (hw : ∀ d ∈ tables_1, d.before a0 Z = true) (ws : List Jvm.Cond) (sg : Addr) (va : Addr) (za : Addr) (kc_za : ClassId) (kc_va : ClassId) (v0 : Int32) (v1 : Int32) (v2 : Int32) (v3 : Int32) (v4 : Int32) (v5 : Int32) (v6 : Int32) (v7 : Int32) (v8 : Int32) (v9 : Int32) (v10 : Int32) (v11 : Int32) (v12 : Int32) (v13 : Int32) (v14 : Int32) (v15 : Int32) (cs : Int32) (h0 : Heap) (n0 : Nat) (Z0 : n0 ≤ h0.size) (E0_sg : Exa Z h0 sg "java/lang/String") (F0_sg_coder : Fld Z h0 sg "java/lang/String" "coder" "B" (.int 0)) (F0_sg_value : Fld Z h0 sg "java/lang/String" "value" "[B" (.ref za)) (V0_za : Arv Z h0 za kc_za .byte (6 : Int32) [(.int 110), (.int 111), (.int 114), (.int 109), (.int 97), (.int 108)] (.int 0)) (V0_va : Arv Z h0 va kc_va .byte (16 : Int32) [(.int v0), (.int v1), (.int v2), (.int v3), (.int v4), (.int v5), (.int v6), (.int v7), (.int v8), (.int v9), (.int v10), (.int v11), (.int v12), (.int v13), (.int v14), (.int v15)] (.int 0)) (ne0_za_va : za ≠ va) (ne0_sg_va : sg ≠ va) (S0_COMPACT_STRINGS : Sta Z h0 "java/lang/String" "COMPACT_STRINGS" "Z" (.int cs)) (ge0_va : n0 ≤ va) (hcs : ¬ (cs = (0 : Int32))) :
    Ct l Z (⟨"java/lang/String", "getBytes", "([BIB)V"⟩ : MethodName) jdk_42_method_147_code 4 none ws (⟨1, 0, 0, 18⟩ : Room) #[(.ref sg), (.ref va), (.int 0), (.int 0)] h0 (QGb1 Z va kc_va v6 v7 v8 v9 v10 v11 v12 v13 v14 v15 h0 n0) := by
  refine MetFree.of_bodySF (plainFor_of_name pnGb1) hisR ?_
  intro p e s m args below meth c s₁ Bd hml hP hK
  obtain ⟨rfl, hZ, hh⟩ := hP
  obtain ⟨hx, hby, hown, hnm, hlk, hret, X0, e0⟩ := own_st Bd "java/lang/String" rfl hh
  have N0 := Fr.nil n0
  show Go p e below s (⟨1, 0, 0, 18⟩ : Room).cells (⟨1, 0, 0, 18⟩ : Room).slots (QGb1 Z va kc_va v6 v7 v8 v9 v10 v11 v12 v13 v14 v15 h0 n0) (s₁.setTop (entryFrame m #[(.ref sg), (.ref va), (.int 0), (.int 0)] 4))
  rw [efGb1]
  obtain ⟨cq101, kq101, q101a, q101b, q101c⟩ := isOf hZ e0 E0_sg
  obtain ⟨_, _, ⟨T101, L101, k101, n101⟩, -, X101, ⟨Lc101, hQ101, l101, y101, z101⟩, st101⟩ := X0.virtualBack hx (y := (⟨"java/lang/String", "coder", "()B"⟩ : MethodName)) (z := (⟨"java/lang/String", "coder", "()B"⟩ : MethodName)) hown (mvT hZ (own_w hw 134 rfl)) (mvT hZ (own_w hw 135 rfl)) (notFace_of_selects (args := #[]) (mvT hZ (own_w hw 137 rfl))) (mvT hZ (own_w hw 137 rfl)) (mvT hZ (own_w hw 136 rfl)) (by decide) (backOf (W := 0) (rmCo l Z a0 hw [] sg cs h0 n0 Z0 E0_sg F0_sg_coder S0_COMPACT_STRINGS hcs) hZ (own_w hw 138 rfl) (own_w hw 7 rfl) (by decide) (by decide)) q101a q101c (g := (mkF m 1 #[.val (.ref sg), .val (.ref va), .val (.int 0), .val (.int 0)] [(.ref sg)])) rfl (by rw [hml]; rfl) (Steps.refl _) (argsL := []) (rest := []) (lenOf pdGb1_0 rfl) rfl (by show 2 * 0 + _ ≤ _; exact Nat.le_of_eq rfl) (hb hby dGb0_1) (fun _ _ => ⟨rfl, e0, (by decide : 0 + 0 ≤ _), (by decide : 0 + 0 ≤ _)⟩)
  dsimp only [Pt.U, Pt.locs, Pt.cells, Pt.slots] at X101 l101 y101 z101 st101 hQ101
  subst l101 y101 z101
  obtain ⟨rfl, N101q, eh101⟩ := hQ101
  have N101 := Fr.app N0 N101q
  obtain ⟨T102, X102, e102, st102⟩ := getF X101 hx hZ hown (host := "") (Or.inl (own_w hw 32 rfl)) Via.refl eh101 F0_sg_value (g := (mkF m 9 #[.val (.ref sg), .val (.ref va), .val (.int 0), .val (.int 0)] [(.ref sg)])) rfl rfl (hb hby dGb0_9)
  obtain ⟨T103, X103, e103, st103⟩ := getF X102 hx hZ hown (host := "") (Or.inl (own_w hw 32 rfl)) Via.refl e102 F0_sg_value (g := (mkF m 18 #[.val (.ref sg), .val (.ref va), .val (.int 0), .val (.int 0)] [(.ref sg), (.int 0), (.ref va), (.int 0), (.ref za)])) rfl rfl (hb hby dGb0_18)
  obtain ⟨cl_q104, Ar_q104, q1_q104, S_q104, N_q104, H_q104, G_q104⟩ := id V0_za
  obtain ⟨T105, h105, L105, X105, e105, N105, K105, V105, st105⟩ := cpA X103 hx hZ hown (own_w hw 160 rfl) (own_w hw 163 rfl) (own_w hw 161 rfl) (own_w hw 162 rfl) e103 V0_za V0_va (us := [(.int 110), (.int 111), (.int 114), (.int 109), (.int 97), (.int 108)]) (Or.inl ⟨rfl, rfl⟩) (by decide) (by decide) (by decide) (by decide) (by decide) rfl (Nat.le_of_ble_eq_true rfl) N101 ge0_va (g := (mkF m 22 #[.val (.ref sg), .val (.ref va), .val (.int 0), .val (.int 0)] [(.int 6), (.int 0), (.ref va), (.int 0), (.ref za)])) rfl (by rw [hml]; rfl) rfl (hb hby dGb0_22) (by decide) (W := 0) (by show 2 * 0 + _ ≤ _; exact Nat.le_of_eq rfl) (by decide)
  have Vz105 : Arv Z h105 va kc_va .byte (16 : Int32) [(.int 110), (.int 111), (.int 114), (.int 109), (.int 97), (.int 108), (.int v6), (.int v7), (.int v8), (.int v9), (.int v10), (.int v11), (.int v12), (.int v13), (.int v14), (.int v15)] (.int 0) := V105
  have S106_COMPACT_STRINGS := own_stakeep S0_COMPACT_STRINGS K105 (allS (own_nsA V0_va) all0)
  have Z106 := Nat.le_trans Z0 K105.1
  have K106 : Keep h0 h105 [va] := Keep.trans (Keep.refl h0 [va]) K105 (allS (Or.inl (by simp)) all0)
  refine Go.by (fun _ kont => XS.aloadN X0.here hx rfl (hb hby dGb0_0) rfl rfl (st101.trans (XS.iloadN X101.here hx rfl (hb hby dGb0_4) rfl (XS.icmpNo X101.here hx rfl (hb hby dGb0_5) rfl (by decide) (XS.aloadN X101.here hx rfl (hb hby dGb0_8) rfl rfl (st102 _ (XS.iconst X102.here hx rfl (hb hby dGb0_12) (XS.aloadN X102.here hx rfl (hb hby dGb0_13) rfl rfl (XS.iloadN X102.here hx rfl (hb hby dGb0_14) rfl (XS.iloadN X102.here hx rfl (hb hby dGb0_15) rfl (XS.ishl X102.here hx rfl (hb hby dGb0_16) rfl (own_fI (show ((0 : Int32) <<< ((0 : Int32) &&& 31)) = (0 : Int32) from by decide) (XS.aloadN X102.here hx rfl (hb hby dGb0_17) rfl rfl (st103 _ (X103.arraylength hx (own_at e103 Ar_q104.1) (State.isArrayOf_alike hZ.alike Ar_q104.2.1) (g := (mkF m 21 #[.val (.ref sg), .val (.ref va), .val (.int 0), .val (.int 0)] [(.ref za), (.int 0), (.ref va), (.int 0), (.ref za)])) rfl rfl (hb hby dGb0_21) _ (own_fI (len_of S_q104 N_q104) (st105 _ (XS.goto X105.here hx rfl (pc0 := 25) (pc' := 43) rfl (hb hby dGb0_25) (by decide) (by decide) kont)))))))))))))))))) ?_
  show Go _ _ _ _ _ _ _ (T105.setTop (mkF m 43 #[.val (.ref sg), .val (.ref va), .val (.int 0), .val (.int 0)] []))
  refine Go.retV X105 hx hret hlk (hb hby dGb0_43) ?_ (by decide) (by decide)
  show QGb1 Z va kc_va v6 v7 v8 v9 v10 v11 v12 v13 v14 v15 h0 n0 none T105.heap _
  rw [e105]
  exact ⟨rfl, N105, K106, Vz105⟩

theorem pdPs1_0 : parseMethodDescriptor "(Ljava/lang/String;)V" = some ⟨[(.object "java/lang/String")], none⟩ := by decide +kernel
theorem pdPs1_1 : parseMethodDescriptor "([BIB)V" = some ⟨[(.array .byte), .int, .byte], none⟩ := by decide +kernel
theorem pnPs1 : plainName "java/lang/AbstractStringBuilder" = true := by first | (simp [plainName, overriddenIn]; done) | decide +kernel
theorem efPs1 (m : MethodId) (a : Addr) (sg : Addr) : entryFrame m #[(.ref a), (.int 0), (.ref sg)] 3 = mkF m 0 #[.val (.ref a), .val (.int 0), .val (.ref sg)] [] := by first | (simp [entryFrame, mkF, argsToLocals, Value.category]; done) | rfl
def QPs1 (Z : State) (va : Addr) (kc_va : ClassId) (v6 : Int32) (v7 : Int32) (v8 : Int32) (v9 : Int32) (v10 : Int32) (v11 : Int32) (v12 : Int32) (v13 : Int32) (v14 : Int32) (v15 : Int32) (h0 : Heap) (n0 : Nat) (v : Option Value) (h : Heap) (L : List Loc) : Prop := (v = none ∧ Fr n0 L ∧ Keep h0 h [va] ∧ Arv Z h va kc_va .byte (16 : Int32) [(.int 110), (.int 111), (.int 114), (.int 109), (.int 97), (.int 108), (.int v6), (.int v7), (.int v8), (.int v9), (.int v10), (.int v11), (.int v12), (.int v13), (.int v14), (.int v15)] (.int 0))
set_option maxRecDepth 65536 in
set_option maxHeartbeats 40000000 in
theorem rmPs1 (l : Launch) (Z : State) (a0 : Array Value) (hw : ∀ d ∈ tables_1, d.before a0 Z = true) (ws : List Jvm.Cond) (a : Addr) (sg : Addr) (va : Addr) (za : Addr) (kc_za : ClassId) (kc_va : ClassId) (v0 : Int32) (v1 : Int32) (v2 : Int32) (v3 : Int32) (v4 : Int32) (v5 : Int32) (v6 : Int32) (v7 : Int32) (v8 : Int32) (v9 : Int32) (v10 : Int32) (v11 : Int32) (v12 : Int32) (v13 : Int32) (v14 : Int32) (v15 : Int32) (cs : Int32) (h0 : Heap) (n0 : Nat) (Z0 : n0 ≤ h0.size) (E0_a : Exa Z h0 a "java/lang/StringBuilder") (F0_a_value : Fld Z h0 a "java/lang/AbstractStringBuilder" "value" "[B" (.ref va)) (F0_a_coder : Fld Z h0 a "java/lang/AbstractStringBuilder" "coder" "B" (.int 0)) (E0_sg : Exa Z h0 sg "java/lang/String") (F0_sg_coder : Fld Z h0 sg "java/lang/String" "coder" "B" (.int 0)) (F0_sg_value : Fld Z h0 sg "java/lang/String" "value" "[B" (.ref za)) (V0_za : Arv Z h0 za kc_za .byte (6 : Int32) [(.int 110), (.int 111), (.int 114), (.int 109), (.int 97), (.int 108)] (.int 0)) (V0_va : Arv Z h0 va kc_va .byte (16 : Int32) [(.int v0), (.int v1), (.int v2), (.int v3), (.int v4), (.int v5), (.int v6), (.int v7), (.int v8), (.int v9), (.int v10), (.int v11), (.int v12), (.int v13), (.int v14), (.int v15)] (.int 0)) (ne0_a_va : a ≠ va) (ne0_za_va : za ≠ va) (ne0_a_za : a ≠ za) (ne0_a_sg : a ≠ sg) (ne0_sg_va : sg ≠ va) (S0_COMPACT_STRINGS : Sta Z h0 "java/lang/String" "COMPACT_STRINGS" "Z" (.int cs)) (ge0_va : n0 ≤ va) (hcs : ¬ (cs = (0 : Int32))) :
    Ct l Z (⟨"java/lang/AbstractStringBuilder", "putStringAt", "(ILjava/lang/String;)V"⟩ : MethodName) jdk_68_method_73_code 3 none ws (⟨2, 0, 0, 33⟩ : Room) #[(.ref a), (.int 0), (.ref sg)] h0 (QPs1 Z va kc_va v6 v7 v8 v9 v10 v11 v12 v13 v14 v15 h0 n0) := by
  refine MetFree.of_bodySF (plainFor_of_name pnPs1) hisR ?_
  intro p e s m args below meth c s₁ Bd hml hP hK
  obtain ⟨rfl, hZ, hh⟩ := hP
  obtain ⟨hx, hby, hown, hnm, hlk, hret, X0, e0⟩ := own_st Bd "java/lang/AbstractStringBuilder" rfl hh
  have N0 := Fr.nil n0
  show Go p e below s (⟨2, 0, 0, 33⟩ : Room).cells (⟨2, 0, 0, 33⟩ : Room).slots (QPs1 Z va kc_va v6 v7 v8 v9 v10 v11 v12 v13 v14 v15 h0 n0) (s₁.setTop (entryFrame m #[(.ref a), (.int 0), (.ref sg)] 3))
  rw [efPs1]
  obtain ⟨cq101, q101, q101'⟩ := E0_a.cell
  obtain ⟨_, _, ⟨T101, L101, k101, n101⟩, -, X101, ⟨Lc101, hQ101, l101, y101, z101⟩, st101⟩ := X0.privateBack hx (y := (⟨"java/lang/AbstractStringBuilder", "inflateIfNeededFor", "(Ljava/lang/String;)V"⟩ : MethodName)) hown (mvT hZ (own_w hw 149 rfl)) (mvT hZ (own_w hw 150 rfl)) (own_selp2 hZ (own_w hw 152 rfl) (own_w hw 151 rfl) (own_w hw 150 rfl) (by decide)) (Cond.privateMethod_at (mvP hZ (own_w hw 151 rfl) (args := #[]))) (mvT hZ (own_w hw 153 rfl)) (by decide) (backOf (W := 0) (rmIn l Z a0 hw [] a sg cs h0 n0 Z0 E0_a F0_a_coder E0_sg F0_sg_coder S0_COMPACT_STRINGS hcs) hZ (own_w hw 153 rfl) (own_w hw 71 rfl) (by decide) (by decide)) (g := (mkF m 2 #[.val (.ref a), .val (.int 0), .val (.ref sg)] [(.ref sg), (.ref a)])) rfl (by rw [hml]; rfl) (Steps.refl _) (a := a) (by rw [e0]; exact q101) q101' (argsL := [(.ref sg)]) (rest := []) (lenOf pdPs1_0 rfl) rfl (by show 2 * 0 + _ ≤ _; exact Nat.le_of_eq rfl) (hb hby dPs0_2) (fun _ _ => ⟨rfl, e0, (by decide : 0 + 0 ≤ _), (by decide : 0 + 0 ≤ _)⟩)
  dsimp only [Pt.U, Pt.locs, Pt.cells, Pt.slots] at X101 l101 y101 z101 st101 hQ101
  subst l101 y101 z101
  obtain ⟨rfl, N101q, eh101⟩ := hQ101
  have N101 := Fr.app N0 N101q
  obtain ⟨T102, X102, e102, st102⟩ := getF X101 hx hZ hown (host := "") (Or.inl (own_w hw 75 rfl)) Via.refl eh101 F0_a_value (g := (mkF m 7 #[.val (.ref a), .val (.int 0), .val (.ref sg)] [(.ref a), (.ref sg)])) rfl rfl (hb hby dPs0_7)
  obtain ⟨T103, X103, e103, st103⟩ := getF X102 hx hZ hown (host := "") (Or.inl (own_w hw 77 rfl)) Via.refl e102 F0_a_coder (g := (mkF m 12 #[.val (.ref a), .val (.int 0), .val (.ref sg)] [(.ref a), (.int 0), (.ref va), (.ref sg)])) rfl rfl (hb hby dPs0_12)
  obtain ⟨cq104, kq104, q104a, q104b, q104c⟩ := isOf hZ e103 E0_sg
  obtain ⟨_, _, ⟨T104, L104, k104, n104⟩, -, X104, ⟨Lc104, hQ104, l104, y104, z104⟩, st104⟩ := X103.virtualBack hx (y := (⟨"java/lang/String", "getBytes", "([BIB)V"⟩ : MethodName)) (z := (⟨"java/lang/String", "getBytes", "([BIB)V"⟩ : MethodName)) hown (mvT hZ (own_w hw 155 rfl)) (mvT hZ (own_w hw 156 rfl)) (notFace_of_selects (args := #[]) (mvT hZ (own_w hw 158 rfl))) (mvT hZ (own_w hw 158 rfl)) (mvT hZ (own_w hw 157 rfl)) (by decide) (backOf (W := 0) (rmGb1 l Z a0 hw [] sg va za kc_za kc_va v0 v1 v2 v3 v4 v5 v6 v7 v8 v9 v10 v11 v12 v13 v14 v15 cs h0 n0 Z0 E0_sg F0_sg_coder F0_sg_value V0_za V0_va ne0_za_va ne0_sg_va S0_COMPACT_STRINGS ge0_va hcs) hZ (own_w hw 159 rfl) (own_w hw 7 rfl) (by decide) (by decide)) q104a q104c (g := (mkF m 15 #[.val (.ref a), .val (.int 0), .val (.ref sg)] [(.int 0), (.int 0), (.ref va), (.ref sg)])) rfl (by rw [hml]; rfl) (Steps.refl _) (argsL := [(.ref va), (.int 0), (.int 0)]) (rest := []) (lenOf pdPs1_1 rfl) rfl (by show 2 * 0 + _ ≤ _; exact Nat.le_of_eq rfl) (hb hby dPs0_15) (fun _ _ => ⟨rfl, e103, (by decide : 0 + 0 ≤ _), (by decide : 0 + 0 ≤ _)⟩)
  dsimp only [Pt.U, Pt.locs, Pt.cells, Pt.slots] at X104 l104 y104 z104 st104 hQ104
  subst l104 y104 z104
  obtain ⟨rfl, N104q, K104, g104_0⟩ := hQ104
  have S105_COMPACT_STRINGS := own_stakeep S0_COMPACT_STRINGS K104 (allS (own_nsA V0_va) all0)
  have Z105 := Nat.le_trans Z0 K104.1
  have K105 : Keep h0 T104.heap [va] := Keep.trans (Keep.refl h0 [va]) K104 (allS (Or.inl (by simp)) all0)
  have N104 := Fr.app N101 N104q
  refine Go.by (fun _ kont => XS.aloadN X0.here hx rfl (hb hby dPs0_0) rfl rfl (XS.aloadN X0.here hx rfl (hb hby dPs0_1) rfl rfl (st101.trans (XS.aloadN X101.here hx rfl (hb hby dPs0_5) rfl rfl (XS.aloadN X101.here hx rfl (hb hby dPs0_6) rfl rfl (st102 _ (XS.iloadN X102.here hx rfl (hb hby dPs0_10) rfl (XS.aloadN X102.here hx rfl (hb hby dPs0_11) rfl rfl (st103 _ (st104.trans kont)))))))))) ?_
  show Go _ _ _ _ _ _ _ (T104.setTop (mkF m 18 #[.val (.ref a), .val (.int 0), .val (.ref sg)] []))
  refine Go.retV X104 hx hret hlk (hb hby dPs0_18) ?_ (by decide) (by decide)
  show QPs1 Z va kc_va v6 v7 v8 v9 v10 v11 v12 v13 v14 v15 h0 n0 none T104.heap _
  exact ⟨rfl, N104, K105, g104_0⟩

theorem pdAa1_0 : parseMethodDescriptor "()I" = some ⟨[], some .int⟩ := by decide +kernel
theorem pdAa1_1 : parseMethodDescriptor "(I)V" = some ⟨[.int], none⟩ := by decide +kernel
theorem pdAa1_2 : parseMethodDescriptor "(ILjava/lang/String;)V" = some ⟨[.int, (.object "java/lang/String")], none⟩ := by decide +kernel
theorem pnAa1 : plainName "java/lang/AbstractStringBuilder" = true := by first | (simp [plainName, overriddenIn]; done) | decide +kernel
theorem efAa1 (m : MethodId) (a : Addr) (sg : Addr) : entryFrame m #[(.ref a), (.ref sg)] 3 = mkF m 0 #[.val (.ref a), .val (.ref sg), .unset] [] := by first | (simp [entryFrame, mkF, argsToLocals, Value.category]; done) | rfl
def QAa1 (Z : State) (a : Addr) (va : Addr) (kc_va : ClassId) (v6 : Int32) (v7 : Int32) (v8 : Int32) (v9 : Int32) (v10 : Int32) (v11 : Int32) (v12 : Int32) (v13 : Int32) (v14 : Int32) (v15 : Int32) (h0 : Heap) (n0 : Nat) (v : Option Value) (h : Heap) (L : List Loc) : Prop := (v = some (.ref a) ∧ Fr n0 L ∧ Keep h0 h [a, va] ∧ Exa Z h a "java/lang/StringBuilder" ∧ Fld Z h a "java/lang/AbstractStringBuilder" "value" "[B" (.ref va) ∧ Fld Z h a "java/lang/AbstractStringBuilder" "coder" "B" (.int 0) ∧ Fld Z h a "java/lang/AbstractStringBuilder" "count" "I" (.int 6) ∧ Arv Z h va kc_va .byte (16 : Int32) [(.int 110), (.int 111), (.int 114), (.int 109), (.int 97), (.int 108), (.int v6), (.int v7), (.int v8), (.int v9), (.int v10), (.int v11), (.int v12), (.int v13), (.int v14), (.int v15)] (.int 0))
set_option maxRecDepth 65536 in
set_option maxHeartbeats 40000000 in
theorem rmAa1 (l : Launch) (Z : State) (a0 : Array Value) (hw : ∀ d ∈ tables_1, d.before a0 Z = true) (ws : List Jvm.Cond) (a : Addr) (sg : Addr) (va : Addr) (za : Addr) (kc_za : ClassId) (kc_va : ClassId) (v0 : Int32) (v1 : Int32) (v2 : Int32) (v3 : Int32) (v4 : Int32) (v5 : Int32) (v6 : Int32) (v7 : Int32) (v8 : Int32) (v9 : Int32) (v10 : Int32) (v11 : Int32) (v12 : Int32) (v13 : Int32) (v14 : Int32) (v15 : Int32) (cs : Int32) (h0 : Heap) (n0 : Nat) (Z0 : n0 ≤ h0.size) (E0_a : Exa Z h0 a "java/lang/StringBuilder") (F0_a_value : Fld Z h0 a "java/lang/AbstractStringBuilder" "value" "[B" (.ref va)) (F0_a_coder : Fld Z h0 a "java/lang/AbstractStringBuilder" "coder" "B" (.int 0)) (F0_a_count : Fld Z h0 a "java/lang/AbstractStringBuilder" "count" "I" (.int 0)) (E0_sg : Exa Z h0 sg "java/lang/String") (F0_sg_coder : Fld Z h0 sg "java/lang/String" "coder" "B" (.int 0)) (F0_sg_value : Fld Z h0 sg "java/lang/String" "value" "[B" (.ref za)) (V0_za : Arv Z h0 za kc_za .byte (6 : Int32) [(.int 110), (.int 111), (.int 114), (.int 109), (.int 97), (.int 108)] (.int 0)) (V0_va : Arv Z h0 va kc_va .byte (16 : Int32) [(.int v0), (.int v1), (.int v2), (.int v3), (.int v4), (.int v5), (.int v6), (.int v7), (.int v8), (.int v9), (.int v10), (.int v11), (.int v12), (.int v13), (.int v14), (.int v15)] (.int 0)) (ne0_a_va : a ≠ va) (ne0_za_va : za ≠ va) (ne0_a_za : a ≠ za) (ne0_a_sg : a ≠ sg) (ne0_sg_va : sg ≠ va) (S0_COMPACT_STRINGS : Sta Z h0 "java/lang/String" "COMPACT_STRINGS" "Z" (.int cs)) (ge0_a : n0 ≤ a) (ge0_va : n0 ≤ va) (hcs : ¬ (cs = (0 : Int32))) :
    Ct l Z (⟨"java/lang/AbstractStringBuilder", "append", "(Ljava/lang/String;)Ljava/lang/AbstractStringBuilder;"⟩ : MethodName) jdk_68_method_22_code 3 (some (.object "java/lang/AbstractStringBuilder")) ws (⟨3, 0, 0, 47⟩ : Room) #[(.ref a), (.ref sg)] h0 (QAa1 Z a va kc_va v6 v7 v8 v9 v10 v11 v12 v13 v14 v15 h0 n0) := by
  refine MetFree.of_bodySF (plainFor_of_name pnAa1) hisR ?_
  intro p e s m args below meth c s₁ Bd hml hP hK
  obtain ⟨rfl, hZ, hh⟩ := hP
  obtain ⟨hx, hby, hown, hnm, hlk, hret, X0, e0⟩ := own_st Bd "java/lang/AbstractStringBuilder" rfl hh
  have N0 := Fr.nil n0
  show Go p e below s (⟨3, 0, 0, 47⟩ : Room).cells (⟨3, 0, 0, 47⟩ : Room).slots (QAa1 Z a va kc_va v6 v7 v8 v9 v10 v11 v12 v13 v14 v15 h0 n0) (s₁.setTop (entryFrame m #[(.ref a), (.ref sg)] 3))
  rw [efAa1]
  obtain ⟨cq101, kq101, q101a, q101b, q101c⟩ := isOf hZ e0 E0_sg
  obtain ⟨_, _, ⟨T101, L101, k101, n101⟩, -, X101, ⟨Lc101, hQ101, l101, y101, z101⟩, st101⟩ := X0.virtualBack hx (y := (⟨"java/lang/String", "length", "()I"⟩ : MethodName)) (z := (⟨"java/lang/String", "length", "()I"⟩ : MethodName)) hown (mvT hZ (own_w hw 129 rfl)) (mvT hZ (own_w hw 130 rfl)) (notFace_of_selects (args := #[]) (mvT hZ (own_w hw 132 rfl))) (mvT hZ (own_w hw 132 rfl)) (mvT hZ (own_w hw 131 rfl)) (by decide) (backOf (W := 0) (rmSl1 l Z a0 hw [] sg za kc_za cs h0 n0 Z0 E0_sg F0_sg_coder F0_sg_value V0_za S0_COMPACT_STRINGS hcs) hZ (own_w hw 133 rfl) (own_w hw 7 rfl) (by decide) (by decide)) q101a q101c (g := (mkF m 10 #[.val (.ref a), .val (.ref sg), .unset] [(.ref sg)])) rfl (by rw [hml]; rfl) (Steps.refl _) (argsL := []) (rest := []) (lenOf pdAa1_0 rfl) rfl (by show 2 * 0 + _ ≤ _; exact Nat.le_of_eq rfl) (hb hby dAa0_10) (fun _ _ => ⟨rfl, e0, (by decide : 0 + 0 ≤ _), (by decide : 0 + 0 ≤ _)⟩)
  dsimp only [Pt.U, Pt.locs, Pt.cells, Pt.slots] at X101 l101 y101 z101 st101 hQ101
  subst l101 y101 z101
  obtain ⟨rfl, N101q, eh101⟩ := hQ101
  have N101 := Fr.app N0 N101q
  obtain ⟨T102, X102, e102, st102⟩ := getF X101 hx hZ hown (host := "") (Or.inl (own_w hw 117 rfl)) Via.refl eh101 F0_a_count (g := (mkF m 16 #[.val (.ref a), .val (.ref sg), .val (.int 6)] [(.ref a), (.ref a)])) rfl rfl (hb hby dAa0_16)
  obtain ⟨cq103, q103, q103'⟩ := E0_a.cell
  obtain ⟨_, _, ⟨T103, L103, k103, n103⟩, -, X103, ⟨Lc103, hQ103, l103, y103, z103⟩, st103⟩ := X102.privateBack hx (y := (⟨"java/lang/AbstractStringBuilder", "ensureCapacityInternal", "(I)V"⟩ : MethodName)) hown (mvT hZ (own_w hw 139 rfl)) (mvT hZ (own_w hw 140 rfl)) (own_selp2 hZ (own_w hw 142 rfl) (own_w hw 141 rfl) (own_w hw 140 rfl) (by decide)) (Cond.privateMethod_at (mvP hZ (own_w hw 141 rfl) (args := #[]))) (mvT hZ (own_w hw 143 rfl)) (by decide) (backOf (W := 0) (rmEc6 l Z a0 hw [] a va kc_va v0 v1 v2 v3 v4 v5 v6 v7 v8 v9 v10 v11 v12 v13 v14 v15 h0 n0 Z0 E0_a F0_a_value F0_a_coder V0_va) hZ (own_w hw 143 rfl) (own_w hw 71 rfl) (by decide) (by decide)) (g := (mkF m 21 #[.val (.ref a), .val (.ref sg), .val (.int 6)] [(.int 6), (.ref a)])) rfl (by rw [hml]; rfl) (Steps.refl _) (a := a) (by rw [e102]; exact q103) q103' (argsL := [(.int 6)]) (rest := []) (lenOf pdAa1_1 rfl) rfl (by show 2 * 0 + _ ≤ _; exact Nat.le_of_eq rfl) (hb hby dAa0_21) (fun _ _ => ⟨rfl, e102, (by decide : 0 + 0 ≤ _), (by decide : 0 + 0 ≤ _)⟩)
  dsimp only [Pt.U, Pt.locs, Pt.cells, Pt.slots] at X103 l103 y103 z103 st103 hQ103
  subst l103 y103 z103
  obtain ⟨rfl, N103q, eh103⟩ := hQ103
  have N103 := Fr.app N101 N103q
  obtain ⟨T104, X104, e104, st104⟩ := getF X103 hx hZ hown (host := "") (Or.inl (own_w hw 117 rfl)) Via.refl eh103 F0_a_count (g := (mkF m 26 #[.val (.ref a), .val (.ref sg), .val (.int 6)] [(.ref a), (.ref a)])) rfl rfl (hb hby dAa0_26)
  obtain ⟨cq105, q105, q105'⟩ := E0_a.cell
  obtain ⟨_, _, ⟨T105, L105, k105, n105⟩, -, X105, ⟨Lc105, hQ105, l105, y105, z105⟩, st105⟩ := X104.privateBack hx (y := (⟨"java/lang/AbstractStringBuilder", "putStringAt", "(ILjava/lang/String;)V"⟩ : MethodName)) hown (mvT hZ (own_w hw 144 rfl)) (mvT hZ (own_w hw 145 rfl)) (own_selp2 hZ (own_w hw 147 rfl) (own_w hw 146 rfl) (own_w hw 145 rfl) (by decide)) (Cond.privateMethod_at (mvP hZ (own_w hw 146 rfl) (args := #[]))) (mvT hZ (own_w hw 148 rfl)) (by decide) (backOf (W := 0) (rmPs1 l Z a0 hw [] a sg va za kc_za kc_va v0 v1 v2 v3 v4 v5 v6 v7 v8 v9 v10 v11 v12 v13 v14 v15 cs h0 n0 Z0 E0_a F0_a_value F0_a_coder E0_sg F0_sg_coder F0_sg_value V0_za V0_va ne0_a_va ne0_za_va ne0_a_za ne0_a_sg ne0_sg_va S0_COMPACT_STRINGS ge0_va hcs) hZ (own_w hw 148 rfl) (own_w hw 71 rfl) (by decide) (by decide)) (g := (mkF m 30 #[.val (.ref a), .val (.ref sg), .val (.int 6)] [(.ref sg), (.int 0), (.ref a)])) rfl (by rw [hml]; rfl) (Steps.refl _) (a := a) (by rw [e104]; exact q105) q105' (argsL := [(.int 0), (.ref sg)]) (rest := []) (lenOf pdAa1_2 rfl) rfl (by show 2 * 0 + _ ≤ _; exact Nat.le_of_eq rfl) (hb hby dAa0_30) (fun _ _ => ⟨rfl, e104, (by decide : 0 + 0 ≤ _), (by decide : 0 + 0 ≤ _)⟩)
  dsimp only [Pt.U, Pt.locs, Pt.cells, Pt.slots] at X105 l105 y105 z105 st105 hQ105
  subst l105 y105 z105
  obtain ⟨rfl, N105q, K105, g105_0⟩ := hQ105
  have S106_COMPACT_STRINGS := own_stakeep S0_COMPACT_STRINGS K105 (allS (own_nsA V0_va) all0)
  have F106_value_a := F0_a_value.keep K105 (ninS ne0_a_va nin0)
  have F106_coder_a := F0_a_coder.keep K105 (ninS ne0_a_va nin0)
  have F106_count_a := F0_a_count.keep K105 (ninS ne0_a_va nin0)
  have Z106 := Nat.le_trans Z0 K105.1
  have K106 : Keep h0 T105.heap [a, va] := Keep.trans (Keep.refl h0 [a, va]) K105 (allS (Or.inl (by simp)) all0)
  have N105 := Fr.app N103 N105q
  obtain ⟨T107, X107, e107, st107⟩ := getF X105 hx hZ hown (host := "") (Or.inl (own_w hw 117 rfl)) Via.refl rfl F106_count_a (g := (mkF m 35 #[.val (.ref a), .val (.ref sg), .val (.int 6)] [(.ref a), (.ref a)])) rfl rfl (hb hby dAa0_35)
  obtain ⟨T108, h108, X108, e108, W108, st108⟩ := putF X107 hx hZ hown (host := "") (Or.inl (own_w hw 117 rfl)) Via.refl e107 F106_count_a (E0_a.keep K106) (Or.inl (own_w hw 118 rfl)) (own_w hw 62 rfl) (ty := .int) (by decide) rfl rfl (g := (mkF m 40 #[.val (.ref a), .val (.ref sg), .val (.int 6)] [(.int 6), (.ref a)])) rfl rfl (hb hby dAa0_40)
  have Fw108 := F106_count_a.same W108
  have F109_value_a := F106_value_a.other W108 (Or.inr (slot_ne (Or.inl (own_w hw 76 rfl)) (Or.inl (own_w hw 118 rfl)) (by decide) (t := (.array .byte)) (t' := .int) (by decide) (by decide)))
  have F109_coder_a := F106_coder_a.other W108 (Or.inr (slot_ne (Or.inl (own_w hw 78 rfl)) (Or.inl (own_w hw 118 rfl)) (by decide) (t := .byte) (t' := .int) (by decide) (by decide)))
  have V109_va := g105_0.other W108 (Ne.symm ne0_a_va)
  have S109_COMPACT_STRINGS := S106_COMPACT_STRINGS.wr W108
  have Z109 := Nat.le_trans Z106 (Keep.of_wr W108).1
  have K109 : Keep h0 h108 [a, va] := K106.wr W108 (Or.inl (by simp))
  have N108 := Fr.snoc X108 N105 ge0_a
  refine Go.by (fun _ kont => XS.aloadN X0.here hx rfl (hb hby dAa0_0) rfl rfl (XS.ifnonnullYes X0.here hx rfl (pc0 := 1) (pc' := 9) rfl (hb hby dAa0_1) rfl (by decide) (by decide) (XS.aloadN X0.here hx rfl (hb hby dAa0_9) rfl rfl (st101.trans (XS.istoreN X101.here hx rfl (hb hby dAa0_13) rfl (l' := #[.val (.ref a), .val (.ref sg), .val (.int 6)]) rfl (XS.aloadN X101.here hx rfl (hb hby dAa0_14) rfl rfl (XS.aloadN X101.here hx rfl (hb hby dAa0_15) rfl rfl (st102 _ (XS.iloadN X102.here hx rfl (hb hby dAa0_19) rfl (XS.iadd X102.here hx rfl (hb hby dAa0_20) rfl (own_fI (show ((0 : Int32) + (6 : Int32)) = (6 : Int32) from by decide) (st103.trans (XS.aloadN X103.here hx rfl (hb hby dAa0_24) rfl rfl (XS.aloadN X103.here hx rfl (hb hby dAa0_25) rfl rfl (st104 _ (XS.aloadN X104.here hx rfl (hb hby dAa0_29) rfl rfl (st105.trans (XS.aloadN X105.here hx rfl (hb hby dAa0_33) rfl rfl (XS.dup X105.here hx rfl (hb hby dAa0_34) rfl rfl (st107 _ (XS.iloadN X107.here hx rfl (hb hby dAa0_38) rfl (XS.iadd X107.here hx rfl (hb hby dAa0_39) rfl (own_fI (show ((0 : Int32) + (6 : Int32)) = (6 : Int32) from by decide) (st108 _ (XS.aloadN X108.here hx rfl (hb hby dAa0_43) rfl rfl kont))))))))))))))))))))))))) ?_
  show Go _ _ _ _ _ _ _ (T108.setTop (mkF m 44 #[.val (.ref a), .val (.ref sg), .val (.int 6)] [(.ref a)]))
  refine Go.retR X108 hx hret rfl rfl hlk (hb hby dAa0_44) ?_ (by decide) (by decide)
  show QAa1 Z a va kc_va v6 v7 v8 v9 v10 v11 v12 v13 v14 v15 h0 n0 (some (.ref a)) T108.heap _
  rw [e108]
  exact ⟨rfl, N108, K109, (E0_a.keep K109), F109_value_a, F109_coder_a, Fw108, V109_va⟩

theorem pdBa1_0 : parseMethodDescriptor "(Ljava/lang/String;)Ljava/lang/AbstractStringBuilder;" = some ⟨[(.object "java/lang/String")], some (.object "java/lang/AbstractStringBuilder")⟩ := by decide +kernel
theorem pnBa1 : plainName "java/lang/StringBuilder" = true := by first | (simp [plainName, overriddenIn]; done) | decide +kernel
theorem efBa1 (m : MethodId) (a : Addr) (sg : Addr) : entryFrame m #[(.ref a), (.ref sg)] 2 = mkF m 0 #[.val (.ref a), .val (.ref sg)] [] := by first | (simp [entryFrame, mkF, argsToLocals, Value.category]; done) | rfl
def QBa1 (Z : State) (a : Addr) (va : Addr) (kc_va : ClassId) (v6 : Int32) (v7 : Int32) (v8 : Int32) (v9 : Int32) (v10 : Int32) (v11 : Int32) (v12 : Int32) (v13 : Int32) (v14 : Int32) (v15 : Int32) (h0 : Heap) (n0 : Nat) (v : Option Value) (h : Heap) (L : List Loc) : Prop := (v = some (.ref a) ∧ Fr n0 L ∧ Keep h0 h [a, va] ∧ Exa Z h a "java/lang/StringBuilder" ∧ Fld Z h a "java/lang/AbstractStringBuilder" "value" "[B" (.ref va) ∧ Fld Z h a "java/lang/AbstractStringBuilder" "coder" "B" (.int 0) ∧ Fld Z h a "java/lang/AbstractStringBuilder" "count" "I" (.int 6) ∧ Arv Z h va kc_va .byte (16 : Int32) [(.int 110), (.int 111), (.int 114), (.int 109), (.int 97), (.int 108), (.int v6), (.int v7), (.int v8), (.int v9), (.int v10), (.int v11), (.int v12), (.int v13), (.int v14), (.int v15)] (.int 0))
set_option maxRecDepth 65536 in
set_option maxHeartbeats 40000000 in
theorem rmBa1 (l : Launch) (Z : State) (a0 : Array Value) (hw : ∀ d ∈ tables_1, d.before a0 Z = true) (ws : List Jvm.Cond) (a : Addr) (sg : Addr) (va : Addr) (za : Addr) (kc_za : ClassId) (kc_va : ClassId) (v0 : Int32) (v1 : Int32) (v2 : Int32) (v3 : Int32) (v4 : Int32) (v5 : Int32) (v6 : Int32) (v7 : Int32) (v8 : Int32) (v9 : Int32) (v10 : Int32) (v11 : Int32) (v12 : Int32) (v13 : Int32) (v14 : Int32) (v15 : Int32) (cs : Int32) (h0 : Heap) (n0 : Nat) (Z0 : n0 ≤ h0.size) (E0_a : Exa Z h0 a "java/lang/StringBuilder") (F0_a_value : Fld Z h0 a "java/lang/AbstractStringBuilder" "value" "[B" (.ref va)) (F0_a_coder : Fld Z h0 a "java/lang/AbstractStringBuilder" "coder" "B" (.int 0)) (F0_a_count : Fld Z h0 a "java/lang/AbstractStringBuilder" "count" "I" (.int 0)) (E0_sg : Exa Z h0 sg "java/lang/String") (F0_sg_coder : Fld Z h0 sg "java/lang/String" "coder" "B" (.int 0)) (F0_sg_value : Fld Z h0 sg "java/lang/String" "value" "[B" (.ref za)) (V0_za : Arv Z h0 za kc_za .byte (6 : Int32) [(.int 110), (.int 111), (.int 114), (.int 109), (.int 97), (.int 108)] (.int 0)) (V0_va : Arv Z h0 va kc_va .byte (16 : Int32) [(.int v0), (.int v1), (.int v2), (.int v3), (.int v4), (.int v5), (.int v6), (.int v7), (.int v8), (.int v9), (.int v10), (.int v11), (.int v12), (.int v13), (.int v14), (.int v15)] (.int 0)) (ne0_a_va : a ≠ va) (ne0_za_va : za ≠ va) (ne0_a_za : a ≠ za) (ne0_a_sg : a ≠ sg) (ne0_sg_va : sg ≠ va) (S0_COMPACT_STRINGS : Sta Z h0 "java/lang/String" "COMPACT_STRINGS" "Z" (.int cs)) (ge0_a : n0 ≤ a) (ge0_va : n0 ≤ va) (hcs : ¬ (cs = (0 : Int32))) :
    Ct l Z (⟨"java/lang/StringBuilder", "append", "(Ljava/lang/String;)Ljava/lang/StringBuilder;"⟩ : MethodName) jdk_67_method_7_code 2 (some (.object "java/lang/StringBuilder")) ws (⟨4, 0, 0, 61⟩ : Room) #[(.ref a), (.ref sg)] h0 (QBa1 Z a va kc_va v6 v7 v8 v9 v10 v11 v12 v13 v14 v15 h0 n0) := by
  refine MetFree.of_bodySF (plainFor_of_name pnBa1) hisR ?_
  intro p e s m args below meth c s₁ Bd hml hP hK
  obtain ⟨rfl, hZ, hh⟩ := hP
  obtain ⟨hx, hby, hown, hnm, hlk, hret, X0, e0⟩ := own_st Bd "java/lang/StringBuilder" rfl hh
  have N0 := Fr.nil n0
  show Go p e below s (⟨4, 0, 0, 61⟩ : Room).cells (⟨4, 0, 0, 61⟩ : Room).slots (QBa1 Z a va kc_va v6 v7 v8 v9 v10 v11 v12 v13 v14 v15 h0 n0) (s₁.setTop (entryFrame m #[(.ref a), (.ref sg)] 2))
  rw [efBa1]
  obtain ⟨_, _, ⟨T101, L101, k101, n101⟩, -, X101, ⟨Lc101, hQ101, l101, y101, z101⟩, st101⟩ := superBack X0 hx hZ (y := (⟨"java/lang/AbstractStringBuilder", "append", "(Ljava/lang/String;)Ljava/lang/AbstractStringBuilder;"⟩ : MethodName)) hown (own_w hw 125 rfl) (own_same (own_w hw 142 rfl) (own_w hw 140 rfl) (own_w hw 126 rfl) rfl (by decide)) (own_w hw 126 rfl) (own_w hw 114 rfl) (by decide) (backOf (W := 0) (rmAa1 l Z a0 hw [] a sg va za kc_za kc_va v0 v1 v2 v3 v4 v5 v6 v7 v8 v9 v10 v11 v12 v13 v14 v15 cs h0 n0 Z0 E0_a F0_a_value F0_a_coder F0_a_count E0_sg F0_sg_coder F0_sg_value V0_za V0_va ne0_a_va ne0_za_va ne0_a_za ne0_a_sg ne0_sg_va S0_COMPACT_STRINGS ge0_a ge0_va hcs) hZ (own_w hw 128 rfl) (own_w hw 71 rfl) (by decide) (by decide)) e0 (Ins.self E0_a) (g := (mkF m 2 #[.val (.ref a), .val (.ref sg)] [(.ref sg), (.ref a)])) rfl (by rw [hml]; rfl) (own_w hw 128 rfl) (argsL := [(.ref sg)]) (rest := []) (lenOf pdBa1_0 rfl) rfl (by show 2 * 0 + _ ≤ _; exact Nat.le_of_eq rfl) (hb hby dBa0_2) (fun _ _ => ⟨rfl, e0, (by decide : 0 + 0 ≤ _), (by decide : 0 + 0 ≤ _)⟩)
  dsimp only [Pt.U, Pt.locs, Pt.cells, Pt.slots] at X101 l101 y101 z101 st101 hQ101
  subst l101 y101 z101
  obtain ⟨rfl, N101q, K101, g101_0, g101_1, g101_2, g101_3, g101_4⟩ := hQ101
  have S102_COMPACT_STRINGS := own_stakeep S0_COMPACT_STRINGS K101 (allS (own_ns E0_a) (allS (own_nsA V0_va) all0))
  have Z102 := Nat.le_trans Z0 K101.1
  have K102 : Keep h0 T101.heap [a, va] := Keep.trans (Keep.refl h0 [a, va]) K101 (allS (Or.inl (by simp)) (allS (Or.inl (by simp)) all0))
  have N101 := Fr.app N0 N101q
  refine Go.by (fun _ kont => XS.aloadN X0.here hx rfl (hb hby dBa0_0) rfl rfl (XS.aloadN X0.here hx rfl (hb hby dBa0_1) rfl rfl (st101.trans (XS.pop X101.here hx rfl (hb hby dBa0_5) rfl rfl (XS.aloadN X101.here hx rfl (hb hby dBa0_6) rfl rfl kont))))) ?_
  show Go _ _ _ _ _ _ _ (T101.setTop (mkF m 7 #[.val (.ref a), .val (.ref sg)] [(.ref a)]))
  refine Go.retR X101 hx hret rfl rfl hlk (hb hby dBa0_7) ?_ (by decide) (by decide)
  show QBa1 Z a va kc_va v6 v7 v8 v9 v10 v11 v12 v13 v14 v15 h0 n0 (some (.ref a)) T101.heap _
  exact ⟨rfl, N101, K102, g101_0, g101_1, g101_2, g101_3, g101_4⟩

theorem pdGb2_0 : parseMethodDescriptor "()B" = some ⟨[], some .byte⟩ := by decide +kernel
theorem pnGb2 : plainName "java/lang/String" = true := by first | (simp [plainName, overriddenIn]; done) | decide +kernel
theorem efGb2 (m : MethodId) (sg : Addr) (va : Addr) : entryFrame m #[(.ref sg), (.ref va), (.int 6), (.int 0)] 4 = mkF m 0 #[.val (.ref sg), .val (.ref va), .val (.int 6), .val (.int 0)] [] := by first | (simp [entryFrame, mkF, argsToLocals, Value.category]; done) | rfl
def QGb2 (Z : State) (va : Addr) (kc_va : ClassId) (v0 : Int32) (v1 : Int32) (v2 : Int32) (v3 : Int32) (v4 : Int32) (v5 : Int32) (v10 : Int32) (v11 : Int32) (v12 : Int32) (v13 : Int32) (v14 : Int32) (v15 : Int32) (h0 : Heap) (n0 : Nat) (v : Option Value) (h : Heap) (L : List Loc) : Prop := (v = none ∧ Fr n0 L ∧ Keep h0 h [va] ∧ Arv Z h va kc_va .byte (16 : Int32) [(.int v0), (.int v1), (.int v2), (.int v3), (.int v4), (.int v5), (.int 32), (.int 111), (.int 114), (.int 32), (.int v10), (.int v11), (.int v12), (.int v13), (.int v14), (.int v15)] (.int 0))
set_option maxRecDepth 65536 in
set_option maxHeartbeats 40000000 in
theorem rmGb2 (l : Launch) (Z : State) (a0 : Array Value) (hw : ∀ d ∈ tables_1, d.before a0 Z = true) (ws : List Jvm.Cond) (sg : Addr) (va : Addr) (za : Addr) (kc_za : ClassId) (kc_va : ClassId) (v0 : Int32) (v1 : Int32) (v2 : Int32) (v3 : Int32) (v4 : Int32) (v5 : Int32) (v6 : Int32) (v7 : Int32) (v8 : Int32) (v9 : Int32) (v10 : Int32) (v11 : Int32) (v12 : Int32) (v13 : Int32) (v14 : Int32) (v15 : Int32) (cs : Int32) (h0 : Heap) (n0 : Nat) (Z0 : n0 ≤ h0.size) (E0_sg : Exa Z h0 sg "java/lang/String") (F0_sg_coder : Fld Z h0 sg "java/lang/String" "coder" "B" (.int 0)) (F0_sg_value : Fld Z h0 sg "java/lang/String" "value" "[B" (.ref za)) (V0_za : Arv Z h0 za kc_za .byte (4 : Int32) [(.int 32), (.int 111), (.int 114), (.int 32)] (.int 0)) (V0_va : Arv Z h0 va kc_va .byte (16 : Int32) [(.int v0), (.int v1), (.int v2), (.int v3), (.int v4), (.int v5), (.int v6), (.int v7), (.int v8), (.int v9), (.int v10), (.int v11), (.int v12), (.int v13), (.int v14), (.int v15)] (.int 0)) (ne0_za_va : za ≠ va) (ne0_sg_va : sg ≠ va) (S0_COMPACT_STRINGS : Sta Z h0 "java/lang/String" "COMPACT_STRINGS" "Z" (.int cs)) (ge0_va : n0 ≤ va) (hcs : ¬ (cs = (0 : Int32))) :
    Ct l Z (⟨"java/lang/String", "getBytes", "([BIB)V"⟩ : MethodName) jdk_42_method_147_code 4 none ws (⟨1, 0, 0, 18⟩ : Room) #[(.ref sg), (.ref va), (.int 6), (.int 0)] h0 (QGb2 Z va kc_va v0 v1 v2 v3 v4 v5 v10 v11 v12 v13 v14 v15 h0 n0) := by
  refine MetFree.of_bodySF (plainFor_of_name pnGb2) hisR ?_
  intro p e s m args below meth c s₁ Bd hml hP hK
  obtain ⟨rfl, hZ, hh⟩ := hP
  obtain ⟨hx, hby, hown, hnm, hlk, hret, X0, e0⟩ := own_st Bd "java/lang/String" rfl hh
  have N0 := Fr.nil n0
  show Go p e below s (⟨1, 0, 0, 18⟩ : Room).cells (⟨1, 0, 0, 18⟩ : Room).slots (QGb2 Z va kc_va v0 v1 v2 v3 v4 v5 v10 v11 v12 v13 v14 v15 h0 n0) (s₁.setTop (entryFrame m #[(.ref sg), (.ref va), (.int 6), (.int 0)] 4))
  rw [efGb2]
  obtain ⟨cq101, kq101, q101a, q101b, q101c⟩ := isOf hZ e0 E0_sg
  obtain ⟨_, _, ⟨T101, L101, k101, n101⟩, -, X101, ⟨Lc101, hQ101, l101, y101, z101⟩, st101⟩ := X0.virtualBack hx (y := (⟨"java/lang/String", "coder", "()B"⟩ : MethodName)) (z := (⟨"java/lang/String", "coder", "()B"⟩ : MethodName)) hown (mvT hZ (own_w hw 134 rfl)) (mvT hZ (own_w hw 135 rfl)) (notFace_of_selects (args := #[]) (mvT hZ (own_w hw 137 rfl))) (mvT hZ (own_w hw 137 rfl)) (mvT hZ (own_w hw 136 rfl)) (by decide) (backOf (W := 0) (rmCo l Z a0 hw [] sg cs h0 n0 Z0 E0_sg F0_sg_coder S0_COMPACT_STRINGS hcs) hZ (own_w hw 138 rfl) (own_w hw 7 rfl) (by decide) (by decide)) q101a q101c (g := (mkF m 1 #[.val (.ref sg), .val (.ref va), .val (.int 6), .val (.int 0)] [(.ref sg)])) rfl (by rw [hml]; rfl) (Steps.refl _) (argsL := []) (rest := []) (lenOf pdGb2_0 rfl) rfl (by show 2 * 0 + _ ≤ _; exact Nat.le_of_eq rfl) (hb hby dGb0_1) (fun _ _ => ⟨rfl, e0, (by decide : 0 + 0 ≤ _), (by decide : 0 + 0 ≤ _)⟩)
  dsimp only [Pt.U, Pt.locs, Pt.cells, Pt.slots] at X101 l101 y101 z101 st101 hQ101
  subst l101 y101 z101
  obtain ⟨rfl, N101q, eh101⟩ := hQ101
  have N101 := Fr.app N0 N101q
  obtain ⟨T102, X102, e102, st102⟩ := getF X101 hx hZ hown (host := "") (Or.inl (own_w hw 32 rfl)) Via.refl eh101 F0_sg_value (g := (mkF m 9 #[.val (.ref sg), .val (.ref va), .val (.int 6), .val (.int 0)] [(.ref sg)])) rfl rfl (hb hby dGb0_9)
  obtain ⟨T103, X103, e103, st103⟩ := getF X102 hx hZ hown (host := "") (Or.inl (own_w hw 32 rfl)) Via.refl e102 F0_sg_value (g := (mkF m 18 #[.val (.ref sg), .val (.ref va), .val (.int 6), .val (.int 0)] [(.ref sg), (.int 6), (.ref va), (.int 0), (.ref za)])) rfl rfl (hb hby dGb0_18)
  obtain ⟨cl_q104, Ar_q104, q1_q104, S_q104, N_q104, H_q104, G_q104⟩ := id V0_za
  obtain ⟨T105, h105, L105, X105, e105, N105, K105, V105, st105⟩ := cpA X103 hx hZ hown (own_w hw 160 rfl) (own_w hw 163 rfl) (own_w hw 161 rfl) (own_w hw 162 rfl) e103 V0_za V0_va (us := [(.int 32), (.int 111), (.int 114), (.int 32)]) (Or.inl ⟨rfl, rfl⟩) (by decide) (by decide) (by decide) (by decide) (by decide) rfl (Nat.le_of_ble_eq_true rfl) N101 ge0_va (g := (mkF m 22 #[.val (.ref sg), .val (.ref va), .val (.int 6), .val (.int 0)] [(.int 4), (.int 6), (.ref va), (.int 0), (.ref za)])) rfl (by rw [hml]; rfl) rfl (hb hby dGb0_22) (by decide) (W := 0) (by show 2 * 0 + _ ≤ _; exact Nat.le_of_eq rfl) (by decide)
  have Vz105 : Arv Z h105 va kc_va .byte (16 : Int32) [(.int v0), (.int v1), (.int v2), (.int v3), (.int v4), (.int v5), (.int 32), (.int 111), (.int 114), (.int 32), (.int v10), (.int v11), (.int v12), (.int v13), (.int v14), (.int v15)] (.int 0) := V105
  have S106_COMPACT_STRINGS := own_stakeep S0_COMPACT_STRINGS K105 (allS (own_nsA V0_va) all0)
  have Z106 := Nat.le_trans Z0 K105.1
  have K106 : Keep h0 h105 [va] := Keep.trans (Keep.refl h0 [va]) K105 (allS (Or.inl (by simp)) all0)
  refine Go.by (fun _ kont => XS.aloadN X0.here hx rfl (hb hby dGb0_0) rfl rfl (st101.trans (XS.iloadN X101.here hx rfl (hb hby dGb0_4) rfl (XS.icmpNo X101.here hx rfl (hb hby dGb0_5) rfl (by decide) (XS.aloadN X101.here hx rfl (hb hby dGb0_8) rfl rfl (st102 _ (XS.iconst X102.here hx rfl (hb hby dGb0_12) (XS.aloadN X102.here hx rfl (hb hby dGb0_13) rfl rfl (XS.iloadN X102.here hx rfl (hb hby dGb0_14) rfl (XS.iloadN X102.here hx rfl (hb hby dGb0_15) rfl (XS.ishl X102.here hx rfl (hb hby dGb0_16) rfl (own_fI (show ((6 : Int32) <<< ((0 : Int32) &&& 31)) = (6 : Int32) from by decide) (XS.aloadN X102.here hx rfl (hb hby dGb0_17) rfl rfl (st103 _ (X103.arraylength hx (own_at e103 Ar_q104.1) (State.isArrayOf_alike hZ.alike Ar_q104.2.1) (g := (mkF m 21 #[.val (.ref sg), .val (.ref va), .val (.int 6), .val (.int 0)] [(.ref za), (.int 6), (.ref va), (.int 0), (.ref za)])) rfl rfl (hb hby dGb0_21) _ (own_fI (len_of S_q104 N_q104) (st105 _ (XS.goto X105.here hx rfl (pc0 := 25) (pc' := 43) rfl (hb hby dGb0_25) (by decide) (by decide) kont)))))))))))))))))) ?_
  show Go _ _ _ _ _ _ _ (T105.setTop (mkF m 43 #[.val (.ref sg), .val (.ref va), .val (.int 6), .val (.int 0)] []))
  refine Go.retV X105 hx hret hlk (hb hby dGb0_43) ?_ (by decide) (by decide)
  show QGb2 Z va kc_va v0 v1 v2 v3 v4 v5 v10 v11 v12 v13 v14 v15 h0 n0 none T105.heap _
  rw [e105]
  exact ⟨rfl, N105, K106, Vz105⟩

theorem pdPs2_0 : parseMethodDescriptor "(Ljava/lang/String;)V" = some ⟨[(.object "java/lang/String")], none⟩ := by decide +kernel
theorem pdPs2_1 : parseMethodDescriptor "([BIB)V" = some ⟨[(.array .byte), .int, .byte], none⟩ := by decide +kernel
theorem pnPs2 : plainName "java/lang/AbstractStringBuilder" = true := by first | (simp [plainName, overriddenIn]; done) | decide +kernel
theorem efPs2 (m : MethodId) (a : Addr) (sg : Addr) : entryFrame m #[(.ref a), (.int 6), (.ref sg)] 3 = mkF m 0 #[.val (.ref a), .val (.int 6), .val (.ref sg)] [] := by first | (simp [entryFrame, mkF, argsToLocals, Value.category]; done) | rfl
def QPs2 (Z : State) (va : Addr) (kc_va : ClassId) (v0 : Int32) (v1 : Int32) (v2 : Int32) (v3 : Int32) (v4 : Int32) (v5 : Int32) (v10 : Int32) (v11 : Int32) (v12 : Int32) (v13 : Int32) (v14 : Int32) (v15 : Int32) (h0 : Heap) (n0 : Nat) (v : Option Value) (h : Heap) (L : List Loc) : Prop := (v = none ∧ Fr n0 L ∧ Keep h0 h [va] ∧ Arv Z h va kc_va .byte (16 : Int32) [(.int v0), (.int v1), (.int v2), (.int v3), (.int v4), (.int v5), (.int 32), (.int 111), (.int 114), (.int 32), (.int v10), (.int v11), (.int v12), (.int v13), (.int v14), (.int v15)] (.int 0))
set_option maxRecDepth 65536 in
set_option maxHeartbeats 40000000 in
theorem rmPs2 (l : Launch) (Z : State) (a0 : Array Value) (hw : ∀ d ∈ tables_1, d.before a0 Z = true) (ws : List Jvm.Cond) (a : Addr) (sg : Addr) (va : Addr) (za : Addr) (kc_za : ClassId) (kc_va : ClassId) (v0 : Int32) (v1 : Int32) (v2 : Int32) (v3 : Int32) (v4 : Int32) (v5 : Int32) (v6 : Int32) (v7 : Int32) (v8 : Int32) (v9 : Int32) (v10 : Int32) (v11 : Int32) (v12 : Int32) (v13 : Int32) (v14 : Int32) (v15 : Int32) (cs : Int32) (h0 : Heap) (n0 : Nat) (Z0 : n0 ≤ h0.size) (E0_a : Exa Z h0 a "java/lang/StringBuilder") (F0_a_value : Fld Z h0 a "java/lang/AbstractStringBuilder" "value" "[B" (.ref va)) (F0_a_coder : Fld Z h0 a "java/lang/AbstractStringBuilder" "coder" "B" (.int 0)) (E0_sg : Exa Z h0 sg "java/lang/String") (F0_sg_coder : Fld Z h0 sg "java/lang/String" "coder" "B" (.int 0)) (F0_sg_value : Fld Z h0 sg "java/lang/String" "value" "[B" (.ref za)) (V0_za : Arv Z h0 za kc_za .byte (4 : Int32) [(.int 32), (.int 111), (.int 114), (.int 32)] (.int 0)) (V0_va : Arv Z h0 va kc_va .byte (16 : Int32) [(.int v0), (.int v1), (.int v2), (.int v3), (.int v4), (.int v5), (.int v6), (.int v7), (.int v8), (.int v9), (.int v10), (.int v11), (.int v12), (.int v13), (.int v14), (.int v15)] (.int 0)) (ne0_a_va : a ≠ va) (ne0_za_va : za ≠ va) (ne0_a_za : a ≠ za) (ne0_a_sg : a ≠ sg) (ne0_sg_va : sg ≠ va) (S0_COMPACT_STRINGS : Sta Z h0 "java/lang/String" "COMPACT_STRINGS" "Z" (.int cs)) (ge0_va : n0 ≤ va) (hcs : ¬ (cs = (0 : Int32))) :
    Ct l Z (⟨"java/lang/AbstractStringBuilder", "putStringAt", "(ILjava/lang/String;)V"⟩ : MethodName) jdk_68_method_73_code 3 none ws (⟨2, 0, 0, 33⟩ : Room) #[(.ref a), (.int 6), (.ref sg)] h0 (QPs2 Z va kc_va v0 v1 v2 v3 v4 v5 v10 v11 v12 v13 v14 v15 h0 n0) := by
  refine MetFree.of_bodySF (plainFor_of_name pnPs2) hisR ?_
  intro p e s m args below meth c s₁ Bd hml hP hK
  obtain ⟨rfl, hZ, hh⟩ := hP
  obtain ⟨hx, hby, hown, hnm, hlk, hret, X0, e0⟩ := own_st Bd "java/lang/AbstractStringBuilder" rfl hh
  have N0 := Fr.nil n0
  show Go p e below s (⟨2, 0, 0, 33⟩ : Room).cells (⟨2, 0, 0, 33⟩ : Room).slots (QPs2 Z va kc_va v0 v1 v2 v3 v4 v5 v10 v11 v12 v13 v14 v15 h0 n0) (s₁.setTop (entryFrame m #[(.ref a), (.int 6), (.ref sg)] 3))
  rw [efPs2]
  obtain ⟨cq101, q101, q101'⟩ := E0_a.cell
  obtain ⟨_, _, ⟨T101, L101, k101, n101⟩, -, X101, ⟨Lc101, hQ101, l101, y101, z101⟩, st101⟩ := X0.privateBack hx (y := (⟨"java/lang/AbstractStringBuilder", "inflateIfNeededFor", "(Ljava/lang/String;)V"⟩ : MethodName)) hown (mvT hZ (own_w hw 149 rfl)) (mvT hZ (own_w hw 150 rfl)) (own_selp2 hZ (own_w hw 152 rfl) (own_w hw 151 rfl) (own_w hw 150 rfl) (by decide)) (Cond.privateMethod_at (mvP hZ (own_w hw 151 rfl) (args := #[]))) (mvT hZ (own_w hw 153 rfl)) (by decide) (backOf (W := 0) (rmIn l Z a0 hw [] a sg cs h0 n0 Z0 E0_a F0_a_coder E0_sg F0_sg_coder S0_COMPACT_STRINGS hcs) hZ (own_w hw 153 rfl) (own_w hw 71 rfl) (by decide) (by decide)) (g := (mkF m 2 #[.val (.ref a), .val (.int 6), .val (.ref sg)] [(.ref sg), (.ref a)])) rfl (by rw [hml]; rfl) (Steps.refl _) (a := a) (by rw [e0]; exact q101) q101' (argsL := [(.ref sg)]) (rest := []) (lenOf pdPs2_0 rfl) rfl (by show 2 * 0 + _ ≤ _; exact Nat.le_of_eq rfl) (hb hby dPs0_2) (fun _ _ => ⟨rfl, e0, (by decide : 0 + 0 ≤ _), (by decide : 0 + 0 ≤ _)⟩)
  dsimp only [Pt.U, Pt.locs, Pt.cells, Pt.slots] at X101 l101 y101 z101 st101 hQ101
  subst l101 y101 z101
  obtain ⟨rfl, N101q, eh101⟩ := hQ101
  have N101 := Fr.app N0 N101q
  obtain ⟨T102, X102, e102, st102⟩ := getF X101 hx hZ hown (host := "") (Or.inl (own_w hw 75 rfl)) Via.refl eh101 F0_a_value (g := (mkF m 7 #[.val (.ref a), .val (.int 6), .val (.ref sg)] [(.ref a), (.ref sg)])) rfl rfl (hb hby dPs0_7)
  obtain ⟨T103, X103, e103, st103⟩ := getF X102 hx hZ hown (host := "") (Or.inl (own_w hw 77 rfl)) Via.refl e102 F0_a_coder (g := (mkF m 12 #[.val (.ref a), .val (.int 6), .val (.ref sg)] [(.ref a), (.int 6), (.ref va), (.ref sg)])) rfl rfl (hb hby dPs0_12)
  obtain ⟨cq104, kq104, q104a, q104b, q104c⟩ := isOf hZ e103 E0_sg
  obtain ⟨_, _, ⟨T104, L104, k104, n104⟩, -, X104, ⟨Lc104, hQ104, l104, y104, z104⟩, st104⟩ := X103.virtualBack hx (y := (⟨"java/lang/String", "getBytes", "([BIB)V"⟩ : MethodName)) (z := (⟨"java/lang/String", "getBytes", "([BIB)V"⟩ : MethodName)) hown (mvT hZ (own_w hw 155 rfl)) (mvT hZ (own_w hw 156 rfl)) (notFace_of_selects (args := #[]) (mvT hZ (own_w hw 158 rfl))) (mvT hZ (own_w hw 158 rfl)) (mvT hZ (own_w hw 157 rfl)) (by decide) (backOf (W := 0) (rmGb2 l Z a0 hw [] sg va za kc_za kc_va v0 v1 v2 v3 v4 v5 v6 v7 v8 v9 v10 v11 v12 v13 v14 v15 cs h0 n0 Z0 E0_sg F0_sg_coder F0_sg_value V0_za V0_va ne0_za_va ne0_sg_va S0_COMPACT_STRINGS ge0_va hcs) hZ (own_w hw 159 rfl) (own_w hw 7 rfl) (by decide) (by decide)) q104a q104c (g := (mkF m 15 #[.val (.ref a), .val (.int 6), .val (.ref sg)] [(.int 0), (.int 6), (.ref va), (.ref sg)])) rfl (by rw [hml]; rfl) (Steps.refl _) (argsL := [(.ref va), (.int 6), (.int 0)]) (rest := []) (lenOf pdPs2_1 rfl) rfl (by show 2 * 0 + _ ≤ _; exact Nat.le_of_eq rfl) (hb hby dPs0_15) (fun _ _ => ⟨rfl, e103, (by decide : 0 + 0 ≤ _), (by decide : 0 + 0 ≤ _)⟩)
  dsimp only [Pt.U, Pt.locs, Pt.cells, Pt.slots] at X104 l104 y104 z104 st104 hQ104
  subst l104 y104 z104
  obtain ⟨rfl, N104q, K104, g104_0⟩ := hQ104
  have S105_COMPACT_STRINGS := own_stakeep S0_COMPACT_STRINGS K104 (allS (own_nsA V0_va) all0)
  have Z105 := Nat.le_trans Z0 K104.1
  have K105 : Keep h0 T104.heap [va] := Keep.trans (Keep.refl h0 [va]) K104 (allS (Or.inl (by simp)) all0)
  have N104 := Fr.app N101 N104q
  refine Go.by (fun _ kont => XS.aloadN X0.here hx rfl (hb hby dPs0_0) rfl rfl (XS.aloadN X0.here hx rfl (hb hby dPs0_1) rfl rfl (st101.trans (XS.aloadN X101.here hx rfl (hb hby dPs0_5) rfl rfl (XS.aloadN X101.here hx rfl (hb hby dPs0_6) rfl rfl (st102 _ (XS.iloadN X102.here hx rfl (hb hby dPs0_10) rfl (XS.aloadN X102.here hx rfl (hb hby dPs0_11) rfl rfl (st103 _ (st104.trans kont)))))))))) ?_
  show Go _ _ _ _ _ _ _ (T104.setTop (mkF m 18 #[.val (.ref a), .val (.int 6), .val (.ref sg)] []))
  refine Go.retV X104 hx hret hlk (hb hby dPs0_18) ?_ (by decide) (by decide)
  show QPs2 Z va kc_va v0 v1 v2 v3 v4 v5 v10 v11 v12 v13 v14 v15 h0 n0 none T104.heap _
  exact ⟨rfl, N104, K105, g104_0⟩

theorem pdAa2_0 : parseMethodDescriptor "()I" = some ⟨[], some .int⟩ := by decide +kernel
theorem pdAa2_1 : parseMethodDescriptor "(I)V" = some ⟨[.int], none⟩ := by decide +kernel
theorem pdAa2_2 : parseMethodDescriptor "(ILjava/lang/String;)V" = some ⟨[.int, (.object "java/lang/String")], none⟩ := by decide +kernel
theorem pnAa2 : plainName "java/lang/AbstractStringBuilder" = true := by first | (simp [plainName, overriddenIn]; done) | decide +kernel
theorem efAa2 (m : MethodId) (a : Addr) (sg : Addr) : entryFrame m #[(.ref a), (.ref sg)] 3 = mkF m 0 #[.val (.ref a), .val (.ref sg), .unset] [] := by first | (simp [entryFrame, mkF, argsToLocals, Value.category]; done) | rfl
def QAa2 (Z : State) (a : Addr) (va : Addr) (kc_va : ClassId) (v0 : Int32) (v1 : Int32) (v2 : Int32) (v3 : Int32) (v4 : Int32) (v5 : Int32) (v10 : Int32) (v11 : Int32) (v12 : Int32) (v13 : Int32) (v14 : Int32) (v15 : Int32) (h0 : Heap) (n0 : Nat) (v : Option Value) (h : Heap) (L : List Loc) : Prop := (v = some (.ref a) ∧ Fr n0 L ∧ Keep h0 h [a, va] ∧ Exa Z h a "java/lang/StringBuilder" ∧ Fld Z h a "java/lang/AbstractStringBuilder" "value" "[B" (.ref va) ∧ Fld Z h a "java/lang/AbstractStringBuilder" "coder" "B" (.int 0) ∧ Fld Z h a "java/lang/AbstractStringBuilder" "count" "I" (.int 10) ∧ Arv Z h va kc_va .byte (16 : Int32) [(.int v0), (.int v1), (.int v2), (.int v3), (.int v4), (.int v5), (.int 32), (.int 111), (.int 114), (.int 32), (.int v10), (.int v11), (.int v12), (.int v13), (.int v14), (.int v15)] (.int 0))
set_option maxRecDepth 65536 in
set_option maxHeartbeats 40000000 in
theorem rmAa2 (l : Launch) (Z : State) (a0 : Array Value) (hw : ∀ d ∈ tables_1, d.before a0 Z = true) (ws : List Jvm.Cond) (a : Addr) (sg : Addr) (va : Addr) (za : Addr) (kc_za : ClassId) (kc_va : ClassId) (v0 : Int32) (v1 : Int32) (v2 : Int32) (v3 : Int32) (v4 : Int32) (v5 : Int32) (v6 : Int32) (v7 : Int32) (v8 : Int32) (v9 : Int32) (v10 : Int32) (v11 : Int32) (v12 : Int32) (v13 : Int32) (v14 : Int32) (v15 : Int32) (cs : Int32) (h0 : Heap) (n0 : Nat) (Z0 : n0 ≤ h0.size) (E0_a : Exa Z h0 a "java/lang/StringBuilder") (F0_a_value : Fld Z h0 a "java/lang/AbstractStringBuilder" "value" "[B" (.ref va)) (F0_a_coder : Fld Z h0 a "java/lang/AbstractStringBuilder" "coder" "B" (.int 0)) (F0_a_count : Fld Z h0 a "java/lang/AbstractStringBuilder" "count" "I" (.int 6)) (E0_sg : Exa Z h0 sg "java/lang/String") (F0_sg_coder : Fld Z h0 sg "java/lang/String" "coder" "B" (.int 0)) (F0_sg_value : Fld Z h0 sg "java/lang/String" "value" "[B" (.ref za)) (V0_za : Arv Z h0 za kc_za .byte (4 : Int32) [(.int 32), (.int 111), (.int 114), (.int 32)] (.int 0)) (V0_va : Arv Z h0 va kc_va .byte (16 : Int32) [(.int v0), (.int v1), (.int v2), (.int v3), (.int v4), (.int v5), (.int v6), (.int v7), (.int v8), (.int v9), (.int v10), (.int v11), (.int v12), (.int v13), (.int v14), (.int v15)] (.int 0)) (ne0_a_va : a ≠ va) (ne0_za_va : za ≠ va) (ne0_a_za : a ≠ za) (ne0_a_sg : a ≠ sg) (ne0_sg_va : sg ≠ va) (S0_COMPACT_STRINGS : Sta Z h0 "java/lang/String" "COMPACT_STRINGS" "Z" (.int cs)) (ge0_a : n0 ≤ a) (ge0_va : n0 ≤ va) (hcs : ¬ (cs = (0 : Int32))) :
    Ct l Z (⟨"java/lang/AbstractStringBuilder", "append", "(Ljava/lang/String;)Ljava/lang/AbstractStringBuilder;"⟩ : MethodName) jdk_68_method_22_code 3 (some (.object "java/lang/AbstractStringBuilder")) ws (⟨3, 0, 0, 47⟩ : Room) #[(.ref a), (.ref sg)] h0 (QAa2 Z a va kc_va v0 v1 v2 v3 v4 v5 v10 v11 v12 v13 v14 v15 h0 n0) := by
  refine MetFree.of_bodySF (plainFor_of_name pnAa2) hisR ?_
  intro p e s m args below meth c s₁ Bd hml hP hK
  obtain ⟨rfl, hZ, hh⟩ := hP
  obtain ⟨hx, hby, hown, hnm, hlk, hret, X0, e0⟩ := own_st Bd "java/lang/AbstractStringBuilder" rfl hh
  have N0 := Fr.nil n0
  show Go p e below s (⟨3, 0, 0, 47⟩ : Room).cells (⟨3, 0, 0, 47⟩ : Room).slots (QAa2 Z a va kc_va v0 v1 v2 v3 v4 v5 v10 v11 v12 v13 v14 v15 h0 n0) (s₁.setTop (entryFrame m #[(.ref a), (.ref sg)] 3))
  rw [efAa2]
  obtain ⟨cq101, kq101, q101a, q101b, q101c⟩ := isOf hZ e0 E0_sg
  obtain ⟨_, _, ⟨T101, L101, k101, n101⟩, -, X101, ⟨Lc101, hQ101, l101, y101, z101⟩, st101⟩ := X0.virtualBack hx (y := (⟨"java/lang/String", "length", "()I"⟩ : MethodName)) (z := (⟨"java/lang/String", "length", "()I"⟩ : MethodName)) hown (mvT hZ (own_w hw 129 rfl)) (mvT hZ (own_w hw 130 rfl)) (notFace_of_selects (args := #[]) (mvT hZ (own_w hw 132 rfl))) (mvT hZ (own_w hw 132 rfl)) (mvT hZ (own_w hw 131 rfl)) (by decide) (backOf (W := 0) (rmSl2 l Z a0 hw [] sg za kc_za cs h0 n0 Z0 E0_sg F0_sg_coder F0_sg_value V0_za S0_COMPACT_STRINGS hcs) hZ (own_w hw 133 rfl) (own_w hw 7 rfl) (by decide) (by decide)) q101a q101c (g := (mkF m 10 #[.val (.ref a), .val (.ref sg), .unset] [(.ref sg)])) rfl (by rw [hml]; rfl) (Steps.refl _) (argsL := []) (rest := []) (lenOf pdAa2_0 rfl) rfl (by show 2 * 0 + _ ≤ _; exact Nat.le_of_eq rfl) (hb hby dAa0_10) (fun _ _ => ⟨rfl, e0, (by decide : 0 + 0 ≤ _), (by decide : 0 + 0 ≤ _)⟩)
  dsimp only [Pt.U, Pt.locs, Pt.cells, Pt.slots] at X101 l101 y101 z101 st101 hQ101
  subst l101 y101 z101
  obtain ⟨rfl, N101q, eh101⟩ := hQ101
  have N101 := Fr.app N0 N101q
  obtain ⟨T102, X102, e102, st102⟩ := getF X101 hx hZ hown (host := "") (Or.inl (own_w hw 117 rfl)) Via.refl eh101 F0_a_count (g := (mkF m 16 #[.val (.ref a), .val (.ref sg), .val (.int 4)] [(.ref a), (.ref a)])) rfl rfl (hb hby dAa0_16)
  obtain ⟨cq103, q103, q103'⟩ := E0_a.cell
  obtain ⟨_, _, ⟨T103, L103, k103, n103⟩, -, X103, ⟨Lc103, hQ103, l103, y103, z103⟩, st103⟩ := X102.privateBack hx (y := (⟨"java/lang/AbstractStringBuilder", "ensureCapacityInternal", "(I)V"⟩ : MethodName)) hown (mvT hZ (own_w hw 139 rfl)) (mvT hZ (own_w hw 140 rfl)) (own_selp2 hZ (own_w hw 142 rfl) (own_w hw 141 rfl) (own_w hw 140 rfl) (by decide)) (Cond.privateMethod_at (mvP hZ (own_w hw 141 rfl) (args := #[]))) (mvT hZ (own_w hw 143 rfl)) (by decide) (backOf (W := 0) (rmEc10 l Z a0 hw [] a va kc_va v0 v1 v2 v3 v4 v5 v6 v7 v8 v9 v10 v11 v12 v13 v14 v15 h0 n0 Z0 E0_a F0_a_value F0_a_coder V0_va) hZ (own_w hw 143 rfl) (own_w hw 71 rfl) (by decide) (by decide)) (g := (mkF m 21 #[.val (.ref a), .val (.ref sg), .val (.int 4)] [(.int 10), (.ref a)])) rfl (by rw [hml]; rfl) (Steps.refl _) (a := a) (by rw [e102]; exact q103) q103' (argsL := [(.int 10)]) (rest := []) (lenOf pdAa2_1 rfl) rfl (by show 2 * 0 + _ ≤ _; exact Nat.le_of_eq rfl) (hb hby dAa0_21) (fun _ _ => ⟨rfl, e102, (by decide : 0 + 0 ≤ _), (by decide : 0 + 0 ≤ _)⟩)
  dsimp only [Pt.U, Pt.locs, Pt.cells, Pt.slots] at X103 l103 y103 z103 st103 hQ103
  subst l103 y103 z103
  obtain ⟨rfl, N103q, eh103⟩ := hQ103
  have N103 := Fr.app N101 N103q
  obtain ⟨T104, X104, e104, st104⟩ := getF X103 hx hZ hown (host := "") (Or.inl (own_w hw 117 rfl)) Via.refl eh103 F0_a_count (g := (mkF m 26 #[.val (.ref a), .val (.ref sg), .val (.int 4)] [(.ref a), (.ref a)])) rfl rfl (hb hby dAa0_26)
  obtain ⟨cq105, q105, q105'⟩ := E0_a.cell
  obtain ⟨_, _, ⟨T105, L105, k105, n105⟩, -, X105, ⟨Lc105, hQ105, l105, y105, z105⟩, st105⟩ := X104.privateBack hx (y := (⟨"java/lang/AbstractStringBuilder", "putStringAt", "(ILjava/lang/String;)V"⟩ : MethodName)) hown (mvT hZ (own_w hw 144 rfl)) (mvT hZ (own_w hw 145 rfl)) (own_selp2 hZ (own_w hw 147 rfl) (own_w hw 146 rfl) (own_w hw 145 rfl) (by decide)) (Cond.privateMethod_at (mvP hZ (own_w hw 146 rfl) (args := #[]))) (mvT hZ (own_w hw 148 rfl)) (by decide) (backOf (W := 0) (rmPs2 l Z a0 hw [] a sg va za kc_za kc_va v0 v1 v2 v3 v4 v5 v6 v7 v8 v9 v10 v11 v12 v13 v14 v15 cs h0 n0 Z0 E0_a F0_a_value F0_a_coder E0_sg F0_sg_coder F0_sg_value V0_za V0_va ne0_a_va ne0_za_va ne0_a_za ne0_a_sg ne0_sg_va S0_COMPACT_STRINGS ge0_va hcs) hZ (own_w hw 148 rfl) (own_w hw 71 rfl) (by decide) (by decide)) (g := (mkF m 30 #[.val (.ref a), .val (.ref sg), .val (.int 4)] [(.ref sg), (.int 6), (.ref a)])) rfl (by rw [hml]; rfl) (Steps.refl _) (a := a) (by rw [e104]; exact q105) q105' (argsL := [(.int 6), (.ref sg)]) (rest := []) (lenOf pdAa2_2 rfl) rfl (by show 2 * 0 + _ ≤ _; exact Nat.le_of_eq rfl) (hb hby dAa0_30) (fun _ _ => ⟨rfl, e104, (by decide : 0 + 0 ≤ _), (by decide : 0 + 0 ≤ _)⟩)
  dsimp only [Pt.U, Pt.locs, Pt.cells, Pt.slots] at X105 l105 y105 z105 st105 hQ105
  subst l105 y105 z105
  obtain ⟨rfl, N105q, K105, g105_0⟩ := hQ105
  have S106_COMPACT_STRINGS := own_stakeep S0_COMPACT_STRINGS K105 (allS (own_nsA V0_va) all0)
  have F106_value_a := F0_a_value.keep K105 (ninS ne0_a_va nin0)
  have F106_coder_a := F0_a_coder.keep K105 (ninS ne0_a_va nin0)
  have F106_count_a := F0_a_count.keep K105 (ninS ne0_a_va nin0)
  have Z106 := Nat.le_trans Z0 K105.1
  have K106 : Keep h0 T105.heap [a, va] := Keep.trans (Keep.refl h0 [a, va]) K105 (allS (Or.inl (by simp)) all0)
  have N105 := Fr.app N103 N105q
  obtain ⟨T107, X107, e107, st107⟩ := getF X105 hx hZ hown (host := "") (Or.inl (own_w hw 117 rfl)) Via.refl rfl F106_count_a (g := (mkF m 35 #[.val (.ref a), .val (.ref sg), .val (.int 4)] [(.ref a), (.ref a)])) rfl rfl (hb hby dAa0_35)
  obtain ⟨T108, h108, X108, e108, W108, st108⟩ := putF X107 hx hZ hown (host := "") (Or.inl (own_w hw 117 rfl)) Via.refl e107 F106_count_a (E0_a.keep K106) (Or.inl (own_w hw 118 rfl)) (own_w hw 62 rfl) (ty := .int) (by decide) rfl rfl (g := (mkF m 40 #[.val (.ref a), .val (.ref sg), .val (.int 4)] [(.int 10), (.ref a)])) rfl rfl (hb hby dAa0_40)
  have Fw108 := F106_count_a.same W108
  have F109_value_a := F106_value_a.other W108 (Or.inr (slot_ne (Or.inl (own_w hw 76 rfl)) (Or.inl (own_w hw 118 rfl)) (by decide) (t := (.array .byte)) (t' := .int) (by decide) (by decide)))
  have F109_coder_a := F106_coder_a.other W108 (Or.inr (slot_ne (Or.inl (own_w hw 78 rfl)) (Or.inl (own_w hw 118 rfl)) (by decide) (t := .byte) (t' := .int) (by decide) (by decide)))
  have V109_va := g105_0.other W108 (Ne.symm ne0_a_va)
  have S109_COMPACT_STRINGS := S106_COMPACT_STRINGS.wr W108
  have Z109 := Nat.le_trans Z106 (Keep.of_wr W108).1
  have K109 : Keep h0 h108 [a, va] := K106.wr W108 (Or.inl (by simp))
  have N108 := Fr.snoc X108 N105 ge0_a
  refine Go.by (fun _ kont => XS.aloadN X0.here hx rfl (hb hby dAa0_0) rfl rfl (XS.ifnonnullYes X0.here hx rfl (pc0 := 1) (pc' := 9) rfl (hb hby dAa0_1) rfl (by decide) (by decide) (XS.aloadN X0.here hx rfl (hb hby dAa0_9) rfl rfl (st101.trans (XS.istoreN X101.here hx rfl (hb hby dAa0_13) rfl (l' := #[.val (.ref a), .val (.ref sg), .val (.int 4)]) rfl (XS.aloadN X101.here hx rfl (hb hby dAa0_14) rfl rfl (XS.aloadN X101.here hx rfl (hb hby dAa0_15) rfl rfl (st102 _ (XS.iloadN X102.here hx rfl (hb hby dAa0_19) rfl (XS.iadd X102.here hx rfl (hb hby dAa0_20) rfl (own_fI (show ((6 : Int32) + (4 : Int32)) = (10 : Int32) from by decide) (st103.trans (XS.aloadN X103.here hx rfl (hb hby dAa0_24) rfl rfl (XS.aloadN X103.here hx rfl (hb hby dAa0_25) rfl rfl (st104 _ (XS.aloadN X104.here hx rfl (hb hby dAa0_29) rfl rfl (st105.trans (XS.aloadN X105.here hx rfl (hb hby dAa0_33) rfl rfl (XS.dup X105.here hx rfl (hb hby dAa0_34) rfl rfl (st107 _ (XS.iloadN X107.here hx rfl (hb hby dAa0_38) rfl (XS.iadd X107.here hx rfl (hb hby dAa0_39) rfl (own_fI (show ((6 : Int32) + (4 : Int32)) = (10 : Int32) from by decide) (st108 _ (XS.aloadN X108.here hx rfl (hb hby dAa0_43) rfl rfl kont))))))))))))))))))))))))) ?_
  show Go _ _ _ _ _ _ _ (T108.setTop (mkF m 44 #[.val (.ref a), .val (.ref sg), .val (.int 4)] [(.ref a)]))
  refine Go.retR X108 hx hret rfl rfl hlk (hb hby dAa0_44) ?_ (by decide) (by decide)
  show QAa2 Z a va kc_va v0 v1 v2 v3 v4 v5 v10 v11 v12 v13 v14 v15 h0 n0 (some (.ref a)) T108.heap _
  rw [e108]
  exact ⟨rfl, N108, K109, (E0_a.keep K109), F109_value_a, F109_coder_a, Fw108, V109_va⟩

theorem pdBa2_0 : parseMethodDescriptor "(Ljava/lang/String;)Ljava/lang/AbstractStringBuilder;" = some ⟨[(.object "java/lang/String")], some (.object "java/lang/AbstractStringBuilder")⟩ := by decide +kernel
theorem pnBa2 : plainName "java/lang/StringBuilder" = true := by first | (simp [plainName, overriddenIn]; done) | decide +kernel
theorem efBa2 (m : MethodId) (a : Addr) (sg : Addr) : entryFrame m #[(.ref a), (.ref sg)] 2 = mkF m 0 #[.val (.ref a), .val (.ref sg)] [] := by first | (simp [entryFrame, mkF, argsToLocals, Value.category]; done) | rfl
def QBa2 (Z : State) (a : Addr) (va : Addr) (kc_va : ClassId) (v0 : Int32) (v1 : Int32) (v2 : Int32) (v3 : Int32) (v4 : Int32) (v5 : Int32) (v10 : Int32) (v11 : Int32) (v12 : Int32) (v13 : Int32) (v14 : Int32) (v15 : Int32) (h0 : Heap) (n0 : Nat) (v : Option Value) (h : Heap) (L : List Loc) : Prop := (v = some (.ref a) ∧ Fr n0 L ∧ Keep h0 h [a, va] ∧ Exa Z h a "java/lang/StringBuilder" ∧ Fld Z h a "java/lang/AbstractStringBuilder" "value" "[B" (.ref va) ∧ Fld Z h a "java/lang/AbstractStringBuilder" "coder" "B" (.int 0) ∧ Fld Z h a "java/lang/AbstractStringBuilder" "count" "I" (.int 10) ∧ Arv Z h va kc_va .byte (16 : Int32) [(.int v0), (.int v1), (.int v2), (.int v3), (.int v4), (.int v5), (.int 32), (.int 111), (.int 114), (.int 32), (.int v10), (.int v11), (.int v12), (.int v13), (.int v14), (.int v15)] (.int 0))
set_option maxRecDepth 65536 in
set_option maxHeartbeats 40000000 in
theorem rmBa2 (l : Launch) (Z : State) (a0 : Array Value) (hw : ∀ d ∈ tables_1, d.before a0 Z = true) (ws : List Jvm.Cond) (a : Addr) (sg : Addr) (va : Addr) (za : Addr) (kc_za : ClassId) (kc_va : ClassId) (v0 : Int32) (v1 : Int32) (v2 : Int32) (v3 : Int32) (v4 : Int32) (v5 : Int32) (v6 : Int32) (v7 : Int32) (v8 : Int32) (v9 : Int32) (v10 : Int32) (v11 : Int32) (v12 : Int32) (v13 : Int32) (v14 : Int32) (v15 : Int32) (cs : Int32) (h0 : Heap) (n0 : Nat) (Z0 : n0 ≤ h0.size) (E0_a : Exa Z h0 a "java/lang/StringBuilder") (F0_a_value : Fld Z h0 a "java/lang/AbstractStringBuilder" "value" "[B" (.ref va)) (F0_a_coder : Fld Z h0 a "java/lang/AbstractStringBuilder" "coder" "B" (.int 0)) (F0_a_count : Fld Z h0 a "java/lang/AbstractStringBuilder" "count" "I" (.int 6)) (E0_sg : Exa Z h0 sg "java/lang/String") (F0_sg_coder : Fld Z h0 sg "java/lang/String" "coder" "B" (.int 0)) (F0_sg_value : Fld Z h0 sg "java/lang/String" "value" "[B" (.ref za)) (V0_za : Arv Z h0 za kc_za .byte (4 : Int32) [(.int 32), (.int 111), (.int 114), (.int 32)] (.int 0)) (V0_va : Arv Z h0 va kc_va .byte (16 : Int32) [(.int v0), (.int v1), (.int v2), (.int v3), (.int v4), (.int v5), (.int v6), (.int v7), (.int v8), (.int v9), (.int v10), (.int v11), (.int v12), (.int v13), (.int v14), (.int v15)] (.int 0)) (ne0_a_va : a ≠ va) (ne0_za_va : za ≠ va) (ne0_a_za : a ≠ za) (ne0_a_sg : a ≠ sg) (ne0_sg_va : sg ≠ va) (S0_COMPACT_STRINGS : Sta Z h0 "java/lang/String" "COMPACT_STRINGS" "Z" (.int cs)) (ge0_a : n0 ≤ a) (ge0_va : n0 ≤ va) (hcs : ¬ (cs = (0 : Int32))) :
    Ct l Z (⟨"java/lang/StringBuilder", "append", "(Ljava/lang/String;)Ljava/lang/StringBuilder;"⟩ : MethodName) jdk_67_method_7_code 2 (some (.object "java/lang/StringBuilder")) ws (⟨4, 0, 0, 61⟩ : Room) #[(.ref a), (.ref sg)] h0 (QBa2 Z a va kc_va v0 v1 v2 v3 v4 v5 v10 v11 v12 v13 v14 v15 h0 n0) := by
  refine MetFree.of_bodySF (plainFor_of_name pnBa2) hisR ?_
  intro p e s m args below meth c s₁ Bd hml hP hK
  obtain ⟨rfl, hZ, hh⟩ := hP
  obtain ⟨hx, hby, hown, hnm, hlk, hret, X0, e0⟩ := own_st Bd "java/lang/StringBuilder" rfl hh
  have N0 := Fr.nil n0
  show Go p e below s (⟨4, 0, 0, 61⟩ : Room).cells (⟨4, 0, 0, 61⟩ : Room).slots (QBa2 Z a va kc_va v0 v1 v2 v3 v4 v5 v10 v11 v12 v13 v14 v15 h0 n0) (s₁.setTop (entryFrame m #[(.ref a), (.ref sg)] 2))
  rw [efBa2]
  obtain ⟨_, _, ⟨T101, L101, k101, n101⟩, -, X101, ⟨Lc101, hQ101, l101, y101, z101⟩, st101⟩ := superBack X0 hx hZ (y := (⟨"java/lang/AbstractStringBuilder", "append", "(Ljava/lang/String;)Ljava/lang/AbstractStringBuilder;"⟩ : MethodName)) hown (own_w hw 125 rfl) (own_same (own_w hw 142 rfl) (own_w hw 140 rfl) (own_w hw 126 rfl) rfl (by decide)) (own_w hw 126 rfl) (own_w hw 114 rfl) (by decide) (backOf (W := 0) (rmAa2 l Z a0 hw [] a sg va za kc_za kc_va v0 v1 v2 v3 v4 v5 v6 v7 v8 v9 v10 v11 v12 v13 v14 v15 cs h0 n0 Z0 E0_a F0_a_value F0_a_coder F0_a_count E0_sg F0_sg_coder F0_sg_value V0_za V0_va ne0_a_va ne0_za_va ne0_a_za ne0_a_sg ne0_sg_va S0_COMPACT_STRINGS ge0_a ge0_va hcs) hZ (own_w hw 128 rfl) (own_w hw 71 rfl) (by decide) (by decide)) e0 (Ins.self E0_a) (g := (mkF m 2 #[.val (.ref a), .val (.ref sg)] [(.ref sg), (.ref a)])) rfl (by rw [hml]; rfl) (own_w hw 128 rfl) (argsL := [(.ref sg)]) (rest := []) (lenOf pdBa2_0 rfl) rfl (by show 2 * 0 + _ ≤ _; exact Nat.le_of_eq rfl) (hb hby dBa0_2) (fun _ _ => ⟨rfl, e0, (by decide : 0 + 0 ≤ _), (by decide : 0 + 0 ≤ _)⟩)
  dsimp only [Pt.U, Pt.locs, Pt.cells, Pt.slots] at X101 l101 y101 z101 st101 hQ101
  subst l101 y101 z101
  obtain ⟨rfl, N101q, K101, g101_0, g101_1, g101_2, g101_3, g101_4⟩ := hQ101
  have S102_COMPACT_STRINGS := own_stakeep S0_COMPACT_STRINGS K101 (allS (own_ns E0_a) (allS (own_nsA V0_va) all0))
  have Z102 := Nat.le_trans Z0 K101.1
  have K102 : Keep h0 T101.heap [a, va] := Keep.trans (Keep.refl h0 [a, va]) K101 (allS (Or.inl (by simp)) (allS (Or.inl (by simp)) all0))
  have N101 := Fr.app N0 N101q
  refine Go.by (fun _ kont => XS.aloadN X0.here hx rfl (hb hby dBa0_0) rfl rfl (XS.aloadN X0.here hx rfl (hb hby dBa0_1) rfl rfl (st101.trans (XS.pop X101.here hx rfl (hb hby dBa0_5) rfl rfl (XS.aloadN X101.here hx rfl (hb hby dBa0_6) rfl rfl kont))))) ?_
  show Go _ _ _ _ _ _ _ (T101.setTop (mkF m 7 #[.val (.ref a), .val (.ref sg)] [(.ref a)]))
  refine Go.retR X101 hx hret rfl rfl hlk (hb hby dBa0_7) ?_ (by decide) (by decide)
  show QBa2 Z a va kc_va v0 v1 v2 v3 v4 v5 v10 v11 v12 v13 v14 v15 h0 n0 (some (.ref a)) T101.heap _
  exact ⟨rfl, N101, K102, g101_0, g101_1, g101_2, g101_3, g101_4⟩

theorem pdGb3_0 : parseMethodDescriptor "()B" = some ⟨[], some .byte⟩ := by decide +kernel
theorem pnGb3 : plainName "java/lang/String" = true := by first | (simp [plainName, overriddenIn]; done) | decide +kernel
theorem efGb3 (m : MethodId) (sg : Addr) (va : Addr) : entryFrame m #[(.ref sg), (.ref va), (.int 10), (.int 0)] 4 = mkF m 0 #[.val (.ref sg), .val (.ref va), .val (.int 10), .val (.int 0)] [] := by first | (simp [entryFrame, mkF, argsToLocals, Value.category]; done) | rfl
def QGb3 (Z : State) (va : Addr) (kc_va : ClassId) (v0 : Int32) (v1 : Int32) (v2 : Int32) (v3 : Int32) (v4 : Int32) (v5 : Int32) (v6 : Int32) (v7 : Int32) (v8 : Int32) (v9 : Int32) (h0 : Heap) (n0 : Nat) (v : Option Value) (h : Heap) (L : List Loc) : Prop := (v = none ∧ Fr n0 L ∧ Keep h0 h [va] ∧ Arv Z h va kc_va .byte (34 : Int32) [(.int v0), (.int v1), (.int v2), (.int v3), (.int v4), (.int v5), (.int v6), (.int v7), (.int v8), (.int v9), (.int 110), (.int 111), (.int 95), (.int 110), (.int 101), (.int 119), (.int 95), (.int 111), (.int 112), (.int 101), (.int 110), (.int 0), (.int 0), (.int 0), (.int 0), (.int 0), (.int 0), (.int 0), (.int 0), (.int 0), (.int 0), (.int 0), (.int 0), (.int 0)] (.int 0))
set_option maxRecDepth 65536 in
set_option maxHeartbeats 40000000 in
theorem rmGb3 (l : Launch) (Z : State) (a0 : Array Value) (hw : ∀ d ∈ tables_1, d.before a0 Z = true) (ws : List Jvm.Cond) (sg : Addr) (va : Addr) (za : Addr) (kc_za : ClassId) (kc_va : ClassId) (v0 : Int32) (v1 : Int32) (v2 : Int32) (v3 : Int32) (v4 : Int32) (v5 : Int32) (v6 : Int32) (v7 : Int32) (v8 : Int32) (v9 : Int32) (v10 : Int32) (v11 : Int32) (v12 : Int32) (v13 : Int32) (v14 : Int32) (v15 : Int32) (cs : Int32) (h0 : Heap) (n0 : Nat) (Z0 : n0 ≤ h0.size) (E0_sg : Exa Z h0 sg "java/lang/String") (F0_sg_coder : Fld Z h0 sg "java/lang/String" "coder" "B" (.int 0)) (F0_sg_value : Fld Z h0 sg "java/lang/String" "value" "[B" (.ref za)) (V0_za : Arv Z h0 za kc_za .byte (11 : Int32) [(.int 110), (.int 111), (.int 95), (.int 110), (.int 101), (.int 119), (.int 95), (.int 111), (.int 112), (.int 101), (.int 110)] (.int 0)) (V0_va : Arv Z h0 va kc_va .byte (34 : Int32) [(.int v0), (.int v1), (.int v2), (.int v3), (.int v4), (.int v5), (.int v6), (.int v7), (.int v8), (.int v9), (.int v10), (.int v11), (.int v12), (.int v13), (.int v14), (.int v15), (.int 0), (.int 0), (.int 0), (.int 0), (.int 0), (.int 0), (.int 0), (.int 0), (.int 0), (.int 0), (.int 0), (.int 0), (.int 0), (.int 0), (.int 0), (.int 0), (.int 0), (.int 0)] (.int 0)) (ne0_za_va : za ≠ va) (ne0_sg_va : sg ≠ va) (S0_COMPACT_STRINGS : Sta Z h0 "java/lang/String" "COMPACT_STRINGS" "Z" (.int cs)) (ge0_va : n0 ≤ va) (hcs : ¬ (cs = (0 : Int32))) :
    Ct l Z (⟨"java/lang/String", "getBytes", "([BIB)V"⟩ : MethodName) jdk_42_method_147_code 4 none ws (⟨1, 0, 0, 18⟩ : Room) #[(.ref sg), (.ref va), (.int 10), (.int 0)] h0 (QGb3 Z va kc_va v0 v1 v2 v3 v4 v5 v6 v7 v8 v9 h0 n0) := by
  refine MetFree.of_bodySF (plainFor_of_name pnGb3) hisR ?_
  intro p e s m args below meth c s₁ Bd hml hP hK
  obtain ⟨rfl, hZ, hh⟩ := hP
  obtain ⟨hx, hby, hown, hnm, hlk, hret, X0, e0⟩ := own_st Bd "java/lang/String" rfl hh
  have N0 := Fr.nil n0
  show Go p e below s (⟨1, 0, 0, 18⟩ : Room).cells (⟨1, 0, 0, 18⟩ : Room).slots (QGb3 Z va kc_va v0 v1 v2 v3 v4 v5 v6 v7 v8 v9 h0 n0) (s₁.setTop (entryFrame m #[(.ref sg), (.ref va), (.int 10), (.int 0)] 4))
  rw [efGb3]
  obtain ⟨cq101, kq101, q101a, q101b, q101c⟩ := isOf hZ e0 E0_sg
  obtain ⟨_, _, ⟨T101, L101, k101, n101⟩, -, X101, ⟨Lc101, hQ101, l101, y101, z101⟩, st101⟩ := X0.virtualBack hx (y := (⟨"java/lang/String", "coder", "()B"⟩ : MethodName)) (z := (⟨"java/lang/String", "coder", "()B"⟩ : MethodName)) hown (mvT hZ (own_w hw 134 rfl)) (mvT hZ (own_w hw 135 rfl)) (notFace_of_selects (args := #[]) (mvT hZ (own_w hw 137 rfl))) (mvT hZ (own_w hw 137 rfl)) (mvT hZ (own_w hw 136 rfl)) (by decide) (backOf (W := 0) (rmCo l Z a0 hw [] sg cs h0 n0 Z0 E0_sg F0_sg_coder S0_COMPACT_STRINGS hcs) hZ (own_w hw 138 rfl) (own_w hw 7 rfl) (by decide) (by decide)) q101a q101c (g := (mkF m 1 #[.val (.ref sg), .val (.ref va), .val (.int 10), .val (.int 0)] [(.ref sg)])) rfl (by rw [hml]; rfl) (Steps.refl _) (argsL := []) (rest := []) (lenOf pdGb3_0 rfl) rfl (by show 2 * 0 + _ ≤ _; exact Nat.le_of_eq rfl) (hb hby dGb0_1) (fun _ _ => ⟨rfl, e0, (by decide : 0 + 0 ≤ _), (by decide : 0 + 0 ≤ _)⟩)
  dsimp only [Pt.U, Pt.locs, Pt.cells, Pt.slots] at X101 l101 y101 z101 st101 hQ101
  subst l101 y101 z101
  obtain ⟨rfl, N101q, eh101⟩ := hQ101
  have N101 := Fr.app N0 N101q
  obtain ⟨T102, X102, e102, st102⟩ := getF X101 hx hZ hown (host := "") (Or.inl (own_w hw 32 rfl)) Via.refl eh101 F0_sg_value (g := (mkF m 9 #[.val (.ref sg), .val (.ref va), .val (.int 10), .val (.int 0)] [(.ref sg)])) rfl rfl (hb hby dGb0_9)
  obtain ⟨T103, X103, e103, st103⟩ := getF X102 hx hZ hown (host := "") (Or.inl (own_w hw 32 rfl)) Via.refl e102 F0_sg_value (g := (mkF m 18 #[.val (.ref sg), .val (.ref va), .val (.int 10), .val (.int 0)] [(.ref sg), (.int 10), (.ref va), (.int 0), (.ref za)])) rfl rfl (hb hby dGb0_18)
  obtain ⟨cl_q104, Ar_q104, q1_q104, S_q104, N_q104, H_q104, G_q104⟩ := id V0_za
  obtain ⟨T105, h105, L105, X105, e105, N105, K105, V105, st105⟩ := cpA X103 hx hZ hown (own_w hw 160 rfl) (own_w hw 163 rfl) (own_w hw 161 rfl) (own_w hw 162 rfl) e103 V0_za V0_va (us := [(.int 110), (.int 111), (.int 95), (.int 110), (.int 101), (.int 119), (.int 95), (.int 111), (.int 112), (.int 101), (.int 110)]) (Or.inl ⟨rfl, rfl⟩) (by decide) (by decide) (by decide) (by decide) (by decide) rfl (Nat.le_of_ble_eq_true rfl) N101 ge0_va (g := (mkF m 22 #[.val (.ref sg), .val (.ref va), .val (.int 10), .val (.int 0)] [(.int 11), (.int 10), (.ref va), (.int 0), (.ref za)])) rfl (by rw [hml]; rfl) rfl (hb hby dGb0_22) (by decide) (W := 0) (by show 2 * 0 + _ ≤ _; exact Nat.le_of_eq rfl) (by decide)
  have Vz105 : Arv Z h105 va kc_va .byte (34 : Int32) [(.int v0), (.int v1), (.int v2), (.int v3), (.int v4), (.int v5), (.int v6), (.int v7), (.int v8), (.int v9), (.int 110), (.int 111), (.int 95), (.int 110), (.int 101), (.int 119), (.int 95), (.int 111), (.int 112), (.int 101), (.int 110), (.int 0), (.int 0), (.int 0), (.int 0), (.int 0), (.int 0), (.int 0), (.int 0), (.int 0), (.int 0), (.int 0), (.int 0), (.int 0)] (.int 0) := V105
  have S106_COMPACT_STRINGS := own_stakeep S0_COMPACT_STRINGS K105 (allS (own_nsA V0_va) all0)
  have Z106 := Nat.le_trans Z0 K105.1
  have K106 : Keep h0 h105 [va] := Keep.trans (Keep.refl h0 [va]) K105 (allS (Or.inl (by simp)) all0)
  refine Go.by (fun _ kont => XS.aloadN X0.here hx rfl (hb hby dGb0_0) rfl rfl (st101.trans (XS.iloadN X101.here hx rfl (hb hby dGb0_4) rfl (XS.icmpNo X101.here hx rfl (hb hby dGb0_5) rfl (by decide) (XS.aloadN X101.here hx rfl (hb hby dGb0_8) rfl rfl (st102 _ (XS.iconst X102.here hx rfl (hb hby dGb0_12) (XS.aloadN X102.here hx rfl (hb hby dGb0_13) rfl rfl (XS.iloadN X102.here hx rfl (hb hby dGb0_14) rfl (XS.iloadN X102.here hx rfl (hb hby dGb0_15) rfl (XS.ishl X102.here hx rfl (hb hby dGb0_16) rfl (own_fI (show ((10 : Int32) <<< ((0 : Int32) &&& 31)) = (10 : Int32) from by decide) (XS.aloadN X102.here hx rfl (hb hby dGb0_17) rfl rfl (st103 _ (X103.arraylength hx (own_at e103 Ar_q104.1) (State.isArrayOf_alike hZ.alike Ar_q104.2.1) (g := (mkF m 21 #[.val (.ref sg), .val (.ref va), .val (.int 10), .val (.int 0)] [(.ref za), (.int 10), (.ref va), (.int 0), (.ref za)])) rfl rfl (hb hby dGb0_21) _ (own_fI (len_of S_q104 N_q104) (st105 _ (XS.goto X105.here hx rfl (pc0 := 25) (pc' := 43) rfl (hb hby dGb0_25) (by decide) (by decide) kont)))))))))))))))))) ?_
  show Go _ _ _ _ _ _ _ (T105.setTop (mkF m 43 #[.val (.ref sg), .val (.ref va), .val (.int 10), .val (.int 0)] []))
  refine Go.retV X105 hx hret hlk (hb hby dGb0_43) ?_ (by decide) (by decide)
  show QGb3 Z va kc_va v0 v1 v2 v3 v4 v5 v6 v7 v8 v9 h0 n0 none T105.heap _
  rw [e105]
  exact ⟨rfl, N105, K106, Vz105⟩

theorem pdPs3_0 : parseMethodDescriptor "(Ljava/lang/String;)V" = some ⟨[(.object "java/lang/String")], none⟩ := by decide +kernel
theorem pdPs3_1 : parseMethodDescriptor "([BIB)V" = some ⟨[(.array .byte), .int, .byte], none⟩ := by decide +kernel
theorem pnPs3 : plainName "java/lang/AbstractStringBuilder" = true := by first | (simp [plainName, overriddenIn]; done) | decide +kernel
theorem efPs3 (m : MethodId) (a : Addr) (sg : Addr) : entryFrame m #[(.ref a), (.int 10), (.ref sg)] 3 = mkF m 0 #[.val (.ref a), .val (.int 10), .val (.ref sg)] [] := by first | (simp [entryFrame, mkF, argsToLocals, Value.category]; done) | rfl
def QPs3 (Z : State) (va : Addr) (kc_va : ClassId) (v0 : Int32) (v1 : Int32) (v2 : Int32) (v3 : Int32) (v4 : Int32) (v5 : Int32) (v6 : Int32) (v7 : Int32) (v8 : Int32) (v9 : Int32) (h0 : Heap) (n0 : Nat) (v : Option Value) (h : Heap) (L : List Loc) : Prop := (v = none ∧ Fr n0 L ∧ Keep h0 h [va] ∧ Arv Z h va kc_va .byte (34 : Int32) [(.int v0), (.int v1), (.int v2), (.int v3), (.int v4), (.int v5), (.int v6), (.int v7), (.int v8), (.int v9), (.int 110), (.int 111), (.int 95), (.int 110), (.int 101), (.int 119), (.int 95), (.int 111), (.int 112), (.int 101), (.int 110), (.int 0), (.int 0), (.int 0), (.int 0), (.int 0), (.int 0), (.int 0), (.int 0), (.int 0), (.int 0), (.int 0), (.int 0), (.int 0)] (.int 0))
set_option maxRecDepth 65536 in
set_option maxHeartbeats 40000000 in
theorem rmPs3 (l : Launch) (Z : State) (a0 : Array Value) (hw : ∀ d ∈ tables_1, d.before a0 Z = true) (ws : List Jvm.Cond) (a : Addr) (sg : Addr) (va : Addr) (za : Addr) (kc_za : ClassId) (kc_va : ClassId) (v0 : Int32) (v1 : Int32) (v2 : Int32) (v3 : Int32) (v4 : Int32) (v5 : Int32) (v6 : Int32) (v7 : Int32) (v8 : Int32) (v9 : Int32) (v10 : Int32) (v11 : Int32) (v12 : Int32) (v13 : Int32) (v14 : Int32) (v15 : Int32) (cs : Int32) (h0 : Heap) (n0 : Nat) (Z0 : n0 ≤ h0.size) (E0_a : Exa Z h0 a "java/lang/StringBuilder") (F0_a_value : Fld Z h0 a "java/lang/AbstractStringBuilder" "value" "[B" (.ref va)) (F0_a_coder : Fld Z h0 a "java/lang/AbstractStringBuilder" "coder" "B" (.int 0)) (E0_sg : Exa Z h0 sg "java/lang/String") (F0_sg_coder : Fld Z h0 sg "java/lang/String" "coder" "B" (.int 0)) (F0_sg_value : Fld Z h0 sg "java/lang/String" "value" "[B" (.ref za)) (V0_za : Arv Z h0 za kc_za .byte (11 : Int32) [(.int 110), (.int 111), (.int 95), (.int 110), (.int 101), (.int 119), (.int 95), (.int 111), (.int 112), (.int 101), (.int 110)] (.int 0)) (V0_va : Arv Z h0 va kc_va .byte (34 : Int32) [(.int v0), (.int v1), (.int v2), (.int v3), (.int v4), (.int v5), (.int v6), (.int v7), (.int v8), (.int v9), (.int v10), (.int v11), (.int v12), (.int v13), (.int v14), (.int v15), (.int 0), (.int 0), (.int 0), (.int 0), (.int 0), (.int 0), (.int 0), (.int 0), (.int 0), (.int 0), (.int 0), (.int 0), (.int 0), (.int 0), (.int 0), (.int 0), (.int 0), (.int 0)] (.int 0)) (ne0_a_va : a ≠ va) (ne0_za_va : za ≠ va) (ne0_a_za : a ≠ za) (ne0_a_sg : a ≠ sg) (ne0_sg_va : sg ≠ va) (S0_COMPACT_STRINGS : Sta Z h0 "java/lang/String" "COMPACT_STRINGS" "Z" (.int cs)) (ge0_va : n0 ≤ va) (hcs : ¬ (cs = (0 : Int32))) :
    Ct l Z (⟨"java/lang/AbstractStringBuilder", "putStringAt", "(ILjava/lang/String;)V"⟩ : MethodName) jdk_68_method_73_code 3 none ws (⟨2, 0, 0, 33⟩ : Room) #[(.ref a), (.int 10), (.ref sg)] h0 (QPs3 Z va kc_va v0 v1 v2 v3 v4 v5 v6 v7 v8 v9 h0 n0) := by
  refine MetFree.of_bodySF (plainFor_of_name pnPs3) hisR ?_
  intro p e s m args below meth c s₁ Bd hml hP hK
  obtain ⟨rfl, hZ, hh⟩ := hP
  obtain ⟨hx, hby, hown, hnm, hlk, hret, X0, e0⟩ := own_st Bd "java/lang/AbstractStringBuilder" rfl hh
  have N0 := Fr.nil n0
  show Go p e below s (⟨2, 0, 0, 33⟩ : Room).cells (⟨2, 0, 0, 33⟩ : Room).slots (QPs3 Z va kc_va v0 v1 v2 v3 v4 v5 v6 v7 v8 v9 h0 n0) (s₁.setTop (entryFrame m #[(.ref a), (.int 10), (.ref sg)] 3))
  rw [efPs3]
  obtain ⟨cq101, q101, q101'⟩ := E0_a.cell
  obtain ⟨_, _, ⟨T101, L101, k101, n101⟩, -, X101, ⟨Lc101, hQ101, l101, y101, z101⟩, st101⟩ := X0.privateBack hx (y := (⟨"java/lang/AbstractStringBuilder", "inflateIfNeededFor", "(Ljava/lang/String;)V"⟩ : MethodName)) hown (mvT hZ (own_w hw 149 rfl)) (mvT hZ (own_w hw 150 rfl)) (own_selp2 hZ (own_w hw 152 rfl) (own_w hw 151 rfl) (own_w hw 150 rfl) (by decide)) (Cond.privateMethod_at (mvP hZ (own_w hw 151 rfl) (args := #[]))) (mvT hZ (own_w hw 153 rfl)) (by decide) (backOf (W := 0) (rmIn l Z a0 hw [] a sg cs h0 n0 Z0 E0_a F0_a_coder E0_sg F0_sg_coder S0_COMPACT_STRINGS hcs) hZ (own_w hw 153 rfl) (own_w hw 71 rfl) (by decide) (by decide)) (g := (mkF m 2 #[.val (.ref a), .val (.int 10), .val (.ref sg)] [(.ref sg), (.ref a)])) rfl (by rw [hml]; rfl) (Steps.refl _) (a := a) (by rw [e0]; exact q101) q101' (argsL := [(.ref sg)]) (rest := []) (lenOf pdPs3_0 rfl) rfl (by show 2 * 0 + _ ≤ _; exact Nat.le_of_eq rfl) (hb hby dPs0_2) (fun _ _ => ⟨rfl, e0, (by decide : 0 + 0 ≤ _), (by decide : 0 + 0 ≤ _)⟩)
  dsimp only [Pt.U, Pt.locs, Pt.cells, Pt.slots] at X101 l101 y101 z101 st101 hQ101
  subst l101 y101 z101
  obtain ⟨rfl, N101q, eh101⟩ := hQ101
  have N101 := Fr.app N0 N101q
  obtain ⟨T102, X102, e102, st102⟩ := getF X101 hx hZ hown (host := "") (Or.inl (own_w hw 75 rfl)) Via.refl eh101 F0_a_value (g := (mkF m 7 #[.val (.ref a), .val (.int 10), .val (.ref sg)] [(.ref a), (.ref sg)])) rfl rfl (hb hby dPs0_7)
  obtain ⟨T103, X103, e103, st103⟩ := getF X102 hx hZ hown (host := "") (Or.inl (own_w hw 77 rfl)) Via.refl e102 F0_a_coder (g := (mkF m 12 #[.val (.ref a), .val (.int 10), .val (.ref sg)] [(.ref a), (.int 10), (.ref va), (.ref sg)])) rfl rfl (hb hby dPs0_12)
  obtain ⟨cq104, kq104, q104a, q104b, q104c⟩ := isOf hZ e103 E0_sg
  obtain ⟨_, _, ⟨T104, L104, k104, n104⟩, -, X104, ⟨Lc104, hQ104, l104, y104, z104⟩, st104⟩ := X103.virtualBack hx (y := (⟨"java/lang/String", "getBytes", "([BIB)V"⟩ : MethodName)) (z := (⟨"java/lang/String", "getBytes", "([BIB)V"⟩ : MethodName)) hown (mvT hZ (own_w hw 155 rfl)) (mvT hZ (own_w hw 156 rfl)) (notFace_of_selects (args := #[]) (mvT hZ (own_w hw 158 rfl))) (mvT hZ (own_w hw 158 rfl)) (mvT hZ (own_w hw 157 rfl)) (by decide) (backOf (W := 0) (rmGb3 l Z a0 hw [] sg va za kc_za kc_va v0 v1 v2 v3 v4 v5 v6 v7 v8 v9 v10 v11 v12 v13 v14 v15 cs h0 n0 Z0 E0_sg F0_sg_coder F0_sg_value V0_za V0_va ne0_za_va ne0_sg_va S0_COMPACT_STRINGS ge0_va hcs) hZ (own_w hw 159 rfl) (own_w hw 7 rfl) (by decide) (by decide)) q104a q104c (g := (mkF m 15 #[.val (.ref a), .val (.int 10), .val (.ref sg)] [(.int 0), (.int 10), (.ref va), (.ref sg)])) rfl (by rw [hml]; rfl) (Steps.refl _) (argsL := [(.ref va), (.int 10), (.int 0)]) (rest := []) (lenOf pdPs3_1 rfl) rfl (by show 2 * 0 + _ ≤ _; exact Nat.le_of_eq rfl) (hb hby dPs0_15) (fun _ _ => ⟨rfl, e103, (by decide : 0 + 0 ≤ _), (by decide : 0 + 0 ≤ _)⟩)
  dsimp only [Pt.U, Pt.locs, Pt.cells, Pt.slots] at X104 l104 y104 z104 st104 hQ104
  subst l104 y104 z104
  obtain ⟨rfl, N104q, K104, g104_0⟩ := hQ104
  have S105_COMPACT_STRINGS := own_stakeep S0_COMPACT_STRINGS K104 (allS (own_nsA V0_va) all0)
  have Z105 := Nat.le_trans Z0 K104.1
  have K105 : Keep h0 T104.heap [va] := Keep.trans (Keep.refl h0 [va]) K104 (allS (Or.inl (by simp)) all0)
  have N104 := Fr.app N101 N104q
  refine Go.by (fun _ kont => XS.aloadN X0.here hx rfl (hb hby dPs0_0) rfl rfl (XS.aloadN X0.here hx rfl (hb hby dPs0_1) rfl rfl (st101.trans (XS.aloadN X101.here hx rfl (hb hby dPs0_5) rfl rfl (XS.aloadN X101.here hx rfl (hb hby dPs0_6) rfl rfl (st102 _ (XS.iloadN X102.here hx rfl (hb hby dPs0_10) rfl (XS.aloadN X102.here hx rfl (hb hby dPs0_11) rfl rfl (st103 _ (st104.trans kont)))))))))) ?_
  show Go _ _ _ _ _ _ _ (T104.setTop (mkF m 18 #[.val (.ref a), .val (.int 10), .val (.ref sg)] []))
  refine Go.retV X104 hx hret hlk (hb hby dPs0_18) ?_ (by decide) (by decide)
  show QPs3 Z va kc_va v0 v1 v2 v3 v4 v5 v6 v7 v8 v9 h0 n0 none T104.heap _
  exact ⟨rfl, N104, K105, g104_0⟩

theorem pdAa3_0 : parseMethodDescriptor "()I" = some ⟨[], some .int⟩ := by decide +kernel
theorem pdAa3_1 : parseMethodDescriptor "(I)V" = some ⟨[.int], none⟩ := by decide +kernel
theorem pdAa3_2 : parseMethodDescriptor "(ILjava/lang/String;)V" = some ⟨[.int, (.object "java/lang/String")], none⟩ := by decide +kernel
theorem pnAa3 : plainName "java/lang/AbstractStringBuilder" = true := by first | (simp [plainName, overriddenIn]; done) | decide +kernel
theorem efAa3 (m : MethodId) (a : Addr) (sg : Addr) : entryFrame m #[(.ref a), (.ref sg)] 3 = mkF m 0 #[.val (.ref a), .val (.ref sg), .unset] [] := by first | (simp [entryFrame, mkF, argsToLocals, Value.category]; done) | rfl
def QAa3 (Z : State) (a : Addr) (v0 : Int32) (v1 : Int32) (v2 : Int32) (v3 : Int32) (v4 : Int32) (v5 : Int32) (v6 : Int32) (v7 : Int32) (v8 : Int32) (v9 : Int32) (h0 : Heap) (n0 : Nat) (v : Option Value) (h : Heap) (L : List Loc) : Prop := ∃ b102_107_103 : Addr, ∃ k102_107_103 : ClassId, (v = some (.ref a) ∧ Fr n0 L ∧ Keep h0 h [a] ∧ Exa Z h a "java/lang/StringBuilder" ∧ Fld Z h a "java/lang/AbstractStringBuilder" "value" "[B" (.ref b102_107_103) ∧ Fld Z h a "java/lang/AbstractStringBuilder" "coder" "B" (.int 0) ∧ Fld Z h a "java/lang/AbstractStringBuilder" "count" "I" (.int 21) ∧ n0 ≤ b102_107_103 ∧ h0.size ≤ b102_107_103 ∧ Arv Z h b102_107_103 k102_107_103 .byte (34 : Int32) [(.int v0), (.int v1), (.int v2), (.int v3), (.int v4), (.int v5), (.int v6), (.int v7), (.int v8), (.int v9), (.int 110), (.int 111), (.int 95), (.int 110), (.int 101), (.int 119), (.int 95), (.int 111), (.int 112), (.int 101), (.int 110), (.int 0), (.int 0), (.int 0), (.int 0), (.int 0), (.int 0), (.int 0), (.int 0), (.int 0), (.int 0), (.int 0), (.int 0), (.int 0)] (.int 0))
set_option maxRecDepth 65536 in
set_option maxHeartbeats 40000000 in
theorem rmAa3 (l : Launch) (Z : State) (a0 : Array Value) (hw : ∀ d ∈ tables_1, d.before a0 Z = true) (ws : List Jvm.Cond) (a : Addr) (sg : Addr) (va : Addr) (za : Addr) (kc_za : ClassId) (kc_va : ClassId) (v0 : Int32) (v1 : Int32) (v2 : Int32) (v3 : Int32) (v4 : Int32) (v5 : Int32) (v6 : Int32) (v7 : Int32) (v8 : Int32) (v9 : Int32) (v10 : Int32) (v11 : Int32) (v12 : Int32) (v13 : Int32) (v14 : Int32) (v15 : Int32) (cs : Int32) (h0 : Heap) (n0 : Nat) (Z0 : n0 ≤ h0.size) (E0_a : Exa Z h0 a "java/lang/StringBuilder") (F0_a_value : Fld Z h0 a "java/lang/AbstractStringBuilder" "value" "[B" (.ref va)) (F0_a_coder : Fld Z h0 a "java/lang/AbstractStringBuilder" "coder" "B" (.int 0)) (F0_a_count : Fld Z h0 a "java/lang/AbstractStringBuilder" "count" "I" (.int 10)) (E0_sg : Exa Z h0 sg "java/lang/String") (F0_sg_coder : Fld Z h0 sg "java/lang/String" "coder" "B" (.int 0)) (F0_sg_value : Fld Z h0 sg "java/lang/String" "value" "[B" (.ref za)) (V0_za : Arv Z h0 za kc_za .byte (11 : Int32) [(.int 110), (.int 111), (.int 95), (.int 110), (.int 101), (.int 119), (.int 95), (.int 111), (.int 112), (.int 101), (.int 110)] (.int 0)) (V0_va : Arv Z h0 va kc_va .byte (16 : Int32) [(.int v0), (.int v1), (.int v2), (.int v3), (.int v4), (.int v5), (.int v6), (.int v7), (.int v8), (.int v9), (.int v10), (.int v11), (.int v12), (.int v13), (.int v14), (.int v15)] (.int 0)) (ne0_a_va : a ≠ va) (ne0_za_va : za ≠ va) (ne0_a_za : a ≠ za) (ne0_a_sg : a ≠ sg) (ne0_sg_va : sg ≠ va) (S0_COMPACT_STRINGS : Sta Z h0 "java/lang/String" "COMPACT_STRINGS" "Z" (.int cs)) (ge0_a : n0 ≤ a) (hcs : ¬ (cs = (0 : Int32))) :
    Ct l Z (⟨"java/lang/AbstractStringBuilder", "append", "(Ljava/lang/String;)Ljava/lang/AbstractStringBuilder;"⟩ : MethodName) jdk_68_method_22_code 3 (some (.object "java/lang/AbstractStringBuilder")) ws (⟨4, 1, 34, 62⟩ : Room) #[(.ref a), (.ref sg)] h0 (QAa3 Z a v0 v1 v2 v3 v4 v5 v6 v7 v8 v9 h0 n0) := by
  refine MetFree.of_bodySF (plainFor_of_name pnAa3) hisR ?_
  intro p e s m args below meth c s₁ Bd hml hP hK
  obtain ⟨rfl, hZ, hh⟩ := hP
  obtain ⟨hx, hby, hown, hnm, hlk, hret, X0, e0⟩ := own_st Bd "java/lang/AbstractStringBuilder" rfl hh
  have N0 := Fr.nil n0
  show Go p e below s (⟨4, 1, 34, 62⟩ : Room).cells (⟨4, 1, 34, 62⟩ : Room).slots (QAa3 Z a v0 v1 v2 v3 v4 v5 v6 v7 v8 v9 h0 n0) (s₁.setTop (entryFrame m #[(.ref a), (.ref sg)] 3))
  rw [efAa3]
  obtain ⟨cq101, kq101, q101a, q101b, q101c⟩ := isOf hZ e0 E0_sg
  obtain ⟨_, _, ⟨T101, L101, k101, n101⟩, -, X101, ⟨Lc101, hQ101, l101, y101, z101⟩, st101⟩ := X0.virtualBack hx (y := (⟨"java/lang/String", "length", "()I"⟩ : MethodName)) (z := (⟨"java/lang/String", "length", "()I"⟩ : MethodName)) hown (mvT hZ (own_w hw 129 rfl)) (mvT hZ (own_w hw 130 rfl)) (notFace_of_selects (args := #[]) (mvT hZ (own_w hw 132 rfl))) (mvT hZ (own_w hw 132 rfl)) (mvT hZ (own_w hw 131 rfl)) (by decide) (backOf (W := 0) (rmSl3 l Z a0 hw [] sg za kc_za cs h0 n0 Z0 E0_sg F0_sg_coder F0_sg_value V0_za S0_COMPACT_STRINGS hcs) hZ (own_w hw 133 rfl) (own_w hw 7 rfl) (by decide) (by decide)) q101a q101c (g := (mkF m 10 #[.val (.ref a), .val (.ref sg), .unset] [(.ref sg)])) rfl (by rw [hml]; rfl) (Steps.refl _) (argsL := []) (rest := []) (lenOf pdAa3_0 rfl) rfl (by show 2 * 0 + _ ≤ _; exact Nat.le_of_eq rfl) (hb hby dAa0_10) (fun _ _ => ⟨rfl, e0, (by decide : 0 + 0 ≤ _), (by decide : 0 + 0 ≤ _)⟩)
  dsimp only [Pt.U, Pt.locs, Pt.cells, Pt.slots] at X101 l101 y101 z101 st101 hQ101
  subst l101 y101 z101
  obtain ⟨rfl, N101q, eh101⟩ := hQ101
  have N101 := Fr.app N0 N101q
  obtain ⟨T102, X102, e102, st102⟩ := getF X101 hx hZ hown (host := "") (Or.inl (own_w hw 117 rfl)) Via.refl eh101 F0_a_count (g := (mkF m 16 #[.val (.ref a), .val (.ref sg), .val (.int 11)] [(.ref a), (.ref a)])) rfl rfl (hb hby dAa0_16)
  obtain ⟨cq103, q103, q103'⟩ := E0_a.cell
  obtain ⟨_, _, ⟨T103, L103, k103, n103⟩, -, X103, ⟨Lc103, hQ103, l103, y103, z103⟩, st103⟩ := X102.privateBack hx (y := (⟨"java/lang/AbstractStringBuilder", "ensureCapacityInternal", "(I)V"⟩ : MethodName)) hown (mvT hZ (own_w hw 139 rfl)) (mvT hZ (own_w hw 140 rfl)) (own_selp2 hZ (own_w hw 142 rfl) (own_w hw 141 rfl) (own_w hw 140 rfl) (by decide)) (Cond.privateMethod_at (mvP hZ (own_w hw 141 rfl) (args := #[]))) (mvT hZ (own_w hw 143 rfl)) (by decide) (backOf (W := 0) (rmEcg l Z a0 hw [] a va (10 : Int32) kc_va v0 v1 v2 v3 v4 v5 v6 v7 v8 v9 v10 v11 v12 v13 v14 v15 h0 n0 Z0 E0_a F0_a_value F0_a_coder F0_a_count V0_va ne0_a_va ge0_a) hZ (own_w hw 143 rfl) (own_w hw 71 rfl) (by decide) (by decide)) (g := (mkF m 21 #[.val (.ref a), .val (.ref sg), .val (.int 11)] [(.int 21), (.ref a)])) rfl (by rw [hml]; rfl) (Steps.refl _) (a := a) (by rw [e102]; exact q103) q103' (argsL := [(.int 21)]) (rest := []) (lenOf pdAa3_1 rfl) rfl (by show 2 * 0 + _ ≤ _; exact Nat.le_of_eq rfl) (hb hby dAa0_21) (fun _ _ => ⟨rfl, e102, (by decide : 0 + 1 ≤ _), (by decide : 0 + 34 ≤ _)⟩)
  dsimp only [Pt.U, Pt.locs, Pt.cells, Pt.slots] at X103 l103 y103 z103 st103 hQ103
  subst l103 y103 z103
  obtain ⟨b102_107_103, k102_107_103, rfl, N103q, K103, g103_0, g103_1, g103_2, g103_3, ge_b102_107_103, szc_b102_107_103, g103_4⟩ := hQ103
  have sz_b102_107_103 : h0.size ≤ b102_107_103 := Nat.le_trans (Keep.refl h0 [a]).1 szc_b102_107_103
  have Z104 := Nat.le_trans Z0 K103.1
  have K104 : Keep h0 T103.heap [a] := Keep.trans (Keep.refl h0 [a]) K103 (allS (Or.inl (by simp)) all0)
  have N103 := Fr.app N101 N103q
  obtain ⟨T105, X105, e105, st105⟩ := getF X103 hx hZ hown (host := "") (Or.inl (own_w hw 117 rfl)) Via.refl rfl g103_3 (g := (mkF m 26 #[.val (.ref a), .val (.ref sg), .val (.int 11)] [(.ref a), (.ref a)])) rfl rfl (hb hby dAa0_26)
  obtain ⟨cq106, q106, q106'⟩ := g103_0.cell
  obtain ⟨_, _, ⟨T106, L106, k106, n106⟩, -, X106, ⟨Lc106, hQ106, l106, y106, z106⟩, st106⟩ := X105.privateBack hx (y := (⟨"java/lang/AbstractStringBuilder", "putStringAt", "(ILjava/lang/String;)V"⟩ : MethodName)) hown (mvT hZ (own_w hw 144 rfl)) (mvT hZ (own_w hw 145 rfl)) (own_selp2 hZ (own_w hw 147 rfl) (own_w hw 146 rfl) (own_w hw 145 rfl) (by decide)) (Cond.privateMethod_at (mvP hZ (own_w hw 146 rfl) (args := #[]))) (mvT hZ (own_w hw 148 rfl)) (by decide) (backOf (W := 0) (rmPs3 l Z a0 hw [] a sg b102_107_103 za kc_za k102_107_103 v0 v1 v2 v3 v4 v5 v6 v7 v8 v9 v10 v11 v12 v13 v14 v15 cs T103.heap n0 Z104 g103_0 g103_1 g103_2 (E0_sg.keep K104) (F0_sg_coder.keep K104 (ninS (Ne.symm ne0_a_sg) nin0)) (F0_sg_value.keep K104 (ninS (Ne.symm ne0_a_sg) nin0)) (V0_za.keep K104 (ninS (Ne.symm ne0_a_za) nin0)) g103_4 (own_nlt F0_a_value.lt szc_b102_107_103) (own_nlt V0_za.lt szc_b102_107_103) ne0_a_za ne0_a_sg (own_nlt F0_sg_coder.lt szc_b102_107_103) (own_stakeep S0_COMPACT_STRINGS K104 (allS (own_ns E0_a) all0)) ge_b102_107_103 hcs) hZ (own_w hw 148 rfl) (own_w hw 71 rfl) (by decide) (by decide)) (g := (mkF m 30 #[.val (.ref a), .val (.ref sg), .val (.int 11)] [(.ref sg), (.int 10), (.ref a)])) rfl (by rw [hml]; rfl) (Steps.refl _) (a := a) (by rw [e105]; exact q106) q106' (argsL := [(.int 10), (.ref sg)]) (rest := []) (lenOf pdAa3_2 rfl) rfl (by show 2 * 0 + _ ≤ _; exact Nat.le_of_eq rfl) (hb hby dAa0_30) (fun _ _ => ⟨rfl, e105, (by decide : 1 + 0 ≤ _), (by decide : 34 + 0 ≤ _)⟩)
  dsimp only [Pt.U, Pt.locs, Pt.cells, Pt.slots] at X106 l106 y106 z106 st106 hQ106
  subst l106 y106 z106
  obtain ⟨rfl, N106q, K106, g106_0⟩ := hQ106
  have F107_value_a := g103_1.keep K106 (ninS (own_nlt F0_a_value.lt szc_b102_107_103) nin0)
  have F107_coder_a := g103_2.keep K106 (ninS (own_nlt F0_a_value.lt szc_b102_107_103) nin0)
  have F107_count_a := g103_3.keep K106 (ninS (own_nlt F0_a_value.lt szc_b102_107_103) nin0)
  have Z107 := Nat.le_trans Z104 K106.1
  have K107 : Keep h0 T106.heap [a] := Keep.trans K104 K106 (allS (Or.inr sz_b102_107_103) all0)
  have N106 := Fr.app N103 N106q
  obtain ⟨T108, X108, e108, st108⟩ := getF X106 hx hZ hown (host := "") (Or.inl (own_w hw 117 rfl)) Via.refl rfl F107_count_a (g := (mkF m 35 #[.val (.ref a), .val (.ref sg), .val (.int 11)] [(.ref a), (.ref a)])) rfl rfl (hb hby dAa0_35)
  obtain ⟨T109, h109, X109, e109, W109, st109⟩ := putF X108 hx hZ hown (host := "") (Or.inl (own_w hw 117 rfl)) Via.refl e108 F107_count_a (E0_a.keep K107) (Or.inl (own_w hw 118 rfl)) (own_w hw 62 rfl) (ty := .int) (by decide) rfl rfl (g := (mkF m 40 #[.val (.ref a), .val (.ref sg), .val (.int 11)] [(.int 21), (.ref a)])) rfl rfl (hb hby dAa0_40)
  have Fw109 := F107_count_a.same W109
  have F110_value_a := F107_value_a.other W109 (Or.inr (slot_ne (Or.inl (own_w hw 76 rfl)) (Or.inl (own_w hw 118 rfl)) (by decide) (t := (.array .byte)) (t' := .int) (by decide) (by decide)))
  have F110_coder_a := F107_coder_a.other W109 (Or.inr (slot_ne (Or.inl (own_w hw 78 rfl)) (Or.inl (own_w hw 118 rfl)) (by decide) (t := .byte) (t' := .int) (by decide) (by decide)))
  have V110_b102_107_103 := g106_0.other W109 (Ne.symm (own_nlt F0_a_value.lt szc_b102_107_103))
  have Z110 := Nat.le_trans Z107 (Keep.of_wr W109).1
  have K110 : Keep h0 h109 [a] := K107.wr W109 (Or.inl (by simp))
  have N109 := Fr.snoc X109 N106 ge0_a
  refine Go.by (fun _ kont => XS.aloadN X0.here hx rfl (hb hby dAa0_0) rfl rfl (XS.ifnonnullYes X0.here hx rfl (pc0 := 1) (pc' := 9) rfl (hb hby dAa0_1) rfl (by decide) (by decide) (XS.aloadN X0.here hx rfl (hb hby dAa0_9) rfl rfl (st101.trans (XS.istoreN X101.here hx rfl (hb hby dAa0_13) rfl (l' := #[.val (.ref a), .val (.ref sg), .val (.int 11)]) rfl (XS.aloadN X101.here hx rfl (hb hby dAa0_14) rfl rfl (XS.aloadN X101.here hx rfl (hb hby dAa0_15) rfl rfl (st102 _ (XS.iloadN X102.here hx rfl (hb hby dAa0_19) rfl (XS.iadd X102.here hx rfl (hb hby dAa0_20) rfl (own_fI (show ((10 : Int32) + (11 : Int32)) = (21 : Int32) from by decide) (st103.trans (XS.aloadN X103.here hx rfl (hb hby dAa0_24) rfl rfl (XS.aloadN X103.here hx rfl (hb hby dAa0_25) rfl rfl (st105 _ (XS.aloadN X105.here hx rfl (hb hby dAa0_29) rfl rfl (st106.trans (XS.aloadN X106.here hx rfl (hb hby dAa0_33) rfl rfl (XS.dup X106.here hx rfl (hb hby dAa0_34) rfl rfl (st108 _ (XS.iloadN X108.here hx rfl (hb hby dAa0_38) rfl (XS.iadd X108.here hx rfl (hb hby dAa0_39) rfl (own_fI (show ((10 : Int32) + (11 : Int32)) = (21 : Int32) from by decide) (st109 _ (XS.aloadN X109.here hx rfl (hb hby dAa0_43) rfl rfl kont))))))))))))))))))))))))) ?_
  show Go _ _ _ _ _ _ _ (T109.setTop (mkF m 44 #[.val (.ref a), .val (.ref sg), .val (.int 11)] [(.ref a)]))
  refine Go.retR X109 hx hret rfl rfl hlk (hb hby dAa0_44) ?_ (by decide) (by decide)
  show QAa3 Z a v0 v1 v2 v3 v4 v5 v6 v7 v8 v9 h0 n0 (some (.ref a)) T109.heap _
  rw [e109]
  exact ⟨b102_107_103, k102_107_103, rfl, N109, K110, (E0_a.keep K110), F110_value_a, F110_coder_a, Fw109, ge_b102_107_103, sz_b102_107_103, V110_b102_107_103⟩

theorem pdBa3_0 : parseMethodDescriptor "(Ljava/lang/String;)Ljava/lang/AbstractStringBuilder;" = some ⟨[(.object "java/lang/String")], some (.object "java/lang/AbstractStringBuilder")⟩ := by decide +kernel
theorem pnBa3 : plainName "java/lang/StringBuilder" = true := by first | (simp [plainName, overriddenIn]; done) | decide +kernel
theorem efBa3 (m : MethodId) (a : Addr) (sg : Addr) : entryFrame m #[(.ref a), (.ref sg)] 2 = mkF m 0 #[.val (.ref a), .val (.ref sg)] [] := by first | (simp [entryFrame, mkF, argsToLocals, Value.category]; done) | rfl
def QBa3 (Z : State) (a : Addr) (v0 : Int32) (v1 : Int32) (v2 : Int32) (v3 : Int32) (v4 : Int32) (v5 : Int32) (v6 : Int32) (v7 : Int32) (v8 : Int32) (v9 : Int32) (h0 : Heap) (n0 : Nat) (v : Option Value) (h : Heap) (L : List Loc) : Prop := ∃ b102_107_103_101 : Addr, ∃ k102_107_103_101 : ClassId, (v = some (.ref a) ∧ Fr n0 L ∧ Keep h0 h [a] ∧ Exa Z h a "java/lang/StringBuilder" ∧ Fld Z h a "java/lang/AbstractStringBuilder" "value" "[B" (.ref b102_107_103_101) ∧ Fld Z h a "java/lang/AbstractStringBuilder" "coder" "B" (.int 0) ∧ Fld Z h a "java/lang/AbstractStringBuilder" "count" "I" (.int 21) ∧ n0 ≤ b102_107_103_101 ∧ h0.size ≤ b102_107_103_101 ∧ Arv Z h b102_107_103_101 k102_107_103_101 .byte (34 : Int32) [(.int v0), (.int v1), (.int v2), (.int v3), (.int v4), (.int v5), (.int v6), (.int v7), (.int v8), (.int v9), (.int 110), (.int 111), (.int 95), (.int 110), (.int 101), (.int 119), (.int 95), (.int 111), (.int 112), (.int 101), (.int 110), (.int 0), (.int 0), (.int 0), (.int 0), (.int 0), (.int 0), (.int 0), (.int 0), (.int 0), (.int 0), (.int 0), (.int 0), (.int 0)] (.int 0))
set_option maxRecDepth 65536 in
set_option maxHeartbeats 40000000 in
theorem rmBa3 (l : Launch) (Z : State) (a0 : Array Value) (hw : ∀ d ∈ tables_1, d.before a0 Z = true) (ws : List Jvm.Cond) (a : Addr) (sg : Addr) (va : Addr) (za : Addr) (kc_za : ClassId) (kc_va : ClassId) (v0 : Int32) (v1 : Int32) (v2 : Int32) (v3 : Int32) (v4 : Int32) (v5 : Int32) (v6 : Int32) (v7 : Int32) (v8 : Int32) (v9 : Int32) (v10 : Int32) (v11 : Int32) (v12 : Int32) (v13 : Int32) (v14 : Int32) (v15 : Int32) (cs : Int32) (h0 : Heap) (n0 : Nat) (Z0 : n0 ≤ h0.size) (E0_a : Exa Z h0 a "java/lang/StringBuilder") (F0_a_value : Fld Z h0 a "java/lang/AbstractStringBuilder" "value" "[B" (.ref va)) (F0_a_coder : Fld Z h0 a "java/lang/AbstractStringBuilder" "coder" "B" (.int 0)) (F0_a_count : Fld Z h0 a "java/lang/AbstractStringBuilder" "count" "I" (.int 10)) (E0_sg : Exa Z h0 sg "java/lang/String") (F0_sg_coder : Fld Z h0 sg "java/lang/String" "coder" "B" (.int 0)) (F0_sg_value : Fld Z h0 sg "java/lang/String" "value" "[B" (.ref za)) (V0_za : Arv Z h0 za kc_za .byte (11 : Int32) [(.int 110), (.int 111), (.int 95), (.int 110), (.int 101), (.int 119), (.int 95), (.int 111), (.int 112), (.int 101), (.int 110)] (.int 0)) (V0_va : Arv Z h0 va kc_va .byte (16 : Int32) [(.int v0), (.int v1), (.int v2), (.int v3), (.int v4), (.int v5), (.int v6), (.int v7), (.int v8), (.int v9), (.int v10), (.int v11), (.int v12), (.int v13), (.int v14), (.int v15)] (.int 0)) (ne0_a_va : a ≠ va) (ne0_za_va : za ≠ va) (ne0_a_za : a ≠ za) (ne0_a_sg : a ≠ sg) (ne0_sg_va : sg ≠ va) (S0_COMPACT_STRINGS : Sta Z h0 "java/lang/String" "COMPACT_STRINGS" "Z" (.int cs)) (ge0_a : n0 ≤ a) (hcs : ¬ (cs = (0 : Int32))) :
    Ct l Z (⟨"java/lang/StringBuilder", "append", "(Ljava/lang/String;)Ljava/lang/StringBuilder;"⟩ : MethodName) jdk_67_method_7_code 2 (some (.object "java/lang/StringBuilder")) ws (⟨5, 1, 34, 76⟩ : Room) #[(.ref a), (.ref sg)] h0 (QBa3 Z a v0 v1 v2 v3 v4 v5 v6 v7 v8 v9 h0 n0) := by
  refine MetFree.of_bodySF (plainFor_of_name pnBa3) hisR ?_
  intro p e s m args below meth c s₁ Bd hml hP hK
  obtain ⟨rfl, hZ, hh⟩ := hP
  obtain ⟨hx, hby, hown, hnm, hlk, hret, X0, e0⟩ := own_st Bd "java/lang/StringBuilder" rfl hh
  have N0 := Fr.nil n0
  show Go p e below s (⟨5, 1, 34, 76⟩ : Room).cells (⟨5, 1, 34, 76⟩ : Room).slots (QBa3 Z a v0 v1 v2 v3 v4 v5 v6 v7 v8 v9 h0 n0) (s₁.setTop (entryFrame m #[(.ref a), (.ref sg)] 2))
  rw [efBa3]
  obtain ⟨_, _, ⟨T101, L101, k101, n101⟩, -, X101, ⟨Lc101, hQ101, l101, y101, z101⟩, st101⟩ := superBack X0 hx hZ (y := (⟨"java/lang/AbstractStringBuilder", "append", "(Ljava/lang/String;)Ljava/lang/AbstractStringBuilder;"⟩ : MethodName)) hown (own_w hw 125 rfl) (own_same (own_w hw 142 rfl) (own_w hw 140 rfl) (own_w hw 126 rfl) rfl (by decide)) (own_w hw 126 rfl) (own_w hw 114 rfl) (by decide) (backOf (W := 0) (rmAa3 l Z a0 hw [] a sg va za kc_za kc_va v0 v1 v2 v3 v4 v5 v6 v7 v8 v9 v10 v11 v12 v13 v14 v15 cs h0 n0 Z0 E0_a F0_a_value F0_a_coder F0_a_count E0_sg F0_sg_coder F0_sg_value V0_za V0_va ne0_a_va ne0_za_va ne0_a_za ne0_a_sg ne0_sg_va S0_COMPACT_STRINGS ge0_a hcs) hZ (own_w hw 128 rfl) (own_w hw 71 rfl) (by decide) (by decide)) e0 (Ins.self E0_a) (g := (mkF m 2 #[.val (.ref a), .val (.ref sg)] [(.ref sg), (.ref a)])) rfl (by rw [hml]; rfl) (own_w hw 128 rfl) (argsL := [(.ref sg)]) (rest := []) (lenOf pdBa3_0 rfl) rfl (by show 2 * 0 + _ ≤ _; exact Nat.le_of_eq rfl) (hb hby dBa0_2) (fun _ _ => ⟨rfl, e0, (by decide : 0 + 1 ≤ _), (by decide : 0 + 34 ≤ _)⟩)
  dsimp only [Pt.U, Pt.locs, Pt.cells, Pt.slots] at X101 l101 y101 z101 st101 hQ101
  subst l101 y101 z101
  obtain ⟨b102_107_103_101, k102_107_103_101, rfl, N101q, K101, g101_0, g101_1, g101_2, g101_3, ge_b102_107_103_101, szc_b102_107_103_101, g101_4⟩ := hQ101
  have sz_b102_107_103_101 : h0.size ≤ b102_107_103_101 := Nat.le_trans (Keep.refl h0 [a]).1 szc_b102_107_103_101
  have Z102 := Nat.le_trans Z0 K101.1
  have K102 : Keep h0 T101.heap [a] := Keep.trans (Keep.refl h0 [a]) K101 (allS (Or.inl (by simp)) all0)
  have N101 := Fr.app N0 N101q
  refine Go.by (fun _ kont => XS.aloadN X0.here hx rfl (hb hby dBa0_0) rfl rfl (XS.aloadN X0.here hx rfl (hb hby dBa0_1) rfl rfl (st101.trans (XS.pop X101.here hx rfl (hb hby dBa0_5) rfl rfl (XS.aloadN X101.here hx rfl (hb hby dBa0_6) rfl rfl kont))))) ?_
  show Go _ _ _ _ _ _ _ (T101.setTop (mkF m 7 #[.val (.ref a), .val (.ref sg)] [(.ref a)]))
  refine Go.retR X101 hx hret rfl rfl hlk (hb hby dBa0_7) ?_ (by decide) (by decide)
  show QBa3 Z a v0 v1 v2 v3 v4 v5 v6 v7 v8 v9 h0 n0 (some (.ref a)) T101.heap _
  exact ⟨b102_107_103_101, k102_107_103_101, rfl, N101, K102, g101_0, g101_1, g101_2, g101_3, ge_b102_107_103_101, sz_b102_107_103_101, g101_4⟩

theorem dSc_0 : decode prog_2_method_4_code 0 = .ok (.aload_n 0, 1) := by decide +kernel
theorem dSc_1 : decode prog_2_method_4_code 1 = .ok (.getfield 32, 3) := by decide +kernel
theorem dSc_4 : decode prog_2_method_4_code 4 = .ok (.areturn, 1) := by decide +kernel
theorem pnSc : plainName "com/example/lotbook/lotbook/AccountStatus" = true := by first | (simp [plainName, overriddenIn]; done) | decide +kernel
theorem efSc (m : MethodId) (a : Addr) : entryFrame m #[(.ref a)] 1 = mkF m 0 #[.val (.ref a)] [] := by first | (simp [entryFrame, mkF, argsToLocals, Value.category]; done) | rfl
def QSc (Z : State) (cd : Addr) (h0 : Heap) (n0 : Nat) (v : Option Value) (h : Heap) (L : List Loc) : Prop := (v = some (.ref cd) ∧ Fr n0 L ∧ h = h0)
set_option maxRecDepth 65536 in
set_option maxHeartbeats 40000000 in
theorem rmSc (l : Launch) (Z : State) (a0 : Array Value) (hw : ∀ d ∈ tables_1, d.before a0 Z = true) (ws : List Jvm.Cond) (a : Addr) (cd : Addr) (h0 : Heap) (n0 : Nat) (Z0 : n0 ≤ h0.size) (E0_a : Exa Z h0 a "com/example/lotbook/lotbook/AccountStatus") (F0_a_code : Fld Z h0 a "com/example/lotbook/lotbook/AccountStatus" "code" "Ljava/lang/String;" (.ref cd)) :
    Ct l Z (⟨"com/example/lotbook/lotbook/AccountStatus", "code", "()Ljava/lang/String;"⟩ : MethodName) prog_2_method_4_code 1 (some (.object "java/lang/String")) ws (⟨0, 0, 0, 0⟩ : Room) #[(.ref a)] h0 (QSc Z cd h0 n0) := by
  refine MetFree.of_bodySF (plainFor_of_name pnSc) hisR ?_
  intro p e s m args below meth c s₁ Bd hml hP hK
  obtain ⟨rfl, hZ, hh⟩ := hP
  obtain ⟨hx, hby, hown, hnm, hlk, hret, X0, e0⟩ := own_st Bd "com/example/lotbook/lotbook/AccountStatus" rfl hh
  have N0 := Fr.nil n0
  show Go p e below s (⟨0, 0, 0, 0⟩ : Room).cells (⟨0, 0, 0, 0⟩ : Room).slots (QSc Z cd h0 n0) (s₁.setTop (entryFrame m #[(.ref a)] 1))
  rw [efSc]
  obtain ⟨T101, X101, e101, st101⟩ := getF X0 hx hZ hown (host := "") (Or.inl (own_w hw 88 rfl)) Via.refl e0 F0_a_code (g := (mkF m 1 #[.val (.ref a)] [(.ref a)])) rfl rfl (hb hby dSc_1)
  refine Go.by (fun _ kont => XS.aloadN X0.here hx rfl (hb hby dSc_0) rfl rfl (st101 _ kont)) ?_
  show Go _ _ _ _ _ _ _ (T101.setTop (mkF m 4 #[.val (.ref a)] [(.ref cd)]))
  refine Go.retR X101 hx hret rfl rfl hlk (hb hby dSc_4) ?_ (by decide) (by decide)
  show QSc Z cd h0 n0 (some (.ref cd)) T101.heap _
  rw [e101]
  exact ⟨rfl, N0, rfl⟩

theorem dVa_0 : decode prog_2_method_1_code 0 = .ok (.getstatic 13, 3) := by decide +kernel
theorem dVa_3 : decode prog_2_method_1_code 3 = .ok (.invokevirtual 17, 3) := by decide +kernel
theorem dVa_6 : decode prog_2_method_1_code 6 = .ok (.checkcast 18, 3) := by decide +kernel
theorem dVa_9 : decode prog_2_method_1_code 9 = .ok (.areturn, 1) := by decide +kernel
theorem pnVa : plainName "com/example/lotbook/lotbook/AccountStatus" = true := by first | (simp [plainName, overriddenIn]; done) | decide +kernel
theorem efVa (m : MethodId)  : entryFrame m #[] 0 = mkF m 0 #[] [] := by first | (simp [entryFrame, mkF, argsToLocals, Value.category]; done) | rfl
def QVa (Z : State) (kc_vals : ClassId) (o0 : Addr) (o1 : Addr) (o2 : Addr) (h0 : Heap) (n0 : Nat) (v : Option Value) (h : Heap) (L : List Loc) : Prop := ∃ b102 : Addr, ∃ kc_vals : ClassId, (v = some (.ref b102) ∧ Fr n0 L ∧ Keep h0 h [] ∧ n0 ≤ b102 ∧ h0.size ≤ b102 ∧ Exa Z h b102 "[Lcom/example/lotbook/lotbook/AccountStatus;" ∧ Arv Z h b102 kc_vals (.object "com/example/lotbook/lotbook/AccountStatus") (3 : Int32) [(.ref o0), (.ref o1), (.ref o2)] .null)
set_option maxRecDepth 65536 in
set_option maxHeartbeats 40000000 in
theorem rmVa (l : Launch) (Z : State) (a0 : Array Value) (hw : ∀ d ∈ tables_1, d.before a0 Z = true) (ws : List Jvm.Cond) (vals : Addr) (kc_vals : ClassId) (o0 : Addr) (o1 : Addr) (o2 : Addr) (h0 : Heap) (n0 : Nat) (Z0 : n0 ≤ h0.size) (E0_vals : Exa Z h0 vals "[Lcom/example/lotbook/lotbook/AccountStatus;") (V0_vals : Arv Z h0 vals kc_vals (.object "com/example/lotbook/lotbook/AccountStatus") (3 : Int32) [(.ref o0), (.ref o1), (.ref o2)] .null) (S0__VALUES : Sta Z h0 "com/example/lotbook/lotbook/AccountStatus" "$VALUES" "[Lcom/example/lotbook/lotbook/AccountStatus;" (.ref vals)) :
    Ct l Z (⟨"com/example/lotbook/lotbook/AccountStatus", "values", "()[Lcom/example/lotbook/lotbook/AccountStatus;"⟩ : MethodName) prog_2_method_1_code 0 (some (.array (.object "com/example/lotbook/lotbook/AccountStatus"))) ws (⟨1, 1, 3, 14⟩ : Room) #[] h0 (QVa Z kc_vals o0 o1 o2 h0 n0) := by
  refine MetFree.of_bodySF (plainFor_of_name pnVa) hisR ?_
  intro p e s m args below meth c s₁ Bd hml hP hK
  obtain ⟨rfl, hZ, hh⟩ := hP
  obtain ⟨hx, hby, hown, hnm, hlk, hret, X0, e0⟩ := own_st Bd "com/example/lotbook/lotbook/AccountStatus" rfl hh
  have N0 := Fr.nil n0
  show Go p e below s (⟨1, 1, 3, 14⟩ : Room).cells (⟨1, 1, 3, 14⟩ : Room).slots (QVa Z kc_vals o0 o1 o2 h0 n0) (s₁.setTop (entryFrame m #[] 0))
  rw [efVa]
  obtain ⟨T101, X101, e101, st101⟩ := getS2 X0 hx hZ hown (host := "") (Or.inl (own_w hw 40 rfl)) Via.refl e0 S0__VALUES (g := (mkF m 0 #[] [])) rfl (hb hby dVa_0)
  obtain ⟨T102, h102, X102, e102, X_102, A102, D102, st102⟩ := cloneH X101 hx hZ hown (own_w hw 42 rfl) (own_w hw 43 rfl) (own_w hw 47 rfl) (own_w hw 45 rfl) (own_w hw 46 rfl) (own_w hw 48 rfl) e101 (Arv.arh V0_vals) E0_vals (g := (mkF m 3 #[] [(.ref vals)])) rfl (by rw [hml]; rfl) rfl (hb hby dVa_3) (by decide) (W := 0) (cap := 3) (by show 2 * 0 + _ ≤ _; exact Nat.le_of_eq rfl) (by decide) (by decide) (by decide) (by decide)
  obtain ⟨b102, g102⟩ : ∃ z, z = h0.size := ⟨_, rfl⟩
  rw [← g102] at A102 D102 st102
  have ge_b102 : n0 ≤ b102 := Nat.le_trans Z0 (Nat.le_of_eq g102.symm)
  have sz_b102 : h0.size ≤ b102 := Nat.le_trans (Keep.refl h0 []).1 (Nat.le_of_eq g102.symm)
  have Z103 := Nat.le_trans Z0 X_102.1
  have K103 : Keep h0 h102 [] := (Keep.refl h0 []).ext X_102
  have V102 : Arv Z h102 b102 kc_vals (.object "com/example/lotbook/lotbook/AccountStatus") (3 : Int32) [(.ref o0), (.ref o1), (.ref o2)] .null := A102
  obtain ⟨T104, X104, e104, st104⟩ := castY X102 hx hZ hown (own_w hw 52 rfl) e102 (Ins.self D102) (g := (mkF m 6 #[] [(.ref b102)])) rfl rfl (hb hby dVa_6)
  refine Go.by (fun _ kont => st101 _ (st102 _ (st104 _ kont))) ?_
  show Go _ _ _ _ _ _ _ (T104.setTop (mkF m 9 #[] [(.ref b102)]))
  refine Go.retR X104 hx hret rfl rfl hlk (hb hby dVa_9) ?_ (by decide) (by decide)
  show QVa Z kc_vals o0 o1 o2 h0 n0 (some (.ref b102)) T104.heap _
  rw [e104]
  exact ⟨b102, kc_vals, rfl, N0, K103, ge_b102, sz_b102, D102, V102⟩

theorem dFf0f_0 : decode prog_34_method_2_code 0 = .ok (.new 1, 3) := by decide +kernel
theorem dFf0f_3 : decode prog_34_method_2_code 3 = .ok (.dup, 1) := by decide +kernel
theorem dFf0f_4 : decode prog_34_method_2_code 4 = .ok (.invokespecial 3, 3) := by decide +kernel
theorem dFf0f_7 : decode prog_34_method_2_code 7 = .ok (.astore_n 3, 1) := by decide +kernel
theorem dFf0f_8 : decode prog_34_method_2_code 8 = .ok (.aload_n 0, 1) := by decide +kernel
theorem dFf0f_9 : decode prog_34_method_2_code 9 = .ok (.astore 4, 2) := by decide +kernel
theorem dFf0f_11 : decode prog_34_method_2_code 11 = .ok (.aload 4, 2) := by decide +kernel
theorem dFf0f_13 : decode prog_34_method_2_code 13 = .ok (.arraylength, 1) := by decide +kernel
theorem dFf0f_14 : decode prog_34_method_2_code 14 = .ok (.istore 5, 2) := by decide +kernel
theorem dFf0f_16 : decode prog_34_method_2_code 16 = .ok (.iconst 0, 1) := by decide +kernel
theorem dFf0f_17 : decode prog_34_method_2_code 17 = .ok (.istore 6, 2) := by decide +kernel
theorem dFf0f_19 : decode prog_34_method_2_code 19 = .ok (.iload 6, 2) := by decide +kernel
theorem dFf0f_21 : decode prog_34_method_2_code 21 = .ok (.iload 5, 2) := by decide +kernel
theorem dFf0f_23 : decode prog_34_method_2_code 23 = .ok (.if_icmp .ge 62, 3) := by decide +kernel
theorem dFf0f_26 : decode prog_34_method_2_code 26 = .ok (.aload 4, 2) := by decide +kernel
theorem dFf0f_28 : decode prog_34_method_2_code 28 = .ok (.iload 6, 2) := by decide +kernel
theorem dFf0f_30 : decode prog_34_method_2_code 30 = .ok (.aaload, 1) := by decide +kernel
theorem dFf0f_31 : decode prog_34_method_2_code 31 = .ok (.astore 7, 2) := by decide +kernel
theorem dFf0f_33 : decode prog_34_method_2_code 33 = .ok (.aload 7, 2) := by decide +kernel
theorem dFf0f_35 : decode prog_34_method_2_code 35 = .ok (.invokeinterface 7 1, 5) := by decide +kernel
theorem dFf0f_40 : decode prog_34_method_2_code 40 = .ok (.aload_n 2, 1) := by decide +kernel
theorem dFf0f_41 : decode prog_34_method_2_code 41 = .ok (.invokevirtual 13, 3) := by decide +kernel
theorem dFf0f_44 : decode prog_34_method_2_code 44 = .ok (.ifCond .eq 6, 3) := by decide +kernel
theorem dFf0f_47 : decode prog_34_method_2_code 47 = .ok (.aload 7, 2) := by decide +kernel
theorem dFf0f_49 : decode prog_34_method_2_code 49 = .ok (.areturn, 1) := by decide +kernel
theorem pdFf0f_0 : parseMethodDescriptor "()V" = some ⟨[], none⟩ := by decide +kernel
theorem pdFf0f_1 : parseMethodDescriptor "()Ljava/lang/String;" = some ⟨[], some (.object "java/lang/String")⟩ := by decide +kernel
theorem pdFf0f_2 : parseMethodDescriptor "(Ljava/lang/Object;)Z" = some ⟨[(.object "java/lang/Object")], some .boolean⟩ := by decide +kernel
theorem pnFf0f : plainName "com/example/lotbook/lotbook/Flag" = true := by first | (simp [plainName, overriddenIn]; done) | decide +kernel
theorem efFf0f (m : MethodId) (arr : Addr) (stt : Addr) (a : Addr) : entryFrame m #[(.ref arr), (.ref stt), (.ref a)] 8 = mkF m 0 #[.val (.ref arr), .val (.ref stt), .val (.ref a), .unset, .unset, .unset, .unset, .unset] [] := by first | (simp [entryFrame, mkF, argsToLocals, Value.category]; done) | rfl
def QFf0f (Z : State) (o0 : Addr) (h0 : Heap) (n0 : Nat) (v : Option Value) (h : Heap) (L : List Loc) : Prop := (v = some (.ref o0) ∧ Fr n0 L ∧ Keep h0 h [])
set_option maxRecDepth 65536 in
set_option maxHeartbeats 40000000 in
theorem rmFf0f (l : Launch) (Z : State) (a0 : Array Value) (hw : ∀ d ∈ tables_1, d.before a0 Z = true) (ws : List Jvm.Cond) (arr : Addr) (stt : Addr) (a : Addr) (o0 : Addr) (c0 : Addr) (w0 : Addr) (wa : Addr) (kc_arr : ClassId) (o1 : Addr) (o2 : Addr) (kc_w0 : ClassId) (kc_wa : ClassId) (cs : Int32) (h0 : Heap) (n0 : Nat) (Z0 : n0 ≤ h0.size) (E0_o0 : Exa Z h0 o0 "com/example/lotbook/lotbook/AccountStatus") (F0_o0_code : Fld Z h0 o0 "com/example/lotbook/lotbook/AccountStatus" "code" "Ljava/lang/String;" (.ref c0)) (E0_c0 : Exa Z h0 c0 "java/lang/String") (F0_c0_coder : Fld Z h0 c0 "java/lang/String" "coder" "B" (.int 0)) (F0_c0_value : Fld Z h0 c0 "java/lang/String" "value" "[B" (.ref w0)) (E0_a : Exa Z h0 a "java/lang/String") (F0_a_coder : Fld Z h0 a "java/lang/String" "coder" "B" (.int 0)) (F0_a_value : Fld Z h0 a "java/lang/String" "value" "[B" (.ref wa)) (V0_arr : Arv Z h0 arr kc_arr (.object "com/example/lotbook/lotbook/AccountStatus") (3 : Int32) [(.ref o0), (.ref o1), (.ref o2)] .null) (V0_w0 : Arv Z h0 w0 kc_w0 .byte (6 : Int32) [(.int 110), (.int 111), (.int 114), (.int 109), (.int 97), (.int 108)] (.int 0)) (V0_wa : Arv Z h0 wa kc_wa .byte (6 : Int32) [(.int 110), (.int 111), (.int 114), (.int 109), (.int 97), (.int 108)] (.int 0)) (ne0_c0_a : c0 ≠ a) (S0_COMPACT_STRINGS : Sta Z h0 "java/lang/String" "COMPACT_STRINGS" "Z" (.int cs)) (hcs : ¬ (cs = (0 : Int32))) :
    CtC l Z (⟨"com/example/lotbook/lotbook/Flag", "fromCode", "([Lcom/example/lotbook/lotbook/Flag;Ljava/lang/String;Ljava/lang/String;)Lcom/example/lotbook/lotbook/Flag;"⟩ : MethodName) prog_34_method_2_code 8 (some (.object "com/example/lotbook/lotbook/Flag")) ws (⟨3, 2, 20, 38⟩ : Room) #[(.ref arr), (.ref stt), (.ref a)] h0 (QFf0f Z o0 h0 n0) := by
  refine MetFree.of_bodySF (plainFor_of_name pnFf0f) hisR ?_
  intro p e s m args below meth c s₁ Bd hml hP hK
  obtain ⟨rfl, hZ, hh, hCH⟩ := hP
  obtain ⟨hx, hby, hown, hnm, hlk, hret, X0, e0⟩ := own_stW Bd "com/example/lotbook/lotbook/Flag" rfl hh
  have N0 := Fr.nil n0
  have hS : s.Since s.vm 0 := (State.WarmedH.refl s).since 0
  have hk0 : 0 ≤ h0.size := Nat.zero_le _
  have CR0 : CHr Z own_EL s.vm h0 s.vm h0 := CHr.refl hCH
  show GoC Z p e below s (⟨3, 2, 20, 38⟩ : Room).cells (⟨3, 2, 20, 38⟩ : Room).slots (QFf0f Z o0 h0 n0) (s₁.setTop (entryFrame m #[(.ref arr), (.ref stt), (.ref a)] 8))
  rw [efFf0f]
  have hstr : ∀ a ∈ Bundle.stringAtoms, a.before a0 Z = true := by
    intro d hd
    simp only [Bundle.stringAtoms, Bundle.sN, List.mem_cons, List.not_mem_nil, or_false] at hd
    rcases hd with rfl | rfl | rfl | rfl | rfl | rfl | rfl
    · exact (own_w hw 7 rfl)
    · exact (own_w hw 6 rfl)
    · exact (own_w hw 23 rfl)
    · exact (own_w hw 33 rfl)
    · exact (own_w hw 31 rfl)
    · exact (own_w hw 55 rfl)
    · exact (own_w hw 56 rfl)
  have hEL : EW Z a0 own_EL := EW.cons (own_w hw 119 rfl) (by decide) (EW.cons (own_w hw 164 rfl) (by decide) EW.nil)
  obtain ⟨T101, h101, X101, e101, X_101, A101, D101, -, st101⟩ := newO X0 hx hZ hown (own_w hw 61 rfl) (own_w hw 62 rfl) (own_w hw 63 rfl) e0 (g := (mkF m 0 #[.val (.ref arr), .val (.ref stt), .val (.ref a), .unset, .unset, .unset, .unset, .unset] [])) rfl (hb hby dFf0f_0) (by decide) (by decide)
  obtain ⟨b101, g101⟩ : ∃ z, z = h0.size := ⟨_, rfl⟩
  rw [← g101] at A101 D101 st101
  have ge_b101 : n0 ≤ b101 := Nat.le_trans Z0 (Nat.le_of_eq g101.symm)
  have sz_b101 : h0.size ≤ b101 := Nat.le_trans (Keep.refl h0 []).1 (Nat.le_of_eq g101.symm)
  have SF_b101 := own_snew CR0 (Nat.le_of_eq g101.symm)
  have Z102 := Nat.le_trans Z0 X_101.1
  have hk102 := Nat.le_trans hk0 X_101.1
  have K102 : Keep h0 h101 [] := (Keep.refl h0 []).ext X_101
  have SF102_b101 := Safe.ext X_101 CR0.1 SF_b101
  have CR102 := CHr.trans CR0 (CHr.ext X_101 CR0.1)
  have F101_value : Fld Z h101 b101 "java/lang/AbstractStringBuilder" "value" "[B" .null := D101 (Or.inl (own_w hw 76 rfl)) (ty := (.array .byte)) (by decide)
  have F101_coder : Fld Z h101 b101 "java/lang/AbstractStringBuilder" "coder" "B" (.int 0) := D101 (Or.inl (own_w hw 78 rfl)) (ty := .byte) (by decide)
  have F101_count : Fld Z h101 b101 "java/lang/AbstractStringBuilder" "count" "I" (.int 0) := D101 (Or.inl (own_w hw 118 rfl)) (ty := .int) (by decide)
  obtain ⟨_, _, ⟨T103, L103, k103, n103⟩, -, X103, ⟨Lc103, hQ103, l103, y103, z103⟩, st103⟩ := X101.specialBack hx (y := (⟨"java/lang/StringBuilder", "<init>", "()V"⟩ : MethodName)) rfl hown (mvT hZ (own_w hw 64 rfl)) (mvT hZ (own_w hw 65 rfl)) (mvT hZ (own_w hw 66 rfl)) (by decide) (backOf (W := 1) (rmBz l Z a0 hw [] b101 cs h101 n0 Z102 A101 F101_value F101_coder F101_count (own_stakeep S0_COMPACT_STRINGS K102 all0) ge_b101 hcs) hZ (own_w hw 66 rfl) (own_w hw 63 rfl) (by decide) (by decide)) (g := (mkF m 4 #[.val (.ref arr), .val (.ref stt), .val (.ref a), .unset, .unset, .unset, .unset, .unset] [(.ref b101), (.ref b101)])) rfl (by rw [hml]; rfl) (Steps.refl _) (a := b101) (argsL := []) (rest := [(.ref b101)]) (lenOf pdFf0f_0 rfl) rfl (by show 2 * 0 + _ ≤ _; exact Nat.le_of_eq rfl) (hb hby dFf0f_4) (fun _ _ => ⟨rfl, e101, (by decide : 1 + 1 ≤ _), (by decide : 4 + 16 ≤ _)⟩)
  dsimp only [Pt.U, Pt.locs, Pt.cells, Pt.slots] at X103 l103 y103 z103 st103 hQ103
  subst l103 y103 z103
  obtain ⟨b103_101_103, k103_101_103, rfl, N103q, K103, g103_0, g103_1, g103_2, g103_3, ge_b103_101_103, szc_b103_101_103, g103_4⟩ := hQ103
  have sz_b103_101_103 : h0.size ≤ b103_101_103 := Nat.le_trans K102.1 szc_b103_101_103
  have SF_b103_101_103 := own_snew CR102 szc_b103_101_103
  have E104_b101 := A101.keep K103
  have Z104 := Nat.le_trans Z102 K103.1
  have hk104 := Nat.le_trans hk102 K103.1
  have K104 : Keep h0 T103.heap [] := Keep.trans K102 K103 (allS (Or.inr sz_b101) all0)
  have SF104_b101 := Safe.keep K103 (sfS SF102_b101 sf0) CR102.1 SF102_b101
  have SF104_b103_101_103 := Safe.keep K103 (sfS SF102_b101 sf0) CR102.1 SF_b103_101_103
  have CR104 := CHr.trans CR102 (CHr.keep K103 (sfS SF102_b101 sf0) CR102.1)
  have N103 := Fr.app N0 N103q
  obtain ⟨cl_q105, Ar_q105, q1_q105, S_q105, N_q105, H_q105, G_q105⟩ := id (V0_arr.keep K104 nin0)
  obtain ⟨cl_q106, Ar_q106, q1_q106, S_q106, N_q106, H_q106, G_q106⟩ := id (V0_arr.keep K104 nin0)
  have hin_q106 := own_ib S_q106 (0 : Int32) (by decide)
  have hat_q106 : cl_q106.slots[((0 : Int32)).toNatClampNeg]? = some (.ref o0) := Has.at H_q106 hin_q106 rfl
  obtain ⟨cq107, kq107, q107a, q107b, q107c⟩ := isOf hZ rfl (E0_o0.keep K104)
  obtain ⟨_, _, ⟨T107, L107, k107, n107⟩, -, X107, ⟨Lc107, hQ107, l107, y107, z107⟩, st107⟩ := X103.interfaceBack hx (xi := (⟨"com/example/lotbook/lotbook/Flag", "code", "()Ljava/lang/String;"⟩ : MethodName)) (y := (⟨"com/example/lotbook/lotbook/AccountStatus", "code", "()Ljava/lang/String;"⟩ : MethodName)) hown (mvT hZ (own_w hw 79 rfl)) (mvT hZ (own_w hw 80 rfl)) (mvT hZ (own_w hw 81 rfl)) (mvT hZ (own_w hw 82 rfl)) (mvT hZ (own_w hw 83 rfl)) (mvT hZ (own_w hw 84 rfl)) (mvT hZ (own_w hw 85 rfl)) (mvT hZ (own_w hw 86 rfl)) (by decide) (backOf (W := 0) (rmSc l Z a0 hw [] o0 c0 T103.heap n0 Z104 (E0_o0.keep K104) (F0_o0_code.keep K104 nin0)) hZ (own_w hw 87 rfl) (own_w hw 3 rfl) (by decide) (by decide)) q107a q107b q107c (g := (mkF m 35 #[.val (.ref arr), .val (.ref stt), .val (.ref a), .val (.ref b101), .val (.ref arr), .val (.int 3), .val (.int 0), .val (.ref o0)] [(.ref o0)])) rfl (by rw [hml]; rfl) (Steps.refl _) (argsL := []) (rest := []) (lenOf pdFf0f_1 rfl) rfl (by show 2 * 0 + _ ≤ _; exact Nat.le_of_eq rfl) (hb hby dFf0f_35) (fun _ _ => ⟨rfl, rfl, (by decide : 2 + 0 ≤ _), (by decide : 20 + 0 ≤ _)⟩)
  dsimp only [Pt.U, Pt.locs, Pt.cells, Pt.slots] at X107 l107 y107 z107 st107 hQ107
  subst l107 y107 z107
  obtain ⟨rfl, N107q, eh107⟩ := hQ107
  have N107 := Fr.app N103 N107q
  obtain ⟨cq108, kq108, q108a, q108b, q108c⟩ := isOf hZ eh107 (E0_c0.keep K104)
  obtain ⟨_, _, ⟨T108, L108, k108, n108⟩, -, X108, ⟨Lc108, hQ108, l108, y108, z108⟩, st108⟩ := X107.virtualBack hx (y := (⟨"java/lang/String", "equals", "(Ljava/lang/Object;)Z"⟩ : MethodName)) (z := (⟨"java/lang/String", "equals", "(Ljava/lang/Object;)Z"⟩ : MethodName)) hown (mvT hZ (own_w hw 90 rfl)) (mvT hZ (own_w hw 91 rfl)) (notFace_of_selects (args := #[]) (mvT hZ (own_w hw 93 rfl))) (mvT hZ (own_w hw 93 rfl)) (mvT hZ (own_w hw 92 rfl)) (by decide) (backOf (W := 0) (rmEq00 l Z a0 hw [] c0 a w0 wa kc_w0 kc_wa cs T103.heap n0 Z104 (E0_c0.keep K104) (F0_c0_coder.keep K104 nin0) (F0_c0_value.keep K104 nin0) (E0_a.keep K104) (F0_a_coder.keep K104 nin0) (F0_a_value.keep K104 nin0) (V0_w0.keep K104 nin0) (V0_wa.keep K104 nin0) ne0_c0_a (own_stakeep S0_COMPACT_STRINGS K104 all0) hcs) hZ (own_w hw 94 rfl) (own_w hw 7 rfl) (by decide) (by decide)) q108a q108c (g := (mkF m 41 #[.val (.ref arr), .val (.ref stt), .val (.ref a), .val (.ref b101), .val (.ref arr), .val (.int 3), .val (.int 0), .val (.ref o0)] [(.ref a), (.ref c0)])) rfl (by rw [hml]; rfl) (Steps.refl _) (argsL := [(.ref a)]) (rest := []) (lenOf pdFf0f_2 rfl) rfl (by show 2 * 0 + _ ≤ _; exact Nat.le_of_eq rfl) (hb hby dFf0f_41) (fun _ _ => ⟨rfl, eh107, (by decide : 2 + 0 ≤ _), (by decide : 20 + 0 ≤ _)⟩)
  dsimp only [Pt.U, Pt.locs, Pt.cells, Pt.slots] at X108 l108 y108 z108 st108 hQ108
  subst l108 y108 z108
  obtain ⟨rfl, N108q, eh108⟩ := hQ108
  have N108 := Fr.app N107 N108q
  refine GoC.by (fun _ kont => st101 _ (XS.dup X101.here hx rfl (hb hby dFf0f_3) rfl rfl (st103.trans (XS.astoreN X103.here hx rfl (hb hby dFf0f_7) rfl rfl (l' := #[.val (.ref arr), .val (.ref stt), .val (.ref a), .val (.ref b101), .unset, .unset, .unset, .unset]) rfl (XS.aloadN X103.here hx rfl (hb hby dFf0f_8) rfl rfl (XS.astore X103.here hx rfl (hb hby dFf0f_9) rfl rfl (l' := #[.val (.ref arr), .val (.ref stt), .val (.ref a), .val (.ref b101), .val (.ref arr), .unset, .unset, .unset]) rfl (XS.aload X103.here hx rfl (hb hby dFf0f_11) rfl rfl (X103.arraylength hx (own_at rfl Ar_q105.1) (State.isArrayOf_alike hZ.alike Ar_q105.2.1) (g := (mkF m 13 #[.val (.ref arr), .val (.ref stt), .val (.ref a), .val (.ref b101), .val (.ref arr), .unset, .unset, .unset] [(.ref arr)])) rfl rfl (hb hby dFf0f_13) _ (own_fI (len_of S_q105 N_q105) (XS.istore X103.here hx rfl (hb hby dFf0f_14) rfl (l' := #[.val (.ref arr), .val (.ref stt), .val (.ref a), .val (.ref b101), .val (.ref arr), .val (.int 3), .unset, .unset]) rfl (XS.iconst X103.here hx rfl (hb hby dFf0f_16) (XS.istore X103.here hx rfl (hb hby dFf0f_17) rfl (l' := #[.val (.ref arr), .val (.ref stt), .val (.ref a), .val (.ref b101), .val (.ref arr), .val (.int 3), .val (.int 0), .unset]) rfl (XS.iload X103.here hx rfl (hb hby dFf0f_19) rfl (XS.iload X103.here hx rfl (hb hby dFf0f_21) rfl (XS.icmpNo X103.here hx rfl (hb hby dFf0f_23) rfl (by decide) (XS.aload X103.here hx rfl (hb hby dFf0f_26) rfl rfl (XS.iload X103.here hx rfl (hb hby dFf0f_28) rfl (X103.aaload hx (j := (0 : Int32)) (v := (.ref o0)) (own_at rfl Ar_q106.1) (State.isArrayOf_alike hZ.alike Ar_q106.2.1) rfl Ar_q106.2.2 hin_q106 hat_q106 (g := (mkF m 30 #[.val (.ref arr), .val (.ref stt), .val (.ref a), .val (.ref b101), .val (.ref arr), .val (.int 3), .val (.int 0), .unset] [(.int 0), (.ref arr)])) rfl rfl (hb hby dFf0f_30) _ (XS.astore X103.here hx rfl (hb hby dFf0f_31) rfl rfl (l' := #[.val (.ref arr), .val (.ref stt), .val (.ref a), .val (.ref b101), .val (.ref arr), .val (.int 3), .val (.int 0), .val (.ref o0)]) rfl (XS.aload X103.here hx rfl (hb hby dFf0f_33) rfl rfl (st107.trans (XS.aloadN X107.here hx rfl (hb hby dFf0f_40) rfl rfl (st108.trans (XS.ifNo X108.here hx rfl (hb hby dFf0f_44) rfl (by decide) (XS.aload X108.here hx rfl (hb hby dFf0f_47) rfl rfl kont))))))))))))))))))))))))) ?_
  show GoC _ _ _ _ _ _ _ _ (T108.setTop (mkF m 49 #[.val (.ref arr), .val (.ref stt), .val (.ref a), .val (.ref b101), .val (.ref arr), .val (.int 3), .val (.int 0), .val (.ref o0)] [(.ref o0)]))
  refine GoC.retR X108 hS (by rw [eh108]; exact hk104) hZ hEL (by rw [hh, eh108]; exact CR104) hx hret rfl rfl hlk (hb hby dFf0f_49) ?_ (by decide) (by decide)
  show QFf0f Z o0 h0 n0 (some (.ref o0)) T108.heap _
  rw [eh108]
  exact ⟨rfl, N108, K104⟩

theorem dAf0f_0 : decode prog_2_method_5_code 0 = .ok (.invokestatic 36, 3) := by decide +kernel
theorem dAf0f_3 : decode prog_2_method_5_code 3 = .ok (.ldc 40, 2) := by decide +kernel
theorem dAf0f_5 : decode prog_2_method_5_code 5 = .ok (.aload_n 0, 1) := by decide +kernel
theorem dAf0f_6 : decode prog_2_method_5_code 6 = .ok (.invokestatic 42, 3) := by decide +kernel
theorem dAf0f_9 : decode prog_2_method_5_code 9 = .ok (.checkcast 1, 3) := by decide +kernel
theorem dAf0f_12 : decode prog_2_method_5_code 12 = .ok (.areturn, 1) := by decide +kernel
theorem pdAf0f_0 : parseMethodDescriptor "()[Lcom/example/lotbook/lotbook/AccountStatus;" = some ⟨[], some (.array (.object "com/example/lotbook/lotbook/AccountStatus"))⟩ := by decide +kernel
theorem pdAf0f_1 : parseMethodDescriptor "([Lcom/example/lotbook/lotbook/Flag;Ljava/lang/String;Ljava/lang/String;)Lcom/example/lotbook/lotbook/Flag;" = some ⟨[(.array (.object "com/example/lotbook/lotbook/Flag")), (.object "java/lang/String"), (.object "java/lang/String")], some (.object "com/example/lotbook/lotbook/Flag")⟩ := by decide +kernel
theorem pnAf0f : plainName "com/example/lotbook/lotbook/AccountStatus" = true := by first | (simp [plainName, overriddenIn]; done) | decide +kernel
theorem efAf0f (m : MethodId) (a : Addr) : entryFrame m #[(.ref a)] 1 = mkF m 0 #[.val (.ref a)] [] := by first | (simp [entryFrame, mkF, argsToLocals, Value.category]; done) | rfl
def QAf0f (Z : State) (o0 : Addr) (h0 : Heap) (n0 : Nat) (v : Option Value) (h : Heap) (L : List Loc) : Prop := (v = some (.ref o0) ∧ Fr n0 L ∧ Keep h0 h [])
set_option maxRecDepth 65536 in
set_option maxHeartbeats 40000000 in
theorem rmAf0f (l : Launch) (Z : State) (a0 : Array Value) (hw : ∀ d ∈ tables_1, d.before a0 Z = true) (ws : List Jvm.Cond) (a : Addr) (o0 : Addr) (c0 : Addr) (w0 : Addr) (wa : Addr) (vals : Addr) (kc_vals : ClassId) (o1 : Addr) (o2 : Addr) (kc_w0 : ClassId) (kc_wa : ClassId) (cs : Int32) (h0 : Heap) (n0 : Nat) (Z0 : n0 ≤ h0.size) (E0_o0 : Exa Z h0 o0 "com/example/lotbook/lotbook/AccountStatus") (F0_o0_code : Fld Z h0 o0 "com/example/lotbook/lotbook/AccountStatus" "code" "Ljava/lang/String;" (.ref c0)) (E0_c0 : Exa Z h0 c0 "java/lang/String") (F0_c0_coder : Fld Z h0 c0 "java/lang/String" "coder" "B" (.int 0)) (F0_c0_value : Fld Z h0 c0 "java/lang/String" "value" "[B" (.ref w0)) (E0_a : Exa Z h0 a "java/lang/String") (F0_a_coder : Fld Z h0 a "java/lang/String" "coder" "B" (.int 0)) (F0_a_value : Fld Z h0 a "java/lang/String" "value" "[B" (.ref wa)) (E0_vals : Exa Z h0 vals "[Lcom/example/lotbook/lotbook/AccountStatus;") (V0_vals : Arv Z h0 vals kc_vals (.object "com/example/lotbook/lotbook/AccountStatus") (3 : Int32) [(.ref o0), (.ref o1), (.ref o2)] .null) (V0_w0 : Arv Z h0 w0 kc_w0 .byte (6 : Int32) [(.int 110), (.int 111), (.int 114), (.int 109), (.int 97), (.int 108)] (.int 0)) (V0_wa : Arv Z h0 wa kc_wa .byte (6 : Int32) [(.int 110), (.int 111), (.int 114), (.int 109), (.int 97), (.int 108)] (.int 0)) (ne0_c0_a : c0 ≠ a) (S0_COMPACT_STRINGS : Sta Z h0 "java/lang/String" "COMPACT_STRINGS" "Z" (.int cs)) (S0__VALUES : Sta Z h0 "com/example/lotbook/lotbook/AccountStatus" "$VALUES" "[Lcom/example/lotbook/lotbook/AccountStatus;" (.ref vals)) (hcs : ¬ (cs = (0 : Int32))) :
    CtC l Z (⟨"com/example/lotbook/lotbook/AccountStatus", "fromCode", "(Ljava/lang/String;)Lcom/example/lotbook/lotbook/AccountStatus;"⟩ : MethodName) prog_2_method_5_code 1 (some (.object "com/example/lotbook/lotbook/AccountStatus")) ws (⟨4, 5, 51, 57⟩ : Room) #[(.ref a)] h0 (QAf0f Z o0 h0 n0) := by
  refine MetFree.of_bodySF (plainFor_of_name pnAf0f) hisR ?_
  intro p e s m args below meth c s₁ Bd hml hP hK
  obtain ⟨rfl, hZ, hh, hCH⟩ := hP
  obtain ⟨hx, hby, hown, hnm, hlk, hret, X0, e0⟩ := own_stW Bd "com/example/lotbook/lotbook/AccountStatus" rfl hh
  have N0 := Fr.nil n0
  have hS : s.Since s.vm 0 := (State.WarmedH.refl s).since 0
  have hk0 : 0 ≤ h0.size := Nat.zero_le _
  have CR0 : CHr Z own_EL s.vm h0 s.vm h0 := CHr.refl hCH
  show GoC Z p e below s (⟨4, 5, 51, 57⟩ : Room).cells (⟨4, 5, 51, 57⟩ : Room).slots (QAf0f Z o0 h0 n0) (s₁.setTop (entryFrame m #[(.ref a)] 1))
  rw [efAf0f]
  have hstr : ∀ a ∈ Bundle.stringAtoms, a.before a0 Z = true := by
    intro d hd
    simp only [Bundle.stringAtoms, Bundle.sN, List.mem_cons, List.not_mem_nil, or_false] at hd
    rcases hd with rfl | rfl | rfl | rfl | rfl | rfl | rfl
    · exact (own_w hw 7 rfl)
    · exact (own_w hw 6 rfl)
    · exact (own_w hw 23 rfl)
    · exact (own_w hw 33 rfl)
    · exact (own_w hw 31 rfl)
    · exact (own_w hw 55 rfl)
    · exact (own_w hw 56 rfl)
  have hEL : EW Z a0 own_EL := EW.cons (own_w hw 119 rfl) (by decide) (EW.cons (own_w hw 164 rfl) (by decide) EW.nil)
  obtain ⟨_, _, ⟨T101, L101, k101, n101⟩, -, X101, ⟨Lc101, hQ101, l101, y101, z101⟩, st101⟩ := Jvm.LawKit.callS X0 hx (y := (⟨"com/example/lotbook/lotbook/AccountStatus", "values", "()[Lcom/example/lotbook/lotbook/AccountStatus;"⟩ : MethodName)) hown (mvT hZ (own_w hw 37 rfl)) (mvT hZ (own_w hw 38 rfl)) (mvT hZ (own_w hw 3 rfl)) (mvT hZ (own_w hw 39 rfl)) (by decide) (backOf (W := 0) (rmVa l Z a0 hw [] vals kc_vals o0 o1 o2 h0 n0 Z0 E0_vals V0_vals S0__VALUES) hZ (own_w hw 39 rfl) (own_w hw 3 rfl) (by decide) (by decide)) (g := (mkF m 0 #[.val (.ref a)] [])) rfl (by rw [hml]; rfl) (argsL := []) (rest := []) (lenOf pdAf0f_0 rfl) rfl (by show 2 * 0 + _ ≤ _; exact Nat.le_of_eq rfl) (hb hby dAf0f_0) (fun _ _ => ⟨rfl, e0, (by decide : 0 + 1 ≤ _), (by decide : 0 + 3 ≤ _)⟩)
  dsimp only [Pt.U, Pt.locs, Pt.cells, Pt.slots] at X101 l101 y101 z101 st101 hQ101
  subst l101 y101 z101
  obtain ⟨b102_101, kc_vals_101, rfl, N101q, K101, ge_b102_101, szc_b102_101, g101_0, g101_1⟩ := hQ101
  have sz_b102_101 : h0.size ≤ b102_101 := Nat.le_trans (Keep.refl h0 []).1 szc_b102_101
  have SF_b102_101 := own_snew CR0 szc_b102_101
  have Z102 := Nat.le_trans Z0 K101.1
  have hk102 := Nat.le_trans hk0 K101.1
  have K102 : Keep h0 T101.heap [] := Keep.trans (Keep.refl h0 []) K101 all0
  have SF102_b102_101 := Safe.keep K101 sf0 CR0.1 SF_b102_101
  have CR102 := CHr.trans CR0 (CHr.keep K101 sf0 CR0.1)
  have N101 := Fr.app N0 N101q
  refine GoC.by (fun _ kont => st101 _ kont) ?_
  show GoC _ _ _ _ _ _ _ _ (T101.setTop (mkF m 3 #[.val (.ref a)] [(.ref b102_101)]))
  obtain ⟨s103, T103, h103, k103, X103, e103, X_103, hS, hk103, hZ, hown, C103, -, st103⟩ := ldcOH X101 hx hZ hown (own_w hw 54 rfl) hstr rfl hS hk102 hEL CR102.1 (g := (mkF m 3 #[.val (.ref a)] [(.ref b102_101)])) rfl (hb hby dAf0f_3) (n := 24) (by decide) (by decide) (by decide) (by decide)
  have CR103 := CHr.trans CR102 C103
  have SF103_b102_101 := C103.safe g101_0.lt SF102_b102_101
  have E104_b102_101 := g101_0.ext X_103
  have V104_b102_101 := g101_1.ext X_103
  have Z104 := Nat.le_trans Z102 X_103.1
  have hk104 := Nat.le_trans hk102 X_103.1
  have K104 : Keep h0 h103 [] := K102.ext X_103
  refine GoC.by (fun _ kont => st103 _ (XS.aloadN X103.here hx rfl (hb hby dAf0f_5) rfl rfl kont)) ?_
  show GoC _ _ _ _ _ _ _ _ (T103.setTop (mkF m 6 #[.val (.ref a)] [(.ref a), (.ref s103), (.ref b102_101)]))
  obtain ⟨_, _, ⟨T105, L105, k105, n105⟩, -, X105, hS105, hg105, ⟨Lc105, hQ105, l105, y105, z105, C105⟩, st105⟩ := callSS X103 hx (y := (⟨"com/example/lotbook/lotbook/Flag", "fromCode", "([Lcom/example/lotbook/lotbook/Flag;Ljava/lang/String;Ljava/lang/String;)Lcom/example/lotbook/lotbook/Flag;"⟩ : MethodName)) hown (mvT hZ (own_w hw 57 rfl)) (mvT hZ (own_w hw 58 rfl)) (mvT hZ (own_w hw 59 rfl)) (mvT hZ (own_w hw 60 rfl)) (by decide) (backOfSH (W := 0) (rmFf0f l Z a0 hw [] b102_101 s103 a o0 c0 w0 wa kc_vals_101 o1 o2 kc_w0 kc_wa cs h103 n0 Z104 (E0_o0.keep K104) (F0_o0_code.keep K104 nin0) (E0_c0.keep K104) (F0_c0_coder.keep K104 nin0) (F0_c0_value.keep K104 nin0) (E0_a.keep K104) (F0_a_coder.keep K104 nin0) (F0_a_value.keep K104 nin0) V104_b102_101 (V0_w0.keep K104 nin0) (V0_wa.keep K104 nin0) ne0_c0_a (own_stakeep S0_COMPACT_STRINGS K104 all0) hcs) hZ (own_w hw 60 rfl) (own_w hw 59 rfl) (by decide) (by decide) hEL CR103.1) (g := (mkF m 6 #[.val (.ref a)] [(.ref a), (.ref s103), (.ref b102_101)])) rfl (by rw [hml]; rfl) (argsL := [(.ref b102_101), (.ref s103), (.ref a)]) (rest := []) (lenOf pdAf0f_1 rfl) rfl (by show 2 * 0 + _ ≤ _; exact Nat.le_of_eq rfl) (hb hby dAf0f_6) (fun _ _ => ⟨rfl, e103, (by decide : 3 + 2 ≤ _), (by decide : 31 + 20 ≤ _)⟩)
  dsimp only [Pt.U, Pt.locs, Pt.cells, Pt.slots] at X105 hS105 hg105 l105 y105 z105 st105 hQ105 C105
  subst l105 y105 z105
  obtain ⟨X105, hS, hZ, hown⟩ := rebS hS (show _ ≤ T103.heap.size from by rw [e103]; exact hk103) X105 hS105 hg105 hZ hown
  have CR105 := CHr.trans CR103 C105
  obtain ⟨rfl, N105q, K105⟩ := hQ105
  have E106_b102_101 := E104_b102_101.keep K105
  have V106_b102_101 := V104_b102_101.keep K105 nin0
  have Z106 := Nat.le_trans Z104 K105.1
  have K106 : Keep h0 T105.heap [] := Keep.trans K104 K105 all0
  have N105 := Fr.app N101 N105q
  obtain ⟨T107, X107, e107, st107⟩ := castY X105 hx hZ hown (own_w hw 100 rfl) rfl (Ins.self (E0_o0.keep K106)) (g := (mkF m 9 #[.val (.ref a)] [(.ref o0)])) rfl rfl (hb hby dAf0f_9)
  refine GoC.by (fun _ kont => st105.trans (st107 _ kont)) ?_
  show GoC _ _ _ _ _ _ _ _ (T107.setTop (mkF m 12 #[.val (.ref a)] [(.ref o0)]))
  refine GoC.retR X107 hS (by rw [e107]; exact (Nat.le_refl _)) hZ hEL (by rw [hh, e107]; exact CR105) hx hret rfl rfl hlk (hb hby dAf0f_12) ?_ (by decide) (by decide)
  show QAf0f Z o0 h0 n0 (some (.ref o0)) T107.heap _
  rw [e107]
  exact ⟨rfl, N105, K106⟩

theorem pdFf0s_0 : parseMethodDescriptor "()V" = some ⟨[], none⟩ := by decide +kernel
theorem pdFf0s_1 : parseMethodDescriptor "()Ljava/lang/String;" = some ⟨[], some (.object "java/lang/String")⟩ := by decide +kernel
theorem pdFf0s_2 : parseMethodDescriptor "(Ljava/lang/Object;)Z" = some ⟨[(.object "java/lang/Object")], some .boolean⟩ := by decide +kernel
theorem pnFf0s : plainName "com/example/lotbook/lotbook/Flag" = true := by first | (simp [plainName, overriddenIn]; done) | decide +kernel
theorem efFf0s (m : MethodId) (arr : Addr) (stt : Addr) (c0 : Addr) : entryFrame m #[(.ref arr), (.ref stt), (.ref c0)] 8 = mkF m 0 #[.val (.ref arr), .val (.ref stt), .val (.ref c0), .unset, .unset, .unset, .unset, .unset] [] := by first | (simp [entryFrame, mkF, argsToLocals, Value.category]; done) | rfl
def QFf0s (Z : State) (o0 : Addr) (h0 : Heap) (n0 : Nat) (v : Option Value) (h : Heap) (L : List Loc) : Prop := (v = some (.ref o0) ∧ Fr n0 L ∧ Keep h0 h [])
set_option maxRecDepth 65536 in
set_option maxHeartbeats 40000000 in
theorem rmFf0s (l : Launch) (Z : State) (a0 : Array Value) (hw : ∀ d ∈ tables_1, d.before a0 Z = true) (ws : List Jvm.Cond) (arr : Addr) (stt : Addr) (c0 : Addr) (o0 : Addr) (kc_arr : ClassId) (o1 : Addr) (o2 : Addr) (cs : Int32) (h0 : Heap) (n0 : Nat) (Z0 : n0 ≤ h0.size) (E0_o0 : Exa Z h0 o0 "com/example/lotbook/lotbook/AccountStatus") (F0_o0_code : Fld Z h0 o0 "com/example/lotbook/lotbook/AccountStatus" "code" "Ljava/lang/String;" (.ref c0)) (E0_c0 : Exa Z h0 c0 "java/lang/String") (V0_arr : Arv Z h0 arr kc_arr (.object "com/example/lotbook/lotbook/AccountStatus") (3 : Int32) [(.ref o0), (.ref o1), (.ref o2)] .null) (S0_COMPACT_STRINGS : Sta Z h0 "java/lang/String" "COMPACT_STRINGS" "Z" (.int cs)) (hcs : ¬ (cs = (0 : Int32))) :
    CtC l Z (⟨"com/example/lotbook/lotbook/Flag", "fromCode", "([Lcom/example/lotbook/lotbook/Flag;Ljava/lang/String;Ljava/lang/String;)Lcom/example/lotbook/lotbook/Flag;"⟩ : MethodName) prog_34_method_2_code 8 (some (.object "com/example/lotbook/lotbook/Flag")) ws (⟨3, 2, 20, 38⟩ : Room) #[(.ref arr), (.ref stt), (.ref c0)] h0 (QFf0s Z o0 h0 n0) := by
  refine MetFree.of_bodySF (plainFor_of_name pnFf0s) hisR ?_
  intro p e s m args below meth c s₁ Bd hml hP hK
  obtain ⟨rfl, hZ, hh, hCH⟩ := hP
  obtain ⟨hx, hby, hown, hnm, hlk, hret, X0, e0⟩ := own_stW Bd "com/example/lotbook/lotbook/Flag" rfl hh
  have N0 := Fr.nil n0
  have hS : s.Since s.vm 0 := (State.WarmedH.refl s).since 0
  have hk0 : 0 ≤ h0.size := Nat.zero_le _
  have CR0 : CHr Z own_EL s.vm h0 s.vm h0 := CHr.refl hCH
  show GoC Z p e below s (⟨3, 2, 20, 38⟩ : Room).cells (⟨3, 2, 20, 38⟩ : Room).slots (QFf0s Z o0 h0 n0) (s₁.setTop (entryFrame m #[(.ref arr), (.ref stt), (.ref c0)] 8))
  rw [efFf0s]
  have hstr : ∀ a ∈ Bundle.stringAtoms, a.before a0 Z = true := by
    intro d hd
    simp only [Bundle.stringAtoms, Bundle.sN, List.mem_cons, List.not_mem_nil, or_false] at hd
    rcases hd with rfl | rfl | rfl | rfl | rfl | rfl | rfl
    · exact (own_w hw 7 rfl)
    · exact (own_w hw 6 rfl)
    · exact (own_w hw 23 rfl)
    · exact (own_w hw 33 rfl)
    · exact (own_w hw 31 rfl)
    · exact (own_w hw 55 rfl)
    · exact (own_w hw 56 rfl)
  have hEL : EW Z a0 own_EL := EW.cons (own_w hw 119 rfl) (by decide) (EW.cons (own_w hw 164 rfl) (by decide) EW.nil)
  obtain ⟨T101, h101, X101, e101, X_101, A101, D101, -, st101⟩ := newO X0 hx hZ hown (own_w hw 61 rfl) (own_w hw 62 rfl) (own_w hw 63 rfl) e0 (g := (mkF m 0 #[.val (.ref arr), .val (.ref stt), .val (.ref c0), .unset, .unset, .unset, .unset, .unset] [])) rfl (hb hby dFf0f_0) (by decide) (by decide)
  obtain ⟨b101, g101⟩ : ∃ z, z = h0.size := ⟨_, rfl⟩
  rw [← g101] at A101 D101 st101
  have ge_b101 : n0 ≤ b101 := Nat.le_trans Z0 (Nat.le_of_eq g101.symm)
  have sz_b101 : h0.size ≤ b101 := Nat.le_trans (Keep.refl h0 []).1 (Nat.le_of_eq g101.symm)
  have SF_b101 := own_snew CR0 (Nat.le_of_eq g101.symm)
  have Z102 := Nat.le_trans Z0 X_101.1
  have hk102 := Nat.le_trans hk0 X_101.1
  have K102 : Keep h0 h101 [] := (Keep.refl h0 []).ext X_101
  have SF102_b101 := Safe.ext X_101 CR0.1 SF_b101
  have CR102 := CHr.trans CR0 (CHr.ext X_101 CR0.1)
  have F101_value : Fld Z h101 b101 "java/lang/AbstractStringBuilder" "value" "[B" .null := D101 (Or.inl (own_w hw 76 rfl)) (ty := (.array .byte)) (by decide)
  have F101_coder : Fld Z h101 b101 "java/lang/AbstractStringBuilder" "coder" "B" (.int 0) := D101 (Or.inl (own_w hw 78 rfl)) (ty := .byte) (by decide)
  have F101_count : Fld Z h101 b101 "java/lang/AbstractStringBuilder" "count" "I" (.int 0) := D101 (Or.inl (own_w hw 118 rfl)) (ty := .int) (by decide)
  obtain ⟨_, _, ⟨T103, L103, k103, n103⟩, -, X103, ⟨Lc103, hQ103, l103, y103, z103⟩, st103⟩ := X101.specialBack hx (y := (⟨"java/lang/StringBuilder", "<init>", "()V"⟩ : MethodName)) rfl hown (mvT hZ (own_w hw 64 rfl)) (mvT hZ (own_w hw 65 rfl)) (mvT hZ (own_w hw 66 rfl)) (by decide) (backOf (W := 1) (rmBz l Z a0 hw [] b101 cs h101 n0 Z102 A101 F101_value F101_coder F101_count (own_stakeep S0_COMPACT_STRINGS K102 all0) ge_b101 hcs) hZ (own_w hw 66 rfl) (own_w hw 63 rfl) (by decide) (by decide)) (g := (mkF m 4 #[.val (.ref arr), .val (.ref stt), .val (.ref c0), .unset, .unset, .unset, .unset, .unset] [(.ref b101), (.ref b101)])) rfl (by rw [hml]; rfl) (Steps.refl _) (a := b101) (argsL := []) (rest := [(.ref b101)]) (lenOf pdFf0s_0 rfl) rfl (by show 2 * 0 + _ ≤ _; exact Nat.le_of_eq rfl) (hb hby dFf0f_4) (fun _ _ => ⟨rfl, e101, (by decide : 1 + 1 ≤ _), (by decide : 4 + 16 ≤ _)⟩)
  dsimp only [Pt.U, Pt.locs, Pt.cells, Pt.slots] at X103 l103 y103 z103 st103 hQ103
  subst l103 y103 z103
  obtain ⟨b103_101_103, k103_101_103, rfl, N103q, K103, g103_0, g103_1, g103_2, g103_3, ge_b103_101_103, szc_b103_101_103, g103_4⟩ := hQ103
  have sz_b103_101_103 : h0.size ≤ b103_101_103 := Nat.le_trans K102.1 szc_b103_101_103
  have SF_b103_101_103 := own_snew CR102 szc_b103_101_103
  have E104_b101 := A101.keep K103
  have Z104 := Nat.le_trans Z102 K103.1
  have hk104 := Nat.le_trans hk102 K103.1
  have K104 : Keep h0 T103.heap [] := Keep.trans K102 K103 (allS (Or.inr sz_b101) all0)
  have SF104_b101 := Safe.keep K103 (sfS SF102_b101 sf0) CR102.1 SF102_b101
  have SF104_b103_101_103 := Safe.keep K103 (sfS SF102_b101 sf0) CR102.1 SF_b103_101_103
  have CR104 := CHr.trans CR102 (CHr.keep K103 (sfS SF102_b101 sf0) CR102.1)
  have N103 := Fr.app N0 N103q
  obtain ⟨cl_q105, Ar_q105, q1_q105, S_q105, N_q105, H_q105, G_q105⟩ := id (V0_arr.keep K104 nin0)
  obtain ⟨cl_q106, Ar_q106, q1_q106, S_q106, N_q106, H_q106, G_q106⟩ := id (V0_arr.keep K104 nin0)
  have hin_q106 := own_ib S_q106 (0 : Int32) (by decide)
  have hat_q106 : cl_q106.slots[((0 : Int32)).toNatClampNeg]? = some (.ref o0) := Has.at H_q106 hin_q106 rfl
  obtain ⟨cq107, kq107, q107a, q107b, q107c⟩ := isOf hZ rfl (E0_o0.keep K104)
  obtain ⟨_, _, ⟨T107, L107, k107, n107⟩, -, X107, ⟨Lc107, hQ107, l107, y107, z107⟩, st107⟩ := X103.interfaceBack hx (xi := (⟨"com/example/lotbook/lotbook/Flag", "code", "()Ljava/lang/String;"⟩ : MethodName)) (y := (⟨"com/example/lotbook/lotbook/AccountStatus", "code", "()Ljava/lang/String;"⟩ : MethodName)) hown (mvT hZ (own_w hw 79 rfl)) (mvT hZ (own_w hw 80 rfl)) (mvT hZ (own_w hw 81 rfl)) (mvT hZ (own_w hw 82 rfl)) (mvT hZ (own_w hw 83 rfl)) (mvT hZ (own_w hw 84 rfl)) (mvT hZ (own_w hw 85 rfl)) (mvT hZ (own_w hw 86 rfl)) (by decide) (backOf (W := 0) (rmSc l Z a0 hw [] o0 c0 T103.heap n0 Z104 (E0_o0.keep K104) (F0_o0_code.keep K104 nin0)) hZ (own_w hw 87 rfl) (own_w hw 3 rfl) (by decide) (by decide)) q107a q107b q107c (g := (mkF m 35 #[.val (.ref arr), .val (.ref stt), .val (.ref c0), .val (.ref b101), .val (.ref arr), .val (.int 3), .val (.int 0), .val (.ref o0)] [(.ref o0)])) rfl (by rw [hml]; rfl) (Steps.refl _) (argsL := []) (rest := []) (lenOf pdFf0s_1 rfl) rfl (by show 2 * 0 + _ ≤ _; exact Nat.le_of_eq rfl) (hb hby dFf0f_35) (fun _ _ => ⟨rfl, rfl, (by decide : 2 + 0 ≤ _), (by decide : 20 + 0 ≤ _)⟩)
  dsimp only [Pt.U, Pt.locs, Pt.cells, Pt.slots] at X107 l107 y107 z107 st107 hQ107
  subst l107 y107 z107
  obtain ⟨rfl, N107q, eh107⟩ := hQ107
  have N107 := Fr.app N103 N107q
  obtain ⟨cq108, kq108, q108a, q108b, q108c⟩ := isOf hZ eh107 (E0_c0.keep K104)
  obtain ⟨_, _, ⟨T108, L108, k108, n108⟩, -, X108, ⟨Lc108, hQ108, l108, y108, z108⟩, st108⟩ := X107.virtualBack hx (y := (⟨"java/lang/String", "equals", "(Ljava/lang/Object;)Z"⟩ : MethodName)) (z := (⟨"java/lang/String", "equals", "(Ljava/lang/Object;)Z"⟩ : MethodName)) hown (mvT hZ (own_w hw 90 rfl)) (mvT hZ (own_w hw 91 rfl)) (notFace_of_selects (args := #[]) (mvT hZ (own_w hw 93 rfl))) (mvT hZ (own_w hw 93 rfl)) (mvT hZ (own_w hw 92 rfl)) (by decide) (backOf (W := 0) (rmEs l Z a0 hw [] c0 T103.heap n0 Z104 ) hZ (own_w hw 94 rfl) (own_w hw 7 rfl) (by decide) (by decide)) q108a q108c (g := (mkF m 41 #[.val (.ref arr), .val (.ref stt), .val (.ref c0), .val (.ref b101), .val (.ref arr), .val (.int 3), .val (.int 0), .val (.ref o0)] [(.ref c0), (.ref c0)])) rfl (by rw [hml]; rfl) (Steps.refl _) (argsL := [(.ref c0)]) (rest := []) (lenOf pdFf0s_2 rfl) rfl (by show 2 * 0 + _ ≤ _; exact Nat.le_of_eq rfl) (hb hby dFf0f_41) (fun _ _ => ⟨rfl, eh107, (by decide : 2 + 0 ≤ _), (by decide : 20 + 0 ≤ _)⟩)
  dsimp only [Pt.U, Pt.locs, Pt.cells, Pt.slots] at X108 l108 y108 z108 st108 hQ108
  subst l108 y108 z108
  obtain ⟨rfl, N108q, eh108⟩ := hQ108
  have N108 := Fr.app N107 N108q
  refine GoC.by (fun _ kont => st101 _ (XS.dup X101.here hx rfl (hb hby dFf0f_3) rfl rfl (st103.trans (XS.astoreN X103.here hx rfl (hb hby dFf0f_7) rfl rfl (l' := #[.val (.ref arr), .val (.ref stt), .val (.ref c0), .val (.ref b101), .unset, .unset, .unset, .unset]) rfl (XS.aloadN X103.here hx rfl (hb hby dFf0f_8) rfl rfl (XS.astore X103.here hx rfl (hb hby dFf0f_9) rfl rfl (l' := #[.val (.ref arr), .val (.ref stt), .val (.ref c0), .val (.ref b101), .val (.ref arr), .unset, .unset, .unset]) rfl (XS.aload X103.here hx rfl (hb hby dFf0f_11) rfl rfl (X103.arraylength hx (own_at rfl Ar_q105.1) (State.isArrayOf_alike hZ.alike Ar_q105.2.1) (g := (mkF m 13 #[.val (.ref arr), .val (.ref stt), .val (.ref c0), .val (.ref b101), .val (.ref arr), .unset, .unset, .unset] [(.ref arr)])) rfl rfl (hb hby dFf0f_13) _ (own_fI (len_of S_q105 N_q105) (XS.istore X103.here hx rfl (hb hby dFf0f_14) rfl (l' := #[.val (.ref arr), .val (.ref stt), .val (.ref c0), .val (.ref b101), .val (.ref arr), .val (.int 3), .unset, .unset]) rfl (XS.iconst X103.here hx rfl (hb hby dFf0f_16) (XS.istore X103.here hx rfl (hb hby dFf0f_17) rfl (l' := #[.val (.ref arr), .val (.ref stt), .val (.ref c0), .val (.ref b101), .val (.ref arr), .val (.int 3), .val (.int 0), .unset]) rfl (XS.iload X103.here hx rfl (hb hby dFf0f_19) rfl (XS.iload X103.here hx rfl (hb hby dFf0f_21) rfl (XS.icmpNo X103.here hx rfl (hb hby dFf0f_23) rfl (by decide) (XS.aload X103.here hx rfl (hb hby dFf0f_26) rfl rfl (XS.iload X103.here hx rfl (hb hby dFf0f_28) rfl (X103.aaload hx (j := (0 : Int32)) (v := (.ref o0)) (own_at rfl Ar_q106.1) (State.isArrayOf_alike hZ.alike Ar_q106.2.1) rfl Ar_q106.2.2 hin_q106 hat_q106 (g := (mkF m 30 #[.val (.ref arr), .val (.ref stt), .val (.ref c0), .val (.ref b101), .val (.ref arr), .val (.int 3), .val (.int 0), .unset] [(.int 0), (.ref arr)])) rfl rfl (hb hby dFf0f_30) _ (XS.astore X103.here hx rfl (hb hby dFf0f_31) rfl rfl (l' := #[.val (.ref arr), .val (.ref stt), .val (.ref c0), .val (.ref b101), .val (.ref arr), .val (.int 3), .val (.int 0), .val (.ref o0)]) rfl (XS.aload X103.here hx rfl (hb hby dFf0f_33) rfl rfl (st107.trans (XS.aloadN X107.here hx rfl (hb hby dFf0f_40) rfl rfl (st108.trans (XS.ifNo X108.here hx rfl (hb hby dFf0f_44) rfl (by decide) (XS.aload X108.here hx rfl (hb hby dFf0f_47) rfl rfl kont))))))))))))))))))))))))) ?_
  show GoC _ _ _ _ _ _ _ _ (T108.setTop (mkF m 49 #[.val (.ref arr), .val (.ref stt), .val (.ref c0), .val (.ref b101), .val (.ref arr), .val (.int 3), .val (.int 0), .val (.ref o0)] [(.ref o0)]))
  refine GoC.retR X108 hS (by rw [eh108]; exact hk104) hZ hEL (by rw [hh, eh108]; exact CR104) hx hret rfl rfl hlk (hb hby dFf0f_49) ?_ (by decide) (by decide)
  show QFf0s Z o0 h0 n0 (some (.ref o0)) T108.heap _
  rw [eh108]
  exact ⟨rfl, N108, K104⟩

theorem pdAf0s_0 : parseMethodDescriptor "()[Lcom/example/lotbook/lotbook/AccountStatus;" = some ⟨[], some (.array (.object "com/example/lotbook/lotbook/AccountStatus"))⟩ := by decide +kernel
theorem pdAf0s_1 : parseMethodDescriptor "([Lcom/example/lotbook/lotbook/Flag;Ljava/lang/String;Ljava/lang/String;)Lcom/example/lotbook/lotbook/Flag;" = some ⟨[(.array (.object "com/example/lotbook/lotbook/Flag")), (.object "java/lang/String"), (.object "java/lang/String")], some (.object "com/example/lotbook/lotbook/Flag")⟩ := by decide +kernel
theorem pnAf0s : plainName "com/example/lotbook/lotbook/AccountStatus" = true := by first | (simp [plainName, overriddenIn]; done) | decide +kernel
theorem efAf0s (m : MethodId) (c0 : Addr) : entryFrame m #[(.ref c0)] 1 = mkF m 0 #[.val (.ref c0)] [] := by first | (simp [entryFrame, mkF, argsToLocals, Value.category]; done) | rfl
def QAf0s (Z : State) (o0 : Addr) (h0 : Heap) (n0 : Nat) (v : Option Value) (h : Heap) (L : List Loc) : Prop := (v = some (.ref o0) ∧ Fr n0 L ∧ Keep h0 h [])
set_option maxRecDepth 65536 in
set_option maxHeartbeats 40000000 in
theorem rmAf0s (l : Launch) (Z : State) (a0 : Array Value) (hw : ∀ d ∈ tables_1, d.before a0 Z = true) (ws : List Jvm.Cond) (c0 : Addr) (o0 : Addr) (vals : Addr) (kc_vals : ClassId) (o1 : Addr) (o2 : Addr) (cs : Int32) (h0 : Heap) (n0 : Nat) (Z0 : n0 ≤ h0.size) (E0_o0 : Exa Z h0 o0 "com/example/lotbook/lotbook/AccountStatus") (F0_o0_code : Fld Z h0 o0 "com/example/lotbook/lotbook/AccountStatus" "code" "Ljava/lang/String;" (.ref c0)) (E0_c0 : Exa Z h0 c0 "java/lang/String") (E0_vals : Exa Z h0 vals "[Lcom/example/lotbook/lotbook/AccountStatus;") (V0_vals : Arv Z h0 vals kc_vals (.object "com/example/lotbook/lotbook/AccountStatus") (3 : Int32) [(.ref o0), (.ref o1), (.ref o2)] .null) (S0_COMPACT_STRINGS : Sta Z h0 "java/lang/String" "COMPACT_STRINGS" "Z" (.int cs)) (S0__VALUES : Sta Z h0 "com/example/lotbook/lotbook/AccountStatus" "$VALUES" "[Lcom/example/lotbook/lotbook/AccountStatus;" (.ref vals)) (hcs : ¬ (cs = (0 : Int32))) :
    CtC l Z (⟨"com/example/lotbook/lotbook/AccountStatus", "fromCode", "(Ljava/lang/String;)Lcom/example/lotbook/lotbook/AccountStatus;"⟩ : MethodName) prog_2_method_5_code 1 (some (.object "com/example/lotbook/lotbook/AccountStatus")) ws (⟨4, 5, 51, 57⟩ : Room) #[(.ref c0)] h0 (QAf0s Z o0 h0 n0) := by
  refine MetFree.of_bodySF (plainFor_of_name pnAf0s) hisR ?_
  intro p e s m args below meth c s₁ Bd hml hP hK
  obtain ⟨rfl, hZ, hh, hCH⟩ := hP
  obtain ⟨hx, hby, hown, hnm, hlk, hret, X0, e0⟩ := own_stW Bd "com/example/lotbook/lotbook/AccountStatus" rfl hh
  have N0 := Fr.nil n0
  have hS : s.Since s.vm 0 := (State.WarmedH.refl s).since 0
  have hk0 : 0 ≤ h0.size := Nat.zero_le _
  have CR0 : CHr Z own_EL s.vm h0 s.vm h0 := CHr.refl hCH
  show GoC Z p e below s (⟨4, 5, 51, 57⟩ : Room).cells (⟨4, 5, 51, 57⟩ : Room).slots (QAf0s Z o0 h0 n0) (s₁.setTop (entryFrame m #[(.ref c0)] 1))
  rw [efAf0s]
  have hstr : ∀ a ∈ Bundle.stringAtoms, a.before a0 Z = true := by
    intro d hd
    simp only [Bundle.stringAtoms, Bundle.sN, List.mem_cons, List.not_mem_nil, or_false] at hd
    rcases hd with rfl | rfl | rfl | rfl | rfl | rfl | rfl
    · exact (own_w hw 7 rfl)
    · exact (own_w hw 6 rfl)
    · exact (own_w hw 23 rfl)
    · exact (own_w hw 33 rfl)
    · exact (own_w hw 31 rfl)
    · exact (own_w hw 55 rfl)
    · exact (own_w hw 56 rfl)
  have hEL : EW Z a0 own_EL := EW.cons (own_w hw 119 rfl) (by decide) (EW.cons (own_w hw 164 rfl) (by decide) EW.nil)
  obtain ⟨_, _, ⟨T101, L101, k101, n101⟩, -, X101, ⟨Lc101, hQ101, l101, y101, z101⟩, st101⟩ := Jvm.LawKit.callS X0 hx (y := (⟨"com/example/lotbook/lotbook/AccountStatus", "values", "()[Lcom/example/lotbook/lotbook/AccountStatus;"⟩ : MethodName)) hown (mvT hZ (own_w hw 37 rfl)) (mvT hZ (own_w hw 38 rfl)) (mvT hZ (own_w hw 3 rfl)) (mvT hZ (own_w hw 39 rfl)) (by decide) (backOf (W := 0) (rmVa l Z a0 hw [] vals kc_vals o0 o1 o2 h0 n0 Z0 E0_vals V0_vals S0__VALUES) hZ (own_w hw 39 rfl) (own_w hw 3 rfl) (by decide) (by decide)) (g := (mkF m 0 #[.val (.ref c0)] [])) rfl (by rw [hml]; rfl) (argsL := []) (rest := []) (lenOf pdAf0s_0 rfl) rfl (by show 2 * 0 + _ ≤ _; exact Nat.le_of_eq rfl) (hb hby dAf0f_0) (fun _ _ => ⟨rfl, e0, (by decide : 0 + 1 ≤ _), (by decide : 0 + 3 ≤ _)⟩)
  dsimp only [Pt.U, Pt.locs, Pt.cells, Pt.slots] at X101 l101 y101 z101 st101 hQ101
  subst l101 y101 z101
  obtain ⟨b102_101, kc_vals_101, rfl, N101q, K101, ge_b102_101, szc_b102_101, g101_0, g101_1⟩ := hQ101
  have sz_b102_101 : h0.size ≤ b102_101 := Nat.le_trans (Keep.refl h0 []).1 szc_b102_101
  have SF_b102_101 := own_snew CR0 szc_b102_101
  have Z102 := Nat.le_trans Z0 K101.1
  have hk102 := Nat.le_trans hk0 K101.1
  have K102 : Keep h0 T101.heap [] := Keep.trans (Keep.refl h0 []) K101 all0
  have SF102_b102_101 := Safe.keep K101 sf0 CR0.1 SF_b102_101
  have CR102 := CHr.trans CR0 (CHr.keep K101 sf0 CR0.1)
  have N101 := Fr.app N0 N101q
  refine GoC.by (fun _ kont => st101 _ kont) ?_
  show GoC _ _ _ _ _ _ _ _ (T101.setTop (mkF m 3 #[.val (.ref c0)] [(.ref b102_101)]))
  obtain ⟨s103, T103, h103, k103, X103, e103, X_103, hS, hk103, hZ, hown, C103, -, st103⟩ := ldcOH X101 hx hZ hown (own_w hw 54 rfl) hstr rfl hS hk102 hEL CR102.1 (g := (mkF m 3 #[.val (.ref c0)] [(.ref b102_101)])) rfl (hb hby dAf0f_3) (n := 24) (by decide) (by decide) (by decide) (by decide)
  have CR103 := CHr.trans CR102 C103
  have SF103_b102_101 := C103.safe g101_0.lt SF102_b102_101
  have E104_b102_101 := g101_0.ext X_103
  have V104_b102_101 := g101_1.ext X_103
  have Z104 := Nat.le_trans Z102 X_103.1
  have hk104 := Nat.le_trans hk102 X_103.1
  have K104 : Keep h0 h103 [] := K102.ext X_103
  refine GoC.by (fun _ kont => st103 _ (XS.aloadN X103.here hx rfl (hb hby dAf0f_5) rfl rfl kont)) ?_
  show GoC _ _ _ _ _ _ _ _ (T103.setTop (mkF m 6 #[.val (.ref c0)] [(.ref c0), (.ref s103), (.ref b102_101)]))
  obtain ⟨_, _, ⟨T105, L105, k105, n105⟩, -, X105, hS105, hg105, ⟨Lc105, hQ105, l105, y105, z105, C105⟩, st105⟩ := callSS X103 hx (y := (⟨"com/example/lotbook/lotbook/Flag", "fromCode", "([Lcom/example/lotbook/lotbook/Flag;Ljava/lang/String;Ljava/lang/String;)Lcom/example/lotbook/lotbook/Flag;"⟩ : MethodName)) hown (mvT hZ (own_w hw 57 rfl)) (mvT hZ (own_w hw 58 rfl)) (mvT hZ (own_w hw 59 rfl)) (mvT hZ (own_w hw 60 rfl)) (by decide) (backOfSH (W := 0) (rmFf0s l Z a0 hw [] b102_101 s103 c0 o0 kc_vals_101 o1 o2 cs h103 n0 Z104 (E0_o0.keep K104) (F0_o0_code.keep K104 nin0) (E0_c0.keep K104) V104_b102_101 (own_stakeep S0_COMPACT_STRINGS K104 all0) hcs) hZ (own_w hw 60 rfl) (own_w hw 59 rfl) (by decide) (by decide) hEL CR103.1) (g := (mkF m 6 #[.val (.ref c0)] [(.ref c0), (.ref s103), (.ref b102_101)])) rfl (by rw [hml]; rfl) (argsL := [(.ref b102_101), (.ref s103), (.ref c0)]) (rest := []) (lenOf pdAf0s_1 rfl) rfl (by show 2 * 0 + _ ≤ _; exact Nat.le_of_eq rfl) (hb hby dAf0f_6) (fun _ _ => ⟨rfl, e103, (by decide : 3 + 2 ≤ _), (by decide : 31 + 20 ≤ _)⟩)
  dsimp only [Pt.U, Pt.locs, Pt.cells, Pt.slots] at X105 hS105 hg105 l105 y105 z105 st105 hQ105 C105
  subst l105 y105 z105
  obtain ⟨X105, hS, hZ, hown⟩ := rebS hS (show _ ≤ T103.heap.size from by rw [e103]; exact hk103) X105 hS105 hg105 hZ hown
  have CR105 := CHr.trans CR103 C105
  obtain ⟨rfl, N105q, K105⟩ := hQ105
  have E106_b102_101 := E104_b102_101.keep K105
  have V106_b102_101 := V104_b102_101.keep K105 nin0
  have Z106 := Nat.le_trans Z104 K105.1
  have K106 : Keep h0 T105.heap [] := Keep.trans K104 K105 all0
  have N105 := Fr.app N101 N105q
  obtain ⟨T107, X107, e107, st107⟩ := castY X105 hx hZ hown (own_w hw 100 rfl) rfl (Ins.self (E0_o0.keep K106)) (g := (mkF m 9 #[.val (.ref c0)] [(.ref o0)])) rfl rfl (hb hby dAf0f_9)
  refine GoC.by (fun _ kont => st105.trans (st107 _ kont)) ?_
  show GoC _ _ _ _ _ _ _ _ (T107.setTop (mkF m 12 #[.val (.ref c0)] [(.ref o0)]))
  refine GoC.retR X107 hS (by rw [e107]; exact (Nat.le_refl _)) hZ hEL (by rw [hh, e107]; exact CR105) hx hret rfl rfl hlk (hb hby dAf0f_12) ?_ (by decide) (by decide)
  show QAf0s Z o0 h0 n0 (some (.ref o0)) T107.heap _
  rw [e107]
  exact ⟨rfl, N105, K106⟩

theorem dFf1f_50 : decode prog_34_method_2_code 50 = .ok (.aload_n 3, 1) := by decide +kernel
theorem dFf1f_51 : decode prog_34_method_2_code 51 = .ok (.aload_n 3, 1) := by decide +kernel
theorem dFf1f_52 : decode prog_34_method_2_code 52 = .ok (.invokevirtual 19, 3) := by decide +kernel
theorem dFf1f_55 : decode prog_34_method_2_code 55 = .ok (.ifCond .ne 8, 3) := by decide +kernel
theorem dFf1f_58 : decode prog_34_method_2_code 58 = .ok (.ldc 23, 2) := by decide +kernel
theorem dFf1f_60 : decode prog_34_method_2_code 60 = .ok (.goto 5, 3) := by decide +kernel
theorem dFf1f_65 : decode prog_34_method_2_code 65 = .ok (.invokevirtual 27, 3) := by decide +kernel
theorem dFf1f_68 : decode prog_34_method_2_code 68 = .ok (.aload 7, 2) := by decide +kernel
theorem dFf1f_70 : decode prog_34_method_2_code 70 = .ok (.invokeinterface 7 1, 5) := by decide +kernel
theorem dFf1f_75 : decode prog_34_method_2_code 75 = .ok (.invokevirtual 27, 3) := by decide +kernel
theorem dFf1f_78 : decode prog_34_method_2_code 78 = .ok (.pop, 1) := by decide +kernel
theorem dFf1f_79 : decode prog_34_method_2_code 79 = .ok (.iinc 6 1, 3) := by decide +kernel
theorem dFf1f_82 : decode prog_34_method_2_code 82 = .ok (.goto (-63), 3) := by decide +kernel
theorem pdFf1f_0 : parseMethodDescriptor "()V" = some ⟨[], none⟩ := by decide +kernel
theorem pdFf1f_1 : parseMethodDescriptor "()Ljava/lang/String;" = some ⟨[], some (.object "java/lang/String")⟩ := by decide +kernel
theorem pdFf1f_2 : parseMethodDescriptor "(Ljava/lang/Object;)Z" = some ⟨[(.object "java/lang/Object")], some .boolean⟩ := by decide +kernel
theorem pdFf1f_3 : parseMethodDescriptor "()I" = some ⟨[], some .int⟩ := by decide +kernel
theorem pdFf1f_4 : parseMethodDescriptor "(Ljava/lang/String;)Ljava/lang/StringBuilder;" = some ⟨[(.object "java/lang/String")], some (.object "java/lang/StringBuilder")⟩ := by decide +kernel
theorem pnFf1f : plainName "com/example/lotbook/lotbook/Flag" = true := by first | (simp [plainName, overriddenIn]; done) | decide +kernel
theorem efFf1f (m : MethodId) (arr : Addr) (stt : Addr) (a : Addr) : entryFrame m #[(.ref arr), (.ref stt), (.ref a)] 8 = mkF m 0 #[.val (.ref arr), .val (.ref stt), .val (.ref a), .unset, .unset, .unset, .unset, .unset] [] := by first | (simp [entryFrame, mkF, argsToLocals, Value.category]; done) | rfl
def QFf1f (Z : State) (o1 : Addr) (h0 : Heap) (n0 : Nat) (v : Option Value) (h : Heap) (L : List Loc) : Prop := (v = some (.ref o1) ∧ Fr n0 L ∧ Keep h0 h [])
set_option maxRecDepth 65536 in
set_option maxHeartbeats 40000000 in
theorem rmFf1f (l : Launch) (Z : State) (a0 : Array Value) (hw : ∀ d ∈ tables_1, d.before a0 Z = true) (ws : List Jvm.Cond) (arr : Addr) (stt : Addr) (a : Addr) (o0 : Addr) (c0 : Addr) (o1 : Addr) (c1 : Addr) (w0 : Addr) (w1 : Addr) (wa : Addr) (kc_arr : ClassId) (o2 : Addr) (kc_w0 : ClassId) (kc_w1 : ClassId) (kc_wa : ClassId) (cs : Int32) (h0 : Heap) (n0 : Nat) (Z0 : n0 ≤ h0.size) (E0_o0 : Exa Z h0 o0 "com/example/lotbook/lotbook/AccountStatus") (F0_o0_code : Fld Z h0 o0 "com/example/lotbook/lotbook/AccountStatus" "code" "Ljava/lang/String;" (.ref c0)) (E0_o1 : Exa Z h0 o1 "com/example/lotbook/lotbook/AccountStatus") (F0_o1_code : Fld Z h0 o1 "com/example/lotbook/lotbook/AccountStatus" "code" "Ljava/lang/String;" (.ref c1)) (E0_c0 : Exa Z h0 c0 "java/lang/String") (F0_c0_coder : Fld Z h0 c0 "java/lang/String" "coder" "B" (.int 0)) (F0_c0_value : Fld Z h0 c0 "java/lang/String" "value" "[B" (.ref w0)) (E0_c1 : Exa Z h0 c1 "java/lang/String") (F0_c1_coder : Fld Z h0 c1 "java/lang/String" "coder" "B" (.int 0)) (F0_c1_value : Fld Z h0 c1 "java/lang/String" "value" "[B" (.ref w1)) (E0_a : Exa Z h0 a "java/lang/String") (F0_a_coder : Fld Z h0 a "java/lang/String" "coder" "B" (.int 0)) (F0_a_value : Fld Z h0 a "java/lang/String" "value" "[B" (.ref wa)) (V0_arr : Arv Z h0 arr kc_arr (.object "com/example/lotbook/lotbook/AccountStatus") (3 : Int32) [(.ref o0), (.ref o1), (.ref o2)] .null) (V0_w0 : Arv Z h0 w0 kc_w0 .byte (6 : Int32) [(.int 110), (.int 111), (.int 114), (.int 109), (.int 97), (.int 108)] (.int 0)) (V0_w1 : Arv Z h0 w1 kc_w1 .byte (11 : Int32) [(.int 110), (.int 111), (.int 95), (.int 110), (.int 101), (.int 119), (.int 95), (.int 111), (.int 112), (.int 101), (.int 110)] (.int 0)) (V0_wa : Arv Z h0 wa kc_wa .byte (11 : Int32) [(.int 110), (.int 111), (.int 95), (.int 110), (.int 101), (.int 119), (.int 95), (.int 111), (.int 112), (.int 101), (.int 110)] (.int 0)) (ne0_c0_a : c0 ≠ a) (ne0_c1_a : c1 ≠ a) (S0_COMPACT_STRINGS : Sta Z h0 "java/lang/String" "COMPACT_STRINGS" "Z" (.int cs)) (hcs : ¬ (cs = (0 : Int32))) :
    CtC l Z (⟨"com/example/lotbook/lotbook/Flag", "fromCode", "([Lcom/example/lotbook/lotbook/Flag;Ljava/lang/String;Ljava/lang/String;)Lcom/example/lotbook/lotbook/Flag;"⟩ : MethodName) prog_34_method_2_code 8 (some (.object "com/example/lotbook/lotbook/Flag")) ws (⟨5, 4, 24, 74⟩ : Room) #[(.ref arr), (.ref stt), (.ref a)] h0 (QFf1f Z o1 h0 n0) := by
  refine MetFree.of_bodySF (plainFor_of_name pnFf1f) hisR ?_
  intro p e s m args below meth c s₁ Bd hml hP hK
  obtain ⟨rfl, hZ, hh, hCH⟩ := hP
  obtain ⟨hx, hby, hown, hnm, hlk, hret, X0, e0⟩ := own_stW Bd "com/example/lotbook/lotbook/Flag" rfl hh
  have N0 := Fr.nil n0
  have hS : s.Since s.vm 0 := (State.WarmedH.refl s).since 0
  have hk0 : 0 ≤ h0.size := Nat.zero_le _
  have CR0 : CHr Z own_EL s.vm h0 s.vm h0 := CHr.refl hCH
  show GoC Z p e below s (⟨5, 4, 24, 74⟩ : Room).cells (⟨5, 4, 24, 74⟩ : Room).slots (QFf1f Z o1 h0 n0) (s₁.setTop (entryFrame m #[(.ref arr), (.ref stt), (.ref a)] 8))
  rw [efFf1f]
  have hstr : ∀ a ∈ Bundle.stringAtoms, a.before a0 Z = true := by
    intro d hd
    simp only [Bundle.stringAtoms, Bundle.sN, List.mem_cons, List.not_mem_nil, or_false] at hd
    rcases hd with rfl | rfl | rfl | rfl | rfl | rfl | rfl
    · exact (own_w hw 7 rfl)
    · exact (own_w hw 6 rfl)
    · exact (own_w hw 23 rfl)
    · exact (own_w hw 33 rfl)
    · exact (own_w hw 31 rfl)
    · exact (own_w hw 55 rfl)
    · exact (own_w hw 56 rfl)
  have hEL : EW Z a0 own_EL := EW.cons (own_w hw 119 rfl) (by decide) (EW.cons (own_w hw 164 rfl) (by decide) EW.nil)
  obtain ⟨T101, h101, X101, e101, X_101, A101, D101, -, st101⟩ := newO X0 hx hZ hown (own_w hw 61 rfl) (own_w hw 62 rfl) (own_w hw 63 rfl) e0 (g := (mkF m 0 #[.val (.ref arr), .val (.ref stt), .val (.ref a), .unset, .unset, .unset, .unset, .unset] [])) rfl (hb hby dFf0f_0) (by decide) (by decide)
  obtain ⟨b101, g101⟩ : ∃ z, z = h0.size := ⟨_, rfl⟩
  rw [← g101] at A101 D101 st101
  have ge_b101 : n0 ≤ b101 := Nat.le_trans Z0 (Nat.le_of_eq g101.symm)
  have sz_b101 : h0.size ≤ b101 := Nat.le_trans (Keep.refl h0 []).1 (Nat.le_of_eq g101.symm)
  have SF_b101 := own_snew CR0 (Nat.le_of_eq g101.symm)
  have Z102 := Nat.le_trans Z0 X_101.1
  have hk102 := Nat.le_trans hk0 X_101.1
  have K102 : Keep h0 h101 [] := (Keep.refl h0 []).ext X_101
  have SF102_b101 := Safe.ext X_101 CR0.1 SF_b101
  have CR102 := CHr.trans CR0 (CHr.ext X_101 CR0.1)
  have F101_value : Fld Z h101 b101 "java/lang/AbstractStringBuilder" "value" "[B" .null := D101 (Or.inl (own_w hw 76 rfl)) (ty := (.array .byte)) (by decide)
  have F101_coder : Fld Z h101 b101 "java/lang/AbstractStringBuilder" "coder" "B" (.int 0) := D101 (Or.inl (own_w hw 78 rfl)) (ty := .byte) (by decide)
  have F101_count : Fld Z h101 b101 "java/lang/AbstractStringBuilder" "count" "I" (.int 0) := D101 (Or.inl (own_w hw 118 rfl)) (ty := .int) (by decide)
  obtain ⟨_, _, ⟨T103, L103, k103, n103⟩, -, X103, ⟨Lc103, hQ103, l103, y103, z103⟩, st103⟩ := X101.specialBack hx (y := (⟨"java/lang/StringBuilder", "<init>", "()V"⟩ : MethodName)) rfl hown (mvT hZ (own_w hw 64 rfl)) (mvT hZ (own_w hw 65 rfl)) (mvT hZ (own_w hw 66 rfl)) (by decide) (backOf (W := 1) (rmBz l Z a0 hw [] b101 cs h101 n0 Z102 A101 F101_value F101_coder F101_count (own_stakeep S0_COMPACT_STRINGS K102 all0) ge_b101 hcs) hZ (own_w hw 66 rfl) (own_w hw 63 rfl) (by decide) (by decide)) (g := (mkF m 4 #[.val (.ref arr), .val (.ref stt), .val (.ref a), .unset, .unset, .unset, .unset, .unset] [(.ref b101), (.ref b101)])) rfl (by rw [hml]; rfl) (Steps.refl _) (a := b101) (argsL := []) (rest := [(.ref b101)]) (lenOf pdFf1f_0 rfl) rfl (by show 2 * 0 + _ ≤ _; exact Nat.le_of_eq rfl) (hb hby dFf0f_4) (fun _ _ => ⟨rfl, e101, (by decide : 1 + 1 ≤ _), (by decide : 4 + 16 ≤ _)⟩)
  dsimp only [Pt.U, Pt.locs, Pt.cells, Pt.slots] at X103 l103 y103 z103 st103 hQ103
  subst l103 y103 z103
  obtain ⟨b103_101_103, k103_101_103, rfl, N103q, K103, g103_0, g103_1, g103_2, g103_3, ge_b103_101_103, szc_b103_101_103, g103_4⟩ := hQ103
  have sz_b103_101_103 : h0.size ≤ b103_101_103 := Nat.le_trans K102.1 szc_b103_101_103
  have SF_b103_101_103 := own_snew CR102 szc_b103_101_103
  have E104_b101 := A101.keep K103
  have Z104 := Nat.le_trans Z102 K103.1
  have hk104 := Nat.le_trans hk102 K103.1
  have K104 : Keep h0 T103.heap [] := Keep.trans K102 K103 (allS (Or.inr sz_b101) all0)
  have SF104_b101 := Safe.keep K103 (sfS SF102_b101 sf0) CR102.1 SF102_b101
  have SF104_b103_101_103 := Safe.keep K103 (sfS SF102_b101 sf0) CR102.1 SF_b103_101_103
  have CR104 := CHr.trans CR102 (CHr.keep K103 (sfS SF102_b101 sf0) CR102.1)
  have N103 := Fr.app N0 N103q
  obtain ⟨cl_q105, Ar_q105, q1_q105, S_q105, N_q105, H_q105, G_q105⟩ := id (V0_arr.keep K104 nin0)
  obtain ⟨cl_q106, Ar_q106, q1_q106, S_q106, N_q106, H_q106, G_q106⟩ := id (V0_arr.keep K104 nin0)
  have hin_q106 := own_ib S_q106 (0 : Int32) (by decide)
  have hat_q106 : cl_q106.slots[((0 : Int32)).toNatClampNeg]? = some (.ref o0) := Has.at H_q106 hin_q106 rfl
  obtain ⟨cq107, kq107, q107a, q107b, q107c⟩ := isOf hZ rfl (E0_o0.keep K104)
  obtain ⟨_, _, ⟨T107, L107, k107, n107⟩, -, X107, ⟨Lc107, hQ107, l107, y107, z107⟩, st107⟩ := X103.interfaceBack hx (xi := (⟨"com/example/lotbook/lotbook/Flag", "code", "()Ljava/lang/String;"⟩ : MethodName)) (y := (⟨"com/example/lotbook/lotbook/AccountStatus", "code", "()Ljava/lang/String;"⟩ : MethodName)) hown (mvT hZ (own_w hw 79 rfl)) (mvT hZ (own_w hw 80 rfl)) (mvT hZ (own_w hw 81 rfl)) (mvT hZ (own_w hw 82 rfl)) (mvT hZ (own_w hw 83 rfl)) (mvT hZ (own_w hw 84 rfl)) (mvT hZ (own_w hw 85 rfl)) (mvT hZ (own_w hw 86 rfl)) (by decide) (backOf (W := 0) (rmSc l Z a0 hw [] o0 c0 T103.heap n0 Z104 (E0_o0.keep K104) (F0_o0_code.keep K104 nin0)) hZ (own_w hw 87 rfl) (own_w hw 3 rfl) (by decide) (by decide)) q107a q107b q107c (g := (mkF m 35 #[.val (.ref arr), .val (.ref stt), .val (.ref a), .val (.ref b101), .val (.ref arr), .val (.int 3), .val (.int 0), .val (.ref o0)] [(.ref o0)])) rfl (by rw [hml]; rfl) (Steps.refl _) (argsL := []) (rest := []) (lenOf pdFf1f_1 rfl) rfl (by show 2 * 0 + _ ≤ _; exact Nat.le_of_eq rfl) (hb hby dFf0f_35) (fun _ _ => ⟨rfl, rfl, (by decide : 2 + 0 ≤ _), (by decide : 20 + 0 ≤ _)⟩)
  dsimp only [Pt.U, Pt.locs, Pt.cells, Pt.slots] at X107 l107 y107 z107 st107 hQ107
  subst l107 y107 z107
  obtain ⟨rfl, N107q, eh107⟩ := hQ107
  have N107 := Fr.app N103 N107q
  obtain ⟨cq108, kq108, q108a, q108b, q108c⟩ := isOf hZ eh107 (E0_c0.keep K104)
  obtain ⟨_, _, ⟨T108, L108, k108, n108⟩, -, X108, ⟨Lc108, hQ108, l108, y108, z108⟩, st108⟩ := X107.virtualBack hx (y := (⟨"java/lang/String", "equals", "(Ljava/lang/Object;)Z"⟩ : MethodName)) (z := (⟨"java/lang/String", "equals", "(Ljava/lang/Object;)Z"⟩ : MethodName)) hown (mvT hZ (own_w hw 90 rfl)) (mvT hZ (own_w hw 91 rfl)) (notFace_of_selects (args := #[]) (mvT hZ (own_w hw 93 rfl))) (mvT hZ (own_w hw 93 rfl)) (mvT hZ (own_w hw 92 rfl)) (by decide) (backOf (W := 0) (rmEq01 l Z a0 hw [] c0 a w0 wa kc_w0 kc_wa cs T103.heap n0 Z104 (E0_c0.keep K104) (F0_c0_coder.keep K104 nin0) (F0_c0_value.keep K104 nin0) (E0_a.keep K104) (F0_a_coder.keep K104 nin0) (F0_a_value.keep K104 nin0) (V0_w0.keep K104 nin0) (V0_wa.keep K104 nin0) ne0_c0_a (own_stakeep S0_COMPACT_STRINGS K104 all0) hcs) hZ (own_w hw 94 rfl) (own_w hw 7 rfl) (by decide) (by decide)) q108a q108c (g := (mkF m 41 #[.val (.ref arr), .val (.ref stt), .val (.ref a), .val (.ref b101), .val (.ref arr), .val (.int 3), .val (.int 0), .val (.ref o0)] [(.ref a), (.ref c0)])) rfl (by rw [hml]; rfl) (Steps.refl _) (argsL := [(.ref a)]) (rest := []) (lenOf pdFf1f_2 rfl) rfl (by show 2 * 0 + _ ≤ _; exact Nat.le_of_eq rfl) (hb hby dFf0f_41) (fun _ _ => ⟨rfl, eh107, (by decide : 2 + 0 ≤ _), (by decide : 20 + 0 ≤ _)⟩)
  dsimp only [Pt.U, Pt.locs, Pt.cells, Pt.slots] at X108 l108 y108 z108 st108 hQ108
  subst l108 y108 z108
  obtain ⟨rfl, N108q, eh108⟩ := hQ108
  have N108 := Fr.app N107 N108q
  obtain ⟨cq109, kq109, q109a, q109b, q109c⟩ := isOf hZ eh108 g103_0
  obtain ⟨_, _, ⟨T109, L109, k109, n109⟩, -, X109, ⟨Lc109, hQ109, l109, y109, z109⟩, st109⟩ := X108.virtualBack hx (y := (⟨"java/lang/StringBuilder", "length", "()I"⟩ : MethodName)) (z := (⟨"java/lang/StringBuilder", "length", "()I"⟩ : MethodName)) hown (mvT hZ (own_w hw 107 rfl)) (mvT hZ (own_w hw 108 rfl)) (notFace_of_selects (args := #[]) (mvT hZ (own_w hw 110 rfl))) (mvT hZ (own_w hw 110 rfl)) (mvT hZ (own_w hw 109 rfl)) (by decide) (backOf (W := 1) (rmBl l Z a0 hw [] b101 (0 : Int32) T103.heap n0 Z104 g103_0 g103_3) hZ (own_w hw 111 rfl) (own_w hw 63 rfl) (by decide) (by decide)) q109a q109c (g := (mkF m 52 #[.val (.ref arr), .val (.ref stt), .val (.ref a), .val (.ref b101), .val (.ref arr), .val (.int 3), .val (.int 0), .val (.ref o0)] [(.ref b101), (.ref b101)])) rfl (by rw [hml]; rfl) (Steps.refl _) (argsL := []) (rest := [(.ref b101)]) (lenOf pdFf1f_3 rfl) rfl (by show 2 * 0 + _ ≤ _; exact Nat.le_of_eq rfl) (hb hby dFf1f_52) (fun _ _ => ⟨rfl, eh108, (by decide : 2 + 0 ≤ _), (by decide : 20 + 0 ≤ _)⟩)
  dsimp only [Pt.U, Pt.locs, Pt.cells, Pt.slots] at X109 l109 y109 z109 st109 hQ109
  subst l109 y109 z109
  obtain ⟨rfl, N109q, eh109⟩ := hQ109
  have N109 := Fr.app N108 N109q
  refine GoC.by (fun _ kont => st101 _ (XS.dup X101.here hx rfl (hb hby dFf0f_3) rfl rfl (st103.trans (XS.astoreN X103.here hx rfl (hb hby dFf0f_7) rfl rfl (l' := #[.val (.ref arr), .val (.ref stt), .val (.ref a), .val (.ref b101), .unset, .unset, .unset, .unset]) rfl (XS.aloadN X103.here hx rfl (hb hby dFf0f_8) rfl rfl (XS.astore X103.here hx rfl (hb hby dFf0f_9) rfl rfl (l' := #[.val (.ref arr), .val (.ref stt), .val (.ref a), .val (.ref b101), .val (.ref arr), .unset, .unset, .unset]) rfl (XS.aload X103.here hx rfl (hb hby dFf0f_11) rfl rfl (X103.arraylength hx (own_at rfl Ar_q105.1) (State.isArrayOf_alike hZ.alike Ar_q105.2.1) (g := (mkF m 13 #[.val (.ref arr), .val (.ref stt), .val (.ref a), .val (.ref b101), .val (.ref arr), .unset, .unset, .unset] [(.ref arr)])) rfl rfl (hb hby dFf0f_13) _ (own_fI (len_of S_q105 N_q105) (XS.istore X103.here hx rfl (hb hby dFf0f_14) rfl (l' := #[.val (.ref arr), .val (.ref stt), .val (.ref a), .val (.ref b101), .val (.ref arr), .val (.int 3), .unset, .unset]) rfl (XS.iconst X103.here hx rfl (hb hby dFf0f_16) (XS.istore X103.here hx rfl (hb hby dFf0f_17) rfl (l' := #[.val (.ref arr), .val (.ref stt), .val (.ref a), .val (.ref b101), .val (.ref arr), .val (.int 3), .val (.int 0), .unset]) rfl (XS.iload X103.here hx rfl (hb hby dFf0f_19) rfl (XS.iload X103.here hx rfl (hb hby dFf0f_21) rfl (XS.icmpNo X103.here hx rfl (hb hby dFf0f_23) rfl (by decide) (XS.aload X103.here hx rfl (hb hby dFf0f_26) rfl rfl (XS.iload X103.here hx rfl (hb hby dFf0f_28) rfl (X103.aaload hx (j := (0 : Int32)) (v := (.ref o0)) (own_at rfl Ar_q106.1) (State.isArrayOf_alike hZ.alike Ar_q106.2.1) rfl Ar_q106.2.2 hin_q106 hat_q106 (g := (mkF m 30 #[.val (.ref arr), .val (.ref stt), .val (.ref a), .val (.ref b101), .val (.ref arr), .val (.int 3), .val (.int 0), .unset] [(.int 0), (.ref arr)])) rfl rfl (hb hby dFf0f_30) _ (XS.astore X103.here hx rfl (hb hby dFf0f_31) rfl rfl (l' := #[.val (.ref arr), .val (.ref stt), .val (.ref a), .val (.ref b101), .val (.ref arr), .val (.int 3), .val (.int 0), .val (.ref o0)]) rfl (XS.aload X103.here hx rfl (hb hby dFf0f_33) rfl rfl (st107.trans (XS.aloadN X107.here hx rfl (hb hby dFf0f_40) rfl rfl (st108.trans (XS.ifYes X108.here hx rfl (pc0 := 44) (pc' := 50) rfl (hb hby dFf0f_44) rfl (by decide) (by decide) (by decide) (XS.aloadN X108.here hx rfl (hb hby dFf1f_50) rfl rfl (XS.aloadN X108.here hx rfl (hb hby dFf1f_51) rfl rfl (st109.trans (XS.ifNo X109.here hx rfl (hb hby dFf1f_55) rfl (by decide) kont)))))))))))))))))))))))))))) ?_
  show GoC _ _ _ _ _ _ _ _ (T109.setTop (mkF m 58 #[.val (.ref arr), .val (.ref stt), .val (.ref a), .val (.ref b101), .val (.ref arr), .val (.int 3), .val (.int 0), .val (.ref o0)] [(.ref b101)]))
  obtain ⟨s110, T110, h110, k110, b110, kc110, X110, e110, X_110, hS, hk110, hZ, hown, E110, Fc110, Fv110, V110, -, -, C110, -, hne110, st110⟩ := ldcCH X109 hx hZ hown (own_w hw 119 rfl) hstr eh109 hS hk104 hEL (by simp [own_EL]) CR104.1 (vs := []) (z := 0) (by decide) (by decide) rfl (g := (mkF m 58 #[.val (.ref arr), .val (.ref stt), .val (.ref a), .val (.ref b101), .val (.ref arr), .val (.int 3), .val (.int 0), .val (.ref o0)] [(.ref b101)])) rfl (hb hby dFf1f_58) (n := 0) (by decide) (by decide) (by decide) (by decide)
  have CR110 := CHr.trans CR104 C110
  have SF110_b101 := C110.safe g103_0.lt SF104_b101
  have ne_b101_s110 := (hne110 b101 SF110_b101).1
  have ne_b101_b110 := (hne110 b101 SF110_b101).2
  have SF110_b103_101_103 := C110.safe g103_4.lt SF104_b103_101_103
  have ne_b103_101_103_s110 := (hne110 b103_101_103 SF110_b103_101_103).1
  have ne_b103_101_103_b110 := (hne110 b103_101_103 SF110_b103_101_103).2
  have F111_value_b101 := g103_1.ext X_110
  have F111_coder_b101 := g103_2.ext X_110
  have F111_count_b101 := g103_3.ext X_110
  have E111_b101 := g103_0.ext X_110
  have V111_b103_101_103 := g103_4.ext X_110
  have Z111 := Nat.le_trans Z104 X_110.1
  have hk111 := Nat.le_trans hk104 X_110.1
  have K111 : Keep h0 h110 [] := K104.ext X_110
  obtain ⟨cq112, kq112, q112a, q112b, q112c⟩ := isOf hZ e110 E111_b101
  obtain ⟨_, _, ⟨T112, L112, k112, n112⟩, -, X112, ⟨Lc112, hQ112, l112, y112, z112⟩, st112⟩ := X110.virtualBack hx (y := (⟨"java/lang/StringBuilder", "append", "(Ljava/lang/String;)Ljava/lang/StringBuilder;"⟩ : MethodName)) (z := (⟨"java/lang/StringBuilder", "append", "(Ljava/lang/String;)Ljava/lang/StringBuilder;"⟩ : MethodName)) hown (mvT hZ (own_w hw 120 rfl)) (mvT hZ (own_w hw 121 rfl)) (notFace_of_selects (args := #[]) (mvT hZ (own_w hw 123 rfl))) (mvT hZ (own_w hw 123 rfl)) (mvT hZ (own_w hw 122 rfl)) (by decide) (backOf (W := 0) (rmBa0 l Z a0 hw [] b101 s110 b103_101_103 b110 kc110 k103_101_103 (0 : Int32) (0 : Int32) (0 : Int32) (0 : Int32) (0 : Int32) (0 : Int32) (0 : Int32) (0 : Int32) (0 : Int32) (0 : Int32) (0 : Int32) (0 : Int32) (0 : Int32) (0 : Int32) (0 : Int32) (0 : Int32) cs h110 n0 Z111 E111_b101 F111_value_b101 F111_coder_b101 F111_count_b101 E110 Fc110 Fv110 V110 V111_b103_101_103 (own_nlt F101_value.lt szc_b103_101_103) (Ne.symm ne_b103_101_103_b110) ne_b101_b110 ne_b101_s110 (Ne.symm ne_b103_101_103_s110) (own_stakeep S0_COMPACT_STRINGS K111 all0) ge_b101 ge_b103_101_103 hcs) hZ (own_w hw 124 rfl) (own_w hw 63 rfl) (by decide) (by decide)) q112a q112c (g := (mkF m 65 #[.val (.ref arr), .val (.ref stt), .val (.ref a), .val (.ref b101), .val (.ref arr), .val (.int 3), .val (.int 0), .val (.ref o0)] [(.ref s110), (.ref b101)])) rfl (by rw [hml]; rfl) (Steps.refl _) (argsL := [(.ref s110)]) (rest := []) (lenOf pdFf1f_4 rfl) rfl (by show 2 * 0 + _ ≤ _; exact Nat.le_of_eq rfl) (hb hby dFf1f_65) (fun _ _ => ⟨rfl, e110, (by decide : 4 + 0 ≤ _), (by decide : 24 + 0 ≤ _)⟩)
  dsimp only [Pt.U, Pt.locs, Pt.cells, Pt.slots] at X112 l112 y112 z112 st112 hQ112
  subst l112 y112 z112
  obtain ⟨rfl, N112q, K112, g112_0, g112_1, g112_2, g112_3, g112_4⟩ := hQ112
  have F113_coder_s110 := Fc110.keep K112 (ninS (Ne.symm ne_b101_s110) (ninS (Ne.symm ne_b103_101_103_s110) nin0))
  have F113_value_s110 := Fv110.keep K112 (ninS (Ne.symm ne_b101_s110) (ninS (Ne.symm ne_b103_101_103_s110) nin0))
  have E113_b101 := E111_b101.keep K112
  have E113_s110 := E110.keep K112
  have V113_b110 := V110.keep K112 (ninS (Ne.symm ne_b101_b110) (ninS (Ne.symm ne_b103_101_103_b110) nin0))
  have Z113 := Nat.le_trans Z111 K112.1
  have hk113 := Nat.le_trans hk110 K112.1
  have K113 : Keep h0 T112.heap [] := Keep.trans K111 K112 (allS (Or.inr sz_b101) (allS (Or.inr sz_b103_101_103) all0))
  have SF113_b101 := Safe.keep K112 (sfS SF110_b101 (sfS SF110_b103_101_103 sf0)) CR110.1 SF110_b101
  have SF113_b103_101_103 := Safe.keep K112 (sfS SF110_b101 (sfS SF110_b103_101_103 sf0)) CR110.1 SF110_b103_101_103
  have CR113 := CHr.trans CR110 (CHr.keep K112 (sfS SF110_b101 (sfS SF110_b103_101_103 sf0)) CR110.1)
  have N112 := Fr.app N109 N112q
  obtain ⟨cq114, kq114, q114a, q114b, q114c⟩ := isOf hZ rfl (E0_o0.keep K113)
  obtain ⟨_, _, ⟨T114, L114, k114, n114⟩, -, X114, ⟨Lc114, hQ114, l114, y114, z114⟩, st114⟩ := X112.interfaceBack hx (xi := (⟨"com/example/lotbook/lotbook/Flag", "code", "()Ljava/lang/String;"⟩ : MethodName)) (y := (⟨"com/example/lotbook/lotbook/AccountStatus", "code", "()Ljava/lang/String;"⟩ : MethodName)) hown (mvT hZ (own_w hw 79 rfl)) (mvT hZ (own_w hw 80 rfl)) (mvT hZ (own_w hw 81 rfl)) (mvT hZ (own_w hw 82 rfl)) (mvT hZ (own_w hw 83 rfl)) (mvT hZ (own_w hw 84 rfl)) (mvT hZ (own_w hw 85 rfl)) (mvT hZ (own_w hw 86 rfl)) (by decide) (backOf (W := 1) (rmSc l Z a0 hw [] o0 c0 T112.heap n0 Z113 (E0_o0.keep K113) (F0_o0_code.keep K113 nin0)) hZ (own_w hw 87 rfl) (own_w hw 3 rfl) (by decide) (by decide)) q114a q114b q114c (g := (mkF m 70 #[.val (.ref arr), .val (.ref stt), .val (.ref a), .val (.ref b101), .val (.ref arr), .val (.int 3), .val (.int 0), .val (.ref o0)] [(.ref o0), (.ref b101)])) rfl (by rw [hml]; rfl) (Steps.refl _) (argsL := []) (rest := [(.ref b101)]) (lenOf pdFf1f_1 rfl) rfl (by show 2 * 0 + _ ≤ _; exact Nat.le_of_eq rfl) (hb hby dFf1f_70) (fun _ _ => ⟨rfl, rfl, (by decide : 4 + 0 ≤ _), (by decide : 24 + 0 ≤ _)⟩)
  dsimp only [Pt.U, Pt.locs, Pt.cells, Pt.slots] at X114 l114 y114 z114 st114 hQ114
  subst l114 y114 z114
  obtain ⟨rfl, N114q, eh114⟩ := hQ114
  have N114 := Fr.app N112 N114q
  obtain ⟨cq115, kq115, q115a, q115b, q115c⟩ := isOf hZ eh114 g112_0
  obtain ⟨_, _, ⟨T115, L115, k115, n115⟩, -, X115, ⟨Lc115, hQ115, l115, y115, z115⟩, st115⟩ := X114.virtualBack hx (y := (⟨"java/lang/StringBuilder", "append", "(Ljava/lang/String;)Ljava/lang/StringBuilder;"⟩ : MethodName)) (z := (⟨"java/lang/StringBuilder", "append", "(Ljava/lang/String;)Ljava/lang/StringBuilder;"⟩ : MethodName)) hown (mvT hZ (own_w hw 120 rfl)) (mvT hZ (own_w hw 121 rfl)) (notFace_of_selects (args := #[]) (mvT hZ (own_w hw 123 rfl))) (mvT hZ (own_w hw 123 rfl)) (mvT hZ (own_w hw 122 rfl)) (by decide) (backOf (W := 0) (rmBa1 l Z a0 hw [] b101 c0 b103_101_103 w0 kc_w0 k103_101_103 (0 : Int32) (0 : Int32) (0 : Int32) (0 : Int32) (0 : Int32) (0 : Int32) (0 : Int32) (0 : Int32) (0 : Int32) (0 : Int32) (0 : Int32) (0 : Int32) (0 : Int32) (0 : Int32) (0 : Int32) (0 : Int32) cs T112.heap n0 Z113 g112_0 g112_1 g112_2 g112_3 (E0_c0.keep K113) (F0_c0_coder.keep K113 nin0) (F0_c0_value.keep K113 nin0) (V0_w0.keep K113 nin0) g112_4 (own_nlt F101_value.lt szc_b103_101_103) (own_nlt (V0_w0.keep K102 nin0).lt szc_b103_101_103) (Ne.symm (own_nlt V0_w0.lt (Nat.le_of_eq g101.symm))) (Ne.symm (own_nlt F0_c0_coder.lt (Nat.le_of_eq g101.symm))) (own_nlt (F0_c0_coder.keep K102 nin0).lt szc_b103_101_103) (own_stakeep S0_COMPACT_STRINGS K113 all0) ge_b101 ge_b103_101_103 hcs) hZ (own_w hw 124 rfl) (own_w hw 63 rfl) (by decide) (by decide)) q115a q115c (g := (mkF m 75 #[.val (.ref arr), .val (.ref stt), .val (.ref a), .val (.ref b101), .val (.ref arr), .val (.int 3), .val (.int 0), .val (.ref o0)] [(.ref c0), (.ref b101)])) rfl (by rw [hml]; rfl) (Steps.refl _) (argsL := [(.ref c0)]) (rest := []) (lenOf pdFf1f_4 rfl) rfl (by show 2 * 0 + _ ≤ _; exact Nat.le_of_eq rfl) (hb hby dFf1f_75) (fun _ _ => ⟨rfl, eh114, (by decide : 4 + 0 ≤ _), (by decide : 24 + 0 ≤ _)⟩)
  dsimp only [Pt.U, Pt.locs, Pt.cells, Pt.slots] at X115 l115 y115 z115 st115 hQ115
  subst l115 y115 z115
  obtain ⟨rfl, N115q, K115, g115_0, g115_1, g115_2, g115_3, g115_4⟩ := hQ115
  have F116_coder_s110 := F113_coder_s110.keep K115 (ninS (Ne.symm ne_b101_s110) (ninS (Ne.symm ne_b103_101_103_s110) nin0))
  have F116_value_s110 := F113_value_s110.keep K115 (ninS (Ne.symm ne_b101_s110) (ninS (Ne.symm ne_b103_101_103_s110) nin0))
  have E116_b101 := g112_0.keep K115
  have E116_s110 := E113_s110.keep K115
  have V116_b110 := V113_b110.keep K115 (ninS (Ne.symm ne_b101_b110) (ninS (Ne.symm ne_b103_101_103_b110) nin0))
  have Z116 := Nat.le_trans Z113 K115.1
  have hk116 := Nat.le_trans hk113 K115.1
  have K116 : Keep h0 T115.heap [] := Keep.trans K113 K115 (allS (Or.inr sz_b101) (allS (Or.inr sz_b103_101_103) all0))
  have SF116_b101 := Safe.keep K115 (sfS SF113_b101 (sfS SF113_b103_101_103 sf0)) CR113.1 SF113_b101
  have SF116_b103_101_103 := Safe.keep K115 (sfS SF113_b101 (sfS SF113_b103_101_103 sf0)) CR113.1 SF113_b103_101_103
  have CR116 := CHr.trans CR113 (CHr.keep K115 (sfS SF113_b101 (sfS SF113_b103_101_103 sf0)) CR113.1)
  have N115 := Fr.app N114 N115q
  obtain ⟨cl_q117, Ar_q117, q1_q117, S_q117, N_q117, H_q117, G_q117⟩ := id (V0_arr.keep K116 nin0)
  have hin_q117 := own_ib S_q117 (1 : Int32) (by decide)
  have hat_q117 : cl_q117.slots[((1 : Int32)).toNatClampNeg]? = some (.ref o1) := Has.at H_q117 hin_q117 rfl
  obtain ⟨cq118, kq118, q118a, q118b, q118c⟩ := isOf hZ rfl (E0_o1.keep K116)
  obtain ⟨_, _, ⟨T118, L118, k118, n118⟩, -, X118, ⟨Lc118, hQ118, l118, y118, z118⟩, st118⟩ := X115.interfaceBack hx (xi := (⟨"com/example/lotbook/lotbook/Flag", "code", "()Ljava/lang/String;"⟩ : MethodName)) (y := (⟨"com/example/lotbook/lotbook/AccountStatus", "code", "()Ljava/lang/String;"⟩ : MethodName)) hown (mvT hZ (own_w hw 79 rfl)) (mvT hZ (own_w hw 80 rfl)) (mvT hZ (own_w hw 81 rfl)) (mvT hZ (own_w hw 82 rfl)) (mvT hZ (own_w hw 83 rfl)) (mvT hZ (own_w hw 84 rfl)) (mvT hZ (own_w hw 85 rfl)) (mvT hZ (own_w hw 86 rfl)) (by decide) (backOf (W := 0) (rmSc l Z a0 hw [] o1 c1 T115.heap n0 Z116 (E0_o1.keep K116) (F0_o1_code.keep K116 nin0)) hZ (own_w hw 87 rfl) (own_w hw 3 rfl) (by decide) (by decide)) q118a q118b q118c (g := (mkF m 35 #[.val (.ref arr), .val (.ref stt), .val (.ref a), .val (.ref b101), .val (.ref arr), .val (.int 3), .val (.int 1), .val (.ref o1)] [(.ref o1)])) rfl (by rw [hml]; rfl) (Steps.refl _) (argsL := []) (rest := []) (lenOf pdFf1f_1 rfl) rfl (by show 2 * 0 + _ ≤ _; exact Nat.le_of_eq rfl) (hb hby dFf0f_35) (fun _ _ => ⟨rfl, rfl, (by decide : 4 + 0 ≤ _), (by decide : 24 + 0 ≤ _)⟩)
  dsimp only [Pt.U, Pt.locs, Pt.cells, Pt.slots] at X118 l118 y118 z118 st118 hQ118
  subst l118 y118 z118
  obtain ⟨rfl, N118q, eh118⟩ := hQ118
  have N118 := Fr.app N115 N118q
  obtain ⟨cq119, kq119, q119a, q119b, q119c⟩ := isOf hZ eh118 (E0_c1.keep K116)
  obtain ⟨_, _, ⟨T119, L119, k119, n119⟩, -, X119, ⟨Lc119, hQ119, l119, y119, z119⟩, st119⟩ := X118.virtualBack hx (y := (⟨"java/lang/String", "equals", "(Ljava/lang/Object;)Z"⟩ : MethodName)) (z := (⟨"java/lang/String", "equals", "(Ljava/lang/Object;)Z"⟩ : MethodName)) hown (mvT hZ (own_w hw 90 rfl)) (mvT hZ (own_w hw 91 rfl)) (notFace_of_selects (args := #[]) (mvT hZ (own_w hw 93 rfl))) (mvT hZ (own_w hw 93 rfl)) (mvT hZ (own_w hw 92 rfl)) (by decide) (backOf (W := 0) (rmEq11 l Z a0 hw [] c1 a w1 wa kc_w1 kc_wa cs T115.heap n0 Z116 (E0_c1.keep K116) (F0_c1_coder.keep K116 nin0) (F0_c1_value.keep K116 nin0) (E0_a.keep K116) (F0_a_coder.keep K116 nin0) (F0_a_value.keep K116 nin0) (V0_w1.keep K116 nin0) (V0_wa.keep K116 nin0) ne0_c1_a (own_stakeep S0_COMPACT_STRINGS K116 all0) hcs) hZ (own_w hw 94 rfl) (own_w hw 7 rfl) (by decide) (by decide)) q119a q119c (g := (mkF m 41 #[.val (.ref arr), .val (.ref stt), .val (.ref a), .val (.ref b101), .val (.ref arr), .val (.int 3), .val (.int 1), .val (.ref o1)] [(.ref a), (.ref c1)])) rfl (by rw [hml]; rfl) (Steps.refl _) (argsL := [(.ref a)]) (rest := []) (lenOf pdFf1f_2 rfl) rfl (by show 2 * 0 + _ ≤ _; exact Nat.le_of_eq rfl) (hb hby dFf0f_41) (fun _ _ => ⟨rfl, eh118, (by decide : 4 + 0 ≤ _), (by decide : 24 + 0 ≤ _)⟩)
  dsimp only [Pt.U, Pt.locs, Pt.cells, Pt.slots] at X119 l119 y119 z119 st119 hQ119
  subst l119 y119 z119
  obtain ⟨rfl, N119q, eh119⟩ := hQ119
  have N119 := Fr.app N118 N119q
  refine GoC.by (fun _ kont => st110 _ (XS.goto X110.here hx rfl (pc0 := 60) (pc' := 65) rfl (hb hby dFf1f_60) (by decide) (by decide) (st112.trans (XS.aload X112.here hx rfl (hb hby dFf1f_68) rfl rfl (st114.trans (st115.trans (XS.pop X115.here hx rfl (hb hby dFf1f_78) rfl rfl (XS.iinc X115.here hx rfl (hb hby dFf1f_79) rfl (l' := #[.val (.ref arr), .val (.ref stt), .val (.ref a), .val (.ref b101), .val (.ref arr), .val (.int 3), .val (.int 1), .val (.ref o0)]) rfl (XS.goto X115.here hx rfl (pc0 := 82) (pc' := 19) rfl (hb hby dFf1f_82) (by decide) (by decide) (XS.iload X115.here hx rfl (hb hby dFf0f_19) rfl (XS.iload X115.here hx rfl (hb hby dFf0f_21) rfl (XS.icmpNo X115.here hx rfl (hb hby dFf0f_23) rfl (by decide) (XS.aload X115.here hx rfl (hb hby dFf0f_26) rfl rfl (XS.iload X115.here hx rfl (hb hby dFf0f_28) rfl (X115.aaload hx (j := (1 : Int32)) (v := (.ref o1)) (own_at rfl Ar_q117.1) (State.isArrayOf_alike hZ.alike Ar_q117.2.1) rfl Ar_q117.2.2 hin_q117 hat_q117 (g := (mkF m 30 #[.val (.ref arr), .val (.ref stt), .val (.ref a), .val (.ref b101), .val (.ref arr), .val (.int 3), .val (.int 1), .val (.ref o0)] [(.int 1), (.ref arr)])) rfl rfl (hb hby dFf0f_30) _ (XS.astore X115.here hx rfl (hb hby dFf0f_31) rfl rfl (l' := #[.val (.ref arr), .val (.ref stt), .val (.ref a), .val (.ref b101), .val (.ref arr), .val (.int 3), .val (.int 1), .val (.ref o1)]) rfl (XS.aload X115.here hx rfl (hb hby dFf0f_33) rfl rfl (st118.trans (XS.aloadN X118.here hx rfl (hb hby dFf0f_40) rfl rfl (st119.trans (XS.ifNo X119.here hx rfl (hb hby dFf0f_44) rfl (by decide) (XS.aload X119.here hx rfl (hb hby dFf0f_47) rfl rfl kont)))))))))))))))))))))) ?_
  show GoC _ _ _ _ _ _ _ _ (T119.setTop (mkF m 49 #[.val (.ref arr), .val (.ref stt), .val (.ref a), .val (.ref b101), .val (.ref arr), .val (.int 3), .val (.int 1), .val (.ref o1)] [(.ref o1)]))
  refine GoC.retR X119 hS (by rw [eh119]; exact hk116) hZ hEL (by rw [hh, eh119]; exact CR116) hx hret rfl rfl hlk (hb hby dFf0f_49) ?_ (by decide) (by decide)
  show QFf1f Z o1 h0 n0 (some (.ref o1)) T119.heap _
  rw [eh119]
  exact ⟨rfl, N119, K116⟩

theorem pdAf1f_0 : parseMethodDescriptor "()[Lcom/example/lotbook/lotbook/AccountStatus;" = some ⟨[], some (.array (.object "com/example/lotbook/lotbook/AccountStatus"))⟩ := by decide +kernel
theorem pdAf1f_1 : parseMethodDescriptor "([Lcom/example/lotbook/lotbook/Flag;Ljava/lang/String;Ljava/lang/String;)Lcom/example/lotbook/lotbook/Flag;" = some ⟨[(.array (.object "com/example/lotbook/lotbook/Flag")), (.object "java/lang/String"), (.object "java/lang/String")], some (.object "com/example/lotbook/lotbook/Flag")⟩ := by decide +kernel
theorem pnAf1f : plainName "com/example/lotbook/lotbook/AccountStatus" = true := by first | (simp [plainName, overriddenIn]; done) | decide +kernel
theorem efAf1f (m : MethodId) (a : Addr) : entryFrame m #[(.ref a)] 1 = mkF m 0 #[.val (.ref a)] [] := by first | (simp [entryFrame, mkF, argsToLocals, Value.category]; done) | rfl
def QAf1f (Z : State) (o1 : Addr) (h0 : Heap) (n0 : Nat) (v : Option Value) (h : Heap) (L : List Loc) : Prop := (v = some (.ref o1) ∧ Fr n0 L ∧ Keep h0 h [])
set_option maxRecDepth 65536 in
set_option maxHeartbeats 40000000 in
theorem rmAf1f (l : Launch) (Z : State) (a0 : Array Value) (hw : ∀ d ∈ tables_1, d.before a0 Z = true) (ws : List Jvm.Cond) (a : Addr) (o0 : Addr) (c0 : Addr) (o1 : Addr) (c1 : Addr) (w0 : Addr) (w1 : Addr) (wa : Addr) (vals : Addr) (kc_vals : ClassId) (o2 : Addr) (kc_w0 : ClassId) (kc_w1 : ClassId) (kc_wa : ClassId) (cs : Int32) (h0 : Heap) (n0 : Nat) (Z0 : n0 ≤ h0.size) (E0_o0 : Exa Z h0 o0 "com/example/lotbook/lotbook/AccountStatus") (F0_o0_code : Fld Z h0 o0 "com/example/lotbook/lotbook/AccountStatus" "code" "Ljava/lang/String;" (.ref c0)) (E0_o1 : Exa Z h0 o1 "com/example/lotbook/lotbook/AccountStatus") (F0_o1_code : Fld Z h0 o1 "com/example/lotbook/lotbook/AccountStatus" "code" "Ljava/lang/String;" (.ref c1)) (E0_c0 : Exa Z h0 c0 "java/lang/String") (F0_c0_coder : Fld Z h0 c0 "java/lang/String" "coder" "B" (.int 0)) (F0_c0_value : Fld Z h0 c0 "java/lang/String" "value" "[B" (.ref w0)) (E0_c1 : Exa Z h0 c1 "java/lang/String") (F0_c1_coder : Fld Z h0 c1 "java/lang/String" "coder" "B" (.int 0)) (F0_c1_value : Fld Z h0 c1 "java/lang/String" "value" "[B" (.ref w1)) (E0_a : Exa Z h0 a "java/lang/String") (F0_a_coder : Fld Z h0 a "java/lang/String" "coder" "B" (.int 0)) (F0_a_value : Fld Z h0 a "java/lang/String" "value" "[B" (.ref wa)) (E0_vals : Exa Z h0 vals "[Lcom/example/lotbook/lotbook/AccountStatus;") (V0_vals : Arv Z h0 vals kc_vals (.object "com/example/lotbook/lotbook/AccountStatus") (3 : Int32) [(.ref o0), (.ref o1), (.ref o2)] .null) (V0_w0 : Arv Z h0 w0 kc_w0 .byte (6 : Int32) [(.int 110), (.int 111), (.int 114), (.int 109), (.int 97), (.int 108)] (.int 0)) (V0_w1 : Arv Z h0 w1 kc_w1 .byte (11 : Int32) [(.int 110), (.int 111), (.int 95), (.int 110), (.int 101), (.int 119), (.int 95), (.int 111), (.int 112), (.int 101), (.int 110)] (.int 0)) (V0_wa : Arv Z h0 wa kc_wa .byte (11 : Int32) [(.int 110), (.int 111), (.int 95), (.int 110), (.int 101), (.int 119), (.int 95), (.int 111), (.int 112), (.int 101), (.int 110)] (.int 0)) (ne0_c0_a : c0 ≠ a) (ne0_c1_a : c1 ≠ a) (S0_COMPACT_STRINGS : Sta Z h0 "java/lang/String" "COMPACT_STRINGS" "Z" (.int cs)) (S0__VALUES : Sta Z h0 "com/example/lotbook/lotbook/AccountStatus" "$VALUES" "[Lcom/example/lotbook/lotbook/AccountStatus;" (.ref vals)) (hcs : ¬ (cs = (0 : Int32))) :
    CtC l Z (⟨"com/example/lotbook/lotbook/AccountStatus", "fromCode", "(Ljava/lang/String;)Lcom/example/lotbook/lotbook/AccountStatus;"⟩ : MethodName) prog_2_method_5_code 1 (some (.object "com/example/lotbook/lotbook/AccountStatus")) ws (⟨6, 7, 55, 93⟩ : Room) #[(.ref a)] h0 (QAf1f Z o1 h0 n0) := by
  refine MetFree.of_bodySF (plainFor_of_name pnAf1f) hisR ?_
  intro p e s m args below meth c s₁ Bd hml hP hK
  obtain ⟨rfl, hZ, hh, hCH⟩ := hP
  obtain ⟨hx, hby, hown, hnm, hlk, hret, X0, e0⟩ := own_stW Bd "com/example/lotbook/lotbook/AccountStatus" rfl hh
  have N0 := Fr.nil n0
  have hS : s.Since s.vm 0 := (State.WarmedH.refl s).since 0
  have hk0 : 0 ≤ h0.size := Nat.zero_le _
  have CR0 : CHr Z own_EL s.vm h0 s.vm h0 := CHr.refl hCH
  show GoC Z p e below s (⟨6, 7, 55, 93⟩ : Room).cells (⟨6, 7, 55, 93⟩ : Room).slots (QAf1f Z o1 h0 n0) (s₁.setTop (entryFrame m #[(.ref a)] 1))
  rw [efAf1f]
  have hstr : ∀ a ∈ Bundle.stringAtoms, a.before a0 Z = true := by
    intro d hd
    simp only [Bundle.stringAtoms, Bundle.sN, List.mem_cons, List.not_mem_nil, or_false] at hd
    rcases hd with rfl | rfl | rfl | rfl | rfl | rfl | rfl
    · exact (own_w hw 7 rfl)
    · exact (own_w hw 6 rfl)
    · exact (own_w hw 23 rfl)
    · exact (own_w hw 33 rfl)
    · exact (own_w hw 31 rfl)
    · exact (own_w hw 55 rfl)
    · exact (own_w hw 56 rfl)
  have hEL : EW Z a0 own_EL := EW.cons (own_w hw 119 rfl) (by decide) (EW.cons (own_w hw 164 rfl) (by decide) EW.nil)
  obtain ⟨_, _, ⟨T101, L101, k101, n101⟩, -, X101, ⟨Lc101, hQ101, l101, y101, z101⟩, st101⟩ := Jvm.LawKit.callS X0 hx (y := (⟨"com/example/lotbook/lotbook/AccountStatus", "values", "()[Lcom/example/lotbook/lotbook/AccountStatus;"⟩ : MethodName)) hown (mvT hZ (own_w hw 37 rfl)) (mvT hZ (own_w hw 38 rfl)) (mvT hZ (own_w hw 3 rfl)) (mvT hZ (own_w hw 39 rfl)) (by decide) (backOf (W := 0) (rmVa l Z a0 hw [] vals kc_vals o0 o1 o2 h0 n0 Z0 E0_vals V0_vals S0__VALUES) hZ (own_w hw 39 rfl) (own_w hw 3 rfl) (by decide) (by decide)) (g := (mkF m 0 #[.val (.ref a)] [])) rfl (by rw [hml]; rfl) (argsL := []) (rest := []) (lenOf pdAf1f_0 rfl) rfl (by show 2 * 0 + _ ≤ _; exact Nat.le_of_eq rfl) (hb hby dAf0f_0) (fun _ _ => ⟨rfl, e0, (by decide : 0 + 1 ≤ _), (by decide : 0 + 3 ≤ _)⟩)
  dsimp only [Pt.U, Pt.locs, Pt.cells, Pt.slots] at X101 l101 y101 z101 st101 hQ101
  subst l101 y101 z101
  obtain ⟨b102_101, kc_vals_101, rfl, N101q, K101, ge_b102_101, szc_b102_101, g101_0, g101_1⟩ := hQ101
  have sz_b102_101 : h0.size ≤ b102_101 := Nat.le_trans (Keep.refl h0 []).1 szc_b102_101
  have SF_b102_101 := own_snew CR0 szc_b102_101
  have Z102 := Nat.le_trans Z0 K101.1
  have hk102 := Nat.le_trans hk0 K101.1
  have K102 : Keep h0 T101.heap [] := Keep.trans (Keep.refl h0 []) K101 all0
  have SF102_b102_101 := Safe.keep K101 sf0 CR0.1 SF_b102_101
  have CR102 := CHr.trans CR0 (CHr.keep K101 sf0 CR0.1)
  have N101 := Fr.app N0 N101q
  refine GoC.by (fun _ kont => st101 _ kont) ?_
  show GoC _ _ _ _ _ _ _ _ (T101.setTop (mkF m 3 #[.val (.ref a)] [(.ref b102_101)]))
  obtain ⟨s103, T103, h103, k103, X103, e103, X_103, hS, hk103, hZ, hown, C103, -, st103⟩ := ldcOH X101 hx hZ hown (own_w hw 54 rfl) hstr rfl hS hk102 hEL CR102.1 (g := (mkF m 3 #[.val (.ref a)] [(.ref b102_101)])) rfl (hb hby dAf0f_3) (n := 24) (by decide) (by decide) (by decide) (by decide)
  have CR103 := CHr.trans CR102 C103
  have SF103_b102_101 := C103.safe g101_0.lt SF102_b102_101
  have E104_b102_101 := g101_0.ext X_103
  have V104_b102_101 := g101_1.ext X_103
  have Z104 := Nat.le_trans Z102 X_103.1
  have hk104 := Nat.le_trans hk102 X_103.1
  have K104 : Keep h0 h103 [] := K102.ext X_103
  refine GoC.by (fun _ kont => st103 _ (XS.aloadN X103.here hx rfl (hb hby dAf0f_5) rfl rfl kont)) ?_
  show GoC _ _ _ _ _ _ _ _ (T103.setTop (mkF m 6 #[.val (.ref a)] [(.ref a), (.ref s103), (.ref b102_101)]))
  obtain ⟨_, _, ⟨T105, L105, k105, n105⟩, -, X105, hS105, hg105, ⟨Lc105, hQ105, l105, y105, z105, C105⟩, st105⟩ := callSS X103 hx (y := (⟨"com/example/lotbook/lotbook/Flag", "fromCode", "([Lcom/example/lotbook/lotbook/Flag;Ljava/lang/String;Ljava/lang/String;)Lcom/example/lotbook/lotbook/Flag;"⟩ : MethodName)) hown (mvT hZ (own_w hw 57 rfl)) (mvT hZ (own_w hw 58 rfl)) (mvT hZ (own_w hw 59 rfl)) (mvT hZ (own_w hw 60 rfl)) (by decide) (backOfSH (W := 0) (rmFf1f l Z a0 hw [] b102_101 s103 a o0 c0 o1 c1 w0 w1 wa kc_vals_101 o2 kc_w0 kc_w1 kc_wa cs h103 n0 Z104 (E0_o0.keep K104) (F0_o0_code.keep K104 nin0) (E0_o1.keep K104) (F0_o1_code.keep K104 nin0) (E0_c0.keep K104) (F0_c0_coder.keep K104 nin0) (F0_c0_value.keep K104 nin0) (E0_c1.keep K104) (F0_c1_coder.keep K104 nin0) (F0_c1_value.keep K104 nin0) (E0_a.keep K104) (F0_a_coder.keep K104 nin0) (F0_a_value.keep K104 nin0) V104_b102_101 (V0_w0.keep K104 nin0) (V0_w1.keep K104 nin0) (V0_wa.keep K104 nin0) ne0_c0_a ne0_c1_a (own_stakeep S0_COMPACT_STRINGS K104 all0) hcs) hZ (own_w hw 60 rfl) (own_w hw 59 rfl) (by decide) (by decide) hEL CR103.1) (g := (mkF m 6 #[.val (.ref a)] [(.ref a), (.ref s103), (.ref b102_101)])) rfl (by rw [hml]; rfl) (argsL := [(.ref b102_101), (.ref s103), (.ref a)]) (rest := []) (lenOf pdAf1f_1 rfl) rfl (by show 2 * 0 + _ ≤ _; exact Nat.le_of_eq rfl) (hb hby dAf0f_6) (fun _ _ => ⟨rfl, e103, (by decide : 3 + 4 ≤ _), (by decide : 31 + 24 ≤ _)⟩)
  dsimp only [Pt.U, Pt.locs, Pt.cells, Pt.slots] at X105 hS105 hg105 l105 y105 z105 st105 hQ105 C105
  subst l105 y105 z105
  obtain ⟨X105, hS, hZ, hown⟩ := rebS hS (show _ ≤ T103.heap.size from by rw [e103]; exact hk103) X105 hS105 hg105 hZ hown
  have CR105 := CHr.trans CR103 C105
  obtain ⟨rfl, N105q, K105⟩ := hQ105
  have E106_b102_101 := E104_b102_101.keep K105
  have V106_b102_101 := V104_b102_101.keep K105 nin0
  have Z106 := Nat.le_trans Z104 K105.1
  have K106 : Keep h0 T105.heap [] := Keep.trans K104 K105 all0
  have N105 := Fr.app N101 N105q
  obtain ⟨T107, X107, e107, st107⟩ := castY X105 hx hZ hown (own_w hw 100 rfl) rfl (Ins.self (E0_o1.keep K106)) (g := (mkF m 9 #[.val (.ref a)] [(.ref o1)])) rfl rfl (hb hby dAf0f_9)
  refine GoC.by (fun _ kont => st105.trans (st107 _ kont)) ?_
  show GoC _ _ _ _ _ _ _ _ (T107.setTop (mkF m 12 #[.val (.ref a)] [(.ref o1)]))
  refine GoC.retR X107 hS (by rw [e107]; exact (Nat.le_refl _)) hZ hEL (by rw [hh, e107]; exact CR105) hx hret rfl rfl hlk (hb hby dAf0f_12) ?_ (by decide) (by decide)
  show QAf1f Z o1 h0 n0 (some (.ref o1)) T107.heap _
  rw [e107]
  exact ⟨rfl, N105, K106⟩

theorem pdFf1s_0 : parseMethodDescriptor "()V" = some ⟨[], none⟩ := by decide +kernel
theorem pdFf1s_1 : parseMethodDescriptor "()Ljava/lang/String;" = some ⟨[], some (.object "java/lang/String")⟩ := by decide +kernel
theorem pdFf1s_2 : parseMethodDescriptor "(Ljava/lang/Object;)Z" = some ⟨[(.object "java/lang/Object")], some .boolean⟩ := by decide +kernel
theorem pdFf1s_3 : parseMethodDescriptor "()I" = some ⟨[], some .int⟩ := by decide +kernel
theorem pdFf1s_4 : parseMethodDescriptor "(Ljava/lang/String;)Ljava/lang/StringBuilder;" = some ⟨[(.object "java/lang/String")], some (.object "java/lang/StringBuilder")⟩ := by decide +kernel
theorem pnFf1s : plainName "com/example/lotbook/lotbook/Flag" = true := by first | (simp [plainName, overriddenIn]; done) | decide +kernel
theorem efFf1s (m : MethodId) (arr : Addr) (stt : Addr) (c1 : Addr) : entryFrame m #[(.ref arr), (.ref stt), (.ref c1)] 8 = mkF m 0 #[.val (.ref arr), .val (.ref stt), .val (.ref c1), .unset, .unset, .unset, .unset, .unset] [] := by first | (simp [entryFrame, mkF, argsToLocals, Value.category]; done) | rfl
def QFf1s (Z : State) (o1 : Addr) (h0 : Heap) (n0 : Nat) (v : Option Value) (h : Heap) (L : List Loc) : Prop := (v = some (.ref o1) ∧ Fr n0 L ∧ Keep h0 h [])
set_option maxRecDepth 65536 in
set_option maxHeartbeats 40000000 in
theorem rmFf1s (l : Launch) (Z : State) (a0 : Array Value) (hw : ∀ d ∈ tables_1, d.before a0 Z = true) (ws : List Jvm.Cond) (arr : Addr) (stt : Addr) (c1 : Addr) (o0 : Addr) (c0 : Addr) (o1 : Addr) (w0 : Addr) (w1 : Addr) (kc_arr : ClassId) (o2 : Addr) (kc_w0 : ClassId) (kc_w1 : ClassId) (cs : Int32) (h0 : Heap) (n0 : Nat) (Z0 : n0 ≤ h0.size) (E0_o0 : Exa Z h0 o0 "com/example/lotbook/lotbook/AccountStatus") (F0_o0_code : Fld Z h0 o0 "com/example/lotbook/lotbook/AccountStatus" "code" "Ljava/lang/String;" (.ref c0)) (E0_o1 : Exa Z h0 o1 "com/example/lotbook/lotbook/AccountStatus") (F0_o1_code : Fld Z h0 o1 "com/example/lotbook/lotbook/AccountStatus" "code" "Ljava/lang/String;" (.ref c1)) (E0_c0 : Exa Z h0 c0 "java/lang/String") (F0_c0_coder : Fld Z h0 c0 "java/lang/String" "coder" "B" (.int 0)) (F0_c0_value : Fld Z h0 c0 "java/lang/String" "value" "[B" (.ref w0)) (E0_c1 : Exa Z h0 c1 "java/lang/String") (F0_c1_coder : Fld Z h0 c1 "java/lang/String" "coder" "B" (.int 0)) (F0_c1_value : Fld Z h0 c1 "java/lang/String" "value" "[B" (.ref w1)) (V0_arr : Arv Z h0 arr kc_arr (.object "com/example/lotbook/lotbook/AccountStatus") (3 : Int32) [(.ref o0), (.ref o1), (.ref o2)] .null) (V0_w0 : Arv Z h0 w0 kc_w0 .byte (6 : Int32) [(.int 110), (.int 111), (.int 114), (.int 109), (.int 97), (.int 108)] (.int 0)) (V0_w1 : Arv Z h0 w1 kc_w1 .byte (11 : Int32) [(.int 110), (.int 111), (.int 95), (.int 110), (.int 101), (.int 119), (.int 95), (.int 111), (.int 112), (.int 101), (.int 110)] (.int 0)) (ne0_c0_c1 : c0 ≠ c1) (S0_COMPACT_STRINGS : Sta Z h0 "java/lang/String" "COMPACT_STRINGS" "Z" (.int cs)) (hcs : ¬ (cs = (0 : Int32))) :
    CtC l Z (⟨"com/example/lotbook/lotbook/Flag", "fromCode", "([Lcom/example/lotbook/lotbook/Flag;Ljava/lang/String;Ljava/lang/String;)Lcom/example/lotbook/lotbook/Flag;"⟩ : MethodName) prog_34_method_2_code 8 (some (.object "com/example/lotbook/lotbook/Flag")) ws (⟨5, 4, 24, 74⟩ : Room) #[(.ref arr), (.ref stt), (.ref c1)] h0 (QFf1s Z o1 h0 n0) := by
  refine MetFree.of_bodySF (plainFor_of_name pnFf1s) hisR ?_
  intro p e s m args below meth c s₁ Bd hml hP hK
  obtain ⟨rfl, hZ, hh, hCH⟩ := hP
  obtain ⟨hx, hby, hown, hnm, hlk, hret, X0, e0⟩ := own_stW Bd "com/example/lotbook/lotbook/Flag" rfl hh
  have N0 := Fr.nil n0
  have hS : s.Since s.vm 0 := (State.WarmedH.refl s).since 0
  have hk0 : 0 ≤ h0.size := Nat.zero_le _
  have CR0 : CHr Z own_EL s.vm h0 s.vm h0 := CHr.refl hCH
  show GoC Z p e below s (⟨5, 4, 24, 74⟩ : Room).cells (⟨5, 4, 24, 74⟩ : Room).slots (QFf1s Z o1 h0 n0) (s₁.setTop (entryFrame m #[(.ref arr), (.ref stt), (.ref c1)] 8))
  rw [efFf1s]
  have hstr : ∀ a ∈ Bundle.stringAtoms, a.before a0 Z = true := by
    intro d hd
    simp only [Bundle.stringAtoms, Bundle.sN, List.mem_cons, List.not_mem_nil, or_false] at hd
    rcases hd with rfl | rfl | rfl | rfl | rfl | rfl | rfl
    · exact (own_w hw 7 rfl)
    · exact (own_w hw 6 rfl)
    · exact (own_w hw 23 rfl)
    · exact (own_w hw 33 rfl)
    · exact (own_w hw 31 rfl)
    · exact (own_w hw 55 rfl)
    · exact (own_w hw 56 rfl)
  have hEL : EW Z a0 own_EL := EW.cons (own_w hw 119 rfl) (by decide) (EW.cons (own_w hw 164 rfl) (by decide) EW.nil)
  obtain ⟨T101, h101, X101, e101, X_101, A101, D101, -, st101⟩ := newO X0 hx hZ hown (own_w hw 61 rfl) (own_w hw 62 rfl) (own_w hw 63 rfl) e0 (g := (mkF m 0 #[.val (.ref arr), .val (.ref stt), .val (.ref c1), .unset, .unset, .unset, .unset, .unset] [])) rfl (hb hby dFf0f_0) (by decide) (by decide)
  obtain ⟨b101, g101⟩ : ∃ z, z = h0.size := ⟨_, rfl⟩
  rw [← g101] at A101 D101 st101
  have ge_b101 : n0 ≤ b101 := Nat.le_trans Z0 (Nat.le_of_eq g101.symm)
  have sz_b101 : h0.size ≤ b101 := Nat.le_trans (Keep.refl h0 []).1 (Nat.le_of_eq g101.symm)
  have SF_b101 := own_snew CR0 (Nat.le_of_eq g101.symm)
  have Z102 := Nat.le_trans Z0 X_101.1
  have hk102 := Nat.le_trans hk0 X_101.1
  have K102 : Keep h0 h101 [] := (Keep.refl h0 []).ext X_101
  have SF102_b101 := Safe.ext X_101 CR0.1 SF_b101
  have CR102 := CHr.trans CR0 (CHr.ext X_101 CR0.1)
  have F101_value : Fld Z h101 b101 "java/lang/AbstractStringBuilder" "value" "[B" .null := D101 (Or.inl (own_w hw 76 rfl)) (ty := (.array .byte)) (by decide)
  have F101_coder : Fld Z h101 b101 "java/lang/AbstractStringBuilder" "coder" "B" (.int 0) := D101 (Or.inl (own_w hw 78 rfl)) (ty := .byte) (by decide)
  have F101_count : Fld Z h101 b101 "java/lang/AbstractStringBuilder" "count" "I" (.int 0) := D101 (Or.inl (own_w hw 118 rfl)) (ty := .int) (by decide)
  obtain ⟨_, _, ⟨T103, L103, k103, n103⟩, -, X103, ⟨Lc103, hQ103, l103, y103, z103⟩, st103⟩ := X101.specialBack hx (y := (⟨"java/lang/StringBuilder", "<init>", "()V"⟩ : MethodName)) rfl hown (mvT hZ (own_w hw 64 rfl)) (mvT hZ (own_w hw 65 rfl)) (mvT hZ (own_w hw 66 rfl)) (by decide) (backOf (W := 1) (rmBz l Z a0 hw [] b101 cs h101 n0 Z102 A101 F101_value F101_coder F101_count (own_stakeep S0_COMPACT_STRINGS K102 all0) ge_b101 hcs) hZ (own_w hw 66 rfl) (own_w hw 63 rfl) (by decide) (by decide)) (g := (mkF m 4 #[.val (.ref arr), .val (.ref stt), .val (.ref c1), .unset, .unset, .unset, .unset, .unset] [(.ref b101), (.ref b101)])) rfl (by rw [hml]; rfl) (Steps.refl _) (a := b101) (argsL := []) (rest := [(.ref b101)]) (lenOf pdFf1s_0 rfl) rfl (by show 2 * 0 + _ ≤ _; exact Nat.le_of_eq rfl) (hb hby dFf0f_4) (fun _ _ => ⟨rfl, e101, (by decide : 1 + 1 ≤ _), (by decide : 4 + 16 ≤ _)⟩)
  dsimp only [Pt.U, Pt.locs, Pt.cells, Pt.slots] at X103 l103 y103 z103 st103 hQ103
  subst l103 y103 z103
  obtain ⟨b103_101_103, k103_101_103, rfl, N103q, K103, g103_0, g103_1, g103_2, g103_3, ge_b103_101_103, szc_b103_101_103, g103_4⟩ := hQ103
  have sz_b103_101_103 : h0.size ≤ b103_101_103 := Nat.le_trans K102.1 szc_b103_101_103
  have SF_b103_101_103 := own_snew CR102 szc_b103_101_103
  have E104_b101 := A101.keep K103
  have Z104 := Nat.le_trans Z102 K103.1
  have hk104 := Nat.le_trans hk102 K103.1
  have K104 : Keep h0 T103.heap [] := Keep.trans K102 K103 (allS (Or.inr sz_b101) all0)
  have SF104_b101 := Safe.keep K103 (sfS SF102_b101 sf0) CR102.1 SF102_b101
  have SF104_b103_101_103 := Safe.keep K103 (sfS SF102_b101 sf0) CR102.1 SF_b103_101_103
  have CR104 := CHr.trans CR102 (CHr.keep K103 (sfS SF102_b101 sf0) CR102.1)
  have N103 := Fr.app N0 N103q
  obtain ⟨cl_q105, Ar_q105, q1_q105, S_q105, N_q105, H_q105, G_q105⟩ := id (V0_arr.keep K104 nin0)
  obtain ⟨cl_q106, Ar_q106, q1_q106, S_q106, N_q106, H_q106, G_q106⟩ := id (V0_arr.keep K104 nin0)
  have hin_q106 := own_ib S_q106 (0 : Int32) (by decide)
  have hat_q106 : cl_q106.slots[((0 : Int32)).toNatClampNeg]? = some (.ref o0) := Has.at H_q106 hin_q106 rfl
  obtain ⟨cq107, kq107, q107a, q107b, q107c⟩ := isOf hZ rfl (E0_o0.keep K104)
  obtain ⟨_, _, ⟨T107, L107, k107, n107⟩, -, X107, ⟨Lc107, hQ107, l107, y107, z107⟩, st107⟩ := X103.interfaceBack hx (xi := (⟨"com/example/lotbook/lotbook/Flag", "code", "()Ljava/lang/String;"⟩ : MethodName)) (y := (⟨"com/example/lotbook/lotbook/AccountStatus", "code", "()Ljava/lang/String;"⟩ : MethodName)) hown (mvT hZ (own_w hw 79 rfl)) (mvT hZ (own_w hw 80 rfl)) (mvT hZ (own_w hw 81 rfl)) (mvT hZ (own_w hw 82 rfl)) (mvT hZ (own_w hw 83 rfl)) (mvT hZ (own_w hw 84 rfl)) (mvT hZ (own_w hw 85 rfl)) (mvT hZ (own_w hw 86 rfl)) (by decide) (backOf (W := 0) (rmSc l Z a0 hw [] o0 c0 T103.heap n0 Z104 (E0_o0.keep K104) (F0_o0_code.keep K104 nin0)) hZ (own_w hw 87 rfl) (own_w hw 3 rfl) (by decide) (by decide)) q107a q107b q107c (g := (mkF m 35 #[.val (.ref arr), .val (.ref stt), .val (.ref c1), .val (.ref b101), .val (.ref arr), .val (.int 3), .val (.int 0), .val (.ref o0)] [(.ref o0)])) rfl (by rw [hml]; rfl) (Steps.refl _) (argsL := []) (rest := []) (lenOf pdFf1s_1 rfl) rfl (by show 2 * 0 + _ ≤ _; exact Nat.le_of_eq rfl) (hb hby dFf0f_35) (fun _ _ => ⟨rfl, rfl, (by decide : 2 + 0 ≤ _), (by decide : 20 + 0 ≤ _)⟩)
  dsimp only [Pt.U, Pt.locs, Pt.cells, Pt.slots] at X107 l107 y107 z107 st107 hQ107
  subst l107 y107 z107
  obtain ⟨rfl, N107q, eh107⟩ := hQ107
  have N107 := Fr.app N103 N107q
  obtain ⟨cq108, kq108, q108a, q108b, q108c⟩ := isOf hZ eh107 (E0_c0.keep K104)
  obtain ⟨_, _, ⟨T108, L108, k108, n108⟩, -, X108, ⟨Lc108, hQ108, l108, y108, z108⟩, st108⟩ := X107.virtualBack hx (y := (⟨"java/lang/String", "equals", "(Ljava/lang/Object;)Z"⟩ : MethodName)) (z := (⟨"java/lang/String", "equals", "(Ljava/lang/Object;)Z"⟩ : MethodName)) hown (mvT hZ (own_w hw 90 rfl)) (mvT hZ (own_w hw 91 rfl)) (notFace_of_selects (args := #[]) (mvT hZ (own_w hw 93 rfl))) (mvT hZ (own_w hw 93 rfl)) (mvT hZ (own_w hw 92 rfl)) (by decide) (backOf (W := 0) (rmEq01 l Z a0 hw [] c0 c1 w0 w1 kc_w0 kc_w1 cs T103.heap n0 Z104 (E0_c0.keep K104) (F0_c0_coder.keep K104 nin0) (F0_c0_value.keep K104 nin0) (E0_c1.keep K104) (F0_c1_coder.keep K104 nin0) (F0_c1_value.keep K104 nin0) (V0_w0.keep K104 nin0) (V0_w1.keep K104 nin0) ne0_c0_c1 (own_stakeep S0_COMPACT_STRINGS K104 all0) hcs) hZ (own_w hw 94 rfl) (own_w hw 7 rfl) (by decide) (by decide)) q108a q108c (g := (mkF m 41 #[.val (.ref arr), .val (.ref stt), .val (.ref c1), .val (.ref b101), .val (.ref arr), .val (.int 3), .val (.int 0), .val (.ref o0)] [(.ref c1), (.ref c0)])) rfl (by rw [hml]; rfl) (Steps.refl _) (argsL := [(.ref c1)]) (rest := []) (lenOf pdFf1s_2 rfl) rfl (by show 2 * 0 + _ ≤ _; exact Nat.le_of_eq rfl) (hb hby dFf0f_41) (fun _ _ => ⟨rfl, eh107, (by decide : 2 + 0 ≤ _), (by decide : 20 + 0 ≤ _)⟩)
  dsimp only [Pt.U, Pt.locs, Pt.cells, Pt.slots] at X108 l108 y108 z108 st108 hQ108
  subst l108 y108 z108
  obtain ⟨rfl, N108q, eh108⟩ := hQ108
  have N108 := Fr.app N107 N108q
  obtain ⟨cq109, kq109, q109a, q109b, q109c⟩ := isOf hZ eh108 g103_0
  obtain ⟨_, _, ⟨T109, L109, k109, n109⟩, -, X109, ⟨Lc109, hQ109, l109, y109, z109⟩, st109⟩ := X108.virtualBack hx (y := (⟨"java/lang/StringBuilder", "length", "()I"⟩ : MethodName)) (z := (⟨"java/lang/StringBuilder", "length", "()I"⟩ : MethodName)) hown (mvT hZ (own_w hw 107 rfl)) (mvT hZ (own_w hw 108 rfl)) (notFace_of_selects (args := #[]) (mvT hZ (own_w hw 110 rfl))) (mvT hZ (own_w hw 110 rfl)) (mvT hZ (own_w hw 109 rfl)) (by decide) (backOf (W := 1) (rmBl l Z a0 hw [] b101 (0 : Int32) T103.heap n0 Z104 g103_0 g103_3) hZ (own_w hw 111 rfl) (own_w hw 63 rfl) (by decide) (by decide)) q109a q109c (g := (mkF m 52 #[.val (.ref arr), .val (.ref stt), .val (.ref c1), .val (.ref b101), .val (.ref arr), .val (.int 3), .val (.int 0), .val (.ref o0)] [(.ref b101), (.ref b101)])) rfl (by rw [hml]; rfl) (Steps.refl _) (argsL := []) (rest := [(.ref b101)]) (lenOf pdFf1s_3 rfl) rfl (by show 2 * 0 + _ ≤ _; exact Nat.le_of_eq rfl) (hb hby dFf1f_52) (fun _ _ => ⟨rfl, eh108, (by decide : 2 + 0 ≤ _), (by decide : 20 + 0 ≤ _)⟩)
  dsimp only [Pt.U, Pt.locs, Pt.cells, Pt.slots] at X109 l109 y109 z109 st109 hQ109
  subst l109 y109 z109
  obtain ⟨rfl, N109q, eh109⟩ := hQ109
  have N109 := Fr.app N108 N109q
  refine GoC.by (fun _ kont => st101 _ (XS.dup X101.here hx rfl (hb hby dFf0f_3) rfl rfl (st103.trans (XS.astoreN X103.here hx rfl (hb hby dFf0f_7) rfl rfl (l' := #[.val (.ref arr), .val (.ref stt), .val (.ref c1), .val (.ref b101), .unset, .unset, .unset, .unset]) rfl (XS.aloadN X103.here hx rfl (hb hby dFf0f_8) rfl rfl (XS.astore X103.here hx rfl (hb hby dFf0f_9) rfl rfl (l' := #[.val (.ref arr), .val (.ref stt), .val (.ref c1), .val (.ref b101), .val (.ref arr), .unset, .unset, .unset]) rfl (XS.aload X103.here hx rfl (hb hby dFf0f_11) rfl rfl (X103.arraylength hx (own_at rfl Ar_q105.1) (State.isArrayOf_alike hZ.alike Ar_q105.2.1) (g := (mkF m 13 #[.val (.ref arr), .val (.ref stt), .val (.ref c1), .val (.ref b101), .val (.ref arr), .unset, .unset, .unset] [(.ref arr)])) rfl rfl (hb hby dFf0f_13) _ (own_fI (len_of S_q105 N_q105) (XS.istore X103.here hx rfl (hb hby dFf0f_14) rfl (l' := #[.val (.ref arr), .val (.ref stt), .val (.ref c1), .val (.ref b101), .val (.ref arr), .val (.int 3), .unset, .unset]) rfl (XS.iconst X103.here hx rfl (hb hby dFf0f_16) (XS.istore X103.here hx rfl (hb hby dFf0f_17) rfl (l' := #[.val (.ref arr), .val (.ref stt), .val (.ref c1), .val (.ref b101), .val (.ref arr), .val (.int 3), .val (.int 0), .unset]) rfl (XS.iload X103.here hx rfl (hb hby dFf0f_19) rfl (XS.iload X103.here hx rfl (hb hby dFf0f_21) rfl (XS.icmpNo X103.here hx rfl (hb hby dFf0f_23) rfl (by decide) (XS.aload X103.here hx rfl (hb hby dFf0f_26) rfl rfl (XS.iload X103.here hx rfl (hb hby dFf0f_28) rfl (X103.aaload hx (j := (0 : Int32)) (v := (.ref o0)) (own_at rfl Ar_q106.1) (State.isArrayOf_alike hZ.alike Ar_q106.2.1) rfl Ar_q106.2.2 hin_q106 hat_q106 (g := (mkF m 30 #[.val (.ref arr), .val (.ref stt), .val (.ref c1), .val (.ref b101), .val (.ref arr), .val (.int 3), .val (.int 0), .unset] [(.int 0), (.ref arr)])) rfl rfl (hb hby dFf0f_30) _ (XS.astore X103.here hx rfl (hb hby dFf0f_31) rfl rfl (l' := #[.val (.ref arr), .val (.ref stt), .val (.ref c1), .val (.ref b101), .val (.ref arr), .val (.int 3), .val (.int 0), .val (.ref o0)]) rfl (XS.aload X103.here hx rfl (hb hby dFf0f_33) rfl rfl (st107.trans (XS.aloadN X107.here hx rfl (hb hby dFf0f_40) rfl rfl (st108.trans (XS.ifYes X108.here hx rfl (pc0 := 44) (pc' := 50) rfl (hb hby dFf0f_44) rfl (by decide) (by decide) (by decide) (XS.aloadN X108.here hx rfl (hb hby dFf1f_50) rfl rfl (XS.aloadN X108.here hx rfl (hb hby dFf1f_51) rfl rfl (st109.trans (XS.ifNo X109.here hx rfl (hb hby dFf1f_55) rfl (by decide) kont)))))))))))))))))))))))))))) ?_
  show GoC _ _ _ _ _ _ _ _ (T109.setTop (mkF m 58 #[.val (.ref arr), .val (.ref stt), .val (.ref c1), .val (.ref b101), .val (.ref arr), .val (.int 3), .val (.int 0), .val (.ref o0)] [(.ref b101)]))
  obtain ⟨s110, T110, h110, k110, b110, kc110, X110, e110, X_110, hS, hk110, hZ, hown, E110, Fc110, Fv110, V110, -, -, C110, -, hne110, st110⟩ := ldcCH X109 hx hZ hown (own_w hw 119 rfl) hstr eh109 hS hk104 hEL (by simp [own_EL]) CR104.1 (vs := []) (z := 0) (by decide) (by decide) rfl (g := (mkF m 58 #[.val (.ref arr), .val (.ref stt), .val (.ref c1), .val (.ref b101), .val (.ref arr), .val (.int 3), .val (.int 0), .val (.ref o0)] [(.ref b101)])) rfl (hb hby dFf1f_58) (n := 0) (by decide) (by decide) (by decide) (by decide)
  have CR110 := CHr.trans CR104 C110
  have SF110_b101 := C110.safe g103_0.lt SF104_b101
  have ne_b101_s110 := (hne110 b101 SF110_b101).1
  have ne_b101_b110 := (hne110 b101 SF110_b101).2
  have SF110_b103_101_103 := C110.safe g103_4.lt SF104_b103_101_103
  have ne_b103_101_103_s110 := (hne110 b103_101_103 SF110_b103_101_103).1
  have ne_b103_101_103_b110 := (hne110 b103_101_103 SF110_b103_101_103).2
  have F111_value_b101 := g103_1.ext X_110
  have F111_coder_b101 := g103_2.ext X_110
  have F111_count_b101 := g103_3.ext X_110
  have E111_b101 := g103_0.ext X_110
  have V111_b103_101_103 := g103_4.ext X_110
  have Z111 := Nat.le_trans Z104 X_110.1
  have hk111 := Nat.le_trans hk104 X_110.1
  have K111 : Keep h0 h110 [] := K104.ext X_110
  obtain ⟨cq112, kq112, q112a, q112b, q112c⟩ := isOf hZ e110 E111_b101
  obtain ⟨_, _, ⟨T112, L112, k112, n112⟩, -, X112, ⟨Lc112, hQ112, l112, y112, z112⟩, st112⟩ := X110.virtualBack hx (y := (⟨"java/lang/StringBuilder", "append", "(Ljava/lang/String;)Ljava/lang/StringBuilder;"⟩ : MethodName)) (z := (⟨"java/lang/StringBuilder", "append", "(Ljava/lang/String;)Ljava/lang/StringBuilder;"⟩ : MethodName)) hown (mvT hZ (own_w hw 120 rfl)) (mvT hZ (own_w hw 121 rfl)) (notFace_of_selects (args := #[]) (mvT hZ (own_w hw 123 rfl))) (mvT hZ (own_w hw 123 rfl)) (mvT hZ (own_w hw 122 rfl)) (by decide) (backOf (W := 0) (rmBa0 l Z a0 hw [] b101 s110 b103_101_103 b110 kc110 k103_101_103 (0 : Int32) (0 : Int32) (0 : Int32) (0 : Int32) (0 : Int32) (0 : Int32) (0 : Int32) (0 : Int32) (0 : Int32) (0 : Int32) (0 : Int32) (0 : Int32) (0 : Int32) (0 : Int32) (0 : Int32) (0 : Int32) cs h110 n0 Z111 E111_b101 F111_value_b101 F111_coder_b101 F111_count_b101 E110 Fc110 Fv110 V110 V111_b103_101_103 (own_nlt F101_value.lt szc_b103_101_103) (Ne.symm ne_b103_101_103_b110) ne_b101_b110 ne_b101_s110 (Ne.symm ne_b103_101_103_s110) (own_stakeep S0_COMPACT_STRINGS K111 all0) ge_b101 ge_b103_101_103 hcs) hZ (own_w hw 124 rfl) (own_w hw 63 rfl) (by decide) (by decide)) q112a q112c (g := (mkF m 65 #[.val (.ref arr), .val (.ref stt), .val (.ref c1), .val (.ref b101), .val (.ref arr), .val (.int 3), .val (.int 0), .val (.ref o0)] [(.ref s110), (.ref b101)])) rfl (by rw [hml]; rfl) (Steps.refl _) (argsL := [(.ref s110)]) (rest := []) (lenOf pdFf1s_4 rfl) rfl (by show 2 * 0 + _ ≤ _; exact Nat.le_of_eq rfl) (hb hby dFf1f_65) (fun _ _ => ⟨rfl, e110, (by decide : 4 + 0 ≤ _), (by decide : 24 + 0 ≤ _)⟩)
  dsimp only [Pt.U, Pt.locs, Pt.cells, Pt.slots] at X112 l112 y112 z112 st112 hQ112
  subst l112 y112 z112
  obtain ⟨rfl, N112q, K112, g112_0, g112_1, g112_2, g112_3, g112_4⟩ := hQ112
  have F113_coder_s110 := Fc110.keep K112 (ninS (Ne.symm ne_b101_s110) (ninS (Ne.symm ne_b103_101_103_s110) nin0))
  have F113_value_s110 := Fv110.keep K112 (ninS (Ne.symm ne_b101_s110) (ninS (Ne.symm ne_b103_101_103_s110) nin0))
  have E113_b101 := E111_b101.keep K112
  have E113_s110 := E110.keep K112
  have V113_b110 := V110.keep K112 (ninS (Ne.symm ne_b101_b110) (ninS (Ne.symm ne_b103_101_103_b110) nin0))
  have Z113 := Nat.le_trans Z111 K112.1
  have hk113 := Nat.le_trans hk110 K112.1
  have K113 : Keep h0 T112.heap [] := Keep.trans K111 K112 (allS (Or.inr sz_b101) (allS (Or.inr sz_b103_101_103) all0))
  have SF113_b101 := Safe.keep K112 (sfS SF110_b101 (sfS SF110_b103_101_103 sf0)) CR110.1 SF110_b101
  have SF113_b103_101_103 := Safe.keep K112 (sfS SF110_b101 (sfS SF110_b103_101_103 sf0)) CR110.1 SF110_b103_101_103
  have CR113 := CHr.trans CR110 (CHr.keep K112 (sfS SF110_b101 (sfS SF110_b103_101_103 sf0)) CR110.1)
  have N112 := Fr.app N109 N112q
  obtain ⟨cq114, kq114, q114a, q114b, q114c⟩ := isOf hZ rfl (E0_o0.keep K113)
  obtain ⟨_, _, ⟨T114, L114, k114, n114⟩, -, X114, ⟨Lc114, hQ114, l114, y114, z114⟩, st114⟩ := X112.interfaceBack hx (xi := (⟨"com/example/lotbook/lotbook/Flag", "code", "()Ljava/lang/String;"⟩ : MethodName)) (y := (⟨"com/example/lotbook/lotbook/AccountStatus", "code", "()Ljava/lang/String;"⟩ : MethodName)) hown (mvT hZ (own_w hw 79 rfl)) (mvT hZ (own_w hw 80 rfl)) (mvT hZ (own_w hw 81 rfl)) (mvT hZ (own_w hw 82 rfl)) (mvT hZ (own_w hw 83 rfl)) (mvT hZ (own_w hw 84 rfl)) (mvT hZ (own_w hw 85 rfl)) (mvT hZ (own_w hw 86 rfl)) (by decide) (backOf (W := 1) (rmSc l Z a0 hw [] o0 c0 T112.heap n0 Z113 (E0_o0.keep K113) (F0_o0_code.keep K113 nin0)) hZ (own_w hw 87 rfl) (own_w hw 3 rfl) (by decide) (by decide)) q114a q114b q114c (g := (mkF m 70 #[.val (.ref arr), .val (.ref stt), .val (.ref c1), .val (.ref b101), .val (.ref arr), .val (.int 3), .val (.int 0), .val (.ref o0)] [(.ref o0), (.ref b101)])) rfl (by rw [hml]; rfl) (Steps.refl _) (argsL := []) (rest := [(.ref b101)]) (lenOf pdFf1s_1 rfl) rfl (by show 2 * 0 + _ ≤ _; exact Nat.le_of_eq rfl) (hb hby dFf1f_70) (fun _ _ => ⟨rfl, rfl, (by decide : 4 + 0 ≤ _), (by decide : 24 + 0 ≤ _)⟩)
  dsimp only [Pt.U, Pt.locs, Pt.cells, Pt.slots] at X114 l114 y114 z114 st114 hQ114
  subst l114 y114 z114
  obtain ⟨rfl, N114q, eh114⟩ := hQ114
  have N114 := Fr.app N112 N114q
  obtain ⟨cq115, kq115, q115a, q115b, q115c⟩ := isOf hZ eh114 g112_0
  obtain ⟨_, _, ⟨T115, L115, k115, n115⟩, -, X115, ⟨Lc115, hQ115, l115, y115, z115⟩, st115⟩ := X114.virtualBack hx (y := (⟨"java/lang/StringBuilder", "append", "(Ljava/lang/String;)Ljava/lang/StringBuilder;"⟩ : MethodName)) (z := (⟨"java/lang/StringBuilder", "append", "(Ljava/lang/String;)Ljava/lang/StringBuilder;"⟩ : MethodName)) hown (mvT hZ (own_w hw 120 rfl)) (mvT hZ (own_w hw 121 rfl)) (notFace_of_selects (args := #[]) (mvT hZ (own_w hw 123 rfl))) (mvT hZ (own_w hw 123 rfl)) (mvT hZ (own_w hw 122 rfl)) (by decide) (backOf (W := 0) (rmBa1 l Z a0 hw [] b101 c0 b103_101_103 w0 kc_w0 k103_101_103 (0 : Int32) (0 : Int32) (0 : Int32) (0 : Int32) (0 : Int32) (0 : Int32) (0 : Int32) (0 : Int32) (0 : Int32) (0 : Int32) (0 : Int32) (0 : Int32) (0 : Int32) (0 : Int32) (0 : Int32) (0 : Int32) cs T112.heap n0 Z113 g112_0 g112_1 g112_2 g112_3 (E0_c0.keep K113) (F0_c0_coder.keep K113 nin0) (F0_c0_value.keep K113 nin0) (V0_w0.keep K113 nin0) g112_4 (own_nlt F101_value.lt szc_b103_101_103) (own_nlt (V0_w0.keep K102 nin0).lt szc_b103_101_103) (Ne.symm (own_nlt V0_w0.lt (Nat.le_of_eq g101.symm))) (Ne.symm (own_nlt F0_c0_coder.lt (Nat.le_of_eq g101.symm))) (own_nlt (F0_c0_coder.keep K102 nin0).lt szc_b103_101_103) (own_stakeep S0_COMPACT_STRINGS K113 all0) ge_b101 ge_b103_101_103 hcs) hZ (own_w hw 124 rfl) (own_w hw 63 rfl) (by decide) (by decide)) q115a q115c (g := (mkF m 75 #[.val (.ref arr), .val (.ref stt), .val (.ref c1), .val (.ref b101), .val (.ref arr), .val (.int 3), .val (.int 0), .val (.ref o0)] [(.ref c0), (.ref b101)])) rfl (by rw [hml]; rfl) (Steps.refl _) (argsL := [(.ref c0)]) (rest := []) (lenOf pdFf1s_4 rfl) rfl (by show 2 * 0 + _ ≤ _; exact Nat.le_of_eq rfl) (hb hby dFf1f_75) (fun _ _ => ⟨rfl, eh114, (by decide : 4 + 0 ≤ _), (by decide : 24 + 0 ≤ _)⟩)
  dsimp only [Pt.U, Pt.locs, Pt.cells, Pt.slots] at X115 l115 y115 z115 st115 hQ115
  subst l115 y115 z115
  obtain ⟨rfl, N115q, K115, g115_0, g115_1, g115_2, g115_3, g115_4⟩ := hQ115
  have F116_coder_s110 := F113_coder_s110.keep K115 (ninS (Ne.symm ne_b101_s110) (ninS (Ne.symm ne_b103_101_103_s110) nin0))
  have F116_value_s110 := F113_value_s110.keep K115 (ninS (Ne.symm ne_b101_s110) (ninS (Ne.symm ne_b103_101_103_s110) nin0))
  have E116_b101 := g112_0.keep K115
  have E116_s110 := E113_s110.keep K115
  have V116_b110 := V113_b110.keep K115 (ninS (Ne.symm ne_b101_b110) (ninS (Ne.symm ne_b103_101_103_b110) nin0))
  have Z116 := Nat.le_trans Z113 K115.1
  have hk116 := Nat.le_trans hk113 K115.1
  have K116 : Keep h0 T115.heap [] := Keep.trans K113 K115 (allS (Or.inr sz_b101) (allS (Or.inr sz_b103_101_103) all0))
  have SF116_b101 := Safe.keep K115 (sfS SF113_b101 (sfS SF113_b103_101_103 sf0)) CR113.1 SF113_b101
  have SF116_b103_101_103 := Safe.keep K115 (sfS SF113_b101 (sfS SF113_b103_101_103 sf0)) CR113.1 SF113_b103_101_103
  have CR116 := CHr.trans CR113 (CHr.keep K115 (sfS SF113_b101 (sfS SF113_b103_101_103 sf0)) CR113.1)
  have N115 := Fr.app N114 N115q
  obtain ⟨cl_q117, Ar_q117, q1_q117, S_q117, N_q117, H_q117, G_q117⟩ := id (V0_arr.keep K116 nin0)
  have hin_q117 := own_ib S_q117 (1 : Int32) (by decide)
  have hat_q117 : cl_q117.slots[((1 : Int32)).toNatClampNeg]? = some (.ref o1) := Has.at H_q117 hin_q117 rfl
  obtain ⟨cq118, kq118, q118a, q118b, q118c⟩ := isOf hZ rfl (E0_o1.keep K116)
  obtain ⟨_, _, ⟨T118, L118, k118, n118⟩, -, X118, ⟨Lc118, hQ118, l118, y118, z118⟩, st118⟩ := X115.interfaceBack hx (xi := (⟨"com/example/lotbook/lotbook/Flag", "code", "()Ljava/lang/String;"⟩ : MethodName)) (y := (⟨"com/example/lotbook/lotbook/AccountStatus", "code", "()Ljava/lang/String;"⟩ : MethodName)) hown (mvT hZ (own_w hw 79 rfl)) (mvT hZ (own_w hw 80 rfl)) (mvT hZ (own_w hw 81 rfl)) (mvT hZ (own_w hw 82 rfl)) (mvT hZ (own_w hw 83 rfl)) (mvT hZ (own_w hw 84 rfl)) (mvT hZ (own_w hw 85 rfl)) (mvT hZ (own_w hw 86 rfl)) (by decide) (backOf (W := 0) (rmSc l Z a0 hw [] o1 c1 T115.heap n0 Z116 (E0_o1.keep K116) (F0_o1_code.keep K116 nin0)) hZ (own_w hw 87 rfl) (own_w hw 3 rfl) (by decide) (by decide)) q118a q118b q118c (g := (mkF m 35 #[.val (.ref arr), .val (.ref stt), .val (.ref c1), .val (.ref b101), .val (.ref arr), .val (.int 3), .val (.int 1), .val (.ref o1)] [(.ref o1)])) rfl (by rw [hml]; rfl) (Steps.refl _) (argsL := []) (rest := []) (lenOf pdFf1s_1 rfl) rfl (by show 2 * 0 + _ ≤ _; exact Nat.le_of_eq rfl) (hb hby dFf0f_35) (fun _ _ => ⟨rfl, rfl, (by decide : 4 + 0 ≤ _), (by decide : 24 + 0 ≤ _)⟩)
  dsimp only [Pt.U, Pt.locs, Pt.cells, Pt.slots] at X118 l118 y118 z118 st118 hQ118
  subst l118 y118 z118
  obtain ⟨rfl, N118q, eh118⟩ := hQ118
  have N118 := Fr.app N115 N118q
  obtain ⟨cq119, kq119, q119a, q119b, q119c⟩ := isOf hZ eh118 (E0_c1.keep K116)
  obtain ⟨_, _, ⟨T119, L119, k119, n119⟩, -, X119, ⟨Lc119, hQ119, l119, y119, z119⟩, st119⟩ := X118.virtualBack hx (y := (⟨"java/lang/String", "equals", "(Ljava/lang/Object;)Z"⟩ : MethodName)) (z := (⟨"java/lang/String", "equals", "(Ljava/lang/Object;)Z"⟩ : MethodName)) hown (mvT hZ (own_w hw 90 rfl)) (mvT hZ (own_w hw 91 rfl)) (notFace_of_selects (args := #[]) (mvT hZ (own_w hw 93 rfl))) (mvT hZ (own_w hw 93 rfl)) (mvT hZ (own_w hw 92 rfl)) (by decide) (backOf (W := 0) (rmEs l Z a0 hw [] c1 T115.heap n0 Z116 ) hZ (own_w hw 94 rfl) (own_w hw 7 rfl) (by decide) (by decide)) q119a q119c (g := (mkF m 41 #[.val (.ref arr), .val (.ref stt), .val (.ref c1), .val (.ref b101), .val (.ref arr), .val (.int 3), .val (.int 1), .val (.ref o1)] [(.ref c1), (.ref c1)])) rfl (by rw [hml]; rfl) (Steps.refl _) (argsL := [(.ref c1)]) (rest := []) (lenOf pdFf1s_2 rfl) rfl (by show 2 * 0 + _ ≤ _; exact Nat.le_of_eq rfl) (hb hby dFf0f_41) (fun _ _ => ⟨rfl, eh118, (by decide : 4 + 0 ≤ _), (by decide : 24 + 0 ≤ _)⟩)
  dsimp only [Pt.U, Pt.locs, Pt.cells, Pt.slots] at X119 l119 y119 z119 st119 hQ119
  subst l119 y119 z119
  obtain ⟨rfl, N119q, eh119⟩ := hQ119
  have N119 := Fr.app N118 N119q
  refine GoC.by (fun _ kont => st110 _ (XS.goto X110.here hx rfl (pc0 := 60) (pc' := 65) rfl (hb hby dFf1f_60) (by decide) (by decide) (st112.trans (XS.aload X112.here hx rfl (hb hby dFf1f_68) rfl rfl (st114.trans (st115.trans (XS.pop X115.here hx rfl (hb hby dFf1f_78) rfl rfl (XS.iinc X115.here hx rfl (hb hby dFf1f_79) rfl (l' := #[.val (.ref arr), .val (.ref stt), .val (.ref c1), .val (.ref b101), .val (.ref arr), .val (.int 3), .val (.int 1), .val (.ref o0)]) rfl (XS.goto X115.here hx rfl (pc0 := 82) (pc' := 19) rfl (hb hby dFf1f_82) (by decide) (by decide) (XS.iload X115.here hx rfl (hb hby dFf0f_19) rfl (XS.iload X115.here hx rfl (hb hby dFf0f_21) rfl (XS.icmpNo X115.here hx rfl (hb hby dFf0f_23) rfl (by decide) (XS.aload X115.here hx rfl (hb hby dFf0f_26) rfl rfl (XS.iload X115.here hx rfl (hb hby dFf0f_28) rfl (X115.aaload hx (j := (1 : Int32)) (v := (.ref o1)) (own_at rfl Ar_q117.1) (State.isArrayOf_alike hZ.alike Ar_q117.2.1) rfl Ar_q117.2.2 hin_q117 hat_q117 (g := (mkF m 30 #[.val (.ref arr), .val (.ref stt), .val (.ref c1), .val (.ref b101), .val (.ref arr), .val (.int 3), .val (.int 1), .val (.ref o0)] [(.int 1), (.ref arr)])) rfl rfl (hb hby dFf0f_30) _ (XS.astore X115.here hx rfl (hb hby dFf0f_31) rfl rfl (l' := #[.val (.ref arr), .val (.ref stt), .val (.ref c1), .val (.ref b101), .val (.ref arr), .val (.int 3), .val (.int 1), .val (.ref o1)]) rfl (XS.aload X115.here hx rfl (hb hby dFf0f_33) rfl rfl (st118.trans (XS.aloadN X118.here hx rfl (hb hby dFf0f_40) rfl rfl (st119.trans (XS.ifNo X119.here hx rfl (hb hby dFf0f_44) rfl (by decide) (XS.aload X119.here hx rfl (hb hby dFf0f_47) rfl rfl kont)))))))))))))))))))))) ?_
  show GoC _ _ _ _ _ _ _ _ (T119.setTop (mkF m 49 #[.val (.ref arr), .val (.ref stt), .val (.ref c1), .val (.ref b101), .val (.ref arr), .val (.int 3), .val (.int 1), .val (.ref o1)] [(.ref o1)]))
  refine GoC.retR X119 hS (by rw [eh119]; exact hk116) hZ hEL (by rw [hh, eh119]; exact CR116) hx hret rfl rfl hlk (hb hby dFf0f_49) ?_ (by decide) (by decide)
  show QFf1s Z o1 h0 n0 (some (.ref o1)) T119.heap _
  rw [eh119]
  exact ⟨rfl, N119, K116⟩

theorem pdAf1s_0 : parseMethodDescriptor "()[Lcom/example/lotbook/lotbook/AccountStatus;" = some ⟨[], some (.array (.object "com/example/lotbook/lotbook/AccountStatus"))⟩ := by decide +kernel
theorem pdAf1s_1 : parseMethodDescriptor "([Lcom/example/lotbook/lotbook/Flag;Ljava/lang/String;Ljava/lang/String;)Lcom/example/lotbook/lotbook/Flag;" = some ⟨[(.array (.object "com/example/lotbook/lotbook/Flag")), (.object "java/lang/String"), (.object "java/lang/String")], some (.object "com/example/lotbook/lotbook/Flag")⟩ := by decide +kernel
theorem pnAf1s : plainName "com/example/lotbook/lotbook/AccountStatus" = true := by first | (simp [plainName, overriddenIn]; done) | decide +kernel
theorem efAf1s (m : MethodId) (c1 : Addr) : entryFrame m #[(.ref c1)] 1 = mkF m 0 #[.val (.ref c1)] [] := by first | (simp [entryFrame, mkF, argsToLocals, Value.category]; done) | rfl
def QAf1s (Z : State) (o1 : Addr) (h0 : Heap) (n0 : Nat) (v : Option Value) (h : Heap) (L : List Loc) : Prop := (v = some (.ref o1) ∧ Fr n0 L ∧ Keep h0 h [])
set_option maxRecDepth 65536 in
set_option maxHeartbeats 40000000 in
theorem rmAf1s (l : Launch) (Z : State) (a0 : Array Value) (hw : ∀ d ∈ tables_1, d.before a0 Z = true) (ws : List Jvm.Cond) (c1 : Addr) (o0 : Addr) (c0 : Addr) (o1 : Addr) (w0 : Addr) (w1 : Addr) (vals : Addr) (kc_vals : ClassId) (o2 : Addr) (kc_w0 : ClassId) (kc_w1 : ClassId) (cs : Int32) (h0 : Heap) (n0 : Nat) (Z0 : n0 ≤ h0.size) (E0_o0 : Exa Z h0 o0 "com/example/lotbook/lotbook/AccountStatus") (F0_o0_code : Fld Z h0 o0 "com/example/lotbook/lotbook/AccountStatus" "code" "Ljava/lang/String;" (.ref c0)) (E0_o1 : Exa Z h0 o1 "com/example/lotbook/lotbook/AccountStatus") (F0_o1_code : Fld Z h0 o1 "com/example/lotbook/lotbook/AccountStatus" "code" "Ljava/lang/String;" (.ref c1)) (E0_c0 : Exa Z h0 c0 "java/lang/String") (F0_c0_coder : Fld Z h0 c0 "java/lang/String" "coder" "B" (.int 0)) (F0_c0_value : Fld Z h0 c0 "java/lang/String" "value" "[B" (.ref w0)) (E0_c1 : Exa Z h0 c1 "java/lang/String") (F0_c1_coder : Fld Z h0 c1 "java/lang/String" "coder" "B" (.int 0)) (F0_c1_value : Fld Z h0 c1 "java/lang/String" "value" "[B" (.ref w1)) (E0_vals : Exa Z h0 vals "[Lcom/example/lotbook/lotbook/AccountStatus;") (V0_vals : Arv Z h0 vals kc_vals (.object "com/example/lotbook/lotbook/AccountStatus") (3 : Int32) [(.ref o0), (.ref o1), (.ref o2)] .null) (V0_w0 : Arv Z h0 w0 kc_w0 .byte (6 : Int32) [(.int 110), (.int 111), (.int 114), (.int 109), (.int 97), (.int 108)] (.int 0)) (V0_w1 : Arv Z h0 w1 kc_w1 .byte (11 : Int32) [(.int 110), (.int 111), (.int 95), (.int 110), (.int 101), (.int 119), (.int 95), (.int 111), (.int 112), (.int 101), (.int 110)] (.int 0)) (ne0_c0_c1 : c0 ≠ c1) (S0_COMPACT_STRINGS : Sta Z h0 "java/lang/String" "COMPACT_STRINGS" "Z" (.int cs)) (S0__VALUES : Sta Z h0 "com/example/lotbook/lotbook/AccountStatus" "$VALUES" "[Lcom/example/lotbook/lotbook/AccountStatus;" (.ref vals)) (hcs : ¬ (cs = (0 : Int32))) :
    CtC l Z (⟨"com/example/lotbook/lotbook/AccountStatus", "fromCode", "(Ljava/lang/String;)Lcom/example/lotbook/lotbook/AccountStatus;"⟩ : MethodName) prog_2_method_5_code 1 (some (.object "com/example/lotbook/lotbook/AccountStatus")) ws (⟨6, 7, 55, 93⟩ : Room) #[(.ref c1)] h0 (QAf1s Z o1 h0 n0) := by
  refine MetFree.of_bodySF (plainFor_of_name pnAf1s) hisR ?_
  intro p e s m args below meth c s₁ Bd hml hP hK
  obtain ⟨rfl, hZ, hh, hCH⟩ := hP
  obtain ⟨hx, hby, hown, hnm, hlk, hret, X0, e0⟩ := own_stW Bd "com/example/lotbook/lotbook/AccountStatus" rfl hh
  have N0 := Fr.nil n0
  have hS : s.Since s.vm 0 := (State.WarmedH.refl s).since 0
  have hk0 : 0 ≤ h0.size := Nat.zero_le _
  have CR0 : CHr Z own_EL s.vm h0 s.vm h0 := CHr.refl hCH
  show GoC Z p e below s (⟨6, 7, 55, 93⟩ : Room).cells (⟨6, 7, 55, 93⟩ : Room).slots (QAf1s Z o1 h0 n0) (s₁.setTop (entryFrame m #[(.ref c1)] 1))
  rw [efAf1s]
  have hstr : ∀ a ∈ Bundle.stringAtoms, a.before a0 Z = true := by
    intro d hd
    simp only [Bundle.stringAtoms, Bundle.sN, List.mem_cons, List.not_mem_nil, or_false] at hd
    rcases hd with rfl | rfl | rfl | rfl | rfl | rfl | rfl
    · exact (own_w hw 7 rfl)
    · exact (own_w hw 6 rfl)
    · exact (own_w hw 23 rfl)
    · exact (own_w hw 33 rfl)
    · exact (own_w hw 31 rfl)
    · exact (own_w hw 55 rfl)
    · exact (own_w hw 56 rfl)
  have hEL : EW Z a0 own_EL := EW.cons (own_w hw 119 rfl) (by decide) (EW.cons (own_w hw 164 rfl) (by decide) EW.nil)
  obtain ⟨_, _, ⟨T101, L101, k101, n101⟩, -, X101, ⟨Lc101, hQ101, l101, y101, z101⟩, st101⟩ := Jvm.LawKit.callS X0 hx (y := (⟨"com/example/lotbook/lotbook/AccountStatus", "values", "()[Lcom/example/lotbook/lotbook/AccountStatus;"⟩ : MethodName)) hown (mvT hZ (own_w hw 37 rfl)) (mvT hZ (own_w hw 38 rfl)) (mvT hZ (own_w hw 3 rfl)) (mvT hZ (own_w hw 39 rfl)) (by decide) (backOf (W := 0) (rmVa l Z a0 hw [] vals kc_vals o0 o1 o2 h0 n0 Z0 E0_vals V0_vals S0__VALUES) hZ (own_w hw 39 rfl) (own_w hw 3 rfl) (by decide) (by decide)) (g := (mkF m 0 #[.val (.ref c1)] [])) rfl (by rw [hml]; rfl) (argsL := []) (rest := []) (lenOf pdAf1s_0 rfl) rfl (by show 2 * 0 + _ ≤ _; exact Nat.le_of_eq rfl) (hb hby dAf0f_0) (fun _ _ => ⟨rfl, e0, (by decide : 0 + 1 ≤ _), (by decide : 0 + 3 ≤ _)⟩)
  dsimp only [Pt.U, Pt.locs, Pt.cells, Pt.slots] at X101 l101 y101 z101 st101 hQ101
  subst l101 y101 z101
  obtain ⟨b102_101, kc_vals_101, rfl, N101q, K101, ge_b102_101, szc_b102_101, g101_0, g101_1⟩ := hQ101
  have sz_b102_101 : h0.size ≤ b102_101 := Nat.le_trans (Keep.refl h0 []).1 szc_b102_101
  have SF_b102_101 := own_snew CR0 szc_b102_101
  have Z102 := Nat.le_trans Z0 K101.1
  have hk102 := Nat.le_trans hk0 K101.1
  have K102 : Keep h0 T101.heap [] := Keep.trans (Keep.refl h0 []) K101 all0
  have SF102_b102_101 := Safe.keep K101 sf0 CR0.1 SF_b102_101
  have CR102 := CHr.trans CR0 (CHr.keep K101 sf0 CR0.1)
  have N101 := Fr.app N0 N101q
  refine GoC.by (fun _ kont => st101 _ kont) ?_
  show GoC _ _ _ _ _ _ _ _ (T101.setTop (mkF m 3 #[.val (.ref c1)] [(.ref b102_101)]))
  obtain ⟨s103, T103, h103, k103, X103, e103, X_103, hS, hk103, hZ, hown, C103, -, st103⟩ := ldcOH X101 hx hZ hown (own_w hw 54 rfl) hstr rfl hS hk102 hEL CR102.1 (g := (mkF m 3 #[.val (.ref c1)] [(.ref b102_101)])) rfl (hb hby dAf0f_3) (n := 24) (by decide) (by decide) (by decide) (by decide)
  have CR103 := CHr.trans CR102 C103
  have SF103_b102_101 := C103.safe g101_0.lt SF102_b102_101
  have E104_b102_101 := g101_0.ext X_103
  have V104_b102_101 := g101_1.ext X_103
  have Z104 := Nat.le_trans Z102 X_103.1
  have hk104 := Nat.le_trans hk102 X_103.1
  have K104 : Keep h0 h103 [] := K102.ext X_103
  refine GoC.by (fun _ kont => st103 _ (XS.aloadN X103.here hx rfl (hb hby dAf0f_5) rfl rfl kont)) ?_
  show GoC _ _ _ _ _ _ _ _ (T103.setTop (mkF m 6 #[.val (.ref c1)] [(.ref c1), (.ref s103), (.ref b102_101)]))
  obtain ⟨_, _, ⟨T105, L105, k105, n105⟩, -, X105, hS105, hg105, ⟨Lc105, hQ105, l105, y105, z105, C105⟩, st105⟩ := callSS X103 hx (y := (⟨"com/example/lotbook/lotbook/Flag", "fromCode", "([Lcom/example/lotbook/lotbook/Flag;Ljava/lang/String;Ljava/lang/String;)Lcom/example/lotbook/lotbook/Flag;"⟩ : MethodName)) hown (mvT hZ (own_w hw 57 rfl)) (mvT hZ (own_w hw 58 rfl)) (mvT hZ (own_w hw 59 rfl)) (mvT hZ (own_w hw 60 rfl)) (by decide) (backOfSH (W := 0) (rmFf1s l Z a0 hw [] b102_101 s103 c1 o0 c0 o1 w0 w1 kc_vals_101 o2 kc_w0 kc_w1 cs h103 n0 Z104 (E0_o0.keep K104) (F0_o0_code.keep K104 nin0) (E0_o1.keep K104) (F0_o1_code.keep K104 nin0) (E0_c0.keep K104) (F0_c0_coder.keep K104 nin0) (F0_c0_value.keep K104 nin0) (E0_c1.keep K104) (F0_c1_coder.keep K104 nin0) (F0_c1_value.keep K104 nin0) V104_b102_101 (V0_w0.keep K104 nin0) (V0_w1.keep K104 nin0) ne0_c0_c1 (own_stakeep S0_COMPACT_STRINGS K104 all0) hcs) hZ (own_w hw 60 rfl) (own_w hw 59 rfl) (by decide) (by decide) hEL CR103.1) (g := (mkF m 6 #[.val (.ref c1)] [(.ref c1), (.ref s103), (.ref b102_101)])) rfl (by rw [hml]; rfl) (argsL := [(.ref b102_101), (.ref s103), (.ref c1)]) (rest := []) (lenOf pdAf1s_1 rfl) rfl (by show 2 * 0 + _ ≤ _; exact Nat.le_of_eq rfl) (hb hby dAf0f_6) (fun _ _ => ⟨rfl, e103, (by decide : 3 + 4 ≤ _), (by decide : 31 + 24 ≤ _)⟩)
  dsimp only [Pt.U, Pt.locs, Pt.cells, Pt.slots] at X105 hS105 hg105 l105 y105 z105 st105 hQ105 C105
  subst l105 y105 z105
  obtain ⟨X105, hS, hZ, hown⟩ := rebS hS (show _ ≤ T103.heap.size from by rw [e103]; exact hk103) X105 hS105 hg105 hZ hown
  have CR105 := CHr.trans CR103 C105
  obtain ⟨rfl, N105q, K105⟩ := hQ105
  have E106_b102_101 := E104_b102_101.keep K105
  have V106_b102_101 := V104_b102_101.keep K105 nin0
  have Z106 := Nat.le_trans Z104 K105.1
  have K106 : Keep h0 T105.heap [] := Keep.trans K104 K105 all0
  have N105 := Fr.app N101 N105q
  obtain ⟨T107, X107, e107, st107⟩ := castY X105 hx hZ hown (own_w hw 100 rfl) rfl (Ins.self (E0_o1.keep K106)) (g := (mkF m 9 #[.val (.ref c1)] [(.ref o1)])) rfl rfl (hb hby dAf0f_9)
  refine GoC.by (fun _ kont => st105.trans (st107 _ kont)) ?_
  show GoC _ _ _ _ _ _ _ _ (T107.setTop (mkF m 12 #[.val (.ref c1)] [(.ref o1)]))
  refine GoC.retR X107 hS (by rw [e107]; exact (Nat.le_refl _)) hZ hEL (by rw [hh, e107]; exact CR105) hx hret rfl rfl hlk (hb hby dAf0f_12) ?_ (by decide) (by decide)
  show QAf1s Z o1 h0 n0 (some (.ref o1)) T107.heap _
  rw [e107]
  exact ⟨rfl, N105, K106⟩

theorem dFf2f_63 : decode prog_34_method_2_code 63 = .ok (.ldc 25, 2) := by decide +kernel
theorem pdFf2f_0 : parseMethodDescriptor "()V" = some ⟨[], none⟩ := by decide +kernel
theorem pdFf2f_1 : parseMethodDescriptor "()Ljava/lang/String;" = some ⟨[], some (.object "java/lang/String")⟩ := by decide +kernel
theorem pdFf2f_2 : parseMethodDescriptor "(Ljava/lang/Object;)Z" = some ⟨[(.object "java/lang/Object")], some .boolean⟩ := by decide +kernel
theorem pdFf2f_3 : parseMethodDescriptor "()I" = some ⟨[], some .int⟩ := by decide +kernel
theorem pdFf2f_4 : parseMethodDescriptor "(Ljava/lang/String;)Ljava/lang/StringBuilder;" = some ⟨[(.object "java/lang/String")], some (.object "java/lang/StringBuilder")⟩ := by decide +kernel
theorem pnFf2f : plainName "com/example/lotbook/lotbook/Flag" = true := by first | (simp [plainName, overriddenIn]; done) | decide +kernel
theorem efFf2f (m : MethodId) (arr : Addr) (stt : Addr) (a : Addr) : entryFrame m #[(.ref arr), (.ref stt), (.ref a)] 8 = mkF m 0 #[.val (.ref arr), .val (.ref stt), .val (.ref a), .unset, .unset, .unset, .unset, .unset] [] := by first | (simp [entryFrame, mkF, argsToLocals, Value.category]; done) | rfl
def QFf2f (Z : State) (o2 : Addr) (h0 : Heap) (n0 : Nat) (v : Option Value) (h : Heap) (L : List Loc) : Prop := (v = some (.ref o2) ∧ Fr n0 L ∧ Keep h0 h [])
set_option maxRecDepth 65536 in
set_option maxHeartbeats 40000000 in
theorem rmFf2f (l : Launch) (Z : State) (a0 : Array Value) (hw : ∀ d ∈ tables_1, d.before a0 Z = true) (ws : List Jvm.Cond) (arr : Addr) (stt : Addr) (a : Addr) (o0 : Addr) (c0 : Addr) (o1 : Addr) (c1 : Addr) (o2 : Addr) (c2 : Addr) (w0 : Addr) (w1 : Addr) (w2 : Addr) (wa : Addr) (kc_arr : ClassId) (kc_w0 : ClassId) (kc_w1 : ClassId) (kc_w2 : ClassId) (kc_wa : ClassId) (cs : Int32) (h0 : Heap) (n0 : Nat) (Z0 : n0 ≤ h0.size) (E0_o0 : Exa Z h0 o0 "com/example/lotbook/lotbook/AccountStatus") (F0_o0_code : Fld Z h0 o0 "com/example/lotbook/lotbook/AccountStatus" "code" "Ljava/lang/String;" (.ref c0)) (E0_o1 : Exa Z h0 o1 "com/example/lotbook/lotbook/AccountStatus") (F0_o1_code : Fld Z h0 o1 "com/example/lotbook/lotbook/AccountStatus" "code" "Ljava/lang/String;" (.ref c1)) (E0_o2 : Exa Z h0 o2 "com/example/lotbook/lotbook/AccountStatus") (F0_o2_code : Fld Z h0 o2 "com/example/lotbook/lotbook/AccountStatus" "code" "Ljava/lang/String;" (.ref c2)) (E0_c0 : Exa Z h0 c0 "java/lang/String") (F0_c0_coder : Fld Z h0 c0 "java/lang/String" "coder" "B" (.int 0)) (F0_c0_value : Fld Z h0 c0 "java/lang/String" "value" "[B" (.ref w0)) (E0_c1 : Exa Z h0 c1 "java/lang/String") (F0_c1_coder : Fld Z h0 c1 "java/lang/String" "coder" "B" (.int 0)) (F0_c1_value : Fld Z h0 c1 "java/lang/String" "value" "[B" (.ref w1)) (E0_c2 : Exa Z h0 c2 "java/lang/String") (F0_c2_coder : Fld Z h0 c2 "java/lang/String" "coder" "B" (.int 0)) (F0_c2_value : Fld Z h0 c2 "java/lang/String" "value" "[B" (.ref w2)) (E0_a : Exa Z h0 a "java/lang/String") (F0_a_coder : Fld Z h0 a "java/lang/String" "coder" "B" (.int 0)) (F0_a_value : Fld Z h0 a "java/lang/String" "value" "[B" (.ref wa)) (V0_arr : Arv Z h0 arr kc_arr (.object "com/example/lotbook/lotbook/AccountStatus") (3 : Int32) [(.ref o0), (.ref o1), (.ref o2)] .null) (V0_w0 : Arv Z h0 w0 kc_w0 .byte (6 : Int32) [(.int 110), (.int 111), (.int 114), (.int 109), (.int 97), (.int 108)] (.int 0)) (V0_w1 : Arv Z h0 w1 kc_w1 .byte (11 : Int32) [(.int 110), (.int 111), (.int 95), (.int 110), (.int 101), (.int 119), (.int 95), (.int 111), (.int 112), (.int 101), (.int 110)] (.int 0)) (V0_w2 : Arv Z h0 w2 kc_w2 .byte (9 : Int32) [(.int 108), (.int 105), (.int 113), (.int 117), (.int 105), (.int 100), (.int 97), (.int 116), (.int 101)] (.int 0)) (V0_wa : Arv Z h0 wa kc_wa .byte (9 : Int32) [(.int 108), (.int 105), (.int 113), (.int 117), (.int 105), (.int 100), (.int 97), (.int 116), (.int 101)] (.int 0)) (ne0_c0_a : c0 ≠ a) (ne0_c1_a : c1 ≠ a) (ne0_c2_a : c2 ≠ a) (S0_COMPACT_STRINGS : Sta Z h0 "java/lang/String" "COMPACT_STRINGS" "Z" (.int cs)) (hcs : ¬ (cs = (0 : Int32))) :
    CtC l Z (⟨"com/example/lotbook/lotbook/Flag", "fromCode", "([Lcom/example/lotbook/lotbook/Flag;Ljava/lang/String;Ljava/lang/String;)Lcom/example/lotbook/lotbook/Flag;"⟩ : MethodName) prog_34_method_2_code 8 (some (.object "com/example/lotbook/lotbook/Flag")) ws (⟨6, 7, 78, 89⟩ : Room) #[(.ref arr), (.ref stt), (.ref a)] h0 (QFf2f Z o2 h0 n0) := by
  refine MetFree.of_bodySF (plainFor_of_name pnFf2f) hisR ?_
  intro p e s m args below meth c s₁ Bd hml hP hK
  obtain ⟨rfl, hZ, hh, hCH⟩ := hP
  obtain ⟨hx, hby, hown, hnm, hlk, hret, X0, e0⟩ := own_stW Bd "com/example/lotbook/lotbook/Flag" rfl hh
  have N0 := Fr.nil n0
  have hS : s.Since s.vm 0 := (State.WarmedH.refl s).since 0
  have hk0 : 0 ≤ h0.size := Nat.zero_le _
  have CR0 : CHr Z own_EL s.vm h0 s.vm h0 := CHr.refl hCH
  show GoC Z p e below s (⟨6, 7, 78, 89⟩ : Room).cells (⟨6, 7, 78, 89⟩ : Room).slots (QFf2f Z o2 h0 n0) (s₁.setTop (entryFrame m #[(.ref arr), (.ref stt), (.ref a)] 8))
  rw [efFf2f]
  have hstr : ∀ a ∈ Bundle.stringAtoms, a.before a0 Z = true := by
    intro d hd
    simp only [Bundle.stringAtoms, Bundle.sN, List.mem_cons, List.not_mem_nil, or_false] at hd
    rcases hd with rfl | rfl | rfl | rfl | rfl | rfl | rfl
    · exact (own_w hw 7 rfl)
    · exact (own_w hw 6 rfl)
    · exact (own_w hw 23 rfl)
    · exact (own_w hw 33 rfl)
    · exact (own_w hw 31 rfl)
    · exact (own_w hw 55 rfl)
    · exact (own_w hw 56 rfl)
  have hEL : EW Z a0 own_EL := EW.cons (own_w hw 119 rfl) (by decide) (EW.cons (own_w hw 164 rfl) (by decide) EW.nil)
  obtain ⟨T101, h101, X101, e101, X_101, A101, D101, -, st101⟩ := newO X0 hx hZ hown (own_w hw 61 rfl) (own_w hw 62 rfl) (own_w hw 63 rfl) e0 (g := (mkF m 0 #[.val (.ref arr), .val (.ref stt), .val (.ref a), .unset, .unset, .unset, .unset, .unset] [])) rfl (hb hby dFf0f_0) (by decide) (by decide)
  obtain ⟨b101, g101⟩ : ∃ z, z = h0.size := ⟨_, rfl⟩
  rw [← g101] at A101 D101 st101
  have ge_b101 : n0 ≤ b101 := Nat.le_trans Z0 (Nat.le_of_eq g101.symm)
  have sz_b101 : h0.size ≤ b101 := Nat.le_trans (Keep.refl h0 []).1 (Nat.le_of_eq g101.symm)
  have SF_b101 := own_snew CR0 (Nat.le_of_eq g101.symm)
  have Z102 := Nat.le_trans Z0 X_101.1
  have hk102 := Nat.le_trans hk0 X_101.1
  have K102 : Keep h0 h101 [] := (Keep.refl h0 []).ext X_101
  have SF102_b101 := Safe.ext X_101 CR0.1 SF_b101
  have CR102 := CHr.trans CR0 (CHr.ext X_101 CR0.1)
  have F101_value : Fld Z h101 b101 "java/lang/AbstractStringBuilder" "value" "[B" .null := D101 (Or.inl (own_w hw 76 rfl)) (ty := (.array .byte)) (by decide)
  have F101_coder : Fld Z h101 b101 "java/lang/AbstractStringBuilder" "coder" "B" (.int 0) := D101 (Or.inl (own_w hw 78 rfl)) (ty := .byte) (by decide)
  have F101_count : Fld Z h101 b101 "java/lang/AbstractStringBuilder" "count" "I" (.int 0) := D101 (Or.inl (own_w hw 118 rfl)) (ty := .int) (by decide)
  obtain ⟨_, _, ⟨T103, L103, k103, n103⟩, -, X103, ⟨Lc103, hQ103, l103, y103, z103⟩, st103⟩ := X101.specialBack hx (y := (⟨"java/lang/StringBuilder", "<init>", "()V"⟩ : MethodName)) rfl hown (mvT hZ (own_w hw 64 rfl)) (mvT hZ (own_w hw 65 rfl)) (mvT hZ (own_w hw 66 rfl)) (by decide) (backOf (W := 1) (rmBz l Z a0 hw [] b101 cs h101 n0 Z102 A101 F101_value F101_coder F101_count (own_stakeep S0_COMPACT_STRINGS K102 all0) ge_b101 hcs) hZ (own_w hw 66 rfl) (own_w hw 63 rfl) (by decide) (by decide)) (g := (mkF m 4 #[.val (.ref arr), .val (.ref stt), .val (.ref a), .unset, .unset, .unset, .unset, .unset] [(.ref b101), (.ref b101)])) rfl (by rw [hml]; rfl) (Steps.refl _) (a := b101) (argsL := []) (rest := [(.ref b101)]) (lenOf pdFf2f_0 rfl) rfl (by show 2 * 0 + _ ≤ _; exact Nat.le_of_eq rfl) (hb hby dFf0f_4) (fun _ _ => ⟨rfl, e101, (by decide : 1 + 1 ≤ _), (by decide : 4 + 16 ≤ _)⟩)
  dsimp only [Pt.U, Pt.locs, Pt.cells, Pt.slots] at X103 l103 y103 z103 st103 hQ103
  subst l103 y103 z103
  obtain ⟨b103_101_103, k103_101_103, rfl, N103q, K103, g103_0, g103_1, g103_2, g103_3, ge_b103_101_103, szc_b103_101_103, g103_4⟩ := hQ103
  have sz_b103_101_103 : h0.size ≤ b103_101_103 := Nat.le_trans K102.1 szc_b103_101_103
  have SF_b103_101_103 := own_snew CR102 szc_b103_101_103
  have E104_b101 := A101.keep K103
  have Z104 := Nat.le_trans Z102 K103.1
  have hk104 := Nat.le_trans hk102 K103.1
  have K104 : Keep h0 T103.heap [] := Keep.trans K102 K103 (allS (Or.inr sz_b101) all0)
  have SF104_b101 := Safe.keep K103 (sfS SF102_b101 sf0) CR102.1 SF102_b101
  have SF104_b103_101_103 := Safe.keep K103 (sfS SF102_b101 sf0) CR102.1 SF_b103_101_103
  have CR104 := CHr.trans CR102 (CHr.keep K103 (sfS SF102_b101 sf0) CR102.1)
  have N103 := Fr.app N0 N103q
  obtain ⟨cl_q105, Ar_q105, q1_q105, S_q105, N_q105, H_q105, G_q105⟩ := id (V0_arr.keep K104 nin0)
  obtain ⟨cl_q106, Ar_q106, q1_q106, S_q106, N_q106, H_q106, G_q106⟩ := id (V0_arr.keep K104 nin0)
  have hin_q106 := own_ib S_q106 (0 : Int32) (by decide)
  have hat_q106 : cl_q106.slots[((0 : Int32)).toNatClampNeg]? = some (.ref o0) := Has.at H_q106 hin_q106 rfl
  obtain ⟨cq107, kq107, q107a, q107b, q107c⟩ := isOf hZ rfl (E0_o0.keep K104)
  obtain ⟨_, _, ⟨T107, L107, k107, n107⟩, -, X107, ⟨Lc107, hQ107, l107, y107, z107⟩, st107⟩ := X103.interfaceBack hx (xi := (⟨"com/example/lotbook/lotbook/Flag", "code", "()Ljava/lang/String;"⟩ : MethodName)) (y := (⟨"com/example/lotbook/lotbook/AccountStatus", "code", "()Ljava/lang/String;"⟩ : MethodName)) hown (mvT hZ (own_w hw 79 rfl)) (mvT hZ (own_w hw 80 rfl)) (mvT hZ (own_w hw 81 rfl)) (mvT hZ (own_w hw 82 rfl)) (mvT hZ (own_w hw 83 rfl)) (mvT hZ (own_w hw 84 rfl)) (mvT hZ (own_w hw 85 rfl)) (mvT hZ (own_w hw 86 rfl)) (by decide) (backOf (W := 0) (rmSc l Z a0 hw [] o0 c0 T103.heap n0 Z104 (E0_o0.keep K104) (F0_o0_code.keep K104 nin0)) hZ (own_w hw 87 rfl) (own_w hw 3 rfl) (by decide) (by decide)) q107a q107b q107c (g := (mkF m 35 #[.val (.ref arr), .val (.ref stt), .val (.ref a), .val (.ref b101), .val (.ref arr), .val (.int 3), .val (.int 0), .val (.ref o0)] [(.ref o0)])) rfl (by rw [hml]; rfl) (Steps.refl _) (argsL := []) (rest := []) (lenOf pdFf2f_1 rfl) rfl (by show 2 * 0 + _ ≤ _; exact Nat.le_of_eq rfl) (hb hby dFf0f_35) (fun _ _ => ⟨rfl, rfl, (by decide : 2 + 0 ≤ _), (by decide : 20 + 0 ≤ _)⟩)
  dsimp only [Pt.U, Pt.locs, Pt.cells, Pt.slots] at X107 l107 y107 z107 st107 hQ107
  subst l107 y107 z107
  obtain ⟨rfl, N107q, eh107⟩ := hQ107
  have N107 := Fr.app N103 N107q
  obtain ⟨cq108, kq108, q108a, q108b, q108c⟩ := isOf hZ eh107 (E0_c0.keep K104)
  obtain ⟨_, _, ⟨T108, L108, k108, n108⟩, -, X108, ⟨Lc108, hQ108, l108, y108, z108⟩, st108⟩ := X107.virtualBack hx (y := (⟨"java/lang/String", "equals", "(Ljava/lang/Object;)Z"⟩ : MethodName)) (z := (⟨"java/lang/String", "equals", "(Ljava/lang/Object;)Z"⟩ : MethodName)) hown (mvT hZ (own_w hw 90 rfl)) (mvT hZ (own_w hw 91 rfl)) (notFace_of_selects (args := #[]) (mvT hZ (own_w hw 93 rfl))) (mvT hZ (own_w hw 93 rfl)) (mvT hZ (own_w hw 92 rfl)) (by decide) (backOf (W := 0) (rmEq02 l Z a0 hw [] c0 a w0 wa kc_w0 kc_wa cs T103.heap n0 Z104 (E0_c0.keep K104) (F0_c0_coder.keep K104 nin0) (F0_c0_value.keep K104 nin0) (E0_a.keep K104) (F0_a_coder.keep K104 nin0) (F0_a_value.keep K104 nin0) (V0_w0.keep K104 nin0) (V0_wa.keep K104 nin0) ne0_c0_a (own_stakeep S0_COMPACT_STRINGS K104 all0) hcs) hZ (own_w hw 94 rfl) (own_w hw 7 rfl) (by decide) (by decide)) q108a q108c (g := (mkF m 41 #[.val (.ref arr), .val (.ref stt), .val (.ref a), .val (.ref b101), .val (.ref arr), .val (.int 3), .val (.int 0), .val (.ref o0)] [(.ref a), (.ref c0)])) rfl (by rw [hml]; rfl) (Steps.refl _) (argsL := [(.ref a)]) (rest := []) (lenOf pdFf2f_2 rfl) rfl (by show 2 * 0 + _ ≤ _; exact Nat.le_of_eq rfl) (hb hby dFf0f_41) (fun _ _ => ⟨rfl, eh107, (by decide : 2 + 0 ≤ _), (by decide : 20 + 0 ≤ _)⟩)
  dsimp only [Pt.U, Pt.locs, Pt.cells, Pt.slots] at X108 l108 y108 z108 st108 hQ108
  subst l108 y108 z108
  obtain ⟨rfl, N108q, eh108⟩ := hQ108
  have N108 := Fr.app N107 N108q
  obtain ⟨cq109, kq109, q109a, q109b, q109c⟩ := isOf hZ eh108 g103_0
  obtain ⟨_, _, ⟨T109, L109, k109, n109⟩, -, X109, ⟨Lc109, hQ109, l109, y109, z109⟩, st109⟩ := X108.virtualBack hx (y := (⟨"java/lang/StringBuilder", "length", "()I"⟩ : MethodName)) (z := (⟨"java/lang/StringBuilder", "length", "()I"⟩ : MethodName)) hown (mvT hZ (own_w hw 107 rfl)) (mvT hZ (own_w hw 108 rfl)) (notFace_of_selects (args := #[]) (mvT hZ (own_w hw 110 rfl))) (mvT hZ (own_w hw 110 rfl)) (mvT hZ (own_w hw 109 rfl)) (by decide) (backOf (W := 1) (rmBl l Z a0 hw [] b101 (0 : Int32) T103.heap n0 Z104 g103_0 g103_3) hZ (own_w hw 111 rfl) (own_w hw 63 rfl) (by decide) (by decide)) q109a q109c (g := (mkF m 52 #[.val (.ref arr), .val (.ref stt), .val (.ref a), .val (.ref b101), .val (.ref arr), .val (.int 3), .val (.int 0), .val (.ref o0)] [(.ref b101), (.ref b101)])) rfl (by rw [hml]; rfl) (Steps.refl _) (argsL := []) (rest := [(.ref b101)]) (lenOf pdFf2f_3 rfl) rfl (by show 2 * 0 + _ ≤ _; exact Nat.le_of_eq rfl) (hb hby dFf1f_52) (fun _ _ => ⟨rfl, eh108, (by decide : 2 + 0 ≤ _), (by decide : 20 + 0 ≤ _)⟩)
  dsimp only [Pt.U, Pt.locs, Pt.cells, Pt.slots] at X109 l109 y109 z109 st109 hQ109
  subst l109 y109 z109
  obtain ⟨rfl, N109q, eh109⟩ := hQ109
  have N109 := Fr.app N108 N109q
  refine GoC.by (fun _ kont => st101 _ (XS.dup X101.here hx rfl (hb hby dFf0f_3) rfl rfl (st103.trans (XS.astoreN X103.here hx rfl (hb hby dFf0f_7) rfl rfl (l' := #[.val (.ref arr), .val (.ref stt), .val (.ref a), .val (.ref b101), .unset, .unset, .unset, .unset]) rfl (XS.aloadN X103.here hx rfl (hb hby dFf0f_8) rfl rfl (XS.astore X103.here hx rfl (hb hby dFf0f_9) rfl rfl (l' := #[.val (.ref arr), .val (.ref stt), .val (.ref a), .val (.ref b101), .val (.ref arr), .unset, .unset, .unset]) rfl (XS.aload X103.here hx rfl (hb hby dFf0f_11) rfl rfl (X103.arraylength hx (own_at rfl Ar_q105.1) (State.isArrayOf_alike hZ.alike Ar_q105.2.1) (g := (mkF m 13 #[.val (.ref arr), .val (.ref stt), .val (.ref a), .val (.ref b101), .val (.ref arr), .unset, .unset, .unset] [(.ref arr)])) rfl rfl (hb hby dFf0f_13) _ (own_fI (len_of S_q105 N_q105) (XS.istore X103.here hx rfl (hb hby dFf0f_14) rfl (l' := #[.val (.ref arr), .val (.ref stt), .val (.ref a), .val (.ref b101), .val (.ref arr), .val (.int 3), .unset, .unset]) rfl (XS.iconst X103.here hx rfl (hb hby dFf0f_16) (XS.istore X103.here hx rfl (hb hby dFf0f_17) rfl (l' := #[.val (.ref arr), .val (.ref stt), .val (.ref a), .val (.ref b101), .val (.ref arr), .val (.int 3), .val (.int 0), .unset]) rfl (XS.iload X103.here hx rfl (hb hby dFf0f_19) rfl (XS.iload X103.here hx rfl (hb hby dFf0f_21) rfl (XS.icmpNo X103.here hx rfl (hb hby dFf0f_23) rfl (by decide) (XS.aload X103.here hx rfl (hb hby dFf0f_26) rfl rfl (XS.iload X103.here hx rfl (hb hby dFf0f_28) rfl (X103.aaload hx (j := (0 : Int32)) (v := (.ref o0)) (own_at rfl Ar_q106.1) (State.isArrayOf_alike hZ.alike Ar_q106.2.1) rfl Ar_q106.2.2 hin_q106 hat_q106 (g := (mkF m 30 #[.val (.ref arr), .val (.ref stt), .val (.ref a), .val (.ref b101), .val (.ref arr), .val (.int 3), .val (.int 0), .unset] [(.int 0), (.ref arr)])) rfl rfl (hb hby dFf0f_30) _ (XS.astore X103.here hx rfl (hb hby dFf0f_31) rfl rfl (l' := #[.val (.ref arr), .val (.ref stt), .val (.ref a), .val (.ref b101), .val (.ref arr), .val (.int 3), .val (.int 0), .val (.ref o0)]) rfl (XS.aload X103.here hx rfl (hb hby dFf0f_33) rfl rfl (st107.trans (XS.aloadN X107.here hx rfl (hb hby dFf0f_40) rfl rfl (st108.trans (XS.ifYes X108.here hx rfl (pc0 := 44) (pc' := 50) rfl (hb hby dFf0f_44) rfl (by decide) (by decide) (by decide) (XS.aloadN X108.here hx rfl (hb hby dFf1f_50) rfl rfl (XS.aloadN X108.here hx rfl (hb hby dFf1f_51) rfl rfl (st109.trans (XS.ifNo X109.here hx rfl (hb hby dFf1f_55) rfl (by decide) kont)))))))))))))))))))))))))))) ?_
  show GoC _ _ _ _ _ _ _ _ (T109.setTop (mkF m 58 #[.val (.ref arr), .val (.ref stt), .val (.ref a), .val (.ref b101), .val (.ref arr), .val (.int 3), .val (.int 0), .val (.ref o0)] [(.ref b101)]))
  obtain ⟨s110, T110, h110, k110, b110, kc110, X110, e110, X_110, hS, hk110, hZ, hown, E110, Fc110, Fv110, V110, -, -, C110, -, hne110, st110⟩ := ldcCH X109 hx hZ hown (own_w hw 119 rfl) hstr eh109 hS hk104 hEL (by simp [own_EL]) CR104.1 (vs := []) (z := 0) (by decide) (by decide) rfl (g := (mkF m 58 #[.val (.ref arr), .val (.ref stt), .val (.ref a), .val (.ref b101), .val (.ref arr), .val (.int 3), .val (.int 0), .val (.ref o0)] [(.ref b101)])) rfl (hb hby dFf1f_58) (n := 0) (by decide) (by decide) (by decide) (by decide)
  have CR110 := CHr.trans CR104 C110
  have SF110_b101 := C110.safe g103_0.lt SF104_b101
  have ne_b101_s110 := (hne110 b101 SF110_b101).1
  have ne_b101_b110 := (hne110 b101 SF110_b101).2
  have SF110_b103_101_103 := C110.safe g103_4.lt SF104_b103_101_103
  have ne_b103_101_103_s110 := (hne110 b103_101_103 SF110_b103_101_103).1
  have ne_b103_101_103_b110 := (hne110 b103_101_103 SF110_b103_101_103).2
  have F111_value_b101 := g103_1.ext X_110
  have F111_coder_b101 := g103_2.ext X_110
  have F111_count_b101 := g103_3.ext X_110
  have E111_b101 := g103_0.ext X_110
  have V111_b103_101_103 := g103_4.ext X_110
  have Z111 := Nat.le_trans Z104 X_110.1
  have hk111 := Nat.le_trans hk104 X_110.1
  have K111 : Keep h0 h110 [] := K104.ext X_110
  obtain ⟨cq112, kq112, q112a, q112b, q112c⟩ := isOf hZ e110 E111_b101
  obtain ⟨_, _, ⟨T112, L112, k112, n112⟩, -, X112, ⟨Lc112, hQ112, l112, y112, z112⟩, st112⟩ := X110.virtualBack hx (y := (⟨"java/lang/StringBuilder", "append", "(Ljava/lang/String;)Ljava/lang/StringBuilder;"⟩ : MethodName)) (z := (⟨"java/lang/StringBuilder", "append", "(Ljava/lang/String;)Ljava/lang/StringBuilder;"⟩ : MethodName)) hown (mvT hZ (own_w hw 120 rfl)) (mvT hZ (own_w hw 121 rfl)) (notFace_of_selects (args := #[]) (mvT hZ (own_w hw 123 rfl))) (mvT hZ (own_w hw 123 rfl)) (mvT hZ (own_w hw 122 rfl)) (by decide) (backOf (W := 0) (rmBa0 l Z a0 hw [] b101 s110 b103_101_103 b110 kc110 k103_101_103 (0 : Int32) (0 : Int32) (0 : Int32) (0 : Int32) (0 : Int32) (0 : Int32) (0 : Int32) (0 : Int32) (0 : Int32) (0 : Int32) (0 : Int32) (0 : Int32) (0 : Int32) (0 : Int32) (0 : Int32) (0 : Int32) cs h110 n0 Z111 E111_b101 F111_value_b101 F111_coder_b101 F111_count_b101 E110 Fc110 Fv110 V110 V111_b103_101_103 (own_nlt F101_value.lt szc_b103_101_103) (Ne.symm ne_b103_101_103_b110) ne_b101_b110 ne_b101_s110 (Ne.symm ne_b103_101_103_s110) (own_stakeep S0_COMPACT_STRINGS K111 all0) ge_b101 ge_b103_101_103 hcs) hZ (own_w hw 124 rfl) (own_w hw 63 rfl) (by decide) (by decide)) q112a q112c (g := (mkF m 65 #[.val (.ref arr), .val (.ref stt), .val (.ref a), .val (.ref b101), .val (.ref arr), .val (.int 3), .val (.int 0), .val (.ref o0)] [(.ref s110), (.ref b101)])) rfl (by rw [hml]; rfl) (Steps.refl _) (argsL := [(.ref s110)]) (rest := []) (lenOf pdFf2f_4 rfl) rfl (by show 2 * 0 + _ ≤ _; exact Nat.le_of_eq rfl) (hb hby dFf1f_65) (fun _ _ => ⟨rfl, e110, (by decide : 4 + 0 ≤ _), (by decide : 24 + 0 ≤ _)⟩)
  dsimp only [Pt.U, Pt.locs, Pt.cells, Pt.slots] at X112 l112 y112 z112 st112 hQ112
  subst l112 y112 z112
  obtain ⟨rfl, N112q, K112, g112_0, g112_1, g112_2, g112_3, g112_4⟩ := hQ112
  have F113_coder_s110 := Fc110.keep K112 (ninS (Ne.symm ne_b101_s110) (ninS (Ne.symm ne_b103_101_103_s110) nin0))
  have F113_value_s110 := Fv110.keep K112 (ninS (Ne.symm ne_b101_s110) (ninS (Ne.symm ne_b103_101_103_s110) nin0))
  have E113_b101 := E111_b101.keep K112
  have E113_s110 := E110.keep K112
  have V113_b110 := V110.keep K112 (ninS (Ne.symm ne_b101_b110) (ninS (Ne.symm ne_b103_101_103_b110) nin0))
  have Z113 := Nat.le_trans Z111 K112.1
  have hk113 := Nat.le_trans hk110 K112.1
  have K113 : Keep h0 T112.heap [] := Keep.trans K111 K112 (allS (Or.inr sz_b101) (allS (Or.inr sz_b103_101_103) all0))
  have SF113_b101 := Safe.keep K112 (sfS SF110_b101 (sfS SF110_b103_101_103 sf0)) CR110.1 SF110_b101
  have SF113_b103_101_103 := Safe.keep K112 (sfS SF110_b101 (sfS SF110_b103_101_103 sf0)) CR110.1 SF110_b103_101_103
  have CR113 := CHr.trans CR110 (CHr.keep K112 (sfS SF110_b101 (sfS SF110_b103_101_103 sf0)) CR110.1)
  have N112 := Fr.app N109 N112q
  obtain ⟨cq114, kq114, q114a, q114b, q114c⟩ := isOf hZ rfl (E0_o0.keep K113)
  obtain ⟨_, _, ⟨T114, L114, k114, n114⟩, -, X114, ⟨Lc114, hQ114, l114, y114, z114⟩, st114⟩ := X112.interfaceBack hx (xi := (⟨"com/example/lotbook/lotbook/Flag", "code", "()Ljava/lang/String;"⟩ : MethodName)) (y := (⟨"com/example/lotbook/lotbook/AccountStatus", "code", "()Ljava/lang/String;"⟩ : MethodName)) hown (mvT hZ (own_w hw 79 rfl)) (mvT hZ (own_w hw 80 rfl)) (mvT hZ (own_w hw 81 rfl)) (mvT hZ (own_w hw 82 rfl)) (mvT hZ (own_w hw 83 rfl)) (mvT hZ (own_w hw 84 rfl)) (mvT hZ (own_w hw 85 rfl)) (mvT hZ (own_w hw 86 rfl)) (by decide) (backOf (W := 1) (rmSc l Z a0 hw [] o0 c0 T112.heap n0 Z113 (E0_o0.keep K113) (F0_o0_code.keep K113 nin0)) hZ (own_w hw 87 rfl) (own_w hw 3 rfl) (by decide) (by decide)) q114a q114b q114c (g := (mkF m 70 #[.val (.ref arr), .val (.ref stt), .val (.ref a), .val (.ref b101), .val (.ref arr), .val (.int 3), .val (.int 0), .val (.ref o0)] [(.ref o0), (.ref b101)])) rfl (by rw [hml]; rfl) (Steps.refl _) (argsL := []) (rest := [(.ref b101)]) (lenOf pdFf2f_1 rfl) rfl (by show 2 * 0 + _ ≤ _; exact Nat.le_of_eq rfl) (hb hby dFf1f_70) (fun _ _ => ⟨rfl, rfl, (by decide : 4 + 0 ≤ _), (by decide : 24 + 0 ≤ _)⟩)
  dsimp only [Pt.U, Pt.locs, Pt.cells, Pt.slots] at X114 l114 y114 z114 st114 hQ114
  subst l114 y114 z114
  obtain ⟨rfl, N114q, eh114⟩ := hQ114
  have N114 := Fr.app N112 N114q
  obtain ⟨cq115, kq115, q115a, q115b, q115c⟩ := isOf hZ eh114 g112_0
  obtain ⟨_, _, ⟨T115, L115, k115, n115⟩, -, X115, ⟨Lc115, hQ115, l115, y115, z115⟩, st115⟩ := X114.virtualBack hx (y := (⟨"java/lang/StringBuilder", "append", "(Ljava/lang/String;)Ljava/lang/StringBuilder;"⟩ : MethodName)) (z := (⟨"java/lang/StringBuilder", "append", "(Ljava/lang/String;)Ljava/lang/StringBuilder;"⟩ : MethodName)) hown (mvT hZ (own_w hw 120 rfl)) (mvT hZ (own_w hw 121 rfl)) (notFace_of_selects (args := #[]) (mvT hZ (own_w hw 123 rfl))) (mvT hZ (own_w hw 123 rfl)) (mvT hZ (own_w hw 122 rfl)) (by decide) (backOf (W := 0) (rmBa1 l Z a0 hw [] b101 c0 b103_101_103 w0 kc_w0 k103_101_103 (0 : Int32) (0 : Int32) (0 : Int32) (0 : Int32) (0 : Int32) (0 : Int32) (0 : Int32) (0 : Int32) (0 : Int32) (0 : Int32) (0 : Int32) (0 : Int32) (0 : Int32) (0 : Int32) (0 : Int32) (0 : Int32) cs T112.heap n0 Z113 g112_0 g112_1 g112_2 g112_3 (E0_c0.keep K113) (F0_c0_coder.keep K113 nin0) (F0_c0_value.keep K113 nin0) (V0_w0.keep K113 nin0) g112_4 (own_nlt F101_value.lt szc_b103_101_103) (own_nlt (V0_w0.keep K102 nin0).lt szc_b103_101_103) (Ne.symm (own_nlt V0_w0.lt (Nat.le_of_eq g101.symm))) (Ne.symm (own_nlt F0_c0_coder.lt (Nat.le_of_eq g101.symm))) (own_nlt (F0_c0_coder.keep K102 nin0).lt szc_b103_101_103) (own_stakeep S0_COMPACT_STRINGS K113 all0) ge_b101 ge_b103_101_103 hcs) hZ (own_w hw 124 rfl) (own_w hw 63 rfl) (by decide) (by decide)) q115a q115c (g := (mkF m 75 #[.val (.ref arr), .val (.ref stt), .val (.ref a), .val (.ref b101), .val (.ref arr), .val (.int 3), .val (.int 0), .val (.ref o0)] [(.ref c0), (.ref b101)])) rfl (by rw [hml]; rfl) (Steps.refl _) (argsL := [(.ref c0)]) (rest := []) (lenOf pdFf2f_4 rfl) rfl (by show 2 * 0 + _ ≤ _; exact Nat.le_of_eq rfl) (hb hby dFf1f_75) (fun _ _ => ⟨rfl, eh114, (by decide : 4 + 0 ≤ _), (by decide : 24 + 0 ≤ _)⟩)
  dsimp only [Pt.U, Pt.locs, Pt.cells, Pt.slots] at X115 l115 y115 z115 st115 hQ115
  subst l115 y115 z115
  obtain ⟨rfl, N115q, K115, g115_0, g115_1, g115_2, g115_3, g115_4⟩ := hQ115
  have F116_coder_s110 := F113_coder_s110.keep K115 (ninS (Ne.symm ne_b101_s110) (ninS (Ne.symm ne_b103_101_103_s110) nin0))
  have F116_value_s110 := F113_value_s110.keep K115 (ninS (Ne.symm ne_b101_s110) (ninS (Ne.symm ne_b103_101_103_s110) nin0))
  have E116_b101 := g112_0.keep K115
  have E116_s110 := E113_s110.keep K115
  have V116_b110 := V113_b110.keep K115 (ninS (Ne.symm ne_b101_b110) (ninS (Ne.symm ne_b103_101_103_b110) nin0))
  have Z116 := Nat.le_trans Z113 K115.1
  have hk116 := Nat.le_trans hk113 K115.1
  have K116 : Keep h0 T115.heap [] := Keep.trans K113 K115 (allS (Or.inr sz_b101) (allS (Or.inr sz_b103_101_103) all0))
  have SF116_b101 := Safe.keep K115 (sfS SF113_b101 (sfS SF113_b103_101_103 sf0)) CR113.1 SF113_b101
  have SF116_b103_101_103 := Safe.keep K115 (sfS SF113_b101 (sfS SF113_b103_101_103 sf0)) CR113.1 SF113_b103_101_103
  have CR116 := CHr.trans CR113 (CHr.keep K115 (sfS SF113_b101 (sfS SF113_b103_101_103 sf0)) CR113.1)
  have N115 := Fr.app N114 N115q
  obtain ⟨cl_q117, Ar_q117, q1_q117, S_q117, N_q117, H_q117, G_q117⟩ := id (V0_arr.keep K116 nin0)
  have hin_q117 := own_ib S_q117 (1 : Int32) (by decide)
  have hat_q117 : cl_q117.slots[((1 : Int32)).toNatClampNeg]? = some (.ref o1) := Has.at H_q117 hin_q117 rfl
  obtain ⟨cq118, kq118, q118a, q118b, q118c⟩ := isOf hZ rfl (E0_o1.keep K116)
  obtain ⟨_, _, ⟨T118, L118, k118, n118⟩, -, X118, ⟨Lc118, hQ118, l118, y118, z118⟩, st118⟩ := X115.interfaceBack hx (xi := (⟨"com/example/lotbook/lotbook/Flag", "code", "()Ljava/lang/String;"⟩ : MethodName)) (y := (⟨"com/example/lotbook/lotbook/AccountStatus", "code", "()Ljava/lang/String;"⟩ : MethodName)) hown (mvT hZ (own_w hw 79 rfl)) (mvT hZ (own_w hw 80 rfl)) (mvT hZ (own_w hw 81 rfl)) (mvT hZ (own_w hw 82 rfl)) (mvT hZ (own_w hw 83 rfl)) (mvT hZ (own_w hw 84 rfl)) (mvT hZ (own_w hw 85 rfl)) (mvT hZ (own_w hw 86 rfl)) (by decide) (backOf (W := 0) (rmSc l Z a0 hw [] o1 c1 T115.heap n0 Z116 (E0_o1.keep K116) (F0_o1_code.keep K116 nin0)) hZ (own_w hw 87 rfl) (own_w hw 3 rfl) (by decide) (by decide)) q118a q118b q118c (g := (mkF m 35 #[.val (.ref arr), .val (.ref stt), .val (.ref a), .val (.ref b101), .val (.ref arr), .val (.int 3), .val (.int 1), .val (.ref o1)] [(.ref o1)])) rfl (by rw [hml]; rfl) (Steps.refl _) (argsL := []) (rest := []) (lenOf pdFf2f_1 rfl) rfl (by show 2 * 0 + _ ≤ _; exact Nat.le_of_eq rfl) (hb hby dFf0f_35) (fun _ _ => ⟨rfl, rfl, (by decide : 4 + 0 ≤ _), (by decide : 24 + 0 ≤ _)⟩)
  dsimp only [Pt.U, Pt.locs, Pt.cells, Pt.slots] at X118 l118 y118 z118 st118 hQ118
  subst l118 y118 z118
  obtain ⟨rfl, N118q, eh118⟩ := hQ118
  have N118 := Fr.app N115 N118q
  obtain ⟨cq119, kq119, q119a, q119b, q119c⟩ := isOf hZ eh118 (E0_c1.keep K116)
  obtain ⟨_, _, ⟨T119, L119, k119, n119⟩, -, X119, ⟨Lc119, hQ119, l119, y119, z119⟩, st119⟩ := X118.virtualBack hx (y := (⟨"java/lang/String", "equals", "(Ljava/lang/Object;)Z"⟩ : MethodName)) (z := (⟨"java/lang/String", "equals", "(Ljava/lang/Object;)Z"⟩ : MethodName)) hown (mvT hZ (own_w hw 90 rfl)) (mvT hZ (own_w hw 91 rfl)) (notFace_of_selects (args := #[]) (mvT hZ (own_w hw 93 rfl))) (mvT hZ (own_w hw 93 rfl)) (mvT hZ (own_w hw 92 rfl)) (by decide) (backOf (W := 0) (rmEq12 l Z a0 hw [] c1 a w1 wa kc_w1 kc_wa cs T115.heap n0 Z116 (E0_c1.keep K116) (F0_c1_coder.keep K116 nin0) (F0_c1_value.keep K116 nin0) (E0_a.keep K116) (F0_a_coder.keep K116 nin0) (F0_a_value.keep K116 nin0) (V0_w1.keep K116 nin0) (V0_wa.keep K116 nin0) ne0_c1_a (own_stakeep S0_COMPACT_STRINGS K116 all0) hcs) hZ (own_w hw 94 rfl) (own_w hw 7 rfl) (by decide) (by decide)) q119a q119c (g := (mkF m 41 #[.val (.ref arr), .val (.ref stt), .val (.ref a), .val (.ref b101), .val (.ref arr), .val (.int 3), .val (.int 1), .val (.ref o1)] [(.ref a), (.ref c1)])) rfl (by rw [hml]; rfl) (Steps.refl _) (argsL := [(.ref a)]) (rest := []) (lenOf pdFf2f_2 rfl) rfl (by show 2 * 0 + _ ≤ _; exact Nat.le_of_eq rfl) (hb hby dFf0f_41) (fun _ _ => ⟨rfl, eh118, (by decide : 4 + 0 ≤ _), (by decide : 24 + 0 ≤ _)⟩)
  dsimp only [Pt.U, Pt.locs, Pt.cells, Pt.slots] at X119 l119 y119 z119 st119 hQ119
  subst l119 y119 z119
  obtain ⟨rfl, N119q, eh119⟩ := hQ119
  have N119 := Fr.app N118 N119q
  obtain ⟨cq120, kq120, q120a, q120b, q120c⟩ := isOf hZ eh119 g115_0
  obtain ⟨_, _, ⟨T120, L120, k120, n120⟩, -, X120, ⟨Lc120, hQ120, l120, y120, z120⟩, st120⟩ := X119.virtualBack hx (y := (⟨"java/lang/StringBuilder", "length", "()I"⟩ : MethodName)) (z := (⟨"java/lang/StringBuilder", "length", "()I"⟩ : MethodName)) hown (mvT hZ (own_w hw 107 rfl)) (mvT hZ (own_w hw 108 rfl)) (notFace_of_selects (args := #[]) (mvT hZ (own_w hw 110 rfl))) (mvT hZ (own_w hw 110 rfl)) (mvT hZ (own_w hw 109 rfl)) (by decide) (backOf (W := 1) (rmBl l Z a0 hw [] b101 (6 : Int32) T115.heap n0 Z116 g115_0 g115_3) hZ (own_w hw 111 rfl) (own_w hw 63 rfl) (by decide) (by decide)) q120a q120c (g := (mkF m 52 #[.val (.ref arr), .val (.ref stt), .val (.ref a), .val (.ref b101), .val (.ref arr), .val (.int 3), .val (.int 1), .val (.ref o1)] [(.ref b101), (.ref b101)])) rfl (by rw [hml]; rfl) (Steps.refl _) (argsL := []) (rest := [(.ref b101)]) (lenOf pdFf2f_3 rfl) rfl (by show 2 * 0 + _ ≤ _; exact Nat.le_of_eq rfl) (hb hby dFf1f_52) (fun _ _ => ⟨rfl, eh119, (by decide : 4 + 0 ≤ _), (by decide : 24 + 0 ≤ _)⟩)
  dsimp only [Pt.U, Pt.locs, Pt.cells, Pt.slots] at X120 l120 y120 z120 st120 hQ120
  subst l120 y120 z120
  obtain ⟨rfl, N120q, eh120⟩ := hQ120
  have N120 := Fr.app N119 N120q
  refine GoC.by (fun _ kont => st110 _ (XS.goto X110.here hx rfl (pc0 := 60) (pc' := 65) rfl (hb hby dFf1f_60) (by decide) (by decide) (st112.trans (XS.aload X112.here hx rfl (hb hby dFf1f_68) rfl rfl (st114.trans (st115.trans (XS.pop X115.here hx rfl (hb hby dFf1f_78) rfl rfl (XS.iinc X115.here hx rfl (hb hby dFf1f_79) rfl (l' := #[.val (.ref arr), .val (.ref stt), .val (.ref a), .val (.ref b101), .val (.ref arr), .val (.int 3), .val (.int 1), .val (.ref o0)]) rfl (XS.goto X115.here hx rfl (pc0 := 82) (pc' := 19) rfl (hb hby dFf1f_82) (by decide) (by decide) (XS.iload X115.here hx rfl (hb hby dFf0f_19) rfl (XS.iload X115.here hx rfl (hb hby dFf0f_21) rfl (XS.icmpNo X115.here hx rfl (hb hby dFf0f_23) rfl (by decide) (XS.aload X115.here hx rfl (hb hby dFf0f_26) rfl rfl (XS.iload X115.here hx rfl (hb hby dFf0f_28) rfl (X115.aaload hx (j := (1 : Int32)) (v := (.ref o1)) (own_at rfl Ar_q117.1) (State.isArrayOf_alike hZ.alike Ar_q117.2.1) rfl Ar_q117.2.2 hin_q117 hat_q117 (g := (mkF m 30 #[.val (.ref arr), .val (.ref stt), .val (.ref a), .val (.ref b101), .val (.ref arr), .val (.int 3), .val (.int 1), .val (.ref o0)] [(.int 1), (.ref arr)])) rfl rfl (hb hby dFf0f_30) _ (XS.astore X115.here hx rfl (hb hby dFf0f_31) rfl rfl (l' := #[.val (.ref arr), .val (.ref stt), .val (.ref a), .val (.ref b101), .val (.ref arr), .val (.int 3), .val (.int 1), .val (.ref o1)]) rfl (XS.aload X115.here hx rfl (hb hby dFf0f_33) rfl rfl (st118.trans (XS.aloadN X118.here hx rfl (hb hby dFf0f_40) rfl rfl (st119.trans (XS.ifYes X119.here hx rfl (pc0 := 44) (pc' := 50) rfl (hb hby dFf0f_44) rfl (by decide) (by decide) (by decide) (XS.aloadN X119.here hx rfl (hb hby dFf1f_50) rfl rfl (XS.aloadN X119.here hx rfl (hb hby dFf1f_51) rfl rfl (st120.trans (XS.ifYes X120.here hx rfl (pc0 := 55) (pc' := 63) rfl (hb hby dFf1f_55) rfl (by decide) (by decide) (by decide) kont))))))))))))))))))))))))) ?_
  show GoC _ _ _ _ _ _ _ _ (T120.setTop (mkF m 63 #[.val (.ref arr), .val (.ref stt), .val (.ref a), .val (.ref b101), .val (.ref arr), .val (.int 3), .val (.int 1), .val (.ref o1)] [(.ref b101)]))
  obtain ⟨s121, T121, h121, k121, b121, kc121, X121, e121, X_121, hS, hk121, hZ, hown, E121, Fc121, Fv121, V121, -, -, C121, -, hne121, st121⟩ := ldcCH X120 hx hZ hown (own_w hw 164 rfl) hstr eh120 hS hk116 hEL (by simp [own_EL]) CR116.1 (vs := [(.int 32), (.int 111), (.int 114), (.int 32)]) (z := 4) (by decide) (by decide) rfl (g := (mkF m 63 #[.val (.ref arr), .val (.ref stt), .val (.ref a), .val (.ref b101), .val (.ref arr), .val (.int 3), .val (.int 1), .val (.ref o1)] [(.ref b101)])) rfl (hb hby dFf2f_63) (n := 16) (by decide) (by decide) (by decide) (by decide)
  have CR121 := CHr.trans CR116 C121
  have SF121_b101 := C121.safe g115_0.lt SF116_b101
  have ne_b101_s121 := (hne121 b101 SF121_b101).1
  have ne_b101_b121 := (hne121 b101 SF121_b101).2
  have SF121_b103_101_103 := C121.safe g115_4.lt SF116_b103_101_103
  have ne_b103_101_103_s121 := (hne121 b103_101_103 SF121_b103_101_103).1
  have ne_b103_101_103_b121 := (hne121 b103_101_103 SF121_b103_101_103).2
  have F122_coder_s110 := F116_coder_s110.ext X_121
  have F122_value_s110 := F116_value_s110.ext X_121
  have F122_value_b101 := g115_1.ext X_121
  have F122_coder_b101 := g115_2.ext X_121
  have F122_count_b101 := g115_3.ext X_121
  have E122_b101 := g115_0.ext X_121
  have E122_s110 := E116_s110.ext X_121
  have V122_b110 := V116_b110.ext X_121
  have V122_b103_101_103 := g115_4.ext X_121
  have Z122 := Nat.le_trans Z116 X_121.1
  have hk122 := Nat.le_trans hk116 X_121.1
  have K122 : Keep h0 h121 [] := K116.ext X_121
  obtain ⟨cq123, kq123, q123a, q123b, q123c⟩ := isOf hZ e121 E122_b101
  obtain ⟨_, _, ⟨T123, L123, k123, n123⟩, -, X123, ⟨Lc123, hQ123, l123, y123, z123⟩, st123⟩ := X121.virtualBack hx (y := (⟨"java/lang/StringBuilder", "append", "(Ljava/lang/String;)Ljava/lang/StringBuilder;"⟩ : MethodName)) (z := (⟨"java/lang/StringBuilder", "append", "(Ljava/lang/String;)Ljava/lang/StringBuilder;"⟩ : MethodName)) hown (mvT hZ (own_w hw 120 rfl)) (mvT hZ (own_w hw 121 rfl)) (notFace_of_selects (args := #[]) (mvT hZ (own_w hw 123 rfl))) (mvT hZ (own_w hw 123 rfl)) (mvT hZ (own_w hw 122 rfl)) (by decide) (backOf (W := 0) (rmBa2 l Z a0 hw [] b101 s121 b103_101_103 b121 kc121 k103_101_103 (110 : Int32) (111 : Int32) (114 : Int32) (109 : Int32) (97 : Int32) (108 : Int32) (0 : Int32) (0 : Int32) (0 : Int32) (0 : Int32) (0 : Int32) (0 : Int32) (0 : Int32) (0 : Int32) (0 : Int32) (0 : Int32) cs h121 n0 Z122 E122_b101 F122_value_b101 F122_coder_b101 F122_count_b101 E121 Fc121 Fv121 V121 V122_b103_101_103 (own_nlt F101_value.lt szc_b103_101_103) (Ne.symm ne_b103_101_103_b121) ne_b101_b121 ne_b101_s121 (Ne.symm ne_b103_101_103_s121) (own_stakeep S0_COMPACT_STRINGS K122 all0) ge_b101 ge_b103_101_103 hcs) hZ (own_w hw 124 rfl) (own_w hw 63 rfl) (by decide) (by decide)) q123a q123c (g := (mkF m 65 #[.val (.ref arr), .val (.ref stt), .val (.ref a), .val (.ref b101), .val (.ref arr), .val (.int 3), .val (.int 1), .val (.ref o1)] [(.ref s121), (.ref b101)])) rfl (by rw [hml]; rfl) (Steps.refl _) (argsL := [(.ref s121)]) (rest := []) (lenOf pdFf2f_4 rfl) rfl (by show 2 * 0 + _ ≤ _; exact Nat.le_of_eq rfl) (hb hby dFf1f_65) (fun _ _ => ⟨rfl, e121, (by decide : 6 + 0 ≤ _), (by decide : 44 + 0 ≤ _)⟩)
  dsimp only [Pt.U, Pt.locs, Pt.cells, Pt.slots] at X123 l123 y123 z123 st123 hQ123
  subst l123 y123 z123
  obtain ⟨rfl, N123q, K123, g123_0, g123_1, g123_2, g123_3, g123_4⟩ := hQ123
  have F124_coder_s110 := F122_coder_s110.keep K123 (ninS (Ne.symm ne_b101_s110) (ninS (Ne.symm ne_b103_101_103_s110) nin0))
  have F124_value_s110 := F122_value_s110.keep K123 (ninS (Ne.symm ne_b101_s110) (ninS (Ne.symm ne_b103_101_103_s110) nin0))
  have F124_coder_s121 := Fc121.keep K123 (ninS (Ne.symm ne_b101_s121) (ninS (Ne.symm ne_b103_101_103_s121) nin0))
  have F124_value_s121 := Fv121.keep K123 (ninS (Ne.symm ne_b101_s121) (ninS (Ne.symm ne_b103_101_103_s121) nin0))
  have E124_b101 := E122_b101.keep K123
  have E124_s110 := E122_s110.keep K123
  have E124_s121 := E121.keep K123
  have V124_b110 := V122_b110.keep K123 (ninS (Ne.symm ne_b101_b110) (ninS (Ne.symm ne_b103_101_103_b110) nin0))
  have V124_b121 := V121.keep K123 (ninS (Ne.symm ne_b101_b121) (ninS (Ne.symm ne_b103_101_103_b121) nin0))
  have Z124 := Nat.le_trans Z122 K123.1
  have hk124 := Nat.le_trans hk121 K123.1
  have K124 : Keep h0 T123.heap [] := Keep.trans K122 K123 (allS (Or.inr sz_b101) (allS (Or.inr sz_b103_101_103) all0))
  have SF124_b101 := Safe.keep K123 (sfS SF121_b101 (sfS SF121_b103_101_103 sf0)) CR121.1 SF121_b101
  have SF124_b103_101_103 := Safe.keep K123 (sfS SF121_b101 (sfS SF121_b103_101_103 sf0)) CR121.1 SF121_b103_101_103
  have CR124 := CHr.trans CR121 (CHr.keep K123 (sfS SF121_b101 (sfS SF121_b103_101_103 sf0)) CR121.1)
  have N123 := Fr.app N120 N123q
  obtain ⟨cq125, kq125, q125a, q125b, q125c⟩ := isOf hZ rfl (E0_o1.keep K124)
  obtain ⟨_, _, ⟨T125, L125, k125, n125⟩, -, X125, ⟨Lc125, hQ125, l125, y125, z125⟩, st125⟩ := X123.interfaceBack hx (xi := (⟨"com/example/lotbook/lotbook/Flag", "code", "()Ljava/lang/String;"⟩ : MethodName)) (y := (⟨"com/example/lotbook/lotbook/AccountStatus", "code", "()Ljava/lang/String;"⟩ : MethodName)) hown (mvT hZ (own_w hw 79 rfl)) (mvT hZ (own_w hw 80 rfl)) (mvT hZ (own_w hw 81 rfl)) (mvT hZ (own_w hw 82 rfl)) (mvT hZ (own_w hw 83 rfl)) (mvT hZ (own_w hw 84 rfl)) (mvT hZ (own_w hw 85 rfl)) (mvT hZ (own_w hw 86 rfl)) (by decide) (backOf (W := 1) (rmSc l Z a0 hw [] o1 c1 T123.heap n0 Z124 (E0_o1.keep K124) (F0_o1_code.keep K124 nin0)) hZ (own_w hw 87 rfl) (own_w hw 3 rfl) (by decide) (by decide)) q125a q125b q125c (g := (mkF m 70 #[.val (.ref arr), .val (.ref stt), .val (.ref a), .val (.ref b101), .val (.ref arr), .val (.int 3), .val (.int 1), .val (.ref o1)] [(.ref o1), (.ref b101)])) rfl (by rw [hml]; rfl) (Steps.refl _) (argsL := []) (rest := [(.ref b101)]) (lenOf pdFf2f_1 rfl) rfl (by show 2 * 0 + _ ≤ _; exact Nat.le_of_eq rfl) (hb hby dFf1f_70) (fun _ _ => ⟨rfl, rfl, (by decide : 6 + 0 ≤ _), (by decide : 44 + 0 ≤ _)⟩)
  dsimp only [Pt.U, Pt.locs, Pt.cells, Pt.slots] at X125 l125 y125 z125 st125 hQ125
  subst l125 y125 z125
  obtain ⟨rfl, N125q, eh125⟩ := hQ125
  have N125 := Fr.app N123 N125q
  obtain ⟨cq126, kq126, q126a, q126b, q126c⟩ := isOf hZ eh125 g123_0
  obtain ⟨_, _, ⟨T126, L126, k126, n126⟩, -, X126, ⟨Lc126, hQ126, l126, y126, z126⟩, st126⟩ := X125.virtualBack hx (y := (⟨"java/lang/StringBuilder", "append", "(Ljava/lang/String;)Ljava/lang/StringBuilder;"⟩ : MethodName)) (z := (⟨"java/lang/StringBuilder", "append", "(Ljava/lang/String;)Ljava/lang/StringBuilder;"⟩ : MethodName)) hown (mvT hZ (own_w hw 120 rfl)) (mvT hZ (own_w hw 121 rfl)) (notFace_of_selects (args := #[]) (mvT hZ (own_w hw 123 rfl))) (mvT hZ (own_w hw 123 rfl)) (mvT hZ (own_w hw 122 rfl)) (by decide) (backOf (W := 0) (rmBa3 l Z a0 hw [] b101 c1 b103_101_103 w1 kc_w1 k103_101_103 (110 : Int32) (111 : Int32) (114 : Int32) (109 : Int32) (97 : Int32) (108 : Int32) (32 : Int32) (111 : Int32) (114 : Int32) (32 : Int32) (0 : Int32) (0 : Int32) (0 : Int32) (0 : Int32) (0 : Int32) (0 : Int32) cs T123.heap n0 Z124 g123_0 g123_1 g123_2 g123_3 (E0_c1.keep K124) (F0_c1_coder.keep K124 nin0) (F0_c1_value.keep K124 nin0) (V0_w1.keep K124 nin0) g123_4 (own_nlt F101_value.lt szc_b103_101_103) (own_nlt (V0_w1.keep K102 nin0).lt szc_b103_101_103) (Ne.symm (own_nlt V0_w1.lt (Nat.le_of_eq g101.symm))) (Ne.symm (own_nlt F0_c1_coder.lt (Nat.le_of_eq g101.symm))) (own_nlt (F0_c1_coder.keep K102 nin0).lt szc_b103_101_103) (own_stakeep S0_COMPACT_STRINGS K124 all0) ge_b101 hcs) hZ (own_w hw 124 rfl) (own_w hw 63 rfl) (by decide) (by decide)) q126a q126c (g := (mkF m 75 #[.val (.ref arr), .val (.ref stt), .val (.ref a), .val (.ref b101), .val (.ref arr), .val (.int 3), .val (.int 1), .val (.ref o1)] [(.ref c1), (.ref b101)])) rfl (by rw [hml]; rfl) (Steps.refl _) (argsL := [(.ref c1)]) (rest := []) (lenOf pdFf2f_4 rfl) rfl (by show 2 * 0 + _ ≤ _; exact Nat.le_of_eq rfl) (hb hby dFf1f_75) (fun _ _ => ⟨rfl, eh125, (by decide : 6 + 1 ≤ _), (by decide : 44 + 34 ≤ _)⟩)
  dsimp only [Pt.U, Pt.locs, Pt.cells, Pt.slots] at X126 l126 y126 z126 st126 hQ126
  subst l126 y126 z126
  obtain ⟨b102_107_103_101_126, k102_107_103_101_126, rfl, N126q, K126, g126_0, g126_1, g126_2, g126_3, ge_b102_107_103_101_126, szc_b102_107_103_101_126, g126_4⟩ := hQ126
  have sz_b102_107_103_101_126 : h0.size ≤ b102_107_103_101_126 := Nat.le_trans K124.1 szc_b102_107_103_101_126
  have SF_b102_107_103_101_126 := own_snew CR124 szc_b102_107_103_101_126
  have F127_coder_s110 := F124_coder_s110.keep K126 (ninS (Ne.symm ne_b101_s110) nin0)
  have F127_value_s110 := F124_value_s110.keep K126 (ninS (Ne.symm ne_b101_s110) nin0)
  have F127_coder_s121 := F124_coder_s121.keep K126 (ninS (Ne.symm ne_b101_s121) nin0)
  have F127_value_s121 := F124_value_s121.keep K126 (ninS (Ne.symm ne_b101_s121) nin0)
  have E127_b101 := g123_0.keep K126
  have E127_s110 := E124_s110.keep K126
  have E127_s121 := E124_s121.keep K126
  have V127_b110 := V124_b110.keep K126 (ninS (Ne.symm ne_b101_b110) nin0)
  have V127_b121 := V124_b121.keep K126 (ninS (Ne.symm ne_b101_b121) nin0)
  have V127_b103_101_103 := g123_4.keep K126 (ninS (Ne.symm (own_nlt F101_value.lt szc_b103_101_103)) nin0)
  have Z127 := Nat.le_trans Z124 K126.1
  have hk127 := Nat.le_trans hk124 K126.1
  have K127 : Keep h0 T126.heap [] := Keep.trans K124 K126 (allS (Or.inr sz_b101) all0)
  have SF127_b101 := Safe.keep K126 (sfS SF124_b101 sf0) CR124.1 SF124_b101
  have SF127_b103_101_103 := Safe.keep K126 (sfS SF124_b101 sf0) CR124.1 SF124_b103_101_103
  have SF127_b102_107_103_101_126 := Safe.keep K126 (sfS SF124_b101 sf0) CR124.1 SF_b102_107_103_101_126
  have CR127 := CHr.trans CR124 (CHr.keep K126 (sfS SF124_b101 sf0) CR124.1)
  have N126 := Fr.app N125 N126q
  obtain ⟨cl_q128, Ar_q128, q1_q128, S_q128, N_q128, H_q128, G_q128⟩ := id (V0_arr.keep K127 nin0)
  have hin_q128 := own_ib S_q128 (2 : Int32) (by decide)
  have hat_q128 : cl_q128.slots[((2 : Int32)).toNatClampNeg]? = some (.ref o2) := Has.at H_q128 hin_q128 rfl
  obtain ⟨cq129, kq129, q129a, q129b, q129c⟩ := isOf hZ rfl (E0_o2.keep K127)
  obtain ⟨_, _, ⟨T129, L129, k129, n129⟩, -, X129, ⟨Lc129, hQ129, l129, y129, z129⟩, st129⟩ := X126.interfaceBack hx (xi := (⟨"com/example/lotbook/lotbook/Flag", "code", "()Ljava/lang/String;"⟩ : MethodName)) (y := (⟨"com/example/lotbook/lotbook/AccountStatus", "code", "()Ljava/lang/String;"⟩ : MethodName)) hown (mvT hZ (own_w hw 79 rfl)) (mvT hZ (own_w hw 80 rfl)) (mvT hZ (own_w hw 81 rfl)) (mvT hZ (own_w hw 82 rfl)) (mvT hZ (own_w hw 83 rfl)) (mvT hZ (own_w hw 84 rfl)) (mvT hZ (own_w hw 85 rfl)) (mvT hZ (own_w hw 86 rfl)) (by decide) (backOf (W := 0) (rmSc l Z a0 hw [] o2 c2 T126.heap n0 Z127 (E0_o2.keep K127) (F0_o2_code.keep K127 nin0)) hZ (own_w hw 87 rfl) (own_w hw 3 rfl) (by decide) (by decide)) q129a q129b q129c (g := (mkF m 35 #[.val (.ref arr), .val (.ref stt), .val (.ref a), .val (.ref b101), .val (.ref arr), .val (.int 3), .val (.int 2), .val (.ref o2)] [(.ref o2)])) rfl (by rw [hml]; rfl) (Steps.refl _) (argsL := []) (rest := []) (lenOf pdFf2f_1 rfl) rfl (by show 2 * 0 + _ ≤ _; exact Nat.le_of_eq rfl) (hb hby dFf0f_35) (fun _ _ => ⟨rfl, rfl, (by decide : 7 + 0 ≤ _), (by decide : 78 + 0 ≤ _)⟩)
  dsimp only [Pt.U, Pt.locs, Pt.cells, Pt.slots] at X129 l129 y129 z129 st129 hQ129
  subst l129 y129 z129
  obtain ⟨rfl, N129q, eh129⟩ := hQ129
  have N129 := Fr.app N126 N129q
  obtain ⟨cq130, kq130, q130a, q130b, q130c⟩ := isOf hZ eh129 (E0_c2.keep K127)
  obtain ⟨_, _, ⟨T130, L130, k130, n130⟩, -, X130, ⟨Lc130, hQ130, l130, y130, z130⟩, st130⟩ := X129.virtualBack hx (y := (⟨"java/lang/String", "equals", "(Ljava/lang/Object;)Z"⟩ : MethodName)) (z := (⟨"java/lang/String", "equals", "(Ljava/lang/Object;)Z"⟩ : MethodName)) hown (mvT hZ (own_w hw 90 rfl)) (mvT hZ (own_w hw 91 rfl)) (notFace_of_selects (args := #[]) (mvT hZ (own_w hw 93 rfl))) (mvT hZ (own_w hw 93 rfl)) (mvT hZ (own_w hw 92 rfl)) (by decide) (backOf (W := 0) (rmEq22 l Z a0 hw [] c2 a w2 wa kc_w2 kc_wa cs T126.heap n0 Z127 (E0_c2.keep K127) (F0_c2_coder.keep K127 nin0) (F0_c2_value.keep K127 nin0) (E0_a.keep K127) (F0_a_coder.keep K127 nin0) (F0_a_value.keep K127 nin0) (V0_w2.keep K127 nin0) (V0_wa.keep K127 nin0) ne0_c2_a (own_stakeep S0_COMPACT_STRINGS K127 all0) hcs) hZ (own_w hw 94 rfl) (own_w hw 7 rfl) (by decide) (by decide)) q130a q130c (g := (mkF m 41 #[.val (.ref arr), .val (.ref stt), .val (.ref a), .val (.ref b101), .val (.ref arr), .val (.int 3), .val (.int 2), .val (.ref o2)] [(.ref a), (.ref c2)])) rfl (by rw [hml]; rfl) (Steps.refl _) (argsL := [(.ref a)]) (rest := []) (lenOf pdFf2f_2 rfl) rfl (by show 2 * 0 + _ ≤ _; exact Nat.le_of_eq rfl) (hb hby dFf0f_41) (fun _ _ => ⟨rfl, eh129, (by decide : 7 + 0 ≤ _), (by decide : 78 + 0 ≤ _)⟩)
  dsimp only [Pt.U, Pt.locs, Pt.cells, Pt.slots] at X130 l130 y130 z130 st130 hQ130
  subst l130 y130 z130
  obtain ⟨rfl, N130q, eh130⟩ := hQ130
  have N130 := Fr.app N129 N130q
  refine GoC.by (fun _ kont => st121 _ (st123.trans (XS.aload X123.here hx rfl (hb hby dFf1f_68) rfl rfl (st125.trans (st126.trans (XS.pop X126.here hx rfl (hb hby dFf1f_78) rfl rfl (XS.iinc X126.here hx rfl (hb hby dFf1f_79) rfl (l' := #[.val (.ref arr), .val (.ref stt), .val (.ref a), .val (.ref b101), .val (.ref arr), .val (.int 3), .val (.int 2), .val (.ref o1)]) rfl (XS.goto X126.here hx rfl (pc0 := 82) (pc' := 19) rfl (hb hby dFf1f_82) (by decide) (by decide) (XS.iload X126.here hx rfl (hb hby dFf0f_19) rfl (XS.iload X126.here hx rfl (hb hby dFf0f_21) rfl (XS.icmpNo X126.here hx rfl (hb hby dFf0f_23) rfl (by decide) (XS.aload X126.here hx rfl (hb hby dFf0f_26) rfl rfl (XS.iload X126.here hx rfl (hb hby dFf0f_28) rfl (X126.aaload hx (j := (2 : Int32)) (v := (.ref o2)) (own_at rfl Ar_q128.1) (State.isArrayOf_alike hZ.alike Ar_q128.2.1) rfl Ar_q128.2.2 hin_q128 hat_q128 (g := (mkF m 30 #[.val (.ref arr), .val (.ref stt), .val (.ref a), .val (.ref b101), .val (.ref arr), .val (.int 3), .val (.int 2), .val (.ref o1)] [(.int 2), (.ref arr)])) rfl rfl (hb hby dFf0f_30) _ (XS.astore X126.here hx rfl (hb hby dFf0f_31) rfl rfl (l' := #[.val (.ref arr), .val (.ref stt), .val (.ref a), .val (.ref b101), .val (.ref arr), .val (.int 3), .val (.int 2), .val (.ref o2)]) rfl (XS.aload X126.here hx rfl (hb hby dFf0f_33) rfl rfl (st129.trans (XS.aloadN X129.here hx rfl (hb hby dFf0f_40) rfl rfl (st130.trans (XS.ifNo X130.here hx rfl (hb hby dFf0f_44) rfl (by decide) (XS.aload X130.here hx rfl (hb hby dFf0f_47) rfl rfl kont))))))))))))))))))))) ?_
  show GoC _ _ _ _ _ _ _ _ (T130.setTop (mkF m 49 #[.val (.ref arr), .val (.ref stt), .val (.ref a), .val (.ref b101), .val (.ref arr), .val (.int 3), .val (.int 2), .val (.ref o2)] [(.ref o2)]))
  refine GoC.retR X130 hS (by rw [eh130]; exact hk127) hZ hEL (by rw [hh, eh130]; exact CR127) hx hret rfl rfl hlk (hb hby dFf0f_49) ?_ (by decide) (by decide)
  show QFf2f Z o2 h0 n0 (some (.ref o2)) T130.heap _
  rw [eh130]
  exact ⟨rfl, N130, K127⟩

theorem pdAf2f_0 : parseMethodDescriptor "()[Lcom/example/lotbook/lotbook/AccountStatus;" = some ⟨[], some (.array (.object "com/example/lotbook/lotbook/AccountStatus"))⟩ := by decide +kernel
theorem pdAf2f_1 : parseMethodDescriptor "([Lcom/example/lotbook/lotbook/Flag;Ljava/lang/String;Ljava/lang/String;)Lcom/example/lotbook/lotbook/Flag;" = some ⟨[(.array (.object "com/example/lotbook/lotbook/Flag")), (.object "java/lang/String"), (.object "java/lang/String")], some (.object "com/example/lotbook/lotbook/Flag")⟩ := by decide +kernel
theorem pnAf2f : plainName "com/example/lotbook/lotbook/AccountStatus" = true := by first | (simp [plainName, overriddenIn]; done) | decide +kernel
theorem efAf2f (m : MethodId) (a : Addr) : entryFrame m #[(.ref a)] 1 = mkF m 0 #[.val (.ref a)] [] := by first | (simp [entryFrame, mkF, argsToLocals, Value.category]; done) | rfl
def QAf2f (Z : State) (o2 : Addr) (h0 : Heap) (n0 : Nat) (v : Option Value) (h : Heap) (L : List Loc) : Prop := (v = some (.ref o2) ∧ Fr n0 L ∧ Keep h0 h [])
set_option maxRecDepth 65536 in
set_option maxHeartbeats 40000000 in
theorem rmAf2f (l : Launch) (Z : State) (a0 : Array Value) (hw : ∀ d ∈ tables_1, d.before a0 Z = true) (ws : List Jvm.Cond) (a : Addr) (o0 : Addr) (c0 : Addr) (o1 : Addr) (c1 : Addr) (o2 : Addr) (c2 : Addr) (w0 : Addr) (w1 : Addr) (w2 : Addr) (wa : Addr) (vals : Addr) (kc_vals : ClassId) (kc_w0 : ClassId) (kc_w1 : ClassId) (kc_w2 : ClassId) (kc_wa : ClassId) (cs : Int32) (h0 : Heap) (n0 : Nat) (Z0 : n0 ≤ h0.size) (E0_o0 : Exa Z h0 o0 "com/example/lotbook/lotbook/AccountStatus") (F0_o0_code : Fld Z h0 o0 "com/example/lotbook/lotbook/AccountStatus" "code" "Ljava/lang/String;" (.ref c0)) (E0_o1 : Exa Z h0 o1 "com/example/lotbook/lotbook/AccountStatus") (F0_o1_code : Fld Z h0 o1 "com/example/lotbook/lotbook/AccountStatus" "code" "Ljava/lang/String;" (.ref c1)) (E0_o2 : Exa Z h0 o2 "com/example/lotbook/lotbook/AccountStatus") (F0_o2_code : Fld Z h0 o2 "com/example/lotbook/lotbook/AccountStatus" "code" "Ljava/lang/String;" (.ref c2)) (E0_c0 : Exa Z h0 c0 "java/lang/String") (F0_c0_coder : Fld Z h0 c0 "java/lang/String" "coder" "B" (.int 0)) (F0_c0_value : Fld Z h0 c0 "java/lang/String" "value" "[B" (.ref w0)) (E0_c1 : Exa Z h0 c1 "java/lang/String") (F0_c1_coder : Fld Z h0 c1 "java/lang/String" "coder" "B" (.int 0)) (F0_c1_value : Fld Z h0 c1 "java/lang/String" "value" "[B" (.ref w1)) (E0_c2 : Exa Z h0 c2 "java/lang/String") (F0_c2_coder : Fld Z h0 c2 "java/lang/String" "coder" "B" (.int 0)) (F0_c2_value : Fld Z h0 c2 "java/lang/String" "value" "[B" (.ref w2)) (E0_a : Exa Z h0 a "java/lang/String") (F0_a_coder : Fld Z h0 a "java/lang/String" "coder" "B" (.int 0)) (F0_a_value : Fld Z h0 a "java/lang/String" "value" "[B" (.ref wa)) (E0_vals : Exa Z h0 vals "[Lcom/example/lotbook/lotbook/AccountStatus;") (V0_vals : Arv Z h0 vals kc_vals (.object "com/example/lotbook/lotbook/AccountStatus") (3 : Int32) [(.ref o0), (.ref o1), (.ref o2)] .null) (V0_w0 : Arv Z h0 w0 kc_w0 .byte (6 : Int32) [(.int 110), (.int 111), (.int 114), (.int 109), (.int 97), (.int 108)] (.int 0)) (V0_w1 : Arv Z h0 w1 kc_w1 .byte (11 : Int32) [(.int 110), (.int 111), (.int 95), (.int 110), (.int 101), (.int 119), (.int 95), (.int 111), (.int 112), (.int 101), (.int 110)] (.int 0)) (V0_w2 : Arv Z h0 w2 kc_w2 .byte (9 : Int32) [(.int 108), (.int 105), (.int 113), (.int 117), (.int 105), (.int 100), (.int 97), (.int 116), (.int 101)] (.int 0)) (V0_wa : Arv Z h0 wa kc_wa .byte (9 : Int32) [(.int 108), (.int 105), (.int 113), (.int 117), (.int 105), (.int 100), (.int 97), (.int 116), (.int 101)] (.int 0)) (ne0_c0_a : c0 ≠ a) (ne0_c1_a : c1 ≠ a) (ne0_c2_a : c2 ≠ a) (S0_COMPACT_STRINGS : Sta Z h0 "java/lang/String" "COMPACT_STRINGS" "Z" (.int cs)) (S0__VALUES : Sta Z h0 "com/example/lotbook/lotbook/AccountStatus" "$VALUES" "[Lcom/example/lotbook/lotbook/AccountStatus;" (.ref vals)) (hcs : ¬ (cs = (0 : Int32))) :
    CtC l Z (⟨"com/example/lotbook/lotbook/AccountStatus", "fromCode", "(Ljava/lang/String;)Lcom/example/lotbook/lotbook/AccountStatus;"⟩ : MethodName) prog_2_method_5_code 1 (some (.object "com/example/lotbook/lotbook/AccountStatus")) ws (⟨7, 10, 109, 108⟩ : Room) #[(.ref a)] h0 (QAf2f Z o2 h0 n0) := by
  refine MetFree.of_bodySF (plainFor_of_name pnAf2f) hisR ?_
  intro p e s m args below meth c s₁ Bd hml hP hK
  obtain ⟨rfl, hZ, hh, hCH⟩ := hP
  obtain ⟨hx, hby, hown, hnm, hlk, hret, X0, e0⟩ := own_stW Bd "com/example/lotbook/lotbook/AccountStatus" rfl hh
  have N0 := Fr.nil n0
  have hS : s.Since s.vm 0 := (State.WarmedH.refl s).since 0
  have hk0 : 0 ≤ h0.size := Nat.zero_le _
  have CR0 : CHr Z own_EL s.vm h0 s.vm h0 := CHr.refl hCH
  show GoC Z p e below s (⟨7, 10, 109, 108⟩ : Room).cells (⟨7, 10, 109, 108⟩ : Room).slots (QAf2f Z o2 h0 n0) (s₁.setTop (entryFrame m #[(.ref a)] 1))
  rw [efAf2f]
  have hstr : ∀ a ∈ Bundle.stringAtoms, a.before a0 Z = true := by
    intro d hd
    simp only [Bundle.stringAtoms, Bundle.sN, List.mem_cons, List.not_mem_nil, or_false] at hd
    rcases hd with rfl | rfl | rfl | rfl | rfl | rfl | rfl
    · exact (own_w hw 7 rfl)
    · exact (own_w hw 6 rfl)
    · exact (own_w hw 23 rfl)
    · exact (own_w hw 33 rfl)
    · exact (own_w hw 31 rfl)
    · exact (own_w hw 55 rfl)
    · exact (own_w hw 56 rfl)
  have hEL : EW Z a0 own_EL := EW.cons (own_w hw 119 rfl) (by decide) (EW.cons (own_w hw 164 rfl) (by decide) EW.nil)
  obtain ⟨_, _, ⟨T101, L101, k101, n101⟩, -, X101, ⟨Lc101, hQ101, l101, y101, z101⟩, st101⟩ := Jvm.LawKit.callS X0 hx (y := (⟨"com/example/lotbook/lotbook/AccountStatus", "values", "()[Lcom/example/lotbook/lotbook/AccountStatus;"⟩ : MethodName)) hown (mvT hZ (own_w hw 37 rfl)) (mvT hZ (own_w hw 38 rfl)) (mvT hZ (own_w hw 3 rfl)) (mvT hZ (own_w hw 39 rfl)) (by decide) (backOf (W := 0) (rmVa l Z a0 hw [] vals kc_vals o0 o1 o2 h0 n0 Z0 E0_vals V0_vals S0__VALUES) hZ (own_w hw 39 rfl) (own_w hw 3 rfl) (by decide) (by decide)) (g := (mkF m 0 #[.val (.ref a)] [])) rfl (by rw [hml]; rfl) (argsL := []) (rest := []) (lenOf pdAf2f_0 rfl) rfl (by show 2 * 0 + _ ≤ _; exact Nat.le_of_eq rfl) (hb hby dAf0f_0) (fun _ _ => ⟨rfl, e0, (by decide : 0 + 1 ≤ _), (by decide : 0 + 3 ≤ _)⟩)
  dsimp only [Pt.U, Pt.locs, Pt.cells, Pt.slots] at X101 l101 y101 z101 st101 hQ101
  subst l101 y101 z101
  obtain ⟨b102_101, kc_vals_101, rfl, N101q, K101, ge_b102_101, szc_b102_101, g101_0, g101_1⟩ := hQ101
  have sz_b102_101 : h0.size ≤ b102_101 := Nat.le_trans (Keep.refl h0 []).1 szc_b102_101
  have SF_b102_101 := own_snew CR0 szc_b102_101
  have Z102 := Nat.le_trans Z0 K101.1
  have hk102 := Nat.le_trans hk0 K101.1
  have K102 : Keep h0 T101.heap [] := Keep.trans (Keep.refl h0 []) K101 all0
  have SF102_b102_101 := Safe.keep K101 sf0 CR0.1 SF_b102_101
  have CR102 := CHr.trans CR0 (CHr.keep K101 sf0 CR0.1)
  have N101 := Fr.app N0 N101q
  refine GoC.by (fun _ kont => st101 _ kont) ?_
  show GoC _ _ _ _ _ _ _ _ (T101.setTop (mkF m 3 #[.val (.ref a)] [(.ref b102_101)]))
  obtain ⟨s103, T103, h103, k103, X103, e103, X_103, hS, hk103, hZ, hown, C103, -, st103⟩ := ldcOH X101 hx hZ hown (own_w hw 54 rfl) hstr rfl hS hk102 hEL CR102.1 (g := (mkF m 3 #[.val (.ref a)] [(.ref b102_101)])) rfl (hb hby dAf0f_3) (n := 24) (by decide) (by decide) (by decide) (by decide)
  have CR103 := CHr.trans CR102 C103
  have SF103_b102_101 := C103.safe g101_0.lt SF102_b102_101
  have E104_b102_101 := g101_0.ext X_103
  have V104_b102_101 := g101_1.ext X_103
  have Z104 := Nat.le_trans Z102 X_103.1
  have hk104 := Nat.le_trans hk102 X_103.1
  have K104 : Keep h0 h103 [] := K102.ext X_103
  refine GoC.by (fun _ kont => st103 _ (XS.aloadN X103.here hx rfl (hb hby dAf0f_5) rfl rfl kont)) ?_
  show GoC _ _ _ _ _ _ _ _ (T103.setTop (mkF m 6 #[.val (.ref a)] [(.ref a), (.ref s103), (.ref b102_101)]))
  obtain ⟨_, _, ⟨T105, L105, k105, n105⟩, -, X105, hS105, hg105, ⟨Lc105, hQ105, l105, y105, z105, C105⟩, st105⟩ := callSS X103 hx (y := (⟨"com/example/lotbook/lotbook/Flag", "fromCode", "([Lcom/example/lotbook/lotbook/Flag;Ljava/lang/String;Ljava/lang/String;)Lcom/example/lotbook/lotbook/Flag;"⟩ : MethodName)) hown (mvT hZ (own_w hw 57 rfl)) (mvT hZ (own_w hw 58 rfl)) (mvT hZ (own_w hw 59 rfl)) (mvT hZ (own_w hw 60 rfl)) (by decide) (backOfSH (W := 0) (rmFf2f l Z a0 hw [] b102_101 s103 a o0 c0 o1 c1 o2 c2 w0 w1 w2 wa kc_vals_101 kc_w0 kc_w1 kc_w2 kc_wa cs h103 n0 Z104 (E0_o0.keep K104) (F0_o0_code.keep K104 nin0) (E0_o1.keep K104) (F0_o1_code.keep K104 nin0) (E0_o2.keep K104) (F0_o2_code.keep K104 nin0) (E0_c0.keep K104) (F0_c0_coder.keep K104 nin0) (F0_c0_value.keep K104 nin0) (E0_c1.keep K104) (F0_c1_coder.keep K104 nin0) (F0_c1_value.keep K104 nin0) (E0_c2.keep K104) (F0_c2_coder.keep K104 nin0) (F0_c2_value.keep K104 nin0) (E0_a.keep K104) (F0_a_coder.keep K104 nin0) (F0_a_value.keep K104 nin0) V104_b102_101 (V0_w0.keep K104 nin0) (V0_w1.keep K104 nin0) (V0_w2.keep K104 nin0) (V0_wa.keep K104 nin0) ne0_c0_a ne0_c1_a ne0_c2_a (own_stakeep S0_COMPACT_STRINGS K104 all0) hcs) hZ (own_w hw 60 rfl) (own_w hw 59 rfl) (by decide) (by decide) hEL CR103.1) (g := (mkF m 6 #[.val (.ref a)] [(.ref a), (.ref s103), (.ref b102_101)])) rfl (by rw [hml]; rfl) (argsL := [(.ref b102_101), (.ref s103), (.ref a)]) (rest := []) (lenOf pdAf2f_1 rfl) rfl (by show 2 * 0 + _ ≤ _; exact Nat.le_of_eq rfl) (hb hby dAf0f_6) (fun _ _ => ⟨rfl, e103, (by decide : 3 + 7 ≤ _), (by decide : 31 + 78 ≤ _)⟩)
  dsimp only [Pt.U, Pt.locs, Pt.cells, Pt.slots] at X105 hS105 hg105 l105 y105 z105 st105 hQ105 C105
  subst l105 y105 z105
  obtain ⟨X105, hS, hZ, hown⟩ := rebS hS (show _ ≤ T103.heap.size from by rw [e103]; exact hk103) X105 hS105 hg105 hZ hown
  have CR105 := CHr.trans CR103 C105
  obtain ⟨rfl, N105q, K105⟩ := hQ105
  have E106_b102_101 := E104_b102_101.keep K105
  have V106_b102_101 := V104_b102_101.keep K105 nin0
  have Z106 := Nat.le_trans Z104 K105.1
  have K106 : Keep h0 T105.heap [] := Keep.trans K104 K105 all0
  have N105 := Fr.app N101 N105q
  obtain ⟨T107, X107, e107, st107⟩ := castY X105 hx hZ hown (own_w hw 100 rfl) rfl (Ins.self (E0_o2.keep K106)) (g := (mkF m 9 #[.val (.ref a)] [(.ref o2)])) rfl rfl (hb hby dAf0f_9)
  refine GoC.by (fun _ kont => st105.trans (st107 _ kont)) ?_
  show GoC _ _ _ _ _ _ _ _ (T107.setTop (mkF m 12 #[.val (.ref a)] [(.ref o2)]))
  refine GoC.retR X107 hS (by rw [e107]; exact (Nat.le_refl _)) hZ hEL (by rw [hh, e107]; exact CR105) hx hret rfl rfl hlk (hb hby dAf0f_12) ?_ (by decide) (by decide)
  show QAf2f Z o2 h0 n0 (some (.ref o2)) T107.heap _
  rw [e107]
  exact ⟨rfl, N105, K106⟩

theorem pdFf2s_0 : parseMethodDescriptor "()V" = some ⟨[], none⟩ := by decide +kernel
theorem pdFf2s_1 : parseMethodDescriptor "()Ljava/lang/String;" = some ⟨[], some (.object "java/lang/String")⟩ := by decide +kernel
theorem pdFf2s_2 : parseMethodDescriptor "(Ljava/lang/Object;)Z" = some ⟨[(.object "java/lang/Object")], some .boolean⟩ := by decide +kernel
theorem pdFf2s_3 : parseMethodDescriptor "()I" = some ⟨[], some .int⟩ := by decide +kernel
theorem pdFf2s_4 : parseMethodDescriptor "(Ljava/lang/String;)Ljava/lang/StringBuilder;" = some ⟨[(.object "java/lang/String")], some (.object "java/lang/StringBuilder")⟩ := by decide +kernel
theorem pnFf2s : plainName "com/example/lotbook/lotbook/Flag" = true := by first | (simp [plainName, overriddenIn]; done) | decide +kernel
theorem efFf2s (m : MethodId) (arr : Addr) (stt : Addr) (c2 : Addr) : entryFrame m #[(.ref arr), (.ref stt), (.ref c2)] 8 = mkF m 0 #[.val (.ref arr), .val (.ref stt), .val (.ref c2), .unset, .unset, .unset, .unset, .unset] [] := by first | (simp [entryFrame, mkF, argsToLocals, Value.category]; done) | rfl
def QFf2s (Z : State) (o2 : Addr) (h0 : Heap) (n0 : Nat) (v : Option Value) (h : Heap) (L : List Loc) : Prop := (v = some (.ref o2) ∧ Fr n0 L ∧ Keep h0 h [])
set_option maxRecDepth 65536 in
set_option maxHeartbeats 40000000 in
theorem rmFf2s (l : Launch) (Z : State) (a0 : Array Value) (hw : ∀ d ∈ tables_1, d.before a0 Z = true) (ws : List Jvm.Cond) (arr : Addr) (stt : Addr) (c2 : Addr) (o0 : Addr) (c0 : Addr) (o1 : Addr) (c1 : Addr) (o2 : Addr) (w0 : Addr) (w1 : Addr) (w2 : Addr) (kc_arr : ClassId) (kc_w0 : ClassId) (kc_w1 : ClassId) (kc_w2 : ClassId) (cs : Int32) (h0 : Heap) (n0 : Nat) (Z0 : n0 ≤ h0.size) (E0_o0 : Exa Z h0 o0 "com/example/lotbook/lotbook/AccountStatus") (F0_o0_code : Fld Z h0 o0 "com/example/lotbook/lotbook/AccountStatus" "code" "Ljava/lang/String;" (.ref c0)) (E0_o1 : Exa Z h0 o1 "com/example/lotbook/lotbook/AccountStatus") (F0_o1_code : Fld Z h0 o1 "com/example/lotbook/lotbook/AccountStatus" "code" "Ljava/lang/String;" (.ref c1)) (E0_o2 : Exa Z h0 o2 "com/example/lotbook/lotbook/AccountStatus") (F0_o2_code : Fld Z h0 o2 "com/example/lotbook/lotbook/AccountStatus" "code" "Ljava/lang/String;" (.ref c2)) (E0_c0 : Exa Z h0 c0 "java/lang/String") (F0_c0_coder : Fld Z h0 c0 "java/lang/String" "coder" "B" (.int 0)) (F0_c0_value : Fld Z h0 c0 "java/lang/String" "value" "[B" (.ref w0)) (E0_c1 : Exa Z h0 c1 "java/lang/String") (F0_c1_coder : Fld Z h0 c1 "java/lang/String" "coder" "B" (.int 0)) (F0_c1_value : Fld Z h0 c1 "java/lang/String" "value" "[B" (.ref w1)) (E0_c2 : Exa Z h0 c2 "java/lang/String") (F0_c2_coder : Fld Z h0 c2 "java/lang/String" "coder" "B" (.int 0)) (F0_c2_value : Fld Z h0 c2 "java/lang/String" "value" "[B" (.ref w2)) (V0_arr : Arv Z h0 arr kc_arr (.object "com/example/lotbook/lotbook/AccountStatus") (3 : Int32) [(.ref o0), (.ref o1), (.ref o2)] .null) (V0_w0 : Arv Z h0 w0 kc_w0 .byte (6 : Int32) [(.int 110), (.int 111), (.int 114), (.int 109), (.int 97), (.int 108)] (.int 0)) (V0_w1 : Arv Z h0 w1 kc_w1 .byte (11 : Int32) [(.int 110), (.int 111), (.int 95), (.int 110), (.int 101), (.int 119), (.int 95), (.int 111), (.int 112), (.int 101), (.int 110)] (.int 0)) (V0_w2 : Arv Z h0 w2 kc_w2 .byte (9 : Int32) [(.int 108), (.int 105), (.int 113), (.int 117), (.int 105), (.int 100), (.int 97), (.int 116), (.int 101)] (.int 0)) (ne0_c0_c2 : c0 ≠ c2) (ne0_c1_c2 : c1 ≠ c2) (S0_COMPACT_STRINGS : Sta Z h0 "java/lang/String" "COMPACT_STRINGS" "Z" (.int cs)) (hcs : ¬ (cs = (0 : Int32))) :
    CtC l Z (⟨"com/example/lotbook/lotbook/Flag", "fromCode", "([Lcom/example/lotbook/lotbook/Flag;Ljava/lang/String;Ljava/lang/String;)Lcom/example/lotbook/lotbook/Flag;"⟩ : MethodName) prog_34_method_2_code 8 (some (.object "com/example/lotbook/lotbook/Flag")) ws (⟨6, 7, 78, 89⟩ : Room) #[(.ref arr), (.ref stt), (.ref c2)] h0 (QFf2s Z o2 h0 n0) := by
  refine MetFree.of_bodySF (plainFor_of_name pnFf2s) hisR ?_
  intro p e s m args below meth c s₁ Bd hml hP hK
  obtain ⟨rfl, hZ, hh, hCH⟩ := hP
  obtain ⟨hx, hby, hown, hnm, hlk, hret, X0, e0⟩ := own_stW Bd "com/example/lotbook/lotbook/Flag" rfl hh
  have N0 := Fr.nil n0
  have hS : s.Since s.vm 0 := (State.WarmedH.refl s).since 0
  have hk0 : 0 ≤ h0.size := Nat.zero_le _
  have CR0 : CHr Z own_EL s.vm h0 s.vm h0 := CHr.refl hCH
  show GoC Z p e below s (⟨6, 7, 78, 89⟩ : Room).cells (⟨6, 7, 78, 89⟩ : Room).slots (QFf2s Z o2 h0 n0) (s₁.setTop (entryFrame m #[(.ref arr), (.ref stt), (.ref c2)] 8))
  rw [efFf2s]
  have hstr : ∀ a ∈ Bundle.stringAtoms, a.before a0 Z = true := by
    intro d hd
    simp only [Bundle.stringAtoms, Bundle.sN, List.mem_cons, List.not_mem_nil, or_false] at hd
    rcases hd with rfl | rfl | rfl | rfl | rfl | rfl | rfl
    · exact (own_w hw 7 rfl)
    · exact (own_w hw 6 rfl)
    · exact (own_w hw 23 rfl)
    · exact (own_w hw 33 rfl)
    · exact (own_w hw 31 rfl)
    · exact (own_w hw 55 rfl)
    · exact (own_w hw 56 rfl)
  have hEL : EW Z a0 own_EL := EW.cons (own_w hw 119 rfl) (by decide) (EW.cons (own_w hw 164 rfl) (by decide) EW.nil)
  obtain ⟨T101, h101, X101, e101, X_101, A101, D101, -, st101⟩ := newO X0 hx hZ hown (own_w hw 61 rfl) (own_w hw 62 rfl) (own_w hw 63 rfl) e0 (g := (mkF m 0 #[.val (.ref arr), .val (.ref stt), .val (.ref c2), .unset, .unset, .unset, .unset, .unset] [])) rfl (hb hby dFf0f_0) (by decide) (by decide)
  obtain ⟨b101, g101⟩ : ∃ z, z = h0.size := ⟨_, rfl⟩
  rw [← g101] at A101 D101 st101
  have ge_b101 : n0 ≤ b101 := Nat.le_trans Z0 (Nat.le_of_eq g101.symm)
  have sz_b101 : h0.size ≤ b101 := Nat.le_trans (Keep.refl h0 []).1 (Nat.le_of_eq g101.symm)
  have SF_b101 := own_snew CR0 (Nat.le_of_eq g101.symm)
  have Z102 := Nat.le_trans Z0 X_101.1
  have hk102 := Nat.le_trans hk0 X_101.1
  have K102 : Keep h0 h101 [] := (Keep.refl h0 []).ext X_101
  have SF102_b101 := Safe.ext X_101 CR0.1 SF_b101
  have CR102 := CHr.trans CR0 (CHr.ext X_101 CR0.1)
  have F101_value : Fld Z h101 b101 "java/lang/AbstractStringBuilder" "value" "[B" .null := D101 (Or.inl (own_w hw 76 rfl)) (ty := (.array .byte)) (by decide)
  have F101_coder : Fld Z h101 b101 "java/lang/AbstractStringBuilder" "coder" "B" (.int 0) := D101 (Or.inl (own_w hw 78 rfl)) (ty := .byte) (by decide)
  have F101_count : Fld Z h101 b101 "java/lang/AbstractStringBuilder" "count" "I" (.int 0) := D101 (Or.inl (own_w hw 118 rfl)) (ty := .int) (by decide)
  obtain ⟨_, _, ⟨T103, L103, k103, n103⟩, -, X103, ⟨Lc103, hQ103, l103, y103, z103⟩, st103⟩ := X101.specialBack hx (y := (⟨"java/lang/StringBuilder", "<init>", "()V"⟩ : MethodName)) rfl hown (mvT hZ (own_w hw 64 rfl)) (mvT hZ (own_w hw 65 rfl)) (mvT hZ (own_w hw 66 rfl)) (by decide) (backOf (W := 1) (rmBz l Z a0 hw [] b101 cs h101 n0 Z102 A101 F101_value F101_coder F101_count (own_stakeep S0_COMPACT_STRINGS K102 all0) ge_b101 hcs) hZ (own_w hw 66 rfl) (own_w hw 63 rfl) (by decide) (by decide)) (g := (mkF m 4 #[.val (.ref arr), .val (.ref stt), .val (.ref c2), .unset, .unset, .unset, .unset, .unset] [(.ref b101), (.ref b101)])) rfl (by rw [hml]; rfl) (Steps.refl _) (a := b101) (argsL := []) (rest := [(.ref b101)]) (lenOf pdFf2s_0 rfl) rfl (by show 2 * 0 + _ ≤ _; exact Nat.le_of_eq rfl) (hb hby dFf0f_4) (fun _ _ => ⟨rfl, e101, (by decide : 1 + 1 ≤ _), (by decide : 4 + 16 ≤ _)⟩)
  dsimp only [Pt.U, Pt.locs, Pt.cells, Pt.slots] at X103 l103 y103 z103 st103 hQ103
  subst l103 y103 z103
  obtain ⟨b103_101_103, k103_101_103, rfl, N103q, K103, g103_0, g103_1, g103_2, g103_3, ge_b103_101_103, szc_b103_101_103, g103_4⟩ := hQ103
  have sz_b103_101_103 : h0.size ≤ b103_101_103 := Nat.le_trans K102.1 szc_b103_101_103
  have SF_b103_101_103 := own_snew CR102 szc_b103_101_103
  have E104_b101 := A101.keep K103
  have Z104 := Nat.le_trans Z102 K103.1
  have hk104 := Nat.le_trans hk102 K103.1
  have K104 : Keep h0 T103.heap [] := Keep.trans K102 K103 (allS (Or.inr sz_b101) all0)
  have SF104_b101 := Safe.keep K103 (sfS SF102_b101 sf0) CR102.1 SF102_b101
  have SF104_b103_101_103 := Safe.keep K103 (sfS SF102_b101 sf0) CR102.1 SF_b103_101_103
  have CR104 := CHr.trans CR102 (CHr.keep K103 (sfS SF102_b101 sf0) CR102.1)
  have N103 := Fr.app N0 N103q
  obtain ⟨cl_q105, Ar_q105, q1_q105, S_q105, N_q105, H_q105, G_q105⟩ := id (V0_arr.keep K104 nin0)
  obtain ⟨cl_q106, Ar_q106, q1_q106, S_q106, N_q106, H_q106, G_q106⟩ := id (V0_arr.keep K104 nin0)
  have hin_q106 := own_ib S_q106 (0 : Int32) (by decide)
  have hat_q106 : cl_q106.slots[((0 : Int32)).toNatClampNeg]? = some (.ref o0) := Has.at H_q106 hin_q106 rfl
  obtain ⟨cq107, kq107, q107a, q107b, q107c⟩ := isOf hZ rfl (E0_o0.keep K104)
  obtain ⟨_, _, ⟨T107, L107, k107, n107⟩, -, X107, ⟨Lc107, hQ107, l107, y107, z107⟩, st107⟩ := X103.interfaceBack hx (xi := (⟨"com/example/lotbook/lotbook/Flag", "code", "()Ljava/lang/String;"⟩ : MethodName)) (y := (⟨"com/example/lotbook/lotbook/AccountStatus", "code", "()Ljava/lang/String;"⟩ : MethodName)) hown (mvT hZ (own_w hw 79 rfl)) (mvT hZ (own_w hw 80 rfl)) (mvT hZ (own_w hw 81 rfl)) (mvT hZ (own_w hw 82 rfl)) (mvT hZ (own_w hw 83 rfl)) (mvT hZ (own_w hw 84 rfl)) (mvT hZ (own_w hw 85 rfl)) (mvT hZ (own_w hw 86 rfl)) (by decide) (backOf (W := 0) (rmSc l Z a0 hw [] o0 c0 T103.heap n0 Z104 (E0_o0.keep K104) (F0_o0_code.keep K104 nin0)) hZ (own_w hw 87 rfl) (own_w hw 3 rfl) (by decide) (by decide)) q107a q107b q107c (g := (mkF m 35 #[.val (.ref arr), .val (.ref stt), .val (.ref c2), .val (.ref b101), .val (.ref arr), .val (.int 3), .val (.int 0), .val (.ref o0)] [(.ref o0)])) rfl (by rw [hml]; rfl) (Steps.refl _) (argsL := []) (rest := []) (lenOf pdFf2s_1 rfl) rfl (by show 2 * 0 + _ ≤ _; exact Nat.le_of_eq rfl) (hb hby dFf0f_35) (fun _ _ => ⟨rfl, rfl, (by decide : 2 + 0 ≤ _), (by decide : 20 + 0 ≤ _)⟩)
  dsimp only [Pt.U, Pt.locs, Pt.cells, Pt.slots] at X107 l107 y107 z107 st107 hQ107
  subst l107 y107 z107
  obtain ⟨rfl, N107q, eh107⟩ := hQ107
  have N107 := Fr.app N103 N107q
  obtain ⟨cq108, kq108, q108a, q108b, q108c⟩ := isOf hZ eh107 (E0_c0.keep K104)
  obtain ⟨_, _, ⟨T108, L108, k108, n108⟩, -, X108, ⟨Lc108, hQ108, l108, y108, z108⟩, st108⟩ := X107.virtualBack hx (y := (⟨"java/lang/String", "equals", "(Ljava/lang/Object;)Z"⟩ : MethodName)) (z := (⟨"java/lang/String", "equals", "(Ljava/lang/Object;)Z"⟩ : MethodName)) hown (mvT hZ (own_w hw 90 rfl)) (mvT hZ (own_w hw 91 rfl)) (notFace_of_selects (args := #[]) (mvT hZ (own_w hw 93 rfl))) (mvT hZ (own_w hw 93 rfl)) (mvT hZ (own_w hw 92 rfl)) (by decide) (backOf (W := 0) (rmEq02 l Z a0 hw [] c0 c2 w0 w2 kc_w0 kc_w2 cs T103.heap n0 Z104 (E0_c0.keep K104) (F0_c0_coder.keep K104 nin0) (F0_c0_value.keep K104 nin0) (E0_c2.keep K104) (F0_c2_coder.keep K104 nin0) (F0_c2_value.keep K104 nin0) (V0_w0.keep K104 nin0) (V0_w2.keep K104 nin0) ne0_c0_c2 (own_stakeep S0_COMPACT_STRINGS K104 all0) hcs) hZ (own_w hw 94 rfl) (own_w hw 7 rfl) (by decide) (by decide)) q108a q108c (g := (mkF m 41 #[.val (.ref arr), .val (.ref stt), .val (.ref c2), .val (.ref b101), .val (.ref arr), .val (.int 3), .val (.int 0), .val (.ref o0)] [(.ref c2), (.ref c0)])) rfl (by rw [hml]; rfl) (Steps.refl _) (argsL := [(.ref c2)]) (rest := []) (lenOf pdFf2s_2 rfl) rfl (by show 2 * 0 + _ ≤ _; exact Nat.le_of_eq rfl) (hb hby dFf0f_41) (fun _ _ => ⟨rfl, eh107, (by decide : 2 + 0 ≤ _), (by decide : 20 + 0 ≤ _)⟩)
  dsimp only [Pt.U, Pt.locs, Pt.cells, Pt.slots] at X108 l108 y108 z108 st108 hQ108
  subst l108 y108 z108
  obtain ⟨rfl, N108q, eh108⟩ := hQ108
  have N108 := Fr.app N107 N108q
  obtain ⟨cq109, kq109, q109a, q109b, q109c⟩ := isOf hZ eh108 g103_0
  obtain ⟨_, _, ⟨T109, L109, k109, n109⟩, -, X109, ⟨Lc109, hQ109, l109, y109, z109⟩, st109⟩ := X108.virtualBack hx (y := (⟨"java/lang/StringBuilder", "length", "()I"⟩ : MethodName)) (z := (⟨"java/lang/StringBuilder", "length", "()I"⟩ : MethodName)) hown (mvT hZ (own_w hw 107 rfl)) (mvT hZ (own_w hw 108 rfl)) (notFace_of_selects (args := #[]) (mvT hZ (own_w hw 110 rfl))) (mvT hZ (own_w hw 110 rfl)) (mvT hZ (own_w hw 109 rfl)) (by decide) (backOf (W := 1) (rmBl l Z a0 hw [] b101 (0 : Int32) T103.heap n0 Z104 g103_0 g103_3) hZ (own_w hw 111 rfl) (own_w hw 63 rfl) (by decide) (by decide)) q109a q109c (g := (mkF m 52 #[.val (.ref arr), .val (.ref stt), .val (.ref c2), .val (.ref b101), .val (.ref arr), .val (.int 3), .val (.int 0), .val (.ref o0)] [(.ref b101), (.ref b101)])) rfl (by rw [hml]; rfl) (Steps.refl _) (argsL := []) (rest := [(.ref b101)]) (lenOf pdFf2s_3 rfl) rfl (by show 2 * 0 + _ ≤ _; exact Nat.le_of_eq rfl) (hb hby dFf1f_52) (fun _ _ => ⟨rfl, eh108, (by decide : 2 + 0 ≤ _), (by decide : 20 + 0 ≤ _)⟩)
  dsimp only [Pt.U, Pt.locs, Pt.cells, Pt.slots] at X109 l109 y109 z109 st109 hQ109
  subst l109 y109 z109
  obtain ⟨rfl, N109q, eh109⟩ := hQ109
  have N109 := Fr.app N108 N109q
  refine GoC.by (fun _ kont => st101 _ (XS.dup X101.here hx rfl (hb hby dFf0f_3) rfl rfl (st103.trans (XS.astoreN X103.here hx rfl (hb hby dFf0f_7) rfl rfl (l' := #[.val (.ref arr), .val (.ref stt), .val (.ref c2), .val (.ref b101), .unset, .unset, .unset, .unset]) rfl (XS.aloadN X103.here hx rfl (hb hby dFf0f_8) rfl rfl (XS.astore X103.here hx rfl (hb hby dFf0f_9) rfl rfl (l' := #[.val (.ref arr), .val (.ref stt), .val (.ref c2), .val (.ref b101), .val (.ref arr), .unset, .unset, .unset]) rfl (XS.aload X103.here hx rfl (hb hby dFf0f_11) rfl rfl (X103.arraylength hx (own_at rfl Ar_q105.1) (State.isArrayOf_alike hZ.alike Ar_q105.2.1) (g := (mkF m 13 #[.val (.ref arr), .val (.ref stt), .val (.ref c2), .val (.ref b101), .val (.ref arr), .unset, .unset, .unset] [(.ref arr)])) rfl rfl (hb hby dFf0f_13) _ (own_fI (len_of S_q105 N_q105) (XS.istore X103.here hx rfl (hb hby dFf0f_14) rfl (l' := #[.val (.ref arr), .val (.ref stt), .val (.ref c2), .val (.ref b101), .val (.ref arr), .val (.int 3), .unset, .unset]) rfl (XS.iconst X103.here hx rfl (hb hby dFf0f_16) (XS.istore X103.here hx rfl (hb hby dFf0f_17) rfl (l' := #[.val (.ref arr), .val (.ref stt), .val (.ref c2), .val (.ref b101), .val (.ref arr), .val (.int 3), .val (.int 0), .unset]) rfl (XS.iload X103.here hx rfl (hb hby dFf0f_19) rfl (XS.iload X103.here hx rfl (hb hby dFf0f_21) rfl (XS.icmpNo X103.here hx rfl (hb hby dFf0f_23) rfl (by decide) (XS.aload X103.here hx rfl (hb hby dFf0f_26) rfl rfl (XS.iload X103.here hx rfl (hb hby dFf0f_28) rfl (X103.aaload hx (j := (0 : Int32)) (v := (.ref o0)) (own_at rfl Ar_q106.1) (State.isArrayOf_alike hZ.alike Ar_q106.2.1) rfl Ar_q106.2.2 hin_q106 hat_q106 (g := (mkF m 30 #[.val (.ref arr), .val (.ref stt), .val (.ref c2), .val (.ref b101), .val (.ref arr), .val (.int 3), .val (.int 0), .unset] [(.int 0), (.ref arr)])) rfl rfl (hb hby dFf0f_30) _ (XS.astore X103.here hx rfl (hb hby dFf0f_31) rfl rfl (l' := #[.val (.ref arr), .val (.ref stt), .val (.ref c2), .val (.ref b101), .val (.ref arr), .val (.int 3), .val (.int 0), .val (.ref o0)]) rfl (XS.aload X103.here hx rfl (hb hby dFf0f_33) rfl rfl (st107.trans (XS.aloadN X107.here hx rfl (hb hby dFf0f_40) rfl rfl (st108.trans (XS.ifYes X108.here hx rfl (pc0 := 44) (pc' := 50) rfl (hb hby dFf0f_44) rfl (by decide) (by decide) (by decide) (XS.aloadN X108.here hx rfl (hb hby dFf1f_50) rfl rfl (XS.aloadN X108.here hx rfl (hb hby dFf1f_51) rfl rfl (st109.trans (XS.ifNo X109.here hx rfl (hb hby dFf1f_55) rfl (by decide) kont)))))))))))))))))))))))))))) ?_
  show GoC _ _ _ _ _ _ _ _ (T109.setTop (mkF m 58 #[.val (.ref arr), .val (.ref stt), .val (.ref c2), .val (.ref b101), .val (.ref arr), .val (.int 3), .val (.int 0), .val (.ref o0)] [(.ref b101)]))
  obtain ⟨s110, T110, h110, k110, b110, kc110, X110, e110, X_110, hS, hk110, hZ, hown, E110, Fc110, Fv110, V110, -, -, C110, -, hne110, st110⟩ := ldcCH X109 hx hZ hown (own_w hw 119 rfl) hstr eh109 hS hk104 hEL (by simp [own_EL]) CR104.1 (vs := []) (z := 0) (by decide) (by decide) rfl (g := (mkF m 58 #[.val (.ref arr), .val (.ref stt), .val (.ref c2), .val (.ref b101), .val (.ref arr), .val (.int 3), .val (.int 0), .val (.ref o0)] [(.ref b101)])) rfl (hb hby dFf1f_58) (n := 0) (by decide) (by decide) (by decide) (by decide)
  have CR110 := CHr.trans CR104 C110
  have SF110_b101 := C110.safe g103_0.lt SF104_b101
  have ne_b101_s110 := (hne110 b101 SF110_b101).1
  have ne_b101_b110 := (hne110 b101 SF110_b101).2
  have SF110_b103_101_103 := C110.safe g103_4.lt SF104_b103_101_103
  have ne_b103_101_103_s110 := (hne110 b103_101_103 SF110_b103_101_103).1
  have ne_b103_101_103_b110 := (hne110 b103_101_103 SF110_b103_101_103).2
  have F111_value_b101 := g103_1.ext X_110
  have F111_coder_b101 := g103_2.ext X_110
  have F111_count_b101 := g103_3.ext X_110
  have E111_b101 := g103_0.ext X_110
  have V111_b103_101_103 := g103_4.ext X_110
  have Z111 := Nat.le_trans Z104 X_110.1
  have hk111 := Nat.le_trans hk104 X_110.1
  have K111 : Keep h0 h110 [] := K104.ext X_110
  obtain ⟨cq112, kq112, q112a, q112b, q112c⟩ := isOf hZ e110 E111_b101
  obtain ⟨_, _, ⟨T112, L112, k112, n112⟩, -, X112, ⟨Lc112, hQ112, l112, y112, z112⟩, st112⟩ := X110.virtualBack hx (y := (⟨"java/lang/StringBuilder", "append", "(Ljava/lang/String;)Ljava/lang/StringBuilder;"⟩ : MethodName)) (z := (⟨"java/lang/StringBuilder", "append", "(Ljava/lang/String;)Ljava/lang/StringBuilder;"⟩ : MethodName)) hown (mvT hZ (own_w hw 120 rfl)) (mvT hZ (own_w hw 121 rfl)) (notFace_of_selects (args := #[]) (mvT hZ (own_w hw 123 rfl))) (mvT hZ (own_w hw 123 rfl)) (mvT hZ (own_w hw 122 rfl)) (by decide) (backOf (W := 0) (rmBa0 l Z a0 hw [] b101 s110 b103_101_103 b110 kc110 k103_101_103 (0 : Int32) (0 : Int32) (0 : Int32) (0 : Int32) (0 : Int32) (0 : Int32) (0 : Int32) (0 : Int32) (0 : Int32) (0 : Int32) (0 : Int32) (0 : Int32) (0 : Int32) (0 : Int32) (0 : Int32) (0 : Int32) cs h110 n0 Z111 E111_b101 F111_value_b101 F111_coder_b101 F111_count_b101 E110 Fc110 Fv110 V110 V111_b103_101_103 (own_nlt F101_value.lt szc_b103_101_103) (Ne.symm ne_b103_101_103_b110) ne_b101_b110 ne_b101_s110 (Ne.symm ne_b103_101_103_s110) (own_stakeep S0_COMPACT_STRINGS K111 all0) ge_b101 ge_b103_101_103 hcs) hZ (own_w hw 124 rfl) (own_w hw 63 rfl) (by decide) (by decide)) q112a q112c (g := (mkF m 65 #[.val (.ref arr), .val (.ref stt), .val (.ref c2), .val (.ref b101), .val (.ref arr), .val (.int 3), .val (.int 0), .val (.ref o0)] [(.ref s110), (.ref b101)])) rfl (by rw [hml]; rfl) (Steps.refl _) (argsL := [(.ref s110)]) (rest := []) (lenOf pdFf2s_4 rfl) rfl (by show 2 * 0 + _ ≤ _; exact Nat.le_of_eq rfl) (hb hby dFf1f_65) (fun _ _ => ⟨rfl, e110, (by decide : 4 + 0 ≤ _), (by decide : 24 + 0 ≤ _)⟩)
  dsimp only [Pt.U, Pt.locs, Pt.cells, Pt.slots] at X112 l112 y112 z112 st112 hQ112
  subst l112 y112 z112
  obtain ⟨rfl, N112q, K112, g112_0, g112_1, g112_2, g112_3, g112_4⟩ := hQ112
  have F113_coder_s110 := Fc110.keep K112 (ninS (Ne.symm ne_b101_s110) (ninS (Ne.symm ne_b103_101_103_s110) nin0))
  have F113_value_s110 := Fv110.keep K112 (ninS (Ne.symm ne_b101_s110) (ninS (Ne.symm ne_b103_101_103_s110) nin0))
  have E113_b101 := E111_b101.keep K112
  have E113_s110 := E110.keep K112
  have V113_b110 := V110.keep K112 (ninS (Ne.symm ne_b101_b110) (ninS (Ne.symm ne_b103_101_103_b110) nin0))
  have Z113 := Nat.le_trans Z111 K112.1
  have hk113 := Nat.le_trans hk110 K112.1
  have K113 : Keep h0 T112.heap [] := Keep.trans K111 K112 (allS (Or.inr sz_b101) (allS (Or.inr sz_b103_101_103) all0))
  have SF113_b101 := Safe.keep K112 (sfS SF110_b101 (sfS SF110_b103_101_103 sf0)) CR110.1 SF110_b101
  have SF113_b103_101_103 := Safe.keep K112 (sfS SF110_b101 (sfS SF110_b103_101_103 sf0)) CR110.1 SF110_b103_101_103
  have CR113 := CHr.trans CR110 (CHr.keep K112 (sfS SF110_b101 (sfS SF110_b103_101_103 sf0)) CR110.1)
  have N112 := Fr.app N109 N112q
  obtain ⟨cq114, kq114, q114a, q114b, q114c⟩ := isOf hZ rfl (E0_o0.keep K113)
  obtain ⟨_, _, ⟨T114, L114, k114, n114⟩, -, X114, ⟨Lc114, hQ114, l114, y114, z114⟩, st114⟩ := X112.interfaceBack hx (xi := (⟨"com/example/lotbook/lotbook/Flag", "code", "()Ljava/lang/String;"⟩ : MethodName)) (y := (⟨"com/example/lotbook/lotbook/AccountStatus", "code", "()Ljava/lang/String;"⟩ : MethodName)) hown (mvT hZ (own_w hw 79 rfl)) (mvT hZ (own_w hw 80 rfl)) (mvT hZ (own_w hw 81 rfl)) (mvT hZ (own_w hw 82 rfl)) (mvT hZ (own_w hw 83 rfl)) (mvT hZ (own_w hw 84 rfl)) (mvT hZ (own_w hw 85 rfl)) (mvT hZ (own_w hw 86 rfl)) (by decide) (backOf (W := 1) (rmSc l Z a0 hw [] o0 c0 T112.heap n0 Z113 (E0_o0.keep K113) (F0_o0_code.keep K113 nin0)) hZ (own_w hw 87 rfl) (own_w hw 3 rfl) (by decide) (by decide)) q114a q114b q114c (g := (mkF m 70 #[.val (.ref arr), .val (.ref stt), .val (.ref c2), .val (.ref b101), .val (.ref arr), .val (.int 3), .val (.int 0), .val (.ref o0)] [(.ref o0), (.ref b101)])) rfl (by rw [hml]; rfl) (Steps.refl _) (argsL := []) (rest := [(.ref b101)]) (lenOf pdFf2s_1 rfl) rfl (by show 2 * 0 + _ ≤ _; exact Nat.le_of_eq rfl) (hb hby dFf1f_70) (fun _ _ => ⟨rfl, rfl, (by decide : 4 + 0 ≤ _), (by decide : 24 + 0 ≤ _)⟩)
  dsimp only [Pt.U, Pt.locs, Pt.cells, Pt.slots] at X114 l114 y114 z114 st114 hQ114
  subst l114 y114 z114
  obtain ⟨rfl, N114q, eh114⟩ := hQ114
  have N114 := Fr.app N112 N114q
  obtain ⟨cq115, kq115, q115a, q115b, q115c⟩ := isOf hZ eh114 g112_0
  obtain ⟨_, _, ⟨T115, L115, k115, n115⟩, -, X115, ⟨Lc115, hQ115, l115, y115, z115⟩, st115⟩ := X114.virtualBack hx (y := (⟨"java/lang/StringBuilder", "append", "(Ljava/lang/String;)Ljava/lang/StringBuilder;"⟩ : MethodName)) (z := (⟨"java/lang/StringBuilder", "append", "(Ljava/lang/String;)Ljava/lang/StringBuilder;"⟩ : MethodName)) hown (mvT hZ (own_w hw 120 rfl)) (mvT hZ (own_w hw 121 rfl)) (notFace_of_selects (args := #[]) (mvT hZ (own_w hw 123 rfl))) (mvT hZ (own_w hw 123 rfl)) (mvT hZ (own_w hw 122 rfl)) (by decide) (backOf (W := 0) (rmBa1 l Z a0 hw [] b101 c0 b103_101_103 w0 kc_w0 k103_101_103 (0 : Int32) (0 : Int32) (0 : Int32) (0 : Int32) (0 : Int32) (0 : Int32) (0 : Int32) (0 : Int32) (0 : Int32) (0 : Int32) (0 : Int32) (0 : Int32) (0 : Int32) (0 : Int32) (0 : Int32) (0 : Int32) cs T112.heap n0 Z113 g112_0 g112_1 g112_2 g112_3 (E0_c0.keep K113) (F0_c0_coder.keep K113 nin0) (F0_c0_value.keep K113 nin0) (V0_w0.keep K113 nin0) g112_4 (own_nlt F101_value.lt szc_b103_101_103) (own_nlt (V0_w0.keep K102 nin0).lt szc_b103_101_103) (Ne.symm (own_nlt V0_w0.lt (Nat.le_of_eq g101.symm))) (Ne.symm (own_nlt F0_c0_coder.lt (Nat.le_of_eq g101.symm))) (own_nlt (F0_c0_coder.keep K102 nin0).lt szc_b103_101_103) (own_stakeep S0_COMPACT_STRINGS K113 all0) ge_b101 ge_b103_101_103 hcs) hZ (own_w hw 124 rfl) (own_w hw 63 rfl) (by decide) (by decide)) q115a q115c (g := (mkF m 75 #[.val (.ref arr), .val (.ref stt), .val (.ref c2), .val (.ref b101), .val (.ref arr), .val (.int 3), .val (.int 0), .val (.ref o0)] [(.ref c0), (.ref b101)])) rfl (by rw [hml]; rfl) (Steps.refl _) (argsL := [(.ref c0)]) (rest := []) (lenOf pdFf2s_4 rfl) rfl (by show 2 * 0 + _ ≤ _; exact Nat.le_of_eq rfl) (hb hby dFf1f_75) (fun _ _ => ⟨rfl, eh114, (by decide : 4 + 0 ≤ _), (by decide : 24 + 0 ≤ _)⟩)
  dsimp only [Pt.U, Pt.locs, Pt.cells, Pt.slots] at X115 l115 y115 z115 st115 hQ115
  subst l115 y115 z115
  obtain ⟨rfl, N115q, K115, g115_0, g115_1, g115_2, g115_3, g115_4⟩ := hQ115
  have F116_coder_s110 := F113_coder_s110.keep K115 (ninS (Ne.symm ne_b101_s110) (ninS (Ne.symm ne_b103_101_103_s110) nin0))
  have F116_value_s110 := F113_value_s110.keep K115 (ninS (Ne.symm ne_b101_s110) (ninS (Ne.symm ne_b103_101_103_s110) nin0))
  have E116_b101 := g112_0.keep K115
  have E116_s110 := E113_s110.keep K115
  have V116_b110 := V113_b110.keep K115 (ninS (Ne.symm ne_b101_b110) (ninS (Ne.symm ne_b103_101_103_b110) nin0))
  have Z116 := Nat.le_trans Z113 K115.1
  have hk116 := Nat.le_trans hk113 K115.1
  have K116 : Keep h0 T115.heap [] := Keep.trans K113 K115 (allS (Or.inr sz_b101) (allS (Or.inr sz_b103_101_103) all0))
  have SF116_b101 := Safe.keep K115 (sfS SF113_b101 (sfS SF113_b103_101_103 sf0)) CR113.1 SF113_b101
  have SF116_b103_101_103 := Safe.keep K115 (sfS SF113_b101 (sfS SF113_b103_101_103 sf0)) CR113.1 SF113_b103_101_103
  have CR116 := CHr.trans CR113 (CHr.keep K115 (sfS SF113_b101 (sfS SF113_b103_101_103 sf0)) CR113.1)
  have N115 := Fr.app N114 N115q
  obtain ⟨cl_q117, Ar_q117, q1_q117, S_q117, N_q117, H_q117, G_q117⟩ := id (V0_arr.keep K116 nin0)
  have hin_q117 := own_ib S_q117 (1 : Int32) (by decide)
  have hat_q117 : cl_q117.slots[((1 : Int32)).toNatClampNeg]? = some (.ref o1) := Has.at H_q117 hin_q117 rfl
  obtain ⟨cq118, kq118, q118a, q118b, q118c⟩ := isOf hZ rfl (E0_o1.keep K116)
  obtain ⟨_, _, ⟨T118, L118, k118, n118⟩, -, X118, ⟨Lc118, hQ118, l118, y118, z118⟩, st118⟩ := X115.interfaceBack hx (xi := (⟨"com/example/lotbook/lotbook/Flag", "code", "()Ljava/lang/String;"⟩ : MethodName)) (y := (⟨"com/example/lotbook/lotbook/AccountStatus", "code", "()Ljava/lang/String;"⟩ : MethodName)) hown (mvT hZ (own_w hw 79 rfl)) (mvT hZ (own_w hw 80 rfl)) (mvT hZ (own_w hw 81 rfl)) (mvT hZ (own_w hw 82 rfl)) (mvT hZ (own_w hw 83 rfl)) (mvT hZ (own_w hw 84 rfl)) (mvT hZ (own_w hw 85 rfl)) (mvT hZ (own_w hw 86 rfl)) (by decide) (backOf (W := 0) (rmSc l Z a0 hw [] o1 c1 T115.heap n0 Z116 (E0_o1.keep K116) (F0_o1_code.keep K116 nin0)) hZ (own_w hw 87 rfl) (own_w hw 3 rfl) (by decide) (by decide)) q118a q118b q118c (g := (mkF m 35 #[.val (.ref arr), .val (.ref stt), .val (.ref c2), .val (.ref b101), .val (.ref arr), .val (.int 3), .val (.int 1), .val (.ref o1)] [(.ref o1)])) rfl (by rw [hml]; rfl) (Steps.refl _) (argsL := []) (rest := []) (lenOf pdFf2s_1 rfl) rfl (by show 2 * 0 + _ ≤ _; exact Nat.le_of_eq rfl) (hb hby dFf0f_35) (fun _ _ => ⟨rfl, rfl, (by decide : 4 + 0 ≤ _), (by decide : 24 + 0 ≤ _)⟩)
  dsimp only [Pt.U, Pt.locs, Pt.cells, Pt.slots] at X118 l118 y118 z118 st118 hQ118
  subst l118 y118 z118
  obtain ⟨rfl, N118q, eh118⟩ := hQ118
  have N118 := Fr.app N115 N118q
  obtain ⟨cq119, kq119, q119a, q119b, q119c⟩ := isOf hZ eh118 (E0_c1.keep K116)
  obtain ⟨_, _, ⟨T119, L119, k119, n119⟩, -, X119, ⟨Lc119, hQ119, l119, y119, z119⟩, st119⟩ := X118.virtualBack hx (y := (⟨"java/lang/String", "equals", "(Ljava/lang/Object;)Z"⟩ : MethodName)) (z := (⟨"java/lang/String", "equals", "(Ljava/lang/Object;)Z"⟩ : MethodName)) hown (mvT hZ (own_w hw 90 rfl)) (mvT hZ (own_w hw 91 rfl)) (notFace_of_selects (args := #[]) (mvT hZ (own_w hw 93 rfl))) (mvT hZ (own_w hw 93 rfl)) (mvT hZ (own_w hw 92 rfl)) (by decide) (backOf (W := 0) (rmEq12 l Z a0 hw [] c1 c2 w1 w2 kc_w1 kc_w2 cs T115.heap n0 Z116 (E0_c1.keep K116) (F0_c1_coder.keep K116 nin0) (F0_c1_value.keep K116 nin0) (E0_c2.keep K116) (F0_c2_coder.keep K116 nin0) (F0_c2_value.keep K116 nin0) (V0_w1.keep K116 nin0) (V0_w2.keep K116 nin0) ne0_c1_c2 (own_stakeep S0_COMPACT_STRINGS K116 all0) hcs) hZ (own_w hw 94 rfl) (own_w hw 7 rfl) (by decide) (by decide)) q119a q119c (g := (mkF m 41 #[.val (.ref arr), .val (.ref stt), .val (.ref c2), .val (.ref b101), .val (.ref arr), .val (.int 3), .val (.int 1), .val (.ref o1)] [(.ref c2), (.ref c1)])) rfl (by rw [hml]; rfl) (Steps.refl _) (argsL := [(.ref c2)]) (rest := []) (lenOf pdFf2s_2 rfl) rfl (by show 2 * 0 + _ ≤ _; exact Nat.le_of_eq rfl) (hb hby dFf0f_41) (fun _ _ => ⟨rfl, eh118, (by decide : 4 + 0 ≤ _), (by decide : 24 + 0 ≤ _)⟩)
  dsimp only [Pt.U, Pt.locs, Pt.cells, Pt.slots] at X119 l119 y119 z119 st119 hQ119
  subst l119 y119 z119
  obtain ⟨rfl, N119q, eh119⟩ := hQ119
  have N119 := Fr.app N118 N119q
  obtain ⟨cq120, kq120, q120a, q120b, q120c⟩ := isOf hZ eh119 g115_0
  obtain ⟨_, _, ⟨T120, L120, k120, n120⟩, -, X120, ⟨Lc120, hQ120, l120, y120, z120⟩, st120⟩ := X119.virtualBack hx (y := (⟨"java/lang/StringBuilder", "length", "()I"⟩ : MethodName)) (z := (⟨"java/lang/StringBuilder", "length", "()I"⟩ : MethodName)) hown (mvT hZ (own_w hw 107 rfl)) (mvT hZ (own_w hw 108 rfl)) (notFace_of_selects (args := #[]) (mvT hZ (own_w hw 110 rfl))) (mvT hZ (own_w hw 110 rfl)) (mvT hZ (own_w hw 109 rfl)) (by decide) (backOf (W := 1) (rmBl l Z a0 hw [] b101 (6 : Int32) T115.heap n0 Z116 g115_0 g115_3) hZ (own_w hw 111 rfl) (own_w hw 63 rfl) (by decide) (by decide)) q120a q120c (g := (mkF m 52 #[.val (.ref arr), .val (.ref stt), .val (.ref c2), .val (.ref b101), .val (.ref arr), .val (.int 3), .val (.int 1), .val (.ref o1)] [(.ref b101), (.ref b101)])) rfl (by rw [hml]; rfl) (Steps.refl _) (argsL := []) (rest := [(.ref b101)]) (lenOf pdFf2s_3 rfl) rfl (by show 2 * 0 + _ ≤ _; exact Nat.le_of_eq rfl) (hb hby dFf1f_52) (fun _ _ => ⟨rfl, eh119, (by decide : 4 + 0 ≤ _), (by decide : 24 + 0 ≤ _)⟩)
  dsimp only [Pt.U, Pt.locs, Pt.cells, Pt.slots] at X120 l120 y120 z120 st120 hQ120
  subst l120 y120 z120
  obtain ⟨rfl, N120q, eh120⟩ := hQ120
  have N120 := Fr.app N119 N120q
  refine GoC.by (fun _ kont => st110 _ (XS.goto X110.here hx rfl (pc0 := 60) (pc' := 65) rfl (hb hby dFf1f_60) (by decide) (by decide) (st112.trans (XS.aload X112.here hx rfl (hb hby dFf1f_68) rfl rfl (st114.trans (st115.trans (XS.pop X115.here hx rfl (hb hby dFf1f_78) rfl rfl (XS.iinc X115.here hx rfl (hb hby dFf1f_79) rfl (l' := #[.val (.ref arr), .val (.ref stt), .val (.ref c2), .val (.ref b101), .val (.ref arr), .val (.int 3), .val (.int 1), .val (.ref o0)]) rfl (XS.goto X115.here hx rfl (pc0 := 82) (pc' := 19) rfl (hb hby dFf1f_82) (by decide) (by decide) (XS.iload X115.here hx rfl (hb hby dFf0f_19) rfl (XS.iload X115.here hx rfl (hb hby dFf0f_21) rfl (XS.icmpNo X115.here hx rfl (hb hby dFf0f_23) rfl (by decide) (XS.aload X115.here hx rfl (hb hby dFf0f_26) rfl rfl (XS.iload X115.here hx rfl (hb hby dFf0f_28) rfl (X115.aaload hx (j := (1 : Int32)) (v := (.ref o1)) (own_at rfl Ar_q117.1) (State.isArrayOf_alike hZ.alike Ar_q117.2.1) rfl Ar_q117.2.2 hin_q117 hat_q117 (g := (mkF m 30 #[.val (.ref arr), .val (.ref stt), .val (.ref c2), .val (.ref b101), .val (.ref arr), .val (.int 3), .val (.int 1), .val (.ref o0)] [(.int 1), (.ref arr)])) rfl rfl (hb hby dFf0f_30) _ (XS.astore X115.here hx rfl (hb hby dFf0f_31) rfl rfl (l' := #[.val (.ref arr), .val (.ref stt), .val (.ref c2), .val (.ref b101), .val (.ref arr), .val (.int 3), .val (.int 1), .val (.ref o1)]) rfl (XS.aload X115.here hx rfl (hb hby dFf0f_33) rfl rfl (st118.trans (XS.aloadN X118.here hx rfl (hb hby dFf0f_40) rfl rfl (st119.trans (XS.ifYes X119.here hx rfl (pc0 := 44) (pc' := 50) rfl (hb hby dFf0f_44) rfl (by decide) (by decide) (by decide) (XS.aloadN X119.here hx rfl (hb hby dFf1f_50) rfl rfl (XS.aloadN X119.here hx rfl (hb hby dFf1f_51) rfl rfl (st120.trans (XS.ifYes X120.here hx rfl (pc0 := 55) (pc' := 63) rfl (hb hby dFf1f_55) rfl (by decide) (by decide) (by decide) kont))))))))))))))))))))))))) ?_
  show GoC _ _ _ _ _ _ _ _ (T120.setTop (mkF m 63 #[.val (.ref arr), .val (.ref stt), .val (.ref c2), .val (.ref b101), .val (.ref arr), .val (.int 3), .val (.int 1), .val (.ref o1)] [(.ref b101)]))
  obtain ⟨s121, T121, h121, k121, b121, kc121, X121, e121, X_121, hS, hk121, hZ, hown, E121, Fc121, Fv121, V121, -, -, C121, -, hne121, st121⟩ := ldcCH X120 hx hZ hown (own_w hw 164 rfl) hstr eh120 hS hk116 hEL (by simp [own_EL]) CR116.1 (vs := [(.int 32), (.int 111), (.int 114), (.int 32)]) (z := 4) (by decide) (by decide) rfl (g := (mkF m 63 #[.val (.ref arr), .val (.ref stt), .val (.ref c2), .val (.ref b101), .val (.ref arr), .val (.int 3), .val (.int 1), .val (.ref o1)] [(.ref b101)])) rfl (hb hby dFf2f_63) (n := 16) (by decide) (by decide) (by decide) (by decide)
  have CR121 := CHr.trans CR116 C121
  have SF121_b101 := C121.safe g115_0.lt SF116_b101
  have ne_b101_s121 := (hne121 b101 SF121_b101).1
  have ne_b101_b121 := (hne121 b101 SF121_b101).2
  have SF121_b103_101_103 := C121.safe g115_4.lt SF116_b103_101_103
  have ne_b103_101_103_s121 := (hne121 b103_101_103 SF121_b103_101_103).1
  have ne_b103_101_103_b121 := (hne121 b103_101_103 SF121_b103_101_103).2
  have F122_coder_s110 := F116_coder_s110.ext X_121
  have F122_value_s110 := F116_value_s110.ext X_121
  have F122_value_b101 := g115_1.ext X_121
  have F122_coder_b101 := g115_2.ext X_121
  have F122_count_b101 := g115_3.ext X_121
  have E122_b101 := g115_0.ext X_121
  have E122_s110 := E116_s110.ext X_121
  have V122_b110 := V116_b110.ext X_121
  have V122_b103_101_103 := g115_4.ext X_121
  have Z122 := Nat.le_trans Z116 X_121.1
  have hk122 := Nat.le_trans hk116 X_121.1
  have K122 : Keep h0 h121 [] := K116.ext X_121
  obtain ⟨cq123, kq123, q123a, q123b, q123c⟩ := isOf hZ e121 E122_b101
  obtain ⟨_, _, ⟨T123, L123, k123, n123⟩, -, X123, ⟨Lc123, hQ123, l123, y123, z123⟩, st123⟩ := X121.virtualBack hx (y := (⟨"java/lang/StringBuilder", "append", "(Ljava/lang/String;)Ljava/lang/StringBuilder;"⟩ : MethodName)) (z := (⟨"java/lang/StringBuilder", "append", "(Ljava/lang/String;)Ljava/lang/StringBuilder;"⟩ : MethodName)) hown (mvT hZ (own_w hw 120 rfl)) (mvT hZ (own_w hw 121 rfl)) (notFace_of_selects (args := #[]) (mvT hZ (own_w hw 123 rfl))) (mvT hZ (own_w hw 123 rfl)) (mvT hZ (own_w hw 122 rfl)) (by decide) (backOf (W := 0) (rmBa2 l Z a0 hw [] b101 s121 b103_101_103 b121 kc121 k103_101_103 (110 : Int32) (111 : Int32) (114 : Int32) (109 : Int32) (97 : Int32) (108 : Int32) (0 : Int32) (0 : Int32) (0 : Int32) (0 : Int32) (0 : Int32) (0 : Int32) (0 : Int32) (0 : Int32) (0 : Int32) (0 : Int32) cs h121 n0 Z122 E122_b101 F122_value_b101 F122_coder_b101 F122_count_b101 E121 Fc121 Fv121 V121 V122_b103_101_103 (own_nlt F101_value.lt szc_b103_101_103) (Ne.symm ne_b103_101_103_b121) ne_b101_b121 ne_b101_s121 (Ne.symm ne_b103_101_103_s121) (own_stakeep S0_COMPACT_STRINGS K122 all0) ge_b101 ge_b103_101_103 hcs) hZ (own_w hw 124 rfl) (own_w hw 63 rfl) (by decide) (by decide)) q123a q123c (g := (mkF m 65 #[.val (.ref arr), .val (.ref stt), .val (.ref c2), .val (.ref b101), .val (.ref arr), .val (.int 3), .val (.int 1), .val (.ref o1)] [(.ref s121), (.ref b101)])) rfl (by rw [hml]; rfl) (Steps.refl _) (argsL := [(.ref s121)]) (rest := []) (lenOf pdFf2s_4 rfl) rfl (by show 2 * 0 + _ ≤ _; exact Nat.le_of_eq rfl) (hb hby dFf1f_65) (fun _ _ => ⟨rfl, e121, (by decide : 6 + 0 ≤ _), (by decide : 44 + 0 ≤ _)⟩)
  dsimp only [Pt.U, Pt.locs, Pt.cells, Pt.slots] at X123 l123 y123 z123 st123 hQ123
  subst l123 y123 z123
  obtain ⟨rfl, N123q, K123, g123_0, g123_1, g123_2, g123_3, g123_4⟩ := hQ123
  have F124_coder_s110 := F122_coder_s110.keep K123 (ninS (Ne.symm ne_b101_s110) (ninS (Ne.symm ne_b103_101_103_s110) nin0))
  have F124_value_s110 := F122_value_s110.keep K123 (ninS (Ne.symm ne_b101_s110) (ninS (Ne.symm ne_b103_101_103_s110) nin0))
  have F124_coder_s121 := Fc121.keep K123 (ninS (Ne.symm ne_b101_s121) (ninS (Ne.symm ne_b103_101_103_s121) nin0))
  have F124_value_s121 := Fv121.keep K123 (ninS (Ne.symm ne_b101_s121) (ninS (Ne.symm ne_b103_101_103_s121) nin0))
  have E124_b101 := E122_b101.keep K123
  have E124_s110 := E122_s110.keep K123
  have E124_s121 := E121.keep K123
  have V124_b110 := V122_b110.keep K123 (ninS (Ne.symm ne_b101_b110) (ninS (Ne.symm ne_b103_101_103_b110) nin0))
  have V124_b121 := V121.keep K123 (ninS (Ne.symm ne_b101_b121) (ninS (Ne.symm ne_b103_101_103_b121) nin0))
  have Z124 := Nat.le_trans Z122 K123.1
  have hk124 := Nat.le_trans hk121 K123.1
  have K124 : Keep h0 T123.heap [] := Keep.trans K122 K123 (allS (Or.inr sz_b101) (allS (Or.inr sz_b103_101_103) all0))
  have SF124_b101 := Safe.keep K123 (sfS SF121_b101 (sfS SF121_b103_101_103 sf0)) CR121.1 SF121_b101
  have SF124_b103_101_103 := Safe.keep K123 (sfS SF121_b101 (sfS SF121_b103_101_103 sf0)) CR121.1 SF121_b103_101_103
  have CR124 := CHr.trans CR121 (CHr.keep K123 (sfS SF121_b101 (sfS SF121_b103_101_103 sf0)) CR121.1)
  have N123 := Fr.app N120 N123q
  obtain ⟨cq125, kq125, q125a, q125b, q125c⟩ := isOf hZ rfl (E0_o1.keep K124)
  obtain ⟨_, _, ⟨T125, L125, k125, n125⟩, -, X125, ⟨Lc125, hQ125, l125, y125, z125⟩, st125⟩ := X123.interfaceBack hx (xi := (⟨"com/example/lotbook/lotbook/Flag", "code", "()Ljava/lang/String;"⟩ : MethodName)) (y := (⟨"com/example/lotbook/lotbook/AccountStatus", "code", "()Ljava/lang/String;"⟩ : MethodName)) hown (mvT hZ (own_w hw 79 rfl)) (mvT hZ (own_w hw 80 rfl)) (mvT hZ (own_w hw 81 rfl)) (mvT hZ (own_w hw 82 rfl)) (mvT hZ (own_w hw 83 rfl)) (mvT hZ (own_w hw 84 rfl)) (mvT hZ (own_w hw 85 rfl)) (mvT hZ (own_w hw 86 rfl)) (by decide) (backOf (W := 1) (rmSc l Z a0 hw [] o1 c1 T123.heap n0 Z124 (E0_o1.keep K124) (F0_o1_code.keep K124 nin0)) hZ (own_w hw 87 rfl) (own_w hw 3 rfl) (by decide) (by decide)) q125a q125b q125c (g := (mkF m 70 #[.val (.ref arr), .val (.ref stt), .val (.ref c2), .val (.ref b101), .val (.ref arr), .val (.int 3), .val (.int 1), .val (.ref o1)] [(.ref o1), (.ref b101)])) rfl (by rw [hml]; rfl) (Steps.refl _) (argsL := []) (rest := [(.ref b101)]) (lenOf pdFf2s_1 rfl) rfl (by show 2 * 0 + _ ≤ _; exact Nat.le_of_eq rfl) (hb hby dFf1f_70) (fun _ _ => ⟨rfl, rfl, (by decide : 6 + 0 ≤ _), (by decide : 44 + 0 ≤ _)⟩)
  dsimp only [Pt.U, Pt.locs, Pt.cells, Pt.slots] at X125 l125 y125 z125 st125 hQ125
  subst l125 y125 z125
  obtain ⟨rfl, N125q, eh125⟩ := hQ125
  have N125 := Fr.app N123 N125q
  obtain ⟨cq126, kq126, q126a, q126b, q126c⟩ := isOf hZ eh125 g123_0
  obtain ⟨_, _, ⟨T126, L126, k126, n126⟩, -, X126, ⟨Lc126, hQ126, l126, y126, z126⟩, st126⟩ := X125.virtualBack hx (y := (⟨"java/lang/StringBuilder", "append", "(Ljava/lang/String;)Ljava/lang/StringBuilder;"⟩ : MethodName)) (z := (⟨"java/lang/StringBuilder", "append", "(Ljava/lang/String;)Ljava/lang/StringBuilder;"⟩ : MethodName)) hown (mvT hZ (own_w hw 120 rfl)) (mvT hZ (own_w hw 121 rfl)) (notFace_of_selects (args := #[]) (mvT hZ (own_w hw 123 rfl))) (mvT hZ (own_w hw 123 rfl)) (mvT hZ (own_w hw 122 rfl)) (by decide) (backOf (W := 0) (rmBa3 l Z a0 hw [] b101 c1 b103_101_103 w1 kc_w1 k103_101_103 (110 : Int32) (111 : Int32) (114 : Int32) (109 : Int32) (97 : Int32) (108 : Int32) (32 : Int32) (111 : Int32) (114 : Int32) (32 : Int32) (0 : Int32) (0 : Int32) (0 : Int32) (0 : Int32) (0 : Int32) (0 : Int32) cs T123.heap n0 Z124 g123_0 g123_1 g123_2 g123_3 (E0_c1.keep K124) (F0_c1_coder.keep K124 nin0) (F0_c1_value.keep K124 nin0) (V0_w1.keep K124 nin0) g123_4 (own_nlt F101_value.lt szc_b103_101_103) (own_nlt (V0_w1.keep K102 nin0).lt szc_b103_101_103) (Ne.symm (own_nlt V0_w1.lt (Nat.le_of_eq g101.symm))) (Ne.symm (own_nlt F0_c1_coder.lt (Nat.le_of_eq g101.symm))) (own_nlt (F0_c1_coder.keep K102 nin0).lt szc_b103_101_103) (own_stakeep S0_COMPACT_STRINGS K124 all0) ge_b101 hcs) hZ (own_w hw 124 rfl) (own_w hw 63 rfl) (by decide) (by decide)) q126a q126c (g := (mkF m 75 #[.val (.ref arr), .val (.ref stt), .val (.ref c2), .val (.ref b101), .val (.ref arr), .val (.int 3), .val (.int 1), .val (.ref o1)] [(.ref c1), (.ref b101)])) rfl (by rw [hml]; rfl) (Steps.refl _) (argsL := [(.ref c1)]) (rest := []) (lenOf pdFf2s_4 rfl) rfl (by show 2 * 0 + _ ≤ _; exact Nat.le_of_eq rfl) (hb hby dFf1f_75) (fun _ _ => ⟨rfl, eh125, (by decide : 6 + 1 ≤ _), (by decide : 44 + 34 ≤ _)⟩)
  dsimp only [Pt.U, Pt.locs, Pt.cells, Pt.slots] at X126 l126 y126 z126 st126 hQ126
  subst l126 y126 z126
  obtain ⟨b102_107_103_101_126, k102_107_103_101_126, rfl, N126q, K126, g126_0, g126_1, g126_2, g126_3, ge_b102_107_103_101_126, szc_b102_107_103_101_126, g126_4⟩ := hQ126
  have sz_b102_107_103_101_126 : h0.size ≤ b102_107_103_101_126 := Nat.le_trans K124.1 szc_b102_107_103_101_126
  have SF_b102_107_103_101_126 := own_snew CR124 szc_b102_107_103_101_126
  have F127_coder_s110 := F124_coder_s110.keep K126 (ninS (Ne.symm ne_b101_s110) nin0)
  have F127_value_s110 := F124_value_s110.keep K126 (ninS (Ne.symm ne_b101_s110) nin0)
  have F127_coder_s121 := F124_coder_s121.keep K126 (ninS (Ne.symm ne_b101_s121) nin0)
  have F127_value_s121 := F124_value_s121.keep K126 (ninS (Ne.symm ne_b101_s121) nin0)
  have E127_b101 := g123_0.keep K126
  have E127_s110 := E124_s110.keep K126
  have E127_s121 := E124_s121.keep K126
  have V127_b110 := V124_b110.keep K126 (ninS (Ne.symm ne_b101_b110) nin0)
  have V127_b121 := V124_b121.keep K126 (ninS (Ne.symm ne_b101_b121) nin0)
  have V127_b103_101_103 := g123_4.keep K126 (ninS (Ne.symm (own_nlt F101_value.lt szc_b103_101_103)) nin0)
  have Z127 := Nat.le_trans Z124 K126.1
  have hk127 := Nat.le_trans hk124 K126.1
  have K127 : Keep h0 T126.heap [] := Keep.trans K124 K126 (allS (Or.inr sz_b101) all0)
  have SF127_b101 := Safe.keep K126 (sfS SF124_b101 sf0) CR124.1 SF124_b101
  have SF127_b103_101_103 := Safe.keep K126 (sfS SF124_b101 sf0) CR124.1 SF124_b103_101_103
  have SF127_b102_107_103_101_126 := Safe.keep K126 (sfS SF124_b101 sf0) CR124.1 SF_b102_107_103_101_126
  have CR127 := CHr.trans CR124 (CHr.keep K126 (sfS SF124_b101 sf0) CR124.1)
  have N126 := Fr.app N125 N126q
  obtain ⟨cl_q128, Ar_q128, q1_q128, S_q128, N_q128, H_q128, G_q128⟩ := id (V0_arr.keep K127 nin0)
  have hin_q128 := own_ib S_q128 (2 : Int32) (by decide)
  have hat_q128 : cl_q128.slots[((2 : Int32)).toNatClampNeg]? = some (.ref o2) := Has.at H_q128 hin_q128 rfl
  obtain ⟨cq129, kq129, q129a, q129b, q129c⟩ := isOf hZ rfl (E0_o2.keep K127)
  obtain ⟨_, _, ⟨T129, L129, k129, n129⟩, -, X129, ⟨Lc129, hQ129, l129, y129, z129⟩, st129⟩ := X126.interfaceBack hx (xi := (⟨"com/example/lotbook/lotbook/Flag", "code", "()Ljava/lang/String;"⟩ : MethodName)) (y := (⟨"com/example/lotbook/lotbook/AccountStatus", "code", "()Ljava/lang/String;"⟩ : MethodName)) hown (mvT hZ (own_w hw 79 rfl)) (mvT hZ (own_w hw 80 rfl)) (mvT hZ (own_w hw 81 rfl)) (mvT hZ (own_w hw 82 rfl)) (mvT hZ (own_w hw 83 rfl)) (mvT hZ (own_w hw 84 rfl)) (mvT hZ (own_w hw 85 rfl)) (mvT hZ (own_w hw 86 rfl)) (by decide) (backOf (W := 0) (rmSc l Z a0 hw [] o2 c2 T126.heap n0 Z127 (E0_o2.keep K127) (F0_o2_code.keep K127 nin0)) hZ (own_w hw 87 rfl) (own_w hw 3 rfl) (by decide) (by decide)) q129a q129b q129c (g := (mkF m 35 #[.val (.ref arr), .val (.ref stt), .val (.ref c2), .val (.ref b101), .val (.ref arr), .val (.int 3), .val (.int 2), .val (.ref o2)] [(.ref o2)])) rfl (by rw [hml]; rfl) (Steps.refl _) (argsL := []) (rest := []) (lenOf pdFf2s_1 rfl) rfl (by show 2 * 0 + _ ≤ _; exact Nat.le_of_eq rfl) (hb hby dFf0f_35) (fun _ _ => ⟨rfl, rfl, (by decide : 7 + 0 ≤ _), (by decide : 78 + 0 ≤ _)⟩)
  dsimp only [Pt.U, Pt.locs, Pt.cells, Pt.slots] at X129 l129 y129 z129 st129 hQ129
  subst l129 y129 z129
  obtain ⟨rfl, N129q, eh129⟩ := hQ129
  have N129 := Fr.app N126 N129q
  obtain ⟨cq130, kq130, q130a, q130b, q130c⟩ := isOf hZ eh129 (E0_c2.keep K127)
  obtain ⟨_, _, ⟨T130, L130, k130, n130⟩, -, X130, ⟨Lc130, hQ130, l130, y130, z130⟩, st130⟩ := X129.virtualBack hx (y := (⟨"java/lang/String", "equals", "(Ljava/lang/Object;)Z"⟩ : MethodName)) (z := (⟨"java/lang/String", "equals", "(Ljava/lang/Object;)Z"⟩ : MethodName)) hown (mvT hZ (own_w hw 90 rfl)) (mvT hZ (own_w hw 91 rfl)) (notFace_of_selects (args := #[]) (mvT hZ (own_w hw 93 rfl))) (mvT hZ (own_w hw 93 rfl)) (mvT hZ (own_w hw 92 rfl)) (by decide) (backOf (W := 0) (rmEs l Z a0 hw [] c2 T126.heap n0 Z127 ) hZ (own_w hw 94 rfl) (own_w hw 7 rfl) (by decide) (by decide)) q130a q130c (g := (mkF m 41 #[.val (.ref arr), .val (.ref stt), .val (.ref c2), .val (.ref b101), .val (.ref arr), .val (.int 3), .val (.int 2), .val (.ref o2)] [(.ref c2), (.ref c2)])) rfl (by rw [hml]; rfl) (Steps.refl _) (argsL := [(.ref c2)]) (rest := []) (lenOf pdFf2s_2 rfl) rfl (by show 2 * 0 + _ ≤ _; exact Nat.le_of_eq rfl) (hb hby dFf0f_41) (fun _ _ => ⟨rfl, eh129, (by decide : 7 + 0 ≤ _), (by decide : 78 + 0 ≤ _)⟩)
  dsimp only [Pt.U, Pt.locs, Pt.cells, Pt.slots] at X130 l130 y130 z130 st130 hQ130
  subst l130 y130 z130
  obtain ⟨rfl, N130q, eh130⟩ := hQ130
  have N130 := Fr.app N129 N130q
  refine GoC.by (fun _ kont => st121 _ (st123.trans (XS.aload X123.here hx rfl (hb hby dFf1f_68) rfl rfl (st125.trans (st126.trans (XS.pop X126.here hx rfl (hb hby dFf1f_78) rfl rfl (XS.iinc X126.here hx rfl (hb hby dFf1f_79) rfl (l' := #[.val (.ref arr), .val (.ref stt), .val (.ref c2), .val (.ref b101), .val (.ref arr), .val (.int 3), .val (.int 2), .val (.ref o1)]) rfl (XS.goto X126.here hx rfl (pc0 := 82) (pc' := 19) rfl (hb hby dFf1f_82) (by decide) (by decide) (XS.iload X126.here hx rfl (hb hby dFf0f_19) rfl (XS.iload X126.here hx rfl (hb hby dFf0f_21) rfl (XS.icmpNo X126.here hx rfl (hb hby dFf0f_23) rfl (by decide) (XS.aload X126.here hx rfl (hb hby dFf0f_26) rfl rfl (XS.iload X126.here hx rfl (hb hby dFf0f_28) rfl (X126.aaload hx (j := (2 : Int32)) (v := (.ref o2)) (own_at rfl Ar_q128.1) (State.isArrayOf_alike hZ.alike Ar_q128.2.1) rfl Ar_q128.2.2 hin_q128 hat_q128 (g := (mkF m 30 #[.val (.ref arr), .val (.ref stt), .val (.ref c2), .val (.ref b101), .val (.ref arr), .val (.int 3), .val (.int 2), .val (.ref o1)] [(.int 2), (.ref arr)])) rfl rfl (hb hby dFf0f_30) _ (XS.astore X126.here hx rfl (hb hby dFf0f_31) rfl rfl (l' := #[.val (.ref arr), .val (.ref stt), .val (.ref c2), .val (.ref b101), .val (.ref arr), .val (.int 3), .val (.int 2), .val (.ref o2)]) rfl (XS.aload X126.here hx rfl (hb hby dFf0f_33) rfl rfl (st129.trans (XS.aloadN X129.here hx rfl (hb hby dFf0f_40) rfl rfl (st130.trans (XS.ifNo X130.here hx rfl (hb hby dFf0f_44) rfl (by decide) (XS.aload X130.here hx rfl (hb hby dFf0f_47) rfl rfl kont))))))))))))))))))))) ?_
  show GoC _ _ _ _ _ _ _ _ (T130.setTop (mkF m 49 #[.val (.ref arr), .val (.ref stt), .val (.ref c2), .val (.ref b101), .val (.ref arr), .val (.int 3), .val (.int 2), .val (.ref o2)] [(.ref o2)]))
  refine GoC.retR X130 hS (by rw [eh130]; exact hk127) hZ hEL (by rw [hh, eh130]; exact CR127) hx hret rfl rfl hlk (hb hby dFf0f_49) ?_ (by decide) (by decide)
  show QFf2s Z o2 h0 n0 (some (.ref o2)) T130.heap _
  rw [eh130]
  exact ⟨rfl, N130, K127⟩

theorem pdAf2s_0 : parseMethodDescriptor "()[Lcom/example/lotbook/lotbook/AccountStatus;" = some ⟨[], some (.array (.object "com/example/lotbook/lotbook/AccountStatus"))⟩ := by decide +kernel
theorem pdAf2s_1 : parseMethodDescriptor "([Lcom/example/lotbook/lotbook/Flag;Ljava/lang/String;Ljava/lang/String;)Lcom/example/lotbook/lotbook/Flag;" = some ⟨[(.array (.object "com/example/lotbook/lotbook/Flag")), (.object "java/lang/String"), (.object "java/lang/String")], some (.object "com/example/lotbook/lotbook/Flag")⟩ := by decide +kernel
theorem pnAf2s : plainName "com/example/lotbook/lotbook/AccountStatus" = true := by first | (simp [plainName, overriddenIn]; done) | decide +kernel
theorem efAf2s (m : MethodId) (c2 : Addr) : entryFrame m #[(.ref c2)] 1 = mkF m 0 #[.val (.ref c2)] [] := by first | (simp [entryFrame, mkF, argsToLocals, Value.category]; done) | rfl
def QAf2s (Z : State) (o2 : Addr) (h0 : Heap) (n0 : Nat) (v : Option Value) (h : Heap) (L : List Loc) : Prop := (v = some (.ref o2) ∧ Fr n0 L ∧ Keep h0 h [])
set_option maxRecDepth 65536 in
set_option maxHeartbeats 40000000 in
theorem rmAf2s (l : Launch) (Z : State) (a0 : Array Value) (hw : ∀ d ∈ tables_1, d.before a0 Z = true) (ws : List Jvm.Cond) (c2 : Addr) (o0 : Addr) (c0 : Addr) (o1 : Addr) (c1 : Addr) (o2 : Addr) (w0 : Addr) (w1 : Addr) (w2 : Addr) (vals : Addr) (kc_vals : ClassId) (kc_w0 : ClassId) (kc_w1 : ClassId) (kc_w2 : ClassId) (cs : Int32) (h0 : Heap) (n0 : Nat) (Z0 : n0 ≤ h0.size) (E0_o0 : Exa Z h0 o0 "com/example/lotbook/lotbook/AccountStatus") (F0_o0_code : Fld Z h0 o0 "com/example/lotbook/lotbook/AccountStatus" "code" "Ljava/lang/String;" (.ref c0)) (E0_o1 : Exa Z h0 o1 "com/example/lotbook/lotbook/AccountStatus") (F0_o1_code : Fld Z h0 o1 "com/example/lotbook/lotbook/AccountStatus" "code" "Ljava/lang/String;" (.ref c1)) (E0_o2 : Exa Z h0 o2 "com/example/lotbook/lotbook/AccountStatus") (F0_o2_code : Fld Z h0 o2 "com/example/lotbook/lotbook/AccountStatus" "code" "Ljava/lang/String;" (.ref c2)) (E0_c0 : Exa Z h0 c0 "java/lang/String") (F0_c0_coder : Fld Z h0 c0 "java/lang/String" "coder" "B" (.int 0)) (F0_c0_value : Fld Z h0 c0 "java/lang/String" "value" "[B" (.ref w0)) (E0_c1 : Exa Z h0 c1 "java/lang/String") (F0_c1_coder : Fld Z h0 c1 "java/lang/String" "coder" "B" (.int 0)) (F0_c1_value : Fld Z h0 c1 "java/lang/String" "value" "[B" (.ref w1)) (E0_c2 : Exa Z h0 c2 "java/lang/String") (F0_c2_coder : Fld Z h0 c2 "java/lang/String" "coder" "B" (.int 0)) (F0_c2_value : Fld Z h0 c2 "java/lang/String" "value" "[B" (.ref w2)) (E0_vals : Exa Z h0 vals "[Lcom/example/lotbook/lotbook/AccountStatus;") (V0_vals : Arv Z h0 vals kc_vals (.object "com/example/lotbook/lotbook/AccountStatus") (3 : Int32) [(.ref o0), (.ref o1), (.ref o2)] .null) (V0_w0 : Arv Z h0 w0 kc_w0 .byte (6 : Int32) [(.int 110), (.int 111), (.int 114), (.int 109), (.int 97), (.int 108)] (.int 0)) (V0_w1 : Arv Z h0 w1 kc_w1 .byte (11 : Int32) [(.int 110), (.int 111), (.int 95), (.int 110), (.int 101), (.int 119), (.int 95), (.int 111), (.int 112), (.int 101), (.int 110)] (.int 0)) (V0_w2 : Arv Z h0 w2 kc_w2 .byte (9 : Int32) [(.int 108), (.int 105), (.int 113), (.int 117), (.int 105), (.int 100), (.int 97), (.int 116), (.int 101)] (.int 0)) (ne0_c0_c2 : c0 ≠ c2) (ne0_c1_c2 : c1 ≠ c2) (S0_COMPACT_STRINGS : Sta Z h0 "java/lang/String" "COMPACT_STRINGS" "Z" (.int cs)) (S0__VALUES : Sta Z h0 "com/example/lotbook/lotbook/AccountStatus" "$VALUES" "[Lcom/example/lotbook/lotbook/AccountStatus;" (.ref vals)) (hcs : ¬ (cs = (0 : Int32))) :
    CtC l Z (⟨"com/example/lotbook/lotbook/AccountStatus", "fromCode", "(Ljava/lang/String;)Lcom/example/lotbook/lotbook/AccountStatus;"⟩ : MethodName) prog_2_method_5_code 1 (some (.object "com/example/lotbook/lotbook/AccountStatus")) ws (⟨7, 10, 109, 108⟩ : Room) #[(.ref c2)] h0 (QAf2s Z o2 h0 n0) := by
  refine MetFree.of_bodySF (plainFor_of_name pnAf2s) hisR ?_
  intro p e s m args below meth c s₁ Bd hml hP hK
  obtain ⟨rfl, hZ, hh, hCH⟩ := hP
  obtain ⟨hx, hby, hown, hnm, hlk, hret, X0, e0⟩ := own_stW Bd "com/example/lotbook/lotbook/AccountStatus" rfl hh
  have N0 := Fr.nil n0
  have hS : s.Since s.vm 0 := (State.WarmedH.refl s).since 0
  have hk0 : 0 ≤ h0.size := Nat.zero_le _
  have CR0 : CHr Z own_EL s.vm h0 s.vm h0 := CHr.refl hCH
  show GoC Z p e below s (⟨7, 10, 109, 108⟩ : Room).cells (⟨7, 10, 109, 108⟩ : Room).slots (QAf2s Z o2 h0 n0) (s₁.setTop (entryFrame m #[(.ref c2)] 1))
  rw [efAf2s]
  have hstr : ∀ a ∈ Bundle.stringAtoms, a.before a0 Z = true := by
    intro d hd
    simp only [Bundle.stringAtoms, Bundle.sN, List.mem_cons, List.not_mem_nil, or_false] at hd
    rcases hd with rfl | rfl | rfl | rfl | rfl | rfl | rfl
    · exact (own_w hw 7 rfl)
    · exact (own_w hw 6 rfl)
    · exact (own_w hw 23 rfl)
    · exact (own_w hw 33 rfl)
    · exact (own_w hw 31 rfl)
    · exact (own_w hw 55 rfl)
    · exact (own_w hw 56 rfl)
  have hEL : EW Z a0 own_EL := EW.cons (own_w hw 119 rfl) (by decide) (EW.cons (own_w hw 164 rfl) (by decide) EW.nil)
  obtain ⟨_, _, ⟨T101, L101, k101, n101⟩, -, X101, ⟨Lc101, hQ101, l101, y101, z101⟩, st101⟩ := Jvm.LawKit.callS X0 hx (y := (⟨"com/example/lotbook/lotbook/AccountStatus", "values", "()[Lcom/example/lotbook/lotbook/AccountStatus;"⟩ : MethodName)) hown (mvT hZ (own_w hw 37 rfl)) (mvT hZ (own_w hw 38 rfl)) (mvT hZ (own_w hw 3 rfl)) (mvT hZ (own_w hw 39 rfl)) (by decide) (backOf (W := 0) (rmVa l Z a0 hw [] vals kc_vals o0 o1 o2 h0 n0 Z0 E0_vals V0_vals S0__VALUES) hZ (own_w hw 39 rfl) (own_w hw 3 rfl) (by decide) (by decide)) (g := (mkF m 0 #[.val (.ref c2)] [])) rfl (by rw [hml]; rfl) (argsL := []) (rest := []) (lenOf pdAf2s_0 rfl) rfl (by show 2 * 0 + _ ≤ _; exact Nat.le_of_eq rfl) (hb hby dAf0f_0) (fun _ _ => ⟨rfl, e0, (by decide : 0 + 1 ≤ _), (by decide : 0 + 3 ≤ _)⟩)
  dsimp only [Pt.U, Pt.locs, Pt.cells, Pt.slots] at X101 l101 y101 z101 st101 hQ101
  subst l101 y101 z101
  obtain ⟨b102_101, kc_vals_101, rfl, N101q, K101, ge_b102_101, szc_b102_101, g101_0, g101_1⟩ := hQ101
  have sz_b102_101 : h0.size ≤ b102_101 := Nat.le_trans (Keep.refl h0 []).1 szc_b102_101
  have SF_b102_101 := own_snew CR0 szc_b102_101
  have Z102 := Nat.le_trans Z0 K101.1
  have hk102 := Nat.le_trans hk0 K101.1
  have K102 : Keep h0 T101.heap [] := Keep.trans (Keep.refl h0 []) K101 all0
  have SF102_b102_101 := Safe.keep K101 sf0 CR0.1 SF_b102_101
  have CR102 := CHr.trans CR0 (CHr.keep K101 sf0 CR0.1)
  have N101 := Fr.app N0 N101q
  refine GoC.by (fun _ kont => st101 _ kont) ?_
  show GoC _ _ _ _ _ _ _ _ (T101.setTop (mkF m 3 #[.val (.ref c2)] [(.ref b102_101)]))
  obtain ⟨s103, T103, h103, k103, X103, e103, X_103, hS, hk103, hZ, hown, C103, -, st103⟩ := ldcOH X101 hx hZ hown (own_w hw 54 rfl) hstr rfl hS hk102 hEL CR102.1 (g := (mkF m 3 #[.val (.ref c2)] [(.ref b102_101)])) rfl (hb hby dAf0f_3) (n := 24) (by decide) (by decide) (by decide) (by decide)
  have CR103 := CHr.trans CR102 C103
  have SF103_b102_101 := C103.safe g101_0.lt SF102_b102_101
  have E104_b102_101 := g101_0.ext X_103
  have V104_b102_101 := g101_1.ext X_103
  have Z104 := Nat.le_trans Z102 X_103.1
  have hk104 := Nat.le_trans hk102 X_103.1
  have K104 : Keep h0 h103 [] := K102.ext X_103
  refine GoC.by (fun _ kont => st103 _ (XS.aloadN X103.here hx rfl (hb hby dAf0f_5) rfl rfl kont)) ?_
  show GoC _ _ _ _ _ _ _ _ (T103.setTop (mkF m 6 #[.val (.ref c2)] [(.ref c2), (.ref s103), (.ref b102_101)]))
  obtain ⟨_, _, ⟨T105, L105, k105, n105⟩, -, X105, hS105, hg105, ⟨Lc105, hQ105, l105, y105, z105, C105⟩, st105⟩ := callSS X103 hx (y := (⟨"com/example/lotbook/lotbook/Flag", "fromCode", "([Lcom/example/lotbook/lotbook/Flag;Ljava/lang/String;Ljava/lang/String;)Lcom/example/lotbook/lotbook/Flag;"⟩ : MethodName)) hown (mvT hZ (own_w hw 57 rfl)) (mvT hZ (own_w hw 58 rfl)) (mvT hZ (own_w hw 59 rfl)) (mvT hZ (own_w hw 60 rfl)) (by decide) (backOfSH (W := 0) (rmFf2s l Z a0 hw [] b102_101 s103 c2 o0 c0 o1 c1 o2 w0 w1 w2 kc_vals_101 kc_w0 kc_w1 kc_w2 cs h103 n0 Z104 (E0_o0.keep K104) (F0_o0_code.keep K104 nin0) (E0_o1.keep K104) (F0_o1_code.keep K104 nin0) (E0_o2.keep K104) (F0_o2_code.keep K104 nin0) (E0_c0.keep K104) (F0_c0_coder.keep K104 nin0) (F0_c0_value.keep K104 nin0) (E0_c1.keep K104) (F0_c1_coder.keep K104 nin0) (F0_c1_value.keep K104 nin0) (E0_c2.keep K104) (F0_c2_coder.keep K104 nin0) (F0_c2_value.keep K104 nin0) V104_b102_101 (V0_w0.keep K104 nin0) (V0_w1.keep K104 nin0) (V0_w2.keep K104 nin0) ne0_c0_c2 ne0_c1_c2 (own_stakeep S0_COMPACT_STRINGS K104 all0) hcs) hZ (own_w hw 60 rfl) (own_w hw 59 rfl) (by decide) (by decide) hEL CR103.1) (g := (mkF m 6 #[.val (.ref c2)] [(.ref c2), (.ref s103), (.ref b102_101)])) rfl (by rw [hml]; rfl) (argsL := [(.ref b102_101), (.ref s103), (.ref c2)]) (rest := []) (lenOf pdAf2s_1 rfl) rfl (by show 2 * 0 + _ ≤ _; exact Nat.le_of_eq rfl) (hb hby dAf0f_6) (fun _ _ => ⟨rfl, e103, (by decide : 3 + 7 ≤ _), (by decide : 31 + 78 ≤ _)⟩)
  dsimp only [Pt.U, Pt.locs, Pt.cells, Pt.slots] at X105 hS105 hg105 l105 y105 z105 st105 hQ105 C105
  subst l105 y105 z105
  obtain ⟨X105, hS, hZ, hown⟩ := rebS hS (show _ ≤ T103.heap.size from by rw [e103]; exact hk103) X105 hS105 hg105 hZ hown
  have CR105 := CHr.trans CR103 C105
  obtain ⟨rfl, N105q, K105⟩ := hQ105
  have E106_b102_101 := E104_b102_101.keep K105
  have V106_b102_101 := V104_b102_101.keep K105 nin0
  have Z106 := Nat.le_trans Z104 K105.1
  have K106 : Keep h0 T105.heap [] := Keep.trans K104 K105 all0
  have N105 := Fr.app N101 N105q
  obtain ⟨T107, X107, e107, st107⟩ := castY X105 hx hZ hown (own_w hw 100 rfl) rfl (Ins.self (E0_o2.keep K106)) (g := (mkF m 9 #[.val (.ref c2)] [(.ref o2)])) rfl rfl (hb hby dAf0f_9)
  refine GoC.by (fun _ kont => st105.trans (st107 _ kont)) ?_
  show GoC _ _ _ _ _ _ _ _ (T107.setTop (mkF m 12 #[.val (.ref c2)] [(.ref o2)]))
  refine GoC.retR X107 hS (by rw [e107]; exact (Nat.le_refl _)) hZ hEL (by rw [hh, e107]; exact CR105) hx hret rfl rfl hlk (hb hby dAf0f_12) ?_ (by decide) (by decide)
  show QAf2s Z o2 h0 n0 (some (.ref o2)) T107.heap _
  rw [e107]
  exact ⟨rfl, N105, K106⟩

theorem pd0_0 : parseMethodDescriptor "([C)V" = some ⟨[(.array .char)], none⟩ := by decide +kernel
theorem pd0_1 : parseMethodDescriptor "(Ljava/lang/String;)Lcom/example/lotbook/lotbook/AccountStatus;" = some ⟨[(.object "java/lang/String")], some (.object "com/example/lotbook/lotbook/AccountStatus")⟩ := by decide +kernel
theorem pd0_2 : parseMethodDescriptor "()Ljava/lang/String;" = some ⟨[], some (.object "java/lang/String")⟩ := by decide +kernel
theorem pd0_3 : parseMethodDescriptor "(Ljava/lang/Object;)Z" = some ⟨[(.object "java/lang/Object")], some .boolean⟩ := by decide +kernel
theorem pn0 : plainName "com/example/lotbook/lotbook/AccountStatusFromCodePinLaw" = true := by first | (simp [plainName, overriddenIn]; done) | decide +kernel
theorem ef0 (m : MethodId) (fl : Int32) : entryFrame m #[(.int fl)] maxLocals = mkF m 0 #[.val (.int fl), .unset, .unset, .unset, .unset, .unset, .unset] [] := by first | (simp [entryFrame, mkF, argsToLocals, Value.category, maxLocals]; done) | rfl
def Q0 (Z : State) (h0 : Heap) (n0 : Nat) (v : Option Value) (h : Heap) (L : List Loc) : Prop := v = some (.int 1) ∧ Fr n0 L
set_option maxRecDepth 65536 in
set_option maxHeartbeats 40000000 in
theorem rm0 (l : Launch) (Z : State) (a0 : Array Value) (hw : ∀ d ∈ tables_1, d.before a0 Z = true) (ws : List Jvm.Cond) (fl : Int32) (s_NORMAL : Addr) (s__VALUES : Addr) (s_NO_NEW_OPEN : Addr) (s_LIQUIDATE : Addr) (s_NORMAL_code : Addr) (s_NORMAL_code_value : Addr) (s_NO_NEW_OPEN_code : Addr) (s_NO_NEW_OPEN_code_value : Addr) (s_LIQUIDATE_code : Addr) (s_LIQUIDATE_code_value : Addr) (kc_s__VALUES : ClassId) (kc_s_NORMAL_code_value : ClassId) (kc_s_NO_NEW_OPEN_code_value : ClassId) (kc_s_LIQUIDATE_code_value : ClassId) (cs : Int32) (h0 : Heap) (n0 : Nat) (Z0 : n0 ≤ h0.size) (S_NORMAL : Sta Z h0 "com/example/lotbook/lotbook/AccountStatus" "NORMAL" "Lcom/example/lotbook/lotbook/AccountStatus;" (.ref s_NORMAL)) (S__VALUES : Sta Z h0 "com/example/lotbook/lotbook/AccountStatus" "$VALUES" "[Lcom/example/lotbook/lotbook/AccountStatus;" (.ref s__VALUES)) (S_NO_NEW_OPEN : Sta Z h0 "com/example/lotbook/lotbook/AccountStatus" "NO_NEW_OPEN" "Lcom/example/lotbook/lotbook/AccountStatus;" (.ref s_NO_NEW_OPEN)) (S_LIQUIDATE : Sta Z h0 "com/example/lotbook/lotbook/AccountStatus" "LIQUIDATE" "Lcom/example/lotbook/lotbook/AccountStatus;" (.ref s_LIQUIDATE)) (E_s_NORMAL : Exa Z h0 s_NORMAL "com/example/lotbook/lotbook/AccountStatus") (E_s__VALUES : Exa Z h0 s__VALUES "[Lcom/example/lotbook/lotbook/AccountStatus;") (E_s_NO_NEW_OPEN : Exa Z h0 s_NO_NEW_OPEN "com/example/lotbook/lotbook/AccountStatus") (E_s_LIQUIDATE : Exa Z h0 s_LIQUIDATE "com/example/lotbook/lotbook/AccountStatus") (E_s_NORMAL_code : Exa Z h0 s_NORMAL_code "java/lang/String") (E_s_NORMAL_code_value : Exa Z h0 s_NORMAL_code_value "[B") (E_s_NO_NEW_OPEN_code : Exa Z h0 s_NO_NEW_OPEN_code "java/lang/String") (E_s_NO_NEW_OPEN_code_value : Exa Z h0 s_NO_NEW_OPEN_code_value "[B") (E_s_LIQUIDATE_code : Exa Z h0 s_LIQUIDATE_code "java/lang/String") (F_s_NORMAL_code : Fld Z h0 s_NORMAL "com/example/lotbook/lotbook/AccountStatus" "code" "Ljava/lang/String;" (.ref s_NORMAL_code)) (F_s_NORMAL_code_coder : Fld Z h0 s_NORMAL_code "java/lang/String" "coder" "B" (.int 0)) (F_s_NORMAL_code_value : Fld Z h0 s_NORMAL_code "java/lang/String" "value" "[B" (.ref s_NORMAL_code_value)) (F_s_NO_NEW_OPEN_code : Fld Z h0 s_NO_NEW_OPEN "com/example/lotbook/lotbook/AccountStatus" "code" "Ljava/lang/String;" (.ref s_NO_NEW_OPEN_code)) (F_s_NO_NEW_OPEN_code_coder : Fld Z h0 s_NO_NEW_OPEN_code "java/lang/String" "coder" "B" (.int 0)) (F_s_NO_NEW_OPEN_code_value : Fld Z h0 s_NO_NEW_OPEN_code "java/lang/String" "value" "[B" (.ref s_NO_NEW_OPEN_code_value)) (F_s_LIQUIDATE_code : Fld Z h0 s_LIQUIDATE "com/example/lotbook/lotbook/AccountStatus" "code" "Ljava/lang/String;" (.ref s_LIQUIDATE_code)) (F_s_LIQUIDATE_code_coder : Fld Z h0 s_LIQUIDATE_code "java/lang/String" "coder" "B" (.int 0)) (F_s_LIQUIDATE_code_value : Fld Z h0 s_LIQUIDATE_code "java/lang/String" "value" "[B" (.ref s_LIQUIDATE_code_value)) (V_s__VALUES : Arv Z h0 s__VALUES kc_s__VALUES (.object "com/example/lotbook/lotbook/AccountStatus") (3 : Int32) [(.ref s_NORMAL), (.ref s_NO_NEW_OPEN), (.ref s_LIQUIDATE)] .null) (V_s_NORMAL_code_value : Arv Z h0 s_NORMAL_code_value kc_s_NORMAL_code_value .byte (6 : Int32) [(.int 110), (.int 111), (.int 114), (.int 109), (.int 97), (.int 108)] (.int (0 : Int32))) (V_s_NO_NEW_OPEN_code_value : Arv Z h0 s_NO_NEW_OPEN_code_value kc_s_NO_NEW_OPEN_code_value .byte (11 : Int32) [(.int 110), (.int 111), (.int 95), (.int 110), (.int 101), (.int 119), (.int 95), (.int 111), (.int 112), (.int 101), (.int 110)] (.int (0 : Int32))) (V_s_LIQUIDATE_code_value : Arv Z h0 s_LIQUIDATE_code_value kc_s_LIQUIDATE_code_value .byte (9 : Int32) [(.int 108), (.int 105), (.int 113), (.int 117), (.int 105), (.int 100), (.int 97), (.int 116), (.int 101)] (.int (0 : Int32))) (nn_s_LIQUIDATE_code_s_NORMAL_code : s_LIQUIDATE_code ≠ s_NORMAL_code) (nn_s_LIQUIDATE_code_s_NO_NEW_OPEN_code : s_LIQUIDATE_code ≠ s_NO_NEW_OPEN_code) (nn_s_NORMAL_code_s_NO_NEW_OPEN_code : s_NORMAL_code ≠ s_NO_NEW_OPEN_code) (S_cs : Sta Z h0 "java/lang/String" "COMPACT_STRINGS" "Z" (.int cs)) (hcs : ¬ (cs = (0 : Int32))) (hZh : Z.heap = h0) (hcw : Jvm.Lit.compactW.before a0 Z = true) (hc23 : Jvm.Lit.constHeld Z "com/example/lotbook/lotbook/Flag" 23) (hc25 : Jvm.Lit.constHeld Z "com/example/lotbook/lotbook/Flag" 25) :
    MetFree l x (head1 (Jvm.Cond.code x code maxLocals ret :: ws) room_1) (fun aa_ U_ => aa_ = #[(.int fl)] ∧ Z.Warmed39 U_.vm ∧ U_.heap = h0 ∧ U_.vm = Z.vm) (fun _ _ _ _ _ => True) (fun _ U_ o_ V_ => ∃ v_ L_, o_ = .returned v_ ∧ Q0 Z h0 n0 v_ V_.heap L_ ∧ ReturnedEndW U_ o_ V_ L_ 40 3456) := by
  refine MetFree.of_bodySF (plainFor_of_name pn0) hisR ?_
  intro p e s m args below meth c s₁ Bd hml0 hP hK
  obtain ⟨rfl, hZ, hh, hvm⟩ := hP
  have hx := Bd.exec
  have hby := Bd.bytes
  have hml : c.maxLocals = 7 := hml0
  have hown : s.vm.findClass "com/example/lotbook/lotbook/AccountStatusFromCodePinLaw" = some m.cls := findClass_of_methodNamed Bd.named
  have hnm := (name_of_methodNamed Bd.named Bd.method).1
  have hlk : meth.locks = false := BodyLoose.notSynchronized Bd
  have hret : meth.sig.returnType = (some .boolean) := Bd.returns
  have X0 : Stand p l e room_1 (s.setVm s.vm) m #[(.int fl)] below meth c s₁ [] 0 0 := Stand.of_body Bd
  have e0 : s₁.heap = h0 := by rw [← hh, Bd.state]; rfl
  have N0 := Fr.nil n0
  have hS : s.Since s.vm 0 := (State.WarmedH.refl s).since 0
  have hk0 : 0 ≤ h0.size := Nat.zero_le _
  have IB0 : IB Z s.vm [] := by rw [hvm]; exact IB.start
  show GoW p e below s 40 3456 (Q0 Z h0 n0) (s₁.setTop (entryFrame m #[(.int fl)] maxLocals))
  rw [ef0]
  have hstr : ∀ a ∈ Bundle.stringAtoms, a.before a0 Z = true := by
    intro d hd
    simp only [Bundle.stringAtoms, Bundle.sN, List.mem_cons, List.not_mem_nil, or_false] at hd
    rcases hd with rfl | rfl | rfl | rfl | rfl | rfl | rfl
    · exact (own_w hw 7 rfl)
    · exact (own_w hw 6 rfl)
    · exact (own_w hw 23 rfl)
    · exact (own_w hw 33 rfl)
    · exact (own_w hw 31 rfl)
    · exact (own_w hw 55 rfl)
    · exact (own_w hw 56 rfl)
  have hEL : EW Z a0 own_EL := EW.cons (own_w hw 119 rfl) (by decide) (EW.cons (own_w hw 164 rfl) (by decide) EW.nil)
  have CR0 : CHr Z own_EL s.vm h0 s.vm h0 := CHr.refl (by rw [hvm, ← hZh]; exact CHv.start hEL (by intro q hq; simp only [own_EL, List.mem_cons, List.not_mem_nil, or_false] at hq; rcases hq with rfl | rfl <;> first | exact hc23 | exact hc25) hcw (own_w hw 23 rfl) (own_w hw 6 rfl))
  refine GoW.by (fun _ kont => XS.iloadN X0.here hx rfl (hb hby at_0) rfl (X0.ldcInt hx hown (mvT hZ (own_w hw 0 rfl)) (g := (mkF m 1 #[.val (.int fl), .unset, .unset, .unset, .unset, .unset, .unset] [(.int fl)])) rfl (hb hby at_1) _ (XS.iand X0.here hx rfl (hb hby at_3) rfl (XS.iconst X0.here hx rfl (hb hby at_4) (iremM X0 hx rfl (hb hby at_5) rfl (by decide) (XS.istoreN X0.here hx rfl (hb hby at_6) rfl (l' := #[.val (.int fl), .val (.int ((fl &&& (2147483647 : Int32)) % (3 : Int32))), .unset, .unset, .unset, .unset, .unset]) rfl kont)))))) ?_
  show GoW _ _ _ _ _ _ _ (s₁.setTop (mkF m 7 #[.val (.int fl), .val (.int ((fl &&& (2147483647 : Int32)) % (3 : Int32))), .unset, .unset, .unset, .unset, .unset] []))
  have C_kk := own_e3 fl
  generalize hg_kk : ((fl &&& (2147483647 : Int32)) % (3 : Int32)) = kk at C_kk ⊢
  rcases C_kk with rfl | rfl | rfl
  · show GoW _ _ _ _ _ _ _ (s₁.setTop (mkF m 7 #[.val (.int fl), .val (.int 0), .unset, .unset, .unset, .unset, .unset] []))
    obtain ⟨T101, h101, k101, X101, e101, X_101, A101, st101⟩ := newP X0 hx hZ (own_w hw 1 rfl) e0 (g := (mkF m 13 #[.val (.int fl), .val (.int 0), .unset, .unset, .unset, .unset, .unset] [(.int 6)])) rfl (hb hby at_13) rfl (by decide) (cap := 6) (by decide) (by decide) (by decide) (by decide)
    obtain ⟨b101, g101⟩ : ∃ z, z = h0.size := ⟨_, rfl⟩
    rw [← g101] at A101 st101
    have ge_b101 : n0 ≤ b101 := Nat.le_trans Z0 (Nat.le_of_eq g101.symm)
    have sz_b101 : h0.size ≤ b101 := Nat.le_trans (Keep.refl h0 []).1 (Nat.le_of_eq g101.symm)
    have Z102 := Nat.le_trans Z0 X_101.1
    have hk102 := Nat.le_trans hk0 X_101.1
    have K102 : Keep h0 h101 [] := (Keep.refl h0 []).ext X_101
    have V101 : Arv Z h101 b101 k101 .char (6 : Int32) [(.int 0), (.int 0), (.int 0), (.int 0), (.int 0), (.int 0)] (.int 0) := (Arv.new A101 (by decide)).pad (pad_rep [] (.int 0) 6)
    obtain ⟨cl_q103, Ar_q103, q1_q103, S_q103, N_q103, H_q103, G_q103⟩ := id V101
    have hin_q103 := own_ib S_q103 (0 : Int32) (by decide)
    obtain ⟨T104, h104, X104, e104, W104, st104⟩ := stC X101 hx hZ e101 Ar_q103 (j := (0 : Int32)) hin_q103 (g := (mkF m 19 #[.val (.int fl), .val (.int 0), .unset, .unset, .unset, .unset, .unset] [(.int 110), (.int 0), (.ref b101), (.ref b101)])) rfl rfl (hb hby at_19)
    have V104 : Arv Z h104 b101 k101 .char (6 : Int32) [(.int (nar .char (110 : Int32))), (.int 0), (.int 0), (.int 0), (.int 0), (.int 0)] (.int 0) := Arv.set Ar_q103 q1_q103 S_q103 N_q103 H_q103 G_q103 (fits_nar_char _) W104 0 rfl (Nat.le_of_ble_eq_true rfl)
    rw [show (nar .char (110 : Int32)) = (110 : Int32) from by decide] at V104
    have Z105 := Nat.le_trans Z102 (Keep.of_wr W104).1
    have hk105 := Nat.le_trans hk102 (Keep.of_wr W104).1
    have K105 : Keep h0 h104 [] := K102.wr W104 (Or.inr sz_b101)
    have N104 := Fr.snoc X104 N0 ge_b101
    obtain ⟨cl_q106, Ar_q106, q1_q106, S_q106, N_q106, H_q106, G_q106⟩ := id V104
    have hin_q106 := own_ib S_q106 (1 : Int32) (by decide)
    obtain ⟨T107, h107, X107, e107, W107, st107⟩ := stC X104 hx hZ e104 Ar_q106 (j := (1 : Int32)) hin_q106 (g := (mkF m 24 #[.val (.int fl), .val (.int 0), .unset, .unset, .unset, .unset, .unset] [(.int 111), (.int 1), (.ref b101), (.ref b101)])) rfl rfl (hb hby at_24)
    have V107 : Arv Z h107 b101 k101 .char (6 : Int32) [(.int 110), (.int (nar .char (111 : Int32))), (.int 0), (.int 0), (.int 0), (.int 0)] (.int 0) := Arv.set Ar_q106 q1_q106 S_q106 N_q106 H_q106 G_q106 (fits_nar_char _) W107 1 rfl (Nat.le_of_ble_eq_true rfl)
    rw [show (nar .char (111 : Int32)) = (111 : Int32) from by decide] at V107
    have Z108 := Nat.le_trans Z105 (Keep.of_wr W107).1
    have hk108 := Nat.le_trans hk105 (Keep.of_wr W107).1
    have K108 : Keep h0 h107 [] := K105.wr W107 (Or.inr sz_b101)
    have N107 := Fr.snoc X107 N104 ge_b101
    obtain ⟨cl_q109, Ar_q109, q1_q109, S_q109, N_q109, H_q109, G_q109⟩ := id V107
    have hin_q109 := own_ib S_q109 (2 : Int32) (by decide)
    obtain ⟨T110, h110, X110, e110, W110, st110⟩ := stC X107 hx hZ e107 Ar_q109 (j := (2 : Int32)) hin_q109 (g := (mkF m 29 #[.val (.int fl), .val (.int 0), .unset, .unset, .unset, .unset, .unset] [(.int 114), (.int 2), (.ref b101), (.ref b101)])) rfl rfl (hb hby at_29)
    have V110 : Arv Z h110 b101 k101 .char (6 : Int32) [(.int 110), (.int 111), (.int (nar .char (114 : Int32))), (.int 0), (.int 0), (.int 0)] (.int 0) := Arv.set Ar_q109 q1_q109 S_q109 N_q109 H_q109 G_q109 (fits_nar_char _) W110 2 rfl (Nat.le_of_ble_eq_true rfl)
    rw [show (nar .char (114 : Int32)) = (114 : Int32) from by decide] at V110
    have Z111 := Nat.le_trans Z108 (Keep.of_wr W110).1
    have hk111 := Nat.le_trans hk108 (Keep.of_wr W110).1
    have K111 : Keep h0 h110 [] := K108.wr W110 (Or.inr sz_b101)
    have N110 := Fr.snoc X110 N107 ge_b101
    obtain ⟨cl_q112, Ar_q112, q1_q112, S_q112, N_q112, H_q112, G_q112⟩ := id V110
    have hin_q112 := own_ib S_q112 (3 : Int32) (by decide)
    obtain ⟨T113, h113, X113, e113, W113, st113⟩ := stC X110 hx hZ e110 Ar_q112 (j := (3 : Int32)) hin_q112 (g := (mkF m 34 #[.val (.int fl), .val (.int 0), .unset, .unset, .unset, .unset, .unset] [(.int 109), (.int 3), (.ref b101), (.ref b101)])) rfl rfl (hb hby at_34)
    have V113 : Arv Z h113 b101 k101 .char (6 : Int32) [(.int 110), (.int 111), (.int 114), (.int (nar .char (109 : Int32))), (.int 0), (.int 0)] (.int 0) := Arv.set Ar_q112 q1_q112 S_q112 N_q112 H_q112 G_q112 (fits_nar_char _) W113 3 rfl (Nat.le_of_ble_eq_true rfl)
    rw [show (nar .char (109 : Int32)) = (109 : Int32) from by decide] at V113
    have Z114 := Nat.le_trans Z111 (Keep.of_wr W113).1
    have hk114 := Nat.le_trans hk111 (Keep.of_wr W113).1
    have K114 : Keep h0 h113 [] := K111.wr W113 (Or.inr sz_b101)
    have N113 := Fr.snoc X113 N110 ge_b101
    obtain ⟨cl_q115, Ar_q115, q1_q115, S_q115, N_q115, H_q115, G_q115⟩ := id V113
    have hin_q115 := own_ib S_q115 (4 : Int32) (by decide)
    obtain ⟨T116, h116, X116, e116, W116, st116⟩ := stC X113 hx hZ e113 Ar_q115 (j := (4 : Int32)) hin_q115 (g := (mkF m 39 #[.val (.int fl), .val (.int 0), .unset, .unset, .unset, .unset, .unset] [(.int 97), (.int 4), (.ref b101), (.ref b101)])) rfl rfl (hb hby at_39)
    have V116 : Arv Z h116 b101 k101 .char (6 : Int32) [(.int 110), (.int 111), (.int 114), (.int 109), (.int (nar .char (97 : Int32))), (.int 0)] (.int 0) := Arv.set Ar_q115 q1_q115 S_q115 N_q115 H_q115 G_q115 (fits_nar_char _) W116 4 rfl (Nat.le_of_ble_eq_true rfl)
    rw [show (nar .char (97 : Int32)) = (97 : Int32) from by decide] at V116
    have Z117 := Nat.le_trans Z114 (Keep.of_wr W116).1
    have hk117 := Nat.le_trans hk114 (Keep.of_wr W116).1
    have K117 : Keep h0 h116 [] := K114.wr W116 (Or.inr sz_b101)
    have N116 := Fr.snoc X116 N113 ge_b101
    obtain ⟨cl_q118, Ar_q118, q1_q118, S_q118, N_q118, H_q118, G_q118⟩ := id V116
    have hin_q118 := own_ib S_q118 (5 : Int32) (by decide)
    obtain ⟨T119, h119, X119, e119, W119, st119⟩ := stC X116 hx hZ e116 Ar_q118 (j := (5 : Int32)) hin_q118 (g := (mkF m 44 #[.val (.int fl), .val (.int 0), .unset, .unset, .unset, .unset, .unset] [(.int 108), (.int 5), (.ref b101), (.ref b101)])) rfl rfl (hb hby at_44)
    have V119 : Arv Z h119 b101 k101 .char (6 : Int32) [(.int 110), (.int 111), (.int 114), (.int 109), (.int 97), (.int (nar .char (108 : Int32)))] (.int 0) := Arv.set Ar_q118 q1_q118 S_q118 N_q118 H_q118 G_q118 (fits_nar_char _) W119 5 rfl (Nat.le_of_ble_eq_true rfl)
    rw [show (nar .char (108 : Int32)) = (108 : Int32) from by decide] at V119
    have Z120 := Nat.le_trans Z117 (Keep.of_wr W119).1
    have hk120 := Nat.le_trans hk117 (Keep.of_wr W119).1
    have K120 : Keep h0 h119 [] := K117.wr W119 (Or.inr sz_b101)
    have N119 := Fr.snoc X119 N116 ge_b101
    obtain ⟨T121, X121, e121, st121⟩ := getS2 X119 hx hZ hown (host := "") (Or.inl (own_w hw 2 rfl)) Via.refl e119 (own_stakeep S_NORMAL K120 all0) (g := (mkF m 46 #[.val (.int fl), .val (.int 0), .val (.ref b101), .unset, .unset, .unset, .unset] [])) rfl (hb hby at_46)
    obtain ⟨T122, h122, X122, e122, X_122, A122, D122, -, st122⟩ := newO X121 hx hZ hown (own_w hw 5 rfl) (own_w hw 6 rfl) (own_w hw 7 rfl) e121 (g := (mkF m 187 #[.val (.int fl), .val (.int 0), .val (.ref b101), .val (.ref s_NORMAL), .unset, .unset, .unset] [])) rfl (hb hby at_187) (by decide) (by decide)
    obtain ⟨b122, g122⟩ : ∃ z, z = h119.size := ⟨_, rfl⟩
    rw [← g122] at A122 D122 st122
    have ge_b122 : n0 ≤ b122 := Nat.le_trans Z120 (Nat.le_of_eq g122.symm)
    have sz_b122 : h0.size ≤ b122 := Nat.le_trans K120.1 (Nat.le_of_eq g122.symm)
    have V123_b101 := V119.ext X_122
    have Z123 := Nat.le_trans Z120 X_122.1
    have hk123 := Nat.le_trans hk120 X_122.1
    have K123 : Keep h0 h122 [] := K120.ext X_122
    have F122_coder : Fld Z h122 b122 "java/lang/String" "coder" "B" (.int 0) := D122 (Or.inr (own_w hw 31 rfl)) (ty := .byte) (by decide)
    have F122_value : Fld Z h122 b122 "java/lang/String" "value" "[B" .null := D122 (Or.inr (own_w hw 33 rfl)) (ty := (.array .byte)) (by decide)
    obtain ⟨_, _, ⟨T124, L124, k124, n124⟩, -, X124, ⟨Lc124, hQ124, l124, y124, z124⟩, st124⟩ := X122.specialBack hx (y := (⟨"java/lang/String", "<init>", "([C)V"⟩ : MethodName)) rfl hown (mvT hZ (own_w hw 8 rfl)) (mvT hZ (own_w hw 9 rfl)) (mvT hZ (own_w hw 10 rfl)) (by decide) (backOf (W := 1) (rmNa0 l Z a0 hw [] b122 b101 k101 cs h122 n0 Z123 A122 F122_coder F122_value V123_b101 (Ne.symm (own_nlt V119.lt (Nat.le_of_eq g122.symm))) (own_stakeep S_cs K123 all0) ge_b122 hcs) hZ (own_w hw 10 rfl) (own_w hw 7 rfl) (by decide) (by decide)) (g := (mkF m 192 #[.val (.int fl), .val (.int 0), .val (.ref b101), .val (.ref s_NORMAL), .unset, .unset, .unset] [(.ref b101), (.ref b122), (.ref b122)])) rfl (by rw [hml]; rfl) (Steps.refl _) (a := b122) (argsL := [(.ref b101)]) (rest := [(.ref b122)]) (lenOf pd0_0 rfl) rfl (by show 2 * 0 + _ ≤ _; exact Nat.le_of_eq rfl) (hb hby at_192) (fun _ _ => ⟨rfl, e122, (by decide : 2 + 1 ≤ _), (by decide : 10 + 6 ≤ _)⟩)
    dsimp only [Pt.U, Pt.locs, Pt.cells, Pt.slots] at X124 l124 y124 z124 st124 hQ124
    subst l124 y124 z124
    obtain ⟨b101_103_102_124, k101_103_102_124, rfl, N124q, K124, g124_0, g124_1, g124_2, ge_b101_103_102_124, szc_b101_103_102_124, g124_3⟩ := hQ124
    have sz_b101_103_102_124 : h0.size ≤ b101_103_102_124 := Nat.le_trans K123.1 szc_b101_103_102_124
    have E125_b122 := A122.keep K124
    have V125_b101 := V123_b101.keep K124 (ninS (own_nlt V119.lt (Nat.le_of_eq g122.symm)) nin0)
    have Z125 := Nat.le_trans Z123 K124.1
    have hk125 := Nat.le_trans hk123 K124.1
    have K125 : Keep h0 T124.heap [] := Keep.trans K123 K124 (allS (Or.inr sz_b122) all0)
    have N124 := Fr.app N119 N124q
    refine GoW.by (fun _ kont => XS.iloadN X0.here hx rfl (hb hby at_7) rfl (XS.ifNo X0.here hx rfl (hb hby at_8) rfl (by decide) (XS.bipush X0.here hx rfl (hb hby at_11) (st101 _ (XS.dup X101.here hx rfl (hb hby at_15) rfl rfl (XS.iconst X101.here hx rfl (hb hby at_16) (XS.bipush X101.here hx rfl (hb hby at_17) (st104 _ (XS.dup X104.here hx rfl (hb hby at_20) rfl rfl (XS.iconst X104.here hx rfl (hb hby at_21) (XS.bipush X104.here hx rfl (hb hby at_22) (st107 _ (XS.dup X107.here hx rfl (hb hby at_25) rfl rfl (XS.iconst X107.here hx rfl (hb hby at_26) (XS.bipush X107.here hx rfl (hb hby at_27) (st110 _ (XS.dup X110.here hx rfl (hb hby at_30) rfl rfl (XS.iconst X110.here hx rfl (hb hby at_31) (XS.bipush X110.here hx rfl (hb hby at_32) (st113 _ (XS.dup X113.here hx rfl (hb hby at_35) rfl rfl (XS.iconst X113.here hx rfl (hb hby at_36) (XS.bipush X113.here hx rfl (hb hby at_37) (st116 _ (XS.dup X116.here hx rfl (hb hby at_40) rfl rfl (XS.iconst X116.here hx rfl (hb hby at_41) (XS.bipush X116.here hx rfl (hb hby at_42) (st119 _ (XS.astoreN X119.here hx rfl (hb hby at_45) rfl rfl (l' := #[.val (.int fl), .val (.int 0), .val (.ref b101), .unset, .unset, .unset, .unset]) rfl (st121 _ (XS.astoreN X121.here hx rfl (hb hby at_49) rfl rfl (l' := #[.val (.int fl), .val (.int 0), .val (.ref b101), .val (.ref s_NORMAL), .unset, .unset, .unset]) rfl (XS.goto X121.here hx rfl (pc0 := 50) (pc' := 187) rfl (hb hby at_50) (by decide) (by decide) (st122 _ (XS.dup X122.here hx rfl (hb hby at_190) rfl rfl (XS.aloadN X122.here hx rfl (hb hby at_191) rfl rfl (st124.trans (XS.astore X124.here hx rfl (hb hby at_195) rfl rfl (l' := #[.val (.int fl), .val (.int 0), .val (.ref b101), .val (.ref s_NORMAL), .val (.ref b122), .unset, .unset]) rfl (XS.aload X124.here hx rfl (hb hby at_197) rfl rfl kont)))))))))))))))))))))))))))))))))))))) ?_
    show GoW _ _ _ _ _ _ _ (T124.setTop (mkF m 199 #[.val (.int fl), .val (.int 0), .val (.ref b101), .val (.ref s_NORMAL), .val (.ref b122), .unset, .unset] [(.ref b122)]))
    obtain ⟨_, _, ⟨T126, L126, k126, n126⟩, -, X126, hS126, hg126, ⟨Lc126, hQ126, l126, y126, z126, C126⟩, st126⟩ := callSS X124 hx (y := (⟨"com/example/lotbook/lotbook/AccountStatus", "fromCode", "(Ljava/lang/String;)Lcom/example/lotbook/lotbook/AccountStatus;"⟩ : MethodName)) hown (mvT hZ (own_w hw 34 rfl)) (mvT hZ (own_w hw 35 rfl)) (mvT hZ (own_w hw 3 rfl)) (mvT hZ (own_w hw 36 rfl)) (by decide) (backOfSH (W := 0) (rmAf0f l Z a0 hw [] b122 s_NORMAL s_NORMAL_code s_NORMAL_code_value b101_103_102_124 s__VALUES kc_s__VALUES s_NO_NEW_OPEN s_LIQUIDATE kc_s_NORMAL_code_value k101_103_102_124 cs T124.heap n0 Z125 (E_s_NORMAL.keep K125) (F_s_NORMAL_code.keep K125 nin0) (E_s_NORMAL_code.keep K125) (F_s_NORMAL_code_coder.keep K125 nin0) (F_s_NORMAL_code_value.keep K125 nin0) g124_0 g124_1 g124_2 (E_s__VALUES.keep K125) (V_s__VALUES.keep K125 nin0) (V_s_NORMAL_code_value.keep K125 nin0) g124_3 (own_nlt (F_s_NORMAL_code_coder.keep K120 nin0).lt (Nat.le_of_eq g122.symm)) (own_stakeep S_cs K125 all0) (own_stakeep S__VALUES K125 all0) hcs) hZ (own_w hw 36 rfl) (own_w hw 3 rfl) (by decide) (by decide) hEL (CHr.keep K125 sf0 CR0.1).1) (g := (mkF m 199 #[.val (.int fl), .val (.int 0), .val (.ref b101), .val (.ref s_NORMAL), .val (.ref b122), .unset, .unset] [(.ref b122)])) rfl (by rw [hml]; rfl) (argsL := [(.ref b122)]) (rest := []) (lenOf pd0_1 rfl) rfl (by show 2 * 0 + _ ≤ _; exact Nat.le_of_eq rfl) (hb hby at_199) (fun _ _ => ⟨rfl, rfl, (by decide : 3 + 5 ≤ _), (by decide : 16 + 51 ≤ _)⟩)
    dsimp only [Pt.U, Pt.locs, Pt.cells, Pt.slots] at X126 hS126 hg126 l126 y126 z126 st126 hQ126 C126
    subst l126 y126 z126
    obtain ⟨X126, hS, hZ, hown⟩ := rebS hS (show _ ≤ T124.heap.size from hk125) X126 hS126 hg126 hZ hown
    have CR126 := CHr.trans (CHr.keep K125 sf0 CR0.1) C126
    obtain ⟨rfl, N126q, K126⟩ := hQ126
    have F127_coder_b122 := g124_1.keep K126 nin0
    have F127_value_b122 := g124_2.keep K126 nin0
    have E127_b122 := g124_0.keep K126
    have V127_b101 := V125_b101.keep K126 nin0
    have V127_b101_103_102_124 := g124_3.keep K126 nin0
    have Z127 := Nat.le_trans Z125 K126.1
    have K127 : Keep h0 T126.heap [] := Keep.trans K125 K126 all0
    have N126 := Fr.app N124 N126q
    obtain ⟨cq128, kq128, q128a, q128b, q128c⟩ := isOf hZ rfl (E_s_NORMAL.keep K127)
    obtain ⟨_, _, ⟨T128, L128, k128, n128⟩, -, X128, ⟨Lc128, hQ128, l128, y128, z128⟩, st128⟩ := X126.virtualBack hx (y := (⟨"com/example/lotbook/lotbook/AccountStatus", "code", "()Ljava/lang/String;"⟩ : MethodName)) (z := (⟨"com/example/lotbook/lotbook/AccountStatus", "code", "()Ljava/lang/String;"⟩ : MethodName)) hown (mvT hZ (own_w hw 102 rfl)) (mvT hZ (own_w hw 103 rfl)) (notFace_of_selects (args := #[]) (mvT hZ (own_w hw 104 rfl))) (mvT hZ (own_w hw 104 rfl)) (mvT hZ (own_w hw 83 rfl)) (by decide) (backOf (W := 0) (rmSc l Z a0 hw [] s_NORMAL s_NORMAL_code T126.heap n0 Z127 (E_s_NORMAL.keep K127) (F_s_NORMAL_code.keep K127 nin0)) hZ (own_w hw 87 rfl) (own_w hw 3 rfl) (by decide) (by decide)) q128a q128c (g := (mkF m 205 #[.val (.int fl), .val (.int 0), .val (.ref b101), .val (.ref s_NORMAL), .val (.ref b122), .val (.ref s_NORMAL), .unset] [(.ref s_NORMAL)])) rfl (by rw [hml]; rfl) (Steps.refl _) (argsL := []) (rest := []) (lenOf pd0_2 rfl) rfl (by show 2 * 0 + _ ≤ _; exact Nat.le_of_eq rfl) (hb hby at_205) (fun _ _ => ⟨rfl, rfl, (by decide : 8 + 0 ≤ _), (by decide : 67 + 0 ≤ _)⟩)
    dsimp only [Pt.U, Pt.locs, Pt.cells, Pt.slots] at X128 l128 y128 z128 st128 hQ128
    subst l128 y128 z128
    obtain ⟨rfl, N128q, eh128⟩ := hQ128
    have N128 := Fr.app N126 N128q
    refine GoW.by (fun _ kont => st126.trans (XS.astore X126.here hx rfl (hb hby at_202) rfl rfl (l' := #[.val (.int fl), .val (.int 0), .val (.ref b101), .val (.ref s_NORMAL), .val (.ref b122), .val (.ref s_NORMAL), .unset]) rfl (XS.aloadN X126.here hx rfl (hb hby at_204) rfl rfl (st128.trans kont)))) ?_
    show GoW _ _ _ _ _ _ _ (T128.setTop (mkF m 208 #[.val (.int fl), .val (.int 0), .val (.ref b101), .val (.ref s_NORMAL), .val (.ref b122), .val (.ref s_NORMAL), .unset] [(.ref s_NORMAL_code)]))
    obtain ⟨_, _, ⟨T129, L129, k129, n129⟩, -, X129, hS129, hg129, ⟨Lc129, hQ129, l129, y129, z129, C129⟩, st129⟩ := callSS X128 hx (y := (⟨"com/example/lotbook/lotbook/AccountStatus", "fromCode", "(Ljava/lang/String;)Lcom/example/lotbook/lotbook/AccountStatus;"⟩ : MethodName)) hown (mvT hZ (own_w hw 34 rfl)) (mvT hZ (own_w hw 35 rfl)) (mvT hZ (own_w hw 3 rfl)) (mvT hZ (own_w hw 36 rfl)) (by decide) (backOfSH (W := 0) (rmAf0s l Z a0 hw [] s_NORMAL_code s_NORMAL s__VALUES kc_s__VALUES s_NO_NEW_OPEN s_LIQUIDATE cs T126.heap n0 Z127 (E_s_NORMAL.keep K127) (F_s_NORMAL_code.keep K127 nin0) (E_s_NORMAL_code.keep K127) (E_s__VALUES.keep K127) (V_s__VALUES.keep K127 nin0) (own_stakeep S_cs K127 all0) (own_stakeep S__VALUES K127 all0) hcs) hZ (own_w hw 36 rfl) (own_w hw 3 rfl) (by decide) (by decide) hEL CR126.1) (g := (mkF m 208 #[.val (.int fl), .val (.int 0), .val (.ref b101), .val (.ref s_NORMAL), .val (.ref b122), .val (.ref s_NORMAL), .unset] [(.ref s_NORMAL_code)])) rfl (by rw [hml]; rfl) (argsL := [(.ref s_NORMAL_code)]) (rest := []) (lenOf pd0_1 rfl) rfl (by show 2 * 0 + _ ≤ _; exact Nat.le_of_eq rfl) (hb hby at_208) (fun _ _ => ⟨rfl, eh128, (by decide : 8 + 5 ≤ _), (by decide : 67 + 51 ≤ _)⟩)
    dsimp only [Pt.U, Pt.locs, Pt.cells, Pt.slots] at X129 hS129 hg129 l129 y129 z129 st129 hQ129 C129
    subst l129 y129 z129
    obtain ⟨X129, hS, hZ, hown⟩ := rebS hS (show _ ≤ T128.heap.size from by rw [eh128]; exact (Nat.le_refl _)) X129 hS129 hg129 hZ hown
    have CR129 := CHr.trans CR126 C129
    obtain ⟨rfl, N129q, K129⟩ := hQ129
    have F130_coder_b122 := F127_coder_b122.keep K129 nin0
    have F130_value_b122 := F127_value_b122.keep K129 nin0
    have E130_b122 := E127_b122.keep K129
    have V130_b101 := V127_b101.keep K129 nin0
    have V130_b101_103_102_124 := V127_b101_103_102_124.keep K129 nin0
    have Z130 := Nat.le_trans Z127 K129.1
    have K130 : Keep h0 T129.heap [] := Keep.trans K127 K129 all0
    have N129 := Fr.app N128 N129q
    refine GoW.by (fun _ kont => st129.trans (XS.astore X129.here hx rfl (hb hby at_211) rfl rfl (l' := #[.val (.int fl), .val (.int 0), .val (.ref b101), .val (.ref s_NORMAL), .val (.ref b122), .val (.ref s_NORMAL), .val (.ref s_NORMAL)]) rfl (XS.aload X129.here hx rfl (hb hby at_213) rfl rfl (XS.aloadN X129.here hx rfl (hb hby at_215) rfl rfl kont)))) ?_
    show GoW _ _ _ _ _ _ _ (T129.setTop (mkF m 216 #[.val (.int fl), .val (.int 0), .val (.ref b101), .val (.ref s_NORMAL), .val (.ref b122), .val (.ref s_NORMAL), .val (.ref s_NORMAL)] [(.ref s_NORMAL), (.ref s_NORMAL)]))
    refine GoW.by (fun _ kont => Jvm.RoadKit.acmp (g := (mkF m 216 #[.val (.int fl), .val (.int 0), .val (.ref b101), .val (.ref s_NORMAL), .val (.ref b122), .val (.ref s_NORMAL), .val (.ref s_NORMAL)] [(.ref s_NORMAL), (.ref s_NORMAL)])) X129 hx rfl rfl rfl (pc0 := 216) (pc' := 219) (same := true) rfl (hb hby at_216) rfl (decide_eq_true rfl) (by decide) (by decide) kont) ?_
    show GoW _ _ _ _ _ _ _ (T129.setTop (mkF m 219 #[.val (.int fl), .val (.int 0), .val (.ref b101), .val (.ref s_NORMAL), .val (.ref b122), .val (.ref s_NORMAL), .val (.ref s_NORMAL)] []))
    refine GoW.by (fun _ kont => XS.aload X129.here hx rfl (hb hby at_219) rfl rfl (XS.aloadN X129.here hx rfl (hb hby at_221) rfl rfl kont)) ?_
    show GoW _ _ _ _ _ _ _ (T129.setTop (mkF m 222 #[.val (.int fl), .val (.int 0), .val (.ref b101), .val (.ref s_NORMAL), .val (.ref b122), .val (.ref s_NORMAL), .val (.ref s_NORMAL)] [(.ref s_NORMAL), (.ref s_NORMAL)]))
    refine GoW.by (fun _ kont => Jvm.RoadKit.acmp (g := (mkF m 222 #[.val (.int fl), .val (.int 0), .val (.ref b101), .val (.ref s_NORMAL), .val (.ref b122), .val (.ref s_NORMAL), .val (.ref s_NORMAL)] [(.ref s_NORMAL), (.ref s_NORMAL)])) X129 hx rfl rfl rfl (pc0 := 222) (pc' := 225) (same := true) rfl (hb hby at_222) rfl (decide_eq_true rfl) (by decide) (by decide) kont) ?_
    show GoW _ _ _ _ _ _ _ (T129.setTop (mkF m 225 #[.val (.int fl), .val (.int 0), .val (.ref b101), .val (.ref s_NORMAL), .val (.ref b122), .val (.ref s_NORMAL), .val (.ref s_NORMAL)] []))
    obtain ⟨cq131, kq131, q131a, q131b, q131c⟩ := isOf hZ rfl (E_s_NORMAL.keep K130)
    obtain ⟨_, _, ⟨T131, L131, k131, n131⟩, -, X131, ⟨Lc131, hQ131, l131, y131, z131⟩, st131⟩ := X129.virtualBack hx (y := (⟨"com/example/lotbook/lotbook/AccountStatus", "code", "()Ljava/lang/String;"⟩ : MethodName)) (z := (⟨"com/example/lotbook/lotbook/AccountStatus", "code", "()Ljava/lang/String;"⟩ : MethodName)) hown (mvT hZ (own_w hw 102 rfl)) (mvT hZ (own_w hw 103 rfl)) (notFace_of_selects (args := #[]) (mvT hZ (own_w hw 104 rfl))) (mvT hZ (own_w hw 104 rfl)) (mvT hZ (own_w hw 83 rfl)) (by decide) (backOf (W := 0) (rmSc l Z a0 hw [] s_NORMAL s_NORMAL_code T129.heap n0 Z130 (E_s_NORMAL.keep K130) (F_s_NORMAL_code.keep K130 nin0)) hZ (own_w hw 87 rfl) (own_w hw 3 rfl) (by decide) (by decide)) q131a q131c (g := (mkF m 226 #[.val (.int fl), .val (.int 0), .val (.ref b101), .val (.ref s_NORMAL), .val (.ref b122), .val (.ref s_NORMAL), .val (.ref s_NORMAL)] [(.ref s_NORMAL)])) rfl (by rw [hml]; rfl) (Steps.refl _) (argsL := []) (rest := []) (lenOf pd0_2 rfl) rfl (by show 2 * 0 + _ ≤ _; exact Nat.le_of_eq rfl) (hb hby at_226) (fun _ _ => ⟨rfl, rfl, (by decide : 13 + 0 ≤ _), (by decide : 118 + 0 ≤ _)⟩)
    dsimp only [Pt.U, Pt.locs, Pt.cells, Pt.slots] at X131 l131 y131 z131 st131 hQ131
    subst l131 y131 z131
    obtain ⟨rfl, N131q, eh131⟩ := hQ131
    have N131 := Fr.app N129 N131q
    obtain ⟨cq132, kq132, q132a, q132b, q132c⟩ := isOf hZ eh131 (E_s_NORMAL_code.keep K130)
    obtain ⟨_, _, ⟨T132, L132, k132, n132⟩, -, X132, ⟨Lc132, hQ132, l132, y132, z132⟩, st132⟩ := X131.virtualBack hx (y := (⟨"java/lang/String", "equals", "(Ljava/lang/Object;)Z"⟩ : MethodName)) (z := (⟨"java/lang/String", "equals", "(Ljava/lang/Object;)Z"⟩ : MethodName)) hown (mvT hZ (own_w hw 105 rfl)) (mvT hZ (own_w hw 91 rfl)) (notFace_of_selects (args := #[]) (mvT hZ (own_w hw 93 rfl))) (mvT hZ (own_w hw 93 rfl)) (mvT hZ (own_w hw 92 rfl)) (by decide) (backOf (W := 0) (rmEq00 l Z a0 hw [] s_NORMAL_code b122 s_NORMAL_code_value b101_103_102_124 kc_s_NORMAL_code_value k101_103_102_124 cs T129.heap n0 Z130 (E_s_NORMAL_code.keep K130) (F_s_NORMAL_code_coder.keep K130 nin0) (F_s_NORMAL_code_value.keep K130 nin0) E130_b122 F130_coder_b122 F130_value_b122 (V_s_NORMAL_code_value.keep K130 nin0) V130_b101_103_102_124 (own_nlt (F_s_NORMAL_code_coder.keep K120 nin0).lt (Nat.le_of_eq g122.symm)) (own_stakeep S_cs K130 all0) hcs) hZ (own_w hw 94 rfl) (own_w hw 7 rfl) (by decide) (by decide)) q132a q132c (g := (mkF m 231 #[.val (.int fl), .val (.int 0), .val (.ref b101), .val (.ref s_NORMAL), .val (.ref b122), .val (.ref s_NORMAL), .val (.ref s_NORMAL)] [(.ref b122), (.ref s_NORMAL_code)])) rfl (by rw [hml]; rfl) (Steps.refl _) (argsL := [(.ref b122)]) (rest := []) (lenOf pd0_3 rfl) rfl (by show 2 * 0 + _ ≤ _; exact Nat.le_of_eq rfl) (hb hby at_231) (fun _ _ => ⟨rfl, eh131, (by decide : 13 + 0 ≤ _), (by decide : 118 + 0 ≤ _)⟩)
    dsimp only [Pt.U, Pt.locs, Pt.cells, Pt.slots] at X132 l132 y132 z132 st132 hQ132
    subst l132 y132 z132
    obtain ⟨rfl, N132q, eh132⟩ := hQ132
    have N132 := Fr.app N131 N132q
    refine GoW.by (fun _ kont => XS.aloadN X129.here hx rfl (hb hby at_225) rfl rfl (st131.trans (XS.aload X131.here hx rfl (hb hby at_229) rfl rfl (st132.trans (XS.ifNo X132.here hx rfl (hb hby at_234) rfl (by decide) (XS.iconst X132.here hx rfl (hb hby at_237) (XS.goto X132.here hx rfl (pc0 := 238) (pc' := 242) rfl (hb hby at_238) (by decide) (by decide) kont))))))) ?_
    show GoW _ _ _ _ _ _ _ (T132.setTop (mkF m 242 #[.val (.int fl), .val (.int 0), .val (.ref b101), .val (.ref s_NORMAL), .val (.ref b122), .val (.ref s_NORMAL), .val (.ref s_NORMAL)] [(.int 1)]))
    refine GoW.retN X132 hS (by rw [eh132]; exact (Nat.le_refl _)) hx (t := .boolean) hret (by simp) hlk (hb hby at_242) ?_ (by decide) (by decide)
    show Q0 Z h0 n0 (some (.int (1 : Int32))) T132.heap _
    rw [eh132]
    exact ⟨rfl, N132⟩
  · show GoW _ _ _ _ _ _ _ (s₁.setTop (mkF m 7 #[.val (.int fl), .val (.int 1), .unset, .unset, .unset, .unset, .unset] []))
    obtain ⟨T133, h133, k133, X133, e133, X_133, A133, st133⟩ := newP X0 hx hZ (own_w hw 1 rfl) e0 (g := (mkF m 60 #[.val (.int fl), .val (.int 1), .unset, .unset, .unset, .unset, .unset] [(.int 11)])) rfl (hb hby at_60) rfl (by decide) (cap := 11) (by decide) (by decide) (by decide) (by decide)
    obtain ⟨b133, g133⟩ : ∃ z, z = h0.size := ⟨_, rfl⟩
    rw [← g133] at A133 st133
    have ge_b133 : n0 ≤ b133 := Nat.le_trans Z0 (Nat.le_of_eq g133.symm)
    have sz_b133 : h0.size ≤ b133 := Nat.le_trans (Keep.refl h0 []).1 (Nat.le_of_eq g133.symm)
    have Z134 := Nat.le_trans Z0 X_133.1
    have hk134 := Nat.le_trans hk0 X_133.1
    have K134 : Keep h0 h133 [] := (Keep.refl h0 []).ext X_133
    have V133 : Arv Z h133 b133 k133 .char (11 : Int32) [(.int 0), (.int 0), (.int 0), (.int 0), (.int 0), (.int 0), (.int 0), (.int 0), (.int 0), (.int 0), (.int 0)] (.int 0) := (Arv.new A133 (by decide)).pad (pad_rep [] (.int 0) 11)
    obtain ⟨cl_q135, Ar_q135, q1_q135, S_q135, N_q135, H_q135, G_q135⟩ := id V133
    have hin_q135 := own_ib S_q135 (0 : Int32) (by decide)
    obtain ⟨T136, h136, X136, e136, W136, st136⟩ := stC X133 hx hZ e133 Ar_q135 (j := (0 : Int32)) hin_q135 (g := (mkF m 66 #[.val (.int fl), .val (.int 1), .unset, .unset, .unset, .unset, .unset] [(.int 110), (.int 0), (.ref b133), (.ref b133)])) rfl rfl (hb hby at_66)
    have V136 : Arv Z h136 b133 k133 .char (11 : Int32) [(.int (nar .char (110 : Int32))), (.int 0), (.int 0), (.int 0), (.int 0), (.int 0), (.int 0), (.int 0), (.int 0), (.int 0), (.int 0)] (.int 0) := Arv.set Ar_q135 q1_q135 S_q135 N_q135 H_q135 G_q135 (fits_nar_char _) W136 0 rfl (Nat.le_of_ble_eq_true rfl)
    rw [show (nar .char (110 : Int32)) = (110 : Int32) from by decide] at V136
    have Z137 := Nat.le_trans Z134 (Keep.of_wr W136).1
    have hk137 := Nat.le_trans hk134 (Keep.of_wr W136).1
    have K137 : Keep h0 h136 [] := K134.wr W136 (Or.inr sz_b133)
    have N136 := Fr.snoc X136 N0 ge_b133
    obtain ⟨cl_q138, Ar_q138, q1_q138, S_q138, N_q138, H_q138, G_q138⟩ := id V136
    have hin_q138 := own_ib S_q138 (1 : Int32) (by decide)
    obtain ⟨T139, h139, X139, e139, W139, st139⟩ := stC X136 hx hZ e136 Ar_q138 (j := (1 : Int32)) hin_q138 (g := (mkF m 71 #[.val (.int fl), .val (.int 1), .unset, .unset, .unset, .unset, .unset] [(.int 111), (.int 1), (.ref b133), (.ref b133)])) rfl rfl (hb hby at_71)
    have V139 : Arv Z h139 b133 k133 .char (11 : Int32) [(.int 110), (.int (nar .char (111 : Int32))), (.int 0), (.int 0), (.int 0), (.int 0), (.int 0), (.int 0), (.int 0), (.int 0), (.int 0)] (.int 0) := Arv.set Ar_q138 q1_q138 S_q138 N_q138 H_q138 G_q138 (fits_nar_char _) W139 1 rfl (Nat.le_of_ble_eq_true rfl)
    rw [show (nar .char (111 : Int32)) = (111 : Int32) from by decide] at V139
    have Z140 := Nat.le_trans Z137 (Keep.of_wr W139).1
    have hk140 := Nat.le_trans hk137 (Keep.of_wr W139).1
    have K140 : Keep h0 h139 [] := K137.wr W139 (Or.inr sz_b133)
    have N139 := Fr.snoc X139 N136 ge_b133
    obtain ⟨cl_q141, Ar_q141, q1_q141, S_q141, N_q141, H_q141, G_q141⟩ := id V139
    have hin_q141 := own_ib S_q141 (2 : Int32) (by decide)
    obtain ⟨T142, h142, X142, e142, W142, st142⟩ := stC X139 hx hZ e139 Ar_q141 (j := (2 : Int32)) hin_q141 (g := (mkF m 76 #[.val (.int fl), .val (.int 1), .unset, .unset, .unset, .unset, .unset] [(.int 95), (.int 2), (.ref b133), (.ref b133)])) rfl rfl (hb hby at_76)
    have V142 : Arv Z h142 b133 k133 .char (11 : Int32) [(.int 110), (.int 111), (.int (nar .char (95 : Int32))), (.int 0), (.int 0), (.int 0), (.int 0), (.int 0), (.int 0), (.int 0), (.int 0)] (.int 0) := Arv.set Ar_q141 q1_q141 S_q141 N_q141 H_q141 G_q141 (fits_nar_char _) W142 2 rfl (Nat.le_of_ble_eq_true rfl)
    rw [show (nar .char (95 : Int32)) = (95 : Int32) from by decide] at V142
    have Z143 := Nat.le_trans Z140 (Keep.of_wr W142).1
    have hk143 := Nat.le_trans hk140 (Keep.of_wr W142).1
    have K143 : Keep h0 h142 [] := K140.wr W142 (Or.inr sz_b133)
    have N142 := Fr.snoc X142 N139 ge_b133
    obtain ⟨cl_q144, Ar_q144, q1_q144, S_q144, N_q144, H_q144, G_q144⟩ := id V142
    have hin_q144 := own_ib S_q144 (3 : Int32) (by decide)
    obtain ⟨T145, h145, X145, e145, W145, st145⟩ := stC X142 hx hZ e142 Ar_q144 (j := (3 : Int32)) hin_q144 (g := (mkF m 81 #[.val (.int fl), .val (.int 1), .unset, .unset, .unset, .unset, .unset] [(.int 110), (.int 3), (.ref b133), (.ref b133)])) rfl rfl (hb hby at_81)
    have V145 : Arv Z h145 b133 k133 .char (11 : Int32) [(.int 110), (.int 111), (.int 95), (.int (nar .char (110 : Int32))), (.int 0), (.int 0), (.int 0), (.int 0), (.int 0), (.int 0), (.int 0)] (.int 0) := Arv.set Ar_q144 q1_q144 S_q144 N_q144 H_q144 G_q144 (fits_nar_char _) W145 3 rfl (Nat.le_of_ble_eq_true rfl)
    rw [show (nar .char (110 : Int32)) = (110 : Int32) from by decide] at V145
    have Z146 := Nat.le_trans Z143 (Keep.of_wr W145).1
    have hk146 := Nat.le_trans hk143 (Keep.of_wr W145).1
    have K146 : Keep h0 h145 [] := K143.wr W145 (Or.inr sz_b133)
    have N145 := Fr.snoc X145 N142 ge_b133
    obtain ⟨cl_q147, Ar_q147, q1_q147, S_q147, N_q147, H_q147, G_q147⟩ := id V145
    have hin_q147 := own_ib S_q147 (4 : Int32) (by decide)
    obtain ⟨T148, h148, X148, e148, W148, st148⟩ := stC X145 hx hZ e145 Ar_q147 (j := (4 : Int32)) hin_q147 (g := (mkF m 86 #[.val (.int fl), .val (.int 1), .unset, .unset, .unset, .unset, .unset] [(.int 101), (.int 4), (.ref b133), (.ref b133)])) rfl rfl (hb hby at_86)
    have V148 : Arv Z h148 b133 k133 .char (11 : Int32) [(.int 110), (.int 111), (.int 95), (.int 110), (.int (nar .char (101 : Int32))), (.int 0), (.int 0), (.int 0), (.int 0), (.int 0), (.int 0)] (.int 0) := Arv.set Ar_q147 q1_q147 S_q147 N_q147 H_q147 G_q147 (fits_nar_char _) W148 4 rfl (Nat.le_of_ble_eq_true rfl)
    rw [show (nar .char (101 : Int32)) = (101 : Int32) from by decide] at V148
    have Z149 := Nat.le_trans Z146 (Keep.of_wr W148).1
    have hk149 := Nat.le_trans hk146 (Keep.of_wr W148).1
    have K149 : Keep h0 h148 [] := K146.wr W148 (Or.inr sz_b133)
    have N148 := Fr.snoc X148 N145 ge_b133
    obtain ⟨cl_q150, Ar_q150, q1_q150, S_q150, N_q150, H_q150, G_q150⟩ := id V148
    have hin_q150 := own_ib S_q150 (5 : Int32) (by decide)
    obtain ⟨T151, h151, X151, e151, W151, st151⟩ := stC X148 hx hZ e148 Ar_q150 (j := (5 : Int32)) hin_q150 (g := (mkF m 91 #[.val (.int fl), .val (.int 1), .unset, .unset, .unset, .unset, .unset] [(.int 119), (.int 5), (.ref b133), (.ref b133)])) rfl rfl (hb hby at_91)
    have V151 : Arv Z h151 b133 k133 .char (11 : Int32) [(.int 110), (.int 111), (.int 95), (.int 110), (.int 101), (.int (nar .char (119 : Int32))), (.int 0), (.int 0), (.int 0), (.int 0), (.int 0)] (.int 0) := Arv.set Ar_q150 q1_q150 S_q150 N_q150 H_q150 G_q150 (fits_nar_char _) W151 5 rfl (Nat.le_of_ble_eq_true rfl)
    rw [show (nar .char (119 : Int32)) = (119 : Int32) from by decide] at V151
    have Z152 := Nat.le_trans Z149 (Keep.of_wr W151).1
    have hk152 := Nat.le_trans hk149 (Keep.of_wr W151).1
    have K152 : Keep h0 h151 [] := K149.wr W151 (Or.inr sz_b133)
    have N151 := Fr.snoc X151 N148 ge_b133
    obtain ⟨cl_q153, Ar_q153, q1_q153, S_q153, N_q153, H_q153, G_q153⟩ := id V151
    have hin_q153 := own_ib S_q153 (6 : Int32) (by decide)
    obtain ⟨T154, h154, X154, e154, W154, st154⟩ := stC X151 hx hZ e151 Ar_q153 (j := (6 : Int32)) hin_q153 (g := (mkF m 97 #[.val (.int fl), .val (.int 1), .unset, .unset, .unset, .unset, .unset] [(.int 95), (.int 6), (.ref b133), (.ref b133)])) rfl rfl (hb hby at_97)
    have V154 : Arv Z h154 b133 k133 .char (11 : Int32) [(.int 110), (.int 111), (.int 95), (.int 110), (.int 101), (.int 119), (.int (nar .char (95 : Int32))), (.int 0), (.int 0), (.int 0), (.int 0)] (.int 0) := Arv.set Ar_q153 q1_q153 S_q153 N_q153 H_q153 G_q153 (fits_nar_char _) W154 6 rfl (Nat.le_of_ble_eq_true rfl)
    rw [show (nar .char (95 : Int32)) = (95 : Int32) from by decide] at V154
    have Z155 := Nat.le_trans Z152 (Keep.of_wr W154).1
    have hk155 := Nat.le_trans hk152 (Keep.of_wr W154).1
    have K155 : Keep h0 h154 [] := K152.wr W154 (Or.inr sz_b133)
    have N154 := Fr.snoc X154 N151 ge_b133
    obtain ⟨cl_q156, Ar_q156, q1_q156, S_q156, N_q156, H_q156, G_q156⟩ := id V154
    have hin_q156 := own_ib S_q156 (7 : Int32) (by decide)
    obtain ⟨T157, h157, X157, e157, W157, st157⟩ := stC X154 hx hZ e154 Ar_q156 (j := (7 : Int32)) hin_q156 (g := (mkF m 103 #[.val (.int fl), .val (.int 1), .unset, .unset, .unset, .unset, .unset] [(.int 111), (.int 7), (.ref b133), (.ref b133)])) rfl rfl (hb hby at_103)
    have V157 : Arv Z h157 b133 k133 .char (11 : Int32) [(.int 110), (.int 111), (.int 95), (.int 110), (.int 101), (.int 119), (.int 95), (.int (nar .char (111 : Int32))), (.int 0), (.int 0), (.int 0)] (.int 0) := Arv.set Ar_q156 q1_q156 S_q156 N_q156 H_q156 G_q156 (fits_nar_char _) W157 7 rfl (Nat.le_of_ble_eq_true rfl)
    rw [show (nar .char (111 : Int32)) = (111 : Int32) from by decide] at V157
    have Z158 := Nat.le_trans Z155 (Keep.of_wr W157).1
    have hk158 := Nat.le_trans hk155 (Keep.of_wr W157).1
    have K158 : Keep h0 h157 [] := K155.wr W157 (Or.inr sz_b133)
    have N157 := Fr.snoc X157 N154 ge_b133
    obtain ⟨cl_q159, Ar_q159, q1_q159, S_q159, N_q159, H_q159, G_q159⟩ := id V157
    have hin_q159 := own_ib S_q159 (8 : Int32) (by decide)
    obtain ⟨T160, h160, X160, e160, W160, st160⟩ := stC X157 hx hZ e157 Ar_q159 (j := (8 : Int32)) hin_q159 (g := (mkF m 109 #[.val (.int fl), .val (.int 1), .unset, .unset, .unset, .unset, .unset] [(.int 112), (.int 8), (.ref b133), (.ref b133)])) rfl rfl (hb hby at_109)
    have V160 : Arv Z h160 b133 k133 .char (11 : Int32) [(.int 110), (.int 111), (.int 95), (.int 110), (.int 101), (.int 119), (.int 95), (.int 111), (.int (nar .char (112 : Int32))), (.int 0), (.int 0)] (.int 0) := Arv.set Ar_q159 q1_q159 S_q159 N_q159 H_q159 G_q159 (fits_nar_char _) W160 8 rfl (Nat.le_of_ble_eq_true rfl)
    rw [show (nar .char (112 : Int32)) = (112 : Int32) from by decide] at V160
    have Z161 := Nat.le_trans Z158 (Keep.of_wr W160).1
    have hk161 := Nat.le_trans hk158 (Keep.of_wr W160).1
    have K161 : Keep h0 h160 [] := K158.wr W160 (Or.inr sz_b133)
    have N160 := Fr.snoc X160 N157 ge_b133
    obtain ⟨cl_q162, Ar_q162, q1_q162, S_q162, N_q162, H_q162, G_q162⟩ := id V160
    have hin_q162 := own_ib S_q162 (9 : Int32) (by decide)
    obtain ⟨T163, h163, X163, e163, W163, st163⟩ := stC X160 hx hZ e160 Ar_q162 (j := (9 : Int32)) hin_q162 (g := (mkF m 115 #[.val (.int fl), .val (.int 1), .unset, .unset, .unset, .unset, .unset] [(.int 101), (.int 9), (.ref b133), (.ref b133)])) rfl rfl (hb hby at_115)
    have V163 : Arv Z h163 b133 k133 .char (11 : Int32) [(.int 110), (.int 111), (.int 95), (.int 110), (.int 101), (.int 119), (.int 95), (.int 111), (.int 112), (.int (nar .char (101 : Int32))), (.int 0)] (.int 0) := Arv.set Ar_q162 q1_q162 S_q162 N_q162 H_q162 G_q162 (fits_nar_char _) W163 9 rfl (Nat.le_of_ble_eq_true rfl)
    rw [show (nar .char (101 : Int32)) = (101 : Int32) from by decide] at V163
    have Z164 := Nat.le_trans Z161 (Keep.of_wr W163).1
    have hk164 := Nat.le_trans hk161 (Keep.of_wr W163).1
    have K164 : Keep h0 h163 [] := K161.wr W163 (Or.inr sz_b133)
    have N163 := Fr.snoc X163 N160 ge_b133
    obtain ⟨cl_q165, Ar_q165, q1_q165, S_q165, N_q165, H_q165, G_q165⟩ := id V163
    have hin_q165 := own_ib S_q165 (10 : Int32) (by decide)
    obtain ⟨T166, h166, X166, e166, W166, st166⟩ := stC X163 hx hZ e163 Ar_q165 (j := (10 : Int32)) hin_q165 (g := (mkF m 121 #[.val (.int fl), .val (.int 1), .unset, .unset, .unset, .unset, .unset] [(.int 110), (.int 10), (.ref b133), (.ref b133)])) rfl rfl (hb hby at_121)
    have V166 : Arv Z h166 b133 k133 .char (11 : Int32) [(.int 110), (.int 111), (.int 95), (.int 110), (.int 101), (.int 119), (.int 95), (.int 111), (.int 112), (.int 101), (.int (nar .char (110 : Int32)))] (.int 0) := Arv.set Ar_q165 q1_q165 S_q165 N_q165 H_q165 G_q165 (fits_nar_char _) W166 10 rfl (Nat.le_of_ble_eq_true rfl)
    rw [show (nar .char (110 : Int32)) = (110 : Int32) from by decide] at V166
    have Z167 := Nat.le_trans Z164 (Keep.of_wr W166).1
    have hk167 := Nat.le_trans hk164 (Keep.of_wr W166).1
    have K167 : Keep h0 h166 [] := K164.wr W166 (Or.inr sz_b133)
    have N166 := Fr.snoc X166 N163 ge_b133
    obtain ⟨T168, X168, e168, st168⟩ := getS2 X166 hx hZ hown (host := "") (Or.inl (own_w hw 188 rfl)) Via.refl e166 (own_stakeep S_NO_NEW_OPEN K167 all0) (g := (mkF m 123 #[.val (.int fl), .val (.int 1), .val (.ref b133), .unset, .unset, .unset, .unset] [])) rfl (hb hby at_123)
    obtain ⟨T169, h169, X169, e169, X_169, A169, D169, -, st169⟩ := newO X168 hx hZ hown (own_w hw 5 rfl) (own_w hw 6 rfl) (own_w hw 7 rfl) e168 (g := (mkF m 187 #[.val (.int fl), .val (.int 1), .val (.ref b133), .val (.ref s_NO_NEW_OPEN), .unset, .unset, .unset] [])) rfl (hb hby at_187) (by decide) (by decide)
    obtain ⟨b169, g169⟩ : ∃ z, z = h166.size := ⟨_, rfl⟩
    rw [← g169] at A169 D169 st169
    have ge_b169 : n0 ≤ b169 := Nat.le_trans Z167 (Nat.le_of_eq g169.symm)
    have sz_b169 : h0.size ≤ b169 := Nat.le_trans K167.1 (Nat.le_of_eq g169.symm)
    have V170_b133 := V166.ext X_169
    have Z170 := Nat.le_trans Z167 X_169.1
    have hk170 := Nat.le_trans hk167 X_169.1
    have K170 : Keep h0 h169 [] := K167.ext X_169
    have F169_coder : Fld Z h169 b169 "java/lang/String" "coder" "B" (.int 0) := D169 (Or.inr (own_w hw 31 rfl)) (ty := .byte) (by decide)
    have F169_value : Fld Z h169 b169 "java/lang/String" "value" "[B" .null := D169 (Or.inr (own_w hw 33 rfl)) (ty := (.array .byte)) (by decide)
    obtain ⟨_, _, ⟨T171, L171, k171, n171⟩, -, X171, ⟨Lc171, hQ171, l171, y171, z171⟩, st171⟩ := X169.specialBack hx (y := (⟨"java/lang/String", "<init>", "([C)V"⟩ : MethodName)) rfl hown (mvT hZ (own_w hw 8 rfl)) (mvT hZ (own_w hw 9 rfl)) (mvT hZ (own_w hw 10 rfl)) (by decide) (backOf (W := 1) (rmNa1 l Z a0 hw [] b169 b133 k133 cs h169 n0 Z170 A169 F169_coder F169_value V170_b133 (Ne.symm (own_nlt V166.lt (Nat.le_of_eq g169.symm))) (own_stakeep S_cs K170 all0) ge_b169 hcs) hZ (own_w hw 10 rfl) (own_w hw 7 rfl) (by decide) (by decide)) (g := (mkF m 192 #[.val (.int fl), .val (.int 1), .val (.ref b133), .val (.ref s_NO_NEW_OPEN), .unset, .unset, .unset] [(.ref b133), (.ref b169), (.ref b169)])) rfl (by rw [hml]; rfl) (Steps.refl _) (a := b169) (argsL := [(.ref b133)]) (rest := [(.ref b169)]) (lenOf pd0_0 rfl) rfl (by show 2 * 0 + _ ≤ _; exact Nat.le_of_eq rfl) (hb hby at_192) (fun _ _ => ⟨rfl, e169, (by decide : 2 + 1 ≤ _), (by decide : 15 + 11 ≤ _)⟩)
    dsimp only [Pt.U, Pt.locs, Pt.cells, Pt.slots] at X171 l171 y171 z171 st171 hQ171
    subst l171 y171 z171
    obtain ⟨b101_103_102_171, k101_103_102_171, rfl, N171q, K171, g171_0, g171_1, g171_2, ge_b101_103_102_171, szc_b101_103_102_171, g171_3⟩ := hQ171
    have sz_b101_103_102_171 : h0.size ≤ b101_103_102_171 := Nat.le_trans K170.1 szc_b101_103_102_171
    have E172_b169 := A169.keep K171
    have V172_b133 := V170_b133.keep K171 (ninS (own_nlt V166.lt (Nat.le_of_eq g169.symm)) nin0)
    have Z172 := Nat.le_trans Z170 K171.1
    have hk172 := Nat.le_trans hk170 K171.1
    have K172 : Keep h0 T171.heap [] := Keep.trans K170 K171 (allS (Or.inr sz_b169) all0)
    have N171 := Fr.app N166 N171q
    refine GoW.by (fun _ kont => XS.iloadN X0.here hx rfl (hb hby at_7) rfl (XS.ifYes X0.here hx rfl (pc0 := 8) (pc' := 53) rfl (hb hby at_8) rfl (by decide) (by decide) (by decide) (XS.iloadN X0.here hx rfl (hb hby at_53) rfl (XS.iconst X0.here hx rfl (hb hby at_54) (XS.icmpNo X0.here hx rfl (hb hby at_55) rfl (by decide) (XS.bipush X0.here hx rfl (hb hby at_58) (st133 _ (XS.dup X133.here hx rfl (hb hby at_62) rfl rfl (XS.iconst X133.here hx rfl (hb hby at_63) (XS.bipush X133.here hx rfl (hb hby at_64) (st136 _ (XS.dup X136.here hx rfl (hb hby at_67) rfl rfl (XS.iconst X136.here hx rfl (hb hby at_68) (XS.bipush X136.here hx rfl (hb hby at_69) (st139 _ (XS.dup X139.here hx rfl (hb hby at_72) rfl rfl (XS.iconst X139.here hx rfl (hb hby at_73) (XS.bipush X139.here hx rfl (hb hby at_74) (st142 _ (XS.dup X142.here hx rfl (hb hby at_77) rfl rfl (XS.iconst X142.here hx rfl (hb hby at_78) (XS.bipush X142.here hx rfl (hb hby at_79) (st145 _ (XS.dup X145.here hx rfl (hb hby at_82) rfl rfl (XS.iconst X145.here hx rfl (hb hby at_83) (XS.bipush X145.here hx rfl (hb hby at_84) (st148 _ (XS.dup X148.here hx rfl (hb hby at_87) rfl rfl (XS.iconst X148.here hx rfl (hb hby at_88) (XS.bipush X148.here hx rfl (hb hby at_89) (st151 _ (XS.dup X151.here hx rfl (hb hby at_92) rfl rfl (XS.bipush X151.here hx rfl (hb hby at_93) (XS.bipush X151.here hx rfl (hb hby at_95) (st154 _ (XS.dup X154.here hx rfl (hb hby at_98) rfl rfl (XS.bipush X154.here hx rfl (hb hby at_99) (XS.bipush X154.here hx rfl (hb hby at_101) (st157 _ (XS.dup X157.here hx rfl (hb hby at_104) rfl rfl (XS.bipush X157.here hx rfl (hb hby at_105) (XS.bipush X157.here hx rfl (hb hby at_107) (st160 _ (XS.dup X160.here hx rfl (hb hby at_110) rfl rfl (XS.bipush X160.here hx rfl (hb hby at_111) (XS.bipush X160.here hx rfl (hb hby at_113) (st163 _ (XS.dup X163.here hx rfl (hb hby at_116) rfl rfl (XS.bipush X163.here hx rfl (hb hby at_117) (XS.bipush X163.here hx rfl (hb hby at_119) (st166 _ (XS.astoreN X166.here hx rfl (hb hby at_122) rfl rfl (l' := #[.val (.int fl), .val (.int 1), .val (.ref b133), .unset, .unset, .unset, .unset]) rfl (st168 _ (XS.astoreN X168.here hx rfl (hb hby at_126) rfl rfl (l' := #[.val (.int fl), .val (.int 1), .val (.ref b133), .val (.ref s_NO_NEW_OPEN), .unset, .unset, .unset]) rfl (XS.goto X168.here hx rfl (pc0 := 127) (pc' := 187) rfl (hb hby at_127) (by decide) (by decide) (st169 _ (XS.dup X169.here hx rfl (hb hby at_190) rfl rfl (XS.aloadN X169.here hx rfl (hb hby at_191) rfl rfl (st171.trans (XS.astore X171.here hx rfl (hb hby at_195) rfl rfl (l' := #[.val (.int fl), .val (.int 1), .val (.ref b133), .val (.ref s_NO_NEW_OPEN), .val (.ref b169), .unset, .unset]) rfl kont)))))))))))))))))))))))))))))))))))))))))))))))))))))))))))) ?_
    show GoW _ _ _ _ _ _ _ (T171.setTop (mkF m 197 #[.val (.int fl), .val (.int 1), .val (.ref b133), .val (.ref s_NO_NEW_OPEN), .val (.ref b169), .unset, .unset] []))
    refine GoW.by (fun _ kont => XS.aload X171.here hx rfl (hb hby at_197) rfl rfl kont) ?_
    show GoW _ _ _ _ _ _ _ (T171.setTop (mkF m 199 #[.val (.int fl), .val (.int 1), .val (.ref b133), .val (.ref s_NO_NEW_OPEN), .val (.ref b169), .unset, .unset] [(.ref b169)]))
    obtain ⟨_, _, ⟨T173, L173, k173, n173⟩, -, X173, hS173, hg173, ⟨Lc173, hQ173, l173, y173, z173, C173⟩, st173⟩ := callSS X171 hx (y := (⟨"com/example/lotbook/lotbook/AccountStatus", "fromCode", "(Ljava/lang/String;)Lcom/example/lotbook/lotbook/AccountStatus;"⟩ : MethodName)) hown (mvT hZ (own_w hw 34 rfl)) (mvT hZ (own_w hw 35 rfl)) (mvT hZ (own_w hw 3 rfl)) (mvT hZ (own_w hw 36 rfl)) (by decide) (backOfSH (W := 0) (rmAf1f l Z a0 hw [] b169 s_NORMAL s_NORMAL_code s_NO_NEW_OPEN s_NO_NEW_OPEN_code s_NORMAL_code_value s_NO_NEW_OPEN_code_value b101_103_102_171 s__VALUES kc_s__VALUES s_LIQUIDATE kc_s_NORMAL_code_value kc_s_NO_NEW_OPEN_code_value k101_103_102_171 cs T171.heap n0 Z172 (E_s_NORMAL.keep K172) (F_s_NORMAL_code.keep K172 nin0) (E_s_NO_NEW_OPEN.keep K172) (F_s_NO_NEW_OPEN_code.keep K172 nin0) (E_s_NORMAL_code.keep K172) (F_s_NORMAL_code_coder.keep K172 nin0) (F_s_NORMAL_code_value.keep K172 nin0) (E_s_NO_NEW_OPEN_code.keep K172) (F_s_NO_NEW_OPEN_code_coder.keep K172 nin0) (F_s_NO_NEW_OPEN_code_value.keep K172 nin0) g171_0 g171_1 g171_2 (E_s__VALUES.keep K172) (V_s__VALUES.keep K172 nin0) (V_s_NORMAL_code_value.keep K172 nin0) (V_s_NO_NEW_OPEN_code_value.keep K172 nin0) g171_3 (own_nlt (F_s_NORMAL_code_coder.keep K167 nin0).lt (Nat.le_of_eq g169.symm)) (own_nlt (F_s_NO_NEW_OPEN_code_coder.keep K167 nin0).lt (Nat.le_of_eq g169.symm)) (own_stakeep S_cs K172 all0) (own_stakeep S__VALUES K172 all0) hcs) hZ (own_w hw 36 rfl) (own_w hw 3 rfl) (by decide) (by decide) hEL (CHr.keep K172 sf0 CR0.1).1) (g := (mkF m 199 #[.val (.int fl), .val (.int 1), .val (.ref b133), .val (.ref s_NO_NEW_OPEN), .val (.ref b169), .unset, .unset] [(.ref b169)])) rfl (by rw [hml]; rfl) (argsL := [(.ref b169)]) (rest := []) (lenOf pd0_1 rfl) rfl (by show 2 * 0 + _ ≤ _; exact Nat.le_of_eq rfl) (hb hby at_199) (fun _ _ => ⟨rfl, rfl, (by decide : 3 + 7 ≤ _), (by decide : 26 + 55 ≤ _)⟩)
    dsimp only [Pt.U, Pt.locs, Pt.cells, Pt.slots] at X173 hS173 hg173 l173 y173 z173 st173 hQ173 C173
    subst l173 y173 z173
    obtain ⟨X173, hS, hZ, hown⟩ := rebS hS (show _ ≤ T171.heap.size from hk172) X173 hS173 hg173 hZ hown
    have CR173 := CHr.trans (CHr.keep K172 sf0 CR0.1) C173
    obtain ⟨rfl, N173q, K173⟩ := hQ173
    have F174_coder_b169 := g171_1.keep K173 nin0
    have F174_value_b169 := g171_2.keep K173 nin0
    have E174_b169 := g171_0.keep K173
    have V174_b133 := V172_b133.keep K173 nin0
    have V174_b101_103_102_171 := g171_3.keep K173 nin0
    have Z174 := Nat.le_trans Z172 K173.1
    have K174 : Keep h0 T173.heap [] := Keep.trans K172 K173 all0
    have N173 := Fr.app N171 N173q
    obtain ⟨cq175, kq175, q175a, q175b, q175c⟩ := isOf hZ rfl (E_s_NO_NEW_OPEN.keep K174)
    obtain ⟨_, _, ⟨T175, L175, k175, n175⟩, -, X175, ⟨Lc175, hQ175, l175, y175, z175⟩, st175⟩ := X173.virtualBack hx (y := (⟨"com/example/lotbook/lotbook/AccountStatus", "code", "()Ljava/lang/String;"⟩ : MethodName)) (z := (⟨"com/example/lotbook/lotbook/AccountStatus", "code", "()Ljava/lang/String;"⟩ : MethodName)) hown (mvT hZ (own_w hw 102 rfl)) (mvT hZ (own_w hw 103 rfl)) (notFace_of_selects (args := #[]) (mvT hZ (own_w hw 104 rfl))) (mvT hZ (own_w hw 104 rfl)) (mvT hZ (own_w hw 83 rfl)) (by decide) (backOf (W := 0) (rmSc l Z a0 hw [] s_NO_NEW_OPEN s_NO_NEW_OPEN_code T173.heap n0 Z174 (E_s_NO_NEW_OPEN.keep K174) (F_s_NO_NEW_OPEN_code.keep K174 nin0)) hZ (own_w hw 87 rfl) (own_w hw 3 rfl) (by decide) (by decide)) q175a q175c (g := (mkF m 205 #[.val (.int fl), .val (.int 1), .val (.ref b133), .val (.ref s_NO_NEW_OPEN), .val (.ref b169), .val (.ref s_NO_NEW_OPEN), .unset] [(.ref s_NO_NEW_OPEN)])) rfl (by rw [hml]; rfl) (Steps.refl _) (argsL := []) (rest := []) (lenOf pd0_2 rfl) rfl (by show 2 * 0 + _ ≤ _; exact Nat.le_of_eq rfl) (hb hby at_205) (fun _ _ => ⟨rfl, rfl, (by decide : 10 + 0 ≤ _), (by decide : 81 + 0 ≤ _)⟩)
    dsimp only [Pt.U, Pt.locs, Pt.cells, Pt.slots] at X175 l175 y175 z175 st175 hQ175
    subst l175 y175 z175
    obtain ⟨rfl, N175q, eh175⟩ := hQ175
    have N175 := Fr.app N173 N175q
    refine GoW.by (fun _ kont => st173.trans (XS.astore X173.here hx rfl (hb hby at_202) rfl rfl (l' := #[.val (.int fl), .val (.int 1), .val (.ref b133), .val (.ref s_NO_NEW_OPEN), .val (.ref b169), .val (.ref s_NO_NEW_OPEN), .unset]) rfl (XS.aloadN X173.here hx rfl (hb hby at_204) rfl rfl (st175.trans kont)))) ?_
    show GoW _ _ _ _ _ _ _ (T175.setTop (mkF m 208 #[.val (.int fl), .val (.int 1), .val (.ref b133), .val (.ref s_NO_NEW_OPEN), .val (.ref b169), .val (.ref s_NO_NEW_OPEN), .unset] [(.ref s_NO_NEW_OPEN_code)]))
    obtain ⟨_, _, ⟨T176, L176, k176, n176⟩, -, X176, hS176, hg176, ⟨Lc176, hQ176, l176, y176, z176, C176⟩, st176⟩ := callSS X175 hx (y := (⟨"com/example/lotbook/lotbook/AccountStatus", "fromCode", "(Ljava/lang/String;)Lcom/example/lotbook/lotbook/AccountStatus;"⟩ : MethodName)) hown (mvT hZ (own_w hw 34 rfl)) (mvT hZ (own_w hw 35 rfl)) (mvT hZ (own_w hw 3 rfl)) (mvT hZ (own_w hw 36 rfl)) (by decide) (backOfSH (W := 0) (rmAf1s l Z a0 hw [] s_NO_NEW_OPEN_code s_NORMAL s_NORMAL_code s_NO_NEW_OPEN s_NORMAL_code_value s_NO_NEW_OPEN_code_value s__VALUES kc_s__VALUES s_LIQUIDATE kc_s_NORMAL_code_value kc_s_NO_NEW_OPEN_code_value cs T173.heap n0 Z174 (E_s_NORMAL.keep K174) (F_s_NORMAL_code.keep K174 nin0) (E_s_NO_NEW_OPEN.keep K174) (F_s_NO_NEW_OPEN_code.keep K174 nin0) (E_s_NORMAL_code.keep K174) (F_s_NORMAL_code_coder.keep K174 nin0) (F_s_NORMAL_code_value.keep K174 nin0) (E_s_NO_NEW_OPEN_code.keep K174) (F_s_NO_NEW_OPEN_code_coder.keep K174 nin0) (F_s_NO_NEW_OPEN_code_value.keep K174 nin0) (E_s__VALUES.keep K174) (V_s__VALUES.keep K174 nin0) (V_s_NORMAL_code_value.keep K174 nin0) (V_s_NO_NEW_OPEN_code_value.keep K174 nin0) nn_s_NORMAL_code_s_NO_NEW_OPEN_code (own_stakeep S_cs K174 all0) (own_stakeep S__VALUES K174 all0) hcs) hZ (own_w hw 36 rfl) (own_w hw 3 rfl) (by decide) (by decide) hEL CR173.1) (g := (mkF m 208 #[.val (.int fl), .val (.int 1), .val (.ref b133), .val (.ref s_NO_NEW_OPEN), .val (.ref b169), .val (.ref s_NO_NEW_OPEN), .unset] [(.ref s_NO_NEW_OPEN_code)])) rfl (by rw [hml]; rfl) (argsL := [(.ref s_NO_NEW_OPEN_code)]) (rest := []) (lenOf pd0_1 rfl) rfl (by show 2 * 0 + _ ≤ _; exact Nat.le_of_eq rfl) (hb hby at_208) (fun _ _ => ⟨rfl, eh175, (by decide : 10 + 7 ≤ _), (by decide : 81 + 55 ≤ _)⟩)
    dsimp only [Pt.U, Pt.locs, Pt.cells, Pt.slots] at X176 hS176 hg176 l176 y176 z176 st176 hQ176 C176
    subst l176 y176 z176
    obtain ⟨X176, hS, hZ, hown⟩ := rebS hS (show _ ≤ T175.heap.size from by rw [eh175]; exact (Nat.le_refl _)) X176 hS176 hg176 hZ hown
    have CR176 := CHr.trans CR173 C176
    obtain ⟨rfl, N176q, K176⟩ := hQ176
    have F177_coder_b169 := F174_coder_b169.keep K176 nin0
    have F177_value_b169 := F174_value_b169.keep K176 nin0
    have E177_b169 := E174_b169.keep K176
    have V177_b133 := V174_b133.keep K176 nin0
    have V177_b101_103_102_171 := V174_b101_103_102_171.keep K176 nin0
    have Z177 := Nat.le_trans Z174 K176.1
    have K177 : Keep h0 T176.heap [] := Keep.trans K174 K176 all0
    have N176 := Fr.app N175 N176q
    refine GoW.by (fun _ kont => st176.trans (XS.astore X176.here hx rfl (hb hby at_211) rfl rfl (l' := #[.val (.int fl), .val (.int 1), .val (.ref b133), .val (.ref s_NO_NEW_OPEN), .val (.ref b169), .val (.ref s_NO_NEW_OPEN), .val (.ref s_NO_NEW_OPEN)]) rfl (XS.aload X176.here hx rfl (hb hby at_213) rfl rfl (XS.aloadN X176.here hx rfl (hb hby at_215) rfl rfl kont)))) ?_
    show GoW _ _ _ _ _ _ _ (T176.setTop (mkF m 216 #[.val (.int fl), .val (.int 1), .val (.ref b133), .val (.ref s_NO_NEW_OPEN), .val (.ref b169), .val (.ref s_NO_NEW_OPEN), .val (.ref s_NO_NEW_OPEN)] [(.ref s_NO_NEW_OPEN), (.ref s_NO_NEW_OPEN)]))
    refine GoW.by (fun _ kont => Jvm.RoadKit.acmp (g := (mkF m 216 #[.val (.int fl), .val (.int 1), .val (.ref b133), .val (.ref s_NO_NEW_OPEN), .val (.ref b169), .val (.ref s_NO_NEW_OPEN), .val (.ref s_NO_NEW_OPEN)] [(.ref s_NO_NEW_OPEN), (.ref s_NO_NEW_OPEN)])) X176 hx rfl rfl rfl (pc0 := 216) (pc' := 219) (same := true) rfl (hb hby at_216) rfl (decide_eq_true rfl) (by decide) (by decide) kont) ?_
    show GoW _ _ _ _ _ _ _ (T176.setTop (mkF m 219 #[.val (.int fl), .val (.int 1), .val (.ref b133), .val (.ref s_NO_NEW_OPEN), .val (.ref b169), .val (.ref s_NO_NEW_OPEN), .val (.ref s_NO_NEW_OPEN)] []))
    refine GoW.by (fun _ kont => XS.aload X176.here hx rfl (hb hby at_219) rfl rfl (XS.aloadN X176.here hx rfl (hb hby at_221) rfl rfl kont)) ?_
    show GoW _ _ _ _ _ _ _ (T176.setTop (mkF m 222 #[.val (.int fl), .val (.int 1), .val (.ref b133), .val (.ref s_NO_NEW_OPEN), .val (.ref b169), .val (.ref s_NO_NEW_OPEN), .val (.ref s_NO_NEW_OPEN)] [(.ref s_NO_NEW_OPEN), (.ref s_NO_NEW_OPEN)]))
    refine GoW.by (fun _ kont => Jvm.RoadKit.acmp (g := (mkF m 222 #[.val (.int fl), .val (.int 1), .val (.ref b133), .val (.ref s_NO_NEW_OPEN), .val (.ref b169), .val (.ref s_NO_NEW_OPEN), .val (.ref s_NO_NEW_OPEN)] [(.ref s_NO_NEW_OPEN), (.ref s_NO_NEW_OPEN)])) X176 hx rfl rfl rfl (pc0 := 222) (pc' := 225) (same := true) rfl (hb hby at_222) rfl (decide_eq_true rfl) (by decide) (by decide) kont) ?_
    show GoW _ _ _ _ _ _ _ (T176.setTop (mkF m 225 #[.val (.int fl), .val (.int 1), .val (.ref b133), .val (.ref s_NO_NEW_OPEN), .val (.ref b169), .val (.ref s_NO_NEW_OPEN), .val (.ref s_NO_NEW_OPEN)] []))
    obtain ⟨cq178, kq178, q178a, q178b, q178c⟩ := isOf hZ rfl (E_s_NO_NEW_OPEN.keep K177)
    obtain ⟨_, _, ⟨T178, L178, k178, n178⟩, -, X178, ⟨Lc178, hQ178, l178, y178, z178⟩, st178⟩ := X176.virtualBack hx (y := (⟨"com/example/lotbook/lotbook/AccountStatus", "code", "()Ljava/lang/String;"⟩ : MethodName)) (z := (⟨"com/example/lotbook/lotbook/AccountStatus", "code", "()Ljava/lang/String;"⟩ : MethodName)) hown (mvT hZ (own_w hw 102 rfl)) (mvT hZ (own_w hw 103 rfl)) (notFace_of_selects (args := #[]) (mvT hZ (own_w hw 104 rfl))) (mvT hZ (own_w hw 104 rfl)) (mvT hZ (own_w hw 83 rfl)) (by decide) (backOf (W := 0) (rmSc l Z a0 hw [] s_NO_NEW_OPEN s_NO_NEW_OPEN_code T176.heap n0 Z177 (E_s_NO_NEW_OPEN.keep K177) (F_s_NO_NEW_OPEN_code.keep K177 nin0)) hZ (own_w hw 87 rfl) (own_w hw 3 rfl) (by decide) (by decide)) q178a q178c (g := (mkF m 226 #[.val (.int fl), .val (.int 1), .val (.ref b133), .val (.ref s_NO_NEW_OPEN), .val (.ref b169), .val (.ref s_NO_NEW_OPEN), .val (.ref s_NO_NEW_OPEN)] [(.ref s_NO_NEW_OPEN)])) rfl (by rw [hml]; rfl) (Steps.refl _) (argsL := []) (rest := []) (lenOf pd0_2 rfl) rfl (by show 2 * 0 + _ ≤ _; exact Nat.le_of_eq rfl) (hb hby at_226) (fun _ _ => ⟨rfl, rfl, (by decide : 17 + 0 ≤ _), (by decide : 136 + 0 ≤ _)⟩)
    dsimp only [Pt.U, Pt.locs, Pt.cells, Pt.slots] at X178 l178 y178 z178 st178 hQ178
    subst l178 y178 z178
    obtain ⟨rfl, N178q, eh178⟩ := hQ178
    have N178 := Fr.app N176 N178q
    obtain ⟨cq179, kq179, q179a, q179b, q179c⟩ := isOf hZ eh178 (E_s_NO_NEW_OPEN_code.keep K177)
    obtain ⟨_, _, ⟨T179, L179, k179, n179⟩, -, X179, ⟨Lc179, hQ179, l179, y179, z179⟩, st179⟩ := X178.virtualBack hx (y := (⟨"java/lang/String", "equals", "(Ljava/lang/Object;)Z"⟩ : MethodName)) (z := (⟨"java/lang/String", "equals", "(Ljava/lang/Object;)Z"⟩ : MethodName)) hown (mvT hZ (own_w hw 105 rfl)) (mvT hZ (own_w hw 91 rfl)) (notFace_of_selects (args := #[]) (mvT hZ (own_w hw 93 rfl))) (mvT hZ (own_w hw 93 rfl)) (mvT hZ (own_w hw 92 rfl)) (by decide) (backOf (W := 0) (rmEq11 l Z a0 hw [] s_NO_NEW_OPEN_code b169 s_NO_NEW_OPEN_code_value b101_103_102_171 kc_s_NO_NEW_OPEN_code_value k101_103_102_171 cs T176.heap n0 Z177 (E_s_NO_NEW_OPEN_code.keep K177) (F_s_NO_NEW_OPEN_code_coder.keep K177 nin0) (F_s_NO_NEW_OPEN_code_value.keep K177 nin0) E177_b169 F177_coder_b169 F177_value_b169 (V_s_NO_NEW_OPEN_code_value.keep K177 nin0) V177_b101_103_102_171 (own_nlt (F_s_NO_NEW_OPEN_code_coder.keep K167 nin0).lt (Nat.le_of_eq g169.symm)) (own_stakeep S_cs K177 all0) hcs) hZ (own_w hw 94 rfl) (own_w hw 7 rfl) (by decide) (by decide)) q179a q179c (g := (mkF m 231 #[.val (.int fl), .val (.int 1), .val (.ref b133), .val (.ref s_NO_NEW_OPEN), .val (.ref b169), .val (.ref s_NO_NEW_OPEN), .val (.ref s_NO_NEW_OPEN)] [(.ref b169), (.ref s_NO_NEW_OPEN_code)])) rfl (by rw [hml]; rfl) (Steps.refl _) (argsL := [(.ref b169)]) (rest := []) (lenOf pd0_3 rfl) rfl (by show 2 * 0 + _ ≤ _; exact Nat.le_of_eq rfl) (hb hby at_231) (fun _ _ => ⟨rfl, eh178, (by decide : 17 + 0 ≤ _), (by decide : 136 + 0 ≤ _)⟩)
    dsimp only [Pt.U, Pt.locs, Pt.cells, Pt.slots] at X179 l179 y179 z179 st179 hQ179
    subst l179 y179 z179
    obtain ⟨rfl, N179q, eh179⟩ := hQ179
    have N179 := Fr.app N178 N179q
    refine GoW.by (fun _ kont => XS.aloadN X176.here hx rfl (hb hby at_225) rfl rfl (st178.trans (XS.aload X178.here hx rfl (hb hby at_229) rfl rfl (st179.trans (XS.ifNo X179.here hx rfl (hb hby at_234) rfl (by decide) (XS.iconst X179.here hx rfl (hb hby at_237) (XS.goto X179.here hx rfl (pc0 := 238) (pc' := 242) rfl (hb hby at_238) (by decide) (by decide) kont))))))) ?_
    show GoW _ _ _ _ _ _ _ (T179.setTop (mkF m 242 #[.val (.int fl), .val (.int 1), .val (.ref b133), .val (.ref s_NO_NEW_OPEN), .val (.ref b169), .val (.ref s_NO_NEW_OPEN), .val (.ref s_NO_NEW_OPEN)] [(.int 1)]))
    refine GoW.retN X179 hS (by rw [eh179]; exact (Nat.le_refl _)) hx (t := .boolean) hret (by simp) hlk (hb hby at_242) ?_ (by decide) (by decide)
    show Q0 Z h0 n0 (some (.int (1 : Int32))) T179.heap _
    rw [eh179]
    exact ⟨rfl, N179⟩
  · show GoW _ _ _ _ _ _ _ (s₁.setTop (mkF m 7 #[.val (.int fl), .val (.int 2), .unset, .unset, .unset, .unset, .unset] []))
    obtain ⟨T180, h180, k180, X180, e180, X_180, A180, st180⟩ := newP X0 hx hZ (own_w hw 1 rfl) e0 (g := (mkF m 132 #[.val (.int fl), .val (.int 2), .unset, .unset, .unset, .unset, .unset] [(.int 9)])) rfl (hb hby at_132) rfl (by decide) (cap := 9) (by decide) (by decide) (by decide) (by decide)
    obtain ⟨b180, g180⟩ : ∃ z, z = h0.size := ⟨_, rfl⟩
    rw [← g180] at A180 st180
    have ge_b180 : n0 ≤ b180 := Nat.le_trans Z0 (Nat.le_of_eq g180.symm)
    have sz_b180 : h0.size ≤ b180 := Nat.le_trans (Keep.refl h0 []).1 (Nat.le_of_eq g180.symm)
    have Z181 := Nat.le_trans Z0 X_180.1
    have hk181 := Nat.le_trans hk0 X_180.1
    have K181 : Keep h0 h180 [] := (Keep.refl h0 []).ext X_180
    have V180 : Arv Z h180 b180 k180 .char (9 : Int32) [(.int 0), (.int 0), (.int 0), (.int 0), (.int 0), (.int 0), (.int 0), (.int 0), (.int 0)] (.int 0) := (Arv.new A180 (by decide)).pad (pad_rep [] (.int 0) 9)
    obtain ⟨cl_q182, Ar_q182, q1_q182, S_q182, N_q182, H_q182, G_q182⟩ := id V180
    have hin_q182 := own_ib S_q182 (0 : Int32) (by decide)
    obtain ⟨T183, h183, X183, e183, W183, st183⟩ := stC X180 hx hZ e180 Ar_q182 (j := (0 : Int32)) hin_q182 (g := (mkF m 138 #[.val (.int fl), .val (.int 2), .unset, .unset, .unset, .unset, .unset] [(.int 108), (.int 0), (.ref b180), (.ref b180)])) rfl rfl (hb hby at_138)
    have V183 : Arv Z h183 b180 k180 .char (9 : Int32) [(.int (nar .char (108 : Int32))), (.int 0), (.int 0), (.int 0), (.int 0), (.int 0), (.int 0), (.int 0), (.int 0)] (.int 0) := Arv.set Ar_q182 q1_q182 S_q182 N_q182 H_q182 G_q182 (fits_nar_char _) W183 0 rfl (Nat.le_of_ble_eq_true rfl)
    rw [show (nar .char (108 : Int32)) = (108 : Int32) from by decide] at V183
    have Z184 := Nat.le_trans Z181 (Keep.of_wr W183).1
    have hk184 := Nat.le_trans hk181 (Keep.of_wr W183).1
    have K184 : Keep h0 h183 [] := K181.wr W183 (Or.inr sz_b180)
    have N183 := Fr.snoc X183 N0 ge_b180
    obtain ⟨cl_q185, Ar_q185, q1_q185, S_q185, N_q185, H_q185, G_q185⟩ := id V183
    have hin_q185 := own_ib S_q185 (1 : Int32) (by decide)
    obtain ⟨T186, h186, X186, e186, W186, st186⟩ := stC X183 hx hZ e183 Ar_q185 (j := (1 : Int32)) hin_q185 (g := (mkF m 143 #[.val (.int fl), .val (.int 2), .unset, .unset, .unset, .unset, .unset] [(.int 105), (.int 1), (.ref b180), (.ref b180)])) rfl rfl (hb hby at_143)
    have V186 : Arv Z h186 b180 k180 .char (9 : Int32) [(.int 108), (.int (nar .char (105 : Int32))), (.int 0), (.int 0), (.int 0), (.int 0), (.int 0), (.int 0), (.int 0)] (.int 0) := Arv.set Ar_q185 q1_q185 S_q185 N_q185 H_q185 G_q185 (fits_nar_char _) W186 1 rfl (Nat.le_of_ble_eq_true rfl)
    rw [show (nar .char (105 : Int32)) = (105 : Int32) from by decide] at V186
    have Z187 := Nat.le_trans Z184 (Keep.of_wr W186).1
    have hk187 := Nat.le_trans hk184 (Keep.of_wr W186).1
    have K187 : Keep h0 h186 [] := K184.wr W186 (Or.inr sz_b180)
    have N186 := Fr.snoc X186 N183 ge_b180
    obtain ⟨cl_q188, Ar_q188, q1_q188, S_q188, N_q188, H_q188, G_q188⟩ := id V186
    have hin_q188 := own_ib S_q188 (2 : Int32) (by decide)
    obtain ⟨T189, h189, X189, e189, W189, st189⟩ := stC X186 hx hZ e186 Ar_q188 (j := (2 : Int32)) hin_q188 (g := (mkF m 148 #[.val (.int fl), .val (.int 2), .unset, .unset, .unset, .unset, .unset] [(.int 113), (.int 2), (.ref b180), (.ref b180)])) rfl rfl (hb hby at_148)
    have V189 : Arv Z h189 b180 k180 .char (9 : Int32) [(.int 108), (.int 105), (.int (nar .char (113 : Int32))), (.int 0), (.int 0), (.int 0), (.int 0), (.int 0), (.int 0)] (.int 0) := Arv.set Ar_q188 q1_q188 S_q188 N_q188 H_q188 G_q188 (fits_nar_char _) W189 2 rfl (Nat.le_of_ble_eq_true rfl)
    rw [show (nar .char (113 : Int32)) = (113 : Int32) from by decide] at V189
    have Z190 := Nat.le_trans Z187 (Keep.of_wr W189).1
    have hk190 := Nat.le_trans hk187 (Keep.of_wr W189).1
    have K190 : Keep h0 h189 [] := K187.wr W189 (Or.inr sz_b180)
    have N189 := Fr.snoc X189 N186 ge_b180
    obtain ⟨cl_q191, Ar_q191, q1_q191, S_q191, N_q191, H_q191, G_q191⟩ := id V189
    have hin_q191 := own_ib S_q191 (3 : Int32) (by decide)
    obtain ⟨T192, h192, X192, e192, W192, st192⟩ := stC X189 hx hZ e189 Ar_q191 (j := (3 : Int32)) hin_q191 (g := (mkF m 153 #[.val (.int fl), .val (.int 2), .unset, .unset, .unset, .unset, .unset] [(.int 117), (.int 3), (.ref b180), (.ref b180)])) rfl rfl (hb hby at_153)
    have V192 : Arv Z h192 b180 k180 .char (9 : Int32) [(.int 108), (.int 105), (.int 113), (.int (nar .char (117 : Int32))), (.int 0), (.int 0), (.int 0), (.int 0), (.int 0)] (.int 0) := Arv.set Ar_q191 q1_q191 S_q191 N_q191 H_q191 G_q191 (fits_nar_char _) W192 3 rfl (Nat.le_of_ble_eq_true rfl)
    rw [show (nar .char (117 : Int32)) = (117 : Int32) from by decide] at V192
    have Z193 := Nat.le_trans Z190 (Keep.of_wr W192).1
    have hk193 := Nat.le_trans hk190 (Keep.of_wr W192).1
    have K193 : Keep h0 h192 [] := K190.wr W192 (Or.inr sz_b180)
    have N192 := Fr.snoc X192 N189 ge_b180
    obtain ⟨cl_q194, Ar_q194, q1_q194, S_q194, N_q194, H_q194, G_q194⟩ := id V192
    have hin_q194 := own_ib S_q194 (4 : Int32) (by decide)
    obtain ⟨T195, h195, X195, e195, W195, st195⟩ := stC X192 hx hZ e192 Ar_q194 (j := (4 : Int32)) hin_q194 (g := (mkF m 158 #[.val (.int fl), .val (.int 2), .unset, .unset, .unset, .unset, .unset] [(.int 105), (.int 4), (.ref b180), (.ref b180)])) rfl rfl (hb hby at_158)
    have V195 : Arv Z h195 b180 k180 .char (9 : Int32) [(.int 108), (.int 105), (.int 113), (.int 117), (.int (nar .char (105 : Int32))), (.int 0), (.int 0), (.int 0), (.int 0)] (.int 0) := Arv.set Ar_q194 q1_q194 S_q194 N_q194 H_q194 G_q194 (fits_nar_char _) W195 4 rfl (Nat.le_of_ble_eq_true rfl)
    rw [show (nar .char (105 : Int32)) = (105 : Int32) from by decide] at V195
    have Z196 := Nat.le_trans Z193 (Keep.of_wr W195).1
    have hk196 := Nat.le_trans hk193 (Keep.of_wr W195).1
    have K196 : Keep h0 h195 [] := K193.wr W195 (Or.inr sz_b180)
    have N195 := Fr.snoc X195 N192 ge_b180
    obtain ⟨cl_q197, Ar_q197, q1_q197, S_q197, N_q197, H_q197, G_q197⟩ := id V195
    have hin_q197 := own_ib S_q197 (5 : Int32) (by decide)
    obtain ⟨T198, h198, X198, e198, W198, st198⟩ := stC X195 hx hZ e195 Ar_q197 (j := (5 : Int32)) hin_q197 (g := (mkF m 163 #[.val (.int fl), .val (.int 2), .unset, .unset, .unset, .unset, .unset] [(.int 100), (.int 5), (.ref b180), (.ref b180)])) rfl rfl (hb hby at_163)
    have V198 : Arv Z h198 b180 k180 .char (9 : Int32) [(.int 108), (.int 105), (.int 113), (.int 117), (.int 105), (.int (nar .char (100 : Int32))), (.int 0), (.int 0), (.int 0)] (.int 0) := Arv.set Ar_q197 q1_q197 S_q197 N_q197 H_q197 G_q197 (fits_nar_char _) W198 5 rfl (Nat.le_of_ble_eq_true rfl)
    rw [show (nar .char (100 : Int32)) = (100 : Int32) from by decide] at V198
    have Z199 := Nat.le_trans Z196 (Keep.of_wr W198).1
    have hk199 := Nat.le_trans hk196 (Keep.of_wr W198).1
    have K199 : Keep h0 h198 [] := K196.wr W198 (Or.inr sz_b180)
    have N198 := Fr.snoc X198 N195 ge_b180
    obtain ⟨cl_q200, Ar_q200, q1_q200, S_q200, N_q200, H_q200, G_q200⟩ := id V198
    have hin_q200 := own_ib S_q200 (6 : Int32) (by decide)
    obtain ⟨T201, h201, X201, e201, W201, st201⟩ := stC X198 hx hZ e198 Ar_q200 (j := (6 : Int32)) hin_q200 (g := (mkF m 169 #[.val (.int fl), .val (.int 2), .unset, .unset, .unset, .unset, .unset] [(.int 97), (.int 6), (.ref b180), (.ref b180)])) rfl rfl (hb hby at_169)
    have V201 : Arv Z h201 b180 k180 .char (9 : Int32) [(.int 108), (.int 105), (.int 113), (.int 117), (.int 105), (.int 100), (.int (nar .char (97 : Int32))), (.int 0), (.int 0)] (.int 0) := Arv.set Ar_q200 q1_q200 S_q200 N_q200 H_q200 G_q200 (fits_nar_char _) W201 6 rfl (Nat.le_of_ble_eq_true rfl)
    rw [show (nar .char (97 : Int32)) = (97 : Int32) from by decide] at V201
    have Z202 := Nat.le_trans Z199 (Keep.of_wr W201).1
    have hk202 := Nat.le_trans hk199 (Keep.of_wr W201).1
    have K202 : Keep h0 h201 [] := K199.wr W201 (Or.inr sz_b180)
    have N201 := Fr.snoc X201 N198 ge_b180
    obtain ⟨cl_q203, Ar_q203, q1_q203, S_q203, N_q203, H_q203, G_q203⟩ := id V201
    have hin_q203 := own_ib S_q203 (7 : Int32) (by decide)
    obtain ⟨T204, h204, X204, e204, W204, st204⟩ := stC X201 hx hZ e201 Ar_q203 (j := (7 : Int32)) hin_q203 (g := (mkF m 175 #[.val (.int fl), .val (.int 2), .unset, .unset, .unset, .unset, .unset] [(.int 116), (.int 7), (.ref b180), (.ref b180)])) rfl rfl (hb hby at_175)
    have V204 : Arv Z h204 b180 k180 .char (9 : Int32) [(.int 108), (.int 105), (.int 113), (.int 117), (.int 105), (.int 100), (.int 97), (.int (nar .char (116 : Int32))), (.int 0)] (.int 0) := Arv.set Ar_q203 q1_q203 S_q203 N_q203 H_q203 G_q203 (fits_nar_char _) W204 7 rfl (Nat.le_of_ble_eq_true rfl)
    rw [show (nar .char (116 : Int32)) = (116 : Int32) from by decide] at V204
    have Z205 := Nat.le_trans Z202 (Keep.of_wr W204).1
    have hk205 := Nat.le_trans hk202 (Keep.of_wr W204).1
    have K205 : Keep h0 h204 [] := K202.wr W204 (Or.inr sz_b180)
    have N204 := Fr.snoc X204 N201 ge_b180
    obtain ⟨cl_q206, Ar_q206, q1_q206, S_q206, N_q206, H_q206, G_q206⟩ := id V204
    have hin_q206 := own_ib S_q206 (8 : Int32) (by decide)
    obtain ⟨T207, h207, X207, e207, W207, st207⟩ := stC X204 hx hZ e204 Ar_q206 (j := (8 : Int32)) hin_q206 (g := (mkF m 181 #[.val (.int fl), .val (.int 2), .unset, .unset, .unset, .unset, .unset] [(.int 101), (.int 8), (.ref b180), (.ref b180)])) rfl rfl (hb hby at_181)
    have V207 : Arv Z h207 b180 k180 .char (9 : Int32) [(.int 108), (.int 105), (.int 113), (.int 117), (.int 105), (.int 100), (.int 97), (.int 116), (.int (nar .char (101 : Int32)))] (.int 0) := Arv.set Ar_q206 q1_q206 S_q206 N_q206 H_q206 G_q206 (fits_nar_char _) W207 8 rfl (Nat.le_of_ble_eq_true rfl)
    rw [show (nar .char (101 : Int32)) = (101 : Int32) from by decide] at V207
    have Z208 := Nat.le_trans Z205 (Keep.of_wr W207).1
    have hk208 := Nat.le_trans hk205 (Keep.of_wr W207).1
    have K208 : Keep h0 h207 [] := K205.wr W207 (Or.inr sz_b180)
    have N207 := Fr.snoc X207 N204 ge_b180
    obtain ⟨T209, X209, e209, st209⟩ := getS2 X207 hx hZ hown (host := "") (Or.inl (own_w hw 106 rfl)) Via.refl e207 (own_stakeep S_LIQUIDATE K208 all0) (g := (mkF m 183 #[.val (.int fl), .val (.int 2), .val (.ref b180), .unset, .unset, .unset, .unset] [])) rfl (hb hby at_183)
    obtain ⟨T210, h210, X210, e210, X_210, A210, D210, -, st210⟩ := newO X209 hx hZ hown (own_w hw 5 rfl) (own_w hw 6 rfl) (own_w hw 7 rfl) e209 (g := (mkF m 187 #[.val (.int fl), .val (.int 2), .val (.ref b180), .val (.ref s_LIQUIDATE), .unset, .unset, .unset] [])) rfl (hb hby at_187) (by decide) (by decide)
    obtain ⟨b210, g210⟩ : ∃ z, z = h207.size := ⟨_, rfl⟩
    rw [← g210] at A210 D210 st210
    have ge_b210 : n0 ≤ b210 := Nat.le_trans Z208 (Nat.le_of_eq g210.symm)
    have sz_b210 : h0.size ≤ b210 := Nat.le_trans K208.1 (Nat.le_of_eq g210.symm)
    have V211_b180 := V207.ext X_210
    have Z211 := Nat.le_trans Z208 X_210.1
    have hk211 := Nat.le_trans hk208 X_210.1
    have K211 : Keep h0 h210 [] := K208.ext X_210
    have F210_coder : Fld Z h210 b210 "java/lang/String" "coder" "B" (.int 0) := D210 (Or.inr (own_w hw 31 rfl)) (ty := .byte) (by decide)
    have F210_value : Fld Z h210 b210 "java/lang/String" "value" "[B" .null := D210 (Or.inr (own_w hw 33 rfl)) (ty := (.array .byte)) (by decide)
    obtain ⟨_, _, ⟨T212, L212, k212, n212⟩, -, X212, ⟨Lc212, hQ212, l212, y212, z212⟩, st212⟩ := X210.specialBack hx (y := (⟨"java/lang/String", "<init>", "([C)V"⟩ : MethodName)) rfl hown (mvT hZ (own_w hw 8 rfl)) (mvT hZ (own_w hw 9 rfl)) (mvT hZ (own_w hw 10 rfl)) (by decide) (backOf (W := 1) (rmNa2 l Z a0 hw [] b210 b180 k180 cs h210 n0 Z211 A210 F210_coder F210_value V211_b180 (Ne.symm (own_nlt V207.lt (Nat.le_of_eq g210.symm))) (own_stakeep S_cs K211 all0) ge_b210 hcs) hZ (own_w hw 10 rfl) (own_w hw 7 rfl) (by decide) (by decide)) (g := (mkF m 192 #[.val (.int fl), .val (.int 2), .val (.ref b180), .val (.ref s_LIQUIDATE), .unset, .unset, .unset] [(.ref b180), (.ref b210), (.ref b210)])) rfl (by rw [hml]; rfl) (Steps.refl _) (a := b210) (argsL := [(.ref b180)]) (rest := [(.ref b210)]) (lenOf pd0_0 rfl) rfl (by show 2 * 0 + _ ≤ _; exact Nat.le_of_eq rfl) (hb hby at_192) (fun _ _ => ⟨rfl, e210, (by decide : 2 + 1 ≤ _), (by decide : 13 + 9 ≤ _)⟩)
    dsimp only [Pt.U, Pt.locs, Pt.cells, Pt.slots] at X212 l212 y212 z212 st212 hQ212
    subst l212 y212 z212
    obtain ⟨b101_103_102_212, k101_103_102_212, rfl, N212q, K212, g212_0, g212_1, g212_2, ge_b101_103_102_212, szc_b101_103_102_212, g212_3⟩ := hQ212
    have sz_b101_103_102_212 : h0.size ≤ b101_103_102_212 := Nat.le_trans K211.1 szc_b101_103_102_212
    have E213_b210 := A210.keep K212
    have V213_b180 := V211_b180.keep K212 (ninS (own_nlt V207.lt (Nat.le_of_eq g210.symm)) nin0)
    have Z213 := Nat.le_trans Z211 K212.1
    have hk213 := Nat.le_trans hk211 K212.1
    have K213 : Keep h0 T212.heap [] := Keep.trans K211 K212 (allS (Or.inr sz_b210) all0)
    have N212 := Fr.app N207 N212q
    refine GoW.by (fun _ kont => XS.iloadN X0.here hx rfl (hb hby at_7) rfl (XS.ifYes X0.here hx rfl (pc0 := 8) (pc' := 53) rfl (hb hby at_8) rfl (by decide) (by decide) (by decide) (XS.iloadN X0.here hx rfl (hb hby at_53) rfl (XS.iconst X0.here hx rfl (hb hby at_54) (XS.icmpYes X0.here hx rfl (pc0 := 55) (pc' := 130) rfl (hb hby at_55) rfl (by decide) (by decide) (by decide) (XS.bipush X0.here hx rfl (hb hby at_130) (st180 _ (XS.dup X180.here hx rfl (hb hby at_134) rfl rfl (XS.iconst X180.here hx rfl (hb hby at_135) (XS.bipush X180.here hx rfl (hb hby at_136) (st183 _ (XS.dup X183.here hx rfl (hb hby at_139) rfl rfl (XS.iconst X183.here hx rfl (hb hby at_140) (XS.bipush X183.here hx rfl (hb hby at_141) (st186 _ (XS.dup X186.here hx rfl (hb hby at_144) rfl rfl (XS.iconst X186.here hx rfl (hb hby at_145) (XS.bipush X186.here hx rfl (hb hby at_146) (st189 _ (XS.dup X189.here hx rfl (hb hby at_149) rfl rfl (XS.iconst X189.here hx rfl (hb hby at_150) (XS.bipush X189.here hx rfl (hb hby at_151) (st192 _ (XS.dup X192.here hx rfl (hb hby at_154) rfl rfl (XS.iconst X192.here hx rfl (hb hby at_155) (XS.bipush X192.here hx rfl (hb hby at_156) (st195 _ (XS.dup X195.here hx rfl (hb hby at_159) rfl rfl (XS.iconst X195.here hx rfl (hb hby at_160) (XS.bipush X195.here hx rfl (hb hby at_161) (st198 _ (XS.dup X198.here hx rfl (hb hby at_164) rfl rfl (XS.bipush X198.here hx rfl (hb hby at_165) (XS.bipush X198.here hx rfl (hb hby at_167) (st201 _ (XS.dup X201.here hx rfl (hb hby at_170) rfl rfl (XS.bipush X201.here hx rfl (hb hby at_171) (XS.bipush X201.here hx rfl (hb hby at_173) (st204 _ (XS.dup X204.here hx rfl (hb hby at_176) rfl rfl (XS.bipush X204.here hx rfl (hb hby at_177) (XS.bipush X204.here hx rfl (hb hby at_179) (st207 _ (XS.astoreN X207.here hx rfl (hb hby at_182) rfl rfl (l' := #[.val (.int fl), .val (.int 2), .val (.ref b180), .unset, .unset, .unset, .unset]) rfl (st209 _ (XS.astoreN X209.here hx rfl (hb hby at_186) rfl rfl (l' := #[.val (.int fl), .val (.int 2), .val (.ref b180), .val (.ref s_LIQUIDATE), .unset, .unset, .unset]) rfl (st210 _ (XS.dup X210.here hx rfl (hb hby at_190) rfl rfl (XS.aloadN X210.here hx rfl (hb hby at_191) rfl rfl (st212.trans (XS.astore X212.here hx rfl (hb hby at_195) rfl rfl (l' := #[.val (.int fl), .val (.int 2), .val (.ref b180), .val (.ref s_LIQUIDATE), .val (.ref b210), .unset, .unset]) rfl (XS.aload X212.here hx rfl (hb hby at_197) rfl rfl kont)))))))))))))))))))))))))))))))))))))))))))))))))))) ?_
    show GoW _ _ _ _ _ _ _ (T212.setTop (mkF m 199 #[.val (.int fl), .val (.int 2), .val (.ref b180), .val (.ref s_LIQUIDATE), .val (.ref b210), .unset, .unset] [(.ref b210)]))
    obtain ⟨_, _, ⟨T214, L214, k214, n214⟩, -, X214, hS214, hg214, ⟨Lc214, hQ214, l214, y214, z214, C214⟩, st214⟩ := callSS X212 hx (y := (⟨"com/example/lotbook/lotbook/AccountStatus", "fromCode", "(Ljava/lang/String;)Lcom/example/lotbook/lotbook/AccountStatus;"⟩ : MethodName)) hown (mvT hZ (own_w hw 34 rfl)) (mvT hZ (own_w hw 35 rfl)) (mvT hZ (own_w hw 3 rfl)) (mvT hZ (own_w hw 36 rfl)) (by decide) (backOfSH (W := 0) (rmAf2f l Z a0 hw [] b210 s_NORMAL s_NORMAL_code s_NO_NEW_OPEN s_NO_NEW_OPEN_code s_LIQUIDATE s_LIQUIDATE_code s_NORMAL_code_value s_NO_NEW_OPEN_code_value s_LIQUIDATE_code_value b101_103_102_212 s__VALUES kc_s__VALUES kc_s_NORMAL_code_value kc_s_NO_NEW_OPEN_code_value kc_s_LIQUIDATE_code_value k101_103_102_212 cs T212.heap n0 Z213 (E_s_NORMAL.keep K213) (F_s_NORMAL_code.keep K213 nin0) (E_s_NO_NEW_OPEN.keep K213) (F_s_NO_NEW_OPEN_code.keep K213 nin0) (E_s_LIQUIDATE.keep K213) (F_s_LIQUIDATE_code.keep K213 nin0) (E_s_NORMAL_code.keep K213) (F_s_NORMAL_code_coder.keep K213 nin0) (F_s_NORMAL_code_value.keep K213 nin0) (E_s_NO_NEW_OPEN_code.keep K213) (F_s_NO_NEW_OPEN_code_coder.keep K213 nin0) (F_s_NO_NEW_OPEN_code_value.keep K213 nin0) (E_s_LIQUIDATE_code.keep K213) (F_s_LIQUIDATE_code_coder.keep K213 nin0) (F_s_LIQUIDATE_code_value.keep K213 nin0) g212_0 g212_1 g212_2 (E_s__VALUES.keep K213) (V_s__VALUES.keep K213 nin0) (V_s_NORMAL_code_value.keep K213 nin0) (V_s_NO_NEW_OPEN_code_value.keep K213 nin0) (V_s_LIQUIDATE_code_value.keep K213 nin0) g212_3 (own_nlt (F_s_NORMAL_code_coder.keep K208 nin0).lt (Nat.le_of_eq g210.symm)) (own_nlt (F_s_NO_NEW_OPEN_code_coder.keep K208 nin0).lt (Nat.le_of_eq g210.symm)) (own_nlt (F_s_LIQUIDATE_code_coder.keep K208 nin0).lt (Nat.le_of_eq g210.symm)) (own_stakeep S_cs K213 all0) (own_stakeep S__VALUES K213 all0) hcs) hZ (own_w hw 36 rfl) (own_w hw 3 rfl) (by decide) (by decide) hEL (CHr.keep K213 sf0 CR0.1).1) (g := (mkF m 199 #[.val (.int fl), .val (.int 2), .val (.ref b180), .val (.ref s_LIQUIDATE), .val (.ref b210), .unset, .unset] [(.ref b210)])) rfl (by rw [hml]; rfl) (argsL := [(.ref b210)]) (rest := []) (lenOf pd0_1 rfl) rfl (by show 2 * 0 + _ ≤ _; exact Nat.le_of_eq rfl) (hb hby at_199) (fun _ _ => ⟨rfl, rfl, (by decide : 3 + 10 ≤ _), (by decide : 22 + 109 ≤ _)⟩)
    dsimp only [Pt.U, Pt.locs, Pt.cells, Pt.slots] at X214 hS214 hg214 l214 y214 z214 st214 hQ214 C214
    subst l214 y214 z214
    obtain ⟨X214, hS, hZ, hown⟩ := rebS hS (show _ ≤ T212.heap.size from hk213) X214 hS214 hg214 hZ hown
    have CR214 := CHr.trans (CHr.keep K213 sf0 CR0.1) C214
    obtain ⟨rfl, N214q, K214⟩ := hQ214
    have F215_coder_b210 := g212_1.keep K214 nin0
    have F215_value_b210 := g212_2.keep K214 nin0
    have E215_b210 := g212_0.keep K214
    have V215_b180 := V213_b180.keep K214 nin0
    have V215_b101_103_102_212 := g212_3.keep K214 nin0
    have Z215 := Nat.le_trans Z213 K214.1
    have K215 : Keep h0 T214.heap [] := Keep.trans K213 K214 all0
    have N214 := Fr.app N212 N214q
    obtain ⟨cq216, kq216, q216a, q216b, q216c⟩ := isOf hZ rfl (E_s_LIQUIDATE.keep K215)
    obtain ⟨_, _, ⟨T216, L216, k216, n216⟩, -, X216, ⟨Lc216, hQ216, l216, y216, z216⟩, st216⟩ := X214.virtualBack hx (y := (⟨"com/example/lotbook/lotbook/AccountStatus", "code", "()Ljava/lang/String;"⟩ : MethodName)) (z := (⟨"com/example/lotbook/lotbook/AccountStatus", "code", "()Ljava/lang/String;"⟩ : MethodName)) hown (mvT hZ (own_w hw 102 rfl)) (mvT hZ (own_w hw 103 rfl)) (notFace_of_selects (args := #[]) (mvT hZ (own_w hw 104 rfl))) (mvT hZ (own_w hw 104 rfl)) (mvT hZ (own_w hw 83 rfl)) (by decide) (backOf (W := 0) (rmSc l Z a0 hw [] s_LIQUIDATE s_LIQUIDATE_code T214.heap n0 Z215 (E_s_LIQUIDATE.keep K215) (F_s_LIQUIDATE_code.keep K215 nin0)) hZ (own_w hw 87 rfl) (own_w hw 3 rfl) (by decide) (by decide)) q216a q216c (g := (mkF m 205 #[.val (.int fl), .val (.int 2), .val (.ref b180), .val (.ref s_LIQUIDATE), .val (.ref b210), .val (.ref s_LIQUIDATE), .unset] [(.ref s_LIQUIDATE)])) rfl (by rw [hml]; rfl) (Steps.refl _) (argsL := []) (rest := []) (lenOf pd0_2 rfl) rfl (by show 2 * 0 + _ ≤ _; exact Nat.le_of_eq rfl) (hb hby at_205) (fun _ _ => ⟨rfl, rfl, (by decide : 13 + 0 ≤ _), (by decide : 131 + 0 ≤ _)⟩)
    dsimp only [Pt.U, Pt.locs, Pt.cells, Pt.slots] at X216 l216 y216 z216 st216 hQ216
    subst l216 y216 z216
    obtain ⟨rfl, N216q, eh216⟩ := hQ216
    have N216 := Fr.app N214 N216q
    refine GoW.by (fun _ kont => st214.trans (XS.astore X214.here hx rfl (hb hby at_202) rfl rfl (l' := #[.val (.int fl), .val (.int 2), .val (.ref b180), .val (.ref s_LIQUIDATE), .val (.ref b210), .val (.ref s_LIQUIDATE), .unset]) rfl (XS.aloadN X214.here hx rfl (hb hby at_204) rfl rfl (st216.trans kont)))) ?_
    show GoW _ _ _ _ _ _ _ (T216.setTop (mkF m 208 #[.val (.int fl), .val (.int 2), .val (.ref b180), .val (.ref s_LIQUIDATE), .val (.ref b210), .val (.ref s_LIQUIDATE), .unset] [(.ref s_LIQUIDATE_code)]))
    obtain ⟨_, _, ⟨T217, L217, k217, n217⟩, -, X217, hS217, hg217, ⟨Lc217, hQ217, l217, y217, z217, C217⟩, st217⟩ := callSS X216 hx (y := (⟨"com/example/lotbook/lotbook/AccountStatus", "fromCode", "(Ljava/lang/String;)Lcom/example/lotbook/lotbook/AccountStatus;"⟩ : MethodName)) hown (mvT hZ (own_w hw 34 rfl)) (mvT hZ (own_w hw 35 rfl)) (mvT hZ (own_w hw 3 rfl)) (mvT hZ (own_w hw 36 rfl)) (by decide) (backOfSH (W := 0) (rmAf2s l Z a0 hw [] s_LIQUIDATE_code s_NORMAL s_NORMAL_code s_NO_NEW_OPEN s_NO_NEW_OPEN_code s_LIQUIDATE s_NORMAL_code_value s_NO_NEW_OPEN_code_value s_LIQUIDATE_code_value s__VALUES kc_s__VALUES kc_s_NORMAL_code_value kc_s_NO_NEW_OPEN_code_value kc_s_LIQUIDATE_code_value cs T214.heap n0 Z215 (E_s_NORMAL.keep K215) (F_s_NORMAL_code.keep K215 nin0) (E_s_NO_NEW_OPEN.keep K215) (F_s_NO_NEW_OPEN_code.keep K215 nin0) (E_s_LIQUIDATE.keep K215) (F_s_LIQUIDATE_code.keep K215 nin0) (E_s_NORMAL_code.keep K215) (F_s_NORMAL_code_coder.keep K215 nin0) (F_s_NORMAL_code_value.keep K215 nin0) (E_s_NO_NEW_OPEN_code.keep K215) (F_s_NO_NEW_OPEN_code_coder.keep K215 nin0) (F_s_NO_NEW_OPEN_code_value.keep K215 nin0) (E_s_LIQUIDATE_code.keep K215) (F_s_LIQUIDATE_code_coder.keep K215 nin0) (F_s_LIQUIDATE_code_value.keep K215 nin0) (E_s__VALUES.keep K215) (V_s__VALUES.keep K215 nin0) (V_s_NORMAL_code_value.keep K215 nin0) (V_s_NO_NEW_OPEN_code_value.keep K215 nin0) (V_s_LIQUIDATE_code_value.keep K215 nin0) (Ne.symm nn_s_LIQUIDATE_code_s_NORMAL_code) (Ne.symm nn_s_LIQUIDATE_code_s_NO_NEW_OPEN_code) (own_stakeep S_cs K215 all0) (own_stakeep S__VALUES K215 all0) hcs) hZ (own_w hw 36 rfl) (own_w hw 3 rfl) (by decide) (by decide) hEL CR214.1) (g := (mkF m 208 #[.val (.int fl), .val (.int 2), .val (.ref b180), .val (.ref s_LIQUIDATE), .val (.ref b210), .val (.ref s_LIQUIDATE), .unset] [(.ref s_LIQUIDATE_code)])) rfl (by rw [hml]; rfl) (argsL := [(.ref s_LIQUIDATE_code)]) (rest := []) (lenOf pd0_1 rfl) rfl (by show 2 * 0 + _ ≤ _; exact Nat.le_of_eq rfl) (hb hby at_208) (fun _ _ => ⟨rfl, eh216, (by decide : 13 + 10 ≤ _), (by decide : 131 + 109 ≤ _)⟩)
    dsimp only [Pt.U, Pt.locs, Pt.cells, Pt.slots] at X217 hS217 hg217 l217 y217 z217 st217 hQ217 C217
    subst l217 y217 z217
    obtain ⟨X217, hS, hZ, hown⟩ := rebS hS (show _ ≤ T216.heap.size from by rw [eh216]; exact (Nat.le_refl _)) X217 hS217 hg217 hZ hown
    have CR217 := CHr.trans CR214 C217
    obtain ⟨rfl, N217q, K217⟩ := hQ217
    have F218_coder_b210 := F215_coder_b210.keep K217 nin0
    have F218_value_b210 := F215_value_b210.keep K217 nin0
    have E218_b210 := E215_b210.keep K217
    have V218_b180 := V215_b180.keep K217 nin0
    have V218_b101_103_102_212 := V215_b101_103_102_212.keep K217 nin0
    have Z218 := Nat.le_trans Z215 K217.1
    have K218 : Keep h0 T217.heap [] := Keep.trans K215 K217 all0
    have N217 := Fr.app N216 N217q
    refine GoW.by (fun _ kont => st217.trans (XS.astore X217.here hx rfl (hb hby at_211) rfl rfl (l' := #[.val (.int fl), .val (.int 2), .val (.ref b180), .val (.ref s_LIQUIDATE), .val (.ref b210), .val (.ref s_LIQUIDATE), .val (.ref s_LIQUIDATE)]) rfl (XS.aload X217.here hx rfl (hb hby at_213) rfl rfl (XS.aloadN X217.here hx rfl (hb hby at_215) rfl rfl kont)))) ?_
    show GoW _ _ _ _ _ _ _ (T217.setTop (mkF m 216 #[.val (.int fl), .val (.int 2), .val (.ref b180), .val (.ref s_LIQUIDATE), .val (.ref b210), .val (.ref s_LIQUIDATE), .val (.ref s_LIQUIDATE)] [(.ref s_LIQUIDATE), (.ref s_LIQUIDATE)]))
    refine GoW.by (fun _ kont => Jvm.RoadKit.acmp (g := (mkF m 216 #[.val (.int fl), .val (.int 2), .val (.ref b180), .val (.ref s_LIQUIDATE), .val (.ref b210), .val (.ref s_LIQUIDATE), .val (.ref s_LIQUIDATE)] [(.ref s_LIQUIDATE), (.ref s_LIQUIDATE)])) X217 hx rfl rfl rfl (pc0 := 216) (pc' := 219) (same := true) rfl (hb hby at_216) rfl (decide_eq_true rfl) (by decide) (by decide) kont) ?_
    show GoW _ _ _ _ _ _ _ (T217.setTop (mkF m 219 #[.val (.int fl), .val (.int 2), .val (.ref b180), .val (.ref s_LIQUIDATE), .val (.ref b210), .val (.ref s_LIQUIDATE), .val (.ref s_LIQUIDATE)] []))
    refine GoW.by (fun _ kont => XS.aload X217.here hx rfl (hb hby at_219) rfl rfl (XS.aloadN X217.here hx rfl (hb hby at_221) rfl rfl kont)) ?_
    show GoW _ _ _ _ _ _ _ (T217.setTop (mkF m 222 #[.val (.int fl), .val (.int 2), .val (.ref b180), .val (.ref s_LIQUIDATE), .val (.ref b210), .val (.ref s_LIQUIDATE), .val (.ref s_LIQUIDATE)] [(.ref s_LIQUIDATE), (.ref s_LIQUIDATE)]))
    refine GoW.by (fun _ kont => Jvm.RoadKit.acmp (g := (mkF m 222 #[.val (.int fl), .val (.int 2), .val (.ref b180), .val (.ref s_LIQUIDATE), .val (.ref b210), .val (.ref s_LIQUIDATE), .val (.ref s_LIQUIDATE)] [(.ref s_LIQUIDATE), (.ref s_LIQUIDATE)])) X217 hx rfl rfl rfl (pc0 := 222) (pc' := 225) (same := true) rfl (hb hby at_222) rfl (decide_eq_true rfl) (by decide) (by decide) kont) ?_
    show GoW _ _ _ _ _ _ _ (T217.setTop (mkF m 225 #[.val (.int fl), .val (.int 2), .val (.ref b180), .val (.ref s_LIQUIDATE), .val (.ref b210), .val (.ref s_LIQUIDATE), .val (.ref s_LIQUIDATE)] []))
    obtain ⟨cq219, kq219, q219a, q219b, q219c⟩ := isOf hZ rfl (E_s_LIQUIDATE.keep K218)
    obtain ⟨_, _, ⟨T219, L219, k219, n219⟩, -, X219, ⟨Lc219, hQ219, l219, y219, z219⟩, st219⟩ := X217.virtualBack hx (y := (⟨"com/example/lotbook/lotbook/AccountStatus", "code", "()Ljava/lang/String;"⟩ : MethodName)) (z := (⟨"com/example/lotbook/lotbook/AccountStatus", "code", "()Ljava/lang/String;"⟩ : MethodName)) hown (mvT hZ (own_w hw 102 rfl)) (mvT hZ (own_w hw 103 rfl)) (notFace_of_selects (args := #[]) (mvT hZ (own_w hw 104 rfl))) (mvT hZ (own_w hw 104 rfl)) (mvT hZ (own_w hw 83 rfl)) (by decide) (backOf (W := 0) (rmSc l Z a0 hw [] s_LIQUIDATE s_LIQUIDATE_code T217.heap n0 Z218 (E_s_LIQUIDATE.keep K218) (F_s_LIQUIDATE_code.keep K218 nin0)) hZ (own_w hw 87 rfl) (own_w hw 3 rfl) (by decide) (by decide)) q219a q219c (g := (mkF m 226 #[.val (.int fl), .val (.int 2), .val (.ref b180), .val (.ref s_LIQUIDATE), .val (.ref b210), .val (.ref s_LIQUIDATE), .val (.ref s_LIQUIDATE)] [(.ref s_LIQUIDATE)])) rfl (by rw [hml]; rfl) (Steps.refl _) (argsL := []) (rest := []) (lenOf pd0_2 rfl) rfl (by show 2 * 0 + _ ≤ _; exact Nat.le_of_eq rfl) (hb hby at_226) (fun _ _ => ⟨rfl, rfl, (by decide : 23 + 0 ≤ _), (by decide : 240 + 0 ≤ _)⟩)
    dsimp only [Pt.U, Pt.locs, Pt.cells, Pt.slots] at X219 l219 y219 z219 st219 hQ219
    subst l219 y219 z219
    obtain ⟨rfl, N219q, eh219⟩ := hQ219
    have N219 := Fr.app N217 N219q
    obtain ⟨cq220, kq220, q220a, q220b, q220c⟩ := isOf hZ eh219 (E_s_LIQUIDATE_code.keep K218)
    obtain ⟨_, _, ⟨T220, L220, k220, n220⟩, -, X220, ⟨Lc220, hQ220, l220, y220, z220⟩, st220⟩ := X219.virtualBack hx (y := (⟨"java/lang/String", "equals", "(Ljava/lang/Object;)Z"⟩ : MethodName)) (z := (⟨"java/lang/String", "equals", "(Ljava/lang/Object;)Z"⟩ : MethodName)) hown (mvT hZ (own_w hw 105 rfl)) (mvT hZ (own_w hw 91 rfl)) (notFace_of_selects (args := #[]) (mvT hZ (own_w hw 93 rfl))) (mvT hZ (own_w hw 93 rfl)) (mvT hZ (own_w hw 92 rfl)) (by decide) (backOf (W := 0) (rmEq22 l Z a0 hw [] s_LIQUIDATE_code b210 s_LIQUIDATE_code_value b101_103_102_212 kc_s_LIQUIDATE_code_value k101_103_102_212 cs T217.heap n0 Z218 (E_s_LIQUIDATE_code.keep K218) (F_s_LIQUIDATE_code_coder.keep K218 nin0) (F_s_LIQUIDATE_code_value.keep K218 nin0) E218_b210 F218_coder_b210 F218_value_b210 (V_s_LIQUIDATE_code_value.keep K218 nin0) V218_b101_103_102_212 (own_nlt (F_s_LIQUIDATE_code_coder.keep K208 nin0).lt (Nat.le_of_eq g210.symm)) (own_stakeep S_cs K218 all0) hcs) hZ (own_w hw 94 rfl) (own_w hw 7 rfl) (by decide) (by decide)) q220a q220c (g := (mkF m 231 #[.val (.int fl), .val (.int 2), .val (.ref b180), .val (.ref s_LIQUIDATE), .val (.ref b210), .val (.ref s_LIQUIDATE), .val (.ref s_LIQUIDATE)] [(.ref b210), (.ref s_LIQUIDATE_code)])) rfl (by rw [hml]; rfl) (Steps.refl _) (argsL := [(.ref b210)]) (rest := []) (lenOf pd0_3 rfl) rfl (by show 2 * 0 + _ ≤ _; exact Nat.le_of_eq rfl) (hb hby at_231) (fun _ _ => ⟨rfl, eh219, (by decide : 23 + 0 ≤ _), (by decide : 240 + 0 ≤ _)⟩)
    dsimp only [Pt.U, Pt.locs, Pt.cells, Pt.slots] at X220 l220 y220 z220 st220 hQ220
    subst l220 y220 z220
    obtain ⟨rfl, N220q, eh220⟩ := hQ220
    have N220 := Fr.app N219 N220q
    refine GoW.by (fun _ kont => XS.aloadN X217.here hx rfl (hb hby at_225) rfl rfl (st219.trans (XS.aload X219.here hx rfl (hb hby at_229) rfl rfl (st220.trans (XS.ifNo X220.here hx rfl (hb hby at_234) rfl (by decide) (XS.iconst X220.here hx rfl (hb hby at_237) (XS.goto X220.here hx rfl (pc0 := 238) (pc' := 242) rfl (hb hby at_238) (by decide) (by decide) kont))))))) ?_
    show GoW _ _ _ _ _ _ _ (T220.setTop (mkF m 242 #[.val (.int fl), .val (.int 2), .val (.ref b180), .val (.ref s_LIQUIDATE), .val (.ref b210), .val (.ref s_LIQUIDATE), .val (.ref s_LIQUIDATE)] [(.int 1)]))
    refine GoW.retN X220 hS (by rw [eh220]; exact (Nat.le_refl _)) hx (t := .boolean) hret (by simp) hlk (hb hby at_242) ?_ (by decide) (by decide)
    show Q0 Z h0 n0 (some (.int (1 : Int32))) T220.heap _
    rw [eh220]
    exact ⟨rfl, N220⟩

set_option maxRecDepth 65536 in
set_option maxHeartbeats 40000000 in
theorem comes_1 {Post : Tables → Env → Array Value → State → Outcome → State → Prop} (hpost : ∀ tb e args s v u, (limb_1_1.after args s (.returned v) u = true ∧ limb_1_2.after args s (.returned v) u = true ∧ True) → ReturnedEndW s (.returned v) u (Jvm.fieldLocs frame_1_writes args s ++ Jvm.arrayLocs frame_1_arrays args s ++ Jvm.staticLocs frame_1_statics s) 40 3456 → Post tb e args s (.returned v) u) :
    ArmFor flags0 classFile x code maxLocals ret World_1 tables_1 room_1 Calls_1 rest_1 Pre_1 Post := by
  intro l hfl _ _ p e ha hc hk s m args below hf hA hF happ hP
  obtain ⟨hcalls, hrest, hpre⟩ := hP
  obtain ⟨-, -, -, hnamed, -, -, -, hat⟩ := (Spec.applies_iff hf).mp happ
  obtain ⟨hg, hn⟩ := and_e (Cond.before_iff.mp (show (Jvm.Cond.and given_1 narrow_1).before args s = true from hpre))
  obtain ⟨hh1, hh2⟩ := and_e hg
  obtain ⟨w0, rfl⟩ : ∃ w0 : Value, args = #[w0] := by
    have hs : args.size = 1 := by simpa [Cond.value, given_1] using hh1
    obtain ⟨L⟩ := args
    match L, hs with
    | [w0], _ => exact ⟨w0, rfl⟩
  have hw := fun d (hd : d ∈ tables_1) => atoms_spec (ws := Jvm.Cond.code x code maxLocals ret :: tables_1) hat d (List.mem_cons_of_mem _ hd)
  obtain ⟨i0, ei0⟩ := is_v hh2
  obtain rfl : w0 = (.int i0) := Option.some.inj ei0
  have hfit : Fit s := fun {y c} hc i hi => by
    obtain ⟨ha, rfl⟩ := Array.getElem?_eq_some_iff.mp hc
    have q := List.all_eq_true.mp ((Array.all_eq_true_iff_forall_mem.mp hF) _ (Array.getElem_mem ha)) i (List.mem_range.mpr hi)
    simpa [Array.getElem?_eq_getElem hi] using q
  obtain ⟨hm1, hm2⟩ := and_e hn
  obtain ⟨hm3, hm4⟩ := and_e hm2
  obtain ⟨hm5, hm6⟩ := and_e hm4
  obtain ⟨hm7, hm8⟩ := and_e hm6
  obtain ⟨hm9, hm10⟩ := and_e hm8
  obtain ⟨hm11, hm12⟩ := and_e hm10
  obtain ⟨hm13, hm14⟩ := and_e hm12
  obtain ⟨hm15, hm16⟩ := and_e hm14
  obtain ⟨hm17, hm18⟩ := and_e hm16
  obtain ⟨hm19, hm20⟩ := and_e hm18
  obtain ⟨hm21, hm22⟩ := and_e hm20
  obtain ⟨hm23, hm24⟩ := and_e hm22
  obtain ⟨hm25, hm26⟩ := and_e hm24
  obtain ⟨hm27, hm28⟩ := and_e hm26
  obtain ⟨hm29, hm30⟩ := and_e hm28
  obtain ⟨hm31, hm32⟩ := and_e hm30
  obtain ⟨hm33, hm34⟩ := and_e hm32
  obtain ⟨hm35, hm36⟩ := and_e hm34
  obtain ⟨hm37, hm38⟩ := and_e hm36
  obtain ⟨hm39, hm40⟩ := and_e hm38
  obtain ⟨hm41, hm42⟩ := and_e hm40
  obtain ⟨hm43, hm44⟩ := and_e hm42
  obtain ⟨hm45, hm46⟩ := and_e hm44
  obtain ⟨hm47, hm48⟩ := and_e hm46
  obtain ⟨hm49, hm50⟩ := and_e hm48
  obtain ⟨hm51, hm52⟩ := and_e hm50
  obtain ⟨hm53, hm54⟩ := and_e hm52
  obtain ⟨hm55, hm56⟩ := and_e hm54
  obtain ⟨hm57, hm58⟩ := and_e hm56
  obtain ⟨hm59, hm60⟩ := and_e hm58
  obtain ⟨hm61, hm62⟩ := and_e hm60
  obtain ⟨hm63, hm64⟩ := and_e hm62
  obtain ⟨hm65, hm66⟩ := and_e hm64
  obtain ⟨hm67, hm68⟩ := and_e hm66
  obtain ⟨hm69, hm70⟩ := and_e hm68
  obtain ⟨hm71, hm72⟩ := and_e hm70
  obtain ⟨hm73, hm74⟩ := and_e hm72
  obtain ⟨hm75, hm76⟩ := and_e hm74
  obtain ⟨hm77, hm78⟩ := and_e hm76
  obtain ⟨hm79, hm80⟩ := and_e hm78
  obtain ⟨hm81, hm82⟩ := and_e hm80
  obtain ⟨hm83, hm84⟩ := and_e hm82
  obtain ⟨hm85, hm86⟩ := and_e hm84
  obtain ⟨hm87, hm88⟩ := and_e hm86
  obtain ⟨hm89, hm90⟩ := and_e hm88
  obtain ⟨hm91, hm92⟩ := and_e hm90
  obtain ⟨hm93, hm94⟩ := and_e hm92
  obtain ⟨hm95, hm96⟩ := and_e hm94
  obtain ⟨hm97, hm98⟩ := and_e hm96
  obtain ⟨hm99, hm100⟩ := and_e hm98
  obtain ⟨hm101, hm102⟩ := and_e hm100
  obtain ⟨s_NORMAL, ev103⟩ := exa_v hm1
  have S_NORMAL : Sta s s.heap "com/example/lotbook/lotbook/AccountStatus" "NORMAL" "Lcom/example/lotbook/lotbook/AccountStatus;" (.ref s_NORMAL) := Sta.start ev103 (Or.inr ⟨(own_w hw 3 rfl), (own_w hw 4 rfl)⟩)
  have E_s_NORMAL : Exa s s.heap s_NORMAL "com/example/lotbook/lotbook/AccountStatus" := Exa.start ev103 hm1
  obtain ⟨s__VALUES, ev104⟩ := arr_v hm3
  have S__VALUES : Sta s s.heap "com/example/lotbook/lotbook/AccountStatus" "$VALUES" "[Lcom/example/lotbook/lotbook/AccountStatus;" (.ref s__VALUES) := Sta.start ev104 (Or.inl (own_w hw 51 rfl))
  obtain ⟨cl_s__VALUES, Ar_s__VALUES⟩ := Arr.start ev104 hm3
  have E_s__VALUES : Exa s s.heap s__VALUES "[Lcom/example/lotbook/lotbook/AccountStatus;" := Exa.start ev104 hm5
  have L_s__VALUES := own_lenv (own_eqI hm7) ev104 Ar_s__VALUES.1
  have El_s__VALUES_0 := (elem_in (own_eqR hm9 ev103) ev104 (Term.int_eval _) Ar_s__VALUES.1).2
  obtain ⟨s_NO_NEW_OPEN, ev108⟩ := exa_v hm11
  have S_NO_NEW_OPEN : Sta s s.heap "com/example/lotbook/lotbook/AccountStatus" "NO_NEW_OPEN" "Lcom/example/lotbook/lotbook/AccountStatus;" (.ref s_NO_NEW_OPEN) := Sta.start ev108 (Or.inr ⟨(own_w hw 3 rfl), (own_w hw 49 rfl)⟩)
  have E_s_NO_NEW_OPEN : Exa s s.heap s_NO_NEW_OPEN "com/example/lotbook/lotbook/AccountStatus" := Exa.start ev108 hm11
  have El_s__VALUES_1 := (elem_in (own_eqR hm13 ev108) ev104 (Term.int_eval _) Ar_s__VALUES.1).2
  obtain ⟨s_LIQUIDATE, ev110⟩ := exa_v hm15
  have S_LIQUIDATE : Sta s s.heap "com/example/lotbook/lotbook/AccountStatus" "LIQUIDATE" "Lcom/example/lotbook/lotbook/AccountStatus;" (.ref s_LIQUIDATE) := Sta.start ev110 (Or.inr ⟨(own_w hw 3 rfl), (own_w hw 50 rfl)⟩)
  have E_s_LIQUIDATE : Exa s s.heap s_LIQUIDATE "com/example/lotbook/lotbook/AccountStatus" := Exa.start ev110 hm15
  have El_s__VALUES_2 := (elem_in (own_eqR hm17 ev110) ev104 (Term.int_eval _) Ar_s__VALUES.1).2
  obtain ⟨s_NORMAL_code, ev112⟩ := exa_v hm19
  have F_s_NORMAL_code : Fld s s.heap s_NORMAL "com/example/lotbook/lotbook/AccountStatus" "code" "Ljava/lang/String;" (.ref s_NORMAL_code) := Fld.start ((fld_at ev103).symm.trans ev112)
  have E_s_NORMAL_code : Exa s s.heap s_NORMAL_code "java/lang/String" := Exa.start ev112 hm19
  have F_s_NORMAL_code_coder : Fld s s.heap s_NORMAL_code "java/lang/String" "coder" "B" (.int 0) := Fld.start ((fld_at ev112).symm.trans (own_eqI hm21))
  obtain ⟨s_NORMAL_code_value, ev114⟩ := arr_v hm23
  have F_s_NORMAL_code_value : Fld s s.heap s_NORMAL_code "java/lang/String" "value" "[B" (.ref s_NORMAL_code_value) := Fld.start ((fld_at ev112).symm.trans ev114)
  obtain ⟨cl_s_NORMAL_code_value, Ar_s_NORMAL_code_value⟩ := Arr.start ev114 hm23
  have E_s_NORMAL_code_value : Exa s s.heap s_NORMAL_code_value "[B" := Exa.start ev114 hm25
  have L_s_NORMAL_code_value := own_lenv (own_eqI hm27) ev114 Ar_s_NORMAL_code_value.1
  obtain ⟨s_NO_NEW_OPEN_code, ev117⟩ := exa_v hm29
  have F_s_NO_NEW_OPEN_code : Fld s s.heap s_NO_NEW_OPEN "com/example/lotbook/lotbook/AccountStatus" "code" "Ljava/lang/String;" (.ref s_NO_NEW_OPEN_code) := Fld.start ((fld_at ev108).symm.trans ev117)
  have E_s_NO_NEW_OPEN_code : Exa s s.heap s_NO_NEW_OPEN_code "java/lang/String" := Exa.start ev117 hm29
  have F_s_NO_NEW_OPEN_code_coder : Fld s s.heap s_NO_NEW_OPEN_code "java/lang/String" "coder" "B" (.int 0) := Fld.start ((fld_at ev117).symm.trans (own_eqI hm31))
  obtain ⟨s_NO_NEW_OPEN_code_value, ev119⟩ := arr_v hm33
  have F_s_NO_NEW_OPEN_code_value : Fld s s.heap s_NO_NEW_OPEN_code "java/lang/String" "value" "[B" (.ref s_NO_NEW_OPEN_code_value) := Fld.start ((fld_at ev117).symm.trans ev119)
  obtain ⟨cl_s_NO_NEW_OPEN_code_value, Ar_s_NO_NEW_OPEN_code_value⟩ := Arr.start ev119 hm33
  have E_s_NO_NEW_OPEN_code_value : Exa s s.heap s_NO_NEW_OPEN_code_value "[B" := Exa.start ev119 hm35
  have L_s_NO_NEW_OPEN_code_value := own_lenv (own_eqI hm37) ev119 Ar_s_NO_NEW_OPEN_code_value.1
  obtain ⟨s_LIQUIDATE_code, ev122⟩ := exa_v hm39
  have F_s_LIQUIDATE_code : Fld s s.heap s_LIQUIDATE "com/example/lotbook/lotbook/AccountStatus" "code" "Ljava/lang/String;" (.ref s_LIQUIDATE_code) := Fld.start ((fld_at ev110).symm.trans ev122)
  have E_s_LIQUIDATE_code : Exa s s.heap s_LIQUIDATE_code "java/lang/String" := Exa.start ev122 hm39
  have F_s_LIQUIDATE_code_coder : Fld s s.heap s_LIQUIDATE_code "java/lang/String" "coder" "B" (.int 0) := Fld.start ((fld_at ev122).symm.trans (own_eqI hm41))
  obtain ⟨s_LIQUIDATE_code_value, ev124⟩ := arr_v hm43
  have F_s_LIQUIDATE_code_value : Fld s s.heap s_LIQUIDATE_code "java/lang/String" "value" "[B" (.ref s_LIQUIDATE_code_value) := Fld.start ((fld_at ev122).symm.trans ev124)
  obtain ⟨cl_s_LIQUIDATE_code_value, Ar_s_LIQUIDATE_code_value⟩ := Arr.start ev124 hm43
  have L_s_LIQUIDATE_code_value := own_lenv (own_eqI hm45) ev124 Ar_s_LIQUIDATE_code_value.1
  have nn_s_LIQUIDATE_code_s_NORMAL_code : s_LIQUIDATE_code ≠ s_NORMAL_code := own_neR hm47 ev122 ev112
  have nn_s_LIQUIDATE_code_s_NO_NEW_OPEN_code : s_LIQUIDATE_code ≠ s_NO_NEW_OPEN_code := own_neR hm49 ev122 ev117
  have nn_s_NORMAL_code_s_NO_NEW_OPEN_code : s_NORMAL_code ≠ s_NO_NEW_OPEN_code := own_neR hm51 ev112 ev117
  have El_s_NORMAL_code_value_0 := (elem_in (own_eqI hm53) ev114 (Term.int_eval _) Ar_s_NORMAL_code_value.1).2
  have El_s_NORMAL_code_value_1 := (elem_in (own_eqI hm55) ev114 (Term.int_eval _) Ar_s_NORMAL_code_value.1).2
  have El_s_NORMAL_code_value_2 := (elem_in (own_eqI hm57) ev114 (Term.int_eval _) Ar_s_NORMAL_code_value.1).2
  have El_s_NORMAL_code_value_3 := (elem_in (own_eqI hm59) ev114 (Term.int_eval _) Ar_s_NORMAL_code_value.1).2
  have El_s_NORMAL_code_value_4 := (elem_in (own_eqI hm61) ev114 (Term.int_eval _) Ar_s_NORMAL_code_value.1).2
  have El_s_NORMAL_code_value_5 := (elem_in (own_eqI hm63) ev114 (Term.int_eval _) Ar_s_NORMAL_code_value.1).2
  have El_s_NO_NEW_OPEN_code_value_0 := (elem_in (own_eqI hm65) ev119 (Term.int_eval _) Ar_s_NO_NEW_OPEN_code_value.1).2
  have El_s_NO_NEW_OPEN_code_value_1 := (elem_in (own_eqI hm67) ev119 (Term.int_eval _) Ar_s_NO_NEW_OPEN_code_value.1).2
  have El_s_NO_NEW_OPEN_code_value_2 := (elem_in (own_eqI hm69) ev119 (Term.int_eval _) Ar_s_NO_NEW_OPEN_code_value.1).2
  have El_s_NO_NEW_OPEN_code_value_3 := (elem_in (own_eqI hm71) ev119 (Term.int_eval _) Ar_s_NO_NEW_OPEN_code_value.1).2
  have El_s_NO_NEW_OPEN_code_value_4 := (elem_in (own_eqI hm73) ev119 (Term.int_eval _) Ar_s_NO_NEW_OPEN_code_value.1).2
  have El_s_NO_NEW_OPEN_code_value_5 := (elem_in (own_eqI hm75) ev119 (Term.int_eval _) Ar_s_NO_NEW_OPEN_code_value.1).2
  have El_s_NO_NEW_OPEN_code_value_6 := (elem_in (own_eqI hm77) ev119 (Term.int_eval _) Ar_s_NO_NEW_OPEN_code_value.1).2
  have El_s_NO_NEW_OPEN_code_value_7 := (elem_in (own_eqI hm79) ev119 (Term.int_eval _) Ar_s_NO_NEW_OPEN_code_value.1).2
  have El_s_NO_NEW_OPEN_code_value_8 := (elem_in (own_eqI hm81) ev119 (Term.int_eval _) Ar_s_NO_NEW_OPEN_code_value.1).2
  have El_s_NO_NEW_OPEN_code_value_9 := (elem_in (own_eqI hm83) ev119 (Term.int_eval _) Ar_s_NO_NEW_OPEN_code_value.1).2
  have El_s_NO_NEW_OPEN_code_value_10 := (elem_in (own_eqI hm85) ev119 (Term.int_eval _) Ar_s_NO_NEW_OPEN_code_value.1).2
  have El_s_LIQUIDATE_code_value_0 := (elem_in (own_eqI hm87) ev124 (Term.int_eval _) Ar_s_LIQUIDATE_code_value.1).2
  have El_s_LIQUIDATE_code_value_1 := (elem_in (own_eqI hm89) ev124 (Term.int_eval _) Ar_s_LIQUIDATE_code_value.1).2
  have El_s_LIQUIDATE_code_value_2 := (elem_in (own_eqI hm91) ev124 (Term.int_eval _) Ar_s_LIQUIDATE_code_value.1).2
  have El_s_LIQUIDATE_code_value_3 := (elem_in (own_eqI hm93) ev124 (Term.int_eval _) Ar_s_LIQUIDATE_code_value.1).2
  have El_s_LIQUIDATE_code_value_4 := (elem_in (own_eqI hm95) ev124 (Term.int_eval _) Ar_s_LIQUIDATE_code_value.1).2
  have El_s_LIQUIDATE_code_value_5 := (elem_in (own_eqI hm97) ev124 (Term.int_eval _) Ar_s_LIQUIDATE_code_value.1).2
  have El_s_LIQUIDATE_code_value_6 := (elem_in (own_eqI hm99) ev124 (Term.int_eval _) Ar_s_LIQUIDATE_code_value.1).2
  have El_s_LIQUIDATE_code_value_7 := (elem_in (own_eqI hm101) ev124 (Term.int_eval _) Ar_s_LIQUIDATE_code_value.1).2
  have El_s_LIQUIDATE_code_value_8 := (elem_in (own_eqI hm102) ev124 (Term.int_eval _) Ar_s_LIQUIDATE_code_value.1).2
  have V_s__VALUES : Arv s s.heap s__VALUES cl_s__VALUES.cls (.object "com/example/lotbook/lotbook/AccountStatus") (3 : Int32) [(.ref s_NORMAL), (.ref s_NO_NEW_OPEN), (.ref s_LIQUIDATE)] .null := Arv.start hfit Ar_s__VALUES L_s__VALUES.1 L_s__VALUES.2 (by decide) rfl ⟨El_s__VALUES_0, El_s__VALUES_1, El_s__VALUES_2, trivial⟩
  have V_s_NORMAL_code_value : Arv s s.heap s_NORMAL_code_value cl_s_NORMAL_code_value.cls .byte (6 : Int32) [(.int 110), (.int 111), (.int 114), (.int 109), (.int 97), (.int 108)] (.int (0 : Int32)) := Arv.start hfit Ar_s_NORMAL_code_value L_s_NORMAL_code_value.1 L_s_NORMAL_code_value.2 (by decide) rfl ⟨El_s_NORMAL_code_value_0, El_s_NORMAL_code_value_1, El_s_NORMAL_code_value_2, El_s_NORMAL_code_value_3, El_s_NORMAL_code_value_4, El_s_NORMAL_code_value_5, trivial⟩
  have V_s_NO_NEW_OPEN_code_value : Arv s s.heap s_NO_NEW_OPEN_code_value cl_s_NO_NEW_OPEN_code_value.cls .byte (11 : Int32) [(.int 110), (.int 111), (.int 95), (.int 110), (.int 101), (.int 119), (.int 95), (.int 111), (.int 112), (.int 101), (.int 110)] (.int (0 : Int32)) := Arv.start hfit Ar_s_NO_NEW_OPEN_code_value L_s_NO_NEW_OPEN_code_value.1 L_s_NO_NEW_OPEN_code_value.2 (by decide) rfl ⟨El_s_NO_NEW_OPEN_code_value_0, El_s_NO_NEW_OPEN_code_value_1, El_s_NO_NEW_OPEN_code_value_2, El_s_NO_NEW_OPEN_code_value_3, El_s_NO_NEW_OPEN_code_value_4, El_s_NO_NEW_OPEN_code_value_5, El_s_NO_NEW_OPEN_code_value_6, El_s_NO_NEW_OPEN_code_value_7, El_s_NO_NEW_OPEN_code_value_8, El_s_NO_NEW_OPEN_code_value_9, El_s_NO_NEW_OPEN_code_value_10, trivial⟩
  have V_s_LIQUIDATE_code_value : Arv s s.heap s_LIQUIDATE_code_value cl_s_LIQUIDATE_code_value.cls .byte (9 : Int32) [(.int 108), (.int 105), (.int 113), (.int 117), (.int 105), (.int 100), (.int 97), (.int 116), (.int 101)] (.int (0 : Int32)) := Arv.start hfit Ar_s_LIQUIDATE_code_value L_s_LIQUIDATE_code_value.1 L_s_LIQUIDATE_code_value.2 (by decide) rfl ⟨El_s_LIQUIDATE_code_value_0, El_s_LIQUIDATE_code_value_1, El_s_LIQUIDATE_code_value_2, El_s_LIQUIDATE_code_value_3, El_s_LIQUIDATE_code_value_4, El_s_LIQUIDATE_code_value_5, El_s_LIQUIDATE_code_value_6, El_s_LIQUIDATE_code_value_7, El_s_LIQUIDATE_code_value_8, trivial⟩
  obtain ⟨hsets, hown0⟩ := atoms_of _ (rest_1_c_eq ▸ (show rest_1_c.before _ s = true from hrest))
  obtain ⟨cs, evcs⟩ := is_v (Cond.before_iff.mp (hsets _ (List.mem_of_getElem? (i := 1) rfl)))
  have S_cs : Sta s s.heap "java/lang/String" "COMPACT_STRINGS" "Z" (.int cs) := Sta.start evcs (Or.inl (hsets _ (List.mem_of_getElem? (i := 0) rfl)))
  have hcs : ¬ (cs = (0 : Int32)) := by
    intro q; subst q; have h := Cond.before_iff.mp (hsets _ (List.mem_of_getElem? (i := 2) rfl)); simp [Cond.value, evcs, Term.int_eval] at h
  obtain ⟨n, o, h1, h2, h3, _, L, rfl, ⟨rfl, N⟩, hq⟩ := rm0 l s _ hw tables_1 i0 s_NORMAL s__VALUES s_NO_NEW_OPEN s_LIQUIDATE s_NORMAL_code s_NORMAL_code_value s_NO_NEW_OPEN_code s_NO_NEW_OPEN_code_value s_LIQUIDATE_code s_LIQUIDATE_code_value cl_s__VALUES.cls cl_s_NORMAL_code_value.cls cl_s_NO_NEW_OPEN_code_value.cls cl_s_LIQUIDATE_code_value.cls cs s.heap s.heap.size (Nat.le_refl _) S_NORMAL S__VALUES S_NO_NEW_OPEN S_LIQUIDATE E_s_NORMAL E_s__VALUES E_s_NO_NEW_OPEN E_s_LIQUIDATE E_s_NORMAL_code E_s_NORMAL_code_value E_s_NO_NEW_OPEN_code E_s_NO_NEW_OPEN_code_value E_s_LIQUIDATE_code F_s_NORMAL_code F_s_NORMAL_code_coder F_s_NORMAL_code_value F_s_NO_NEW_OPEN_code F_s_NO_NEW_OPEN_code_coder F_s_NO_NEW_OPEN_code_value F_s_LIQUIDATE_code F_s_LIQUIDATE_code_coder F_s_LIQUIDATE_code_value V_s__VALUES V_s_NORMAL_code_value V_s_NO_NEW_OPEN_code_value V_s_LIQUIDATE_code_value nn_s_LIQUIDATE_code_s_NORMAL_code nn_s_LIQUIDATE_code_s_NO_NEW_OPEN_code nn_s_NORMAL_code_s_NO_NEW_OPEN_code S_cs hcs rfl (hsets _ (List.mem_of_getElem? (i := 2) rfl)) (hcalls.1 ("com/example/lotbook/lotbook/Flag", 23) (by simp [consts_1])) (hcalls.1 ("com/example/lotbook/lotbook/Flag", 25) (by simp [consts_1])) p e ha hc hk s m _ below hf ((Spec.applies_iff_loose hf).mp happ).1 ⟨rfl, State.Warmed39.refl s, rfl, rfl⟩ trivial
  refine ⟨n, _, h1, h2, h3, hpost _ _ _ _ _ _ ⟨Cond.after_iff.mpr rfl, Cond.after_iff.mpr (eq_i res_at (Term.int_eval (1)) rfl), trivial⟩ ⟨hq.1, hq.2.1, hq.2.2.1, (hq.2.2.2.sift fun y hy => Or.inr (N y hy)).mono (by decide) (by decide)⟩⟩
theorem main_1_1 : Claimed_1_1 := comes_1 fun _ _ _ _ _ _ h hF => ⟨h.1, hF⟩
theorem main_1_2 : Claimed_1_2 := comes_1 fun _ _ _ _ _ _ h hF => ⟨h.2.1, hF⟩

end Jvm.Pilot.@@N@@
namespace Jvm.Pilot.@@N@@
open Jvm Jvm.ClassFile Sem Op Lib Jvm.Free Jvm.Stand Jvm.Pilot.@@N@@.Jvm.D
/-! MADE BY PROGRAM (witnessworld.py) out of the Statement's table words and the real class files: 29 classes; the members and pool entries that the words name. The judged class is class 1, her method 1. -/
namespace start1
open Jvm.ClassFile
def u (s : String) : CpInfo := .utf8 (stringToUtf16 s)
/-- a pool by its gaps: so many unusable entries, then the entry; so many at the end -/
def gap : Nat → List CpInfo → List CpInfo
  | 0, r => r
  | n + 1, r => .unusable :: gap n r
def poolList (es : List (Nat × CpInfo)) (last : Nat) : List CpInfo := es.foldr (fun e r => gap e.1 (e.2 :: r)) (gap last [])
def pool (es : List (Nat × CpInfo)) (last : Nat) : Array CpInfo := ⟨poolList es last⟩
def fileOf (pool : Array CpInfo) (this : Nat) (attrs : Array Attribute := #[]) (ms : Array MethodInfo := #[]) (fl : Nat := 33) (sup : Nat := 0) (ifs : Array Nat := #[]) (fds : Array FieldInfo := #[]) : ClassFile where
  minorVersion := 0
  majorVersion := 65
  constantPool := pool
  accessFlags := fl
  thisClass := this
  superClass := sup
  interfaces := ifs
  fields := fds
  methods := ms
  attributes := attrs
def plain (name : String) (sup : Option ClassId) : Class where
  name := name
  kind := .ordinary
  loader := none
  accessFlags := 33
  super := sup
  interfaces := #[]
  cf := none
  fields := #[]
  methods := #[]
  instanceTypes := #[]
  staticTypes := #[]
  resolved := #[]
  callSites := []
  init := .initialized
  statics := none
  mirror := none

def pool0 : Array CpInfo := pool [(5, u "<init>"), (0, u "()V"), (1, .class_ 10), (1, u "java/lang/Object"), (85, u "clone"), (0, u "()Ljava/lang/Object;")] 26

def k0c0 : Code := { maxStack := 0, maxLocals := 1, code := object_method_1_code, exceptionTable := #[], attributes := #[] }
def k0m0 : Method := { name := "<init>", desc := "()V", sig := { parameters := [], returnType := none }, accessFlags := 1, code := some k0c0 }
def k0m1 : Method := { name := "clone", desc := "()Ljava/lang/Object;", sig := { parameters := [], returnType := some (.object "java/lang/Object") }, accessFlags := 260, code := none }
/-- java/lang/Object -/
def k0 : Class := { plain "java/lang/Object" none with
  accessFlags := 33
  interfaces := #[]
  cf := some (fileOf pool0 8 #[] #[{ accessFlags := 1, nameIndex := 5, descriptorIndex := 6, attributes := #[] }, { accessFlags := 260, nameIndex := 96, descriptorIndex := 97, attributes := #[] }] 33 0 #[] #[])
  fields := #[]
  methods := #[k0m0, k0m1]
  instanceTypes := #[]
  staticTypes := #[]
  resolved := Array.replicate 124 none
  statics := none }

def pool1 : Array CpInfo := pool [(2, .class_ 4), (1, u "java/lang/Object"), (0, u "<init>"), (0, u "()V"), (0, .integer 2147483647), (0, .fieldref 9 10), (0, .class_ 11), (0, .nameAndType 12 13), (0, u "com/example/lotbook/lotbook/AccountStatus"), (0, u "NORMAL"), (0, u "Lcom/example/lotbook/lotbook/AccountStatus;"), (0, .fieldref 9 15), (0, .nameAndType 16 13), (0, u "NO_NEW_OPEN"), (0, .fieldref 9 18), (0, .nameAndType 19 13), (0, u "LIQUIDATE"), (0, .class_ 21), (0, u "java/lang/String"), (0, .methodref 20 23), (0, .nameAndType 5 24), (0, u "([C)V"), (0, .methodref 9 26), (0, .nameAndType 27 28), (0, u "fromCode"), (0, u "(Ljava/lang/String;)Lcom/example/lotbook/lotbook/AccountStatus;"), (0, .methodref 9 30), (0, .nameAndType 31 32), (0, u "code"), (0, u "()Ljava/lang/String;"), (0, .methodref 20 34), (0, .nameAndType 35 36), (0, u "equals"), (0, u "(Ljava/lang/Object;)Z"), (0, .class_ 38), (0, u "com/example/lotbook/lotbook/AccountStatusFromCodePinLaw"), (2, u "law"), (0, u "(I)Z")] 5

def k1m0 : Method := { name := "<init>", desc := "()V", sig := { parameters := [], returnType := none }, accessFlags := 1, code := none }
def k1c1 : Code := { maxStack := 4, maxLocals := 7, code := code, exceptionTable := #[], attributes := #[] }
def k1m1 : Method := { name := "law", desc := "(I)Z", sig := { parameters := [.int], returnType := some .boolean }, accessFlags := 9, code := some k1c1 }
/-- com/example/lotbook/lotbook/AccountStatusFromCodePinLaw -/
def k1 : Class := { plain "com/example/lotbook/lotbook/AccountStatusFromCodePinLaw" (some 0) with
  accessFlags := 49
  interfaces := #[]
  cf := some (fileOf pool1 37 #[] #[{ accessFlags := 1, nameIndex := 5, descriptorIndex := 6, attributes := #[] }, { accessFlags := 9, nameIndex := 41, descriptorIndex := 42, attributes := #[] }] 49 2 #[] #[])
  fields := #[]
  methods := #[k1m0, k1m1]
  instanceTypes := #[]
  staticTypes := #[]
  resolved := Array.replicate 48 none
  statics := none }

def pool2 : Array CpInfo := pool [(1, .class_ 2), (0, u "java/lang/constant/Constable"), (0, .class_ 4), (0, u "java/lang/Object")] 6

/-- java/lang/constant/Constable -/
def k2 : Class := { plain "java/lang/constant/Constable" (some 0) with
  accessFlags := 1537
  interfaces := #[]
  cf := some (fileOf pool2 1 #[] #[] 1537 3 #[] #[])
  fields := #[]
  methods := #[]
  instanceTypes := #[]
  staticTypes := #[]
  resolved := Array.replicate 11 none
  statics := none }

def pool3 : Array CpInfo := pool [(1, .class_ 2), (0, u "java/lang/Comparable"), (0, .class_ 4), (0, u "java/lang/Object")] 7

/-- java/lang/Comparable -/
def k3 : Class := { plain "java/lang/Comparable" (some 0) with
  accessFlags := 1537
  interfaces := #[]
  cf := some (fileOf pool3 1 #[] #[] 1537 3 #[] #[])
  fields := #[]
  methods := #[]
  instanceTypes := #[]
  staticTypes := #[]
  resolved := Array.replicate 12 none
  statics := none }

def pool4 : Array CpInfo := pool [(1, .class_ 2), (0, u "java/io/Serializable"), (0, .class_ 4), (0, u "java/lang/Object")] 2

/-- java/io/Serializable -/
def k4 : Class := { plain "java/io/Serializable" (some 0) with
  accessFlags := 1537
  interfaces := #[]
  cf := some (fileOf pool4 1 #[] #[] 1537 3 #[] #[])
  fields := #[]
  methods := #[]
  instanceTypes := #[]
  staticTypes := #[]
  resolved := Array.replicate 7 none
  statics := none }

def pool5 : Array CpInfo := pool [(2, .class_ 4), (1, u "java/lang/Enum"), (0, u "name"), (0, u "Ljava/lang/String;"), (2, u "ordinal"), (0, u "I"), (1, .class_ 14), (1, u "java/lang/Object"), (4, u "hash"), (86, .class_ 108), (1, u "java/lang/Enum$EnumDesc"), (2, .class_ 112), (0, u "java/lang/constant/Constable"), (0, .class_ 114), (0, u "java/lang/Comparable"), (0, .class_ 116), (0, u "java/io/Serializable")] 87

/-- java/lang/Enum -/
def k5 : Class := { plain "java/lang/Enum" (some 0) with
  accessFlags := 1057
  interfaces := #[2, 3, 4]
  cf := some (fileOf pool5 2 #[.nestMembers #[106]] #[] 1057 12 #[111, 113, 115] #[{ accessFlags := 18, nameIndex := 5, descriptorIndex := 6, attributes := #[] }, { accessFlags := 18, nameIndex := 9, descriptorIndex := 10, attributes := #[] }, { accessFlags := 2, nameIndex := 19, descriptorIndex := 10, attributes := #[] }])
  fields := #[{ name := "name", type := (.object "java/lang/String"), accessFlags := 18, slot := 0, constantValue := 0 }, { name := "ordinal", type := .int, accessFlags := 18, slot := 1, constantValue := 0 }, { name := "hash", type := .int, accessFlags := 2, slot := 2, constantValue := 0 }]
  methods := #[]
  instanceTypes := #[(.object "java/lang/String"), .int, .int]
  staticTypes := #[]
  resolved := Array.replicate 204 none
  statics := none }

def pool6 : Array CpInfo := pool [(1, .class_ 2), (0, u "java/lang/StringBuilder"), (0, .methodref 1 4), (0, .nameAndType 5 6), (0, u "<init>"), (0, u "()V"), (0, .interfaceMethodref 8 9), (0, .class_ 10), (0, .nameAndType 11 12), (0, u "com/example/lotbook/lotbook/Flag"), (0, u "code"), (0, u "()Ljava/lang/String;"), (0, .methodref 14 15), (0, .class_ 16), (0, .nameAndType 17 18), (0, u "java/lang/String"), (0, u "equals"), (0, u "(Ljava/lang/Object;)Z"), (0, .methodref 1 20), (0, .nameAndType 21 22), (0, u "length"), (0, u "()I"), (0, .string 24), (0, u ""), (0, .string 26), (0, u " or "), (0, .methodref 1 28), (0, .nameAndType 29 30), (0, u "append"), (0, u "(Ljava/lang/String;)Ljava/lang/StringBuilder;"), (13, .class_ 45), (0, u "java/lang/Object"), (0, u "fromCode"), (0, u "([Lcom/example/lotbook/lotbook/Flag;Ljava/lang/String;Ljava/lang/String;)Lcom/example/lotbook/lotbook/Flag;")] 24

def k6m0 : Method := { name := "code", desc := "()Ljava/lang/String;", sig := { parameters := [], returnType := some (.object "java/lang/String") }, accessFlags := 1025, code := none }
def k6c1 : Code := { maxStack := 5, maxLocals := 8, code := prog_34_method_2_code, exceptionTable := #[], attributes := #[] }
def k6m1 : Method := { name := "fromCode", desc := "([Lcom/example/lotbook/lotbook/Flag;Ljava/lang/String;Ljava/lang/String;)Lcom/example/lotbook/lotbook/Flag;", sig := { parameters := [(.array (.object "com/example/lotbook/lotbook/Flag")), (.object "java/lang/String"), (.object "java/lang/String")], returnType := some (.object "com/example/lotbook/lotbook/Flag") }, accessFlags := 9, code := some k6c1 }
/-- com/example/lotbook/lotbook/Flag -/
def k6 : Class := { plain "com/example/lotbook/lotbook/Flag" (some 0) with
  accessFlags := 1537
  interfaces := #[]
  cf := some (fileOf pool6 8 #[] #[{ accessFlags := 1025, nameIndex := 11, descriptorIndex := 12, attributes := #[] }, { accessFlags := 9, nameIndex := 46, descriptorIndex := 47, attributes := #[] }] 1537 44 #[] #[])
  fields := #[]
  methods := #[k6m0, k6m1]
  instanceTypes := #[]
  staticTypes := #[]
  resolved := Array.replicate 72 none
  statics := none }

def pool7 : Array CpInfo := pool [(1, .class_ 2), (0, u "com/example/lotbook/lotbook/AccountStatus"), (2, u "NORMAL"), (0, u "Lcom/example/lotbook/lotbook/AccountStatus;"), (2, u "NO_NEW_OPEN"), (2, u "LIQUIDATE"), (0, .fieldref 1 14), (0, .nameAndType 15 16), (0, u "$VALUES"), (0, u "[Lcom/example/lotbook/lotbook/AccountStatus;"), (0, .methodref 18 19), (0, .class_ 16), (0, .nameAndType 20 21), (0, u "clone"), (0, u "()Ljava/lang/Object;"), (1, .class_ 25), (1, u "java/lang/Enum"), (6, .fieldref 1 33), (0, .nameAndType 34 35), (0, u "code"), (0, u "Ljava/lang/String;"), (0, .methodref 1 37), (0, .nameAndType 38 39), (0, u "values"), (0, u "()[Lcom/example/lotbook/lotbook/AccountStatus;"), (0, .string 41), (0, u "status"), (0, .interfaceMethodref 43 44), (0, .class_ 45), (0, .nameAndType 46 47), (0, u "com/example/lotbook/lotbook/Flag"), (0, u "fromCode"), (0, u "([Lcom/example/lotbook/lotbook/Flag;Ljava/lang/String;Ljava/lang/String;)Lcom/example/lotbook/lotbook/Flag;"), (27, u "(Ljava/lang/String;)Lcom/example/lotbook/lotbook/AccountStatus;"), (3, u "()Ljava/lang/String;")] 8

def k7c0 : Code := { maxStack := 1, maxLocals := 0, code := prog_2_method_1_code, exceptionTable := #[], attributes := #[] }
def k7m0 : Method := { name := "values", desc := "()[Lcom/example/lotbook/lotbook/AccountStatus;", sig := { parameters := [], returnType := some (.array (.object "com/example/lotbook/lotbook/AccountStatus")) }, accessFlags := 9, code := some k7c0 }
def k7c1 : Code := { maxStack := 1, maxLocals := 1, code := prog_2_method_4_code, exceptionTable := #[], attributes := #[] }
def k7m1 : Method := { name := "code", desc := "()Ljava/lang/String;", sig := { parameters := [], returnType := some (.object "java/lang/String") }, accessFlags := 1, code := some k7c1 }
def k7c2 : Code := { maxStack := 3, maxLocals := 1, code := prog_2_method_5_code, exceptionTable := #[], attributes := #[] }
def k7m2 : Method := { name := "fromCode", desc := "(Ljava/lang/String;)Lcom/example/lotbook/lotbook/AccountStatus;", sig := { parameters := [(.object "java/lang/String")], returnType := some (.object "com/example/lotbook/lotbook/AccountStatus") }, accessFlags := 9, code := some k7c2 }
/-- com/example/lotbook/lotbook/AccountStatus -/
def k7 : Class := { plain "com/example/lotbook/lotbook/AccountStatus" (some 5) with
  accessFlags := 16433
  interfaces := #[6]
  cf := some (fileOf pool7 1 #[] #[{ accessFlags := 9, nameIndex := 38, descriptorIndex := 39, attributes := #[] }, { accessFlags := 1, nameIndex := 34, descriptorIndex := 79, attributes := #[] }, { accessFlags := 9, nameIndex := 46, descriptorIndex := 75, attributes := #[] }] 16433 23 #[43] #[{ accessFlags := 16409, nameIndex := 5, descriptorIndex := 6, attributes := #[] }, { accessFlags := 16409, nameIndex := 9, descriptorIndex := 6, attributes := #[] }, { accessFlags := 16409, nameIndex := 12, descriptorIndex := 6, attributes := #[] }, { accessFlags := 18, nameIndex := 34, descriptorIndex := 35, attributes := #[] }, { accessFlags := 4122, nameIndex := 15, descriptorIndex := 16, attributes := #[] }])
  fields := #[{ name := "NORMAL", type := (.object "com/example/lotbook/lotbook/AccountStatus"), accessFlags := 16409, slot := 0, constantValue := 0 }, { name := "NO_NEW_OPEN", type := (.object "com/example/lotbook/lotbook/AccountStatus"), accessFlags := 16409, slot := 1, constantValue := 0 }, { name := "LIQUIDATE", type := (.object "com/example/lotbook/lotbook/AccountStatus"), accessFlags := 16409, slot := 2, constantValue := 0 }, { name := "code", type := (.object "java/lang/String"), accessFlags := 18, slot := 3, constantValue := 0 }, { name := "$VALUES", type := (.array (.object "com/example/lotbook/lotbook/AccountStatus")), accessFlags := 4122, slot := 3, constantValue := 0 }]
  methods := #[k7m0, k7m1, k7m2]
  instanceTypes := #[(.object "java/lang/String"), .int, .int, (.object "java/lang/String")]
  staticTypes := #[(.object "com/example/lotbook/lotbook/AccountStatus"), (.object "com/example/lotbook/lotbook/AccountStatus"), (.object "com/example/lotbook/lotbook/AccountStatus"), (.array (.object "com/example/lotbook/lotbook/AccountStatus"))]
  resolved := Array.replicate 88 none
  statics := some 0 }

def pool8 : Array CpInfo := pool [(2, .class_ 4), (1, u "java/lang/CharSequence"), (42, .class_ 48), (0, u "java/lang/CharSequence$1CodePointIterator"), (10, .class_ 60), (0, u "java/lang/CharSequence$1CharIterator"), (5, .class_ 67), (0, u "java/lang/Object")] 63

/-- java/lang/CharSequence -/
def k8 : Class := { plain "java/lang/CharSequence" (some 0) with
  accessFlags := 1537
  interfaces := #[]
  cf := some (fileOf pool8 2 #[.nestMembers #[47, 59]] #[] 1537 66 #[] #[])
  fields := #[]
  methods := #[]
  instanceTypes := #[]
  staticTypes := #[]
  resolved := Array.replicate 131 none
  statics := none }

def pool9 : Array CpInfo := pool [(1, .class_ 2), (0, u "java/lang/constant/ConstantDesc"), (0, .class_ 4), (0, u "java/lang/Object")] 32

/-- java/lang/constant/ConstantDesc -/
def k9 : Class := { plain "java/lang/constant/ConstantDesc" (some 0) with
  accessFlags := 1537
  interfaces := #[]
  cf := some (fileOf pool9 1 #[] #[] 1537 3 #[] #[])
  fields := #[]
  methods := #[]
  instanceTypes := #[]
  staticTypes := #[]
  resolved := Array.replicate 37 none
  statics := none }

def pool10 : Array CpInfo := pool [(1, .methodref 2 3), (0, .class_ 4), (0, .nameAndType 5 6), (0, u "java/lang/Object"), (0, u "<init>"), (0, u "()V"), (2, .fieldref 10 11), (0, .class_ 12), (0, .nameAndType 13 14), (0, u "java/lang/String"), (0, u "value"), (0, u "[B"), (0, .fieldref 10 16), (0, .nameAndType 17 18), (0, u "coder"), (0, u "B"), (2, u "hash"), (0, u "I"), (2, u "hashIsZero"), (0, u "Z"), (0, .methodref 10 28), (0, .nameAndType 5 29), (0, u "([CIILjava/lang/Void;)V"), (8, .fieldref 10 39), (0, .nameAndType 40 26), (0, u "COMPACT_STRINGS"), (1, .class_ 44), (1, u "java/lang/StringUTF16"), (0, u "compress"), (1, .methodref 42 48), (0, .nameAndType 49 50), (0, u "coderFromArrayLen"), (0, u "([BI)B"), (56, .class_ 109), (1, u "java/lang/StringLatin1"), (67, .methodref 42 178), (0, .nameAndType 45 179), (0, u "([CII)[B"), (13, .class_ 195), (1, u "java/lang/System"), (16, .methodref 193 213), (0, .nameAndType 214 215), (0, u "arraycopy"), (0, u "(Ljava/lang/Object;ILjava/lang/Object;II)V"), (118, u "()I"), (0, .methodref 10 336), (0, .nameAndType 17 337), (0, u "()B"), (169, u "length"), (24, u "getBytes"), (8, .methodref 107 542), (0, .nameAndType 543 544), (0, u "equals"), (0, u "([B[B)Z"), (28, u "(Ljava/lang/Object;)Z"), (1, .class_ 576), (0, u "java/lang/CharSequence"), (22, u "CASE_INSENSITIVE_ORDER"), (0, u "Ljava/util/Comparator;"), (220, u "([BIB)V"), (188, u "([C)V"), (90, u "serialPersistentFields"), (0, u "[Ljava/io/ObjectStreamField;"), (0, .class_ 1104), (0, u "java/lang/String$CaseInsensitiveComparator"), (1, .class_ 1107), (0, u "java/io/Serializable"), (0, .class_ 1109), (0, u "java/lang/Comparable"), (0, .class_ 1111), (0, u "java/lang/constant/Constable"), (0, .class_ 1113), (0, u "java/lang/constant/ConstantDesc"), (2, u "serialVersionUID"), (0, u "J"), (3, u "REPL"), (0, u "C"), (2, u "LATIN1"), (1, u "UTF16")] 323

def k10m0 : Method := { name := "<init>", desc := "()V", sig := { parameters := [], returnType := none }, accessFlags := 1, code := none }
def k10c1 : Code := { maxStack := 5, maxLocals := 2, code := jdk_42_method_3_code, exceptionTable := #[], attributes := #[] }
def k10m1 : Method := { name := "<init>", desc := "([C)V", sig := { parameters := [(.array .char)], returnType := none }, accessFlags := 1, code := some k10c1 }
def k10c2 : Code := { maxStack := 2, maxLocals := 1, code := jdk_42_method_54_code, exceptionTable := #[], attributes := #[] }
def k10m2 : Method := { name := "length", desc := "()I", sig := { parameters := [], returnType := some .int }, accessFlags := 1, code := some k10c2 }
def k10c3 : Code := { maxStack := 2, maxLocals := 3, code := jdk_42_method_66_code, exceptionTable := #[], attributes := #[] }
def k10m3 : Method := { name := "equals", desc := "(Ljava/lang/Object;)Z", sig := { parameters := [(.object "java/lang/Object")], returnType := some .boolean }, accessFlags := 1, code := some k10c3 }
def k10c4 : Code := { maxStack := 5, maxLocals := 4, code := jdk_42_method_147_code, exceptionTable := #[], attributes := #[] }
def k10m4 : Method := { name := "getBytes", desc := "([BIB)V", sig := { parameters := [(.array .byte), .int, .byte], returnType := none }, accessFlags := 0, code := some k10c4 }
def k10c5 : Code := { maxStack := 4, maxLocals := 6, code := jdk_42_method_149_code, exceptionTable := #[], attributes := #[] }
def k10m5 : Method := { name := "<init>", desc := "([CIILjava/lang/Void;)V", sig := { parameters := [(.array .char), .int, .int, (.object "java/lang/Void")], returnType := none }, accessFlags := 2, code := some k10c5 }
def k10c6 : Code := { maxStack := 1, maxLocals := 1, code := jdk_42_method_152_code, exceptionTable := #[], attributes := #[] }
def k10m6 : Method := { name := "coder", desc := "()B", sig := { parameters := [], returnType := some .byte }, accessFlags := 0, code := some k10c6 }
/-- java/lang/String -/
def k10 : Class := { plain "java/lang/String" (some 0) with
  accessFlags := 49
  interfaces := #[4, 3, 8, 2, 9]
  cf := some (fileOf pool10 10 #[.nestMembers #[1103]] #[{ accessFlags := 1, nameIndex := 5, descriptorIndex := 6, attributes := #[] }, { accessFlags := 1, nameIndex := 5, descriptorIndex := 1010, attributes := #[] }, { accessFlags := 1, nameIndex := 507, descriptorIndex := 334, attributes := #[] }, { accessFlags := 1, nameIndex := 543, descriptorIndex := 573, attributes := #[] }, { accessFlags := 0, nameIndex := 532, descriptorIndex := 821, attributes := #[] }, { accessFlags := 2, nameIndex := 5, descriptorIndex := 29, attributes := #[] }, { accessFlags := 0, nameIndex := 17, descriptorIndex := 337, attributes := #[] }] 49 2 #[1106, 1108, 575, 1110, 1112] #[{ accessFlags := 18, nameIndex := 13, descriptorIndex := 14, attributes := #[] }, { accessFlags := 18, nameIndex := 17, descriptorIndex := 18, attributes := #[] }, { accessFlags := 2, nameIndex := 21, descriptorIndex := 22, attributes := #[] }, { accessFlags := 2, nameIndex := 25, descriptorIndex := 26, attributes := #[] }, { accessFlags := 26, nameIndex := 1116, descriptorIndex := 1117, attributes := #[] }, { accessFlags := 24, nameIndex := 40, descriptorIndex := 26, attributes := #[] }, { accessFlags := 26, nameIndex := 1101, descriptorIndex := 1102, attributes := #[] }, { accessFlags := 26, nameIndex := 1121, descriptorIndex := 1122, attributes := #[] }, { accessFlags := 25, nameIndex := 599, descriptorIndex := 600, attributes := #[] }, { accessFlags := 24, nameIndex := 1125, descriptorIndex := 18, attributes := #[] }, { accessFlags := 24, nameIndex := 1127, descriptorIndex := 18, attributes := #[] }])
  fields := #[{ name := "value", type := (.array .byte), accessFlags := 18, slot := 0, constantValue := 0 }, { name := "coder", type := .byte, accessFlags := 18, slot := 1, constantValue := 0 }, { name := "hash", type := .int, accessFlags := 2, slot := 2, constantValue := 0 }, { name := "hashIsZero", type := .boolean, accessFlags := 2, slot := 3, constantValue := 0 }, { name := "serialVersionUID", type := .long, accessFlags := 26, slot := 0, constantValue := 0 }, { name := "COMPACT_STRINGS", type := .boolean, accessFlags := 24, slot := 1, constantValue := 0 }, { name := "serialPersistentFields", type := (.array (.object "java/io/ObjectStreamField")), accessFlags := 26, slot := 2, constantValue := 0 }, { name := "REPL", type := .char, accessFlags := 26, slot := 3, constantValue := 0 }, { name := "CASE_INSENSITIVE_ORDER", type := (.object "java/util/Comparator"), accessFlags := 25, slot := 4, constantValue := 0 }, { name := "LATIN1", type := .byte, accessFlags := 24, slot := 5, constantValue := 0 }, { name := "UTF16", type := .byte, accessFlags := 24, slot := 6, constantValue := 0 }]
  methods := #[k10m0, k10m1, k10m2, k10m3, k10m4, k10m5, k10m6]
  instanceTypes := #[(.array .byte), .byte, .int, .boolean]
  staticTypes := #[.long, .boolean, (.array (.object "java/io/ObjectStreamField")), .char, (.object "java/util/Comparator"), .byte, .byte]
  resolved := Array.replicate 1451 none
  statics := some 1 }

def pool11 : Array CpInfo := pool [(6, .class_ 8), (1, u "java/lang/Object"), (0, u "<init>"), (0, u "()V"), (1, .class_ 14), (1, u "java/lang/StringUTF16"), (31, u "$assertionsDisabled"), (0, u "Z"), (13, u "HI_BYTE_SHIFT"), (0, u "I"), (2, u "LO_BYTE_SHIFT"), (49, .methodref 12 116), (0, .nameAndType 117 118), (0, u "compress"), (0, u "([CI[BII)I"), (3, u "([CII)[B"), (138, u "coderFromArrayLen"), (0, u "([BI)B"), (106, .class_ 371), (1, u "java/lang/StringUTF16$LinesSpliterator"), (58, u "MAX_LENGTH"), (196, .class_ 628), (0, u "java/lang/StringUTF16$CodePointsSpliterator"), (0, .class_ 630), (0, u "java/lang/StringUTF16$CharsSpliterator")] 4

def k11m0 : Method := { name := "<init>", desc := "()V", sig := { parameters := [], returnType := none }, accessFlags := 0, code := none }
def k11c1 : Code := { maxStack := 2, maxLocals := 2, code := jdk_52_method_15_code, exceptionTable := #[], attributes := #[] }
def k11m1 : Method := { name := "coderFromArrayLen", desc := "([BI)B", sig := { parameters := [(.array .byte), .int], returnType := some .byte }, accessFlags := 8, code := some k11c1 }
def k11c2 : Code := { maxStack := 5, maxLocals := 6, code := jdk_52_method_16_code, exceptionTable := #[], attributes := #[] }
def k11m2 : Method := { name := "compress", desc := "([CII)[B", sig := { parameters := [(.array .char), .int, .int], returnType := some (.array .byte) }, accessFlags := 9, code := some k11c2 }
def k11c3 : Code := { maxStack := 3, maxLocals := 7, code := jdk_52_method_21_code, exceptionTable := #[], attributes := #[] }
def k11m3 : Method := { name := "compress", desc := "([CI[BII)I", sig := { parameters := [(.array .char), .int, (.array .byte), .int, .int], returnType := some .int }, accessFlags := 9, code := some k11c3 }
/-- java/lang/StringUTF16 -/
def k11 : Class := { plain "java/lang/StringUTF16" (some 0) with
  accessFlags := 48
  interfaces := #[]
  cf := some (fileOf pool11 12 #[.nestMembers #[627, 629, 369]] #[{ accessFlags := 0, nameIndex := 9, descriptorIndex := 10, attributes := #[] }, { accessFlags := 8, nameIndex := 261, descriptorIndex := 262, attributes := #[] }, { accessFlags := 9, nameIndex := 117, descriptorIndex := 122, attributes := #[] }, { accessFlags := 9, nameIndex := 117, descriptorIndex := 118, attributes := #[] }] 48 6 #[] #[{ accessFlags := 26, nameIndex := 61, descriptorIndex := 62, attributes := #[] }, { accessFlags := 26, nameIndex := 65, descriptorIndex := 62, attributes := #[] }, { accessFlags := 24, nameIndex := 430, descriptorIndex := 62, attributes := #[] }, { accessFlags := 4120, nameIndex := 46, descriptorIndex := 47, attributes := #[] }])
  fields := #[{ name := "HI_BYTE_SHIFT", type := .int, accessFlags := 26, slot := 0, constantValue := 0 }, { name := "LO_BYTE_SHIFT", type := .int, accessFlags := 26, slot := 1, constantValue := 0 }, { name := "MAX_LENGTH", type := .int, accessFlags := 24, slot := 2, constantValue := 0 }, { name := "$assertionsDisabled", type := .boolean, accessFlags := 4120, slot := 3, constantValue := 0 }]
  methods := #[k11m0, k11m1, k11m2, k11m3]
  instanceTypes := #[]
  staticTypes := #[.int, .int, .int, .boolean]
  resolved := Array.replicate 635 none
  statics := none }

def pool12 : Array CpInfo := pool [(1, .class_ 2), (0, u "java/lang/Cloneable"), (0, .class_ 4), (0, u "java/lang/Object")] 2

/-- java/lang/Cloneable -/
def k12 : Class := { plain "java/lang/Cloneable" (some 0) with
  accessFlags := 1537
  interfaces := #[]
  cf := some (fileOf pool12 1 #[] #[] 1537 3 #[] #[])
  fields := #[]
  methods := #[]
  instanceTypes := #[]
  staticTypes := #[]
  resolved := Array.replicate 7 none
  statics := none }

def pool13 : Array CpInfo := pool [(1, .class_ 2), (0, u "java/lang/Appendable"), (0, .class_ 4), (0, u "java/lang/Object")] 9

/-- java/lang/Appendable -/
def k13 : Class := { plain "java/lang/Appendable" (some 0) with
  accessFlags := 1537
  interfaces := #[]
  cf := some (fileOf pool13 1 #[] #[] 1537 3 #[] #[])
  fields := #[]
  methods := #[]
  instanceTypes := #[]
  staticTypes := #[]
  resolved := Array.replicate 14 none
  statics := none }

def pool14 : Array CpInfo := pool [(1, .class_ 2), (0, u "java/lang/String"), (0, .methodref 4 5), (0, .class_ 6), (0, .nameAndType 7 8), (0, u "java/lang/Object"), (0, u "<init>"), (0, u "()V"), (1, .class_ 12), (1, u "java/lang/AbstractStringBuilder"), (0, u "EMPTYVALUE"), (0, u "[B"), (0, .fieldref 10 16), (0, .nameAndType 17 14), (0, u "value"), (0, .fieldref 1 19), (0, .nameAndType 20 21), (0, u "COMPACT_STRINGS"), (0, u "Z"), (0, .fieldref 10 23), (0, .nameAndType 24 25), (0, u "coder"), (0, u "B"), (6, .methodref 1 33), (0, .nameAndType 34 35), (0, u "length"), (0, u "()I"), (3, .integer 2147483647), (0, .methodref 1 41), (0, .nameAndType 24 42), (0, u "()B"), (2, u "append"), (0, u "(Ljava/lang/String;)Ljava/lang/AbstractStringBuilder;"), (1, .class_ 49), (0, u "java/lang/CharSequence"), (19, u "(Ljava/lang/String;)V"), (5, u "maybeLatin1"), (3, .fieldref 10 80), (0, .nameAndType 81 82), (0, u "count"), (0, u "I"), (17, .methodref 10 101), (0, .nameAndType 102 103), (0, u "ensureCapacityInternal"), (0, u "(I)V"), (0, .methodref 10 105), (0, .nameAndType 106 107), (0, u "newCapacity"), (0, u "(I)I"), (0, .methodref 109 110), (0, .class_ 111), (0, .nameAndType 112 113), (0, u "java/util/Arrays"), (0, u "copyOf"), (0, u "([BI)[B"), (0, .methodref 115 116), (0, .class_ 117), (0, .nameAndType 118 119), (0, u "jdk/internal/util/ArraysSupport"), (0, u "newLength"), (0, u "(III)I"), (88, .methodref 10 209), (0, .nameAndType 210 211), (0, u "putStringAt"), (0, u "(ILjava/lang/String;)V"), (5, u "inflateIfNeededFor"), (2, .nameAndType 221 222), (0, u "getBytes"), (0, u "([BIB)V"), (174, .methodref 10 398), (0, .nameAndType 217 69), (0, .methodref 1 220), (44, .class_ 445), (0, u "java/lang/Appendable")] 163

def k14m0 : Method := { name := "<init>", desc := "()V", sig := { parameters := [], returnType := none }, accessFlags := 0, code := none }
def k14c1 : Code := { maxStack := 2, maxLocals := 2, code := jdk_68_method_2_code, exceptionTable := #[], attributes := #[] }
def k14m1 : Method := { name := "<init>", desc := "(I)V", sig := { parameters := [.int], returnType := none }, accessFlags := 0, code := some k14c1 }
def k14c2 : Code := { maxStack := 1, maxLocals := 1, code := jdk_68_method_6_code, exceptionTable := #[], attributes := #[] }
def k14m2 : Method := { name := "length", desc := "()I", sig := { parameters := [], returnType := some .int }, accessFlags := 1, code := some k14c2 }
def k14c3 : Code := { maxStack := 4, maxLocals := 3, code := jdk_68_method_9_code, exceptionTable := #[], attributes := #[] }
def k14m3 : Method := { name := "ensureCapacityInternal", desc := "(I)V", sig := { parameters := [.int], returnType := none }, accessFlags := 2, code := some k14c3 }
def k14c4 : Code := { maxStack := 5, maxLocals := 6, code := jdk_68_method_10_code, exceptionTable := #[], attributes := #[] }
def k14m4 : Method := { name := "newCapacity", desc := "(I)I", sig := { parameters := [.int], returnType := some .int }, accessFlags := 2, code := some k14c4 }
def k14c5 : Code := { maxStack := 3, maxLocals := 3, code := jdk_68_method_22_code, exceptionTable := #[], attributes := #[] }
def k14m5 : Method := { name := "append", desc := "(Ljava/lang/String;)Ljava/lang/AbstractStringBuilder;", sig := { parameters := [(.object "java/lang/String")], returnType := some (.object "java/lang/AbstractStringBuilder") }, accessFlags := 1, code := some k14c5 }
def k14c6 : Code := { maxStack := 2, maxLocals := 2, code := jdk_68_method_71_code, exceptionTable := #[], attributes := #[] }
def k14m6 : Method := { name := "inflateIfNeededFor", desc := "(Ljava/lang/String;)V", sig := { parameters := [(.object "java/lang/String")], returnType := none }, accessFlags := 2, code := some k14c6 }
def k14c7 : Code := { maxStack := 4, maxLocals := 3, code := jdk_68_method_73_code, exceptionTable := #[], attributes := #[] }
def k14m7 : Method := { name := "putStringAt", desc := "(ILjava/lang/String;)V", sig := { parameters := [.int, (.object "java/lang/String")], returnType := none }, accessFlags := 2, code := some k14c7 }
/-- java/lang/AbstractStringBuilder -/
def k14 : Class := { plain "java/lang/AbstractStringBuilder" (some 0) with
  accessFlags := 1056
  interfaces := #[13, 8]
  cf := some (fileOf pool14 10 #[] #[{ accessFlags := 0, nameIndex := 7, descriptorIndex := 8, attributes := #[] }, { accessFlags := 0, nameIndex := 7, descriptorIndex := 103, attributes := #[] }, { accessFlags := 1, nameIndex := 34, descriptorIndex := 35, attributes := #[] }, { accessFlags := 2, nameIndex := 102, descriptorIndex := 103, attributes := #[] }, { accessFlags := 2, nameIndex := 106, descriptorIndex := 107, attributes := #[] }, { accessFlags := 1, nameIndex := 45, descriptorIndex := 46, attributes := #[] }, { accessFlags := 2, nameIndex := 217, descriptorIndex := 69, attributes := #[] }, { accessFlags := 2, nameIndex := 210, descriptorIndex := 211, attributes := #[] }] 1056 4 #[444, 48] #[{ accessFlags := 0, nameIndex := 17, descriptorIndex := 14, attributes := #[] }, { accessFlags := 0, nameIndex := 24, descriptorIndex := 25, attributes := #[] }, { accessFlags := 0, nameIndex := 75, descriptorIndex := 21, attributes := #[] }, { accessFlags := 0, nameIndex := 81, descriptorIndex := 82, attributes := #[] }, { accessFlags := 26, nameIndex := 13, descriptorIndex := 14, attributes := #[] }])
  fields := #[{ name := "value", type := (.array .byte), accessFlags := 0, slot := 0, constantValue := 0 }, { name := "coder", type := .byte, accessFlags := 0, slot := 1, constantValue := 0 }, { name := "maybeLatin1", type := .boolean, accessFlags := 0, slot := 2, constantValue := 0 }, { name := "count", type := .int, accessFlags := 0, slot := 3, constantValue := 0 }, { name := "EMPTYVALUE", type := (.array .byte), accessFlags := 26, slot := 0, constantValue := 0 }]
  methods := #[k14m0, k14m1, k14m2, k14m3, k14m4, k14m5, k14m6, k14m7]
  instanceTypes := #[(.array .byte), .byte, .boolean, .int]
  staticTypes := #[(.array .byte)]
  resolved := Array.replicate 609 none
  statics := none }

def pool15 : Array CpInfo := pool [(1, .methodref 2 3), (0, .class_ 4), (0, .nameAndType 5 6), (0, u "java/lang/AbstractStringBuilder"), (0, u "<init>"), (0, u "(I)V"), (17, .class_ 26), (1, u "java/lang/StringBuilder"), (0, u "append"), (0, u "(Ljava/lang/String;)Ljava/lang/StringBuilder;"), (0, .methodref 2 30), (0, .nameAndType 27 31), (0, u "(Ljava/lang/String;)Ljava/lang/AbstractStringBuilder;"), (113, u "()V"), (10, u "()I"), (186, .methodref 2 344), (0, .nameAndType 345 156), (0, u "length"), (3, .class_ 350), (0, u "java/lang/Appendable"), (0, .class_ 352), (0, u "java/io/Serializable"), (0, .class_ 354), (0, u "java/lang/Comparable"), (0, .class_ 356), (0, u "java/lang/CharSequence"), (0, u "serialVersionUID"), (0, u "J")] 63

def k15c0 : Code := { maxStack := 2, maxLocals := 1, code := jdk_67_method_1_code, exceptionTable := #[], attributes := #[] }
def k15m0 : Method := { name := "<init>", desc := "()V", sig := { parameters := [], returnType := none }, accessFlags := 1, code := some k15c0 }
def k15c1 : Code := { maxStack := 2, maxLocals := 2, code := jdk_67_method_7_code, exceptionTable := #[], attributes := #[] }
def k15m1 : Method := { name := "append", desc := "(Ljava/lang/String;)Ljava/lang/StringBuilder;", sig := { parameters := [(.object "java/lang/String")], returnType := some (.object "java/lang/StringBuilder") }, accessFlags := 1, code := some k15c1 }
def k15c2 : Code := { maxStack := 1, maxLocals := 1, code := jdk_67_method_93_code, exceptionTable := #[], attributes := #[] }
def k15m2 : Method := { name := "length", desc := "()I", sig := { parameters := [], returnType := some .int }, accessFlags := 4161, code := some k15c2 }
/-- java/lang/StringBuilder -/
def k15 : Class := { plain "java/lang/StringBuilder" (some 14) with
  accessFlags := 49
  interfaces := #[13, 4, 3, 8]
  cf := some (fileOf pool15 24 #[] #[{ accessFlags := 1, nameIndex := 5, descriptorIndex := 145, attributes := #[] }, { accessFlags := 1, nameIndex := 27, descriptorIndex := 28, attributes := #[] }, { accessFlags := 4161, nameIndex := 345, descriptorIndex := 156, attributes := #[] }] 49 2 #[349, 351, 353, 355] #[{ accessFlags := 24, nameIndex := 357, descriptorIndex := 358, attributes := #[] }])
  fields := #[{ name := "serialVersionUID", type := .long, accessFlags := 24, slot := 0, constantValue := 0 }]
  methods := #[k15m0, k15m1, k15m2]
  instanceTypes := #[(.array .byte), .byte, .boolean, .int]
  staticTypes := #[.long]
  resolved := Array.replicate 422 none
  statics := none }

def pool16 : Array CpInfo := pool [(4, .class_ 6), (1, u "java/lang/Object"), (0, u "<init>"), (0, u "()V"), (5, .class_ 16), (1, u "java/lang/StringLatin1"), (104, u "$assertionsDisabled"), (0, u "Z"), (98, .class_ 223), (1, u "java/lang/StringLatin1$LinesSpliterator"), (57, u "equals"), (0, u "([B[B)Z"), (107, .class_ 391), (0, u "java/lang/StringLatin1$CharsSpliterator")] 3

def k16m0 : Method := { name := "<init>", desc := "()V", sig := { parameters := [], returnType := none }, accessFlags := 0, code := none }
def k16c1 : Code := { maxStack := 3, maxLocals := 3, code := jdk_43_method_13_code, exceptionTable := #[], attributes := #[] }
def k16m1 : Method := { name := "equals", desc := "([B[B)Z", sig := { parameters := [(.array .byte), (.array .byte)], returnType := some .boolean }, accessFlags := 9, code := some k16c1 }
/-- java/lang/StringLatin1 -/
def k16 : Class := { plain "java/lang/StringLatin1" (some 0) with
  accessFlags := 48
  interfaces := #[]
  cf := some (fileOf pool16 14 #[.nestMembers #[390, 221]] #[{ accessFlags := 0, nameIndex := 7, descriptorIndex := 8, attributes := #[] }, { accessFlags := 9, nameIndex := 281, descriptorIndex := 282, attributes := #[] }] 48 4 #[] #[{ accessFlags := 4120, nameIndex := 121, descriptorIndex := 122, attributes := #[] }])
  fields := #[{ name := "$assertionsDisabled", type := .boolean, accessFlags := 4120, slot := 0, constantValue := 0 }]
  methods := #[k16m0, k16m1]
  instanceTypes := #[]
  staticTypes := #[.boolean]
  resolved := Array.replicate 395 none
  statics := none }

def pool17 : Array CpInfo := pool [(2, .class_ 4), (1, u "java/lang/Object"), (0, u "<init>"), (0, u "()V"), (1, .class_ 10), (1, u "java/lang/System"), (0, u "allowSecurityManager"), (0, u "I"), (16, u "cons"), (0, u "Ljava/io/Console;"), (77, .class_ 110), (1, u "java/lang/System$CallersHolder"), (43, u "initialErrStream"), (0, u "Ljava/io/PrintStream;"), (19, u "security"), (0, u "Ljava/lang/SecurityManager;"), (31, .class_ 209), (0, u "java/lang/System$1"), (7, u "props"), (0, u "Ljava/util/Properties;"), (2, u "lineSeparator"), (0, u "Ljava/lang/String;"), (96, .class_ 321), (1, u "java/lang/System$LoggerFinder"), (5, .class_ 328), (0, u "java/lang/System$Logger"), (67, u "err"), (2, u "out"), (91, u "notSupportedJnuEncoding"), (15, u "in"), (17, u "initialIn"), (0, u "Ljava/io/InputStream;"), (35, u "bootLayer"), (0, u "Ljava/lang/ModuleLayer;"), (99, .class_ 664), (0, u "java/lang/System$2"), (9, u "NEVER"), (2, u "MAYBE"), (49, u "arraycopy"), (0, u "(Ljava/lang/Object;ILjava/lang/Object;II)V"), (72, .class_ 802), (0, u "java/lang/System$Logger$Level")] 31

def k17m0 : Method := { name := "<init>", desc := "()V", sig := { parameters := [], returnType := none }, accessFlags := 2, code := none }
def k17m1 : Method := { name := "arraycopy", desc := "(Ljava/lang/Object;ILjava/lang/Object;II)V", sig := { parameters := [(.object "java/lang/Object"), .int, (.object "java/lang/Object"), .int, .int], returnType := none }, accessFlags := 265, code := none }
/-- java/lang/System -/
def k17 : Class := { plain "java/lang/System" (some 0) with
  accessFlags := 49
  interfaces := #[]
  cf := some (fileOf pool17 8 #[.nestMembers #[319, 327, 801, 108, 663, 208]] #[{ accessFlags := 2, nameIndex := 5, descriptorIndex := 6, attributes := #[] }, { accessFlags := 265, nameIndex := 727, descriptorIndex := 728, attributes := #[] }] 49 2 #[] #[{ accessFlags := 25, nameIndex := 507, descriptorIndex := 526, attributes := #[] }, { accessFlags := 25, nameIndex := 399, descriptorIndex := 155, attributes := #[] }, { accessFlags := 25, nameIndex := 396, descriptorIndex := 155, attributes := #[] }, { accessFlags := 10, nameIndex := 525, descriptorIndex := 526, attributes := #[] }, { accessFlags := 26, nameIndex := 674, descriptorIndex := 12, attributes := #[] }, { accessFlags := 26, nameIndex := 677, descriptorIndex := 12, attributes := #[] }, { accessFlags := 10, nameIndex := 11, descriptorIndex := 12, attributes := #[] }, { accessFlags := 74, nameIndex := 175, descriptorIndex := 176, attributes := #[] }, { accessFlags := 10, nameIndex := 491, descriptorIndex := 222, attributes := #[] }, { accessFlags := 74, nameIndex := 29, descriptorIndex := 30, attributes := #[] }, { accessFlags := 74, nameIndex := 154, descriptorIndex := 155, attributes := #[] }, { accessFlags := 10, nameIndex := 217, descriptorIndex := 218, attributes := #[] }, { accessFlags := 10, nameIndex := 221, descriptorIndex := 222, attributes := #[] }, { accessFlags := 8, nameIndex := 562, descriptorIndex := 563, attributes := #[] }])
  fields := #[{ name := "in", type := (.object "java/io/InputStream"), accessFlags := 25, slot := 0, constantValue := 0 }, { name := "out", type := (.object "java/io/PrintStream"), accessFlags := 25, slot := 1, constantValue := 0 }, { name := "err", type := (.object "java/io/PrintStream"), accessFlags := 25, slot := 2, constantValue := 0 }, { name := "initialIn", type := (.object "java/io/InputStream"), accessFlags := 10, slot := 3, constantValue := 0 }, { name := "NEVER", type := .int, accessFlags := 26, slot := 4, constantValue := 0 }, { name := "MAYBE", type := .int, accessFlags := 26, slot := 5, constantValue := 0 }, { name := "allowSecurityManager", type := .int, accessFlags := 10, slot := 6, constantValue := 0 }, { name := "security", type := (.object "java/lang/SecurityManager"), accessFlags := 74, slot := 7, constantValue := 0 }, { name := "notSupportedJnuEncoding", type := (.object "java/lang/String"), accessFlags := 10, slot := 8, constantValue := 0 }, { name := "cons", type := (.object "java/io/Console"), accessFlags := 74, slot := 9, constantValue := 0 }, { name := "initialErrStream", type := (.object "java/io/PrintStream"), accessFlags := 74, slot := 10, constantValue := 0 }, { name := "props", type := (.object "java/util/Properties"), accessFlags := 10, slot := 11, constantValue := 0 }, { name := "lineSeparator", type := (.object "java/lang/String"), accessFlags := 10, slot := 12, constantValue := 0 }, { name := "bootLayer", type := (.object "java/lang/ModuleLayer"), accessFlags := 8, slot := 13, constantValue := 0 }]
  methods := #[k17m0, k17m1]
  instanceTypes := #[]
  staticTypes := #[(.object "java/io/InputStream"), (.object "java/io/PrintStream"), (.object "java/io/PrintStream"), (.object "java/io/InputStream"), .int, .int, .int, (.object "java/lang/SecurityManager"), (.object "java/lang/String"), (.object "java/io/Console"), (.object "java/io/PrintStream"), (.object "java/util/Properties"), (.object "java/lang/String"), (.object "java/lang/ModuleLayer")]
  resolved := Array.replicate 834 none
  statics := none }

def pool18 : Array CpInfo := pool [(9, u "<init>"), (6, .class_ 18), (1, u "java/lang/Object"), (0, u "()V"), (1, .class_ 23), (1, u "jdk/internal/util/ArraysSupport"), (0, u "LOG2_ARRAY_LONG_INDEX_SCALE"), (0, u "I"), (2, u "U"), (0, u "Ljdk/internal/misc/Unsafe;"), (8, u "BIG_ENDIAN"), (0, u "Z"), (8, u "LOG2_BYTE_BIT_SIZE"), (4, u "LOG2_ARRAY_INT_INDEX_SCALE"), (54, u "JLA"), (0, u "Ljdk/internal/access/JavaLangAccess;"), (11, u "LOG2_ARRAY_BOOLEAN_INDEX_SCALE"), (9, u "LOG2_ARRAY_BYTE_INDEX_SCALE"), (5, u "LOG2_ARRAY_CHAR_INDEX_SCALE"), (5, u "LOG2_ARRAY_SHORT_INDEX_SCALE"), (18, u "LOG2_ARRAY_FLOAT_INDEX_SCALE"), (24, u "LOG2_ARRAY_DOUBLE_INDEX_SCALE"), (6, .methodref 195 196), (0, .class_ 197), (0, .nameAndType 198 199), (0, u "java/lang/Math"), (0, u "max"), (0, u "(II)I"), (0, .integer 2147483639), (76, u "T_BOOLEAN"), (2, u "T_CHAR"), (1, u "T_FLOAT"), (1, u "T_DOUBLE"), (1, u "T_BYTE"), (1, u "T_SHORT"), (1, u "T_INT"), (1, u "T_LONG"), (1, u "SOFT_MAX_ARRAY_LENGTH"), (56, u "newLength"), (0, u "(III)I")] 25

def k18m0 : Method := { name := "<init>", desc := "()V", sig := { parameters := [], returnType := none }, accessFlags := 2, code := none }
def k18c1 : Code := { maxStack := 3, maxLocals := 4, code := jdk_48_method_27_code, exceptionTable := #[], attributes := #[] }
def k18m1 : Method := { name := "newLength", desc := "(III)I", sig := { parameters := [.int, .int, .int], returnType := some .int }, accessFlags := 9, code := some k18c1 }
/-- jdk/internal/util/ArraysSupport -/
def k18 : Class := { plain "jdk/internal/util/ArraysSupport" (some 0) with
  accessFlags := 33
  interfaces := #[]
  cf := some (fileOf pool18 21 #[] #[{ accessFlags := 2, nameIndex := 9, descriptorIndex := 19, attributes := #[] }, { accessFlags := 9, nameIndex := 351, descriptorIndex := 352, attributes := #[] }] 33 16 #[] #[{ accessFlags := 24, nameIndex := 28, descriptorIndex := 29, attributes := #[] }, { accessFlags := 26, nameIndex := 38, descriptorIndex := 39, attributes := #[] }, { accessFlags := 25, nameIndex := 121, descriptorIndex := 25, attributes := #[] }, { accessFlags := 25, nameIndex := 131, descriptorIndex := 25, attributes := #[] }, { accessFlags := 25, nameIndex := 137, descriptorIndex := 25, attributes := #[] }, { accessFlags := 25, nameIndex := 143, descriptorIndex := 25, attributes := #[] }, { accessFlags := 25, nameIndex := 53, descriptorIndex := 25, attributes := #[] }, { accessFlags := 25, nameIndex := 24, descriptorIndex := 25, attributes := #[] }, { accessFlags := 25, nameIndex := 162, descriptorIndex := 25, attributes := #[] }, { accessFlags := 25, nameIndex := 187, descriptorIndex := 25, attributes := #[] }, { accessFlags := 26, nameIndex := 48, descriptorIndex := 25, attributes := #[] }, { accessFlags := 25, nameIndex := 277, descriptorIndex := 25, attributes := #[] }, { accessFlags := 25, nameIndex := 280, descriptorIndex := 25, attributes := #[] }, { accessFlags := 25, nameIndex := 282, descriptorIndex := 25, attributes := #[] }, { accessFlags := 25, nameIndex := 284, descriptorIndex := 25, attributes := #[] }, { accessFlags := 25, nameIndex := 286, descriptorIndex := 25, attributes := #[] }, { accessFlags := 25, nameIndex := 288, descriptorIndex := 25, attributes := #[] }, { accessFlags := 25, nameIndex := 290, descriptorIndex := 25, attributes := #[] }, { accessFlags := 25, nameIndex := 292, descriptorIndex := 25, attributes := #[] }, { accessFlags := 26, nameIndex := 108, descriptorIndex := 109, attributes := #[] }, { accessFlags := 25, nameIndex := 294, descriptorIndex := 25, attributes := #[] }])
  fields := #[{ name := "U", type := (.object "jdk/internal/misc/Unsafe"), accessFlags := 24, slot := 0, constantValue := 0 }, { name := "BIG_ENDIAN", type := .boolean, accessFlags := 26, slot := 1, constantValue := 0 }, { name := "LOG2_ARRAY_BOOLEAN_INDEX_SCALE", type := .int, accessFlags := 25, slot := 2, constantValue := 0 }, { name := "LOG2_ARRAY_BYTE_INDEX_SCALE", type := .int, accessFlags := 25, slot := 3, constantValue := 0 }, { name := "LOG2_ARRAY_CHAR_INDEX_SCALE", type := .int, accessFlags := 25, slot := 4, constantValue := 0 }, { name := "LOG2_ARRAY_SHORT_INDEX_SCALE", type := .int, accessFlags := 25, slot := 5, constantValue := 0 }, { name := "LOG2_ARRAY_INT_INDEX_SCALE", type := .int, accessFlags := 25, slot := 6, constantValue := 0 }, { name := "LOG2_ARRAY_LONG_INDEX_SCALE", type := .int, accessFlags := 25, slot := 7, constantValue := 0 }, { name := "LOG2_ARRAY_FLOAT_INDEX_SCALE", type := .int, accessFlags := 25, slot := 8, constantValue := 0 }, { name := "LOG2_ARRAY_DOUBLE_INDEX_SCALE", type := .int, accessFlags := 25, slot := 9, constantValue := 0 }, { name := "LOG2_BYTE_BIT_SIZE", type := .int, accessFlags := 26, slot := 10, constantValue := 0 }, { name := "T_BOOLEAN", type := .int, accessFlags := 25, slot := 11, constantValue := 0 }, { name := "T_CHAR", type := .int, accessFlags := 25, slot := 12, constantValue := 0 }, { name := "T_FLOAT", type := .int, accessFlags := 25, slot := 13, constantValue := 0 }, { name := "T_DOUBLE", type := .int, accessFlags := 25, slot := 14, constantValue := 0 }, { name := "T_BYTE", type := .int, accessFlags := 25, slot := 15, constantValue := 0 }, { name := "T_SHORT", type := .int, accessFlags := 25, slot := 16, constantValue := 0 }, { name := "T_INT", type := .int, accessFlags := 25, slot := 17, constantValue := 0 }, { name := "T_LONG", type := .int, accessFlags := 25, slot := 18, constantValue := 0 }, { name := "JLA", type := (.object "jdk/internal/access/JavaLangAccess"), accessFlags := 26, slot := 19, constantValue := 0 }, { name := "SOFT_MAX_ARRAY_LENGTH", type := .int, accessFlags := 25, slot := 20, constantValue := 0 }]
  methods := #[k18m0, k18m1]
  instanceTypes := #[]
  staticTypes := #[(.object "jdk/internal/misc/Unsafe"), .boolean, .int, .int, .int, .int, .int, .int, .int, .int, .int, .int, .int, .int, .int, .int, .int, .int, .int, (.object "jdk/internal/access/JavaLangAccess"), .int]
  resolved := Array.replicate 378 none
  statics := none }

def pool19 : Array CpInfo := pool [(1, .class_ 2), (0, u "java/lang/Math"), (1, .class_ 6), (1, u "java/lang/Object"), (0, u "<init>"), (0, u "()V"), (89, .class_ 100), (1, u "java/lang/Math$RandomNumberGeneratorHolder"), (71, u "negativeZeroFloatBits"), (0, u "J"), (2, u "negativeZeroDoubleBits"), (21, u "max"), (2, u "min"), (43, u "$assertionsDisabled"), (0, u "Z"), (88, u "(II)I"), (2, u "twoToTheDoubleScaleDown"), (0, u "D"), (4, u "twoToTheDoubleScaleUp"), (9, u "E"), (3, u "PI"), (2, u "TAU"), (2, u "DEGREES_TO_RADIANS"), (0, u "RADIANS_TO_DEGREES")] 94

def k19m0 : Method := { name := "<init>", desc := "()V", sig := { parameters := [], returnType := none }, accessFlags := 2, code := none }
def k19c1 : Code := { maxStack := 2, maxLocals := 2, code := jdk_29_method_65_code, exceptionTable := #[], attributes := #[] }
def k19m1 : Method := { name := "max", desc := "(II)I", sig := { parameters := [.int, .int], returnType := some .int }, accessFlags := 9, code := some k19c1 }
def k19c2 : Code := { maxStack := 2, maxLocals := 2, code := jdk_29_method_69_code, exceptionTable := #[], attributes := #[] }
def k19m2 : Method := { name := "min", desc := "(II)I", sig := { parameters := [.int, .int], returnType := some .int }, accessFlags := 9, code := some k19c2 }
/-- java/lang/Math -/
def k19 : Class := { plain "java/lang/Math" (some 0) with
  accessFlags := 49
  interfaces := #[]
  cf := some (fileOf pool19 1 #[.nestMembers #[98]] #[{ accessFlags := 2, nameIndex := 7, descriptorIndex := 8, attributes := #[] }, { accessFlags := 9, nameIndex := 198, descriptorIndex := 335, attributes := #[] }, { accessFlags := 9, nameIndex := 201, descriptorIndex := 335, attributes := #[] }] 49 4 #[] #[{ accessFlags := 25, nameIndex := 354, descriptorIndex := 339, attributes := #[] }, { accessFlags := 25, nameIndex := 358, descriptorIndex := 339, attributes := #[] }, { accessFlags := 25, nameIndex := 361, descriptorIndex := 339, attributes := #[] }, { accessFlags := 26, nameIndex := 364, descriptorIndex := 339, attributes := #[] }, { accessFlags := 26, nameIndex := 365, descriptorIndex := 339, attributes := #[] }, { accessFlags := 26, nameIndex := 172, descriptorIndex := 173, attributes := #[] }, { accessFlags := 26, nameIndex := 176, descriptorIndex := 173, attributes := #[] }, { accessFlags := 8, nameIndex := 344, descriptorIndex := 339, attributes := #[] }, { accessFlags := 8, nameIndex := 338, descriptorIndex := 339, attributes := #[] }, { accessFlags := 4120, nameIndex := 245, descriptorIndex := 246, attributes := #[] }])
  fields := #[{ name := "E", type := .double, accessFlags := 25, slot := 0, constantValue := 0 }, { name := "PI", type := .double, accessFlags := 25, slot := 1, constantValue := 0 }, { name := "TAU", type := .double, accessFlags := 25, slot := 2, constantValue := 0 }, { name := "DEGREES_TO_RADIANS", type := .double, accessFlags := 26, slot := 3, constantValue := 0 }, { name := "RADIANS_TO_DEGREES", type := .double, accessFlags := 26, slot := 4, constantValue := 0 }, { name := "negativeZeroFloatBits", type := .long, accessFlags := 26, slot := 5, constantValue := 0 }, { name := "negativeZeroDoubleBits", type := .long, accessFlags := 26, slot := 6, constantValue := 0 }, { name := "twoToTheDoubleScaleUp", type := .double, accessFlags := 8, slot := 7, constantValue := 0 }, { name := "twoToTheDoubleScaleDown", type := .double, accessFlags := 8, slot := 8, constantValue := 0 }, { name := "$assertionsDisabled", type := .boolean, accessFlags := 4120, slot := 9, constantValue := 0 }]
  methods := #[k19m0, k19m1, k19m2]
  instanceTypes := #[]
  staticTypes := #[.double, .double, .double, .double, .double, .long, .long, .double, .double, .boolean]
  resolved := Array.replicate 460 none
  statics := none }

def pool20 : Array CpInfo := pool [(2, .class_ 4), (1, u "java/lang/Object"), (0, u "<init>"), (0, u "()V"), (7, .class_ 16), (1, u "java/util/Arrays"), (57, .class_ 76), (1, u "java/util/Arrays$NaturalOrder"), (36, .class_ 115), (1, u "java/util/Arrays$LegacyMergeSort"), (1, u "Z"), (32, .methodref 151 152), (0, .class_ 153), (0, .nameAndType 154 155), (0, u "java/lang/System"), (0, u "arraycopy"), (0, u "(Ljava/lang/Object;ILjava/lang/Object;II)V"), (146, u "copyOf"), (1, .methodref 305 306), (0, .class_ 307), (0, .nameAndType 308 309), (0, u "java/lang/Math"), (0, u "min"), (0, u "(II)I"), (65, .class_ 376), (0, u "java/util/Arrays$ArrayList"), (68, u "$assertionsDisabled"), (269, u "MIN_ARRAY_SORT_GRAN"), (0, u "I"), (2, u "INSERTIONSORT_THRESHOLD"), (149, u "([BI)[B"), (105, .class_ 976), (0, u "java/util/Arrays$ArrayItr")] 52

def k20m0 : Method := { name := "<init>", desc := "()V", sig := { parameters := [], returnType := none }, accessFlags := 2, code := none }
def k20c1 : Code := { maxStack := 6, maxLocals := 3, code := jdk_65_method_121_code, exceptionTable := #[], attributes := #[] }
def k20m1 : Method := { name := "copyOf", desc := "([BI)[B", sig := { parameters := [(.array .byte), .int], returnType := some (.array .byte) }, accessFlags := 9, code := some k20c1 }
/-- java/util/Arrays -/
def k20 : Class := { plain "java/util/Arrays" (some 0) with
  accessFlags := 49
  interfaces := #[]
  cf := some (fileOf pool20 14 #[.nestMembers #[975, 375, 113, 74]] #[{ accessFlags := 2, nameIndex := 5, descriptorIndex := 6, attributes := #[] }, { accessFlags := 9, nameIndex := 302, descriptorIndex := 869, attributes := #[] }] 49 2 #[] #[{ accessFlags := 26, nameIndex := 715, descriptorIndex := 716, attributes := #[] }, { accessFlags := 26, nameIndex := 719, descriptorIndex := 716, attributes := #[] }, { accessFlags := 4120, nameIndex := 445, descriptorIndex := 117, attributes := #[] }])
  fields := #[{ name := "MIN_ARRAY_SORT_GRAN", type := .int, accessFlags := 26, slot := 0, constantValue := 0 }, { name := "INSERTIONSORT_THRESHOLD", type := .int, accessFlags := 26, slot := 1, constantValue := 0 }, { name := "$assertionsDisabled", type := .boolean, accessFlags := 4120, slot := 2, constantValue := 0 }]
  methods := #[k20m0, k20m1]
  instanceTypes := #[]
  staticTypes := #[.int, .int, .boolean]
  resolved := Array.replicate 1029 none
  statics := none }

def pool21 : Array CpInfo := pool [(2, .class_ 4), (1, u "java/lang/Object"), (0, u "<init>"), (0, u "()V"), (17, .class_ 26), (1, u "jdk/internal/util/Preconditions"), (28, .class_ 56), (0, u "jdk/internal/util/Preconditions$4"), (57, .class_ 115), (0, u "jdk/internal/util/Preconditions$1"), (7, u "SIOOBE_FORMATTER"), (0, u "Ljava/util/function/BiFunction;"), (0, .class_ 126), (0, u "jdk/internal/util/Preconditions$2"), (3, u "AIOOBE_FORMATTER"), (0, .class_ 132), (0, u "jdk/internal/util/Preconditions$3"), (3, u "IOOBE_FORMATTER")] 57

def k21m0 : Method := { name := "<init>", desc := "()V", sig := { parameters := [], returnType := none }, accessFlags := 1, code := none }
/-- jdk/internal/util/Preconditions -/
def k21 : Class := { plain "jdk/internal/util/Preconditions" (some 0) with
  accessFlags := 33
  interfaces := #[]
  cf := some (fileOf pool21 24 #[.nestMembers #[55, 131, 125, 114]] #[{ accessFlags := 1, nameIndex := 5, descriptorIndex := 6, attributes := #[] }] 33 2 #[] #[{ accessFlags := 25, nameIndex := 123, descriptorIndex := 124, attributes := #[] }, { accessFlags := 25, nameIndex := 130, descriptorIndex := 124, attributes := #[] }, { accessFlags := 25, nameIndex := 136, descriptorIndex := 124, attributes := #[] }])
  fields := #[{ name := "SIOOBE_FORMATTER", type := (.object "java/util/function/BiFunction"), accessFlags := 25, slot := 0, constantValue := 0 }, { name := "AIOOBE_FORMATTER", type := (.object "java/util/function/BiFunction"), accessFlags := 25, slot := 1, constantValue := 0 }, { name := "IOOBE_FORMATTER", type := (.object "java/util/function/BiFunction"), accessFlags := 25, slot := 2, constantValue := 0 }]
  methods := #[k21m0]
  instanceTypes := #[]
  staticTypes := #[(.object "java/util/function/BiFunction"), (.object "java/util/function/BiFunction"), (.object "java/util/function/BiFunction")]
  resolved := Array.replicate 194 none
  statics := some 2 }

/-- the primitive byte -/
def k22 : Class := { plain "byte" none with kind := .primitive 'B', accessFlags := 0x411 }
/-- [B -/
def k23 : Class := { plain "[B" (some 0) with kind := .array 22 .byte, interfaces := #[12, 4], accessFlags := 1041 }

/-- the primitive char -/
def k24 : Class := { plain "char" none with kind := .primitive 'C', accessFlags := 0x411 }
/-- [C -/
def k25 : Class := { plain "[C" (some 0) with kind := .array 24 .char, interfaces := #[12, 4], accessFlags := 1041 }

/-- the primitive int -/
def k26 : Class := { plain "int" none with kind := .primitive 'I', accessFlags := 0x411 }
/-- [I -/
def k27 : Class := { plain "[I" (some 0) with kind := .array 26 .int, interfaces := #[12, 4], accessFlags := 1041 }

/-- [Lcom/example/lotbook/lotbook/AccountStatus; -/
def k28 : Class := { plain "[Lcom/example/lotbook/lotbook/AccountStatus;" (some 0) with kind := .array 7 (.object "com/example/lotbook/lotbook/AccountStatus"), interfaces := #[12, 4], accessFlags := 1041 }

def heap : Heap := #[{ cls := 7, slots := #[.ref 4, .ref 5, .ref 6, .ref 3], vm := .statics 7 },
  { cls := 10, slots := #[.long 0, .int 1, .null, .int 0, .null, .int 0, .int 0], vm := .statics 10 },
  { cls := 21, slots := #[.null, .null, .null], vm := .statics 21 },
  { cls := 28, slots := #[.ref 4, .ref 5, .ref 6], vm := .none },
  { cls := 7, slots := #[.null, .int 0, .int 0, .ref 7], vm := .none },
  { cls := 7, slots := #[.null, .int 1, .int 0, .ref 8], vm := .none },
  { cls := 7, slots := #[.null, .int 2, .int 0, .ref 9], vm := .none },
  { cls := 10, slots := #[.ref 10, .int 0, .int 0, .int 0], vm := .none },
  { cls := 10, slots := #[.ref 11, .int 0, .int 0, .int 0], vm := .none },
  { cls := 10, slots := #[.ref 12, .int 0, .int 0, .int 0], vm := .none },
  { cls := 23, slots := #[.int 110, .int 111, .int 114, .int 109, .int 97, .int 108], vm := .none },
  { cls := 23, slots := #[.int 110, .int 111, .int 95, .int 110, .int 101, .int 119, .int 95, .int 111, .int 112, .int 101, .int 110], vm := .none },
  { cls := 23, slots := #[.int 108, .int 105, .int 113, .int 117, .int 105, .int 100, .int 97, .int 116, .int 101], vm := .none }]
def classes : Array Class := #[k0, k1, k2, k3, k4, k5, k6, k7, k8, k9, k10, k11, k12, k13, k14, k15, k16, k17, k18, k19, k20, k21, k22, k23, k24, k25, k26, k27, k28]
def interned : List (Array UInt16 × Addr) := []
def slotsUsed : Nat := 67
def theMethod : MethodId := ⟨1, 1⟩
def args0 : Array Value := #[.int 5]
def aboutOver (below : List Frame) : State where
  vm := { classes := classes, interned := interned.toArray }
  heap := heap
  slotsUsed := slotsUsed
  threads := #[{ frames := .invoking theMethod args0 :: below }]
def below0 : List Frame := [.native { method := ⟨0, 0⟩, args := #[] }]
def about1 : State := aboutOver below0
def p0 : Program := .bare "" "" ""
def e0 : Env := launch0.env 0 0 0
theorem w_frames : about1.frames = Frame.invoking theMethod args0 :: below0 := rfl
set_option maxRecDepth 65536 in
theorem w_args : argsFit about1.vm theMethod args0 = true := by decide +kernel
set_option maxRecDepth 65536 in
theorem w_heap : heapFits about1 = true := by decide +kernel
set_option maxRecDepth 65536 in
theorem w_runnable : about1.curStatus? = some .runnable := by decide +kernel
set_option maxRecDepth 65536 in
theorem w_alone : about1.alone = true := by decide +kernel
set_option maxRecDepth 65536 in
theorem w_named : about1.methodNamed? x = some theMethod := by decide +kernel
set_option maxRecDepth 65536 in
theorem w_hears : about1.hears theMethod below0 = true := by decide +kernel
set_option maxRecDepth 65536 in
theorem w_ripe : about1.ripe theMethod args0 below0 = true := by decide +kernel
theorem w_running : about1.status = .running := rfl
set_option maxRecDepth 65536 in
theorem w_room : about1.hasRoom e0.platform room_1 = true :=
  launch0.hasRoom_least _ room_1 (by decide +kernel) (by decide +kernel) (by decide +kernel) (by decide +kernel) (by decide +kernel) (by decide +kernel)
theorem allAtoms_all (ts : List Jvm.Cond) (a : Array Jvm.Value) (st : Jvm.State) : (allAtoms ts).before a st = ts.all (fun c => c.before a st) := by
  induction ts with
  | nil => rfl
  | cons c t ih =>
    show (Jvm.Cond.and c (allAtoms t)).before a st = _
    rw [Jvm.Cond.before_and, ih, List.all_cons]
def words1 : List Jvm.Cond := Jvm.Cond.code x code maxLocals ret :: tables_1
/-- a 'code' word, met by the world's own term for the bytes: nothing is compared byte by byte -/
theorem code_word {y : MethodName} {bytes : ByteArray} {mx : Nat} {rt : Option FieldType} {a : Array Value} {s : State} {m : MethodId} {meth : Method} {c : Code} (h1 : s.methodNamed? y = some m) (h2 : s.vm.method? m = some meth) (h3 : meth.code = some c) (h4 : c.code = bytes)
    (h5 : (c.maxLocals == mx && c.exceptionTable.isEmpty && decide (c.maxStack ≤ mostOperands) && decide (meth.sig.returnType = rt) && !meth.locks && decide (parseMethodDescriptor y.desc = some meth.sig)) = true) : (Jvm.Cond.code y bytes mx rt).before a s = true := by
  simp only [Bool.and_eq_true, beq_iff_eq, Bool.not_eq_true', decide_eq_true_eq] at h5
  obtain ⟨⟨⟨⟨⟨g1, g2⟩, g3⟩, g4⟩, g5⟩, g6⟩ := h5
  simp [Cond.before, Cond.holds, Cond.value, h1, h2, h3, h4, g1, g2, g3, g4, g5, g6]
def isCode : Jvm.Cond → Bool
  | .code _ _ _ _ => true
  | _ => false
theorem all_split {L : List Jvm.Cond} {P : Jvm.Cond → Bool} (h1 : L.all (fun c => isCode c || P c) = true) (h2 : ∀ c ∈ L.filter isCode, P c = true) : L.all P = true := by
  refine List.all_eq_true.mpr fun c hc => ?_
  have h := List.all_eq_true.mp h1 c hc
  rcases Bool.eq_false_or_eq_true (isCode c) with hi | hi
  · exact h2 c (List.mem_filter.mpr ⟨hc, hi⟩)
  · simpa [hi] using h
set_option maxRecDepth 65536 in
theorem w_c0 : (Jvm.Cond.code x code maxLocals ret).before args0 about1 = true := code_word (m := ⟨1, 1⟩) (meth := k1m1) (c := k1c1) (by decide +kernel) rfl rfl rfl (by decide +kernel)
set_option maxRecDepth 65536 in
theorem w_c1 : (Jvm.Cond.code ({ cls := "java/lang/String", name := "<init>", desc := "([C)V" } : Jvm.MethodName) jdk_42_method_3_code (2 : Nat) (Option.none : Option Jvm.ClassFile.FieldType)).before args0 about1 = true := code_word (m := ⟨10, 1⟩) (meth := k10m1) (c := k10c1) (by decide +kernel) rfl rfl rfl (by decide +kernel)
set_option maxRecDepth 65536 in
theorem w_c2 : (Jvm.Cond.code ({ cls := "java/lang/String", name := "<init>", desc := "([CIILjava/lang/Void;)V" } : Jvm.MethodName) jdk_42_method_149_code (6 : Nat) (Option.none : Option Jvm.ClassFile.FieldType)).before args0 about1 = true := code_word (m := ⟨10, 5⟩) (meth := k10m5) (c := k10c5) (by decide +kernel) rfl rfl rfl (by decide +kernel)
set_option maxRecDepth 65536 in
theorem w_c3 : (Jvm.Cond.code ({ cls := "java/lang/Object", name := "<init>", desc := "()V" } : Jvm.MethodName) object_method_1_code (1 : Nat) (Option.none : Option Jvm.ClassFile.FieldType)).before args0 about1 = true := code_word (m := ⟨0, 0⟩) (meth := k0m0) (c := k0c0) (by decide +kernel) rfl rfl rfl (by decide +kernel)
set_option maxRecDepth 65536 in
theorem w_c4 : (Jvm.Cond.code ({ cls := "java/lang/StringUTF16", name := "compress", desc := "([CII)[B" } : Jvm.MethodName) jdk_52_method_16_code (6 : Nat) (Option.some (Jvm.ClassFile.FieldType.array Jvm.ClassFile.FieldType.byte))).before args0 about1 = true := code_word (m := ⟨11, 2⟩) (meth := k11m2) (c := k11c2) (by decide +kernel) rfl rfl rfl (by decide +kernel)
set_option maxRecDepth 65536 in
theorem w_c5 : (Jvm.Cond.code ({ cls := "java/lang/StringUTF16", name := "compress", desc := "([CI[BII)I" } : Jvm.MethodName) jdk_52_method_21_code (7 : Nat) (Option.some Jvm.ClassFile.FieldType.int)).before args0 about1 = true := code_word (m := ⟨11, 3⟩) (meth := k11m3) (c := k11c3) (by decide +kernel) rfl rfl rfl (by decide +kernel)
set_option maxRecDepth 65536 in
theorem w_c6 : (Jvm.Cond.code ({ cls := "java/lang/StringUTF16", name := "coderFromArrayLen", desc := "([BI)B" } : Jvm.MethodName) jdk_52_method_15_code (2 : Nat) (Option.some Jvm.ClassFile.FieldType.byte)).before args0 about1 = true := code_word (m := ⟨11, 1⟩) (meth := k11m1) (c := k11c1) (by decide +kernel) rfl rfl rfl (by decide +kernel)
set_option maxRecDepth 65536 in
theorem w_c7 : (Jvm.Cond.code ({ cls := "com/example/lotbook/lotbook/AccountStatus", name := "fromCode", desc := "(Ljava/lang/String;)Lcom/example/lotbook/lotbook/AccountStatus;" } : Jvm.MethodName) prog_2_method_5_code (1 : Nat) (Option.some (Jvm.ClassFile.FieldType.object "com/example/lotbook/lotbook/AccountStatus"))).before args0 about1 = true := code_word (m := ⟨7, 2⟩) (meth := k7m2) (c := k7c2) (by decide +kernel) rfl rfl rfl (by decide +kernel)
set_option maxRecDepth 65536 in
theorem w_c8 : (Jvm.Cond.code ({ cls := "com/example/lotbook/lotbook/AccountStatus", name := "values", desc := "()[Lcom/example/lotbook/lotbook/AccountStatus;" } : Jvm.MethodName) prog_2_method_1_code (0 : Nat) (Option.some (Jvm.ClassFile.FieldType.array (Jvm.ClassFile.FieldType.object "com/example/lotbook/lotbook/AccountStatus")))).before args0 about1 = true := code_word (m := ⟨7, 0⟩) (meth := k7m0) (c := k7c0) (by decide +kernel) rfl rfl rfl (by decide +kernel)
set_option maxRecDepth 65536 in
theorem w_c9 : (Jvm.Cond.code ({ cls := "com/example/lotbook/lotbook/Flag", name := "fromCode", desc := "([Lcom/example/lotbook/lotbook/Flag;Ljava/lang/String;Ljava/lang/String;)Lcom/example/lotbook/lotbook/Flag;" } : Jvm.MethodName) prog_34_method_2_code (8 : Nat) (Option.some (Jvm.ClassFile.FieldType.object "com/example/lotbook/lotbook/Flag"))).before args0 about1 = true := code_word (m := ⟨6, 1⟩) (meth := k6m1) (c := k6c1) (by decide +kernel) rfl rfl rfl (by decide +kernel)
set_option maxRecDepth 65536 in
theorem w_c10 : (Jvm.Cond.code ({ cls := "java/lang/StringBuilder", name := "<init>", desc := "()V" } : Jvm.MethodName) jdk_67_method_1_code (1 : Nat) (Option.none : Option Jvm.ClassFile.FieldType)).before args0 about1 = true := code_word (m := ⟨15, 0⟩) (meth := k15m0) (c := k15c0) (by decide +kernel) rfl rfl rfl (by decide +kernel)
set_option maxRecDepth 65536 in
theorem w_c11 : (Jvm.Cond.code ({ cls := "java/lang/AbstractStringBuilder", name := "<init>", desc := "(I)V" } : Jvm.MethodName) jdk_68_method_2_code (2 : Nat) (Option.none : Option Jvm.ClassFile.FieldType)).before args0 about1 = true := code_word (m := ⟨14, 1⟩) (meth := k14m1) (c := k14c1) (by decide +kernel) rfl rfl rfl (by decide +kernel)
set_option maxRecDepth 65536 in
theorem w_c12 : (Jvm.Cond.code ({ cls := "com/example/lotbook/lotbook/AccountStatus", name := "code", desc := "()Ljava/lang/String;" } : Jvm.MethodName) prog_2_method_4_code (1 : Nat) (Option.some (Jvm.ClassFile.FieldType.object "java/lang/String"))).before args0 about1 = true := code_word (m := ⟨7, 1⟩) (meth := k7m1) (c := k7c1) (by decide +kernel) rfl rfl rfl (by decide +kernel)
set_option maxRecDepth 65536 in
theorem w_c13 : (Jvm.Cond.code ({ cls := "java/lang/String", name := "equals", desc := "(Ljava/lang/Object;)Z" } : Jvm.MethodName) jdk_42_method_66_code (3 : Nat) (Option.some Jvm.ClassFile.FieldType.boolean)).before args0 about1 = true := code_word (m := ⟨10, 3⟩) (meth := k10m3) (c := k10c3) (by decide +kernel) rfl rfl rfl (by decide +kernel)
set_option maxRecDepth 65536 in
theorem w_c14 : (Jvm.Cond.code ({ cls := "java/lang/StringLatin1", name := "equals", desc := "([B[B)Z" } : Jvm.MethodName) jdk_43_method_13_code (3 : Nat) (Option.some Jvm.ClassFile.FieldType.boolean)).before args0 about1 = true := code_word (m := ⟨16, 1⟩) (meth := k16m1) (c := k16c1) (by decide +kernel) rfl rfl rfl (by decide +kernel)
set_option maxRecDepth 65536 in
theorem w_c15 : (Jvm.Cond.code ({ cls := "java/lang/StringBuilder", name := "length", desc := "()I" } : Jvm.MethodName) jdk_67_method_93_code (1 : Nat) (Option.some Jvm.ClassFile.FieldType.int)).before args0 about1 = true := code_word (m := ⟨15, 2⟩) (meth := k15m2) (c := k15c2) (by decide +kernel) rfl rfl rfl (by decide +kernel)
set_option maxRecDepth 65536 in
theorem w_c16 : (Jvm.Cond.code ({ cls := "java/lang/AbstractStringBuilder", name := "length", desc := "()I" } : Jvm.MethodName) jdk_68_method_6_code (1 : Nat) (Option.some Jvm.ClassFile.FieldType.int)).before args0 about1 = true := code_word (m := ⟨14, 2⟩) (meth := k14m2) (c := k14c2) (by decide +kernel) rfl rfl rfl (by decide +kernel)
set_option maxRecDepth 65536 in
theorem w_c17 : (Jvm.Cond.code ({ cls := "java/lang/StringBuilder", name := "append", desc := "(Ljava/lang/String;)Ljava/lang/StringBuilder;" } : Jvm.MethodName) jdk_67_method_7_code (2 : Nat) (Option.some (Jvm.ClassFile.FieldType.object "java/lang/StringBuilder"))).before args0 about1 = true := code_word (m := ⟨15, 1⟩) (meth := k15m1) (c := k15c1) (by decide +kernel) rfl rfl rfl (by decide +kernel)
set_option maxRecDepth 65536 in
theorem w_c18 : (Jvm.Cond.code ({ cls := "java/lang/AbstractStringBuilder", name := "append", desc := "(Ljava/lang/String;)Ljava/lang/AbstractStringBuilder;" } : Jvm.MethodName) jdk_68_method_22_code (3 : Nat) (Option.some (Jvm.ClassFile.FieldType.object "java/lang/AbstractStringBuilder"))).before args0 about1 = true := code_word (m := ⟨14, 5⟩) (meth := k14m5) (c := k14c5) (by decide +kernel) rfl rfl rfl (by decide +kernel)
set_option maxRecDepth 65536 in
theorem w_c19 : (Jvm.Cond.code ({ cls := "java/lang/String", name := "length", desc := "()I" } : Jvm.MethodName) jdk_42_method_54_code (1 : Nat) (Option.some Jvm.ClassFile.FieldType.int)).before args0 about1 = true := code_word (m := ⟨10, 2⟩) (meth := k10m2) (c := k10c2) (by decide +kernel) rfl rfl rfl (by decide +kernel)
set_option maxRecDepth 65536 in
theorem w_c20 : (Jvm.Cond.code ({ cls := "java/lang/String", name := "coder", desc := "()B" } : Jvm.MethodName) jdk_42_method_152_code (1 : Nat) (Option.some Jvm.ClassFile.FieldType.byte)).before args0 about1 = true := code_word (m := ⟨10, 6⟩) (meth := k10m6) (c := k10c6) (by decide +kernel) rfl rfl rfl (by decide +kernel)
set_option maxRecDepth 65536 in
theorem w_c21 : (Jvm.Cond.code ({ cls := "java/lang/AbstractStringBuilder", name := "ensureCapacityInternal", desc := "(I)V" } : Jvm.MethodName) jdk_68_method_9_code (3 : Nat) (Option.none : Option Jvm.ClassFile.FieldType)).before args0 about1 = true := code_word (m := ⟨14, 3⟩) (meth := k14m3) (c := k14c3) (by decide +kernel) rfl rfl rfl (by decide +kernel)
set_option maxRecDepth 65536 in
theorem w_c22 : (Jvm.Cond.code ({ cls := "java/lang/AbstractStringBuilder", name := "putStringAt", desc := "(ILjava/lang/String;)V" } : Jvm.MethodName) jdk_68_method_73_code (3 : Nat) (Option.none : Option Jvm.ClassFile.FieldType)).before args0 about1 = true := code_word (m := ⟨14, 7⟩) (meth := k14m7) (c := k14c7) (by decide +kernel) rfl rfl rfl (by decide +kernel)
set_option maxRecDepth 65536 in
theorem w_c23 : (Jvm.Cond.code ({ cls := "java/lang/AbstractStringBuilder", name := "inflateIfNeededFor", desc := "(Ljava/lang/String;)V" } : Jvm.MethodName) jdk_68_method_71_code (2 : Nat) (Option.none : Option Jvm.ClassFile.FieldType)).before args0 about1 = true := code_word (m := ⟨14, 6⟩) (meth := k14m6) (c := k14c6) (by decide +kernel) rfl rfl rfl (by decide +kernel)
set_option maxRecDepth 65536 in
theorem w_c24 : (Jvm.Cond.code ({ cls := "java/lang/String", name := "getBytes", desc := "([BIB)V" } : Jvm.MethodName) jdk_42_method_147_code (4 : Nat) (Option.none : Option Jvm.ClassFile.FieldType)).before args0 about1 = true := code_word (m := ⟨10, 4⟩) (meth := k10m4) (c := k10c4) (by decide +kernel) rfl rfl rfl (by decide +kernel)
set_option maxRecDepth 65536 in
theorem w_c25 : (Jvm.Cond.code ({ cls := "java/lang/AbstractStringBuilder", name := "newCapacity", desc := "(I)I" } : Jvm.MethodName) jdk_68_method_10_code (6 : Nat) (Option.some Jvm.ClassFile.FieldType.int)).before args0 about1 = true := code_word (m := ⟨14, 4⟩) (meth := k14m4) (c := k14c4) (by decide +kernel) rfl rfl rfl (by decide +kernel)
set_option maxRecDepth 65536 in
theorem w_c26 : (Jvm.Cond.code ({ cls := "jdk/internal/util/ArraysSupport", name := "newLength", desc := "(III)I" } : Jvm.MethodName) jdk_48_method_27_code (4 : Nat) (Option.some Jvm.ClassFile.FieldType.int)).before args0 about1 = true := code_word (m := ⟨18, 1⟩) (meth := k18m1) (c := k18c1) (by decide +kernel) rfl rfl rfl (by decide +kernel)
set_option maxRecDepth 65536 in
theorem w_c27 : (Jvm.Cond.code ({ cls := "java/lang/Math", name := "max", desc := "(II)I" } : Jvm.MethodName) jdk_29_method_65_code (2 : Nat) (Option.some Jvm.ClassFile.FieldType.int)).before args0 about1 = true := code_word (m := ⟨19, 1⟩) (meth := k19m1) (c := k19c1) (by decide +kernel) rfl rfl rfl (by decide +kernel)
set_option maxRecDepth 65536 in
theorem w_c28 : (Jvm.Cond.code ({ cls := "java/util/Arrays", name := "copyOf", desc := "([BI)[B" } : Jvm.MethodName) jdk_65_method_121_code (3 : Nat) (Option.some (Jvm.ClassFile.FieldType.array Jvm.ClassFile.FieldType.byte))).before args0 about1 = true := code_word (m := ⟨20, 1⟩) (meth := k20m1) (c := k20c1) (by decide +kernel) rfl rfl rfl (by decide +kernel)
set_option maxRecDepth 65536 in
theorem w_c29 : (Jvm.Cond.code ({ cls := "java/lang/Math", name := "min", desc := "(II)I" } : Jvm.MethodName) jdk_29_method_69_code (2 : Nat) (Option.some Jvm.ClassFile.FieldType.int)).before args0 about1 = true := code_word (m := ⟨19, 2⟩) (meth := k19m2) (c := k19c2) (by decide +kernel) rfl rfl rfl (by decide +kernel)
def codes1 : List Jvm.Cond := [Jvm.Cond.code x code maxLocals ret, Jvm.Cond.code ({ cls := "java/lang/String", name := "<init>", desc := "([C)V" } : Jvm.MethodName) jdk_42_method_3_code (2 : Nat) (Option.none : Option Jvm.ClassFile.FieldType), Jvm.Cond.code ({ cls := "java/lang/String", name := "<init>", desc := "([CIILjava/lang/Void;)V" } : Jvm.MethodName) jdk_42_method_149_code (6 : Nat) (Option.none : Option Jvm.ClassFile.FieldType), Jvm.Cond.code ({ cls := "java/lang/Object", name := "<init>", desc := "()V" } : Jvm.MethodName) object_method_1_code (1 : Nat) (Option.none : Option Jvm.ClassFile.FieldType), Jvm.Cond.code ({ cls := "java/lang/StringUTF16", name := "compress", desc := "([CII)[B" } : Jvm.MethodName) jdk_52_method_16_code (6 : Nat) (Option.some (Jvm.ClassFile.FieldType.array Jvm.ClassFile.FieldType.byte)), Jvm.Cond.code ({ cls := "java/lang/StringUTF16", name := "compress", desc := "([CI[BII)I" } : Jvm.MethodName) jdk_52_method_21_code (7 : Nat) (Option.some Jvm.ClassFile.FieldType.int), Jvm.Cond.code ({ cls := "java/lang/StringUTF16", name := "coderFromArrayLen", desc := "([BI)B" } : Jvm.MethodName) jdk_52_method_15_code (2 : Nat) (Option.some Jvm.ClassFile.FieldType.byte), Jvm.Cond.code ({ cls := "com/example/lotbook/lotbook/AccountStatus", name := "fromCode", desc := "(Ljava/lang/String;)Lcom/example/lotbook/lotbook/AccountStatus;" } : Jvm.MethodName) prog_2_method_5_code (1 : Nat) (Option.some (Jvm.ClassFile.FieldType.object "com/example/lotbook/lotbook/AccountStatus")), Jvm.Cond.code ({ cls := "com/example/lotbook/lotbook/AccountStatus", name := "values", desc := "()[Lcom/example/lotbook/lotbook/AccountStatus;" } : Jvm.MethodName) prog_2_method_1_code (0 : Nat) (Option.some (Jvm.ClassFile.FieldType.array (Jvm.ClassFile.FieldType.object "com/example/lotbook/lotbook/AccountStatus"))), Jvm.Cond.code ({ cls := "com/example/lotbook/lotbook/Flag", name := "fromCode", desc := "([Lcom/example/lotbook/lotbook/Flag;Ljava/lang/String;Ljava/lang/String;)Lcom/example/lotbook/lotbook/Flag;" } : Jvm.MethodName) prog_34_method_2_code (8 : Nat) (Option.some (Jvm.ClassFile.FieldType.object "com/example/lotbook/lotbook/Flag")), Jvm.Cond.code ({ cls := "java/lang/StringBuilder", name := "<init>", desc := "()V" } : Jvm.MethodName) jdk_67_method_1_code (1 : Nat) (Option.none : Option Jvm.ClassFile.FieldType), Jvm.Cond.code ({ cls := "java/lang/AbstractStringBuilder", name := "<init>", desc := "(I)V" } : Jvm.MethodName) jdk_68_method_2_code (2 : Nat) (Option.none : Option Jvm.ClassFile.FieldType), Jvm.Cond.code ({ cls := "com/example/lotbook/lotbook/AccountStatus", name := "code", desc := "()Ljava/lang/String;" } : Jvm.MethodName) prog_2_method_4_code (1 : Nat) (Option.some (Jvm.ClassFile.FieldType.object "java/lang/String")), Jvm.Cond.code ({ cls := "java/lang/String", name := "equals", desc := "(Ljava/lang/Object;)Z" } : Jvm.MethodName) jdk_42_method_66_code (3 : Nat) (Option.some Jvm.ClassFile.FieldType.boolean), Jvm.Cond.code ({ cls := "java/lang/StringLatin1", name := "equals", desc := "([B[B)Z" } : Jvm.MethodName) jdk_43_method_13_code (3 : Nat) (Option.some Jvm.ClassFile.FieldType.boolean), Jvm.Cond.code ({ cls := "java/lang/StringBuilder", name := "length", desc := "()I" } : Jvm.MethodName) jdk_67_method_93_code (1 : Nat) (Option.some Jvm.ClassFile.FieldType.int), Jvm.Cond.code ({ cls := "java/lang/AbstractStringBuilder", name := "length", desc := "()I" } : Jvm.MethodName) jdk_68_method_6_code (1 : Nat) (Option.some Jvm.ClassFile.FieldType.int), Jvm.Cond.code ({ cls := "java/lang/StringBuilder", name := "append", desc := "(Ljava/lang/String;)Ljava/lang/StringBuilder;" } : Jvm.MethodName) jdk_67_method_7_code (2 : Nat) (Option.some (Jvm.ClassFile.FieldType.object "java/lang/StringBuilder")), Jvm.Cond.code ({ cls := "java/lang/AbstractStringBuilder", name := "append", desc := "(Ljava/lang/String;)Ljava/lang/AbstractStringBuilder;" } : Jvm.MethodName) jdk_68_method_22_code (3 : Nat) (Option.some (Jvm.ClassFile.FieldType.object "java/lang/AbstractStringBuilder")), Jvm.Cond.code ({ cls := "java/lang/String", name := "length", desc := "()I" } : Jvm.MethodName) jdk_42_method_54_code (1 : Nat) (Option.some Jvm.ClassFile.FieldType.int), Jvm.Cond.code ({ cls := "java/lang/String", name := "coder", desc := "()B" } : Jvm.MethodName) jdk_42_method_152_code (1 : Nat) (Option.some Jvm.ClassFile.FieldType.byte), Jvm.Cond.code ({ cls := "java/lang/AbstractStringBuilder", name := "ensureCapacityInternal", desc := "(I)V" } : Jvm.MethodName) jdk_68_method_9_code (3 : Nat) (Option.none : Option Jvm.ClassFile.FieldType), Jvm.Cond.code ({ cls := "java/lang/AbstractStringBuilder", name := "putStringAt", desc := "(ILjava/lang/String;)V" } : Jvm.MethodName) jdk_68_method_73_code (3 : Nat) (Option.none : Option Jvm.ClassFile.FieldType), Jvm.Cond.code ({ cls := "java/lang/AbstractStringBuilder", name := "inflateIfNeededFor", desc := "(Ljava/lang/String;)V" } : Jvm.MethodName) jdk_68_method_71_code (2 : Nat) (Option.none : Option Jvm.ClassFile.FieldType), Jvm.Cond.code ({ cls := "java/lang/String", name := "getBytes", desc := "([BIB)V" } : Jvm.MethodName) jdk_42_method_147_code (4 : Nat) (Option.none : Option Jvm.ClassFile.FieldType), Jvm.Cond.code ({ cls := "java/lang/AbstractStringBuilder", name := "newCapacity", desc := "(I)I" } : Jvm.MethodName) jdk_68_method_10_code (6 : Nat) (Option.some Jvm.ClassFile.FieldType.int), Jvm.Cond.code ({ cls := "jdk/internal/util/ArraysSupport", name := "newLength", desc := "(III)I" } : Jvm.MethodName) jdk_48_method_27_code (4 : Nat) (Option.some Jvm.ClassFile.FieldType.int), Jvm.Cond.code ({ cls := "java/lang/Math", name := "max", desc := "(II)I" } : Jvm.MethodName) jdk_29_method_65_code (2 : Nat) (Option.some Jvm.ClassFile.FieldType.int), Jvm.Cond.code ({ cls := "java/util/Arrays", name := "copyOf", desc := "([BI)[B" } : Jvm.MethodName) jdk_65_method_121_code (3 : Nat) (Option.some (Jvm.ClassFile.FieldType.array Jvm.ClassFile.FieldType.byte)), Jvm.Cond.code ({ cls := "java/lang/Math", name := "min", desc := "(II)I" } : Jvm.MethodName) jdk_29_method_69_code (2 : Nat) (Option.some Jvm.ClassFile.FieldType.int)]
set_option maxRecDepth 65536 in
theorem codes_eq : words1.filter isCode = codes1 := rfl
theorem w_codes : ∀ c ∈ words1.filter isCode, c.before args0 about1 = true := by
  rw [codes_eq]
  intro c hc
  simp only [codes1, List.mem_cons, List.not_mem_nil, or_false] at hc
  rcases hc with rfl | rfl | rfl | rfl | rfl | rfl | rfl | rfl | rfl | rfl | rfl | rfl | rfl | rfl | rfl | rfl | rfl | rfl | rfl | rfl | rfl | rfl | rfl | rfl | rfl | rfl | rfl | rfl | rfl | rfl
  · exact w_c0
  · exact w_c1
  · exact w_c2
  · exact w_c3
  · exact w_c4
  · exact w_c5
  · exact w_c6
  · exact w_c7
  · exact w_c8
  · exact w_c9
  · exact w_c10
  · exact w_c11
  · exact w_c12
  · exact w_c13
  · exact w_c14
  · exact w_c15
  · exact w_c16
  · exact w_c17
  · exact w_c18
  · exact w_c19
  · exact w_c20
  · exact w_c21
  · exact w_c22
  · exact w_c23
  · exact w_c24
  · exact w_c25
  · exact w_c26
  · exact w_c27
  · exact w_c28
  · exact w_c29
set_option maxRecDepth 65536 in
theorem w_t1 : (words1.take 24).all (fun c => isCode c || c.before args0 about1) = true := by decide +kernel
set_option maxRecDepth 65536 in
theorem w_t2 : ((words1.drop 24).take 24).all (fun c => isCode c || c.before args0 about1) = true := by decide +kernel
set_option maxRecDepth 65536 in
theorem w_t3 : (((words1.drop 24).drop 24).take 24).all (fun c => isCode c || c.before args0 about1) = true := by decide +kernel
set_option maxRecDepth 65536 in
theorem w_t4 : ((((words1.drop 24).drop 24).drop 24).take 24).all (fun c => isCode c || c.before args0 about1) = true := by decide +kernel
set_option maxRecDepth 65536 in
theorem w_t5 : (((((words1.drop 24).drop 24).drop 24).drop 24).take 24).all (fun c => isCode c || c.before args0 about1) = true := by decide +kernel
set_option maxRecDepth 65536 in
theorem w_t6 : ((((((words1.drop 24).drop 24).drop 24).drop 24).drop 24).take 24).all (fun c => isCode c || c.before args0 about1) = true := by decide +kernel
set_option maxRecDepth 65536 in
theorem w_t7 : (((((((words1.drop 24).drop 24).drop 24).drop 24).drop 24).drop 24).take 24).all (fun c => isCode c || c.before args0 about1) = true := by decide +kernel
set_option maxRecDepth 65536 in
theorem w_t8 : (((((((words1.drop 24).drop 24).drop 24).drop 24).drop 24).drop 24).drop 24).all (fun c => isCode c || c.before args0 about1) = true := by decide +kernel
theorem w_tables : (allAtoms (Jvm.Cond.code x code maxLocals ret :: tables_1)).before args0 about1 = true := by
  rw [allAtoms_all]
  show words1.all (fun c => c.before args0 about1) = true
  refine all_split ?_ w_codes
  rw [← List.take_append_drop 24 words1, List.all_append, w_t1, ← List.take_append_drop 24 (words1.drop 24), List.all_append, w_t2, ← List.take_append_drop 24 ((words1.drop 24).drop 24), List.all_append, w_t3, ← List.take_append_drop 24 (((words1.drop 24).drop 24).drop 24), List.all_append, w_t4, ← List.take_append_drop 24 ((((words1.drop 24).drop 24).drop 24).drop 24), List.all_append, w_t5, ← List.take_append_drop 24 (((((words1.drop 24).drop 24).drop 24).drop 24).drop 24), List.all_append, w_t6, ← List.take_append_drop 24 ((((((words1.drop 24).drop 24).drop 24).drop 24).drop 24).drop 24), List.all_append, w_t7, w_t8]
  rfl
set_option maxRecDepth 65536 in
theorem w_rest : rest_1_c.before args0 about1 = true := by decide +kernel
set_option maxRecDepth 65536 in
theorem w_case : (Jvm.Cond.and given_1 narrow_1).before args0 about1 = true := by decide +kernel
set_option maxRecDepth 65536 in
theorem w_consts : constsHeld consts_1 about1 := Jvm.Lit.constsHeldB_iff.mp (by decide +kernel)
theorem w_applies : (headSpec (Jvm.Cond.code x code maxLocals ret :: tables_1) room_1).applies x e0.platform about1 = true :=
  (Spec.applies_iff w_frames).mpr ⟨w_running, w_runnable, w_alone, w_named, w_hears, w_ripe, w_room, w_tables⟩
theorem atStart : AtStart classFile x code maxLocals ret World_1 tables_1 room_1 Calls_1 rest_1 Pre_1 launch0 p0 e0 about1 theMethod args0 below0 :=
  ⟨lists_1, trivial, launch0.admits_env _ _ _, launch0.least_env, fairChoices_fair.cas, fairChoices_fair.clock, w_frames, w_args, w_heap, w_applies, ⟨w_consts, trivial⟩, w_rest, w_case⟩
end start1
theorem witness_1 : WitnessClaimed_1 := ⟨start1.p0, start1.e0, start1.about1, start1.theMethod, start1.args0, start1.below0, start1.atStart⟩
end Jvm.Pilot.@@N@@
