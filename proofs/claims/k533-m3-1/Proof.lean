import JvmDerived
import JvmDerived.Pilot.@@N@@Statement
import JvmDerived.Pilot.@@N@@Code
set_option linter.unusedVariables false
set_option linter.unusedSimpArgs false
namespace Jvm.RoadKit
open Sem ClassFile Op Lib Jvm.Stand Jvm.Free Jvm.LawKit
section Own
variable {p : Program} {l : Launch} {e : Env} {R : Room} {s : State} {m : MethodId} {args : Array Value} {below : List Frame} {meth : Method} {c : Code} {T : State} {locs : List Loc} {cells slots : Nat}
theorem retI (X : Stand p l e R s m args below meth c T locs cells slots) (hx : p.tables.exec = Jvm.exec) {pc : Nat} {Ls : Array Slot} {z : Int32} {rest : List Value} (hret : meth.sig.returnType = some .int) (hd : decode c.code pc = .ok (.ireturn, 1)) {fs : List Frame}
    (hl : ∀ (f : JFrame) (acts : List Action), f.method = m → f.locked = none → f.entered = [] → (doReturn e (T.setTop f) acts (some (.int z))).1 = T.setFrames fs) : Steps p.tables e below (T.setTop (mkF m pc Ls (.int z :: rest))) (T.setFrames fs) :=
  retOut X hx hret rfl (Or.inl ⟨rfl, Or.inl rfl, z, rfl⟩) hd hl
theorem lremM {g : JFrame} {target : State} (X : Stand p l e R s m args below meth c T locs cells slots) (hx : p.tables.exec = Jvm.exec) (hg : g.method = m) {x y : Int64} {rest : List Value} (hd : decode c.code g.pc = .ok (.lrem, 1)) (hs : g.stack = .long y :: .long x :: rest) (hy : y ≠ 0)
    (hr : Steps p.tables e below (T.setTop { g with pc := g.pc + 1, stack := .long (x % y) :: rest }) target) : Steps p.tables e below (T.setTop g) target :=
  XS.lrem X.here hx hg hd hs hy (by rw [lrem_mod]; exact hr)
/-- the walk from S on ends in a return of which Q holds -/
def Goes (p : Program) (e : Env) (below : List Frame) (s : State) (k n : Nat) (Q : Option Value → Heap → List Loc → Prop) (S : State) : Prop :=
  ∃ t o, Steps p.tables e below S t ∧ t.status = .running ∧ Ended t below o ∧ ∃ v L, o = .returned v ∧ Q v t.heap L ∧ FrameEnd s o t L k n
variable {kc kn : Nat} {Q : Option Value → Heap → List Loc → Prop}
theorem Goes.step {A B : State} (h : ∀ t, Steps p.tables e below B t → Steps p.tables e below A t) (g : Goes p e below s kc kn Q B) : Goes p e below s kc kn Q A := by
  obtain ⟨t, o, h1, h2⟩ := g; exact ⟨t, o, h t h1, h2⟩
theorem Goes.to {A B : State} (h : Steps p.tables e below A B) (g : Goes p e below s kc kn Q B) : Goes p e below s kc kn Q A := by
  obtain ⟨t, o, h1, h2⟩ := g; exact ⟨t, o, h.trans h1, h2⟩
theorem Goes.out (X : Stand p l e R s m args below meth c T locs cells slots) {g : JFrame} {v : Option Value} (hlk : meth.locks = false) (hv : meth.sig.returnType = none → v = none)
    (hs : ∀ fs : List Frame, (∀ (f : JFrame) (acts : List Action), f.method = m → f.locked = none → f.entered = [] → (doReturn e (T.setTop f) acts v).1 = T.setFrames fs) → Steps p.tables e below (T.setTop g) (T.setFrames fs))
    (hq : Q v T.heap locs) (hk : cells ≤ kc) (hn : slots ≤ kn) : Goes p e below s kc kn Q (T.setTop g) := by
  obtain ⟨fs, hr, hrun, hended, hW, hsame⟩ := X.leave (v := v) hv hlk
  exact ⟨_, _, hs fs hr, hrun, hended, v, locs, rfl, hq, ⟨_, rfl⟩, hW, hsame.mono hk hn⟩
theorem Goes.retI (X : Stand p l e R s m args below meth c T locs cells slots) (hx : p.tables.exec = Jvm.exec) (hlk : meth.locks = false) {pc : Nat} {Ls : Array Slot} {z : Int32} {rest : List Value} (hret : meth.sig.returnType = some .int) (hd : decode c.code pc = .ok (.ireturn, 1))
    (hq : Q (some (.int z)) T.heap locs) (hk : cells ≤ kc) (hn : slots ≤ kn) : Goes p e below s kc kn Q (T.setTop (mkF m pc Ls (.int z :: rest))) :=
  Goes.out X hlk (fun h => by rw [hret] at h; cases h) (fun fs hr => Jvm.RoadKit.retI X hx hret hd hr) hq hk hn
theorem Goes.retN (X : Stand p l e R s m args below meth c T locs cells slots) (hx : p.tables.exec = Jvm.exec) (hlk : meth.locks = false) {pc : Nat} {Ls : Array Slot} {z : Int32} {t : FieldType} {rest : List Value} (hret : meth.sig.returnType = some t) (ht : t = .boolean ∨ t = .byte ∨ t = .char ∨ t = .short) (hd : decode c.code pc = .ok (.ireturn, 1))
    (hq : Q (some (.int (nar t z))) T.heap locs) (hk : cells ≤ kc) (hn : slots ≤ kn) : Goes p e below s kc kn Q (T.setTop (mkF m pc Ls (.int z :: rest))) :=
  Goes.out X hlk (fun h => by rw [hret] at h; cases h) (fun fs hr => Jvm.RoadKit.retN X hx hret ht hd hr) hq hk hn
theorem Goes.retJ (X : Stand p l e R s m args below meth c T locs cells slots) (hx : p.tables.exec = Jvm.exec) (hlk : meth.locks = false) {pc : Nat} {Ls : Array Slot} {z : Int64} {rest : List Value} (hret : meth.sig.returnType = some .long) (hd : decode c.code pc = .ok (.lreturn, 1))
    (hq : Q (some (.long z)) T.heap locs) (hk : cells ≤ kc) (hn : slots ≤ kn) : Goes p e below s kc kn Q (T.setTop (mkF m pc Ls (.long z :: rest))) :=
  Goes.out X hlk (fun h => by rw [hret] at h; cases h) (fun fs hr => retOut X hx hret rfl (Or.inr (Or.inl ⟨rfl, rfl, z, rfl⟩)) hd hr) hq hk hn
theorem Goes.retR (X : Stand p l e R s m args below meth c T locs cells slots) (hx : p.tables.exec = Jvm.exec) (hlk : meth.locks = false) {pc : Nat} {Ls : Array Slot} {w : Value} {t : FieldType} {rest : List Value} (hret : meth.sig.returnType = some t) (ht : t.isReference = true) (hw : w.isRef = true) (hn' : narrow t w = w) (hd : decode c.code pc = .ok (.areturn, 1))
    (hq : Q (some w) T.heap locs) (hk : cells ≤ kc) (hn : slots ≤ kn) : Goes p e below s kc kn Q (T.setTop (mkF m pc Ls (w :: rest))) :=
  Goes.out X hlk (fun h => by rw [hret] at h; cases h) (fun fs hr => retOut X hx hret hn' (Or.inr (Or.inr (Or.inr (Or.inr ⟨rfl, ht, hw⟩)))) hd hr) hq hk hn
theorem Goes.retV (X : Stand p l e R s m args below meth c T locs cells slots) (hx : p.tables.exec = Jvm.exec) (hlk : meth.locks = false) {pc : Nat} {Ls : Array Slot} (hret : meth.sig.returnType = none) (hd : decode c.code pc = .ok (.return_, 1))
    (hq : Q none T.heap locs) (hk : cells ≤ kc) (hn : slots ≤ kn) : Goes p e below s kc kn Q (T.setTop (mkF m pc Ls [])) :=
  Goes.out X hlk (fun _ => rfl) (fun fs hr => X.returnOut hx hret hd hr) hq hk hn
theorem Goes.enter {s₁ : State} {maxL : Nat} {g : JFrame} (h : entryFrame m args maxL = g) (k : Goes p e below s kc kn Q (s₁.setTop g)) :
    ∃ t o, Steps p.tables e below (s₁.setTop (entryFrame m args maxL)) t ∧ t.status = .running ∧ Ended t below o ∧ ∃ v L, o = .returned v ∧ Q v t.heap L ∧ FrameEnd s o t L kc kn := by rw [h]; exact k
theorem nm0 {b : Addr} : b ∉ ([] : List Addr) := List.not_mem_nil
theorem nm1 {b a : Addr} (h : b ≠ a) : b ∉ [a] := fun q => h (List.mem_singleton.mp q)
theorem nm2 {b a a' : Addr} (h : b ≠ a) (h' : b ≠ a') : b ∉ [a, a'] := fun q => (List.mem_cons.mp q).elim h (fun q => h' (List.mem_singleton.mp q))
theorem nm3 {b a a' a'' : Addr} (h : b ≠ a) (h' : b ≠ a') (h'' : b ≠ a'') : b ∉ [a, a', a''] := fun q => (List.mem_cons.mp q).elim h (fun q => nm2 h' h'' q)
theorem Sta.keepN {Z : State} {h h' : Heap} {C n d : String} {v : Value} {ws : List Addr} (F : Sta Z h C n d v) (K : Keep h h' ws) (hn : ∀ a ∈ ws, ∀ cell : Cell, h[a]? = some cell → cell.vm.isStatics = false) : Sta Z h' C n d v := by
  obtain ⟨cf, i, k, f, st, cell, h1, h2, h3, h4, h5, h6, r⟩ := F
  exact ⟨cf, i, k, f, st, cell, h1, h2, h3, h4, K.2.1 st cell h5 (fun q => by have := hn st q cell h5; rw [h6] at this; cases this), h6, r⟩
theorem Exa.plainN {Z : State} {h : Heap} {a : Addr} {C : String} (E : Exa Z h a C) : ∀ cell : Cell, h[a]? = some cell → cell.vm.isStatics = false := fun cell q => by
  obtain ⟨c, k, h1, h2, h3, h4, h5⟩ := E; cases h1.symm.trans q; exact h4
theorem Arv.plainN {Z : State} {h : Heap} {a : Addr} {k : ClassId} {ty : FieldType} {z : Int32} {vs : List Value} {d : Value} (A : Arv Z h a k ty z vs d) : ∀ cell : Cell, h[a]? = some cell → cell.vm.isStatics = false := fun cell q => by
  obtain ⟨c, A, r⟩ := A; cases A.1.symm.trans q; exact A.plain
end Own
end Jvm.RoadKit
namespace Jvm.RoadKit
open Sem ClassFile Op Lib Jvm.Stand Jvm.Free Jvm.LawKit
section OwnW
variable {p : Program} {l : Launch} {e : Env} {R : Room} {s : State} {m : MethodId} {args : Array Value} {below : List Frame} {meth : Method} {c : Code} {T : State} {locs : List Loc} {cells slots : Nat} {vm₁ : Vm} {kk : Nat}
/-- the wide end: the walk may have loaded String constants -/
def GoesW (p : Program) (e : Env) (below : List Frame) (s : State) (k n : Nat) (Q : Option Value → Heap → List Loc → Prop) (S : State) : Prop :=
  ∃ t o, Steps p.tables e below S t ∧ t.status = .running ∧ Ended t below o ∧ ∃ v L, o = .returned v ∧ Q v t.heap L ∧ ReturnedEndW s o t L k n
variable {kc kn : Nat} {Q : Option Value → Heap → List Loc → Prop}
theorem GoesW.step {A B : State} (h : ∀ t, Steps p.tables e below B t → Steps p.tables e below A t) (g : GoesW p e below s kc kn Q B) : GoesW p e below s kc kn Q A := by
  obtain ⟨t, o, h1, h2⟩ := g; exact ⟨t, o, h t h1, h2⟩
theorem GoesW.to {A B : State} (h : Steps p.tables e below A B) (g : GoesW p e below s kc kn Q B) : GoesW p e below s kc kn Q A := by
  obtain ⟨t, o, h1, h2⟩ := g; exact ⟨t, o, h.trans h1, h2⟩
theorem GoesW.out (X : Stand p l e R (s.setVm vm₁) m args below meth c T locs cells slots) (hS : s.Since vm₁ kk) (hkk : kk ≤ T.heap.size) {g : JFrame} {v : Option Value} (hlk : meth.locks = false) (hv : meth.sig.returnType = none → v = none)
    (hs : ∀ fs : List Frame, (∀ (f : JFrame) (acts : List Action), f.method = m → f.locked = none → f.entered = [] → (doReturn e (T.setTop f) acts v).1 = T.setFrames fs) → Steps p.tables e below (T.setTop g) (T.setFrames fs))
    (hq : Q v T.heap locs) (hk : cells ≤ kc) (hn : slots ≤ kn) : GoesW p e below s kc kn Q (T.setTop g) := by
  obtain ⟨fs, hr, hrun, hended, h1, h2, h3, h4⟩ := X.leaveW hS hkk (v := v) hv hlk
  exact ⟨_, _, hs fs hr, hrun, hended, v, locs, rfl, hq, h1, h2, h3, h4.mono hk hn⟩
theorem GoesW.retI (X : Stand p l e R (s.setVm vm₁) m args below meth c T locs cells slots) (hS : s.Since vm₁ kk) (hkk : kk ≤ T.heap.size) (hx : p.tables.exec = Jvm.exec) (hlk : meth.locks = false) {pc : Nat} {Ls : Array Slot} {z : Int32} {rest : List Value} (hret : meth.sig.returnType = some .int) (hd : decode c.code pc = .ok (.ireturn, 1))
    (hq : Q (some (.int z)) T.heap locs) (hk : cells ≤ kc) (hn : slots ≤ kn) : GoesW p e below s kc kn Q (T.setTop (mkF m pc Ls (.int z :: rest))) :=
  GoesW.out X hS hkk hlk (fun h => by rw [hret] at h; cases h) (fun fs hr => Jvm.RoadKit.retI X hx hret hd hr) hq hk hn
theorem GoesW.retN (X : Stand p l e R (s.setVm vm₁) m args below meth c T locs cells slots) (hS : s.Since vm₁ kk) (hkk : kk ≤ T.heap.size) (hx : p.tables.exec = Jvm.exec) (hlk : meth.locks = false) {pc : Nat} {Ls : Array Slot} {z : Int32} {t : FieldType} {rest : List Value} (hret : meth.sig.returnType = some t) (ht : t = .boolean ∨ t = .byte ∨ t = .char ∨ t = .short) (hd : decode c.code pc = .ok (.ireturn, 1))
    (hq : Q (some (.int (nar t z))) T.heap locs) (hk : cells ≤ kc) (hn : slots ≤ kn) : GoesW p e below s kc kn Q (T.setTop (mkF m pc Ls (.int z :: rest))) :=
  GoesW.out X hS hkk hlk (fun h => by rw [hret] at h; cases h) (fun fs hr => Jvm.RoadKit.retN X hx hret ht hd hr) hq hk hn
theorem GoesW.retR (X : Stand p l e R (s.setVm vm₁) m args below meth c T locs cells slots) (hS : s.Since vm₁ kk) (hkk : kk ≤ T.heap.size) (hx : p.tables.exec = Jvm.exec) (hlk : meth.locks = false) {pc : Nat} {Ls : Array Slot} {w : Value} {t : FieldType} {rest : List Value} (hret : meth.sig.returnType = some t) (ht : t.isReference = true) (hw : w.isRef = true) (hn' : narrow t w = w) (hd : decode c.code pc = .ok (.areturn, 1))
    (hq : Q (some w) T.heap locs) (hk : cells ≤ kc) (hn : slots ≤ kn) : GoesW p e below s kc kn Q (T.setTop (mkF m pc Ls (w :: rest))) :=
  GoesW.out X hS hkk hlk (fun h => by rw [hret] at h; cases h) (fun fs hr => retOut X hx hret hn' (Or.inr (Or.inr (Or.inr (Or.inr ⟨rfl, ht, hw⟩)))) hd hr) hq hk hn
theorem GoesW.retV (X : Stand p l e R (s.setVm vm₁) m args below meth c T locs cells slots) (hS : s.Since vm₁ kk) (hkk : kk ≤ T.heap.size) (hx : p.tables.exec = Jvm.exec) (hlk : meth.locks = false) {pc : Nat} {Ls : Array Slot} (hret : meth.sig.returnType = none) (hd : decode c.code pc = .ok (.return_, 1))
    (hq : Q none T.heap locs) (hk : cells ≤ kc) (hn : slots ≤ kn) : GoesW p e below s kc kn Q (T.setTop (mkF m pc Ls [])) :=
  GoesW.out X hS hkk hlk (fun _ => rfl) (fun fs hr => X.returnOut hx hret hd hr) hq hk hn
theorem GoesW.enter {s₁ : State} {maxL : Nat} {g : JFrame} (h : entryFrame m args maxL = g) (k : GoesW p e below s kc kn Q (s₁.setTop g)) :
    ∃ t o, Steps p.tables e below (s₁.setTop (entryFrame m args maxL)) t ∧ t.status = .running ∧ Ended t below o ∧ ∃ v L, o = .returned v ∧ Q v t.heap L ∧ ReturnedEndW s o t L kc kn := by rw [h]; exact k
/-- a contract that may intern, asked where nothing has been interned yet -/
theorem backOfI {Z : State} {a0 : Array Value} {h : Heap} {y : MethodName} {bytes : ByteArray} {maxL : Nat} {ret : Option FieldType} {rm : Room} {len W : Nat} {as' : Array Value} {Q : Option Value → Heap → List Loc → Prop}
    (hM : MetFree l y (head1 [Cond.code y bytes maxL ret] rm) (fun a U => a = as' ∧ Z.Warmed39 U.vm ∧ U.heap = h ∧ U.vm.interned = Z.vm.interned) (fun _ _ _ _ _ => True) (fun _ U o U' => ∃ v L, o = .returned v ∧ Q v U'.heap L ∧ ReturnedEndW U o U' L rm.cells rm.slots))
    (hZ : Z.Warmed39 s.vm) (hI : s.vm.interned = Z.vm.interned) (wc : (Cond.code y bytes maxL ret).before a0 Z = true) (wz : (Cond.initialized y.cls).before a0 Z = true) (hf : rm.frames + 1 ≤ R.frames) (hl : W + (maxL + 11) + rm.locals ≤ R.locals) :
    BackS l R p e below s args y len W (fun A a => a = as' ∧ A.U.heap = h ∧ A.cells + rm.cells ≤ R.cells ∧ A.slots + rm.slots ≤ R.slots)
      (fun A _ v B => ∃ L, Q v B.U.heap L ∧ B.locs = A.locs ++ L ∧ B.cells = A.cells + rm.cells ∧ B.slots = A.slots + rm.slots) :=
  BackS.of_freeW (bytes := bytes) (maxL := maxL) (ret := ret) (E := fun _ _ o t L k n => k = rm.cells ∧ n = rm.slots ∧ ∃ v, o = .returned v ∧ Q v t.heap L) hM hf hl
    (fun m meth c A a Y hp => have hU : Z.Warmed39 A.U.vm := wtrans hZ Y.warmed
      ⟨by show (Cond.and _ .tt).before a A.U = true; rw [Cond.before_and, mv hU wc]; rfl, mv hU wc, mv hU wz, hp.2.2.1, hp.2.2.2⟩)
    (fun m meth c A a g mk Y hp => ⟨hp.1, wtrans hZ Y.warmed, hp.2.1, Y.warmed.interned_eq.trans hI⟩) (fun _ _ _ _ _ _ _ _ _ => trivial)
    (fun _ _ _ _ ⟨v, L, h1, h2, h3⟩ => ⟨L, _, _, h3, rfl, rfl, v, h1, h2⟩)
    (fun m meth c A a g mk v t L k n Y hp _ _ ⟨e1, e2, v', e3, e4⟩ => by cases e3; subst e1 e2; exact ⟨L, e4, rfl, rfl, rfl⟩)
theorem since0 (s : State) : s.Since s.vm s.heap.size := (State.WarmedH.refl s).since _
end OwnW
end Jvm.RoadKit
namespace Jvm.Pilot.@@N@@
open Jvm Jvm.ClassFile Sem Op Lib Jvm.Free Jvm.Stand Jvm.LawKit Jvm.RoadKit Bundle Jvm.Pilot.@@N@@.Jvm.D
theorem own_nz0 {args : Array Value} {s : State} {t : Term} {w : Int32} (ev : t.eval args s none [] s = some (.int w)) (h : (Jvm.Cond.not (.eq t (.int 0))).value args s none s [] = some true) : ¬ (w = (0 : Int32)) := fun q => by
  have h2 := not_v h
  have e2 : (Term.int 0).eval args s none [] s = some (.int 0) := rfl
  subst q
  simp only [Cond.value, ev, e2] at h2
  simp at h2
theorem own_fldeq {Z : State} {h : Heap} {a : Addr} {C n d : String} {v w : Value} (F : Fld Z h a C n d v) (G : Fld Z h a C n d w) : v = w := by
  obtain ⟨c1, f1, k1, i1, x1, a1, a2, a3, a4, a5, a6, a7⟩ := F
  obtain ⟨c2, f2, k2, i2, x2, b1, b2, b3, b4, b5, b6, b7⟩ := G
  cases a1.symm.trans b1
  cases a2.symm.trans b2
  exact Option.some.inj (a7.symm.trans b7)
def OwnCache (Z : State) (h : Heap) (a : Addr) : Prop := ∃ cl : Cell, Arr Z h a cl (.object "java/lang/Integer") ∧ cl.slots.size = 256 ∧ ∀ j : Nat, j < 256 → ∃ b : Addr, cl.slots[j]? = some (.ref b) ∧ Exa Z h b "java/lang/Integer" ∧ Fld Z h b "java/lang/Integer" "value" "I" (.int (j.toInt32 - 128))
theorem own_ck {Z : State} {h h' : Heap} {a : Addr} (F : OwnCache Z h a) (K : Keep h h' []) : OwnCache Z h' a := by
  obtain ⟨c, A, s, H⟩ := F; exact ⟨c, ⟨K.2.1 a c A.1 nm0, A.2⟩, s, fun j hj => by obtain ⟨b, h1, h2, h3⟩ := H j hj; exact ⟨b, h1, h2.keep K, h3.keep K nm0⟩⟩
theorem own_cv {u0 : Int32} (h1 : ¬ u0 < (-128 : Int32)) (h2 : ¬ (127 : Int32) < u0) : (u0 + (128 : Int32)).toInt = u0.toInt + 128 ∧ 0 ≤ u0.toInt + 128 ∧ u0.toInt + 128 < 256 := by
  rw [Int32.lt_iff_toInt_lt] at h1 h2
  have k1 : (-128 : Int32).toInt = -128 := by decide
  have k2 : (127 : Int32).toInt = 127 := by decide
  have k3 : (128 : Int32).toInt = 128 := by decide
  have a := c_iadd u0 128
  have b := rng32 (u0 + 128)
  omega
theorem own_cidx {u0 : Int32} (h1 : ¬ u0 < (-128 : Int32)) (h2 : ¬ (127 : Int32) < u0) : (u0 + (128 : Int32)).toNatClampNeg < 256 := by
  have h := own_cv h1 h2
  simp only [Int32.toNatClampNeg]; omega
theorem own_cin {u0 : Int32} {c : Cell} (S : c.slots.size = 256) (h1 : ¬ u0 < (-128 : Int32)) (h2 : ¬ (127 : Int32) < u0) : ¬ ((u0 + (128 : Int32)) < 0 ∨ c.slots.size ≤ (u0 + (128 : Int32)).toNatClampNeg) := by
  have h := own_cv h1 h2
  have i := own_cidx h1 h2
  have k : (0 : Int32).toInt = 0 := by decide
  rw [S, Int32.lt_iff_toInt_lt]; omega
theorem own_stint {args : Array Value} {s : State} {t : Term} {z : Int32} (h : (Jvm.Cond.eq t (.int z)).value args s none s [] = some true) : t.eval args s none [] s = some (.int z) := by
  cases hq : t.eval args s none [] s with
  | none => simp [Cond.value, hq] at h
  | some v =>
    cases v <;> simp [Cond.value, hq, Term.eval] at h ⊢
    exact h
theorem own_lenV {args : Array Value} {s : State} {t : Term} {a : Addr} {cl : Cell} {ty : FieldType} {z : Int32} {n : Nat} (ev : t.eval args s none [] s = some (.ref a)) (A : Arr s s.heap a cl ty) (h : (Jvm.Cond.eq (.length t) (.int z)).value args s none s [] = some true) (hz : z.toInt = n) : cl.slots.size = n := by
  have ha : s.arrayAt? a = some cl := A.fin (Vm.Alike.refl _)
  by_cases q : cl.slots.size < 2 ^ 31
  · have e := len_f ev ha q
    have e2 : (Term.int z).eval args s none [] s = some (.int z) := rfl
    have h2 : cl.slots.size.toInt32 = z := by simp only [Cond.value, e, e2] at h; simpa using h
    have h3 : cl.slots.size.toInt32.toInt = cl.slots.size := len_toInt (by omega)
    rw [h2, hz] at h3
    omega
  · exfalso
    simp [Cond.value, Term.eval, ev, ha, q] at h
theorem own_cval {u0 : Int32} (h1 : ¬ u0 < (-128 : Int32)) (h2 : ¬ (127 : Int32) < u0) : (u0 + (128 : Int32)).toNatClampNeg.toInt32 - 128 = u0 := by
  have h := own_cv h1 h2
  have n : ¬ (u0 + (128 : Int32)) < 0 := by
    have k : (0 : Int32).toInt = 0 := by decide
    rw [Int32.lt_iff_toInt_lt]; omega
  rw [(back32 n).1, Int32.add_sub_cancel]
theorem own_cache {args : Array Value} {s : State} {C n d : String} {a : Addr} {cl : Cell} (ev : (Term.static C n d).eval args s none [] s = some (.ref a)) (A : Arr s s.heap a cl (.object "java/lang/Integer"))
    (hl : (Jvm.Cond.eq (.length (.static C n d)) (.int 256)).value args s none s [] = some true) (h : (Jvm.Cond.all (.static C n d) (.and (.exactly (.elem (.static C n d) (.index 0)) "java/lang/Integer") (.eq (.field (.elem (.static C n d) (.index 0)) "java/lang/Integer" "value" "I") (.sub (.index 0) (.int 128))))).value args s none s [] = some true) : OwnCache s s.heap a := by
  have hs : cl.slots.size = 256 := own_lenV (n := 256) ev A hl (by decide)
  have ha : s.arrayAt? a = some cl := A.fin (Vm.Alike.refl _)
  refine ⟨cl, A, hs, fun i hi => ?_⟩
  have hv := Cond.all_elim ev ha h i (by rw [hs]; exact hi)
  obtain ⟨h1, h1b⟩ := and_e hv
  obtain ⟨x, ex⟩ := exa_v h1
  have ev' : (Term.static C n d).eval args s none [i] s = some (.ref a) := ev
  have hj : i.toInt32.toInt = i := len_toInt (by omega)
  have hn : ¬ i.toInt32 < 0 := by
    rw [Int32.lt_iff_toInt_lt, hj]; have k : (0 : Int32).toInt = 0 := by decide
    omega
  have hc : i.toInt32.toNatClampNeg = i := by simp only [Int32.toNatClampNeg, hj]; omega
  have ei : (Term.index 0).eval args s none [i] s = some (.int i.toInt32) := by simp [Term.eval]
  have el := elem_f ev' ei ha hn
  rw [ex, hc] at el
  have ev2 : (Term.elem (.static C n d) (.int i.toInt32)).eval args s none [] s = some (.ref x) := by
    rw [elem_f ev rfl ha hn, hc]; exact el.symm
  have hx2 : (Jvm.Cond.exactly (Term.elem (.static C n d) (.int i.toInt32)) "java/lang/Integer").value args s none s [] = some true := by
    rw [← h1]; simp only [Cond.value, ex, ev2]
  have efi := fld_at (C := "java/lang/Integer") (n := "value") (dd := "I") ex
  have hfo : s.fieldOf? x "java/lang/Integer" "value" "I" = some (.int (i.toInt32 - 128)) := by
    cases hq : s.fieldOf? x "java/lang/Integer" "value" "I" with
    | none => rw [hq] at efi; simp [Cond.value, efi] at h1b
    | some v =>
      rw [hq] at efi
      have e3 : (Term.sub (.index 0) (.int 128)).eval args s none [i] s = some (.int (i.toInt32 - 128)) := by simp [Term.eval]
      simp only [Cond.value, efi, e3] at h1b
      cases v <;> simp at h1b ⊢
      exact h1b
  exact ⟨x, el.symm, Exa.start ev2 hx2, Fld.start hfo⟩

theorem d_jdk_43_method_3_code_0 : decode jdk_43_method_3_code 0 = .ok (.iload_n 0, 1) := by decide +kernel
theorem d_jdk_43_method_3_code_1 : decode jdk_43_method_3_code 1 = .ok (.sipush 255, 3) := by decide +kernel
theorem d_jdk_43_method_3_code_4 : decode jdk_43_method_3_code 4 = .ok (.if_icmp .gt 7, 3) := by decide +kernel
theorem d_jdk_43_method_3_code_11 : decode jdk_43_method_3_code 11 = .ok (.iconst 0, 1) := by decide +kernel
theorem d_jdk_43_method_3_code_12 : decode jdk_43_method_3_code 12 = .ok (.ireturn, 1) := by decide +kernel
theorem d_jdk_43_method_3_code_7 : decode jdk_43_method_3_code 7 = .ok (.iconst 1, 1) := by decide +kernel
theorem d_jdk_43_method_3_code_8 : decode jdk_43_method_3_code 8 = .ok (.goto 4, 3) := by decide +kernel
def own_ce_fn (u0 : Int32) : Int32 := (if (255 : Int32) < u0 then (0 : Int32) else (1 : Int32))
def own_ce_Q (Z : State) (u0 : Int32)  (h0 : Heap) (n0 : Nat) (v : Option Value) (h : Heap) (L : List Loc) : Prop := v = some (.int (own_ce_fn u0)) ∧ Fr n0 L ∧ h = h0
theorem own_ce_ef (m : MethodId) (u0 : Int32) : entryFrame m #[(.int u0)] 1 = mkF m 0 #[.val (.int u0)] [] := by first | (simp [entryFrame, mkF, argsToLocals, Value.category]; done) | rfl
theorem pn_StringLatin1 : plainName "java/lang/StringLatin1" = true := by first | (simp [plainName, overriddenIn]; done) | decide +kernel
set_option maxRecDepth 65536 in
set_option maxHeartbeats 40000000 in
theorem own_ce_rm (l : Launch) (Z : State) (a0 : Array Value) (hw : ∀ d ∈ tables_1, d.before a0 Z = true) (ws : List Jvm.Cond) (u0 : Int32)  (h0 : Heap) (n0 : Nat) (Z0 : n0 ≤ h0.size)  :
    MetFree l (⟨"java/lang/StringLatin1", "canEncode", "(C)Z"⟩ : MethodName) (head1 (Jvm.Cond.code (⟨"java/lang/StringLatin1", "canEncode", "(C)Z"⟩ : MethodName) jdk_43_method_3_code 1 (some .boolean) :: ws) ({ frames := 0, cells := 0, slots := 0, locals := 0 } : Room)) (fun a U => a = #[(.int u0)] ∧ Z.Warmed39 U.vm ∧ U.heap = h0) (fun _ _ _ _ _ => True) (fun _ U o U' => ∃ v L, o = .returned v ∧ own_ce_Q Z u0 h0 n0 v U'.heap L ∧ FrameEnd U o U' L ({ frames := 0, cells := 0, slots := 0, locals := 0 } : Room).cells ({ frames := 0, cells := 0, slots := 0, locals := 0 } : Room).slots) := by
  refine MetFree.of_bodySF (plainFor_of_name pn_StringLatin1) hisR ?_
  intro p e s m args below meth c s₁ Bd hml0 hP hK
  obtain ⟨rfl, hZ, hh⟩ := hP
  have hx := Bd.exec
  have hby := Bd.bytes
  have hml : c.maxLocals = 1 := hml0
  have hown : s.vm.findClass "java/lang/StringLatin1" = some m.cls := findClass_of_methodNamed Bd.named
  have hnm := (name_of_methodNamed Bd.named Bd.method).1
  have hlk : meth.locks = false := BodyLoose.notSynchronized Bd
  have hrt := Bd.returns
  have X0 : Stand p l e ({ frames := 0, cells := 0, slots := 0, locals := 0 } : Room) s m #[(.int u0)] below meth c s₁ [] 0 0 := Stand.of_body Bd
  have e0 : s₁.heap = h0 := by rw [← hh, Bd.state]; rfl
  have N0 := Fr.nil n0
  refine Goes.enter (kc := ({ frames := 0, cells := 0, slots := 0, locals := 0 } : Room).cells) (kn := ({ frames := 0, cells := 0, slots := 0, locals := 0 } : Room).slots) (Q := own_ce_Q Z u0 h0 n0) (own_ce_ef m u0) ?_
  refine Goes.step (B := (s₁.setTop (mkF m 1 #[.val (.int u0)] [(.int u0)]))) (fun _ k => XS.iloadN X0.here hx rfl (hb hby d_jdk_43_method_3_code_0) rfl k) ?_
  refine Goes.step (B := (s₁.setTop (mkF m 4 #[.val (.int u0)] [(.int (255 : Int32)), (.int u0)]))) (fun _ k => XS.sipush X0.here hx rfl (hb hby d_jdk_43_method_3_code_1) k) ?_
  by_cases hc101 : (255 : Int32) < u0
  · refine Goes.step (B := (s₁.setTop (mkF m 11 #[.val (.int u0)] []))) (fun _ k => XS.icmpYes X0.here hx rfl (pc0 := 4) (pc' := 11) rfl (hb hby d_jdk_43_method_3_code_4) rfl (tlt hc101).2.2.1 (by decide) (by decide) k) ?_
    refine Goes.step (B := (s₁.setTop (mkF m 12 #[.val (.int u0)] [(.int (0 : Int32))]))) (fun _ k => XS.iconst X0.here hx rfl (hb hby d_jdk_43_method_3_code_11) k) ?_
    refine Goes.retN X0 hx hlk (t := .boolean) hrt (by simp) (hb hby d_jdk_43_method_3_code_12) ?_ (by decide) (by decide)
    rw [e0]
    exact ⟨congrArg (fun z => some (Value.int z)) (show nar .boolean (0 : Int32) = (own_ce_fn u0) from (show nar .boolean (0 : Int32) = (0 : Int32) from rfl).trans (by simp only [own_ce_fn, if_pos hc101])), N0, rfl⟩
  · refine Goes.step (B := (s₁.setTop (mkF m 7 #[.val (.int u0)] []))) (fun _ k => XS.icmpNo X0.here hx rfl (hb hby d_jdk_43_method_3_code_4) rfl (flt hc101).2.2.1 k) ?_
    refine Goes.step (B := (s₁.setTop (mkF m 8 #[.val (.int u0)] [(.int (1 : Int32))]))) (fun _ k => XS.iconst X0.here hx rfl (hb hby d_jdk_43_method_3_code_7) k) ?_
    refine Goes.step (B := (s₁.setTop (mkF m 12 #[.val (.int u0)] [(.int (1 : Int32))]))) (fun _ k => XS.goto X0.here hx rfl (pc0 := 8) (pc' := 12) rfl (hb hby d_jdk_43_method_3_code_8) (by decide) (by decide) k) ?_
    refine Goes.retN X0 hx hlk (t := .boolean) hrt (by simp) (hb hby d_jdk_43_method_3_code_12) ?_ (by decide) (by decide)
    rw [e0]
    exact ⟨congrArg (fun z => some (Value.int z)) (show nar .boolean (1 : Int32) = (own_ce_fn u0) from (show nar .boolean (1 : Int32) = (1 : Int32) from rfl).trans (by simp only [own_ce_fn, if_neg hc101])), N0, rfl⟩
theorem d_jdk_43_method_46_code_0 : decode jdk_43_method_46_code 0 = .ok (.iconst 1, 1) := by decide +kernel
theorem d_jdk_43_method_46_code_1 : decode jdk_43_method_46_code 1 = .ok (.newarray .byte, 2) := by decide +kernel
theorem d_jdk_43_method_46_code_3 : decode jdk_43_method_46_code 3 = .ok (.dup, 1) := by decide +kernel
theorem d_jdk_43_method_46_code_4 : decode jdk_43_method_46_code 4 = .ok (.iconst 0, 1) := by decide +kernel
theorem d_jdk_43_method_46_code_5 : decode jdk_43_method_46_code 5 = .ok (.iload_n 0, 1) := by decide +kernel
theorem d_jdk_43_method_46_code_6 : decode jdk_43_method_46_code 6 = .ok (.i2b, 1) := by decide +kernel
theorem d_jdk_43_method_46_code_7 : decode jdk_43_method_46_code 7 = .ok (.bastore, 1) := by decide +kernel
theorem d_jdk_43_method_46_code_8 : decode jdk_43_method_46_code 8 = .ok (.areturn, 1) := by decide +kernel
def own_tb_Q (Z : State) (u0 : Int32)  (h0 : Heap) (n0 : Nat) (v : Option Value) (h : Heap) (L : List Loc) : Prop := ∃ (b : Addr), (v = some (.ref b)) ∧ (Fr n0 L) ∧ (Keep h0 h []) ∧ (n0 ≤ b) ∧ (h0.size ≤ b)
theorem own_tb_ef (m : MethodId) (u0 : Int32) : entryFrame m #[(.int u0)] 1 = mkF m 0 #[.val (.int u0)] [] := by first | (simp [entryFrame, mkF, argsToLocals, Value.category]; done) | rfl
set_option maxRecDepth 65536 in
set_option maxHeartbeats 40000000 in
theorem own_tb_rm (l : Launch) (Z : State) (a0 : Array Value) (hw : ∀ d ∈ tables_1, d.before a0 Z = true) (ws : List Jvm.Cond) (u0 : Int32)  (h0 : Heap) (n0 : Nat) (Z0 : n0 ≤ h0.size)  :
    MetFree l (⟨"java/lang/StringLatin1", "toBytes", "(C)[B"⟩ : MethodName) (head1 (Jvm.Cond.code (⟨"java/lang/StringLatin1", "toBytes", "(C)[B"⟩ : MethodName) jdk_43_method_46_code 1 (some (.array .byte)) :: ws) ({ frames := 0, cells := 1, slots := 1, locals := 0 } : Room)) (fun a U => a = #[(.int u0)] ∧ Z.Warmed39 U.vm ∧ U.heap = h0) (fun _ _ _ _ _ => True) (fun _ U o U' => ∃ v L, o = .returned v ∧ own_tb_Q Z u0 h0 n0 v U'.heap L ∧ FrameEnd U o U' L ({ frames := 0, cells := 1, slots := 1, locals := 0 } : Room).cells ({ frames := 0, cells := 1, slots := 1, locals := 0 } : Room).slots) := by
  refine MetFree.of_bodySF (plainFor_of_name pn_StringLatin1) hisR ?_
  intro p e s m args below meth c s₁ Bd hml0 hP hK
  obtain ⟨rfl, hZ, hh⟩ := hP
  have hx := Bd.exec
  have hby := Bd.bytes
  have hml : c.maxLocals = 1 := hml0
  have hown : s.vm.findClass "java/lang/StringLatin1" = some m.cls := findClass_of_methodNamed Bd.named
  have hnm := (name_of_methodNamed Bd.named Bd.method).1
  have hlk : meth.locks = false := BodyLoose.notSynchronized Bd
  have hrt := Bd.returns
  have X0 : Stand p l e ({ frames := 0, cells := 1, slots := 1, locals := 0 } : Room) s m #[(.int u0)] below meth c s₁ [] 0 0 := Stand.of_body Bd
  have e0 : s₁.heap = h0 := by rw [← hh, Bd.state]; rfl
  have N0 := Fr.nil n0
  refine Goes.enter (kc := ({ frames := 0, cells := 1, slots := 1, locals := 0 } : Room).cells) (kn := ({ frames := 0, cells := 1, slots := 1, locals := 0 } : Room).slots) (Q := own_tb_Q Z u0 h0 n0) (own_tb_ef m u0) ?_
  refine Goes.step (B := (s₁.setTop (mkF m 1 #[.val (.int u0)] [(.int (1 : Int32))]))) (fun _ k => XS.iconst X0.here hx rfl (hb hby d_jdk_43_method_46_code_0) k) ?_
  obtain ⟨T101, h101, k101, X101, e101, E101, A101, st101⟩ := newP X0 hx hZ (hw _ (List.mem_of_getElem? (i := 19) rfl)) e0 (g := (mkF m 1 #[.val (.int u0)] [(.int (1 : Int32))])) rfl (hb hby d_jdk_43_method_46_code_1) rfl (by decide) (cap := 1) (by decide) (by decide) (by decide) (by decide)
  obtain ⟨b101, g101⟩ : ∃ z, z = h0.size := ⟨_, rfl⟩
  rw [← g101] at A101 st101
  have gn101 : n0 ≤ b101 := Nat.le_trans Z0 (Nat.le_of_eq g101.symm)
  have sz101 : h0.size ≤ b101 := Nat.le_trans (Keep.refl h0 []).1 (Nat.le_of_eq g101.symm)
  have V101 : Arv Z h101 b101 k101 .byte (1 : Int32) [(.int (0 : Int32))] (.int (0 : Int32)) := (Arv.new A101 (by decide)).pad (pad_rep [] (.int (0 : Int32)) 1)
  have Z101 : n0 ≤ h101.size := Nat.le_trans Z0 E101.1
  have K101 : Keep h0 h101 [] := (Keep.refl h0 []).ext E101
  refine Goes.step (B := (T101.setTop (mkF m 3 #[.val (.int u0)] [(.ref b101)]))) (fun _ k => st101 _ k) ?_
  refine Goes.step (B := (T101.setTop (mkF m 4 #[.val (.int u0)] [(.ref b101), (.ref b101)]))) (fun _ k => XS.dup X101.here hx rfl (hb hby d_jdk_43_method_46_code_3) rfl rfl k) ?_
  refine Goes.step (B := (T101.setTop (mkF m 5 #[.val (.int u0)] [(.int (0 : Int32)), (.ref b101), (.ref b101)]))) (fun _ k => XS.iconst X101.here hx rfl (hb hby d_jdk_43_method_46_code_4) k) ?_
  refine Goes.step (B := (T101.setTop (mkF m 6 #[.val (.int u0)] [(.int u0), (.int (0 : Int32)), (.ref b101), (.ref b101)]))) (fun _ k => XS.iloadN X101.here hx rfl (hb hby d_jdk_43_method_46_code_5) rfl k) ?_
  refine Goes.step (B := (T101.setTop (mkF m 7 #[.val (.int u0)] [(.int u0.toInt8.toInt32), (.int (0 : Int32)), (.ref b101), (.ref b101)]))) (fun _ k => XS.i2b X101.here hx rfl (hb hby d_jdk_43_method_46_code_6) rfl k) ?_
  obtain ⟨cl102, Ar102, q102, S102, M102, H102, G102⟩ := id V101
  have hin102 : ¬ ((0 : Int32) < 0 ∨ cl102.slots.size ≤ ((0 : Int32)).toNatClampNeg) := inb_of S102 ⟨by decide, by decide⟩
  obtain ⟨T102, h102, X102, e102, W102, st102⟩ := stB X101 hx hZ e101 Ar102 (j := (0 : Int32)) hin102 (g := (mkF m 7 #[.val (.int u0)] [(.int u0.toInt8.toInt32), (.int (0 : Int32)), (.ref b101), (.ref b101)])) rfl rfl (hb hby d_jdk_43_method_46_code_7)
  have N102 := Fr.snoc X102 N0 gn101
  have K102 : Keep h0 h102 [] := K101.wr W102 (Or.inr sz101)
  have Z102 : n0 ≤ h102.size := Nat.le_trans Z101 (Nat.le_of_eq W102.size.symm)
  have V102 : Arv Z h102 b101 k101 .byte (1 : Int32) [(.int (nar .byte u0.toInt8.toInt32))] (.int (0 : Int32)) := Arv.set Ar102 q102 S102 M102 H102 G102 (fits_nar_byte _) W102 0 rfl (Nat.le_of_ble_eq_true rfl)
  refine Goes.step (B := (T102.setTop (mkF m 8 #[.val (.int u0)] [(.ref b101)]))) (fun _ k => st102 _ k) ?_
  refine Goes.retR X102 hx hlk hrt rfl rfl rfl (hb hby d_jdk_43_method_46_code_8) ?_ (by decide) (by decide)
  rw [e102]
  exact ⟨b101, rfl, N102, K102, gn101, sz101⟩
theorem d_jdk_42_method_151_code_0 : decode jdk_42_method_151_code 0 = .ok (.aload_n 0, 1) := by decide +kernel
theorem d_jdk_42_method_151_code_1 : decode jdk_42_method_151_code 1 = .ok (.invokespecial 1, 3) := by decide +kernel
theorem d_jdk_42_method_151_code_4 : decode jdk_42_method_151_code 4 = .ok (.aload_n 0, 1) := by decide +kernel
theorem d_jdk_42_method_151_code_5 : decode jdk_42_method_151_code 5 = .ok (.aload_n 1, 1) := by decide +kernel
theorem d_jdk_42_method_151_code_6 : decode jdk_42_method_151_code 6 = .ok (.putfield 9, 3) := by decide +kernel
theorem d_jdk_42_method_151_code_9 : decode jdk_42_method_151_code 9 = .ok (.aload_n 0, 1) := by decide +kernel
theorem d_jdk_42_method_151_code_10 : decode jdk_42_method_151_code 10 = .ok (.iload_n 2, 1) := by decide +kernel
theorem d_jdk_42_method_151_code_11 : decode jdk_42_method_151_code 11 = .ok (.putfield 15, 3) := by decide +kernel
theorem d_jdk_42_method_151_code_14 : decode jdk_42_method_151_code 14 = .ok (.return_, 1) := by decide +kernel
def own_si_Q (Z : State) (o0 : Addr) (c0 : Addr)  (h0 : Heap) (n0 : Nat) (v : Option Value) (h : Heap) (L : List Loc) : Prop := (v = none) ∧ (Fr n0 L) ∧ (Keep h0 h [o0]) ∧ (Exa Z h o0 "java/lang/String")
theorem own_si_ef (m : MethodId) (o0 : Addr) (c0 : Addr) : entryFrame m #[(.ref o0), (.ref c0), (.int (0 : Int32))] 3 = mkF m 0 #[.val (.ref o0), .val (.ref c0), .val (.int (0 : Int32))] [] := by first | (simp [entryFrame, mkF, argsToLocals, Value.category]; done) | rfl
theorem pn_String : plainName "java/lang/String" = true := by first | (simp [plainName, overriddenIn]; done) | decide +kernel
set_option maxRecDepth 65536 in
set_option maxHeartbeats 40000000 in
theorem own_si_rm (l : Launch) (Z : State) (a0 : Array Value) (hw : ∀ d ∈ tables_1, d.before a0 Z = true) (ws : List Jvm.Cond) (o0 : Addr) (c0 : Addr)  (h0 : Heap) (n0 : Nat) (Z0 : n0 ≤ h0.size) (pr0 : Exa Z h0 o0 "java/lang/String") (pr1 : Fld Z h0 o0 "java/lang/String" "value" "[B" .null) (pr2 : Fld Z h0 o0 "java/lang/String" "coder" "B" (.int (0 : Int32))) (pr3 : n0 ≤ o0) :
    MetFree l (⟨"java/lang/String", "<init>", "([BB)V"⟩ : MethodName) (head1 (Jvm.Cond.code (⟨"java/lang/String", "<init>", "([BB)V"⟩ : MethodName) jdk_42_method_151_code 3 none :: ws) ({ frames := 1, cells := 0, slots := 0, locals := 12 } : Room)) (fun a U => a = #[(.ref o0), (.ref c0), (.int (0 : Int32))] ∧ Z.Warmed39 U.vm ∧ U.heap = h0) (fun _ _ _ _ _ => True) (fun _ U o U' => ∃ v L, o = .returned v ∧ own_si_Q Z o0 c0 h0 n0 v U'.heap L ∧ FrameEnd U o U' L ({ frames := 1, cells := 0, slots := 0, locals := 12 } : Room).cells ({ frames := 1, cells := 0, slots := 0, locals := 12 } : Room).slots) := by
  refine MetFree.of_bodySF (plainFor_of_name pn_String) hisR ?_
  intro p e s m args below meth c s₁ Bd hml0 hP hK
  obtain ⟨rfl, hZ, hh⟩ := hP
  have hx := Bd.exec
  have hby := Bd.bytes
  have hml : c.maxLocals = 3 := hml0
  have hown : s.vm.findClass "java/lang/String" = some m.cls := findClass_of_methodNamed Bd.named
  have hnm := (name_of_methodNamed Bd.named Bd.method).1
  have hlk : meth.locks = false := BodyLoose.notSynchronized Bd
  have hrt := Bd.returns
  have X0 : Stand p l e ({ frames := 1, cells := 0, slots := 0, locals := 12 } : Room) s m #[(.ref o0), (.ref c0), (.int (0 : Int32))] below meth c s₁ [] 0 0 := Stand.of_body Bd
  have e0 : s₁.heap = h0 := by rw [← hh, Bd.state]; rfl
  have N0 := Fr.nil n0
  refine Goes.enter (kc := ({ frames := 1, cells := 0, slots := 0, locals := 12 } : Room).cells) (kn := ({ frames := 1, cells := 0, slots := 0, locals := 12 } : Room).slots) (Q := own_si_Q Z o0 c0 h0 n0) (own_si_ef m o0 c0) ?_
  refine Goes.step (B := (s₁.setTop (mkF m 1 #[.val (.ref o0), .val (.ref c0), .val (.int (0 : Int32))] [(.ref o0)]))) (fun _ k => XS.aloadN X0.here hx rfl (hb hby d_jdk_42_method_151_code_0) rfl rfl k) ?_
  obtain ⟨T101, X101, e101, st101⟩ := initO X0 hx hZ hown (hw _ (List.mem_of_getElem? (i := 11) rfl)) (hw _ (List.mem_of_getElem? (i := 12) rfl)) (hw _ (List.mem_of_getElem? (i := 13) rfl)) e0 (g := (mkF m 1 #[.val (.ref o0), .val (.ref c0), .val (.int (0 : Int32))] [(.ref o0)])) rfl (by rw [hml]; rfl) rfl (hb hby d_jdk_42_method_151_code_1) (by decide) (W := 0) (by show 2 * 0 + _ ≤ _; exact Nat.le_of_eq rfl) (by decide)
  refine Goes.step (B := (T101.setTop (mkF m 4 #[.val (.ref o0), .val (.ref c0), .val (.int (0 : Int32))] []))) (fun _ k => st101 _ k) ?_
  refine Goes.step (B := (T101.setTop (mkF m 5 #[.val (.ref o0), .val (.ref c0), .val (.int (0 : Int32))] [(.ref o0)]))) (fun _ k => XS.aloadN X101.here hx rfl (hb hby d_jdk_42_method_151_code_4) rfl rfl k) ?_
  refine Goes.step (B := (T101.setTop (mkF m 6 #[.val (.ref o0), .val (.ref c0), .val (.int (0 : Int32))] [(.ref c0), (.ref o0)]))) (fun _ k => XS.aloadN X101.here hx rfl (hb hby d_jdk_42_method_151_code_5) rfl rfl k) ?_
  obtain ⟨T102, h102, X102, e102, W102, st102⟩ := putF X101 hx hZ hown (host := "") (Or.inl (hw _ (List.mem_of_getElem? (i := 28) rfl))) Via.refl e101 pr1 pr0 (Or.inr ⟨(hw _ (List.mem_of_getElem? (i := 29) rfl)), rfl, hnm⟩) (hw _ (List.mem_of_getElem? (i := 2) rfl)) (ty := (.array .byte)) (by decide) rfl rfl (g := (mkF m 6 #[.val (.ref o0), .val (.ref c0), .val (.int (0 : Int32))] [(.ref c0), (.ref o0)])) rfl rfl (hb hby d_jdk_42_method_151_code_6)
  have f103 := pr0.wr W102
  have f104 := pr2.other W102 (Or.inr (slot_ne (Or.inr (hw _ (List.mem_of_getElem? (i := 27) rfl))) (Or.inr (hw _ (List.mem_of_getElem? (i := 29) rfl))) (by decide) (t := .byte) (t' := (.array .byte)) (by decide) (by decide)))
  have N102 := Fr.snoc X102 N0 pr3
  have K102 : Keep h0 h102 [o0] := (Keep.refl h0 [o0]).wr W102 (Or.inl (List.mem_of_getElem? (i := 0) rfl))
  have Z102 : n0 ≤ h102.size := Nat.le_trans Z0 (Nat.le_of_eq W102.size.symm)
  have f105 : Fld Z h102 o0 "java/lang/String" "value" "[B" (.ref c0) := pr1.same W102
  refine Goes.step (B := (T102.setTop (mkF m 9 #[.val (.ref o0), .val (.ref c0), .val (.int (0 : Int32))] []))) (fun _ k => st102 _ k) ?_
  refine Goes.step (B := (T102.setTop (mkF m 10 #[.val (.ref o0), .val (.ref c0), .val (.int (0 : Int32))] [(.ref o0)]))) (fun _ k => XS.aloadN X102.here hx rfl (hb hby d_jdk_42_method_151_code_9) rfl rfl k) ?_
  refine Goes.step (B := (T102.setTop (mkF m 11 #[.val (.ref o0), .val (.ref c0), .val (.int (0 : Int32))] [(.int (0 : Int32)), (.ref o0)]))) (fun _ k => XS.iloadN X102.here hx rfl (hb hby d_jdk_42_method_151_code_10) rfl k) ?_
  obtain ⟨T106, h106, X106, e106, W106, st106⟩ := putFN X102 hx hZ hown (hw _ (List.mem_of_getElem? (i := 26) rfl)) Via.refl e102 f104 f103 (Or.inr ⟨(hw _ (List.mem_of_getElem? (i := 27) rfl)), rfl, hnm⟩) (hw _ (List.mem_of_getElem? (i := 2) rfl)) (ty := .byte) (v' := (.int (nar .byte (0 : Int32)))) (by decide) rfl (fits_nar_byte _) (g := (mkF m 11 #[.val (.ref o0), .val (.ref c0), .val (.int (0 : Int32))] [(.int (0 : Int32)), (.ref o0)])) rfl rfl (hb hby d_jdk_42_method_151_code_11)
  have f107 := f103.wr W106
  have f108 := f105.other W106 (Or.inr (slot_ne (Or.inr (hw _ (List.mem_of_getElem? (i := 29) rfl))) (Or.inr (hw _ (List.mem_of_getElem? (i := 27) rfl))) (by decide) (t := (.array .byte)) (t' := .byte) (by decide) (by decide)))
  have N106 := Fr.snoc X106 N102 pr3
  have K106 : Keep h0 h106 [o0] := K102.wr W106 (Or.inl (List.mem_of_getElem? (i := 0) rfl))
  have Z106 : n0 ≤ h106.size := Nat.le_trans Z102 (Nat.le_of_eq W106.size.symm)
  have f109 : Fld Z h106 o0 "java/lang/String" "coder" "B" (.int (0 : Int32)) := f104.same W106
  refine Goes.step (B := (T106.setTop (mkF m 14 #[.val (.ref o0), .val (.ref c0), .val (.int (0 : Int32))] []))) (fun _ k => st106 _ k) ?_
  refine Goes.retV X106 hx hlk hrt (hb hby d_jdk_42_method_151_code_14) ?_ (by decide) (by decide)
  rw [e106]
  exact ⟨rfl, N106, K106, f107⟩
theorem d_jdk_42_method_139_code_0 : decode jdk_42_method_139_code 0 = .ok (.getstatic 38, 3) := by decide +kernel
theorem d_jdk_42_method_139_code_3 : decode jdk_42_method_139_code 3 = .ok (.ifCond .eq 23, 3) := by decide +kernel
theorem d_jdk_42_method_139_code_6 : decode jdk_42_method_139_code 6 = .ok (.iload_n 0, 1) := by decide +kernel
theorem d_jdk_42_method_139_code_7 : decode jdk_42_method_139_code 7 = .ok (.invokestatic 1015, 3) := by decide +kernel
theorem pd__C_Z : parseMethodDescriptor "(C)Z" = some ⟨[.char], some .boolean⟩ := by decide +kernel
theorem d_jdk_42_method_139_code_10 : decode jdk_42_method_139_code 10 = .ok (.ifCond .eq 16, 3) := by decide +kernel
theorem d_jdk_42_method_139_code_13 : decode jdk_42_method_139_code 13 = .ok (.new 10, 3) := by decide +kernel
theorem d_jdk_42_method_139_code_16 : decode jdk_42_method_139_code 16 = .ok (.dup, 1) := by decide +kernel
theorem d_jdk_42_method_139_code_17 : decode jdk_42_method_139_code 17 = .ok (.iload_n 0, 1) := by decide +kernel
theorem d_jdk_42_method_139_code_18 : decode jdk_42_method_139_code 18 = .ok (.invokestatic 1018, 3) := by decide +kernel
theorem pd__C_AB : parseMethodDescriptor "(C)[B" = some ⟨[.char], some (.array .byte)⟩ := by decide +kernel
theorem d_jdk_42_method_139_code_21 : decode jdk_42_method_139_code 21 = .ok (.iconst 0, 1) := by decide +kernel
theorem d_jdk_42_method_139_code_22 : decode jdk_42_method_139_code 22 = .ok (.invokespecial 209, 3) := by decide +kernel
theorem pd__ABB_V : parseMethodDescriptor "([BB)V" = some ⟨[(.array .byte), .byte], none⟩ := by decide +kernel
theorem d_jdk_42_method_139_code_25 : decode jdk_42_method_139_code 25 = .ok (.areturn, 1) := by decide +kernel
def own_vo_Q (Z : State) (u0 : Int32) (w0 : Int32) (h0 : Heap) (n0 : Nat) (v : Option Value) (h : Heap) (L : List Loc) : Prop := ∃ (b : Addr), (v = some (.ref b)) ∧ (Fr n0 L) ∧ (Keep h0 h []) ∧ (n0 ≤ b) ∧ (h0.size ≤ b) ∧ (Exa Z h b "java/lang/String")
theorem own_vo_ef (m : MethodId) (u0 : Int32) : entryFrame m #[(.int u0)] 1 = mkF m 0 #[.val (.int u0)] [] := by first | (simp [entryFrame, mkF, argsToLocals, Value.category]; done) | rfl
set_option maxRecDepth 65536 in
set_option maxHeartbeats 40000000 in
theorem own_vo_rm (l : Launch) (Z : State) (a0 : Array Value) (hw : ∀ d ∈ tables_1, d.before a0 Z = true) (ws : List Jvm.Cond) (u0 : Int32) (w0 : Int32) (h0 : Heap) (n0 : Nat) (Z0 : n0 ≤ h0.size) (pr0 : Sta Z h0 "java/lang/String" "COMPACT_STRINGS" "Z" (.int w0)) (hw0 : ¬ (w0 = (0 : Int32))) (hu0 : ¬ ((own_ce_fn u0) = (0 : Int32))) :
    MetFree l (⟨"java/lang/String", "valueOf", "(C)Ljava/lang/String;"⟩ : MethodName) (head1 (Jvm.Cond.code (⟨"java/lang/String", "valueOf", "(C)Ljava/lang/String;"⟩ : MethodName) jdk_42_method_139_code 1 (some (.object "java/lang/String")) :: ws) ({ frames := 2, cells := 2, slots := 5, locals := 27 } : Room)) (fun a U => a = #[(.int u0)] ∧ Z.Warmed39 U.vm ∧ U.heap = h0) (fun _ _ _ _ _ => True) (fun _ U o U' => ∃ v L, o = .returned v ∧ own_vo_Q Z u0 w0 h0 n0 v U'.heap L ∧ FrameEnd U o U' L ({ frames := 2, cells := 2, slots := 5, locals := 27 } : Room).cells ({ frames := 2, cells := 2, slots := 5, locals := 27 } : Room).slots) := by
  refine MetFree.of_bodySF (plainFor_of_name pn_String) hisR ?_
  intro p e s m args below meth c s₁ Bd hml0 hP hK
  obtain ⟨rfl, hZ, hh⟩ := hP
  have hx := Bd.exec
  have hby := Bd.bytes
  have hml : c.maxLocals = 1 := hml0
  have hown : s.vm.findClass "java/lang/String" = some m.cls := findClass_of_methodNamed Bd.named
  have hnm := (name_of_methodNamed Bd.named Bd.method).1
  have hlk : meth.locks = false := BodyLoose.notSynchronized Bd
  have hrt := Bd.returns
  have X0 : Stand p l e ({ frames := 2, cells := 2, slots := 5, locals := 27 } : Room) s m #[(.int u0)] below meth c s₁ [] 0 0 := Stand.of_body Bd
  have e0 : s₁.heap = h0 := by rw [← hh, Bd.state]; rfl
  have N0 := Fr.nil n0
  refine Goes.enter (kc := ({ frames := 2, cells := 2, slots := 5, locals := 27 } : Room).cells) (kn := ({ frames := 2, cells := 2, slots := 5, locals := 27 } : Room).slots) (Q := own_vo_Q Z u0 w0 h0 n0) (own_vo_ef m u0) ?_
  obtain ⟨T101, X101, e101, st101⟩ := getS2 X0 hx hZ hown (host := "") (Or.inl (hw _ (List.mem_of_getElem? (i := 14) rfl))) Via.refl e0 pr0 (g := (mkF m 0 #[.val (.int u0)] [])) rfl (hb hby d_jdk_42_method_139_code_0)
  refine Goes.step (B := (T101.setTop (mkF m 3 #[.val (.int u0)] [(.int w0)]))) (fun _ k => st101 _ k) ?_
  have hc102 : ¬ (w0 = (0 : Int32)) := hw0
  refine Goes.step (B := (T101.setTop (mkF m 6 #[.val (.int u0)] []))) (fun _ k => XS.ifNo X101.here hx rfl (hb hby d_jdk_42_method_139_code_3) rfl ((if0 _ _).trans (feq hc102).1) k) ?_
  refine Goes.step (B := (T101.setTop (mkF m 7 #[.val (.int u0)] [(.int u0)]))) (fun _ k => XS.iloadN X101.here hx rfl (hb hby d_jdk_42_method_139_code_6) rfl k) ?_
  obtain ⟨_, _, ⟨T103, L103, k103, n103⟩, -, X103, ⟨Lc103, hQ103, l103, y103, z103⟩, st103⟩ := Jvm.LawKit.callS X101 hx (y := (⟨"java/lang/StringLatin1", "canEncode", "(C)Z"⟩ : MethodName)) hown (mvT hZ (hw _ (List.mem_of_getElem? (i := 33) rfl))) (mvT hZ (hw _ (List.mem_of_getElem? (i := 34) rfl))) (mvT hZ (hw _ (List.mem_of_getElem? (i := 35) rfl))) (mvT hZ (hw _ (List.mem_of_getElem? (i := 36) rfl))) (by decide) (backOf (W := 0) (own_ce_rm l Z a0 hw [] u0  h0 n0 Z0 ) hZ (hw _ (List.mem_of_getElem? (i := 36) rfl)) (hw _ (List.mem_of_getElem? (i := 35) rfl)) (by decide) (by decide)) (g := (mkF m 7 #[.val (.int u0)] [(.int u0)])) rfl (by rw [hml]; rfl) (argsL := [(.int u0)]) (rest := []) (lenOf pd__C_Z rfl) rfl (by show 2 * 0 + _ ≤ _; exact Nat.le_of_eq rfl) (hb hby d_jdk_42_method_139_code_7) (fun _ _ => ⟨rfl, e101, (by decide : 0 + 0 ≤ _), (by decide : 0 + 0 ≤ _)⟩)
  dsimp only [Pt.U, Pt.locs, Pt.cells, Pt.slots] at X103 l103 y103 z103 st103 hQ103
  subst l103 y103 z103
  obtain ⟨rfl, N103q, e103⟩ := hQ103
  have N103 := Fr.app N0 N103q
  refine Goes.step (B := (T103.setTop (mkF m 10 #[.val (.int u0)] [(.int (own_ce_fn u0))]))) (fun _ k => st103 _ k) ?_
  have hc104 : ¬ ((own_ce_fn u0) = (0 : Int32)) := hu0
  refine Goes.step (B := (T103.setTop (mkF m 13 #[.val (.int u0)] []))) (fun _ k => XS.ifNo X103.here hx rfl (hb hby d_jdk_42_method_139_code_10) rfl ((if0 _ _).trans (feq hc104).1) k) ?_
  obtain ⟨T105, h105, X105, e105, E105, A105, D105, -, st105⟩ := newO X103 hx hZ hown (hw _ (List.mem_of_getElem? (i := 37) rfl)) (hw _ (List.mem_of_getElem? (i := 2) rfl)) (hw _ (List.mem_of_getElem? (i := 3) rfl)) e103 (g := (mkF m 13 #[.val (.int u0)] [])) rfl (hb hby d_jdk_42_method_139_code_13) (by decide) (by decide)
  obtain ⟨b105, g105⟩ : ∃ z, z = h0.size := ⟨_, rfl⟩
  rw [← g105] at A105 D105 st105
  have gn105 : n0 ≤ b105 := Nat.le_trans Z0 (Nat.le_of_eq g105.symm)
  have sz105 : h0.size ≤ b105 := Nat.le_trans (Keep.refl h0 []).1 (Nat.le_of_eq g105.symm)
  have f106 := pr0.ext E105
  have f107 : Fld Z h105 b105 "java/lang/String" "coder" "B" (.int (0 : Int32)) := D105 (Or.inr (hw _ (List.mem_of_getElem? (i := 27) rfl))) (ty := .byte) (by decide)
  have f108 : Fld Z h105 b105 "java/lang/String" "value" "[B" .null := D105 (Or.inr (hw _ (List.mem_of_getElem? (i := 29) rfl))) (ty := (.array .byte)) (by decide)
  have Z105 : n0 ≤ h105.size := Nat.le_trans Z0 E105.1
  have K105 : Keep h0 h105 [] := (Keep.refl h0 []).ext E105
  refine Goes.step (B := (T105.setTop (mkF m 16 #[.val (.int u0)] [(.ref b105)]))) (fun _ k => st105 _ k) ?_
  refine Goes.step (B := (T105.setTop (mkF m 17 #[.val (.int u0)] [(.ref b105), (.ref b105)]))) (fun _ k => XS.dup X105.here hx rfl (hb hby d_jdk_42_method_139_code_16) rfl rfl k) ?_
  refine Goes.step (B := (T105.setTop (mkF m 18 #[.val (.int u0)] [(.int u0), (.ref b105), (.ref b105)]))) (fun _ k => XS.iloadN X105.here hx rfl (hb hby d_jdk_42_method_139_code_17) rfl k) ?_
  obtain ⟨_, _, ⟨T109, L109, k109, n109⟩, -, X109, ⟨Lc109, hQ109, l109, y109, z109⟩, st109⟩ := Jvm.LawKit.callS X105 hx (y := (⟨"java/lang/StringLatin1", "toBytes", "(C)[B"⟩ : MethodName)) hown (mvT hZ (hw _ (List.mem_of_getElem? (i := 38) rfl))) (mvT hZ (hw _ (List.mem_of_getElem? (i := 39) rfl))) (mvT hZ (hw _ (List.mem_of_getElem? (i := 35) rfl))) (mvT hZ (hw _ (List.mem_of_getElem? (i := 40) rfl))) (by decide) (backOf (W := 2) (own_tb_rm l Z a0 hw [] u0  h105 n0 Z105 ) hZ (hw _ (List.mem_of_getElem? (i := 40) rfl)) (hw _ (List.mem_of_getElem? (i := 35) rfl)) (by decide) (by decide)) (g := (mkF m 18 #[.val (.int u0)] [(.int u0), (.ref b105), (.ref b105)])) rfl (by rw [hml]; rfl) (argsL := [(.int u0)]) (rest := [(.ref b105), (.ref b105)]) (lenOf pd__C_AB rfl) rfl (by show 2 * 0 + _ ≤ _; exact Nat.le_of_eq rfl) (hb hby d_jdk_42_method_139_code_18) (fun _ _ => ⟨rfl, e105, (by decide : 1 + 1 ≤ _), (by decide : 4 + 1 ≤ _)⟩)
  dsimp only [Pt.U, Pt.locs, Pt.cells, Pt.slots] at X109 l109 y109 z109 st109 hQ109
  subst l109 y109 z109
  obtain ⟨b_109, rfl, N109q, K109q, gn109_b, sz109_b⟩ := hQ109
  have N109 := Fr.app N103 N109q
  have ne110 : b105 ≠ b_109 := Nat.ne_of_lt (Nat.lt_of_lt_of_le A105.lt sz109_b)
  have f111 := f106.keepN K109q (fun _ q => nomatch q)
  have f112 := A105.keep K109q
  have f113 := f107.keep K109q nm0
  have f114 := f108.keep K109q nm0
  have K109 : Keep h0 T109.heap [] := Keep.trans K105 K109q (fun _ q => nomatch q)
  have Z109 : n0 ≤ T109.heap.size := Nat.le_trans Z105 K109q.1
  have szz109_b : h0.size ≤ b_109 := Nat.le_trans K105.1 sz109_b
  refine Goes.step (B := (T109.setTop (mkF m 21 #[.val (.int u0)] [(.ref b_109), (.ref b105), (.ref b105)]))) (fun _ k => st109 _ k) ?_
  refine Goes.step (B := (T109.setTop (mkF m 22 #[.val (.int u0)] [(.int (0 : Int32)), (.ref b_109), (.ref b105), (.ref b105)]))) (fun _ k => XS.iconst X109.here hx rfl (hb hby d_jdk_42_method_139_code_21) k) ?_
  obtain ⟨_, _, ⟨T115, L115, k115, n115⟩, -, X115, ⟨Lc115, hQ115, l115, y115, z115⟩, st115⟩ := X109.specialBack hx (y := (⟨"java/lang/String", "<init>", "([BB)V"⟩ : MethodName)) rfl hown (mvT hZ (hw _ (List.mem_of_getElem? (i := 41) rfl))) (mvT hZ (hw _ (List.mem_of_getElem? (i := 42) rfl))) (mvT hZ (hw _ (List.mem_of_getElem? (i := 43) rfl))) (by decide) (backOf (W := 1) (own_si_rm l Z a0 hw [] b105 b_109  T109.heap n0 Z109 f112 f114 f113 gn105) hZ (hw _ (List.mem_of_getElem? (i := 43) rfl)) (hw _ (List.mem_of_getElem? (i := 3) rfl)) (by decide) (by decide)) (g := (mkF m 22 #[.val (.int u0)] [(.int (0 : Int32)), (.ref b_109), (.ref b105), (.ref b105)])) rfl (by rw [hml]; rfl) (Steps.refl _) (a := b105) (argsL := [(.ref b_109), (.int (0 : Int32))]) (rest := [(.ref b105)]) (lenOf pd__ABB_V rfl) rfl (by show 2 * 0 + _ ≤ _; exact Nat.le_of_eq rfl) (hb hby d_jdk_42_method_139_code_22) (fun _ _ => ⟨rfl, rfl, (by decide : 2 + 0 ≤ _), (by decide : 5 + 0 ≤ _)⟩)
  dsimp only [Pt.U, Pt.locs, Pt.cells, Pt.slots] at X115 l115 y115 z115 st115 hQ115
  subst l115 y115 z115
  obtain ⟨rfl, N115q, K115q, p115_0⟩ := hQ115
  have N115 := Fr.app N109 N115q
  have f116 := f111.keepN K115q (fun y q => by cases List.mem_singleton.mp q; exact f112.plainN)
  have f117 := f112.keep K115q
  have K115 : Keep h0 T115.heap [] := Keep.trans K109 K115q (fun y q => by cases List.mem_singleton.mp q; exact (Or.inr sz105))
  have Z115 : n0 ≤ T115.heap.size := Nat.le_trans Z109 K115q.1
  refine Goes.to (B := (T115.setTop (mkF m 25 #[.val (.int u0)] [(.ref b105)]))) st115 ?_
  refine Goes.retR X115 hx hlk hrt rfl rfl rfl (hb hby d_jdk_42_method_139_code_25) ?_ (by decide) (by decide)
  exact ⟨b105, rfl, N115, K115, gn105, sz105, p115_0⟩
theorem own_m255 (x : Int32) : 0 ≤ (x &&& (255 : Int32)).toInt ∧ (x &&& (255 : Int32)).toInt ≤ 255 := by
  have h := c_mask x 255 8 (by decide) (by decide)
  omega
theorem own_i2c (x : Int32) : (x &&& (255 : Int32)).toUInt32.toUInt16.toUInt32.toInt32.toInt = (x &&& (255 : Int32)).toInt := by
  have h1 := own_m255 x
  have h2 := c_i2c (x &&& 255)
  omega
theorem own_ch (x0 : Int32) : ¬ ((own_ce_fn (x0 &&& (255 : Int32)).toUInt32.toUInt16.toUInt32.toInt32) = (0 : Int32)) := by
  have h1 := own_m255 x0
  have h2 := own_i2c x0
  have k : (255 : Int32).toInt = 255 := by decide
  have h3 : ¬ (255 : Int32) < (x0 &&& (255 : Int32)).toUInt32.toUInt16.toUInt32.toInt32 := by
    rw [Int32.lt_iff_toInt_lt]; omega
  rw [own_ce_fn, if_neg h3]; decide
theorem own_cc (x0 : Int32) : ¬ (255 : Int32) < nar .char (x0 &&& (255 : Int32)).toUInt32.toUInt16.toUInt32.toInt32 := by
  have h1 := own_m255 x0
  have h2 := own_i2c x0
  have h3 := c_i2c (x0 &&& (255 : Int32)).toUInt32.toUInt16.toUInt32.toInt32
  have k : (255 : Int32).toInt = 255 := by decide
  show ¬ (255 : Int32) < (x0 &&& (255 : Int32)).toUInt32.toUInt16.toUInt32.toInt32.toUInt32.toUInt16.toUInt32.toInt32
  rw [Int32.lt_iff_toInt_lt]; omega
theorem d_jdk_42_method_149_code_0 : decode jdk_42_method_149_code 0 = .ok (.aload_n 0, 1) := by decide +kernel
theorem d_jdk_42_method_149_code_1 : decode jdk_42_method_149_code 1 = .ok (.invokespecial 1, 3) := by decide +kernel
theorem d_jdk_42_method_149_code_4 : decode jdk_42_method_149_code 4 = .ok (.iload_n 3, 1) := by decide +kernel
theorem d_jdk_42_method_149_code_5 : decode jdk_42_method_149_code 5 = .ok (.ifCond .ne 22, 3) := by decide +kernel
theorem d_jdk_42_method_149_code_8 : decode jdk_42_method_149_code 8 = .ok (.aload_n 0, 1) := by decide +kernel
theorem d_jdk_42_method_149_code_9 : decode jdk_42_method_149_code 9 = .ok (.ldc 7, 2) := by decide +kernel
theorem d_jdk_42_method_149_code_11 : decode jdk_42_method_149_code 11 = .ok (.getfield 9, 3) := by decide +kernel
theorem d_jdk_42_method_149_code_14 : decode jdk_42_method_149_code 14 = .ok (.putfield 9, 3) := by decide +kernel
theorem d_jdk_42_method_149_code_17 : decode jdk_42_method_149_code 17 = .ok (.aload_n 0, 1) := by decide +kernel
theorem d_jdk_42_method_149_code_18 : decode jdk_42_method_149_code 18 = .ok (.ldc 7, 2) := by decide +kernel
theorem d_jdk_42_method_149_code_20 : decode jdk_42_method_149_code 20 = .ok (.getfield 15, 3) := by decide +kernel
theorem d_jdk_42_method_149_code_23 : decode jdk_42_method_149_code 23 = .ok (.putfield 15, 3) := by decide +kernel
theorem d_jdk_42_method_149_code_26 : decode jdk_42_method_149_code 26 = .ok (.return_, 1) := by decide +kernel
def own_s40_Q (Z : State) (o0 : Addr) (c0 : Addr) (k1 : ClassId) (h0 : Heap) (n0 : Nat) (v : Option Value) (h : Heap) (L : List Loc) : Prop := (v = none) ∧ (Fr n0 L) ∧ (Keep h0 h [o0]) ∧ (Exa Z h o0 "java/lang/String")
theorem own_s40_ef (m : MethodId) (o0 : Addr) (c0 : Addr) : entryFrame m #[(.ref o0), (.ref c0), (.int (0 : Int32)), (.int (0 : Int32)), .null] 6 = mkF m 0 #[.val (.ref o0), .val (.ref c0), .val (.int (0 : Int32)), .val (.int (0 : Int32)), .val .null, .unset] [] := by first | (simp [entryFrame, mkF, argsToLocals, Value.category]; done) | rfl
set_option maxRecDepth 65536 in
set_option maxHeartbeats 40000000 in
theorem own_s40_rm (l : Launch) (Z : State) (a0 : Array Value) (hw : ∀ d ∈ tables_1, d.before a0 Z = true) (ws : List Jvm.Cond) (o0 : Addr) (c0 : Addr) (k1 : ClassId) (h0 : Heap) (n0 : Nat) (Z0 : n0 ≤ h0.size) (pr0 : Exa Z h0 o0 "java/lang/String") (pr1 : Fld Z h0 o0 "java/lang/String" "value" "[B" .null) (pr2 : Fld Z h0 o0 "java/lang/String" "coder" "B" (.int (0 : Int32))) (pr3 : Arv Z h0 c0 k1 .char (0 : Int32) [] (.int (0 : Int32))) (pr4 : n0 ≤ o0) (pr5 : c0 ≠ o0) (hkp : ∀ (b : Addr) (cl : Cell), Z.heap[b]? = some cl → h0[b]? = some cl) (hcon : Jvm.Lit.constHeld Z "java/lang/String" 7) (hcw : Jvm.Lit.compactW.before a0 Z = true) :
    MetFree l (⟨"java/lang/String", "<init>", "([CIILjava/lang/Void;)V"⟩ : MethodName) (head1 (Jvm.Cond.code (⟨"java/lang/String", "<init>", "([CIILjava/lang/Void;)V"⟩ : MethodName) jdk_42_method_149_code 6 none :: ws) ({ frames := 1, cells := 2, slots := 4, locals := 12 } : Room)) (fun a U => a = #[(.ref o0), (.ref c0), (.int (0 : Int32)), (.int (0 : Int32)), .null] ∧ Z.Warmed39 U.vm ∧ U.heap = h0 ∧ U.vm.interned = Z.vm.interned) (fun _ _ _ _ _ => True) (fun _ U o U' => ∃ v L, o = .returned v ∧ own_s40_Q Z o0 c0 k1 h0 n0 v U'.heap L ∧ ReturnedEndW U o U' L ({ frames := 1, cells := 2, slots := 4, locals := 12 } : Room).cells ({ frames := 1, cells := 2, slots := 4, locals := 12 } : Room).slots) := by
  refine MetFree.of_bodySF (plainFor_of_name pn_String) hisR ?_
  intro p e s m args below meth c s₁ Bd hml0 hP hK
  obtain ⟨rfl, hZ, hh, hI⟩ := hP
  have hx := Bd.exec
  have hby := Bd.bytes
  have hml : c.maxLocals = 6 := hml0
  have hown : s.vm.findClass "java/lang/String" = some m.cls := findClass_of_methodNamed Bd.named
  have hnm := (name_of_methodNamed Bd.named Bd.method).1
  have hlk : meth.locks = false := BodyLoose.notSynchronized Bd
  have hrt := Bd.returns
  have X0 : Stand p l e ({ frames := 1, cells := 2, slots := 4, locals := 12 } : Room) (s.setVm s.vm) m #[(.ref o0), (.ref c0), (.int (0 : Int32)), (.int (0 : Int32)), .null] below meth c s₁ [] 0 0 := Stand.of_body Bd
  have e0 : s₁.heap = h0 := by rw [← hh, Bd.state]; rfl
  have N0 := Fr.nil n0
  have hS0 := since0 s
  have hk0 : s.heap.size ≤ h0.size := by rw [hh]; exact Nat.le_refl _
  refine GoesW.enter (kc := ({ frames := 1, cells := 2, slots := 4, locals := 12 } : Room).cells) (kn := ({ frames := 1, cells := 2, slots := 4, locals := 12 } : Room).slots) (Q := own_s40_Q Z o0 c0 k1 h0 n0) (own_s40_ef m o0 c0) ?_
  refine GoesW.step (B := (s₁.setTop (mkF m 1 #[.val (.ref o0), .val (.ref c0), .val (.int (0 : Int32)), .val (.int (0 : Int32)), .val .null, .unset] [(.ref o0)]))) (fun _ k => XS.aloadN X0.here hx rfl (hb hby d_jdk_42_method_149_code_0) rfl rfl k) ?_
  obtain ⟨T101, X101, e101, st101⟩ := initO X0 hx hZ hown (hw _ (List.mem_of_getElem? (i := 11) rfl)) (hw _ (List.mem_of_getElem? (i := 12) rfl)) (hw _ (List.mem_of_getElem? (i := 13) rfl)) e0 (g := (mkF m 1 #[.val (.ref o0), .val (.ref c0), .val (.int (0 : Int32)), .val (.int (0 : Int32)), .val .null, .unset] [(.ref o0)])) rfl (by rw [hml]; rfl) rfl (hb hby d_jdk_42_method_149_code_1) (by decide) (W := 0) (by show 2 * 0 + _ ≤ _; exact Nat.le_of_eq rfl) (by decide)
  refine GoesW.step (B := (T101.setTop (mkF m 4 #[.val (.ref o0), .val (.ref c0), .val (.int (0 : Int32)), .val (.int (0 : Int32)), .val .null, .unset] []))) (fun _ k => st101 _ k) ?_
  refine GoesW.step (B := (T101.setTop (mkF m 5 #[.val (.ref o0), .val (.ref c0), .val (.int (0 : Int32)), .val (.int (0 : Int32)), .val .null, .unset] [(.int (0 : Int32))]))) (fun _ k => XS.iloadN X101.here hx rfl (hb hby d_jdk_42_method_149_code_4) rfl k) ?_
  have hc102 : (0 : Int32) = (0 : Int32) := by decide
  refine GoesW.step (B := (T101.setTop (mkF m 8 #[.val (.ref o0), .val (.ref c0), .val (.int (0 : Int32)), .val (.int (0 : Int32)), .val .null, .unset] []))) (fun _ k => XS.ifNo X101.here hx rfl (hb hby d_jdk_42_method_149_code_5) rfl ((if0 _ _).trans (teq hc102).2) k) ?_
  refine GoesW.step (B := (T101.setTop (mkF m 9 #[.val (.ref o0), .val (.ref c0), .val (.int (0 : Int32)), .val (.int (0 : Int32)), .val .null, .unset] [(.ref o0)]))) (fun _ k => XS.aloadN X101.here hx rfl (hb hby d_jdk_42_method_149_code_8) rfl rfl k) ?_
  have wS : ∀ a ∈ Bundle.stringAtoms, a.before a0 Z = true := by
    intro a ha; simp only [Bundle.stringAtoms, Bundle.sN, List.mem_cons, List.not_mem_nil, or_false] at ha
    rcases ha with rfl | rfl | rfl | rfl | rfl | rfl | rfl
    · exact (hw _ (List.mem_of_getElem? (i := 3) rfl))
    · exact (hw _ (List.mem_of_getElem? (i := 2) rfl))
    · exact (hw _ (List.mem_of_getElem? (i := 19) rfl))
    · exact (hw _ (List.mem_of_getElem? (i := 29) rfl))
    · exact (hw _ (List.mem_of_getElem? (i := 27) rfl))
    · exact (hw _ (List.mem_of_getElem? (i := 92) rfl))
    · exact (hw _ (List.mem_of_getElem? (i := 93) rfl))
  obtain ⟨a103, T103, h103, k103, b103, kb103, X103, e103, E103, hS103, hk103, hZ103, hown103, Ea103, Fc103, Fv103, Vb103, la103, lb103, IB103, Lit103, st103⟩ := ldcSVL X101 hx hZ hown (hw _ (List.mem_of_getElem? (i := 91) rfl)) wS e101 hS0 hk0 (Fr.nil _) (fun b cl q => by rw [show (s.heap = h0) from hh]; exact hkp b cl q) (⟨#[], by rw [hI]; simp, fun q hq => by simp at hq⟩ : IB Z s.vm []) (by decide) hcon hcw (vs := []) (z := (0 : Int32)) ⟨by decide, by decide⟩ (by decide) (by decide) (g := (mkF m 9 #[.val (.ref o0), .val (.ref c0), .val (.int (0 : Int32)), .val (.int (0 : Int32)), .val .null, .unset] [(.ref o0)])) rfl (hb hby d_jdk_42_method_149_code_9) (n := 0) (by decide) (by decide) (by decide) (by decide)
  have f104 := pr0.ext E103
  have f105 := pr1.ext E103
  have f106 := pr2.ext E103
  have f107 := pr3.ext E103
  have Z103 : n0 ≤ h103.size := Nat.le_trans Z0 E103.1
  have K103 : Keep h0 h103 [o0] := (Keep.refl h0 [o0]).ext E103
  have ne108 : a103 ≠ o0 := fun q => by subst q; exact absurd (own_fldeq Fv103 f105) (by simp)
  refine GoesW.step (B := (T103.setTop (mkF m 11 #[.val (.ref o0), .val (.ref c0), .val (.int (0 : Int32)), .val (.int (0 : Int32)), .val .null, .unset] [(.ref a103), (.ref o0)]))) (fun _ k => st103 _ k) ?_
  obtain ⟨T109, X109, e109, st109⟩ := getF X103 hx hZ103 hown103 (host := "") (Or.inl (hw _ (List.mem_of_getElem? (i := 28) rfl))) Via.refl e103 Fv103 (g := (mkF m 11 #[.val (.ref o0), .val (.ref c0), .val (.int (0 : Int32)), .val (.int (0 : Int32)), .val .null, .unset] [(.ref a103), (.ref o0)])) rfl rfl (hb hby d_jdk_42_method_149_code_11)
  refine GoesW.step (B := (T109.setTop (mkF m 14 #[.val (.ref o0), .val (.ref c0), .val (.int (0 : Int32)), .val (.int (0 : Int32)), .val .null, .unset] [(.ref b103), (.ref o0)]))) (fun _ k => st109 _ k) ?_
  obtain ⟨T110, h110, X110, e110, W110, st110⟩ := putF X109 hx hZ103 hown103 (host := "") (Or.inl (hw _ (List.mem_of_getElem? (i := 28) rfl))) Via.refl e109 f105 f104 (Or.inr ⟨(hw _ (List.mem_of_getElem? (i := 29) rfl)), rfl, hnm⟩) (hw _ (List.mem_of_getElem? (i := 2) rfl)) (ty := (.array .byte)) (by decide) rfl rfl (g := (mkF m 14 #[.val (.ref o0), .val (.ref c0), .val (.int (0 : Int32)), .val (.int (0 : Int32)), .val .null, .unset] [(.ref b103), (.ref o0)])) rfl rfl (hb hby d_jdk_42_method_149_code_14)
  have f111 := f104.wr W110
  have f112 := f106.other W110 (Or.inr (slot_ne (Or.inr (hw _ (List.mem_of_getElem? (i := 27) rfl))) (Or.inr (hw _ (List.mem_of_getElem? (i := 29) rfl))) (by decide) (t := .byte) (t' := (.array .byte)) (by decide) (by decide)))
  have f113 := f107.other W110 pr5
  have f114 := Ea103.wr W110
  have f115 := Fc103.other W110 (Or.inl ne108)
  have f116 := Fv103.other W110 (Or.inl ne108)
  have N110 := Fr.snoc X110 N0 pr4
  have K110 : Keep h0 h110 [o0] := K103.wr W110 (Or.inl (List.mem_of_getElem? (i := 0) rfl))
  have Z110 : n0 ≤ h110.size := Nat.le_trans Z103 (Nat.le_of_eq W110.size.symm)
  have hk110 := Nat.le_trans hk103 (Nat.le_of_eq W110.size.symm)
  have f117 : Fld Z h110 o0 "java/lang/String" "value" "[B" (.ref b103) := f105.same W110
  refine GoesW.step (B := (T110.setTop (mkF m 17 #[.val (.ref o0), .val (.ref c0), .val (.int (0 : Int32)), .val (.int (0 : Int32)), .val .null, .unset] []))) (fun _ k => st110 _ k) ?_
  refine GoesW.step (B := (T110.setTop (mkF m 18 #[.val (.ref o0), .val (.ref c0), .val (.int (0 : Int32)), .val (.int (0 : Int32)), .val .null, .unset] [(.ref o0)]))) (fun _ k => XS.aloadN X110.here hx rfl (hb hby d_jdk_42_method_149_code_17) rfl rfl k) ?_
  refine GoesW.step (B := (T110.setTop (mkF m 20 #[.val (.ref o0), .val (.ref c0), .val (.int (0 : Int32)), .val (.int (0 : Int32)), .val .null, .unset] [(.ref a103), (.ref o0)]))) (fun _ k => ldcAgain X110 hx hZ103 hown103 (hw _ (List.mem_of_getElem? (i := 91) rfl)) Lit103 (g := (mkF m 18 #[.val (.ref o0), .val (.ref c0), .val (.int (0 : Int32)), .val (.int (0 : Int32)), .val .null, .unset] [(.ref o0)])) rfl (hb hby d_jdk_42_method_149_code_18) _ k) ?_
  obtain ⟨T119, X119, e119, st119⟩ := getF X110 hx hZ103 hown103 (host := "") (Or.inl (hw _ (List.mem_of_getElem? (i := 26) rfl))) Via.refl e110 f115 (g := (mkF m 20 #[.val (.ref o0), .val (.ref c0), .val (.int (0 : Int32)), .val (.int (0 : Int32)), .val .null, .unset] [(.ref a103), (.ref o0)])) rfl rfl (hb hby d_jdk_42_method_149_code_20)
  refine GoesW.step (B := (T119.setTop (mkF m 23 #[.val (.ref o0), .val (.ref c0), .val (.int (0 : Int32)), .val (.int (0 : Int32)), .val .null, .unset] [(.int (0 : Int32)), (.ref o0)]))) (fun _ k => st119 _ k) ?_
  obtain ⟨T120, h120, X120, e120, W120, st120⟩ := putFN X119 hx hZ103 hown103 (hw _ (List.mem_of_getElem? (i := 26) rfl)) Via.refl e119 f112 f111 (Or.inr ⟨(hw _ (List.mem_of_getElem? (i := 27) rfl)), rfl, hnm⟩) (hw _ (List.mem_of_getElem? (i := 2) rfl)) (ty := .byte) (v' := (.int (nar .byte (0 : Int32)))) (by decide) rfl (fits_nar_byte _) (g := (mkF m 23 #[.val (.ref o0), .val (.ref c0), .val (.int (0 : Int32)), .val (.int (0 : Int32)), .val .null, .unset] [(.int (0 : Int32)), (.ref o0)])) rfl rfl (hb hby d_jdk_42_method_149_code_23)
  have f121 := f111.wr W120
  have f122 := f117.other W120 (Or.inr (slot_ne (Or.inr (hw _ (List.mem_of_getElem? (i := 29) rfl))) (Or.inr (hw _ (List.mem_of_getElem? (i := 27) rfl))) (by decide) (t := (.array .byte)) (t' := .byte) (by decide) (by decide)))
  have f123 := f113.other W120 pr5
  have f124 := f114.wr W120
  have f125 := f115.other W120 (Or.inl ne108)
  have f126 := f116.other W120 (Or.inl ne108)
  have N120 := Fr.snoc X120 N110 pr4
  have K120 : Keep h0 h120 [o0] := K110.wr W120 (Or.inl (List.mem_of_getElem? (i := 0) rfl))
  have Z120 : n0 ≤ h120.size := Nat.le_trans Z110 (Nat.le_of_eq W120.size.symm)
  have hk120 := Nat.le_trans hk110 (Nat.le_of_eq W120.size.symm)
  have f127 : Fld Z h120 o0 "java/lang/String" "coder" "B" (.int (0 : Int32)) := f112.same W120
  refine GoesW.step (B := (T120.setTop (mkF m 26 #[.val (.ref o0), .val (.ref c0), .val (.int (0 : Int32)), .val (.int (0 : Int32)), .val .null, .unset] []))) (fun _ k => st120 _ k) ?_
  refine GoesW.retV X120 hS103 (by rw [e120]; exact hk120) hx hlk hrt (hb hby d_jdk_42_method_149_code_26) ?_ (by decide) (by decide)
  rw [e120]
  exact ⟨rfl, N120, K120, f121⟩
theorem d_jdk_42_method_3_code_0 : decode jdk_42_method_3_code 0 = .ok (.aload_n 0, 1) := by decide +kernel
theorem d_jdk_42_method_3_code_1 : decode jdk_42_method_3_code 1 = .ok (.aload_n 1, 1) := by decide +kernel
theorem d_jdk_42_method_3_code_2 : decode jdk_42_method_3_code 2 = .ok (.iconst 0, 1) := by decide +kernel
theorem d_jdk_42_method_3_code_3 : decode jdk_42_method_3_code 3 = .ok (.aload_n 1, 1) := by decide +kernel
theorem d_jdk_42_method_3_code_4 : decode jdk_42_method_3_code 4 = .ok (.arraylength, 1) := by decide +kernel
theorem d_jdk_42_method_3_code_5 : decode jdk_42_method_3_code 5 = .ok (.aconst_null, 1) := by decide +kernel
theorem d_jdk_42_method_3_code_6 : decode jdk_42_method_3_code 6 = .ok (.invokespecial 27, 3) := by decide +kernel
theorem pd__ACIILjava_lang_Void__V : parseMethodDescriptor "([CIILjava/lang/Void;)V" = some ⟨[(.array .char), .int, .int, (.object "java/lang/Void")], none⟩ := by decide +kernel
theorem d_jdk_42_method_3_code_9 : decode jdk_42_method_3_code 9 = .ok (.return_, 1) := by decide +kernel
def own_s10_Q (Z : State) (o0 : Addr) (c0 : Addr) (k1 : ClassId) (h0 : Heap) (n0 : Nat) (v : Option Value) (h : Heap) (L : List Loc) : Prop := (v = none) ∧ (Fr n0 L) ∧ (Keep h0 h [o0]) ∧ (Exa Z h o0 "java/lang/String")
theorem own_s10_ef (m : MethodId) (o0 : Addr) (c0 : Addr) : entryFrame m #[(.ref o0), (.ref c0)] 2 = mkF m 0 #[.val (.ref o0), .val (.ref c0)] [] := by first | (simp [entryFrame, mkF, argsToLocals, Value.category]; done) | rfl
set_option maxRecDepth 65536 in
set_option maxHeartbeats 40000000 in
theorem own_s10_rm (l : Launch) (Z : State) (a0 : Array Value) (hw : ∀ d ∈ tables_1, d.before a0 Z = true) (ws : List Jvm.Cond) (o0 : Addr) (c0 : Addr) (k1 : ClassId) (h0 : Heap) (n0 : Nat) (Z0 : n0 ≤ h0.size) (pr0 : Exa Z h0 o0 "java/lang/String") (pr1 : Fld Z h0 o0 "java/lang/String" "value" "[B" .null) (pr2 : Fld Z h0 o0 "java/lang/String" "coder" "B" (.int (0 : Int32))) (pr3 : Arv Z h0 c0 k1 .char (0 : Int32) [] (.int (0 : Int32))) (pr4 : n0 ≤ o0) (pr5 : c0 ≠ o0) (hkp : ∀ (b : Addr) (cl : Cell), Z.heap[b]? = some cl → h0[b]? = some cl) (hcon : Jvm.Lit.constHeld Z "java/lang/String" 7) (hcw : Jvm.Lit.compactW.before a0 Z = true) :
    MetFree l (⟨"java/lang/String", "<init>", "([C)V"⟩ : MethodName) (head1 (Jvm.Cond.code (⟨"java/lang/String", "<init>", "([C)V"⟩ : MethodName) jdk_42_method_3_code 2 none :: ws) ({ frames := 2, cells := 2, slots := 4, locals := 29 } : Room)) (fun a U => a = #[(.ref o0), (.ref c0)] ∧ Z.Warmed39 U.vm ∧ U.heap = h0 ∧ U.vm.interned = Z.vm.interned) (fun _ _ _ _ _ => True) (fun _ U o U' => ∃ v L, o = .returned v ∧ own_s10_Q Z o0 c0 k1 h0 n0 v U'.heap L ∧ ReturnedEndW U o U' L ({ frames := 2, cells := 2, slots := 4, locals := 29 } : Room).cells ({ frames := 2, cells := 2, slots := 4, locals := 29 } : Room).slots) := by
  refine MetFree.of_bodySF (plainFor_of_name pn_String) hisR ?_
  intro p e s m args below meth c s₁ Bd hml0 hP hK
  obtain ⟨rfl, hZ, hh, hI⟩ := hP
  have hx := Bd.exec
  have hby := Bd.bytes
  have hml : c.maxLocals = 2 := hml0
  have hown : s.vm.findClass "java/lang/String" = some m.cls := findClass_of_methodNamed Bd.named
  have hnm := (name_of_methodNamed Bd.named Bd.method).1
  have hlk : meth.locks = false := BodyLoose.notSynchronized Bd
  have hrt := Bd.returns
  have X0 : Stand p l e ({ frames := 2, cells := 2, slots := 4, locals := 29 } : Room) (s.setVm s.vm) m #[(.ref o0), (.ref c0)] below meth c s₁ [] 0 0 := Stand.of_body Bd
  have e0 : s₁.heap = h0 := by rw [← hh, Bd.state]; rfl
  have N0 := Fr.nil n0
  have hS0 := since0 s
  have hk0 : s.heap.size ≤ h0.size := by rw [hh]; exact Nat.le_refl _
  refine GoesW.enter (kc := ({ frames := 2, cells := 2, slots := 4, locals := 29 } : Room).cells) (kn := ({ frames := 2, cells := 2, slots := 4, locals := 29 } : Room).slots) (Q := own_s10_Q Z o0 c0 k1 h0 n0) (own_s10_ef m o0 c0) ?_
  refine GoesW.step (B := (s₁.setTop (mkF m 1 #[.val (.ref o0), .val (.ref c0)] [(.ref o0)]))) (fun _ k => XS.aloadN X0.here hx rfl (hb hby d_jdk_42_method_3_code_0) rfl rfl k) ?_
  refine GoesW.step (B := (s₁.setTop (mkF m 2 #[.val (.ref o0), .val (.ref c0)] [(.ref c0), (.ref o0)]))) (fun _ k => XS.aloadN X0.here hx rfl (hb hby d_jdk_42_method_3_code_1) rfl rfl k) ?_
  refine GoesW.step (B := (s₁.setTop (mkF m 3 #[.val (.ref o0), .val (.ref c0)] [(.int (0 : Int32)), (.ref c0), (.ref o0)]))) (fun _ k => XS.iconst X0.here hx rfl (hb hby d_jdk_42_method_3_code_2) k) ?_
  refine GoesW.step (B := (s₁.setTop (mkF m 4 #[.val (.ref o0), .val (.ref c0)] [(.ref c0), (.int (0 : Int32)), (.ref c0), (.ref o0)]))) (fun _ k => XS.aloadN X0.here hx rfl (hb hby d_jdk_42_method_3_code_3) rfl rfl k) ?_
  obtain ⟨cl101, Ar101, q101, S101, M101, H101, G101⟩ := id pr3
  refine GoesW.step (B := (s₁.setTop (mkF m 5 #[.val (.ref o0), .val (.ref c0)] [(.int (0 : Int32)), (.int (0 : Int32)), (.ref c0), (.ref o0)]))) (fun _ k => X0.arraylength hx (by rw [e0]; exact Ar101.1) (State.isArrayOf_alike hZ.alike Ar101.2.1) (g := (mkF m 4 #[.val (.ref o0), .val (.ref c0)] [(.ref c0), (.int (0 : Int32)), (.ref c0), (.ref o0)])) rfl rfl (hb hby d_jdk_42_method_3_code_4) _ (by rw [len_of S101 M101]; exact k)) ?_
  refine GoesW.step (B := (s₁.setTop (mkF m 6 #[.val (.ref o0), .val (.ref c0)] [.null, (.int (0 : Int32)), (.int (0 : Int32)), (.ref c0), (.ref o0)]))) (fun _ k => XS.aconstNull X0.here hx rfl (hb hby d_jdk_42_method_3_code_5) k) ?_
  obtain ⟨_, _, ⟨T102, L102, k102, n102⟩, -, X102, hSq102, hgr102, ⟨Lc102, hQ102, l102, y102, z102⟩, st102⟩ := X0.specialBackS hx (y := (⟨"java/lang/String", "<init>", "([CIILjava/lang/Void;)V"⟩ : MethodName)) rfl hown (mvT hZ (hw _ (List.mem_of_getElem? (i := 7) rfl))) (mvT hZ (hw _ (List.mem_of_getElem? (i := 8) rfl))) (mvT hZ (hw _ (List.mem_of_getElem? (i := 10) rfl))) (by decide) (backOfI (W := 0) (own_s40_rm l Z a0 hw [] o0 c0 k1 h0 n0 Z0 pr0 pr1 pr2 pr3 pr4 pr5 hkp hcon hcw) hZ hI (hw _ (List.mem_of_getElem? (i := 10) rfl)) (hw _ (List.mem_of_getElem? (i := 3) rfl)) (by decide) (by decide)) (g := (mkF m 6 #[.val (.ref o0), .val (.ref c0)] [.null, (.int (0 : Int32)), (.int (0 : Int32)), (.ref c0), (.ref o0)])) rfl (by rw [hml]; rfl) (Steps.refl _) (a := o0) (argsL := [(.ref c0), (.int (0 : Int32)), (.int (0 : Int32)), .null]) (rest := []) (lenOf pd__ACIILjava_lang_Void__V rfl) rfl (by show 2 * 0 + _ ≤ _; exact Nat.le_of_eq rfl) (hb hby d_jdk_42_method_3_code_6) (fun _ _ => ⟨rfl, e0, (by decide : 0 + 2 ≤ _), (by decide : 0 + 4 ≤ _)⟩)
  dsimp only [Pt.U, Pt.locs, Pt.cells, Pt.slots] at X102 l102 y102 z102 st102 hQ102 hSq102 hgr102
  subst l102 y102 z102
  have hk102 := Nat.le_trans (by rw [e0]; exact hk0) hgr102
  have hS102 := hS0.trans hSq102 hk102
  have hZ102 : Z.Warmed39 T102.vm := State.Warmed39.trans hZ hSq102.1
  have hown102 : T102.vm.findClass "java/lang/String" = some m.cls := by rw [hSq102.1.alike.findClass]; exact hown
  obtain ⟨rfl, N102q, K102q, p102_0⟩ := hQ102
  have N102 := Fr.app N0 N102q
  have f103 := pr0.keep K102q
  have f104 := pr3.keep K102q (nm1 pr5)
  have K102 : Keep h0 T102.heap [o0] := Keep.trans (Keep.refl h0 [o0]) K102q (fun y q => by cases List.mem_singleton.mp q; exact (Or.inl (List.mem_of_getElem? (i := 0) rfl)))
  have Z102 : n0 ≤ T102.heap.size := Nat.le_trans Z0 K102q.1
  refine GoesW.to (B := (T102.setTop (mkF m 9 #[.val (.ref o0), .val (.ref c0)] []))) st102 ?_
  refine GoesW.retV X102 hS102 (Nat.le_refl T102.heap.size) hx hlk hrt (hb hby d_jdk_42_method_3_code_9) ?_ (by decide) (by decide)
  exact ⟨rfl, N102, K102, p102_0⟩
theorem d_jdk_52_method_21_code_0 : decode jdk_52_method_21_code 0 = .ok (.iconst 0, 1) := by decide +kernel
theorem d_jdk_52_method_21_code_1 : decode jdk_52_method_21_code 1 = .ok (.istore 5, 2) := by decide +kernel
theorem d_jdk_52_method_21_code_3 : decode jdk_52_method_21_code 3 = .ok (.iload 5, 2) := by decide +kernel
theorem d_jdk_52_method_21_code_5 : decode jdk_52_method_21_code 5 = .ok (.iload 4, 2) := by decide +kernel
theorem d_jdk_52_method_21_code_7 : decode jdk_52_method_21_code 7 = .ok (.if_icmp .ge 37, 3) := by decide +kernel
theorem d_jdk_52_method_21_code_10 : decode jdk_52_method_21_code 10 = .ok (.aload_n 0, 1) := by decide +kernel
theorem d_jdk_52_method_21_code_11 : decode jdk_52_method_21_code 11 = .ok (.iload_n 1, 1) := by decide +kernel
theorem d_jdk_52_method_21_code_12 : decode jdk_52_method_21_code 12 = .ok (.caload, 1) := by decide +kernel
theorem d_jdk_52_method_21_code_13 : decode jdk_52_method_21_code 13 = .ok (.istore 6, 2) := by decide +kernel
theorem d_jdk_52_method_21_code_15 : decode jdk_52_method_21_code 15 = .ok (.iload 6, 2) := by decide +kernel
theorem d_jdk_52_method_21_code_17 : decode jdk_52_method_21_code 17 = .ok (.sipush 255, 3) := by decide +kernel
theorem d_jdk_52_method_21_code_20 : decode jdk_52_method_21_code 20 = .ok (.if_icmp .le 6, 3) := by decide +kernel
theorem d_jdk_52_method_21_code_26 : decode jdk_52_method_21_code 26 = .ok (.aload_n 2, 1) := by decide +kernel
theorem d_jdk_52_method_21_code_27 : decode jdk_52_method_21_code 27 = .ok (.iload_n 3, 1) := by decide +kernel
theorem d_jdk_52_method_21_code_28 : decode jdk_52_method_21_code 28 = .ok (.iload 6, 2) := by decide +kernel
theorem d_jdk_52_method_21_code_30 : decode jdk_52_method_21_code 30 = .ok (.i2b, 1) := by decide +kernel
theorem d_jdk_52_method_21_code_31 : decode jdk_52_method_21_code 31 = .ok (.bastore, 1) := by decide +kernel
theorem d_jdk_52_method_21_code_32 : decode jdk_52_method_21_code 32 = .ok (.iinc 1 1, 3) := by decide +kernel
theorem d_jdk_52_method_21_code_35 : decode jdk_52_method_21_code 35 = .ok (.iinc 3 1, 3) := by decide +kernel
theorem d_jdk_52_method_21_code_38 : decode jdk_52_method_21_code 38 = .ok (.iinc 5 1, 3) := by decide +kernel
theorem d_jdk_52_method_21_code_41 : decode jdk_52_method_21_code 41 = .ok (.goto (-38), 3) := by decide +kernel
theorem d_jdk_52_method_21_code_44 : decode jdk_52_method_21_code 44 = .ok (.iload 4, 2) := by decide +kernel
theorem d_jdk_52_method_21_code_46 : decode jdk_52_method_21_code 46 = .ok (.ireturn, 1) := by decide +kernel
def own_c2_2_Q (Z : State) (c0 : Addr) (d0 : Addr) (k1 : ClassId) (v0 : Int32) (v1 : Int32) (k2 : ClassId) (h0 : Heap) (n0 : Nat) (v : Option Value) (h : Heap) (L : List Loc) : Prop := (v = some (.int (2 : Int32))) ∧ (Fr n0 L) ∧ (Keep h0 h [d0]) ∧ (Arv Z h d0 k2 .byte (2 : Int32) [(.int (nar .byte v0.toInt8.toInt32)), (.int (nar .byte v1.toInt8.toInt32))] (.int (0 : Int32)))
theorem own_c2_2_ef (m : MethodId) (c0 : Addr) (d0 : Addr) : entryFrame m #[(.ref c0), (.int (0 : Int32)), (.ref d0), (.int (0 : Int32)), (.int (2 : Int32))] 7 = mkF m 0 #[.val (.ref c0), .val (.int (0 : Int32)), .val (.ref d0), .val (.int (0 : Int32)), .val (.int (2 : Int32)), .unset, .unset] [] := by first | (simp [entryFrame, mkF, argsToLocals, Value.category]; done) | rfl
theorem pn_StringUTF16 : plainName "java/lang/StringUTF16" = true := by first | (simp [plainName, overriddenIn]; done) | decide +kernel
set_option maxRecDepth 65536 in
set_option maxHeartbeats 40000000 in
theorem own_c2_2_rm (l : Launch) (Z : State) (a0 : Array Value) (hw : ∀ d ∈ tables_1, d.before a0 Z = true) (ws : List Jvm.Cond) (c0 : Addr) (d0 : Addr) (k1 : ClassId) (v0 : Int32) (v1 : Int32) (k2 : ClassId) (h0 : Heap) (n0 : Nat) (Z0 : n0 ≤ h0.size) (pr0 : Arv Z h0 c0 k1 .char (2 : Int32) [(.int v0), (.int v1)] (.int (0 : Int32))) (pr1 : Arv Z h0 d0 k2 .byte (2 : Int32) [(.int (0 : Int32)), (.int (0 : Int32))] (.int (0 : Int32))) (pr2 : n0 ≤ d0) (pr3 : c0 ≠ d0) (hv0 : ¬ (255 : Int32) < v0) (hv1 : ¬ (255 : Int32) < v1) :
    MetFree l (⟨"java/lang/StringUTF16", "compress", "([CI[BII)I"⟩ : MethodName) (head1 (Jvm.Cond.code (⟨"java/lang/StringUTF16", "compress", "([CI[BII)I"⟩ : MethodName) jdk_52_method_21_code 7 (some .int) :: ws) ({ frames := 0, cells := 0, slots := 0, locals := 0 } : Room)) (fun a U => a = #[(.ref c0), (.int (0 : Int32)), (.ref d0), (.int (0 : Int32)), (.int (2 : Int32))] ∧ Z.Warmed39 U.vm ∧ U.heap = h0) (fun _ _ _ _ _ => True) (fun _ U o U' => ∃ v L, o = .returned v ∧ own_c2_2_Q Z c0 d0 k1 v0 v1 k2 h0 n0 v U'.heap L ∧ FrameEnd U o U' L ({ frames := 0, cells := 0, slots := 0, locals := 0 } : Room).cells ({ frames := 0, cells := 0, slots := 0, locals := 0 } : Room).slots) := by
  refine MetFree.of_bodySF (plainFor_of_name pn_StringUTF16) hisR ?_
  intro p e s m args below meth c s₁ Bd hml0 hP hK
  obtain ⟨rfl, hZ, hh⟩ := hP
  have hx := Bd.exec
  have hby := Bd.bytes
  have hml : c.maxLocals = 7 := hml0
  have hown : s.vm.findClass "java/lang/StringUTF16" = some m.cls := findClass_of_methodNamed Bd.named
  have hnm := (name_of_methodNamed Bd.named Bd.method).1
  have hlk : meth.locks = false := BodyLoose.notSynchronized Bd
  have hrt := Bd.returns
  have X0 : Stand p l e ({ frames := 0, cells := 0, slots := 0, locals := 0 } : Room) s m #[(.ref c0), (.int (0 : Int32)), (.ref d0), (.int (0 : Int32)), (.int (2 : Int32))] below meth c s₁ [] 0 0 := Stand.of_body Bd
  have e0 : s₁.heap = h0 := by rw [← hh, Bd.state]; rfl
  have N0 := Fr.nil n0
  refine Goes.enter (kc := ({ frames := 0, cells := 0, slots := 0, locals := 0 } : Room).cells) (kn := ({ frames := 0, cells := 0, slots := 0, locals := 0 } : Room).slots) (Q := own_c2_2_Q Z c0 d0 k1 v0 v1 k2 h0 n0) (own_c2_2_ef m c0 d0) ?_
  refine Goes.step (B := (s₁.setTop (mkF m 1 #[.val (.ref c0), .val (.int (0 : Int32)), .val (.ref d0), .val (.int (0 : Int32)), .val (.int (2 : Int32)), .unset, .unset] [(.int (0 : Int32))]))) (fun _ k => XS.iconst X0.here hx rfl (hb hby d_jdk_52_method_21_code_0) k) ?_
  refine Goes.step (B := (s₁.setTop (mkF m 3 #[.val (.ref c0), .val (.int (0 : Int32)), .val (.ref d0), .val (.int (0 : Int32)), .val (.int (2 : Int32)), .val (.int (0 : Int32)), .unset] []))) (fun _ k => XS.istore X0.here hx rfl (hb hby d_jdk_52_method_21_code_1) rfl (l' := #[.val (.ref c0), .val (.int (0 : Int32)), .val (.ref d0), .val (.int (0 : Int32)), .val (.int (2 : Int32)), .val (.int (0 : Int32)), .unset]) rfl k) ?_
  refine Goes.step (B := (s₁.setTop (mkF m 5 #[.val (.ref c0), .val (.int (0 : Int32)), .val (.ref d0), .val (.int (0 : Int32)), .val (.int (2 : Int32)), .val (.int (0 : Int32)), .unset] [(.int (0 : Int32))]))) (fun _ k => XS.iload X0.here hx rfl (hb hby d_jdk_52_method_21_code_3) rfl k) ?_
  refine Goes.step (B := (s₁.setTop (mkF m 7 #[.val (.ref c0), .val (.int (0 : Int32)), .val (.ref d0), .val (.int (0 : Int32)), .val (.int (2 : Int32)), .val (.int (0 : Int32)), .unset] [(.int (2 : Int32)), (.int (0 : Int32))]))) (fun _ k => XS.iload X0.here hx rfl (hb hby d_jdk_52_method_21_code_5) rfl k) ?_
  have hc101 : (0 : Int32) < (2 : Int32) := by decide
  refine Goes.step (B := (s₁.setTop (mkF m 10 #[.val (.ref c0), .val (.int (0 : Int32)), .val (.ref d0), .val (.int (0 : Int32)), .val (.int (2 : Int32)), .val (.int (0 : Int32)), .unset] []))) (fun _ k => XS.icmpNo X0.here hx rfl (hb hby d_jdk_52_method_21_code_7) rfl (tlt hc101).2.1 k) ?_
  refine Goes.step (B := (s₁.setTop (mkF m 11 #[.val (.ref c0), .val (.int (0 : Int32)), .val (.ref d0), .val (.int (0 : Int32)), .val (.int (2 : Int32)), .val (.int (0 : Int32)), .unset] [(.ref c0)]))) (fun _ k => XS.aloadN X0.here hx rfl (hb hby d_jdk_52_method_21_code_10) rfl rfl k) ?_
  refine Goes.step (B := (s₁.setTop (mkF m 12 #[.val (.ref c0), .val (.int (0 : Int32)), .val (.ref d0), .val (.int (0 : Int32)), .val (.int (2 : Int32)), .val (.int (0 : Int32)), .unset] [(.int (0 : Int32)), (.ref c0)]))) (fun _ k => XS.iloadN X0.here hx rfl (hb hby d_jdk_52_method_21_code_11) rfl k) ?_
  obtain ⟨cl102, Ar102, q102, S102, M102, H102, G102⟩ := id pr0
  have hin102 : ¬ ((0 : Int32) < 0 ∨ cl102.slots.size ≤ ((0 : Int32)).toNatClampNeg) := inb_of S102 ⟨by decide, by decide⟩
  have hat102 : cl102.slots[((0 : Int32)).toNatClampNeg]? = some (.int v0) := H102 0 (by rw [S102]; decide)
  refine Goes.step (B := (s₁.setTop (mkF m 13 #[.val (.ref c0), .val (.int (0 : Int32)), .val (.ref d0), .val (.int (0 : Int32)), .val (.int (2 : Int32)), .val (.int (0 : Int32)), .unset] [(.int v0)]))) (fun _ k => X0.caload hx (j := (0 : Int32)) (v := (.int v0)) (by rw [e0]; exact Ar102.1) (State.isArrayOf_alike hZ.alike Ar102.2.1) Ar102.2.2 hin102 hat102 (g := (mkF m 12 #[.val (.ref c0), .val (.int (0 : Int32)), .val (.ref d0), .val (.int (0 : Int32)), .val (.int (2 : Int32)), .val (.int (0 : Int32)), .unset] [(.int (0 : Int32)), (.ref c0)])) rfl rfl (hb hby d_jdk_52_method_21_code_12) _ k) ?_
  refine Goes.step (B := (s₁.setTop (mkF m 15 #[.val (.ref c0), .val (.int (0 : Int32)), .val (.ref d0), .val (.int (0 : Int32)), .val (.int (2 : Int32)), .val (.int (0 : Int32)), .val (.int v0)] []))) (fun _ k => XS.istore X0.here hx rfl (hb hby d_jdk_52_method_21_code_13) rfl (l' := #[.val (.ref c0), .val (.int (0 : Int32)), .val (.ref d0), .val (.int (0 : Int32)), .val (.int (2 : Int32)), .val (.int (0 : Int32)), .val (.int v0)]) rfl k) ?_
  refine Goes.step (B := (s₁.setTop (mkF m 17 #[.val (.ref c0), .val (.int (0 : Int32)), .val (.ref d0), .val (.int (0 : Int32)), .val (.int (2 : Int32)), .val (.int (0 : Int32)), .val (.int v0)] [(.int v0)]))) (fun _ k => XS.iload X0.here hx rfl (hb hby d_jdk_52_method_21_code_15) rfl k) ?_
  refine Goes.step (B := (s₁.setTop (mkF m 20 #[.val (.ref c0), .val (.int (0 : Int32)), .val (.ref d0), .val (.int (0 : Int32)), .val (.int (2 : Int32)), .val (.int (0 : Int32)), .val (.int v0)] [(.int (255 : Int32)), (.int v0)]))) (fun _ k => XS.sipush X0.here hx rfl (hb hby d_jdk_52_method_21_code_17) k) ?_
  have hc103 : ¬ ((255 : Int32) < v0) := hv0
  refine Goes.step (B := (s₁.setTop (mkF m 26 #[.val (.ref c0), .val (.int (0 : Int32)), .val (.ref d0), .val (.int (0 : Int32)), .val (.int (2 : Int32)), .val (.int (0 : Int32)), .val (.int v0)] []))) (fun _ k => XS.icmpYes X0.here hx rfl (pc0 := 20) (pc' := 26) rfl (hb hby d_jdk_52_method_21_code_20) rfl (flt hc103).2.2.2 (by decide) (by decide) k) ?_
  refine Goes.step (B := (s₁.setTop (mkF m 27 #[.val (.ref c0), .val (.int (0 : Int32)), .val (.ref d0), .val (.int (0 : Int32)), .val (.int (2 : Int32)), .val (.int (0 : Int32)), .val (.int v0)] [(.ref d0)]))) (fun _ k => XS.aloadN X0.here hx rfl (hb hby d_jdk_52_method_21_code_26) rfl rfl k) ?_
  refine Goes.step (B := (s₁.setTop (mkF m 28 #[.val (.ref c0), .val (.int (0 : Int32)), .val (.ref d0), .val (.int (0 : Int32)), .val (.int (2 : Int32)), .val (.int (0 : Int32)), .val (.int v0)] [(.int (0 : Int32)), (.ref d0)]))) (fun _ k => XS.iloadN X0.here hx rfl (hb hby d_jdk_52_method_21_code_27) rfl k) ?_
  refine Goes.step (B := (s₁.setTop (mkF m 30 #[.val (.ref c0), .val (.int (0 : Int32)), .val (.ref d0), .val (.int (0 : Int32)), .val (.int (2 : Int32)), .val (.int (0 : Int32)), .val (.int v0)] [(.int v0), (.int (0 : Int32)), (.ref d0)]))) (fun _ k => XS.iload X0.here hx rfl (hb hby d_jdk_52_method_21_code_28) rfl k) ?_
  refine Goes.step (B := (s₁.setTop (mkF m 31 #[.val (.ref c0), .val (.int (0 : Int32)), .val (.ref d0), .val (.int (0 : Int32)), .val (.int (2 : Int32)), .val (.int (0 : Int32)), .val (.int v0)] [(.int v0.toInt8.toInt32), (.int (0 : Int32)), (.ref d0)]))) (fun _ k => XS.i2b X0.here hx rfl (hb hby d_jdk_52_method_21_code_30) rfl k) ?_
  obtain ⟨cl104, Ar104, q104, S104, M104, H104, G104⟩ := id pr1
  have hin104 : ¬ ((0 : Int32) < 0 ∨ cl104.slots.size ≤ ((0 : Int32)).toNatClampNeg) := inb_of S104 ⟨by decide, by decide⟩
  obtain ⟨T104, h104, X104, e104, W104, st104⟩ := stB X0 hx hZ e0 Ar104 (j := (0 : Int32)) hin104 (g := (mkF m 31 #[.val (.ref c0), .val (.int (0 : Int32)), .val (.ref d0), .val (.int (0 : Int32)), .val (.int (2 : Int32)), .val (.int (0 : Int32)), .val (.int v0)] [(.int v0.toInt8.toInt32), (.int (0 : Int32)), (.ref d0)])) rfl rfl (hb hby d_jdk_52_method_21_code_31)
  have f105 := pr0.other W104 pr3
  have N104 := Fr.snoc X104 N0 pr2
  have K104 : Keep h0 h104 [d0] := (Keep.refl h0 [d0]).wr W104 (Or.inl (List.mem_of_getElem? (i := 0) rfl))
  have Z104 : n0 ≤ h104.size := Nat.le_trans Z0 (Nat.le_of_eq W104.size.symm)
  have V104 : Arv Z h104 d0 k2 .byte (2 : Int32) [(.int (nar .byte v0.toInt8.toInt32)), (.int (0 : Int32))] (.int (0 : Int32)) := Arv.set Ar104 q104 S104 M104 H104 G104 (fits_nar_byte _) W104 0 rfl (Nat.le_of_ble_eq_true rfl)
  refine Goes.step (B := (T104.setTop (mkF m 32 #[.val (.ref c0), .val (.int (0 : Int32)), .val (.ref d0), .val (.int (0 : Int32)), .val (.int (2 : Int32)), .val (.int (0 : Int32)), .val (.int v0)] []))) (fun _ k => st104 _ k) ?_
  refine Goes.step (B := (T104.setTop (mkF m 35 #[.val (.ref c0), .val (.int (1 : Int32)), .val (.ref d0), .val (.int (0 : Int32)), .val (.int (2 : Int32)), .val (.int (0 : Int32)), .val (.int v0)] []))) (fun _ k => XS.iinc X104.here hx rfl (hb hby d_jdk_52_method_21_code_32) rfl (l' := #[.val (.ref c0), .val (.int (1 : Int32)), .val (.ref d0), .val (.int (0 : Int32)), .val (.int (2 : Int32)), .val (.int (0 : Int32)), .val (.int v0)]) rfl k) ?_
  refine Goes.step (B := (T104.setTop (mkF m 38 #[.val (.ref c0), .val (.int (1 : Int32)), .val (.ref d0), .val (.int (1 : Int32)), .val (.int (2 : Int32)), .val (.int (0 : Int32)), .val (.int v0)] []))) (fun _ k => XS.iinc X104.here hx rfl (hb hby d_jdk_52_method_21_code_35) rfl (l' := #[.val (.ref c0), .val (.int (1 : Int32)), .val (.ref d0), .val (.int (1 : Int32)), .val (.int (2 : Int32)), .val (.int (0 : Int32)), .val (.int v0)]) rfl k) ?_
  refine Goes.step (B := (T104.setTop (mkF m 41 #[.val (.ref c0), .val (.int (1 : Int32)), .val (.ref d0), .val (.int (1 : Int32)), .val (.int (2 : Int32)), .val (.int (1 : Int32)), .val (.int v0)] []))) (fun _ k => XS.iinc X104.here hx rfl (hb hby d_jdk_52_method_21_code_38) rfl (l' := #[.val (.ref c0), .val (.int (1 : Int32)), .val (.ref d0), .val (.int (1 : Int32)), .val (.int (2 : Int32)), .val (.int (1 : Int32)), .val (.int v0)]) rfl k) ?_
  refine Goes.step (B := (T104.setTop (mkF m 3 #[.val (.ref c0), .val (.int (1 : Int32)), .val (.ref d0), .val (.int (1 : Int32)), .val (.int (2 : Int32)), .val (.int (1 : Int32)), .val (.int v0)] []))) (fun _ k => XS.goto X104.here hx rfl (pc0 := 41) (pc' := 3) rfl (hb hby d_jdk_52_method_21_code_41) (by decide) (by decide) k) ?_
  refine Goes.step (B := (T104.setTop (mkF m 5 #[.val (.ref c0), .val (.int (1 : Int32)), .val (.ref d0), .val (.int (1 : Int32)), .val (.int (2 : Int32)), .val (.int (1 : Int32)), .val (.int v0)] [(.int (1 : Int32))]))) (fun _ k => XS.iload X104.here hx rfl (hb hby d_jdk_52_method_21_code_3) rfl k) ?_
  refine Goes.step (B := (T104.setTop (mkF m 7 #[.val (.ref c0), .val (.int (1 : Int32)), .val (.ref d0), .val (.int (1 : Int32)), .val (.int (2 : Int32)), .val (.int (1 : Int32)), .val (.int v0)] [(.int (2 : Int32)), (.int (1 : Int32))]))) (fun _ k => XS.iload X104.here hx rfl (hb hby d_jdk_52_method_21_code_5) rfl k) ?_
  have hc106 : (1 : Int32) < (2 : Int32) := by decide
  refine Goes.step (B := (T104.setTop (mkF m 10 #[.val (.ref c0), .val (.int (1 : Int32)), .val (.ref d0), .val (.int (1 : Int32)), .val (.int (2 : Int32)), .val (.int (1 : Int32)), .val (.int v0)] []))) (fun _ k => XS.icmpNo X104.here hx rfl (hb hby d_jdk_52_method_21_code_7) rfl (tlt hc106).2.1 k) ?_
  refine Goes.step (B := (T104.setTop (mkF m 11 #[.val (.ref c0), .val (.int (1 : Int32)), .val (.ref d0), .val (.int (1 : Int32)), .val (.int (2 : Int32)), .val (.int (1 : Int32)), .val (.int v0)] [(.ref c0)]))) (fun _ k => XS.aloadN X104.here hx rfl (hb hby d_jdk_52_method_21_code_10) rfl rfl k) ?_
  refine Goes.step (B := (T104.setTop (mkF m 12 #[.val (.ref c0), .val (.int (1 : Int32)), .val (.ref d0), .val (.int (1 : Int32)), .val (.int (2 : Int32)), .val (.int (1 : Int32)), .val (.int v0)] [(.int (1 : Int32)), (.ref c0)]))) (fun _ k => XS.iloadN X104.here hx rfl (hb hby d_jdk_52_method_21_code_11) rfl k) ?_
  obtain ⟨cl107, Ar107, q107, S107, M107, H107, G107⟩ := id f105
  have hin107 : ¬ ((1 : Int32) < 0 ∨ cl107.slots.size ≤ ((1 : Int32)).toNatClampNeg) := inb_of S107 ⟨by decide, by decide⟩
  have hat107 : cl107.slots[((1 : Int32)).toNatClampNeg]? = some (.int v1) := H107 1 (by rw [S107]; decide)
  refine Goes.step (B := (T104.setTop (mkF m 13 #[.val (.ref c0), .val (.int (1 : Int32)), .val (.ref d0), .val (.int (1 : Int32)), .val (.int (2 : Int32)), .val (.int (1 : Int32)), .val (.int v0)] [(.int v1)]))) (fun _ k => X104.caload hx (j := (1 : Int32)) (v := (.int v1)) (by rw [e104]; exact Ar107.1) (State.isArrayOf_alike hZ.alike Ar107.2.1) Ar107.2.2 hin107 hat107 (g := (mkF m 12 #[.val (.ref c0), .val (.int (1 : Int32)), .val (.ref d0), .val (.int (1 : Int32)), .val (.int (2 : Int32)), .val (.int (1 : Int32)), .val (.int v0)] [(.int (1 : Int32)), (.ref c0)])) rfl rfl (hb hby d_jdk_52_method_21_code_12) _ k) ?_
  refine Goes.step (B := (T104.setTop (mkF m 15 #[.val (.ref c0), .val (.int (1 : Int32)), .val (.ref d0), .val (.int (1 : Int32)), .val (.int (2 : Int32)), .val (.int (1 : Int32)), .val (.int v1)] []))) (fun _ k => XS.istore X104.here hx rfl (hb hby d_jdk_52_method_21_code_13) rfl (l' := #[.val (.ref c0), .val (.int (1 : Int32)), .val (.ref d0), .val (.int (1 : Int32)), .val (.int (2 : Int32)), .val (.int (1 : Int32)), .val (.int v1)]) rfl k) ?_
  refine Goes.step (B := (T104.setTop (mkF m 17 #[.val (.ref c0), .val (.int (1 : Int32)), .val (.ref d0), .val (.int (1 : Int32)), .val (.int (2 : Int32)), .val (.int (1 : Int32)), .val (.int v1)] [(.int v1)]))) (fun _ k => XS.iload X104.here hx rfl (hb hby d_jdk_52_method_21_code_15) rfl k) ?_
  refine Goes.step (B := (T104.setTop (mkF m 20 #[.val (.ref c0), .val (.int (1 : Int32)), .val (.ref d0), .val (.int (1 : Int32)), .val (.int (2 : Int32)), .val (.int (1 : Int32)), .val (.int v1)] [(.int (255 : Int32)), (.int v1)]))) (fun _ k => XS.sipush X104.here hx rfl (hb hby d_jdk_52_method_21_code_17) k) ?_
  have hc108 : ¬ ((255 : Int32) < v1) := hv1
  refine Goes.step (B := (T104.setTop (mkF m 26 #[.val (.ref c0), .val (.int (1 : Int32)), .val (.ref d0), .val (.int (1 : Int32)), .val (.int (2 : Int32)), .val (.int (1 : Int32)), .val (.int v1)] []))) (fun _ k => XS.icmpYes X104.here hx rfl (pc0 := 20) (pc' := 26) rfl (hb hby d_jdk_52_method_21_code_20) rfl (flt hc108).2.2.2 (by decide) (by decide) k) ?_
  refine Goes.step (B := (T104.setTop (mkF m 27 #[.val (.ref c0), .val (.int (1 : Int32)), .val (.ref d0), .val (.int (1 : Int32)), .val (.int (2 : Int32)), .val (.int (1 : Int32)), .val (.int v1)] [(.ref d0)]))) (fun _ k => XS.aloadN X104.here hx rfl (hb hby d_jdk_52_method_21_code_26) rfl rfl k) ?_
  refine Goes.step (B := (T104.setTop (mkF m 28 #[.val (.ref c0), .val (.int (1 : Int32)), .val (.ref d0), .val (.int (1 : Int32)), .val (.int (2 : Int32)), .val (.int (1 : Int32)), .val (.int v1)] [(.int (1 : Int32)), (.ref d0)]))) (fun _ k => XS.iloadN X104.here hx rfl (hb hby d_jdk_52_method_21_code_27) rfl k) ?_
  refine Goes.step (B := (T104.setTop (mkF m 30 #[.val (.ref c0), .val (.int (1 : Int32)), .val (.ref d0), .val (.int (1 : Int32)), .val (.int (2 : Int32)), .val (.int (1 : Int32)), .val (.int v1)] [(.int v1), (.int (1 : Int32)), (.ref d0)]))) (fun _ k => XS.iload X104.here hx rfl (hb hby d_jdk_52_method_21_code_28) rfl k) ?_
  refine Goes.step (B := (T104.setTop (mkF m 31 #[.val (.ref c0), .val (.int (1 : Int32)), .val (.ref d0), .val (.int (1 : Int32)), .val (.int (2 : Int32)), .val (.int (1 : Int32)), .val (.int v1)] [(.int v1.toInt8.toInt32), (.int (1 : Int32)), (.ref d0)]))) (fun _ k => XS.i2b X104.here hx rfl (hb hby d_jdk_52_method_21_code_30) rfl k) ?_
  obtain ⟨cl109, Ar109, q109, S109, M109, H109, G109⟩ := id V104
  have hin109 : ¬ ((1 : Int32) < 0 ∨ cl109.slots.size ≤ ((1 : Int32)).toNatClampNeg) := inb_of S109 ⟨by decide, by decide⟩
  obtain ⟨T109, h109, X109, e109, W109, st109⟩ := stB X104 hx hZ e104 Ar109 (j := (1 : Int32)) hin109 (g := (mkF m 31 #[.val (.ref c0), .val (.int (1 : Int32)), .val (.ref d0), .val (.int (1 : Int32)), .val (.int (2 : Int32)), .val (.int (1 : Int32)), .val (.int v1)] [(.int v1.toInt8.toInt32), (.int (1 : Int32)), (.ref d0)])) rfl rfl (hb hby d_jdk_52_method_21_code_31)
  have f110 := f105.other W109 pr3
  have N109 := Fr.snoc X109 N104 pr2
  have K109 : Keep h0 h109 [d0] := K104.wr W109 (Or.inl (List.mem_of_getElem? (i := 0) rfl))
  have Z109 : n0 ≤ h109.size := Nat.le_trans Z104 (Nat.le_of_eq W109.size.symm)
  have V109 : Arv Z h109 d0 k2 .byte (2 : Int32) [(.int (nar .byte v0.toInt8.toInt32)), (.int (nar .byte v1.toInt8.toInt32))] (.int (0 : Int32)) := Arv.set Ar109 q109 S109 M109 H109 G109 (fits_nar_byte _) W109 1 rfl (Nat.le_of_ble_eq_true rfl)
  refine Goes.step (B := (T109.setTop (mkF m 32 #[.val (.ref c0), .val (.int (1 : Int32)), .val (.ref d0), .val (.int (1 : Int32)), .val (.int (2 : Int32)), .val (.int (1 : Int32)), .val (.int v1)] []))) (fun _ k => st109 _ k) ?_
  refine Goes.step (B := (T109.setTop (mkF m 35 #[.val (.ref c0), .val (.int (2 : Int32)), .val (.ref d0), .val (.int (1 : Int32)), .val (.int (2 : Int32)), .val (.int (1 : Int32)), .val (.int v1)] []))) (fun _ k => XS.iinc X109.here hx rfl (hb hby d_jdk_52_method_21_code_32) rfl (l' := #[.val (.ref c0), .val (.int (2 : Int32)), .val (.ref d0), .val (.int (1 : Int32)), .val (.int (2 : Int32)), .val (.int (1 : Int32)), .val (.int v1)]) rfl k) ?_
  refine Goes.step (B := (T109.setTop (mkF m 38 #[.val (.ref c0), .val (.int (2 : Int32)), .val (.ref d0), .val (.int (2 : Int32)), .val (.int (2 : Int32)), .val (.int (1 : Int32)), .val (.int v1)] []))) (fun _ k => XS.iinc X109.here hx rfl (hb hby d_jdk_52_method_21_code_35) rfl (l' := #[.val (.ref c0), .val (.int (2 : Int32)), .val (.ref d0), .val (.int (2 : Int32)), .val (.int (2 : Int32)), .val (.int (1 : Int32)), .val (.int v1)]) rfl k) ?_
  refine Goes.step (B := (T109.setTop (mkF m 41 #[.val (.ref c0), .val (.int (2 : Int32)), .val (.ref d0), .val (.int (2 : Int32)), .val (.int (2 : Int32)), .val (.int (2 : Int32)), .val (.int v1)] []))) (fun _ k => XS.iinc X109.here hx rfl (hb hby d_jdk_52_method_21_code_38) rfl (l' := #[.val (.ref c0), .val (.int (2 : Int32)), .val (.ref d0), .val (.int (2 : Int32)), .val (.int (2 : Int32)), .val (.int (2 : Int32)), .val (.int v1)]) rfl k) ?_
  refine Goes.step (B := (T109.setTop (mkF m 3 #[.val (.ref c0), .val (.int (2 : Int32)), .val (.ref d0), .val (.int (2 : Int32)), .val (.int (2 : Int32)), .val (.int (2 : Int32)), .val (.int v1)] []))) (fun _ k => XS.goto X109.here hx rfl (pc0 := 41) (pc' := 3) rfl (hb hby d_jdk_52_method_21_code_41) (by decide) (by decide) k) ?_
  refine Goes.step (B := (T109.setTop (mkF m 5 #[.val (.ref c0), .val (.int (2 : Int32)), .val (.ref d0), .val (.int (2 : Int32)), .val (.int (2 : Int32)), .val (.int (2 : Int32)), .val (.int v1)] [(.int (2 : Int32))]))) (fun _ k => XS.iload X109.here hx rfl (hb hby d_jdk_52_method_21_code_3) rfl k) ?_
  refine Goes.step (B := (T109.setTop (mkF m 7 #[.val (.ref c0), .val (.int (2 : Int32)), .val (.ref d0), .val (.int (2 : Int32)), .val (.int (2 : Int32)), .val (.int (2 : Int32)), .val (.int v1)] [(.int (2 : Int32)), (.int (2 : Int32))]))) (fun _ k => XS.iload X109.here hx rfl (hb hby d_jdk_52_method_21_code_5) rfl k) ?_
  have hc111 : ¬ ((2 : Int32) < (2 : Int32)) := by decide
  refine Goes.step (B := (T109.setTop (mkF m 44 #[.val (.ref c0), .val (.int (2 : Int32)), .val (.ref d0), .val (.int (2 : Int32)), .val (.int (2 : Int32)), .val (.int (2 : Int32)), .val (.int v1)] []))) (fun _ k => XS.icmpYes X109.here hx rfl (pc0 := 7) (pc' := 44) rfl (hb hby d_jdk_52_method_21_code_7) rfl (flt hc111).2.1 (by decide) (by decide) k) ?_
  refine Goes.step (B := (T109.setTop (mkF m 46 #[.val (.ref c0), .val (.int (2 : Int32)), .val (.ref d0), .val (.int (2 : Int32)), .val (.int (2 : Int32)), .val (.int (2 : Int32)), .val (.int v1)] [(.int (2 : Int32))]))) (fun _ k => XS.iload X109.here hx rfl (hb hby d_jdk_52_method_21_code_44) rfl k) ?_
  refine Goes.retI X109 hx hlk hrt (hb hby d_jdk_52_method_21_code_46) ?_ (by decide) (by decide)
  rw [e109]
  exact ⟨rfl, N109, K109, V109⟩
theorem d_jdk_52_method_16_code_0 : decode jdk_52_method_16_code 0 = .ok (.iload_n 2, 1) := by decide +kernel
theorem d_jdk_52_method_16_code_1 : decode jdk_52_method_16_code 1 = .ok (.newarray .byte, 2) := by decide +kernel
theorem d_jdk_52_method_16_code_3 : decode jdk_52_method_16_code 3 = .ok (.astore_n 3, 1) := by decide +kernel
theorem d_jdk_52_method_16_code_4 : decode jdk_52_method_16_code 4 = .ok (.aload_n 0, 1) := by decide +kernel
theorem d_jdk_52_method_16_code_5 : decode jdk_52_method_16_code 5 = .ok (.iload_n 1, 1) := by decide +kernel
theorem d_jdk_52_method_16_code_6 : decode jdk_52_method_16_code 6 = .ok (.aload_n 3, 1) := by decide +kernel
theorem d_jdk_52_method_16_code_7 : decode jdk_52_method_16_code 7 = .ok (.iconst 0, 1) := by decide +kernel
theorem d_jdk_52_method_16_code_8 : decode jdk_52_method_16_code 8 = .ok (.iload_n 2, 1) := by decide +kernel
theorem d_jdk_52_method_16_code_9 : decode jdk_52_method_16_code 9 = .ok (.invokestatic 115, 3) := by decide +kernel
theorem pd__ACIABII_I : parseMethodDescriptor "([CI[BII)I" = some ⟨[(.array .char), .int, (.array .byte), .int, .int], some .int⟩ := by decide +kernel
theorem d_jdk_52_method_16_code_12 : decode jdk_52_method_16_code 12 = .ok (.istore 4, 2) := by decide +kernel
theorem d_jdk_52_method_16_code_14 : decode jdk_52_method_16_code 14 = .ok (.iload 4, 2) := by decide +kernel
theorem d_jdk_52_method_16_code_16 : decode jdk_52_method_16_code 16 = .ok (.iload_n 2, 1) := by decide +kernel
theorem d_jdk_52_method_16_code_17 : decode jdk_52_method_16_code 17 = .ok (.if_icmp .eq 40, 3) := by decide +kernel
theorem d_jdk_52_method_16_code_57 : decode jdk_52_method_16_code 57 = .ok (.aload_n 3, 1) := by decide +kernel
theorem d_jdk_52_method_16_code_58 : decode jdk_52_method_16_code 58 = .ok (.areturn, 1) := by decide +kernel
def own_c1_2_Q (Z : State) (c0 : Addr) (k1 : ClassId) (v0 : Int32) (v1 : Int32) (h0 : Heap) (n0 : Nat) (v : Option Value) (h : Heap) (L : List Loc) : Prop := ∃ (b : Addr), ∃ (k2 : ClassId), (v = some (.ref b)) ∧ (Fr n0 L) ∧ (Keep h0 h []) ∧ (n0 ≤ b) ∧ (h0.size ≤ b) ∧ (Arv Z h b k2 .byte (2 : Int32) [(.int (nar .byte v0.toInt8.toInt32)), (.int (nar .byte v1.toInt8.toInt32))] (.int (0 : Int32)))
theorem own_c1_2_ef (m : MethodId) (c0 : Addr) : entryFrame m #[(.ref c0), (.int (0 : Int32)), (.int (2 : Int32))] 6 = mkF m 0 #[.val (.ref c0), .val (.int (0 : Int32)), .val (.int (2 : Int32)), .unset, .unset, .unset] [] := by first | (simp [entryFrame, mkF, argsToLocals, Value.category]; done) | rfl
set_option maxRecDepth 65536 in
set_option maxHeartbeats 40000000 in
theorem own_c1_2_rm (l : Launch) (Z : State) (a0 : Array Value) (hw : ∀ d ∈ tables_1, d.before a0 Z = true) (ws : List Jvm.Cond) (c0 : Addr) (k1 : ClassId) (v0 : Int32) (v1 : Int32) (h0 : Heap) (n0 : Nat) (Z0 : n0 ≤ h0.size) (pr0 : Arv Z h0 c0 k1 .char (2 : Int32) [(.int v0), (.int v1)] (.int (0 : Int32))) (hv0 : ¬ (255 : Int32) < v0) (hv1 : ¬ (255 : Int32) < v1) :
    MetFree l (⟨"java/lang/StringUTF16", "compress", "([CII)[B"⟩ : MethodName) (head1 (Jvm.Cond.code (⟨"java/lang/StringUTF16", "compress", "([CII)[B"⟩ : MethodName) jdk_52_method_16_code 6 (some (.array .byte)) :: ws) ({ frames := 1, cells := 1, slots := 2, locals := 18 } : Room)) (fun a U => a = #[(.ref c0), (.int (0 : Int32)), (.int (2 : Int32))] ∧ Z.Warmed39 U.vm ∧ U.heap = h0) (fun _ _ _ _ _ => True) (fun _ U o U' => ∃ v L, o = .returned v ∧ own_c1_2_Q Z c0 k1 v0 v1 h0 n0 v U'.heap L ∧ FrameEnd U o U' L ({ frames := 1, cells := 1, slots := 2, locals := 18 } : Room).cells ({ frames := 1, cells := 1, slots := 2, locals := 18 } : Room).slots) := by
  refine MetFree.of_bodySF (plainFor_of_name pn_StringUTF16) hisR ?_
  intro p e s m args below meth c s₁ Bd hml0 hP hK
  obtain ⟨rfl, hZ, hh⟩ := hP
  have hx := Bd.exec
  have hby := Bd.bytes
  have hml : c.maxLocals = 6 := hml0
  have hown : s.vm.findClass "java/lang/StringUTF16" = some m.cls := findClass_of_methodNamed Bd.named
  have hnm := (name_of_methodNamed Bd.named Bd.method).1
  have hlk : meth.locks = false := BodyLoose.notSynchronized Bd
  have hrt := Bd.returns
  have X0 : Stand p l e ({ frames := 1, cells := 1, slots := 2, locals := 18 } : Room) s m #[(.ref c0), (.int (0 : Int32)), (.int (2 : Int32))] below meth c s₁ [] 0 0 := Stand.of_body Bd
  have e0 : s₁.heap = h0 := by rw [← hh, Bd.state]; rfl
  have N0 := Fr.nil n0
  refine Goes.enter (kc := ({ frames := 1, cells := 1, slots := 2, locals := 18 } : Room).cells) (kn := ({ frames := 1, cells := 1, slots := 2, locals := 18 } : Room).slots) (Q := own_c1_2_Q Z c0 k1 v0 v1 h0 n0) (own_c1_2_ef m c0) ?_
  refine Goes.step (B := (s₁.setTop (mkF m 1 #[.val (.ref c0), .val (.int (0 : Int32)), .val (.int (2 : Int32)), .unset, .unset, .unset] [(.int (2 : Int32))]))) (fun _ k => XS.iloadN X0.here hx rfl (hb hby d_jdk_52_method_16_code_0) rfl k) ?_
  obtain ⟨T101, h101, k101, X101, e101, E101, A101, st101⟩ := newP X0 hx hZ (hw _ (List.mem_of_getElem? (i := 19) rfl)) e0 (g := (mkF m 1 #[.val (.ref c0), .val (.int (0 : Int32)), .val (.int (2 : Int32)), .unset, .unset, .unset] [(.int (2 : Int32))])) rfl (hb hby d_jdk_52_method_16_code_1) rfl (by decide) (cap := 2) (by decide) (by decide) (by decide) (by decide)
  obtain ⟨b101, g101⟩ : ∃ z, z = h0.size := ⟨_, rfl⟩
  rw [← g101] at A101 st101
  have gn101 : n0 ≤ b101 := Nat.le_trans Z0 (Nat.le_of_eq g101.symm)
  have sz101 : h0.size ≤ b101 := Nat.le_trans (Keep.refl h0 []).1 (Nat.le_of_eq g101.symm)
  have ne102 : c0 ≠ b101 := Nat.ne_of_lt (Nat.lt_of_lt_of_le pr0.lt (Nat.le_of_eq g101.symm))
  have f103 := pr0.ext E101
  have V101 : Arv Z h101 b101 k101 .byte (2 : Int32) [(.int (0 : Int32)), (.int (0 : Int32))] (.int (0 : Int32)) := (Arv.new A101 (by decide)).pad (pad_rep [] (.int (0 : Int32)) 2)
  have Z101 : n0 ≤ h101.size := Nat.le_trans Z0 E101.1
  have K101 : Keep h0 h101 [] := (Keep.refl h0 []).ext E101
  refine Goes.step (B := (T101.setTop (mkF m 3 #[.val (.ref c0), .val (.int (0 : Int32)), .val (.int (2 : Int32)), .unset, .unset, .unset] [(.ref b101)]))) (fun _ k => st101 _ k) ?_
  refine Goes.step (B := (T101.setTop (mkF m 4 #[.val (.ref c0), .val (.int (0 : Int32)), .val (.int (2 : Int32)), .val (.ref b101), .unset, .unset] []))) (fun _ k => XS.astoreN X101.here hx rfl (hb hby d_jdk_52_method_16_code_3) rfl rfl (l' := #[.val (.ref c0), .val (.int (0 : Int32)), .val (.int (2 : Int32)), .val (.ref b101), .unset, .unset]) rfl k) ?_
  refine Goes.step (B := (T101.setTop (mkF m 5 #[.val (.ref c0), .val (.int (0 : Int32)), .val (.int (2 : Int32)), .val (.ref b101), .unset, .unset] [(.ref c0)]))) (fun _ k => XS.aloadN X101.here hx rfl (hb hby d_jdk_52_method_16_code_4) rfl rfl k) ?_
  refine Goes.step (B := (T101.setTop (mkF m 6 #[.val (.ref c0), .val (.int (0 : Int32)), .val (.int (2 : Int32)), .val (.ref b101), .unset, .unset] [(.int (0 : Int32)), (.ref c0)]))) (fun _ k => XS.iloadN X101.here hx rfl (hb hby d_jdk_52_method_16_code_5) rfl k) ?_
  refine Goes.step (B := (T101.setTop (mkF m 7 #[.val (.ref c0), .val (.int (0 : Int32)), .val (.int (2 : Int32)), .val (.ref b101), .unset, .unset] [(.ref b101), (.int (0 : Int32)), (.ref c0)]))) (fun _ k => XS.aloadN X101.here hx rfl (hb hby d_jdk_52_method_16_code_6) rfl rfl k) ?_
  refine Goes.step (B := (T101.setTop (mkF m 8 #[.val (.ref c0), .val (.int (0 : Int32)), .val (.int (2 : Int32)), .val (.ref b101), .unset, .unset] [(.int (0 : Int32)), (.ref b101), (.int (0 : Int32)), (.ref c0)]))) (fun _ k => XS.iconst X101.here hx rfl (hb hby d_jdk_52_method_16_code_7) k) ?_
  refine Goes.step (B := (T101.setTop (mkF m 9 #[.val (.ref c0), .val (.int (0 : Int32)), .val (.int (2 : Int32)), .val (.ref b101), .unset, .unset] [(.int (2 : Int32)), (.int (0 : Int32)), (.ref b101), (.int (0 : Int32)), (.ref c0)]))) (fun _ k => XS.iloadN X101.here hx rfl (hb hby d_jdk_52_method_16_code_8) rfl k) ?_
  obtain ⟨_, _, ⟨T104, L104, k104, n104⟩, -, X104, ⟨Lc104, hQ104, l104, y104, z104⟩, st104⟩ := Jvm.LawKit.callS X101 hx (y := (⟨"java/lang/StringUTF16", "compress", "([CI[BII)I"⟩ : MethodName)) hown (mvT hZ (hw _ (List.mem_of_getElem? (i := 20) rfl))) (mvT hZ (hw _ (List.mem_of_getElem? (i := 21) rfl))) (mvT hZ (hw _ (List.mem_of_getElem? (i := 17) rfl))) (mvT hZ (hw _ (List.mem_of_getElem? (i := 22) rfl))) (by decide) (backOf (W := 0) (own_c2_2_rm l Z a0 hw [] c0 b101 k1 v0 v1 k101 h101 n0 Z101 f103 V101 gn101 ne102 hv0 hv1) hZ (hw _ (List.mem_of_getElem? (i := 22) rfl)) (hw _ (List.mem_of_getElem? (i := 17) rfl)) (by decide) (by decide)) (g := (mkF m 9 #[.val (.ref c0), .val (.int (0 : Int32)), .val (.int (2 : Int32)), .val (.ref b101), .unset, .unset] [(.int (2 : Int32)), (.int (0 : Int32)), (.ref b101), (.int (0 : Int32)), (.ref c0)])) rfl (by rw [hml]; rfl) (argsL := [(.ref c0), (.int (0 : Int32)), (.ref b101), (.int (0 : Int32)), (.int (2 : Int32))]) (rest := []) (lenOf pd__ACIABII_I rfl) rfl (by show 2 * 0 + _ ≤ _; exact Nat.le_of_eq rfl) (hb hby d_jdk_52_method_16_code_9) (fun _ _ => ⟨rfl, e101, (by decide : 1 + 0 ≤ _), (by decide : 2 + 0 ≤ _)⟩)
  dsimp only [Pt.U, Pt.locs, Pt.cells, Pt.slots] at X104 l104 y104 z104 st104 hQ104
  subst l104 y104 z104
  obtain ⟨rfl, N104q, K104q, p104_0⟩ := hQ104
  have N104 := Fr.app N0 N104q
  have f105 := f103.keep K104q (nm1 ne102)
  have K104 : Keep h0 T104.heap [] := Keep.trans K101 K104q (fun y q => by cases List.mem_singleton.mp q; exact (Or.inr sz101))
  have Z104 : n0 ≤ T104.heap.size := Nat.le_trans Z101 K104q.1
  refine Goes.step (B := (T104.setTop (mkF m 12 #[.val (.ref c0), .val (.int (0 : Int32)), .val (.int (2 : Int32)), .val (.ref b101), .unset, .unset] [(.int (2 : Int32))]))) (fun _ k => st104 _ k) ?_
  refine Goes.step (B := (T104.setTop (mkF m 14 #[.val (.ref c0), .val (.int (0 : Int32)), .val (.int (2 : Int32)), .val (.ref b101), .val (.int (2 : Int32)), .unset] []))) (fun _ k => XS.istore X104.here hx rfl (hb hby d_jdk_52_method_16_code_12) rfl (l' := #[.val (.ref c0), .val (.int (0 : Int32)), .val (.int (2 : Int32)), .val (.ref b101), .val (.int (2 : Int32)), .unset]) rfl k) ?_
  refine Goes.step (B := (T104.setTop (mkF m 16 #[.val (.ref c0), .val (.int (0 : Int32)), .val (.int (2 : Int32)), .val (.ref b101), .val (.int (2 : Int32)), .unset] [(.int (2 : Int32))]))) (fun _ k => XS.iload X104.here hx rfl (hb hby d_jdk_52_method_16_code_14) rfl k) ?_
  refine Goes.step (B := (T104.setTop (mkF m 17 #[.val (.ref c0), .val (.int (0 : Int32)), .val (.int (2 : Int32)), .val (.ref b101), .val (.int (2 : Int32)), .unset] [(.int (2 : Int32)), (.int (2 : Int32))]))) (fun _ k => XS.iloadN X104.here hx rfl (hb hby d_jdk_52_method_16_code_16) rfl k) ?_
  have hc106 : (2 : Int32) = (2 : Int32) := by decide
  refine Goes.step (B := (T104.setTop (mkF m 57 #[.val (.ref c0), .val (.int (0 : Int32)), .val (.int (2 : Int32)), .val (.ref b101), .val (.int (2 : Int32)), .unset] []))) (fun _ k => XS.icmpYes X104.here hx rfl (pc0 := 17) (pc' := 57) rfl (hb hby d_jdk_52_method_16_code_17) rfl (teq hc106).1 (by decide) (by decide) k) ?_
  refine Goes.step (B := (T104.setTop (mkF m 58 #[.val (.ref c0), .val (.int (0 : Int32)), .val (.int (2 : Int32)), .val (.ref b101), .val (.int (2 : Int32)), .unset] [(.ref b101)]))) (fun _ k => XS.aloadN X104.here hx rfl (hb hby d_jdk_52_method_16_code_57) rfl rfl k) ?_
  refine Goes.retR X104 hx hlk hrt rfl rfl rfl (hb hby d_jdk_52_method_16_code_58) ?_ (by decide) (by decide)
  exact ⟨b101, k101, rfl, N104, K104, gn101, sz101, p104_0⟩
theorem d_jdk_52_method_15_code_0 : decode jdk_52_method_15_code 0 = .ok (.iload_n 1, 1) := by decide +kernel
theorem d_jdk_52_method_15_code_1 : decode jdk_52_method_15_code 1 = .ok (.aload_n 0, 1) := by decide +kernel
theorem d_jdk_52_method_15_code_2 : decode jdk_52_method_15_code 2 = .ok (.arraylength, 1) := by decide +kernel
theorem d_jdk_52_method_15_code_3 : decode jdk_52_method_15_code 3 = .ok (.isub, 1) := by decide +kernel
theorem d_jdk_52_method_15_code_4 : decode jdk_52_method_15_code 4 = .ok (.bipush 31, 2) := by decide +kernel
theorem d_jdk_52_method_15_code_6 : decode jdk_52_method_15_code 6 = .ok (.iushr, 1) := by decide +kernel
theorem d_jdk_52_method_15_code_7 : decode jdk_52_method_15_code 7 = .ok (.i2b, 1) := by decide +kernel
theorem d_jdk_52_method_15_code_8 : decode jdk_52_method_15_code 8 = .ok (.ireturn, 1) := by decide +kernel
def own_cf_2_fn  : Int32 := (nar .byte (((0 : Int32).toUInt32 >>> ((31 : Int32) &&& 31).toUInt32).toInt32).toInt8.toInt32)
def own_cf_2_Q (Z : State) (d0 : Addr) (k2 : ClassId) (l2 : List Value) (h0 : Heap) (n0 : Nat) (v : Option Value) (h : Heap) (L : List Loc) : Prop := v = some (.int (own_cf_2_fn)) ∧ Fr n0 L ∧ h = h0
theorem own_cf_2_ef (m : MethodId) (d0 : Addr) : entryFrame m #[(.ref d0), (.int (2 : Int32))] 2 = mkF m 0 #[.val (.ref d0), .val (.int (2 : Int32))] [] := by first | (simp [entryFrame, mkF, argsToLocals, Value.category]; done) | rfl
set_option maxRecDepth 65536 in
set_option maxHeartbeats 40000000 in
theorem own_cf_2_rm (l : Launch) (Z : State) (a0 : Array Value) (hw : ∀ d ∈ tables_1, d.before a0 Z = true) (ws : List Jvm.Cond) (d0 : Addr) (k2 : ClassId) (l2 : List Value) (h0 : Heap) (n0 : Nat) (Z0 : n0 ≤ h0.size) (pr0 : Arv Z h0 d0 k2 .byte (2 : Int32) l2 (.int (0 : Int32))) :
    MetFree l (⟨"java/lang/StringUTF16", "coderFromArrayLen", "([BI)B"⟩ : MethodName) (head1 (Jvm.Cond.code (⟨"java/lang/StringUTF16", "coderFromArrayLen", "([BI)B"⟩ : MethodName) jdk_52_method_15_code 2 (some .byte) :: ws) ({ frames := 0, cells := 0, slots := 0, locals := 0 } : Room)) (fun a U => a = #[(.ref d0), (.int (2 : Int32))] ∧ Z.Warmed39 U.vm ∧ U.heap = h0) (fun _ _ _ _ _ => True) (fun _ U o U' => ∃ v L, o = .returned v ∧ own_cf_2_Q Z d0 k2 l2 h0 n0 v U'.heap L ∧ FrameEnd U o U' L ({ frames := 0, cells := 0, slots := 0, locals := 0 } : Room).cells ({ frames := 0, cells := 0, slots := 0, locals := 0 } : Room).slots) := by
  refine MetFree.of_bodySF (plainFor_of_name pn_StringUTF16) hisR ?_
  intro p e s m args below meth c s₁ Bd hml0 hP hK
  obtain ⟨rfl, hZ, hh⟩ := hP
  have hx := Bd.exec
  have hby := Bd.bytes
  have hml : c.maxLocals = 2 := hml0
  have hown : s.vm.findClass "java/lang/StringUTF16" = some m.cls := findClass_of_methodNamed Bd.named
  have hnm := (name_of_methodNamed Bd.named Bd.method).1
  have hlk : meth.locks = false := BodyLoose.notSynchronized Bd
  have hrt := Bd.returns
  have X0 : Stand p l e ({ frames := 0, cells := 0, slots := 0, locals := 0 } : Room) s m #[(.ref d0), (.int (2 : Int32))] below meth c s₁ [] 0 0 := Stand.of_body Bd
  have e0 : s₁.heap = h0 := by rw [← hh, Bd.state]; rfl
  have N0 := Fr.nil n0
  refine Goes.enter (kc := ({ frames := 0, cells := 0, slots := 0, locals := 0 } : Room).cells) (kn := ({ frames := 0, cells := 0, slots := 0, locals := 0 } : Room).slots) (Q := own_cf_2_Q Z d0 k2 l2 h0 n0) (own_cf_2_ef m d0) ?_
  refine Goes.step (B := (s₁.setTop (mkF m 1 #[.val (.ref d0), .val (.int (2 : Int32))] [(.int (2 : Int32))]))) (fun _ k => XS.iloadN X0.here hx rfl (hb hby d_jdk_52_method_15_code_0) rfl k) ?_
  refine Goes.step (B := (s₁.setTop (mkF m 2 #[.val (.ref d0), .val (.int (2 : Int32))] [(.ref d0), (.int (2 : Int32))]))) (fun _ k => XS.aloadN X0.here hx rfl (hb hby d_jdk_52_method_15_code_1) rfl rfl k) ?_
  obtain ⟨cl101, Ar101, q101, S101, M101, H101, G101⟩ := id pr0
  refine Goes.step (B := (s₁.setTop (mkF m 3 #[.val (.ref d0), .val (.int (2 : Int32))] [(.int (2 : Int32)), (.int (2 : Int32))]))) (fun _ k => X0.arraylength hx (by rw [e0]; exact Ar101.1) (State.isArrayOf_alike hZ.alike Ar101.2.1) (g := (mkF m 2 #[.val (.ref d0), .val (.int (2 : Int32))] [(.ref d0), (.int (2 : Int32))])) rfl rfl (hb hby d_jdk_52_method_15_code_2) _ (by rw [len_of S101 M101]; exact k)) ?_
  refine Goes.step (B := (s₁.setTop (mkF m 4 #[.val (.ref d0), .val (.int (2 : Int32))] [(.int (0 : Int32))]))) (fun _ k => XS.isub X0.here hx rfl (hb hby d_jdk_52_method_15_code_3) rfl k) ?_
  refine Goes.step (B := (s₁.setTop (mkF m 6 #[.val (.ref d0), .val (.int (2 : Int32))] [(.int (31 : Int32)), (.int (0 : Int32))]))) (fun _ k => XS.bipush X0.here hx rfl (hb hby d_jdk_52_method_15_code_4) k) ?_
  refine Goes.step (B := (s₁.setTop (mkF m 7 #[.val (.ref d0), .val (.int (2 : Int32))] [(.int ((0 : Int32).toUInt32 >>> ((31 : Int32) &&& 31).toUInt32).toInt32)]))) (fun _ k => XS.iushr X0.here hx rfl (hb hby d_jdk_52_method_15_code_6) rfl k) ?_
  refine Goes.step (B := (s₁.setTop (mkF m 8 #[.val (.ref d0), .val (.int (2 : Int32))] [(.int (((0 : Int32).toUInt32 >>> ((31 : Int32) &&& 31).toUInt32).toInt32).toInt8.toInt32)]))) (fun _ k => XS.i2b X0.here hx rfl (hb hby d_jdk_52_method_15_code_7) rfl k) ?_
  refine Goes.retN X0 hx hlk (t := .byte) hrt (by simp) (hb hby d_jdk_52_method_15_code_8) ?_ (by decide) (by decide)
  rw [e0]
  exact ⟨congrArg (fun z => some (Value.int z)) (show nar .byte (((0 : Int32).toUInt32 >>> ((31 : Int32) &&& 31).toUInt32).toInt32).toInt8.toInt32 = (own_cf_2_fn) from (show nar .byte (((0 : Int32).toUInt32 >>> ((31 : Int32) &&& 31).toUInt32).toInt32).toInt8.toInt32 = (nar .byte (((0 : Int32).toUInt32 >>> ((31 : Int32) &&& 31).toUInt32).toInt32).toInt8.toInt32) from rfl).trans (by simp only [own_cf_2_fn])), N0, rfl⟩
theorem d_jdk_42_method_149_code_27 : decode jdk_42_method_149_code 27 = .ok (.getstatic 38, 3) := by decide +kernel
theorem d_jdk_42_method_149_code_30 : decode jdk_42_method_149_code 30 = .ok (.ifCond .eq 28, 3) := by decide +kernel
theorem d_jdk_42_method_149_code_33 : decode jdk_42_method_149_code 33 = .ok (.aload_n 1, 1) := by decide +kernel
theorem d_jdk_42_method_149_code_34 : decode jdk_42_method_149_code 34 = .ok (.iload_n 2, 1) := by decide +kernel
theorem d_jdk_42_method_149_code_35 : decode jdk_42_method_149_code 35 = .ok (.iload_n 3, 1) := by decide +kernel
theorem d_jdk_42_method_149_code_36 : decode jdk_42_method_149_code 36 = .ok (.invokestatic 177, 3) := by decide +kernel
theorem pd__ACII_AB : parseMethodDescriptor "([CII)[B" = some ⟨[(.array .char), .int, .int], some (.array .byte)⟩ := by decide +kernel
theorem d_jdk_42_method_149_code_39 : decode jdk_42_method_149_code 39 = .ok (.astore 5, 2) := by decide +kernel
theorem d_jdk_42_method_149_code_41 : decode jdk_42_method_149_code 41 = .ok (.aload_n 0, 1) := by decide +kernel
theorem d_jdk_42_method_149_code_42 : decode jdk_42_method_149_code 42 = .ok (.aload 5, 2) := by decide +kernel
theorem d_jdk_42_method_149_code_44 : decode jdk_42_method_149_code 44 = .ok (.iload_n 3, 1) := by decide +kernel
theorem d_jdk_42_method_149_code_45 : decode jdk_42_method_149_code 45 = .ok (.invokestatic 47, 3) := by decide +kernel
theorem pd__ABI_B : parseMethodDescriptor "([BI)B" = some ⟨[(.array .byte), .int], some .byte⟩ := by decide +kernel
theorem d_jdk_42_method_149_code_48 : decode jdk_42_method_149_code 48 = .ok (.putfield 15, 3) := by decide +kernel
theorem d_jdk_42_method_149_code_51 : decode jdk_42_method_149_code 51 = .ok (.aload_n 0, 1) := by decide +kernel
theorem d_jdk_42_method_149_code_52 : decode jdk_42_method_149_code 52 = .ok (.aload 5, 2) := by decide +kernel
theorem d_jdk_42_method_149_code_54 : decode jdk_42_method_149_code 54 = .ok (.putfield 9, 3) := by decide +kernel
theorem d_jdk_42_method_149_code_57 : decode jdk_42_method_149_code 57 = .ok (.return_, 1) := by decide +kernel
def own_s4_2_Q (Z : State) (o0 : Addr) (c0 : Addr) (w0 : Int32) (k1 : ClassId) (v0 : Int32) (v1 : Int32) (h0 : Heap) (n0 : Nat) (v : Option Value) (h : Heap) (L : List Loc) : Prop := ∃ (b : Addr), ∃ (k2 : ClassId), (v = none) ∧ (Fr n0 L) ∧ (Keep h0 h [o0]) ∧ (n0 ≤ b) ∧ (h0.size ≤ b) ∧ (Exa Z h o0 "java/lang/String") ∧ (Fld Z h o0 "java/lang/String" "value" "[B" (.ref b)) ∧ (Fld Z h o0 "java/lang/String" "coder" "B" (.int (0 : Int32))) ∧ (Arv Z h b k2 .byte (2 : Int32) [(.int (nar .byte v0.toInt8.toInt32)), (.int (nar .byte v1.toInt8.toInt32))] (.int (0 : Int32)))
theorem own_s4_2_ef (m : MethodId) (o0 : Addr) (c0 : Addr) : entryFrame m #[(.ref o0), (.ref c0), (.int (0 : Int32)), (.int (2 : Int32)), .null] 6 = mkF m 0 #[.val (.ref o0), .val (.ref c0), .val (.int (0 : Int32)), .val (.int (2 : Int32)), .val .null, .unset] [] := by first | (simp [entryFrame, mkF, argsToLocals, Value.category]; done) | rfl
set_option maxRecDepth 65536 in
set_option maxHeartbeats 40000000 in
theorem own_s4_2_rm (l : Launch) (Z : State) (a0 : Array Value) (hw : ∀ d ∈ tables_1, d.before a0 Z = true) (ws : List Jvm.Cond) (o0 : Addr) (c0 : Addr) (w0 : Int32) (k1 : ClassId) (v0 : Int32) (v1 : Int32) (h0 : Heap) (n0 : Nat) (Z0 : n0 ≤ h0.size) (pr0 : Exa Z h0 o0 "java/lang/String") (pr1 : Fld Z h0 o0 "java/lang/String" "value" "[B" .null) (pr2 : Fld Z h0 o0 "java/lang/String" "coder" "B" (.int (0 : Int32))) (pr3 : Sta Z h0 "java/lang/String" "COMPACT_STRINGS" "Z" (.int w0)) (pr4 : Arv Z h0 c0 k1 .char (2 : Int32) [(.int v0), (.int v1)] (.int (0 : Int32))) (pr5 : n0 ≤ o0) (pr6 : c0 ≠ o0) (hw0 : ¬ (w0 = (0 : Int32))) (hv0 : ¬ (255 : Int32) < v0) (hv1 : ¬ (255 : Int32) < v1) :
    MetFree l (⟨"java/lang/String", "<init>", "([CIILjava/lang/Void;)V"⟩ : MethodName) (head1 (Jvm.Cond.code (⟨"java/lang/String", "<init>", "([CIILjava/lang/Void;)V"⟩ : MethodName) jdk_42_method_149_code 6 none :: ws) ({ frames := 2, cells := 1, slots := 2, locals := 35 } : Room)) (fun a U => a = #[(.ref o0), (.ref c0), (.int (0 : Int32)), (.int (2 : Int32)), .null] ∧ Z.Warmed39 U.vm ∧ U.heap = h0) (fun _ _ _ _ _ => True) (fun _ U o U' => ∃ v L, o = .returned v ∧ own_s4_2_Q Z o0 c0 w0 k1 v0 v1 h0 n0 v U'.heap L ∧ FrameEnd U o U' L ({ frames := 2, cells := 1, slots := 2, locals := 35 } : Room).cells ({ frames := 2, cells := 1, slots := 2, locals := 35 } : Room).slots) := by
  refine MetFree.of_bodySF (plainFor_of_name pn_String) hisR ?_
  intro p e s m args below meth c s₁ Bd hml0 hP hK
  obtain ⟨rfl, hZ, hh⟩ := hP
  have hx := Bd.exec
  have hby := Bd.bytes
  have hml : c.maxLocals = 6 := hml0
  have hown : s.vm.findClass "java/lang/String" = some m.cls := findClass_of_methodNamed Bd.named
  have hnm := (name_of_methodNamed Bd.named Bd.method).1
  have hlk : meth.locks = false := BodyLoose.notSynchronized Bd
  have hrt := Bd.returns
  have X0 : Stand p l e ({ frames := 2, cells := 1, slots := 2, locals := 35 } : Room) s m #[(.ref o0), (.ref c0), (.int (0 : Int32)), (.int (2 : Int32)), .null] below meth c s₁ [] 0 0 := Stand.of_body Bd
  have e0 : s₁.heap = h0 := by rw [← hh, Bd.state]; rfl
  have N0 := Fr.nil n0
  refine Goes.enter (kc := ({ frames := 2, cells := 1, slots := 2, locals := 35 } : Room).cells) (kn := ({ frames := 2, cells := 1, slots := 2, locals := 35 } : Room).slots) (Q := own_s4_2_Q Z o0 c0 w0 k1 v0 v1 h0 n0) (own_s4_2_ef m o0 c0) ?_
  refine Goes.step (B := (s₁.setTop (mkF m 1 #[.val (.ref o0), .val (.ref c0), .val (.int (0 : Int32)), .val (.int (2 : Int32)), .val .null, .unset] [(.ref o0)]))) (fun _ k => XS.aloadN X0.here hx rfl (hb hby d_jdk_42_method_149_code_0) rfl rfl k) ?_
  obtain ⟨T101, X101, e101, st101⟩ := initO X0 hx hZ hown (hw _ (List.mem_of_getElem? (i := 11) rfl)) (hw _ (List.mem_of_getElem? (i := 12) rfl)) (hw _ (List.mem_of_getElem? (i := 13) rfl)) e0 (g := (mkF m 1 #[.val (.ref o0), .val (.ref c0), .val (.int (0 : Int32)), .val (.int (2 : Int32)), .val .null, .unset] [(.ref o0)])) rfl (by rw [hml]; rfl) rfl (hb hby d_jdk_42_method_149_code_1) (by decide) (W := 0) (by show 2 * 0 + _ ≤ _; exact Nat.le_of_eq rfl) (by decide)
  refine Goes.step (B := (T101.setTop (mkF m 4 #[.val (.ref o0), .val (.ref c0), .val (.int (0 : Int32)), .val (.int (2 : Int32)), .val .null, .unset] []))) (fun _ k => st101 _ k) ?_
  refine Goes.step (B := (T101.setTop (mkF m 5 #[.val (.ref o0), .val (.ref c0), .val (.int (0 : Int32)), .val (.int (2 : Int32)), .val .null, .unset] [(.int (2 : Int32))]))) (fun _ k => XS.iloadN X101.here hx rfl (hb hby d_jdk_42_method_149_code_4) rfl k) ?_
  have hc102 : ¬ ((2 : Int32) = (0 : Int32)) := by decide
  refine Goes.step (B := (T101.setTop (mkF m 27 #[.val (.ref o0), .val (.ref c0), .val (.int (0 : Int32)), .val (.int (2 : Int32)), .val .null, .unset] []))) (fun _ k => XS.ifYes X101.here hx rfl (pc0 := 5) (pc' := 27) rfl (hb hby d_jdk_42_method_149_code_5) rfl ((if0 _ _).trans (feq hc102).2) (by decide) (by decide) k) ?_
  obtain ⟨T103, X103, e103, st103⟩ := getS2 X101 hx hZ hown (host := "") (Or.inl (hw _ (List.mem_of_getElem? (i := 14) rfl))) Via.refl e101 pr3 (g := (mkF m 27 #[.val (.ref o0), .val (.ref c0), .val (.int (0 : Int32)), .val (.int (2 : Int32)), .val .null, .unset] [])) rfl (hb hby d_jdk_42_method_149_code_27)
  refine Goes.step (B := (T103.setTop (mkF m 30 #[.val (.ref o0), .val (.ref c0), .val (.int (0 : Int32)), .val (.int (2 : Int32)), .val .null, .unset] [(.int w0)]))) (fun _ k => st103 _ k) ?_
  have hc104 : ¬ (w0 = (0 : Int32)) := hw0
  refine Goes.step (B := (T103.setTop (mkF m 33 #[.val (.ref o0), .val (.ref c0), .val (.int (0 : Int32)), .val (.int (2 : Int32)), .val .null, .unset] []))) (fun _ k => XS.ifNo X103.here hx rfl (hb hby d_jdk_42_method_149_code_30) rfl ((if0 _ _).trans (feq hc104).1) k) ?_
  refine Goes.step (B := (T103.setTop (mkF m 34 #[.val (.ref o0), .val (.ref c0), .val (.int (0 : Int32)), .val (.int (2 : Int32)), .val .null, .unset] [(.ref c0)]))) (fun _ k => XS.aloadN X103.here hx rfl (hb hby d_jdk_42_method_149_code_33) rfl rfl k) ?_
  refine Goes.step (B := (T103.setTop (mkF m 35 #[.val (.ref o0), .val (.ref c0), .val (.int (0 : Int32)), .val (.int (2 : Int32)), .val .null, .unset] [(.int (0 : Int32)), (.ref c0)]))) (fun _ k => XS.iloadN X103.here hx rfl (hb hby d_jdk_42_method_149_code_34) rfl k) ?_
  refine Goes.step (B := (T103.setTop (mkF m 36 #[.val (.ref o0), .val (.ref c0), .val (.int (0 : Int32)), .val (.int (2 : Int32)), .val .null, .unset] [(.int (2 : Int32)), (.int (0 : Int32)), (.ref c0)]))) (fun _ k => XS.iloadN X103.here hx rfl (hb hby d_jdk_42_method_149_code_35) rfl k) ?_
  obtain ⟨_, _, ⟨T105, L105, k105, n105⟩, -, X105, ⟨Lc105, hQ105, l105, y105, z105⟩, st105⟩ := Jvm.LawKit.callS X103 hx (y := (⟨"java/lang/StringUTF16", "compress", "([CII)[B"⟩ : MethodName)) hown (mvT hZ (hw _ (List.mem_of_getElem? (i := 15) rfl))) (mvT hZ (hw _ (List.mem_of_getElem? (i := 16) rfl))) (mvT hZ (hw _ (List.mem_of_getElem? (i := 17) rfl))) (mvT hZ (hw _ (List.mem_of_getElem? (i := 18) rfl))) (by decide) (backOf (W := 0) (own_c1_2_rm l Z a0 hw [] c0 k1 v0 v1 h0 n0 Z0 pr4 hv0 hv1) hZ (hw _ (List.mem_of_getElem? (i := 18) rfl)) (hw _ (List.mem_of_getElem? (i := 17) rfl)) (by decide) (by decide)) (g := (mkF m 36 #[.val (.ref o0), .val (.ref c0), .val (.int (0 : Int32)), .val (.int (2 : Int32)), .val .null, .unset] [(.int (2 : Int32)), (.int (0 : Int32)), (.ref c0)])) rfl (by rw [hml]; rfl) (argsL := [(.ref c0), (.int (0 : Int32)), (.int (2 : Int32))]) (rest := []) (lenOf pd__ACII_AB rfl) rfl (by show 2 * 0 + _ ≤ _; exact Nat.le_of_eq rfl) (hb hby d_jdk_42_method_149_code_36) (fun _ _ => ⟨rfl, e103, (by decide : 0 + 1 ≤ _), (by decide : 0 + 2 ≤ _)⟩)
  dsimp only [Pt.U, Pt.locs, Pt.cells, Pt.slots] at X105 l105 y105 z105 st105 hQ105
  subst l105 y105 z105
  obtain ⟨b_105, k2_105, rfl, N105q, K105q, gn105_b, sz105_b, p105_0⟩ := hQ105
  have N105 := Fr.app N0 N105q
  have ne106 : o0 ≠ b_105 := Nat.ne_of_lt (Nat.lt_of_lt_of_le pr0.lt sz105_b)
  have ne107 : c0 ≠ b_105 := Nat.ne_of_lt (Nat.lt_of_lt_of_le pr4.lt sz105_b)
  have f108 := pr0.keep K105q
  have f109 := pr1.keep K105q nm0
  have f110 := pr2.keep K105q nm0
  have f111 := pr3.keepN K105q (fun _ q => nomatch q)
  have f112 := pr4.keep K105q nm0
  have K105 : Keep h0 T105.heap [o0] := Keep.trans (Keep.refl h0 [o0]) K105q (fun _ q => nomatch q)
  have Z105 : n0 ≤ T105.heap.size := Nat.le_trans Z0 K105q.1
  have szz105_b : h0.size ≤ b_105 := Nat.le_trans (Keep.refl h0 [o0]).1 sz105_b
  refine Goes.step (B := (T105.setTop (mkF m 39 #[.val (.ref o0), .val (.ref c0), .val (.int (0 : Int32)), .val (.int (2 : Int32)), .val .null, .unset] [(.ref b_105)]))) (fun _ k => st105 _ k) ?_
  refine Goes.step (B := (T105.setTop (mkF m 41 #[.val (.ref o0), .val (.ref c0), .val (.int (0 : Int32)), .val (.int (2 : Int32)), .val .null, .val (.ref b_105)] []))) (fun _ k => XS.astore X105.here hx rfl (hb hby d_jdk_42_method_149_code_39) rfl rfl (l' := #[.val (.ref o0), .val (.ref c0), .val (.int (0 : Int32)), .val (.int (2 : Int32)), .val .null, .val (.ref b_105)]) rfl k) ?_
  refine Goes.step (B := (T105.setTop (mkF m 42 #[.val (.ref o0), .val (.ref c0), .val (.int (0 : Int32)), .val (.int (2 : Int32)), .val .null, .val (.ref b_105)] [(.ref o0)]))) (fun _ k => XS.aloadN X105.here hx rfl (hb hby d_jdk_42_method_149_code_41) rfl rfl k) ?_
  refine Goes.step (B := (T105.setTop (mkF m 44 #[.val (.ref o0), .val (.ref c0), .val (.int (0 : Int32)), .val (.int (2 : Int32)), .val .null, .val (.ref b_105)] [(.ref b_105), (.ref o0)]))) (fun _ k => XS.aload X105.here hx rfl (hb hby d_jdk_42_method_149_code_42) rfl rfl k) ?_
  refine Goes.step (B := (T105.setTop (mkF m 45 #[.val (.ref o0), .val (.ref c0), .val (.int (0 : Int32)), .val (.int (2 : Int32)), .val .null, .val (.ref b_105)] [(.int (2 : Int32)), (.ref b_105), (.ref o0)]))) (fun _ k => XS.iloadN X105.here hx rfl (hb hby d_jdk_42_method_149_code_44) rfl k) ?_
  obtain ⟨_, _, ⟨T113, L113, k113, n113⟩, -, X113, ⟨Lc113, hQ113, l113, y113, z113⟩, st113⟩ := Jvm.LawKit.callS X105 hx (y := (⟨"java/lang/StringUTF16", "coderFromArrayLen", "([BI)B"⟩ : MethodName)) hown (mvT hZ (hw _ (List.mem_of_getElem? (i := 23) rfl))) (mvT hZ (hw _ (List.mem_of_getElem? (i := 24) rfl))) (mvT hZ (hw _ (List.mem_of_getElem? (i := 17) rfl))) (mvT hZ (hw _ (List.mem_of_getElem? (i := 25) rfl))) (by decide) (backOf (W := 1) (own_cf_2_rm l Z a0 hw [] b_105 k2_105 ([(.int (nar .byte v0.toInt8.toInt32)), (.int (nar .byte v1.toInt8.toInt32))]) T105.heap n0 Z105 p105_0) hZ (hw _ (List.mem_of_getElem? (i := 25) rfl)) (hw _ (List.mem_of_getElem? (i := 17) rfl)) (by decide) (by decide)) (g := (mkF m 45 #[.val (.ref o0), .val (.ref c0), .val (.int (0 : Int32)), .val (.int (2 : Int32)), .val .null, .val (.ref b_105)] [(.int (2 : Int32)), (.ref b_105), (.ref o0)])) rfl (by rw [hml]; rfl) (argsL := [(.ref b_105), (.int (2 : Int32))]) (rest := [(.ref o0)]) (lenOf pd__ABI_B rfl) rfl (by show 2 * 0 + _ ≤ _; exact Nat.le_of_eq rfl) (hb hby d_jdk_42_method_149_code_45) (fun _ _ => ⟨rfl, rfl, (by decide : 1 + 0 ≤ _), (by decide : 2 + 0 ≤ _)⟩)
  dsimp only [Pt.U, Pt.locs, Pt.cells, Pt.slots] at X113 l113 y113 z113 st113 hQ113
  subst l113 y113 z113
  obtain ⟨rfl, N113q, e113⟩ := hQ113
  have N113 := Fr.app N105 N113q
  refine Goes.step (B := (T113.setTop (mkF m 48 #[.val (.ref o0), .val (.ref c0), .val (.int (0 : Int32)), .val (.int (2 : Int32)), .val .null, .val (.ref b_105)] [(.int (own_cf_2_fn)), (.ref o0)]))) (fun _ k => st113 _ k) ?_
  obtain ⟨T114, h114, X114, e114, W114, st114⟩ := putFN X113 hx hZ hown (hw _ (List.mem_of_getElem? (i := 26) rfl)) Via.refl e113 f110 f108 (Or.inr ⟨(hw _ (List.mem_of_getElem? (i := 27) rfl)), rfl, hnm⟩) (hw _ (List.mem_of_getElem? (i := 2) rfl)) (ty := .byte) (v' := (.int (nar .byte (own_cf_2_fn)))) (by decide) rfl (fits_nar_byte _) (g := (mkF m 48 #[.val (.ref o0), .val (.ref c0), .val (.int (0 : Int32)), .val (.int (2 : Int32)), .val .null, .val (.ref b_105)] [(.int (own_cf_2_fn)), (.ref o0)])) rfl rfl (hb hby d_jdk_42_method_149_code_48)
  have f115 := f108.wr W114
  have f116 := f109.other W114 (Or.inr (slot_ne (Or.inr (hw _ (List.mem_of_getElem? (i := 29) rfl))) (Or.inr (hw _ (List.mem_of_getElem? (i := 27) rfl))) (by decide) (t := (.array .byte)) (t' := .byte) (by decide) (by decide)))
  have f117 := f111.wr W114
  have f118 := f112.other W114 pr6
  have f119 := p105_0.other W114 (Ne.symm ne106)
  have N114 := Fr.snoc X114 N113 pr5
  have K114 : Keep h0 h114 [o0] := K105.wr W114 (Or.inl (List.mem_of_getElem? (i := 0) rfl))
  have Z114 : n0 ≤ h114.size := Nat.le_trans Z105 (Nat.le_of_eq W114.size.symm)
  have f120 : Fld Z h114 o0 "java/lang/String" "coder" "B" (.int (nar .byte (own_cf_2_fn))) := f110.same W114
  refine Goes.step (B := (T114.setTop (mkF m 51 #[.val (.ref o0), .val (.ref c0), .val (.int (0 : Int32)), .val (.int (2 : Int32)), .val .null, .val (.ref b_105)] []))) (fun _ k => st114 _ k) ?_
  refine Goes.step (B := (T114.setTop (mkF m 52 #[.val (.ref o0), .val (.ref c0), .val (.int (0 : Int32)), .val (.int (2 : Int32)), .val .null, .val (.ref b_105)] [(.ref o0)]))) (fun _ k => XS.aloadN X114.here hx rfl (hb hby d_jdk_42_method_149_code_51) rfl rfl k) ?_
  refine Goes.step (B := (T114.setTop (mkF m 54 #[.val (.ref o0), .val (.ref c0), .val (.int (0 : Int32)), .val (.int (2 : Int32)), .val .null, .val (.ref b_105)] [(.ref b_105), (.ref o0)]))) (fun _ k => XS.aload X114.here hx rfl (hb hby d_jdk_42_method_149_code_52) rfl rfl k) ?_
  obtain ⟨T121, h121, X121, e121, W121, st121⟩ := putF X114 hx hZ hown (host := "") (Or.inl (hw _ (List.mem_of_getElem? (i := 28) rfl))) Via.refl e114 f116 f115 (Or.inr ⟨(hw _ (List.mem_of_getElem? (i := 29) rfl)), rfl, hnm⟩) (hw _ (List.mem_of_getElem? (i := 2) rfl)) (ty := (.array .byte)) (by decide) rfl rfl (g := (mkF m 54 #[.val (.ref o0), .val (.ref c0), .val (.int (0 : Int32)), .val (.int (2 : Int32)), .val .null, .val (.ref b_105)] [(.ref b_105), (.ref o0)])) rfl rfl (hb hby d_jdk_42_method_149_code_54)
  have f122 := f115.wr W121
  have f123 := f120.other W121 (Or.inr (slot_ne (Or.inr (hw _ (List.mem_of_getElem? (i := 27) rfl))) (Or.inr (hw _ (List.mem_of_getElem? (i := 29) rfl))) (by decide) (t := .byte) (t' := (.array .byte)) (by decide) (by decide)))
  have f124 := f117.wr W121
  have f125 := f118.other W121 pr6
  have f126 := f119.other W121 (Ne.symm ne106)
  have N121 := Fr.snoc X121 N114 pr5
  have K121 : Keep h0 h121 [o0] := K114.wr W121 (Or.inl (List.mem_of_getElem? (i := 0) rfl))
  have Z121 : n0 ≤ h121.size := Nat.le_trans Z114 (Nat.le_of_eq W121.size.symm)
  have f127 : Fld Z h121 o0 "java/lang/String" "value" "[B" (.ref b_105) := f116.same W121
  refine Goes.step (B := (T121.setTop (mkF m 57 #[.val (.ref o0), .val (.ref c0), .val (.int (0 : Int32)), .val (.int (2 : Int32)), .val .null, .val (.ref b_105)] []))) (fun _ k => st121 _ k) ?_
  refine Goes.retV X121 hx hlk hrt (hb hby d_jdk_42_method_149_code_57) ?_ (by decide) (by decide)
  rw [e121]
  exact ⟨b_105, k2_105, rfl, N121, K121, gn105_b, szz105_b, f122, f127, f123, f126⟩
def own_s1_2_Q (Z : State) (o0 : Addr) (c0 : Addr) (w0 : Int32) (k1 : ClassId) (v0 : Int32) (v1 : Int32) (h0 : Heap) (n0 : Nat) (v : Option Value) (h : Heap) (L : List Loc) : Prop := ∃ (b : Addr), ∃ (k2 : ClassId), (v = none) ∧ (Fr n0 L) ∧ (Keep h0 h [o0]) ∧ (n0 ≤ b) ∧ (h0.size ≤ b) ∧ (Exa Z h o0 "java/lang/String") ∧ (Fld Z h o0 "java/lang/String" "value" "[B" (.ref b)) ∧ (Fld Z h o0 "java/lang/String" "coder" "B" (.int (0 : Int32))) ∧ (Arv Z h b k2 .byte (2 : Int32) [(.int (nar .byte v0.toInt8.toInt32)), (.int (nar .byte v1.toInt8.toInt32))] (.int (0 : Int32)))
theorem own_s1_2_ef (m : MethodId) (o0 : Addr) (c0 : Addr) : entryFrame m #[(.ref o0), (.ref c0)] 2 = mkF m 0 #[.val (.ref o0), .val (.ref c0)] [] := by first | (simp [entryFrame, mkF, argsToLocals, Value.category]; done) | rfl
set_option maxRecDepth 65536 in
set_option maxHeartbeats 40000000 in
theorem own_s1_2_rm (l : Launch) (Z : State) (a0 : Array Value) (hw : ∀ d ∈ tables_1, d.before a0 Z = true) (ws : List Jvm.Cond) (o0 : Addr) (c0 : Addr) (w0 : Int32) (k1 : ClassId) (v0 : Int32) (v1 : Int32) (h0 : Heap) (n0 : Nat) (Z0 : n0 ≤ h0.size) (pr0 : Exa Z h0 o0 "java/lang/String") (pr1 : Fld Z h0 o0 "java/lang/String" "value" "[B" .null) (pr2 : Fld Z h0 o0 "java/lang/String" "coder" "B" (.int (0 : Int32))) (pr3 : Sta Z h0 "java/lang/String" "COMPACT_STRINGS" "Z" (.int w0)) (pr4 : Arv Z h0 c0 k1 .char (2 : Int32) [(.int v0), (.int v1)] (.int (0 : Int32))) (pr5 : n0 ≤ o0) (pr6 : c0 ≠ o0) (hw0 : ¬ (w0 = (0 : Int32))) (hv0 : ¬ (255 : Int32) < v0) (hv1 : ¬ (255 : Int32) < v1) :
    MetFree l (⟨"java/lang/String", "<init>", "([C)V"⟩ : MethodName) (head1 (Jvm.Cond.code (⟨"java/lang/String", "<init>", "([C)V"⟩ : MethodName) jdk_42_method_3_code 2 none :: ws) ({ frames := 3, cells := 1, slots := 2, locals := 52 } : Room)) (fun a U => a = #[(.ref o0), (.ref c0)] ∧ Z.Warmed39 U.vm ∧ U.heap = h0) (fun _ _ _ _ _ => True) (fun _ U o U' => ∃ v L, o = .returned v ∧ own_s1_2_Q Z o0 c0 w0 k1 v0 v1 h0 n0 v U'.heap L ∧ FrameEnd U o U' L ({ frames := 3, cells := 1, slots := 2, locals := 52 } : Room).cells ({ frames := 3, cells := 1, slots := 2, locals := 52 } : Room).slots) := by
  refine MetFree.of_bodySF (plainFor_of_name pn_String) hisR ?_
  intro p e s m args below meth c s₁ Bd hml0 hP hK
  obtain ⟨rfl, hZ, hh⟩ := hP
  have hx := Bd.exec
  have hby := Bd.bytes
  have hml : c.maxLocals = 2 := hml0
  have hown : s.vm.findClass "java/lang/String" = some m.cls := findClass_of_methodNamed Bd.named
  have hnm := (name_of_methodNamed Bd.named Bd.method).1
  have hlk : meth.locks = false := BodyLoose.notSynchronized Bd
  have hrt := Bd.returns
  have X0 : Stand p l e ({ frames := 3, cells := 1, slots := 2, locals := 52 } : Room) s m #[(.ref o0), (.ref c0)] below meth c s₁ [] 0 0 := Stand.of_body Bd
  have e0 : s₁.heap = h0 := by rw [← hh, Bd.state]; rfl
  have N0 := Fr.nil n0
  refine Goes.enter (kc := ({ frames := 3, cells := 1, slots := 2, locals := 52 } : Room).cells) (kn := ({ frames := 3, cells := 1, slots := 2, locals := 52 } : Room).slots) (Q := own_s1_2_Q Z o0 c0 w0 k1 v0 v1 h0 n0) (own_s1_2_ef m o0 c0) ?_
  refine Goes.step (B := (s₁.setTop (mkF m 1 #[.val (.ref o0), .val (.ref c0)] [(.ref o0)]))) (fun _ k => XS.aloadN X0.here hx rfl (hb hby d_jdk_42_method_3_code_0) rfl rfl k) ?_
  refine Goes.step (B := (s₁.setTop (mkF m 2 #[.val (.ref o0), .val (.ref c0)] [(.ref c0), (.ref o0)]))) (fun _ k => XS.aloadN X0.here hx rfl (hb hby d_jdk_42_method_3_code_1) rfl rfl k) ?_
  refine Goes.step (B := (s₁.setTop (mkF m 3 #[.val (.ref o0), .val (.ref c0)] [(.int (0 : Int32)), (.ref c0), (.ref o0)]))) (fun _ k => XS.iconst X0.here hx rfl (hb hby d_jdk_42_method_3_code_2) k) ?_
  refine Goes.step (B := (s₁.setTop (mkF m 4 #[.val (.ref o0), .val (.ref c0)] [(.ref c0), (.int (0 : Int32)), (.ref c0), (.ref o0)]))) (fun _ k => XS.aloadN X0.here hx rfl (hb hby d_jdk_42_method_3_code_3) rfl rfl k) ?_
  obtain ⟨cl101, Ar101, q101, S101, M101, H101, G101⟩ := id pr4
  refine Goes.step (B := (s₁.setTop (mkF m 5 #[.val (.ref o0), .val (.ref c0)] [(.int (2 : Int32)), (.int (0 : Int32)), (.ref c0), (.ref o0)]))) (fun _ k => X0.arraylength hx (by rw [e0]; exact Ar101.1) (State.isArrayOf_alike hZ.alike Ar101.2.1) (g := (mkF m 4 #[.val (.ref o0), .val (.ref c0)] [(.ref c0), (.int (0 : Int32)), (.ref c0), (.ref o0)])) rfl rfl (hb hby d_jdk_42_method_3_code_4) _ (by rw [len_of S101 M101]; exact k)) ?_
  refine Goes.step (B := (s₁.setTop (mkF m 6 #[.val (.ref o0), .val (.ref c0)] [.null, (.int (2 : Int32)), (.int (0 : Int32)), (.ref c0), (.ref o0)]))) (fun _ k => XS.aconstNull X0.here hx rfl (hb hby d_jdk_42_method_3_code_5) k) ?_
  obtain ⟨_, _, ⟨T102, L102, k102, n102⟩, -, X102, ⟨Lc102, hQ102, l102, y102, z102⟩, st102⟩ := X0.specialBack hx (y := (⟨"java/lang/String", "<init>", "([CIILjava/lang/Void;)V"⟩ : MethodName)) rfl hown (mvT hZ (hw _ (List.mem_of_getElem? (i := 7) rfl))) (mvT hZ (hw _ (List.mem_of_getElem? (i := 8) rfl))) (mvT hZ (hw _ (List.mem_of_getElem? (i := 10) rfl))) (by decide) (backOf (W := 0) (own_s4_2_rm l Z a0 hw [] o0 c0 w0 k1 v0 v1 h0 n0 Z0 pr0 pr1 pr2 pr3 pr4 pr5 pr6 hw0 hv0 hv1) hZ (hw _ (List.mem_of_getElem? (i := 10) rfl)) (hw _ (List.mem_of_getElem? (i := 3) rfl)) (by decide) (by decide)) (g := (mkF m 6 #[.val (.ref o0), .val (.ref c0)] [.null, (.int (2 : Int32)), (.int (0 : Int32)), (.ref c0), (.ref o0)])) rfl (by rw [hml]; rfl) (Steps.refl _) (a := o0) (argsL := [(.ref c0), (.int (0 : Int32)), (.int (2 : Int32)), .null]) (rest := []) (lenOf pd__ACIILjava_lang_Void__V rfl) rfl (by show 2 * 0 + _ ≤ _; exact Nat.le_of_eq rfl) (hb hby d_jdk_42_method_3_code_6) (fun _ _ => ⟨rfl, e0, (by decide : 0 + 1 ≤ _), (by decide : 0 + 2 ≤ _)⟩)
  dsimp only [Pt.U, Pt.locs, Pt.cells, Pt.slots] at X102 l102 y102 z102 st102 hQ102
  subst l102 y102 z102
  obtain ⟨b_102, k2_102, rfl, N102q, K102q, gn102_b, sz102_b, p102_0, p102_1, p102_2, p102_3⟩ := hQ102
  have N102 := Fr.app N0 N102q
  have ne103 : o0 ≠ b_102 := Nat.ne_of_lt (Nat.lt_of_lt_of_le pr0.lt sz102_b)
  have ne104 : c0 ≠ b_102 := Nat.ne_of_lt (Nat.lt_of_lt_of_le pr4.lt sz102_b)
  have f105 := pr0.keep K102q
  have f106 := pr3.keepN K102q (fun y q => by cases List.mem_singleton.mp q; exact pr0.plainN)
  have f107 := pr4.keep K102q (nm1 pr6)
  have K102 : Keep h0 T102.heap [o0] := Keep.trans (Keep.refl h0 [o0]) K102q (fun y q => by cases List.mem_singleton.mp q; exact (Or.inl (List.mem_of_getElem? (i := 0) rfl)))
  have Z102 : n0 ≤ T102.heap.size := Nat.le_trans Z0 K102q.1
  have szz102_b : h0.size ≤ b_102 := Nat.le_trans (Keep.refl h0 [o0]).1 sz102_b
  refine Goes.to (B := (T102.setTop (mkF m 9 #[.val (.ref o0), .val (.ref c0)] []))) st102 ?_
  refine Goes.retV X102 hx hlk hrt (hb hby d_jdk_42_method_3_code_9) ?_ (by decide) (by decide)
  exact ⟨b_102, k2_102, rfl, N102, K102, gn102_b, szz102_b, p102_0, p102_1, p102_2, p102_3⟩
theorem d_jdk_18_method_1_code_0 : decode jdk_18_method_1_code 0 = .ok (.aload_n 0, 1) := by decide +kernel
theorem d_jdk_18_method_1_code_1 : decode jdk_18_method_1_code 1 = .ok (.invokespecial 1, 3) := by decide +kernel
theorem d_jdk_18_method_1_code_4 : decode jdk_18_method_1_code 4 = .ok (.return_, 1) := by decide +kernel
def own_num_Q (Z : State) (o0 : Addr)  (h0 : Heap) (n0 : Nat) (v : Option Value) (h : Heap) (L : List Loc) : Prop := v = none ∧ Fr n0 L ∧ h = h0
theorem own_num_ef (m : MethodId) (o0 : Addr) : entryFrame m #[(.ref o0)] 1 = mkF m 0 #[.val (.ref o0)] [] := by first | (simp [entryFrame, mkF, argsToLocals, Value.category]; done) | rfl
theorem pn_Number : plainName "java/lang/Number" = true := by first | (simp [plainName, overriddenIn]; done) | decide +kernel
set_option maxRecDepth 65536 in
set_option maxHeartbeats 40000000 in
theorem own_num_rm (l : Launch) (Z : State) (a0 : Array Value) (hw : ∀ d ∈ tables_1, d.before a0 Z = true) (ws : List Jvm.Cond) (o0 : Addr)  (h0 : Heap) (n0 : Nat) (Z0 : n0 ≤ h0.size)  :
    MetFree l (⟨"java/lang/Number", "<init>", "()V"⟩ : MethodName) (head1 (Jvm.Cond.code (⟨"java/lang/Number", "<init>", "()V"⟩ : MethodName) jdk_18_method_1_code 1 none :: ws) ({ frames := 1, cells := 0, slots := 0, locals := 12 } : Room)) (fun a U => a = #[(.ref o0)] ∧ Z.Warmed39 U.vm ∧ U.heap = h0) (fun _ _ _ _ _ => True) (fun _ U o U' => ∃ v L, o = .returned v ∧ own_num_Q Z o0 h0 n0 v U'.heap L ∧ FrameEnd U o U' L ({ frames := 1, cells := 0, slots := 0, locals := 12 } : Room).cells ({ frames := 1, cells := 0, slots := 0, locals := 12 } : Room).slots) := by
  refine MetFree.of_bodySF (plainFor_of_name pn_Number) hisR ?_
  intro p e s m args below meth c s₁ Bd hml0 hP hK
  obtain ⟨rfl, hZ, hh⟩ := hP
  have hx := Bd.exec
  have hby := Bd.bytes
  have hml : c.maxLocals = 1 := hml0
  have hown : s.vm.findClass "java/lang/Number" = some m.cls := findClass_of_methodNamed Bd.named
  have hnm := (name_of_methodNamed Bd.named Bd.method).1
  have hlk : meth.locks = false := BodyLoose.notSynchronized Bd
  have hrt := Bd.returns
  have X0 : Stand p l e ({ frames := 1, cells := 0, slots := 0, locals := 12 } : Room) s m #[(.ref o0)] below meth c s₁ [] 0 0 := Stand.of_body Bd
  have e0 : s₁.heap = h0 := by rw [← hh, Bd.state]; rfl
  have N0 := Fr.nil n0
  refine Goes.enter (kc := ({ frames := 1, cells := 0, slots := 0, locals := 12 } : Room).cells) (kn := ({ frames := 1, cells := 0, slots := 0, locals := 12 } : Room).slots) (Q := own_num_Q Z o0 h0 n0) (own_num_ef m o0) ?_
  refine Goes.step (B := (s₁.setTop (mkF m 1 #[.val (.ref o0)] [(.ref o0)]))) (fun _ k => XS.aloadN X0.here hx rfl (hb hby d_jdk_18_method_1_code_0) rfl rfl k) ?_
  obtain ⟨T101, X101, e101, st101⟩ := initO X0 hx hZ hown (hw _ (List.mem_of_getElem? (i := 90) rfl)) (hw _ (List.mem_of_getElem? (i := 12) rfl)) (hw _ (List.mem_of_getElem? (i := 13) rfl)) e0 (g := (mkF m 1 #[.val (.ref o0)] [(.ref o0)])) rfl (by rw [hml]; rfl) rfl (hb hby d_jdk_18_method_1_code_1) (by decide) (W := 0) (by show 2 * 0 + _ ≤ _; exact Nat.le_of_eq rfl) (by decide)
  refine Goes.step (B := (T101.setTop (mkF m 4 #[.val (.ref o0)] []))) (fun _ k => st101 _ k) ?_
  refine Goes.retV X101 hx hlk hrt (hb hby d_jdk_18_method_1_code_4) ?_ (by decide) (by decide)
  rw [e101]
  exact ⟨rfl, N0, rfl⟩
theorem d_jdk_33_method_23_code_0 : decode jdk_33_method_23_code 0 = .ok (.aload_n 0, 1) := by decide +kernel
theorem d_jdk_33_method_23_code_1 : decode jdk_33_method_23_code 1 = .ok (.invokespecial 202, 3) := by decide +kernel
theorem pd___V : parseMethodDescriptor "()V" = some ⟨[], none⟩ := by decide +kernel
theorem d_jdk_33_method_23_code_4 : decode jdk_33_method_23_code 4 = .ok (.aload_n 0, 1) := by decide +kernel
theorem d_jdk_33_method_23_code_5 : decode jdk_33_method_23_code 5 = .ok (.iload_n 1, 1) := by decide +kernel
theorem d_jdk_33_method_23_code_6 : decode jdk_33_method_23_code 6 = .ok (.putfield 205, 3) := by decide +kernel
theorem d_jdk_33_method_23_code_9 : decode jdk_33_method_23_code 9 = .ok (.return_, 1) := by decide +kernel
def own_ii_Q (Z : State) (o0 : Addr) (u0 : Int32)  (h0 : Heap) (n0 : Nat) (v : Option Value) (h : Heap) (L : List Loc) : Prop := (v = none) ∧ (Fr n0 L) ∧ (Keep h0 h [o0]) ∧ (Exa Z h o0 "java/lang/Integer") ∧ (Fld Z h o0 "java/lang/Integer" "value" "I" (.int u0))
theorem own_ii_ef (m : MethodId) (o0 : Addr) (u0 : Int32) : entryFrame m #[(.ref o0), (.int u0)] 2 = mkF m 0 #[.val (.ref o0), .val (.int u0)] [] := by first | (simp [entryFrame, mkF, argsToLocals, Value.category]; done) | rfl
theorem pn_Integer : plainName "java/lang/Integer" = true := by first | (simp [plainName, overriddenIn]; done) | decide +kernel
set_option maxRecDepth 65536 in
set_option maxHeartbeats 40000000 in
theorem own_ii_rm (l : Launch) (Z : State) (a0 : Array Value) (hw : ∀ d ∈ tables_1, d.before a0 Z = true) (ws : List Jvm.Cond) (o0 : Addr) (u0 : Int32)  (h0 : Heap) (n0 : Nat) (Z0 : n0 ≤ h0.size) (pr0 : Exa Z h0 o0 "java/lang/Integer") (pr1 : Fld Z h0 o0 "java/lang/Integer" "value" "I" (.int (0 : Int32))) (pr2 : n0 ≤ o0) :
    MetFree l (⟨"java/lang/Integer", "<init>", "(I)V"⟩ : MethodName) (head1 (Jvm.Cond.code (⟨"java/lang/Integer", "<init>", "(I)V"⟩ : MethodName) jdk_33_method_23_code 2 none :: ws) ({ frames := 2, cells := 0, slots := 0, locals := 24 } : Room)) (fun a U => a = #[(.ref o0), (.int u0)] ∧ Z.Warmed39 U.vm ∧ U.heap = h0) (fun _ _ _ _ _ => True) (fun _ U o U' => ∃ v L, o = .returned v ∧ own_ii_Q Z o0 u0 h0 n0 v U'.heap L ∧ FrameEnd U o U' L ({ frames := 2, cells := 0, slots := 0, locals := 24 } : Room).cells ({ frames := 2, cells := 0, slots := 0, locals := 24 } : Room).slots) := by
  refine MetFree.of_bodySF (plainFor_of_name pn_Integer) hisR ?_
  intro p e s m args below meth c s₁ Bd hml0 hP hK
  obtain ⟨rfl, hZ, hh⟩ := hP
  have hx := Bd.exec
  have hby := Bd.bytes
  have hml : c.maxLocals = 2 := hml0
  have hown : s.vm.findClass "java/lang/Integer" = some m.cls := findClass_of_methodNamed Bd.named
  have hnm := (name_of_methodNamed Bd.named Bd.method).1
  have hlk : meth.locks = false := BodyLoose.notSynchronized Bd
  have hrt := Bd.returns
  have X0 : Stand p l e ({ frames := 2, cells := 0, slots := 0, locals := 24 } : Room) s m #[(.ref o0), (.int u0)] below meth c s₁ [] 0 0 := Stand.of_body Bd
  have e0 : s₁.heap = h0 := by rw [← hh, Bd.state]; rfl
  have N0 := Fr.nil n0
  refine Goes.enter (kc := ({ frames := 2, cells := 0, slots := 0, locals := 24 } : Room).cells) (kn := ({ frames := 2, cells := 0, slots := 0, locals := 24 } : Room).slots) (Q := own_ii_Q Z o0 u0 h0 n0) (own_ii_ef m o0 u0) ?_
  refine Goes.step (B := (s₁.setTop (mkF m 1 #[.val (.ref o0), .val (.int u0)] [(.ref o0)]))) (fun _ k => XS.aloadN X0.here hx rfl (hb hby d_jdk_33_method_23_code_0) rfl rfl k) ?_
  obtain ⟨_, _, ⟨T101, L101, k101, n101⟩, -, X101, ⟨Lc101, hQ101, l101, y101, z101⟩, st101⟩ := X0.specialBack hx (y := (⟨"java/lang/Number", "<init>", "()V"⟩ : MethodName)) rfl hown (mvT hZ (hw _ (List.mem_of_getElem? (i := 84) rfl))) (mvT hZ (hw _ (List.mem_of_getElem? (i := 85) rfl))) (mvT hZ (hw _ (List.mem_of_getElem? (i := 89) rfl))) (by decide) (backOf (W := 0) (own_num_rm l Z a0 hw [] o0  h0 n0 Z0 ) hZ (hw _ (List.mem_of_getElem? (i := 89) rfl)) (hw _ (List.mem_of_getElem? (i := 88) rfl)) (by decide) (by decide)) (g := (mkF m 1 #[.val (.ref o0), .val (.int u0)] [(.ref o0)])) rfl (by rw [hml]; rfl) (Steps.refl _) (a := o0) (argsL := []) (rest := []) (lenOf pd___V rfl) rfl (by show 2 * 0 + _ ≤ _; exact Nat.le_of_eq rfl) (hb hby d_jdk_33_method_23_code_1) (fun _ _ => ⟨rfl, e0, (by decide : 0 + 0 ≤ _), (by decide : 0 + 0 ≤ _)⟩)
  dsimp only [Pt.U, Pt.locs, Pt.cells, Pt.slots] at X101 l101 y101 z101 st101 hQ101
  subst l101 y101 z101
  obtain ⟨rfl, N101q, e101⟩ := hQ101
  have N101 := Fr.app N0 N101q
  refine Goes.to (B := (T101.setTop (mkF m 4 #[.val (.ref o0), .val (.int u0)] []))) st101 ?_
  refine Goes.step (B := (T101.setTop (mkF m 5 #[.val (.ref o0), .val (.int u0)] [(.ref o0)]))) (fun _ k => XS.aloadN X101.here hx rfl (hb hby d_jdk_33_method_23_code_4) rfl rfl k) ?_
  refine Goes.step (B := (T101.setTop (mkF m 6 #[.val (.ref o0), .val (.int u0)] [(.int u0), (.ref o0)]))) (fun _ k => XS.iloadN X101.here hx rfl (hb hby d_jdk_33_method_23_code_5) rfl k) ?_
  obtain ⟨T102, h102, X102, e102, W102, st102⟩ := putF X101 hx hZ hown (host := "") (Or.inl (hw _ (List.mem_of_getElem? (i := 62) rfl))) Via.refl e101 pr1 pr0 (Or.inr ⟨(hw _ (List.mem_of_getElem? (i := 63) rfl)), rfl, hnm⟩) (hw _ (List.mem_of_getElem? (i := 80) rfl)) (ty := .int) (by decide) rfl rfl (g := (mkF m 6 #[.val (.ref o0), .val (.int u0)] [(.int u0), (.ref o0)])) rfl rfl (hb hby d_jdk_33_method_23_code_6)
  have f103 := pr0.wr W102
  have N102 := Fr.snoc X102 N101 pr2
  have K102 : Keep h0 h102 [o0] := (Keep.refl h0 [o0]).wr W102 (Or.inl (List.mem_of_getElem? (i := 0) rfl))
  have Z102 : n0 ≤ h102.size := Nat.le_trans Z0 (Nat.le_of_eq W102.size.symm)
  have f104 : Fld Z h102 o0 "java/lang/Integer" "value" "I" (.int u0) := pr1.same W102
  refine Goes.step (B := (T102.setTop (mkF m 9 #[.val (.ref o0), .val (.int u0)] []))) (fun _ k => st102 _ k) ?_
  refine Goes.retV X102 hx hlk hrt (hb hby d_jdk_33_method_23_code_9) ?_ (by decide) (by decide)
  rw [e102]
  exact ⟨rfl, N102, K102, f103, f104⟩
theorem d_jdk_33_method_22_code_0 : decode jdk_33_method_22_code 0 = .ok (.iload_n 0, 1) := by decide +kernel
theorem d_jdk_33_method_22_code_1 : decode jdk_33_method_22_code 1 = .ok (.bipush (-128), 2) := by decide +kernel
theorem d_jdk_33_method_22_code_3 : decode jdk_33_method_22_code 3 = .ok (.if_icmp .lt 20, 3) := by decide +kernel
theorem d_jdk_33_method_22_code_23 : decode jdk_33_method_22_code 23 = .ok (.new 1, 3) := by decide +kernel
theorem d_jdk_33_method_22_code_26 : decode jdk_33_method_22_code 26 = .ok (.dup, 1) := by decide +kernel
theorem d_jdk_33_method_22_code_27 : decode jdk_33_method_22_code 27 = .ok (.iload_n 0, 1) := by decide +kernel
theorem d_jdk_33_method_22_code_28 : decode jdk_33_method_22_code 28 = .ok (.invokespecial 199, 3) := by decide +kernel
theorem pd__I_V : parseMethodDescriptor "(I)V" = some ⟨[.int], none⟩ := by decide +kernel
theorem d_jdk_33_method_22_code_31 : decode jdk_33_method_22_code 31 = .ok (.areturn, 1) := by decide +kernel
theorem d_jdk_33_method_22_code_6 : decode jdk_33_method_22_code 6 = .ok (.iload_n 0, 1) := by decide +kernel
theorem d_jdk_33_method_22_code_7 : decode jdk_33_method_22_code 7 = .ok (.getstatic 191, 3) := by decide +kernel
theorem d_jdk_33_method_22_code_10 : decode jdk_33_method_22_code 10 = .ok (.if_icmp .gt 13, 3) := by decide +kernel
theorem d_jdk_33_method_22_code_13 : decode jdk_33_method_22_code 13 = .ok (.getstatic 195, 3) := by decide +kernel
theorem d_jdk_33_method_22_code_16 : decode jdk_33_method_22_code 16 = .ok (.iload_n 0, 1) := by decide +kernel
theorem d_jdk_33_method_22_code_17 : decode jdk_33_method_22_code 17 = .ok (.sipush 128, 3) := by decide +kernel
theorem d_jdk_33_method_22_code_20 : decode jdk_33_method_22_code 20 = .ok (.iadd, 1) := by decide +kernel
theorem d_jdk_33_method_22_code_21 : decode jdk_33_method_22_code 21 = .ok (.aaload, 1) := by decide +kernel
theorem d_jdk_33_method_22_code_22 : decode jdk_33_method_22_code 22 = .ok (.areturn, 1) := by decide +kernel
def own_iv_Q (Z : State) (u0 : Int32) (cA : Addr) (h0 : Heap) (n0 : Nat) (v : Option Value) (h : Heap) (L : List Loc) : Prop := ∃ (b : Nat), (v = some (.ref b)) ∧ (Fr n0 L) ∧ (Keep h0 h []) ∧ (Exa Z h b "java/lang/Integer") ∧ (Fld Z h b "java/lang/Integer" "value" "I" (.int u0))
theorem own_iv_ef (m : MethodId) (u0 : Int32) : entryFrame m #[(.int u0)] 1 = mkF m 0 #[.val (.int u0)] [] := by first | (simp [entryFrame, mkF, argsToLocals, Value.category]; done) | rfl
set_option maxRecDepth 65536 in
set_option maxHeartbeats 40000000 in
theorem own_iv_rm (l : Launch) (Z : State) (a0 : Array Value) (hw : ∀ d ∈ tables_1, d.before a0 Z = true) (ws : List Jvm.Cond) (u0 : Int32) (cA : Addr) (h0 : Heap) (n0 : Nat) (Z0 : n0 ≤ h0.size) (pr0 : Sta Z h0 "java/lang/Integer$IntegerCache" "high" "I" (.int (127 : Int32))) (pr1 : Sta Z h0 "java/lang/Integer$IntegerCache" "cache" "[Ljava/lang/Integer;" (.ref cA)) (hC : OwnCache Z h0 cA) :
    MetFree l (⟨"java/lang/Integer", "valueOf", "(I)Ljava/lang/Integer;"⟩ : MethodName) (head1 (Jvm.Cond.code (⟨"java/lang/Integer", "valueOf", "(I)Ljava/lang/Integer;"⟩ : MethodName) jdk_33_method_22_code 1 (some (.object "java/lang/Integer")) :: ws) ({ frames := 3, cells := 1, slots := 1, locals := 38 } : Room)) (fun a U => a = #[(.int u0)] ∧ Z.Warmed39 U.vm ∧ U.heap = h0) (fun _ _ _ _ _ => True) (fun _ U o U' => ∃ v L, o = .returned v ∧ own_iv_Q Z u0 cA h0 n0 v U'.heap L ∧ FrameEnd U o U' L ({ frames := 3, cells := 1, slots := 1, locals := 38 } : Room).cells ({ frames := 3, cells := 1, slots := 1, locals := 38 } : Room).slots) := by
  refine MetFree.of_bodySF (plainFor_of_name pn_Integer) hisR ?_
  intro p e s m args below meth c s₁ Bd hml0 hP hK
  obtain ⟨rfl, hZ, hh⟩ := hP
  have hx := Bd.exec
  have hby := Bd.bytes
  have hml : c.maxLocals = 1 := hml0
  have hown : s.vm.findClass "java/lang/Integer" = some m.cls := findClass_of_methodNamed Bd.named
  have hnm := (name_of_methodNamed Bd.named Bd.method).1
  have hlk : meth.locks = false := BodyLoose.notSynchronized Bd
  have hrt := Bd.returns
  have X0 : Stand p l e ({ frames := 3, cells := 1, slots := 1, locals := 38 } : Room) s m #[(.int u0)] below meth c s₁ [] 0 0 := Stand.of_body Bd
  have e0 : s₁.heap = h0 := by rw [← hh, Bd.state]; rfl
  have N0 := Fr.nil n0
  refine Goes.enter (kc := ({ frames := 3, cells := 1, slots := 1, locals := 38 } : Room).cells) (kn := ({ frames := 3, cells := 1, slots := 1, locals := 38 } : Room).slots) (Q := own_iv_Q Z u0 cA h0 n0) (own_iv_ef m u0) ?_
  refine Goes.step (B := (s₁.setTop (mkF m 1 #[.val (.int u0)] [(.int u0)]))) (fun _ k => XS.iloadN X0.here hx rfl (hb hby d_jdk_33_method_22_code_0) rfl k) ?_
  refine Goes.step (B := (s₁.setTop (mkF m 3 #[.val (.int u0)] [(.int (-128 : Int32)), (.int u0)]))) (fun _ k => XS.bipush X0.here hx rfl (hb hby d_jdk_33_method_22_code_1) k) ?_
  by_cases hc101 : u0 < (-128 : Int32)
  · refine Goes.step (B := (s₁.setTop (mkF m 23 #[.val (.int u0)] []))) (fun _ k => XS.icmpYes X0.here hx rfl (pc0 := 3) (pc' := 23) rfl (hb hby d_jdk_33_method_22_code_3) rfl (tlt hc101).1 (by decide) (by decide) k) ?_
    obtain ⟨T102, h102, X102, e102, E102, A102, D102, -, st102⟩ := newO X0 hx hZ hown (hw _ (List.mem_of_getElem? (i := 79) rfl)) (hw _ (List.mem_of_getElem? (i := 80) rfl)) (hw _ (List.mem_of_getElem? (i := 46) rfl)) e0 (g := (mkF m 23 #[.val (.int u0)] [])) rfl (hb hby d_jdk_33_method_22_code_23) (by decide) (by decide)
    obtain ⟨b102, g102⟩ : ∃ z, z = h0.size := ⟨_, rfl⟩
    rw [← g102] at A102 D102 st102
    have gn102 : n0 ≤ b102 := Nat.le_trans Z0 (Nat.le_of_eq g102.symm)
    have sz102 : h0.size ≤ b102 := Nat.le_trans (Keep.refl h0 []).1 (Nat.le_of_eq g102.symm)
    have f103 := pr0.ext E102
    have f104 := pr1.ext E102
    have f105 : Fld Z h102 b102 "java/lang/Integer" "value" "I" (.int (0 : Int32)) := D102 (Or.inr (hw _ (List.mem_of_getElem? (i := 63) rfl))) (ty := .int) (by decide)
    have Z102 : n0 ≤ h102.size := Nat.le_trans Z0 E102.1
    have K102 : Keep h0 h102 [] := (Keep.refl h0 []).ext E102
    refine Goes.step (B := (T102.setTop (mkF m 26 #[.val (.int u0)] [(.ref b102)]))) (fun _ k => st102 _ k) ?_
    refine Goes.step (B := (T102.setTop (mkF m 27 #[.val (.int u0)] [(.ref b102), (.ref b102)]))) (fun _ k => XS.dup X102.here hx rfl (hb hby d_jdk_33_method_22_code_26) rfl rfl k) ?_
    refine Goes.step (B := (T102.setTop (mkF m 28 #[.val (.int u0)] [(.int u0), (.ref b102), (.ref b102)]))) (fun _ k => XS.iloadN X102.here hx rfl (hb hby d_jdk_33_method_22_code_27) rfl k) ?_
    obtain ⟨_, _, ⟨T106, L106, k106, n106⟩, -, X106, ⟨Lc106, hQ106, l106, y106, z106⟩, st106⟩ := X102.specialBack hx (y := (⟨"java/lang/Integer", "<init>", "(I)V"⟩ : MethodName)) rfl hown (mvT hZ (hw _ (List.mem_of_getElem? (i := 81) rfl))) (mvT hZ (hw _ (List.mem_of_getElem? (i := 82) rfl))) (mvT hZ (hw _ (List.mem_of_getElem? (i := 83) rfl))) (by decide) (backOf (W := 1) (own_ii_rm l Z a0 hw [] b102 u0  h102 n0 Z102 A102 f105 gn102) hZ (hw _ (List.mem_of_getElem? (i := 83) rfl)) (hw _ (List.mem_of_getElem? (i := 46) rfl)) (by decide) (by decide)) (g := (mkF m 28 #[.val (.int u0)] [(.int u0), (.ref b102), (.ref b102)])) rfl (by rw [hml]; rfl) (Steps.refl _) (a := b102) (argsL := [(.int u0)]) (rest := [(.ref b102)]) (lenOf pd__I_V rfl) rfl (by show 2 * 0 + _ ≤ _; exact Nat.le_of_eq rfl) (hb hby d_jdk_33_method_22_code_28) (fun _ _ => ⟨rfl, e102, (by decide : 1 + 0 ≤ _), (by decide : 1 + 0 ≤ _)⟩)
    dsimp only [Pt.U, Pt.locs, Pt.cells, Pt.slots] at X106 l106 y106 z106 st106 hQ106
    subst l106 y106 z106
    obtain ⟨rfl, N106q, K106q, p106_0, p106_1⟩ := hQ106
    have N106 := Fr.app N0 N106q
    have f107 := f103.keepN K106q (fun y q => by cases List.mem_singleton.mp q; exact A102.plainN)
    have f108 := f104.keepN K106q (fun y q => by cases List.mem_singleton.mp q; exact A102.plainN)
    have f109 := A102.keep K106q
    have K106 : Keep h0 T106.heap [] := Keep.trans K102 K106q (fun y q => by cases List.mem_singleton.mp q; exact (Or.inr sz102))
    have Z106 : n0 ≤ T106.heap.size := Nat.le_trans Z102 K106q.1
    refine Goes.to (B := (T106.setTop (mkF m 31 #[.val (.int u0)] [(.ref b102)]))) st106 ?_
    refine Goes.retR X106 hx hlk hrt rfl rfl rfl (hb hby d_jdk_33_method_22_code_31) ?_ (by decide) (by decide)
    exact ⟨b102, rfl, N106, K106, p106_0, p106_1⟩
  · refine Goes.step (B := (s₁.setTop (mkF m 6 #[.val (.int u0)] []))) (fun _ k => XS.icmpNo X0.here hx rfl (hb hby d_jdk_33_method_22_code_3) rfl (flt hc101).1 k) ?_
    refine Goes.step (B := (s₁.setTop (mkF m 7 #[.val (.int u0)] [(.int u0)]))) (fun _ k => XS.iloadN X0.here hx rfl (hb hby d_jdk_33_method_22_code_6) rfl k) ?_
    obtain ⟨T110, X110, e110, st110⟩ := getS2 X0 hx hZ hown (host := "") (Or.inl (hw _ (List.mem_of_getElem? (i := 48) rfl))) Via.refl e0 pr0 (g := (mkF m 7 #[.val (.int u0)] [(.int u0)])) rfl (hb hby d_jdk_33_method_22_code_7)
    refine Goes.step (B := (T110.setTop (mkF m 10 #[.val (.int u0)] [(.int (127 : Int32)), (.int u0)]))) (fun _ k => st110 _ k) ?_
    by_cases hc111 : (127 : Int32) < u0
    · refine Goes.step (B := (T110.setTop (mkF m 23 #[.val (.int u0)] []))) (fun _ k => XS.icmpYes X110.here hx rfl (pc0 := 10) (pc' := 23) rfl (hb hby d_jdk_33_method_22_code_10) rfl (tlt hc111).2.2.1 (by decide) (by decide) k) ?_
      obtain ⟨T112, h112, X112, e112, E112, A112, D112, -, st112⟩ := newO X110 hx hZ hown (hw _ (List.mem_of_getElem? (i := 79) rfl)) (hw _ (List.mem_of_getElem? (i := 80) rfl)) (hw _ (List.mem_of_getElem? (i := 46) rfl)) e110 (g := (mkF m 23 #[.val (.int u0)] [])) rfl (hb hby d_jdk_33_method_22_code_23) (by decide) (by decide)
      obtain ⟨b112, g112⟩ : ∃ z, z = h0.size := ⟨_, rfl⟩
      rw [← g112] at A112 D112 st112
      have gn112 : n0 ≤ b112 := Nat.le_trans Z0 (Nat.le_of_eq g112.symm)
      have sz112 : h0.size ≤ b112 := Nat.le_trans (Keep.refl h0 []).1 (Nat.le_of_eq g112.symm)
      have f113 := pr0.ext E112
      have f114 := pr1.ext E112
      have f115 : Fld Z h112 b112 "java/lang/Integer" "value" "I" (.int (0 : Int32)) := D112 (Or.inr (hw _ (List.mem_of_getElem? (i := 63) rfl))) (ty := .int) (by decide)
      have Z112 : n0 ≤ h112.size := Nat.le_trans Z0 E112.1
      have K112 : Keep h0 h112 [] := (Keep.refl h0 []).ext E112
      refine Goes.step (B := (T112.setTop (mkF m 26 #[.val (.int u0)] [(.ref b112)]))) (fun _ k => st112 _ k) ?_
      refine Goes.step (B := (T112.setTop (mkF m 27 #[.val (.int u0)] [(.ref b112), (.ref b112)]))) (fun _ k => XS.dup X112.here hx rfl (hb hby d_jdk_33_method_22_code_26) rfl rfl k) ?_
      refine Goes.step (B := (T112.setTop (mkF m 28 #[.val (.int u0)] [(.int u0), (.ref b112), (.ref b112)]))) (fun _ k => XS.iloadN X112.here hx rfl (hb hby d_jdk_33_method_22_code_27) rfl k) ?_
      obtain ⟨_, _, ⟨T116, L116, k116, n116⟩, -, X116, ⟨Lc116, hQ116, l116, y116, z116⟩, st116⟩ := X112.specialBack hx (y := (⟨"java/lang/Integer", "<init>", "(I)V"⟩ : MethodName)) rfl hown (mvT hZ (hw _ (List.mem_of_getElem? (i := 81) rfl))) (mvT hZ (hw _ (List.mem_of_getElem? (i := 82) rfl))) (mvT hZ (hw _ (List.mem_of_getElem? (i := 83) rfl))) (by decide) (backOf (W := 1) (own_ii_rm l Z a0 hw [] b112 u0  h112 n0 Z112 A112 f115 gn112) hZ (hw _ (List.mem_of_getElem? (i := 83) rfl)) (hw _ (List.mem_of_getElem? (i := 46) rfl)) (by decide) (by decide)) (g := (mkF m 28 #[.val (.int u0)] [(.int u0), (.ref b112), (.ref b112)])) rfl (by rw [hml]; rfl) (Steps.refl _) (a := b112) (argsL := [(.int u0)]) (rest := [(.ref b112)]) (lenOf pd__I_V rfl) rfl (by show 2 * 0 + _ ≤ _; exact Nat.le_of_eq rfl) (hb hby d_jdk_33_method_22_code_28) (fun _ _ => ⟨rfl, e112, (by decide : 1 + 0 ≤ _), (by decide : 1 + 0 ≤ _)⟩)
      dsimp only [Pt.U, Pt.locs, Pt.cells, Pt.slots] at X116 l116 y116 z116 st116 hQ116
      subst l116 y116 z116
      obtain ⟨rfl, N116q, K116q, p116_0, p116_1⟩ := hQ116
      have N116 := Fr.app N0 N116q
      have f117 := f113.keepN K116q (fun y q => by cases List.mem_singleton.mp q; exact A112.plainN)
      have f118 := f114.keepN K116q (fun y q => by cases List.mem_singleton.mp q; exact A112.plainN)
      have f119 := A112.keep K116q
      have K116 : Keep h0 T116.heap [] := Keep.trans K112 K116q (fun y q => by cases List.mem_singleton.mp q; exact (Or.inr sz112))
      have Z116 : n0 ≤ T116.heap.size := Nat.le_trans Z112 K116q.1
      refine Goes.to (B := (T116.setTop (mkF m 31 #[.val (.int u0)] [(.ref b112)]))) st116 ?_
      refine Goes.retR X116 hx hlk hrt rfl rfl rfl (hb hby d_jdk_33_method_22_code_31) ?_ (by decide) (by decide)
      exact ⟨b112, rfl, N116, K116, p116_0, p116_1⟩
    · refine Goes.step (B := (T110.setTop (mkF m 13 #[.val (.int u0)] []))) (fun _ k => XS.icmpNo X110.here hx rfl (hb hby d_jdk_33_method_22_code_10) rfl (flt hc111).2.2.1 k) ?_
      obtain ⟨T120, X120, e120, st120⟩ := getS2 X110 hx hZ hown (host := "") (Or.inl (hw _ (List.mem_of_getElem? (i := 50) rfl))) Via.refl e110 pr1 (g := (mkF m 13 #[.val (.int u0)] [])) rfl (hb hby d_jdk_33_method_22_code_13)
      refine Goes.step (B := (T120.setTop (mkF m 16 #[.val (.int u0)] [(.ref cA)]))) (fun _ k => st120 _ k) ?_
      refine Goes.step (B := (T120.setTop (mkF m 17 #[.val (.int u0)] [(.int u0), (.ref cA)]))) (fun _ k => XS.iloadN X120.here hx rfl (hb hby d_jdk_33_method_22_code_16) rfl k) ?_
      refine Goes.step (B := (T120.setTop (mkF m 20 #[.val (.int u0)] [(.int (128 : Int32)), (.int u0), (.ref cA)]))) (fun _ k => XS.sipush X120.here hx rfl (hb hby d_jdk_33_method_22_code_17) k) ?_
      refine Goes.step (B := (T120.setTop (mkF m 21 #[.val (.int u0)] [(.int (u0 + (128 : Int32))), (.ref cA)]))) (fun _ k => XS.iadd X120.here hx rfl (hb hby d_jdk_33_method_22_code_20) rfl k) ?_
      obtain ⟨cl121, Ar121, S121, Hc121⟩ := id hC
      obtain ⟨bb121, hat121, Eb121, Fb121⟩ := Hc121 (((u0 + (128 : Int32))).toNatClampNeg) (own_cidx hc101 hc111)
      rw [own_cval hc101 hc111] at Fb121
      have hin121 : ¬ ((u0 + (128 : Int32)) < 0 ∨ cl121.slots.size ≤ ((u0 + (128 : Int32))).toNatClampNeg) := own_cin S121 hc101 hc111
      refine Goes.step (B := (T120.setTop (mkF m 22 #[.val (.int u0)] [(.ref bb121)]))) (fun _ k => X120.aaload hx (j := (u0 + (128 : Int32))) (v := (.ref bb121)) (by rw [e120]; exact Ar121.1) (State.isArrayOf_alike hZ.alike Ar121.2.1) rfl Ar121.2.2 hin121 hat121 (g := (mkF m 21 #[.val (.int u0)] [(.int (u0 + (128 : Int32))), (.ref cA)])) rfl rfl (hb hby d_jdk_33_method_22_code_21) _ k) ?_
      refine Goes.retR X120 hx hlk hrt rfl rfl rfl (hb hby d_jdk_33_method_22_code_22) ?_ (by decide) (by decide)
      rw [e120]
      exact ⟨bb121, rfl, N0, (Keep.refl h0 []), Eb121, Fb121⟩
theorem d_prog_6_method_2_code_0 : decode prog_6_method_2_code 0 = .ok (.aload_n 1, 1) := by decide +kernel
theorem d_prog_6_method_2_code_1 : decode prog_6_method_2_code 1 = .ok (.ifnonnull 17, 3) := by decide +kernel
theorem d_prog_6_method_2_code_18 : decode prog_6_method_2_code 18 = .ok (.aload_n 1, 1) := by decide +kernel
theorem d_prog_6_method_2_code_19 : decode prog_6_method_2_code 19 = .ok (.areturn, 1) := by decide +kernel
def own_gN_Q (Z : State) (e1 : Addr)  (h0 : Heap) (n0 : Nat) (v : Option Value) (h : Heap) (L : List Loc) : Prop := (v = some (.ref e1)) ∧ (Fr n0 L) ∧ (h = h0)
theorem own_gN_ef (m : MethodId) (e1 : Addr) : entryFrame m #[.null, (.ref e1)] 2 = mkF m 0 #[.val .null, .val (.ref e1)] [] := by first | (simp [entryFrame, mkF, argsToLocals, Value.category]; done) | rfl
theorem pn_Checks : plainName "com/example/timeworth/timeworth/Checks" = true := by first | (simp [plainName, overriddenIn]; done) | decide +kernel
set_option maxRecDepth 65536 in
set_option maxHeartbeats 40000000 in
theorem own_gN_rm (l : Launch) (Z : State) (a0 : Array Value) (hw : ∀ d ∈ tables_1, d.before a0 Z = true) (ws : List Jvm.Cond) (e1 : Addr)  (h0 : Heap) (n0 : Nat) (Z0 : n0 ≤ h0.size)  :
    MetFree l (⟨"com/example/timeworth/timeworth/Checks", "given", "(Ljava/lang/String;Ljava/lang/Object;)Ljava/lang/Object;"⟩ : MethodName) (head1 (Jvm.Cond.code (⟨"com/example/timeworth/timeworth/Checks", "given", "(Ljava/lang/String;Ljava/lang/Object;)Ljava/lang/Object;"⟩ : MethodName) prog_6_method_2_code 2 (some (.object "java/lang/Object")) :: ws) ({ frames := 0, cells := 0, slots := 0, locals := 0 } : Room)) (fun a U => a = #[.null, (.ref e1)] ∧ Z.Warmed39 U.vm ∧ U.heap = h0) (fun _ _ _ _ _ => True) (fun _ U o U' => ∃ v L, o = .returned v ∧ own_gN_Q Z e1 h0 n0 v U'.heap L ∧ FrameEnd U o U' L ({ frames := 0, cells := 0, slots := 0, locals := 0 } : Room).cells ({ frames := 0, cells := 0, slots := 0, locals := 0 } : Room).slots) := by
  refine MetFree.of_bodySF (plainFor_of_name pn_Checks) hisR ?_
  intro p e s m args below meth c s₁ Bd hml0 hP hK
  obtain ⟨rfl, hZ, hh⟩ := hP
  have hx := Bd.exec
  have hby := Bd.bytes
  have hml : c.maxLocals = 2 := hml0
  have hown : s.vm.findClass "com/example/timeworth/timeworth/Checks" = some m.cls := findClass_of_methodNamed Bd.named
  have hnm := (name_of_methodNamed Bd.named Bd.method).1
  have hlk : meth.locks = false := BodyLoose.notSynchronized Bd
  have hrt := Bd.returns
  have X0 : Stand p l e ({ frames := 0, cells := 0, slots := 0, locals := 0 } : Room) s m #[.null, (.ref e1)] below meth c s₁ [] 0 0 := Stand.of_body Bd
  have e0 : s₁.heap = h0 := by rw [← hh, Bd.state]; rfl
  have N0 := Fr.nil n0
  refine Goes.enter (kc := ({ frames := 0, cells := 0, slots := 0, locals := 0 } : Room).cells) (kn := ({ frames := 0, cells := 0, slots := 0, locals := 0 } : Room).slots) (Q := own_gN_Q Z e1 h0 n0) (own_gN_ef m e1) ?_
  refine Goes.step (B := (s₁.setTop (mkF m 1 #[.val .null, .val (.ref e1)] [(.ref e1)]))) (fun _ k => XS.aloadN X0.here hx rfl (hb hby d_prog_6_method_2_code_0) rfl rfl k) ?_
  refine Goes.step (B := (s₁.setTop (mkF m 18 #[.val .null, .val (.ref e1)] []))) (fun _ k => XS.ifnonnullYes X0.here hx rfl (pc0 := 1) (pc' := 18) rfl (hb hby d_prog_6_method_2_code_1) rfl (by decide) (by decide) k) ?_
  refine Goes.step (B := (s₁.setTop (mkF m 19 #[.val .null, .val (.ref e1)] [(.ref e1)]))) (fun _ k => XS.aloadN X0.here hx rfl (hb hby d_prog_6_method_2_code_18) rfl rfl k) ?_
  refine Goes.retR X0 hx hlk hrt rfl rfl rfl (hb hby d_prog_6_method_2_code_19) ?_ (by decide) (by decide)
  rw [e0]
  exact ⟨rfl, N0, rfl⟩
def own_gR_Q (Z : State) (c0 : Addr) (e1 : Addr)  (h0 : Heap) (n0 : Nat) (v : Option Value) (h : Heap) (L : List Loc) : Prop := (v = some (.ref e1)) ∧ (Fr n0 L) ∧ (h = h0)
theorem own_gR_ef (m : MethodId) (c0 : Addr) (e1 : Addr) : entryFrame m #[(.ref c0), (.ref e1)] 2 = mkF m 0 #[.val (.ref c0), .val (.ref e1)] [] := by first | (simp [entryFrame, mkF, argsToLocals, Value.category]; done) | rfl
set_option maxRecDepth 65536 in
set_option maxHeartbeats 40000000 in
theorem own_gR_rm (l : Launch) (Z : State) (a0 : Array Value) (hw : ∀ d ∈ tables_1, d.before a0 Z = true) (ws : List Jvm.Cond) (c0 : Addr) (e1 : Addr)  (h0 : Heap) (n0 : Nat) (Z0 : n0 ≤ h0.size)  :
    MetFree l (⟨"com/example/timeworth/timeworth/Checks", "given", "(Ljava/lang/String;Ljava/lang/Object;)Ljava/lang/Object;"⟩ : MethodName) (head1 (Jvm.Cond.code (⟨"com/example/timeworth/timeworth/Checks", "given", "(Ljava/lang/String;Ljava/lang/Object;)Ljava/lang/Object;"⟩ : MethodName) prog_6_method_2_code 2 (some (.object "java/lang/Object")) :: ws) ({ frames := 0, cells := 0, slots := 0, locals := 0 } : Room)) (fun a U => a = #[(.ref c0), (.ref e1)] ∧ Z.Warmed39 U.vm ∧ U.heap = h0) (fun _ _ _ _ _ => True) (fun _ U o U' => ∃ v L, o = .returned v ∧ own_gR_Q Z c0 e1 h0 n0 v U'.heap L ∧ FrameEnd U o U' L ({ frames := 0, cells := 0, slots := 0, locals := 0 } : Room).cells ({ frames := 0, cells := 0, slots := 0, locals := 0 } : Room).slots) := by
  refine MetFree.of_bodySF (plainFor_of_name pn_Checks) hisR ?_
  intro p e s m args below meth c s₁ Bd hml0 hP hK
  obtain ⟨rfl, hZ, hh⟩ := hP
  have hx := Bd.exec
  have hby := Bd.bytes
  have hml : c.maxLocals = 2 := hml0
  have hown : s.vm.findClass "com/example/timeworth/timeworth/Checks" = some m.cls := findClass_of_methodNamed Bd.named
  have hnm := (name_of_methodNamed Bd.named Bd.method).1
  have hlk : meth.locks = false := BodyLoose.notSynchronized Bd
  have hrt := Bd.returns
  have X0 : Stand p l e ({ frames := 0, cells := 0, slots := 0, locals := 0 } : Room) s m #[(.ref c0), (.ref e1)] below meth c s₁ [] 0 0 := Stand.of_body Bd
  have e0 : s₁.heap = h0 := by rw [← hh, Bd.state]; rfl
  have N0 := Fr.nil n0
  refine Goes.enter (kc := ({ frames := 0, cells := 0, slots := 0, locals := 0 } : Room).cells) (kn := ({ frames := 0, cells := 0, slots := 0, locals := 0 } : Room).slots) (Q := own_gR_Q Z c0 e1 h0 n0) (own_gR_ef m c0 e1) ?_
  refine Goes.step (B := (s₁.setTop (mkF m 1 #[.val (.ref c0), .val (.ref e1)] [(.ref e1)]))) (fun _ k => XS.aloadN X0.here hx rfl (hb hby d_prog_6_method_2_code_0) rfl rfl k) ?_
  refine Goes.step (B := (s₁.setTop (mkF m 18 #[.val (.ref c0), .val (.ref e1)] []))) (fun _ k => XS.ifnonnullYes X0.here hx rfl (pc0 := 1) (pc' := 18) rfl (hb hby d_prog_6_method_2_code_1) rfl (by decide) (by decide) k) ?_
  refine Goes.step (B := (s₁.setTop (mkF m 19 #[.val (.ref c0), .val (.ref e1)] [(.ref e1)]))) (fun _ k => XS.aloadN X0.here hx rfl (hb hby d_prog_6_method_2_code_18) rfl rfl k) ?_
  refine Goes.retR X0 hx hlk hrt rfl rfl rfl (hb hby d_prog_6_method_2_code_19) ?_ (by decide) (by decide)
  rw [e0]
  exact ⟨rfl, N0, rfl⟩
theorem d_jdk_33_method_27_code_0 : decode jdk_33_method_27_code 0 = .ok (.aload_n 0, 1) := by decide +kernel
theorem d_jdk_33_method_27_code_1 : decode jdk_33_method_27_code 1 = .ok (.getfield 205, 3) := by decide +kernel
theorem d_jdk_33_method_27_code_4 : decode jdk_33_method_27_code 4 = .ok (.ireturn, 1) := by decide +kernel
def own_it_fn (i1 : Int32) : Int32 := i1
def own_it_Q (Z : State) (o0 : Addr) (i1 : Int32) (h0 : Heap) (n0 : Nat) (v : Option Value) (h : Heap) (L : List Loc) : Prop := v = some (.int (own_it_fn i1)) ∧ Fr n0 L ∧ h = h0
theorem own_it_ef (m : MethodId) (o0 : Addr) : entryFrame m #[(.ref o0)] 1 = mkF m 0 #[.val (.ref o0)] [] := by first | (simp [entryFrame, mkF, argsToLocals, Value.category]; done) | rfl
set_option maxRecDepth 65536 in
set_option maxHeartbeats 40000000 in
theorem own_it_rm (l : Launch) (Z : State) (a0 : Array Value) (hw : ∀ d ∈ tables_1, d.before a0 Z = true) (ws : List Jvm.Cond) (o0 : Addr) (i1 : Int32) (h0 : Heap) (n0 : Nat) (Z0 : n0 ≤ h0.size) (pr0 : Fld Z h0 o0 "java/lang/Integer" "value" "I" (.int i1)) :
    MetFree l (⟨"java/lang/Integer", "intValue", "()I"⟩ : MethodName) (head1 (Jvm.Cond.code (⟨"java/lang/Integer", "intValue", "()I"⟩ : MethodName) jdk_33_method_27_code 1 (some .int) :: ws) ({ frames := 0, cells := 0, slots := 0, locals := 0 } : Room)) (fun a U => a = #[(.ref o0)] ∧ Z.Warmed39 U.vm ∧ U.heap = h0) (fun _ _ _ _ _ => True) (fun _ U o U' => ∃ v L, o = .returned v ∧ own_it_Q Z o0 i1 h0 n0 v U'.heap L ∧ FrameEnd U o U' L ({ frames := 0, cells := 0, slots := 0, locals := 0 } : Room).cells ({ frames := 0, cells := 0, slots := 0, locals := 0 } : Room).slots) := by
  refine MetFree.of_bodySF (plainFor_of_name pn_Integer) hisR ?_
  intro p e s m args below meth c s₁ Bd hml0 hP hK
  obtain ⟨rfl, hZ, hh⟩ := hP
  have hx := Bd.exec
  have hby := Bd.bytes
  have hml : c.maxLocals = 1 := hml0
  have hown : s.vm.findClass "java/lang/Integer" = some m.cls := findClass_of_methodNamed Bd.named
  have hnm := (name_of_methodNamed Bd.named Bd.method).1
  have hlk : meth.locks = false := BodyLoose.notSynchronized Bd
  have hrt := Bd.returns
  have X0 : Stand p l e ({ frames := 0, cells := 0, slots := 0, locals := 0 } : Room) s m #[(.ref o0)] below meth c s₁ [] 0 0 := Stand.of_body Bd
  have e0 : s₁.heap = h0 := by rw [← hh, Bd.state]; rfl
  have N0 := Fr.nil n0
  refine Goes.enter (kc := ({ frames := 0, cells := 0, slots := 0, locals := 0 } : Room).cells) (kn := ({ frames := 0, cells := 0, slots := 0, locals := 0 } : Room).slots) (Q := own_it_Q Z o0 i1 h0 n0) (own_it_ef m o0) ?_
  refine Goes.step (B := (s₁.setTop (mkF m 1 #[.val (.ref o0)] [(.ref o0)]))) (fun _ k => XS.aloadN X0.here hx rfl (hb hby d_jdk_33_method_27_code_0) rfl rfl k) ?_
  obtain ⟨T101, X101, e101, st101⟩ := getF X0 hx hZ hown (host := "") (Or.inl (hw _ (List.mem_of_getElem? (i := 62) rfl))) Via.refl e0 pr0 (g := (mkF m 1 #[.val (.ref o0)] [(.ref o0)])) rfl rfl (hb hby d_jdk_33_method_27_code_1)
  refine Goes.step (B := (T101.setTop (mkF m 4 #[.val (.ref o0)] [(.int i1)]))) (fun _ k => st101 _ k) ?_
  refine Goes.retI X101 hx hlk hrt (hb hby d_jdk_33_method_27_code_4) ?_ (by decide) (by decide)
  rw [e101]
  exact ⟨congrArg (fun z => some (Value.int z)) (show i1 = (own_it_fn i1) from (show i1 = i1 from rfl).trans (by simp only [own_it_fn])), N0, rfl⟩
theorem d_jdk_42_method_152_code_0 : decode jdk_42_method_152_code 0 = .ok (.getstatic 38, 3) := by decide +kernel
theorem d_jdk_42_method_152_code_3 : decode jdk_42_method_152_code 3 = .ok (.ifCond .eq 10, 3) := by decide +kernel
theorem d_jdk_42_method_152_code_6 : decode jdk_42_method_152_code 6 = .ok (.aload_n 0, 1) := by decide +kernel
theorem d_jdk_42_method_152_code_7 : decode jdk_42_method_152_code 7 = .ok (.getfield 15, 3) := by decide +kernel
theorem d_jdk_42_method_152_code_10 : decode jdk_42_method_152_code 10 = .ok (.goto 4, 3) := by decide +kernel
theorem d_jdk_42_method_152_code_14 : decode jdk_42_method_152_code 14 = .ok (.ireturn, 1) := by decide +kernel
def own_cd_fn (w0 : Int32) : Int32 := (0 : Int32)
def own_cd_Q (Z : State) (o0 : Addr) (w0 : Int32) (h0 : Heap) (n0 : Nat) (v : Option Value) (h : Heap) (L : List Loc) : Prop := v = some (.int (own_cd_fn w0)) ∧ Fr n0 L ∧ h = h0
theorem own_cd_ef (m : MethodId) (o0 : Addr) : entryFrame m #[(.ref o0)] 1 = mkF m 0 #[.val (.ref o0)] [] := by first | (simp [entryFrame, mkF, argsToLocals, Value.category]; done) | rfl
set_option maxRecDepth 65536 in
set_option maxHeartbeats 40000000 in
theorem own_cd_rm (l : Launch) (Z : State) (a0 : Array Value) (hw : ∀ d ∈ tables_1, d.before a0 Z = true) (ws : List Jvm.Cond) (o0 : Addr) (w0 : Int32) (h0 : Heap) (n0 : Nat) (Z0 : n0 ≤ h0.size) (pr0 : Sta Z h0 "java/lang/String" "COMPACT_STRINGS" "Z" (.int w0)) (pr1 : Fld Z h0 o0 "java/lang/String" "coder" "B" (.int (0 : Int32))) (hw0 : ¬ (w0 = (0 : Int32))) :
    MetFree l (⟨"java/lang/String", "coder", "()B"⟩ : MethodName) (head1 (Jvm.Cond.code (⟨"java/lang/String", "coder", "()B"⟩ : MethodName) jdk_42_method_152_code 1 (some .byte) :: ws) ({ frames := 0, cells := 0, slots := 0, locals := 0 } : Room)) (fun a U => a = #[(.ref o0)] ∧ Z.Warmed39 U.vm ∧ U.heap = h0) (fun _ _ _ _ _ => True) (fun _ U o U' => ∃ v L, o = .returned v ∧ own_cd_Q Z o0 w0 h0 n0 v U'.heap L ∧ FrameEnd U o U' L ({ frames := 0, cells := 0, slots := 0, locals := 0 } : Room).cells ({ frames := 0, cells := 0, slots := 0, locals := 0 } : Room).slots) := by
  refine MetFree.of_bodySF (plainFor_of_name pn_String) hisR ?_
  intro p e s m args below meth c s₁ Bd hml0 hP hK
  obtain ⟨rfl, hZ, hh⟩ := hP
  have hx := Bd.exec
  have hby := Bd.bytes
  have hml : c.maxLocals = 1 := hml0
  have hown : s.vm.findClass "java/lang/String" = some m.cls := findClass_of_methodNamed Bd.named
  have hnm := (name_of_methodNamed Bd.named Bd.method).1
  have hlk : meth.locks = false := BodyLoose.notSynchronized Bd
  have hrt := Bd.returns
  have X0 : Stand p l e ({ frames := 0, cells := 0, slots := 0, locals := 0 } : Room) s m #[(.ref o0)] below meth c s₁ [] 0 0 := Stand.of_body Bd
  have e0 : s₁.heap = h0 := by rw [← hh, Bd.state]; rfl
  have N0 := Fr.nil n0
  refine Goes.enter (kc := ({ frames := 0, cells := 0, slots := 0, locals := 0 } : Room).cells) (kn := ({ frames := 0, cells := 0, slots := 0, locals := 0 } : Room).slots) (Q := own_cd_Q Z o0 w0 h0 n0) (own_cd_ef m o0) ?_
  obtain ⟨T101, X101, e101, st101⟩ := getS2 X0 hx hZ hown (host := "") (Or.inl (hw _ (List.mem_of_getElem? (i := 14) rfl))) Via.refl e0 pr0 (g := (mkF m 0 #[.val (.ref o0)] [])) rfl (hb hby d_jdk_42_method_152_code_0)
  refine Goes.step (B := (T101.setTop (mkF m 3 #[.val (.ref o0)] [(.int w0)]))) (fun _ k => st101 _ k) ?_
  have hc102 : ¬ (w0 = (0 : Int32)) := hw0
  refine Goes.step (B := (T101.setTop (mkF m 6 #[.val (.ref o0)] []))) (fun _ k => XS.ifNo X101.here hx rfl (hb hby d_jdk_42_method_152_code_3) rfl ((if0 _ _).trans (feq hc102).1) k) ?_
  refine Goes.step (B := (T101.setTop (mkF m 7 #[.val (.ref o0)] [(.ref o0)]))) (fun _ k => XS.aloadN X101.here hx rfl (hb hby d_jdk_42_method_152_code_6) rfl rfl k) ?_
  obtain ⟨T103, X103, e103, st103⟩ := getF X101 hx hZ hown (host := "") (Or.inl (hw _ (List.mem_of_getElem? (i := 26) rfl))) Via.refl e101 pr1 (g := (mkF m 7 #[.val (.ref o0)] [(.ref o0)])) rfl rfl (hb hby d_jdk_42_method_152_code_7)
  refine Goes.step (B := (T103.setTop (mkF m 10 #[.val (.ref o0)] [(.int (0 : Int32))]))) (fun _ k => st103 _ k) ?_
  refine Goes.step (B := (T103.setTop (mkF m 14 #[.val (.ref o0)] [(.int (0 : Int32))]))) (fun _ k => XS.goto X103.here hx rfl (pc0 := 10) (pc' := 14) rfl (hb hby d_jdk_42_method_152_code_10) (by decide) (by decide) k) ?_
  refine Goes.retN X103 hx hlk (t := .byte) hrt (by simp) (hb hby d_jdk_42_method_152_code_14) ?_ (by decide) (by decide)
  rw [e103]
  exact ⟨congrArg (fun z => some (Value.int z)) (show nar .byte (0 : Int32) = (own_cd_fn w0) from (show nar .byte (0 : Int32) = (0 : Int32) from rfl).trans (by simp only [own_cd_fn, if_neg hc102])), N0, rfl⟩
theorem d_jdk_42_method_54_code_0 : decode jdk_42_method_54_code 0 = .ok (.aload_n 0, 1) := by decide +kernel
theorem d_jdk_42_method_54_code_1 : decode jdk_42_method_54_code 1 = .ok (.getfield 9, 3) := by decide +kernel
theorem d_jdk_42_method_54_code_4 : decode jdk_42_method_54_code 4 = .ok (.arraylength, 1) := by decide +kernel
theorem d_jdk_42_method_54_code_5 : decode jdk_42_method_54_code 5 = .ok (.aload_n 0, 1) := by decide +kernel
theorem d_jdk_42_method_54_code_6 : decode jdk_42_method_54_code 6 = .ok (.invokevirtual 335, 3) := by decide +kernel
theorem pd___B : parseMethodDescriptor "()B" = some ⟨[], some .byte⟩ := by decide +kernel
theorem d_jdk_42_method_54_code_9 : decode jdk_42_method_54_code 9 = .ok (.ishr, 1) := by decide +kernel
theorem d_jdk_42_method_54_code_10 : decode jdk_42_method_54_code 10 = .ok (.ireturn, 1) := by decide +kernel
def own_ln_fn (w0 : Int32) : Int32 := ((2 : Int32) >>> ((own_cd_fn w0) &&& 31))
def own_ln_Q (Z : State) (o0 : Addr) (w0 : Int32) (d0 : Addr) (k2 : ClassId) (l2 : List Value) (d2 : Value) (h0 : Heap) (n0 : Nat) (v : Option Value) (h : Heap) (L : List Loc) : Prop := v = some (.int (own_ln_fn w0)) ∧ Fr n0 L ∧ h = h0
theorem own_ln_ef (m : MethodId) (o0 : Addr) : entryFrame m #[(.ref o0)] 1 = mkF m 0 #[.val (.ref o0)] [] := by first | (simp [entryFrame, mkF, argsToLocals, Value.category]; done) | rfl
set_option maxRecDepth 65536 in
set_option maxHeartbeats 40000000 in
theorem own_ln_rm (l : Launch) (Z : State) (a0 : Array Value) (hw : ∀ d ∈ tables_1, d.before a0 Z = true) (ws : List Jvm.Cond) (o0 : Addr) (w0 : Int32) (d0 : Addr) (k2 : ClassId) (l2 : List Value) (d2 : Value) (h0 : Heap) (n0 : Nat) (Z0 : n0 ≤ h0.size) (pr0 : Sta Z h0 "java/lang/String" "COMPACT_STRINGS" "Z" (.int w0)) (pr1 : Exa Z h0 o0 "java/lang/String") (pr2 : Fld Z h0 o0 "java/lang/String" "coder" "B" (.int (0 : Int32))) (pr3 : Fld Z h0 o0 "java/lang/String" "value" "[B" (.ref d0)) (pr4 : Arv Z h0 d0 k2 .byte (2 : Int32) l2 d2) (hw0 : ¬ (w0 = (0 : Int32))) :
    MetFree l (⟨"java/lang/String", "length", "()I"⟩ : MethodName) (head1 (Jvm.Cond.code (⟨"java/lang/String", "length", "()I"⟩ : MethodName) jdk_42_method_54_code 1 (some .int) :: ws) ({ frames := 1, cells := 0, slots := 0, locals := 13 } : Room)) (fun a U => a = #[(.ref o0)] ∧ Z.Warmed39 U.vm ∧ U.heap = h0) (fun _ _ _ _ _ => True) (fun _ U o U' => ∃ v L, o = .returned v ∧ own_ln_Q Z o0 w0 d0 k2 l2 d2 h0 n0 v U'.heap L ∧ FrameEnd U o U' L ({ frames := 1, cells := 0, slots := 0, locals := 13 } : Room).cells ({ frames := 1, cells := 0, slots := 0, locals := 13 } : Room).slots) := by
  refine MetFree.of_bodySF (plainFor_of_name pn_String) hisR ?_
  intro p e s m args below meth c s₁ Bd hml0 hP hK
  obtain ⟨rfl, hZ, hh⟩ := hP
  have hx := Bd.exec
  have hby := Bd.bytes
  have hml : c.maxLocals = 1 := hml0
  have hown : s.vm.findClass "java/lang/String" = some m.cls := findClass_of_methodNamed Bd.named
  have hnm := (name_of_methodNamed Bd.named Bd.method).1
  have hlk : meth.locks = false := BodyLoose.notSynchronized Bd
  have hrt := Bd.returns
  have X0 : Stand p l e ({ frames := 1, cells := 0, slots := 0, locals := 13 } : Room) s m #[(.ref o0)] below meth c s₁ [] 0 0 := Stand.of_body Bd
  have e0 : s₁.heap = h0 := by rw [← hh, Bd.state]; rfl
  have N0 := Fr.nil n0
  refine Goes.enter (kc := ({ frames := 1, cells := 0, slots := 0, locals := 13 } : Room).cells) (kn := ({ frames := 1, cells := 0, slots := 0, locals := 13 } : Room).slots) (Q := own_ln_Q Z o0 w0 d0 k2 l2 d2 h0 n0) (own_ln_ef m o0) ?_
  refine Goes.step (B := (s₁.setTop (mkF m 1 #[.val (.ref o0)] [(.ref o0)]))) (fun _ k => XS.aloadN X0.here hx rfl (hb hby d_jdk_42_method_54_code_0) rfl rfl k) ?_
  obtain ⟨T101, X101, e101, st101⟩ := getF X0 hx hZ hown (host := "") (Or.inl (hw _ (List.mem_of_getElem? (i := 28) rfl))) Via.refl e0 pr3 (g := (mkF m 1 #[.val (.ref o0)] [(.ref o0)])) rfl rfl (hb hby d_jdk_42_method_54_code_1)
  refine Goes.step (B := (T101.setTop (mkF m 4 #[.val (.ref o0)] [(.ref d0)]))) (fun _ k => st101 _ k) ?_
  obtain ⟨cl102, Ar102, q102, S102, M102, H102, G102⟩ := id pr4
  refine Goes.step (B := (T101.setTop (mkF m 5 #[.val (.ref o0)] [(.int (2 : Int32))]))) (fun _ k => X101.arraylength hx (by rw [e101]; exact Ar102.1) (State.isArrayOf_alike hZ.alike Ar102.2.1) (g := (mkF m 4 #[.val (.ref o0)] [(.ref d0)])) rfl rfl (hb hby d_jdk_42_method_54_code_4) _ (by rw [len_of S102 M102]; exact k)) ?_
  refine Goes.step (B := (T101.setTop (mkF m 6 #[.val (.ref o0)] [(.ref o0), (.int (2 : Int32))]))) (fun _ k => XS.aloadN X101.here hx rfl (hb hby d_jdk_42_method_54_code_5) rfl rfl k) ?_
  obtain ⟨cq103, kq103, q103a, q103b, q103c⟩ := isOf hZ e101 pr1
  obtain ⟨_, _, ⟨T103, L103, k103, n103⟩, -, X103, ⟨Lc103, hQ103, l103, y103, z103⟩, st103⟩ := X101.virtualBack hx (y := (⟨"java/lang/String", "coder", "()B"⟩ : MethodName)) (z := (⟨"java/lang/String", "coder", "()B"⟩ : MethodName)) hown (mvT hZ (hw _ (List.mem_of_getElem? (i := 69) rfl))) (mvT hZ (hw _ (List.mem_of_getElem? (i := 70) rfl))) (notFace_of_selects (args := #[]) (mvT hZ (hw _ (List.mem_of_getElem? (i := 72) rfl)))) (mvT hZ (hw _ (List.mem_of_getElem? (i := 72) rfl))) (mvT hZ (hw _ (List.mem_of_getElem? (i := 71) rfl))) (by decide) (backOf (W := 1) (own_cd_rm l Z a0 hw [] o0 w0 h0 n0 Z0 pr0 pr2 hw0) hZ (hw _ (List.mem_of_getElem? (i := 73) rfl)) (hw _ (List.mem_of_getElem? (i := 3) rfl)) (by decide) (by decide)) q103a q103c (g := (mkF m 6 #[.val (.ref o0)] [(.ref o0), (.int (2 : Int32))])) rfl (by rw [hml]; rfl) (Steps.refl _) (argsL := []) (rest := [(.int (2 : Int32))]) (lenOf pd___B rfl) rfl (by show 2 * 0 + _ ≤ _; exact Nat.le_of_eq rfl) (hb hby d_jdk_42_method_54_code_6) (fun _ _ => ⟨rfl, e101, (by decide : 0 + 0 ≤ _), (by decide : 0 + 0 ≤ _)⟩)
  dsimp only [Pt.U, Pt.locs, Pt.cells, Pt.slots] at X103 l103 y103 z103 st103 hQ103
  subst l103 y103 z103
  obtain ⟨rfl, N103q, e103⟩ := hQ103
  have N103 := Fr.app N0 N103q
  refine Goes.to (B := (T103.setTop (mkF m 9 #[.val (.ref o0)] [(.int (own_cd_fn w0)), (.int (2 : Int32))]))) st103 ?_
  refine Goes.step (B := (T103.setTop (mkF m 10 #[.val (.ref o0)] [(.int ((2 : Int32) >>> ((own_cd_fn w0) &&& 31)))]))) (fun _ k => XS.ishr X103.here hx rfl (hb hby d_jdk_42_method_54_code_9) rfl k) ?_
  refine Goes.retI X103 hx hlk hrt (hb hby d_jdk_42_method_54_code_10) ?_ (by decide) (by decide)
  rw [e103]
  exact ⟨congrArg (fun z => some (Value.int z)) (show ((2 : Int32) >>> ((own_cd_fn w0) &&& 31)) = (own_ln_fn w0) from (show ((2 : Int32) >>> ((own_cd_fn w0) &&& 31)) = ((2 : Int32) >>> ((own_cd_fn w0) &&& 31)) from rfl).trans (by simp only [own_ln_fn])), N103, rfl⟩
theorem d_jdk_42_method_66_code_0 : decode jdk_42_method_66_code 0 = .ok (.aload_n 0, 1) := by decide +kernel
theorem d_jdk_42_method_66_code_1 : decode jdk_42_method_66_code 1 = .ok (.aload_n 1, 1) := by decide +kernel
theorem d_jdk_42_method_66_code_2 : decode jdk_42_method_66_code 2 = .ok (.if_acmp .ne 5, 3) := by decide +kernel
theorem d_jdk_42_method_66_code_5 : decode jdk_42_method_66_code 5 = .ok (.iconst 1, 1) := by decide +kernel
theorem d_jdk_42_method_66_code_6 : decode jdk_42_method_66_code 6 = .ok (.ireturn, 1) := by decide +kernel
def own_eqS_fn  : Int32 := (1 : Int32)
def own_eqS_Q (Z : State) (o0 : Addr) (e1 : Addr)  (h0 : Heap) (n0 : Nat) (v : Option Value) (h : Heap) (L : List Loc) : Prop := v = some (.int (own_eqS_fn)) ∧ Fr n0 L ∧ h = h0
theorem own_eqS_ef (m : MethodId) (o0 : Addr) (e1 : Addr) : entryFrame m #[(.ref o0), (.ref e1)] 3 = mkF m 0 #[.val (.ref o0), .val (.ref e1), .unset] [] := by first | (simp [entryFrame, mkF, argsToLocals, Value.category]; done) | rfl
set_option maxRecDepth 65536 in
set_option maxHeartbeats 40000000 in
theorem own_eqS_rm (l : Launch) (Z : State) (a0 : Array Value) (hw : ∀ d ∈ tables_1, d.before a0 Z = true) (ws : List Jvm.Cond) (o0 : Addr) (e1 : Addr)  (h0 : Heap) (n0 : Nat) (Z0 : n0 ≤ h0.size) (hq : o0 = e1) :
    MetFree l (⟨"java/lang/String", "equals", "(Ljava/lang/Object;)Z"⟩ : MethodName) (head1 (Jvm.Cond.code (⟨"java/lang/String", "equals", "(Ljava/lang/Object;)Z"⟩ : MethodName) jdk_42_method_66_code 3 (some .boolean) :: ws) ({ frames := 0, cells := 0, slots := 0, locals := 0 } : Room)) (fun a U => a = #[(.ref o0), (.ref e1)] ∧ Z.Warmed39 U.vm ∧ U.heap = h0) (fun _ _ _ _ _ => True) (fun _ U o U' => ∃ v L, o = .returned v ∧ own_eqS_Q Z o0 e1 h0 n0 v U'.heap L ∧ FrameEnd U o U' L ({ frames := 0, cells := 0, slots := 0, locals := 0 } : Room).cells ({ frames := 0, cells := 0, slots := 0, locals := 0 } : Room).slots) := by
  refine MetFree.of_bodySF (plainFor_of_name pn_String) hisR ?_
  intro p e s m args below meth c s₁ Bd hml0 hP hK
  obtain ⟨rfl, hZ, hh⟩ := hP
  have hx := Bd.exec
  have hby := Bd.bytes
  have hml : c.maxLocals = 3 := hml0
  have hown : s.vm.findClass "java/lang/String" = some m.cls := findClass_of_methodNamed Bd.named
  have hnm := (name_of_methodNamed Bd.named Bd.method).1
  have hlk : meth.locks = false := BodyLoose.notSynchronized Bd
  have hrt := Bd.returns
  have X0 : Stand p l e ({ frames := 0, cells := 0, slots := 0, locals := 0 } : Room) s m #[(.ref o0), (.ref e1)] below meth c s₁ [] 0 0 := Stand.of_body Bd
  have e0 : s₁.heap = h0 := by rw [← hh, Bd.state]; rfl
  have N0 := Fr.nil n0
  refine Goes.enter (kc := ({ frames := 0, cells := 0, slots := 0, locals := 0 } : Room).cells) (kn := ({ frames := 0, cells := 0, slots := 0, locals := 0 } : Room).slots) (Q := own_eqS_Q Z o0 e1 h0 n0) (own_eqS_ef m o0 e1) ?_
  refine Goes.step (B := (s₁.setTop (mkF m 1 #[.val (.ref o0), .val (.ref e1), .unset] [(.ref o0)]))) (fun _ k => XS.aloadN X0.here hx rfl (hb hby d_jdk_42_method_66_code_0) rfl rfl k) ?_
  refine Goes.step (B := (s₁.setTop (mkF m 2 #[.val (.ref o0), .val (.ref e1), .unset] [(.ref e1), (.ref o0)]))) (fun _ k => XS.aloadN X0.here hx rfl (hb hby d_jdk_42_method_66_code_1) rfl rfl k) ?_
  refine Goes.step (B := (s₁.setTop (mkF m 5 #[.val (.ref o0), .val (.ref e1), .unset] []))) (fun _ k => Jvm.RoadKit.acmp (g := (mkF m 2 #[.val (.ref o0), .val (.ref e1), .unset] [(.ref e1), (.ref o0)])) X0 hx rfl rfl rfl (pc0 := 2) (pc' := 5) (same := true) rfl (hb hby d_jdk_42_method_66_code_2) rfl (decide_eq_true (congrArg Value.ref hq)) (by decide) (by decide) k) ?_
  refine Goes.step (B := (s₁.setTop (mkF m 6 #[.val (.ref o0), .val (.ref e1), .unset] [(.int (1 : Int32))]))) (fun _ k => XS.iconst X0.here hx rfl (hb hby d_jdk_42_method_66_code_5) k) ?_
  refine Goes.retN X0 hx hlk (t := .boolean) hrt (by simp) (hb hby d_jdk_42_method_66_code_6) ?_ (by decide) (by decide)
  rw [e0]
  exact ⟨congrArg (fun z => some (Value.int z)) (show nar .boolean (1 : Int32) = (own_eqS_fn) from (show nar .boolean (1 : Int32) = (1 : Int32) from rfl).trans (by simp only [own_eqS_fn])), N0, rfl⟩
theorem pd__AC_V : parseMethodDescriptor "([C)V" = some ⟨[(.array .char)], none⟩ := by decide +kernel
theorem pd__C_Ljava_lang_String_ : parseMethodDescriptor "(C)Ljava/lang/String;" = some ⟨[.char], some (.object "java/lang/String")⟩ := by decide +kernel
theorem pd__I_Ljava_lang_Integer_ : parseMethodDescriptor "(I)Ljava/lang/Integer;" = some ⟨[.int], some (.object "java/lang/Integer")⟩ := by decide +kernel
theorem pd__Ljava_lang_String_Ljava_lang_Object__Ljava_lang_Object_ : parseMethodDescriptor "(Ljava/lang/String;Ljava/lang/Object;)Ljava/lang/Object;" = some ⟨[(.object "java/lang/String"), (.object "java/lang/Object")], some (.object "java/lang/Object")⟩ := by decide +kernel
theorem pd___I : parseMethodDescriptor "()I" = some ⟨[], some .int⟩ := by decide +kernel
theorem pd__Ljava_lang_Object__Z : parseMethodDescriptor "(Ljava/lang/Object;)Z" = some ⟨[(.object "java/lang/Object")], some .boolean⟩ := by decide +kernel
def own_law_Q (Z : State) (x0 : Int32) (x1 : Int32) (x2 : Int32) (x3 : Int32) (x4 : Int32) (w0 : Int32) (cA : Addr) (h0 : Heap) (n0 : Nat) (v : Option Value) (h : Heap) (L : List Loc) : Prop := v = some (.int 1) ∧ Fr n0 L
theorem own_law_ef (m : MethodId) (x0 : Int32) (x1 : Int32) (x2 : Int32) (x3 : Int32) (x4 : Int32) : entryFrame m #[(.int x0), (.int x1), (.int x2), (.int x3), (.int x4)] maxLocals = mkF m 0 #[.val (.int x0), .val (.int x1), .val (.int x2), .val (.int x3), .val (.int x4), .unset, .unset, .unset, .unset, .unset, .unset] [] := by first | (simp [entryFrame, mkF, argsToLocals, Value.category, maxLocals]; done) | rfl
theorem pn_ChecksGivenPinLaw : plainName "com/example/timeworth/timeworth/ChecksGivenPinLaw" = true := by first | (simp [plainName, overriddenIn]; done) | decide +kernel
set_option maxRecDepth 65536 in
set_option maxHeartbeats 40000000 in
theorem own_law_rm (l : Launch) (Z : State) (a0 : Array Value) (hw : ∀ d ∈ tables_1, d.before a0 Z = true) (ws : List Jvm.Cond) (x0 : Int32) (x1 : Int32) (x2 : Int32) (x3 : Int32) (x4 : Int32) (w0 : Int32) (cA : Addr) (h0 : Heap) (n0 : Nat) (Z0 : n0 ≤ h0.size) (pr0 : Sta Z h0 "java/lang/String" "COMPACT_STRINGS" "Z" (.int w0)) (pr1 : Sta Z h0 "java/lang/Integer$IntegerCache" "high" "I" (.int (127 : Int32))) (pr2 : Sta Z h0 "java/lang/Integer$IntegerCache" "cache" "[Ljava/lang/Integer;" (.ref cA)) (hw0 : ¬ (w0 = (0 : Int32))) (hC : OwnCache Z h0 cA) (hkp : ∀ (b : Addr) (cl : Cell), Z.heap[b]? = some cl → h0[b]? = some cl) (hcon : Jvm.Lit.constHeld Z "java/lang/String" 7) (hcw : Jvm.Lit.compactW.before a0 Z = true) :
    MetFree l x (head1 (Jvm.Cond.code x code maxLocals ret :: ws) room_1) (fun a U => a = #[(.int x0), (.int x1), (.int x2), (.int x3), (.int x4)] ∧ Z.Warmed39 U.vm ∧ U.heap = h0 ∧ U.vm.interned = Z.vm.interned) (fun _ _ _ _ _ => True) (fun _ U o U' => ∃ v L, o = .returned v ∧ own_law_Q Z x0 x1 x2 x3 x4 w0 cA h0 n0 v U'.heap L ∧ ReturnedEndW U o U' L room_1.cells room_1.slots) := by
  refine MetFree.of_bodySF (plainFor_of_name pn_ChecksGivenPinLaw) hisR ?_
  intro p e s m args below meth c s₁ Bd hml0 hP hK
  obtain ⟨rfl, hZ, hh, hI⟩ := hP
  have hx := Bd.exec
  have hby := Bd.bytes
  have hml : c.maxLocals = 11 := hml0
  have hown : s.vm.findClass "com/example/timeworth/timeworth/ChecksGivenPinLaw" = some m.cls := findClass_of_methodNamed Bd.named
  have hnm := (name_of_methodNamed Bd.named Bd.method).1
  have hlk : meth.locks = false := BodyLoose.notSynchronized Bd
  have hrt := Bd.returns
  have X0 : Stand p l e room_1 (s.setVm s.vm) m #[(.int x0), (.int x1), (.int x2), (.int x3), (.int x4)] below meth c s₁ [] 0 0 := Stand.of_body Bd
  have e0 : s₁.heap = h0 := by rw [← hh, Bd.state]; rfl
  have N0 := Fr.nil n0
  have hS0 := since0 s
  have hk0 : s.heap.size ≤ h0.size := by rw [hh]; exact Nat.le_refl _
  refine GoesW.enter (kc := room_1.cells) (kn := room_1.slots) (Q := own_law_Q Z x0 x1 x2 x3 x4 w0 cA h0 n0) (own_law_ef m x0 x1 x2 x3 x4) ?_
  refine GoesW.step (B := (s₁.setTop (mkF m 1 #[.val (.int x0), .val (.int x1), .val (.int x2), .val (.int x3), .val (.int x4), .unset, .unset, .unset, .unset, .unset, .unset] [(.int (2 : Int32))]))) (fun _ k => XS.iconst X0.here hx rfl (hb hby at_0) k) ?_
  obtain ⟨T101, h101, k101, X101, e101, E101, A101, st101⟩ := newP X0 hx hZ (hw _ (List.mem_of_getElem? (i := 0) rfl)) e0 (g := (mkF m 1 #[.val (.int x0), .val (.int x1), .val (.int x2), .val (.int x3), .val (.int x4), .unset, .unset, .unset, .unset, .unset, .unset] [(.int (2 : Int32))])) rfl (hb hby at_1) rfl (by decide) (cap := 2) (by decide) (by decide) (by decide) (by decide)
  obtain ⟨b101, g101⟩ : ∃ z, z = h0.size := ⟨_, rfl⟩
  rw [← g101] at A101 st101
  have gn101 : n0 ≤ b101 := Nat.le_trans Z0 (Nat.le_of_eq g101.symm)
  have sz101 : h0.size ≤ b101 := Nat.le_trans (Keep.refl h0 []).1 (Nat.le_of_eq g101.symm)
  have f102 := pr0.ext E101
  have f103 := pr1.ext E101
  have f104 := pr2.ext E101
  have V101 : Arv Z h101 b101 k101 .char (2 : Int32) [(.int (0 : Int32)), (.int (0 : Int32))] (.int (0 : Int32)) := (Arv.new A101 (by decide)).pad (pad_rep [] (.int (0 : Int32)) 2)
  have Z101 : n0 ≤ h101.size := Nat.le_trans Z0 E101.1
  have K101 : Keep h0 h101 [] := (Keep.refl h0 []).ext E101
  have hk101 := Nat.le_trans hk0 E101.1
  refine GoesW.step (B := (T101.setTop (mkF m 3 #[.val (.int x0), .val (.int x1), .val (.int x2), .val (.int x3), .val (.int x4), .unset, .unset, .unset, .unset, .unset, .unset] [(.ref b101)]))) (fun _ k => st101 _ k) ?_
  refine GoesW.step (B := (T101.setTop (mkF m 4 #[.val (.int x0), .val (.int x1), .val (.int x2), .val (.int x3), .val (.int x4), .unset, .unset, .unset, .unset, .unset, .unset] [(.ref b101), (.ref b101)]))) (fun _ k => XS.dup X101.here hx rfl (hb hby at_3) rfl rfl k) ?_
  refine GoesW.step (B := (T101.setTop (mkF m 5 #[.val (.int x0), .val (.int x1), .val (.int x2), .val (.int x3), .val (.int x4), .unset, .unset, .unset, .unset, .unset, .unset] [(.int (0 : Int32)), (.ref b101), (.ref b101)]))) (fun _ k => XS.iconst X101.here hx rfl (hb hby at_4) k) ?_
  refine GoesW.step (B := (T101.setTop (mkF m 6 #[.val (.int x0), .val (.int x1), .val (.int x2), .val (.int x3), .val (.int x4), .unset, .unset, .unset, .unset, .unset, .unset] [(.int x1), (.int (0 : Int32)), (.ref b101), (.ref b101)]))) (fun _ k => XS.iloadN X101.here hx rfl (hb hby at_5) rfl k) ?_
  refine GoesW.step (B := (T101.setTop (mkF m 9 #[.val (.int x0), .val (.int x1), .val (.int x2), .val (.int x3), .val (.int x4), .unset, .unset, .unset, .unset, .unset, .unset] [(.int (255 : Int32)), (.int x1), (.int (0 : Int32)), (.ref b101), (.ref b101)]))) (fun _ k => XS.sipush X101.here hx rfl (hb hby at_6) k) ?_
  refine GoesW.step (B := (T101.setTop (mkF m 10 #[.val (.int x0), .val (.int x1), .val (.int x2), .val (.int x3), .val (.int x4), .unset, .unset, .unset, .unset, .unset, .unset] [(.int (x1 &&& (255 : Int32))), (.int (0 : Int32)), (.ref b101), (.ref b101)]))) (fun _ k => XS.iand X101.here hx rfl (hb hby at_9) rfl k) ?_
  refine GoesW.step (B := (T101.setTop (mkF m 11 #[.val (.int x0), .val (.int x1), .val (.int x2), .val (.int x3), .val (.int x4), .unset, .unset, .unset, .unset, .unset, .unset] [(.int (x1 &&& (255 : Int32)).toUInt32.toUInt16.toUInt32.toInt32), (.int (0 : Int32)), (.ref b101), (.ref b101)]))) (fun _ k => XS.i2c X101.here hx rfl (hb hby at_10) rfl k) ?_
  obtain ⟨cl105, Ar105, q105, S105, M105, H105, G105⟩ := id V101
  have hin105 : ¬ ((0 : Int32) < 0 ∨ cl105.slots.size ≤ ((0 : Int32)).toNatClampNeg) := inb_of S105 ⟨by decide, by decide⟩
  obtain ⟨T105, h105, X105, e105, W105, st105⟩ := stC X101 hx hZ e101 Ar105 (j := (0 : Int32)) hin105 (g := (mkF m 11 #[.val (.int x0), .val (.int x1), .val (.int x2), .val (.int x3), .val (.int x4), .unset, .unset, .unset, .unset, .unset, .unset] [(.int (x1 &&& (255 : Int32)).toUInt32.toUInt16.toUInt32.toInt32), (.int (0 : Int32)), (.ref b101), (.ref b101)])) rfl rfl (hb hby at_11)
  have f106 := f102.wr W105
  have f107 := f103.wr W105
  have f108 := f104.wr W105
  have N105 := Fr.snoc X105 N0 gn101
  have K105 : Keep h0 h105 [] := K101.wr W105 (Or.inr sz101)
  have Z105 : n0 ≤ h105.size := Nat.le_trans Z101 (Nat.le_of_eq W105.size.symm)
  have hk105 := Nat.le_trans hk101 (Nat.le_of_eq W105.size.symm)
  have V105 : Arv Z h105 b101 k101 .char (2 : Int32) [(.int (nar .char (x1 &&& (255 : Int32)).toUInt32.toUInt16.toUInt32.toInt32)), (.int (0 : Int32))] (.int (0 : Int32)) := Arv.set Ar105 q105 S105 M105 H105 G105 (fits_nar_char _) W105 0 rfl (Nat.le_of_ble_eq_true rfl)
  refine GoesW.step (B := (T105.setTop (mkF m 12 #[.val (.int x0), .val (.int x1), .val (.int x2), .val (.int x3), .val (.int x4), .unset, .unset, .unset, .unset, .unset, .unset] [(.ref b101)]))) (fun _ k => st105 _ k) ?_
  refine GoesW.step (B := (T105.setTop (mkF m 13 #[.val (.int x0), .val (.int x1), .val (.int x2), .val (.int x3), .val (.int x4), .unset, .unset, .unset, .unset, .unset, .unset] [(.ref b101), (.ref b101)]))) (fun _ k => XS.dup X105.here hx rfl (hb hby at_12) rfl rfl k) ?_
  refine GoesW.step (B := (T105.setTop (mkF m 14 #[.val (.int x0), .val (.int x1), .val (.int x2), .val (.int x3), .val (.int x4), .unset, .unset, .unset, .unset, .unset, .unset] [(.int (1 : Int32)), (.ref b101), (.ref b101)]))) (fun _ k => XS.iconst X105.here hx rfl (hb hby at_13) k) ?_
  refine GoesW.step (B := (T105.setTop (mkF m 15 #[.val (.int x0), .val (.int x1), .val (.int x2), .val (.int x3), .val (.int x4), .unset, .unset, .unset, .unset, .unset, .unset] [(.int x2), (.int (1 : Int32)), (.ref b101), (.ref b101)]))) (fun _ k => XS.iloadN X105.here hx rfl (hb hby at_14) rfl k) ?_
  refine GoesW.step (B := (T105.setTop (mkF m 18 #[.val (.int x0), .val (.int x1), .val (.int x2), .val (.int x3), .val (.int x4), .unset, .unset, .unset, .unset, .unset, .unset] [(.int (255 : Int32)), (.int x2), (.int (1 : Int32)), (.ref b101), (.ref b101)]))) (fun _ k => XS.sipush X105.here hx rfl (hb hby at_15) k) ?_
  refine GoesW.step (B := (T105.setTop (mkF m 19 #[.val (.int x0), .val (.int x1), .val (.int x2), .val (.int x3), .val (.int x4), .unset, .unset, .unset, .unset, .unset, .unset] [(.int (x2 &&& (255 : Int32))), (.int (1 : Int32)), (.ref b101), (.ref b101)]))) (fun _ k => XS.iand X105.here hx rfl (hb hby at_18) rfl k) ?_
  refine GoesW.step (B := (T105.setTop (mkF m 20 #[.val (.int x0), .val (.int x1), .val (.int x2), .val (.int x3), .val (.int x4), .unset, .unset, .unset, .unset, .unset, .unset] [(.int (x2 &&& (255 : Int32)).toUInt32.toUInt16.toUInt32.toInt32), (.int (1 : Int32)), (.ref b101), (.ref b101)]))) (fun _ k => XS.i2c X105.here hx rfl (hb hby at_19) rfl k) ?_
  obtain ⟨cl109, Ar109, q109, S109, M109, H109, G109⟩ := id V105
  have hin109 : ¬ ((1 : Int32) < 0 ∨ cl109.slots.size ≤ ((1 : Int32)).toNatClampNeg) := inb_of S109 ⟨by decide, by decide⟩
  obtain ⟨T109, h109, X109, e109, W109, st109⟩ := stC X105 hx hZ e105 Ar109 (j := (1 : Int32)) hin109 (g := (mkF m 20 #[.val (.int x0), .val (.int x1), .val (.int x2), .val (.int x3), .val (.int x4), .unset, .unset, .unset, .unset, .unset, .unset] [(.int (x2 &&& (255 : Int32)).toUInt32.toUInt16.toUInt32.toInt32), (.int (1 : Int32)), (.ref b101), (.ref b101)])) rfl rfl (hb hby at_20)
  have f110 := f106.wr W109
  have f111 := f107.wr W109
  have f112 := f108.wr W109
  have N109 := Fr.snoc X109 N105 gn101
  have K109 : Keep h0 h109 [] := K105.wr W109 (Or.inr sz101)
  have Z109 : n0 ≤ h109.size := Nat.le_trans Z105 (Nat.le_of_eq W109.size.symm)
  have hk109 := Nat.le_trans hk105 (Nat.le_of_eq W109.size.symm)
  have V109 : Arv Z h109 b101 k101 .char (2 : Int32) [(.int (nar .char (x1 &&& (255 : Int32)).toUInt32.toUInt16.toUInt32.toInt32)), (.int (nar .char (x2 &&& (255 : Int32)).toUInt32.toUInt16.toUInt32.toInt32))] (.int (0 : Int32)) := Arv.set Ar109 q109 S109 M109 H109 G109 (fits_nar_char _) W109 1 rfl (Nat.le_of_ble_eq_true rfl)
  refine GoesW.step (B := (T109.setTop (mkF m 21 #[.val (.int x0), .val (.int x1), .val (.int x2), .val (.int x3), .val (.int x4), .unset, .unset, .unset, .unset, .unset, .unset] [(.ref b101)]))) (fun _ k => st109 _ k) ?_
  refine GoesW.step (B := (T109.setTop (mkF m 23 #[.val (.int x0), .val (.int x1), .val (.int x2), .val (.int x3), .val (.int x4), .val (.ref b101), .unset, .unset, .unset, .unset, .unset] []))) (fun _ k => XS.astore X109.here hx rfl (hb hby at_21) rfl rfl (l' := #[.val (.int x0), .val (.int x1), .val (.int x2), .val (.int x3), .val (.int x4), .val (.ref b101), .unset, .unset, .unset, .unset, .unset]) rfl k) ?_
  obtain ⟨T113, h113, X113, e113, E113, A113, D113, -, st113⟩ := newO X109 hx hZ hown (hw _ (List.mem_of_getElem? (i := 1) rfl)) (hw _ (List.mem_of_getElem? (i := 2) rfl)) (hw _ (List.mem_of_getElem? (i := 3) rfl)) e109 (g := (mkF m 23 #[.val (.int x0), .val (.int x1), .val (.int x2), .val (.int x3), .val (.int x4), .val (.ref b101), .unset, .unset, .unset, .unset, .unset] [])) rfl (hb hby at_23) (by decide) (by decide)
  obtain ⟨b113, g113⟩ : ∃ z, z = h109.size := ⟨_, rfl⟩
  rw [← g113] at A113 D113 st113
  have gn113 : n0 ≤ b113 := Nat.le_trans Z109 (Nat.le_of_eq g113.symm)
  have sz113 : h0.size ≤ b113 := Nat.le_trans K109.1 (Nat.le_of_eq g113.symm)
  have ne114 : b101 ≠ b113 := Nat.ne_of_lt (Nat.lt_of_lt_of_le V109.lt (Nat.le_of_eq g113.symm))
  have f115 := f110.ext E113
  have f116 := f111.ext E113
  have f117 := f112.ext E113
  have f118 := V109.ext E113
  have f119 : Fld Z h113 b113 "java/lang/String" "coder" "B" (.int (0 : Int32)) := D113 (Or.inr (hw _ (List.mem_of_getElem? (i := 27) rfl))) (ty := .byte) (by decide)
  have f120 : Fld Z h113 b113 "java/lang/String" "value" "[B" .null := D113 (Or.inr (hw _ (List.mem_of_getElem? (i := 29) rfl))) (ty := (.array .byte)) (by decide)
  have Z113 : n0 ≤ h113.size := Nat.le_trans Z109 E113.1
  have K113 : Keep h0 h113 [] := K109.ext E113
  have hk113 := Nat.le_trans hk109 E113.1
  refine GoesW.step (B := (T113.setTop (mkF m 26 #[.val (.int x0), .val (.int x1), .val (.int x2), .val (.int x3), .val (.int x4), .val (.ref b101), .unset, .unset, .unset, .unset, .unset] [(.ref b113)]))) (fun _ k => st113 _ k) ?_
  refine GoesW.step (B := (T113.setTop (mkF m 27 #[.val (.int x0), .val (.int x1), .val (.int x2), .val (.int x3), .val (.int x4), .val (.ref b101), .unset, .unset, .unset, .unset, .unset] [(.ref b113), (.ref b113)]))) (fun _ k => XS.dup X113.here hx rfl (hb hby at_26) rfl rfl k) ?_
  refine GoesW.step (B := (T113.setTop (mkF m 29 #[.val (.int x0), .val (.int x1), .val (.int x2), .val (.int x3), .val (.int x4), .val (.ref b101), .unset, .unset, .unset, .unset, .unset] [(.ref b101), (.ref b113), (.ref b113)]))) (fun _ k => XS.aload X113.here hx rfl (hb hby at_27) rfl rfl k) ?_
  obtain ⟨_, _, ⟨T121, L121, k121, n121⟩, -, X121, ⟨Lc121, hQ121, l121, y121, z121⟩, st121⟩ := X113.specialBack hx (y := (⟨"java/lang/String", "<init>", "([C)V"⟩ : MethodName)) rfl hown (mvT hZ (hw _ (List.mem_of_getElem? (i := 4) rfl))) (mvT hZ (hw _ (List.mem_of_getElem? (i := 5) rfl))) (mvT hZ (hw _ (List.mem_of_getElem? (i := 6) rfl))) (by decide) (backOf (W := 1) (own_s1_2_rm l Z a0 hw [] b113 b101 w0 k101 (nar .char (x1 &&& (255 : Int32)).toUInt32.toUInt16.toUInt32.toInt32) (nar .char (x2 &&& (255 : Int32)).toUInt32.toUInt16.toUInt32.toInt32) h113 n0 Z113 A113 f120 f119 f115 f118 gn113 ne114 hw0 (own_cc x1) (own_cc x2)) hZ (hw _ (List.mem_of_getElem? (i := 6) rfl)) (hw _ (List.mem_of_getElem? (i := 3) rfl)) (by decide) (by decide)) (g := (mkF m 29 #[.val (.int x0), .val (.int x1), .val (.int x2), .val (.int x3), .val (.int x4), .val (.ref b101), .unset, .unset, .unset, .unset, .unset] [(.ref b101), (.ref b113), (.ref b113)])) rfl (by rw [hml]; rfl) (Steps.refl _) (a := b113) (argsL := [(.ref b101)]) (rest := [(.ref b113)]) (lenOf pd__AC_V rfl) rfl (by show 2 * 0 + _ ≤ _; exact Nat.le_of_eq rfl) (hb hby at_29) (fun _ _ => ⟨rfl, e113, (by decide : 2 + 1 ≤ _), (by decide : 6 + 2 ≤ _)⟩)
  dsimp only [Pt.U, Pt.locs, Pt.cells, Pt.slots] at X121 l121 y121 z121 st121 hQ121
  subst l121 y121 z121
  obtain ⟨b_121, k2_121, rfl, N121q, K121q, gn121_b, sz121_b, p121_0, p121_1, p121_2, p121_3⟩ := hQ121
  have N121 := Fr.app N109 N121q
  have ne122 : b101 ≠ b_121 := Nat.ne_of_lt (Nat.lt_of_lt_of_le f118.lt sz121_b)
  have ne123 : b113 ≠ b_121 := Nat.ne_of_lt (Nat.lt_of_lt_of_le A113.lt sz121_b)
  have f124 := f115.keepN K121q (fun y q => by cases List.mem_singleton.mp q; exact A113.plainN)
  have f125 := f116.keepN K121q (fun y q => by cases List.mem_singleton.mp q; exact A113.plainN)
  have f126 := f117.keepN K121q (fun y q => by cases List.mem_singleton.mp q; exact A113.plainN)
  have f127 := f118.keep K121q (nm1 ne114)
  have f128 := A113.keep K121q
  have K121 : Keep h0 T121.heap [] := Keep.trans K113 K121q (fun y q => by cases List.mem_singleton.mp q; exact (Or.inr sz113))
  have Z121 : n0 ≤ T121.heap.size := Nat.le_trans Z113 K121q.1
  have hk121 := Nat.le_trans hk113 K121q.1
  have szz121_b : h0.size ≤ b_121 := Nat.le_trans K113.1 sz121_b
  refine GoesW.to (B := (T121.setTop (mkF m 32 #[.val (.int x0), .val (.int x1), .val (.int x2), .val (.int x3), .val (.int x4), .val (.ref b101), .unset, .unset, .unset, .unset, .unset] [(.ref b113)]))) st121 ?_
  refine GoesW.step (B := (T121.setTop (mkF m 34 #[.val (.int x0), .val (.int x1), .val (.int x2), .val (.int x3), .val (.int x4), .val (.ref b101), .val (.ref b113), .unset, .unset, .unset, .unset] []))) (fun _ k => XS.astore X121.here hx rfl (hb hby at_32) rfl rfl (l' := #[.val (.int x0), .val (.int x1), .val (.int x2), .val (.int x3), .val (.int x4), .val (.ref b101), .val (.ref b113), .unset, .unset, .unset, .unset]) rfl k) ?_
  refine GoesW.step (B := (T121.setTop (mkF m 36 #[.val (.int x0), .val (.int x1), .val (.int x2), .val (.int x3), .val (.int x4), .val (.ref b101), .val (.ref b113), .unset, .unset, .unset, .unset] [(.int x4)]))) (fun _ k => XS.iload X121.here hx rfl (hb hby at_34) rfl k) ?_
  refine GoesW.step (B := (T121.setTop (mkF m 37 #[.val (.int x0), .val (.int x1), .val (.int x2), .val (.int x3), .val (.int x4), .val (.ref b101), .val (.ref b113), .unset, .unset, .unset, .unset] [(.int (1 : Int32)), (.int x4)]))) (fun _ k => XS.iconst X121.here hx rfl (hb hby at_36) k) ?_
  refine GoesW.step (B := (T121.setTop (mkF m 38 #[.val (.int x0), .val (.int x1), .val (.int x2), .val (.int x3), .val (.int x4), .val (.ref b101), .val (.ref b113), .unset, .unset, .unset, .unset] [(.int (x4 &&& (1 : Int32)))]))) (fun _ k => XS.iand X121.here hx rfl (hb hby at_37) rfl k) ?_
  by_cases hc129 : (x4 &&& (1 : Int32)) = (0 : Int32)
  · refine GoesW.step (B := (T121.setTop (mkF m 47 #[.val (.int x0), .val (.int x1), .val (.int x2), .val (.int x3), .val (.int x4), .val (.ref b101), .val (.ref b113), .unset, .unset, .unset, .unset] []))) (fun _ k => XS.ifYes X121.here hx rfl (pc0 := 38) (pc' := 47) rfl (hb hby at_38) rfl ((if0 _ _).trans (teq hc129).1) (by decide) (by decide) k) ?_
    refine GoesW.step (B := (T121.setTop (mkF m 49 #[.val (.int x0), .val (.int x1), .val (.int x2), .val (.int x3), .val (.int x4), .val (.ref b101), .val (.ref b113), .unset, .unset, .unset, .unset] [(.int x4)]))) (fun _ k => XS.iload X121.here hx rfl (hb hby at_47) rfl k) ?_
    refine GoesW.step (B := (T121.setTop (mkF m 50 #[.val (.int x0), .val (.int x1), .val (.int x2), .val (.int x3), .val (.int x4), .val (.ref b101), .val (.ref b113), .unset, .unset, .unset, .unset] [(.int (2 : Int32)), (.int x4)]))) (fun _ k => XS.iconst X121.here hx rfl (hb hby at_49) k) ?_
    refine GoesW.step (B := (T121.setTop (mkF m 51 #[.val (.int x0), .val (.int x1), .val (.int x2), .val (.int x3), .val (.int x4), .val (.ref b101), .val (.ref b113), .unset, .unset, .unset, .unset] [(.int (x4 &&& (2 : Int32)))]))) (fun _ k => XS.iand X121.here hx rfl (hb hby at_50) rfl k) ?_
    by_cases hc130 : (x4 &&& (2 : Int32)) = (0 : Int32)
    · refine GoesW.step (B := (T121.setTop (mkF m 69 #[.val (.int x0), .val (.int x1), .val (.int x2), .val (.int x3), .val (.int x4), .val (.ref b101), .val (.ref b113), .unset, .unset, .unset, .unset] []))) (fun _ k => XS.ifYes X121.here hx rfl (pc0 := 51) (pc' := 69) rfl (hb hby at_51) rfl ((if0 _ _).trans (teq hc130).1) (by decide) (by decide) k) ?_
      refine GoesW.step (B := (T121.setTop (mkF m 70 #[.val (.int x0), .val (.int x1), .val (.int x2), .val (.int x3), .val (.int x4), .val (.ref b101), .val (.ref b113), .unset, .unset, .unset, .unset] [(.int x3)]))) (fun _ k => XS.iloadN X121.here hx rfl (hb hby at_69) rfl k) ?_
      refine GoesW.step (B := (T121.setTop (mkF m 73 #[.val (.int x0), .val (.int x1), .val (.int x2), .val (.int x3), .val (.int x4), .val (.ref b101), .val (.ref b113), .unset, .unset, .unset, .unset] [(.int (255 : Int32)), (.int x3)]))) (fun _ k => XS.sipush X121.here hx rfl (hb hby at_70) k) ?_
      refine GoesW.step (B := (T121.setTop (mkF m 74 #[.val (.int x0), .val (.int x1), .val (.int x2), .val (.int x3), .val (.int x4), .val (.ref b101), .val (.ref b113), .unset, .unset, .unset, .unset] [(.int (x3 &&& (255 : Int32)))]))) (fun _ k => XS.iand X121.here hx rfl (hb hby at_73) rfl k) ?_
      refine GoesW.step (B := (T121.setTop (mkF m 75 #[.val (.int x0), .val (.int x1), .val (.int x2), .val (.int x3), .val (.int x4), .val (.ref b101), .val (.ref b113), .unset, .unset, .unset, .unset] [(.int (x3 &&& (255 : Int32)).toUInt32.toUInt16.toUInt32.toInt32)]))) (fun _ k => XS.i2c X121.here hx rfl (hb hby at_74) rfl k) ?_
      obtain ⟨_, _, ⟨T131, L131, k131, n131⟩, -, X131, ⟨Lc131, hQ131, l131, y131, z131⟩, st131⟩ := Jvm.LawKit.callS X121 hx (y := (⟨"java/lang/String", "valueOf", "(C)Ljava/lang/String;"⟩ : MethodName)) hown (mvT hZ (hw _ (List.mem_of_getElem? (i := 30) rfl))) (mvT hZ (hw _ (List.mem_of_getElem? (i := 31) rfl))) (mvT hZ (hw _ (List.mem_of_getElem? (i := 3) rfl))) (mvT hZ (hw _ (List.mem_of_getElem? (i := 32) rfl))) (by decide) (backOf (W := 0) (own_vo_rm l Z a0 hw [] ((x3 &&& (255 : Int32)).toUInt32.toUInt16.toUInt32.toInt32) w0 T121.heap n0 Z121 f124 hw0 (own_ch x3)) hZ (hw _ (List.mem_of_getElem? (i := 32) rfl)) (hw _ (List.mem_of_getElem? (i := 3) rfl)) (by decide) (by decide)) (g := (mkF m 75 #[.val (.int x0), .val (.int x1), .val (.int x2), .val (.int x3), .val (.int x4), .val (.ref b101), .val (.ref b113), .unset, .unset, .unset, .unset] [(.int (x3 &&& (255 : Int32)).toUInt32.toUInt16.toUInt32.toInt32)])) rfl (by rw [hml]; rfl) (argsL := [(.int (x3 &&& (255 : Int32)).toUInt32.toUInt16.toUInt32.toInt32)]) (rest := []) (lenOf pd__C_Ljava_lang_String_ rfl) rfl (by show 2 * 0 + _ ≤ _; exact Nat.le_of_eq rfl) (hb hby at_75) (fun _ _ => ⟨rfl, rfl, (by decide : 3 + 2 ≤ _), (by decide : 8 + 5 ≤ _)⟩)
      dsimp only [Pt.U, Pt.locs, Pt.cells, Pt.slots] at X131 l131 y131 z131 st131 hQ131
      subst l131 y131 z131
      obtain ⟨b_131, rfl, N131q, K131q, gn131_b, sz131_b, p131_0⟩ := hQ131
      have N131 := Fr.app N121 N131q
      have ne132 : b101 ≠ b_131 := Nat.ne_of_lt (Nat.lt_of_lt_of_le f127.lt sz131_b)
      have ne133 : b113 ≠ b_131 := Nat.ne_of_lt (Nat.lt_of_lt_of_le p121_0.lt sz131_b)
      have ne134 : b_121 ≠ b_131 := Nat.ne_of_lt (Nat.lt_of_lt_of_le p121_3.lt sz131_b)
      have f135 := f124.keepN K131q (fun _ q => nomatch q)
      have f136 := f125.keepN K131q (fun _ q => nomatch q)
      have f137 := f126.keepN K131q (fun _ q => nomatch q)
      have f138 := f127.keep K131q nm0
      have f139 := p121_0.keep K131q
      have f140 := p121_1.keep K131q nm0
      have f141 := p121_2.keep K131q nm0
      have f142 := p121_3.keep K131q nm0
      have K131 : Keep h0 T131.heap [] := Keep.trans K121 K131q (fun _ q => nomatch q)
      have Z131 : n0 ≤ T131.heap.size := Nat.le_trans Z121 K131q.1
      have hk131 := Nat.le_trans hk121 K131q.1
      have szz131_b : h0.size ≤ b_131 := Nat.le_trans K121.1 sz131_b
      refine GoesW.step (B := (T131.setTop (mkF m 78 #[.val (.int x0), .val (.int x1), .val (.int x2), .val (.int x3), .val (.int x4), .val (.ref b101), .val (.ref b113), .unset, .unset, .unset, .unset] [(.ref b_131)]))) (fun _ k => st131 _ k) ?_
      refine GoesW.step (B := (T131.setTop (mkF m 80 #[.val (.int x0), .val (.int x1), .val (.int x2), .val (.int x3), .val (.int x4), .val (.ref b101), .val (.ref b113), .val (.ref b_131), .unset, .unset, .unset] []))) (fun _ k => XS.astore X131.here hx rfl (hb hby at_78) rfl rfl (l' := #[.val (.int x0), .val (.int x1), .val (.int x2), .val (.int x3), .val (.int x4), .val (.ref b101), .val (.ref b113), .val (.ref b_131), .unset, .unset, .unset]) rfl k) ?_
      refine GoesW.step (B := (T131.setTop (mkF m 81 #[.val (.int x0), .val (.int x1), .val (.int x2), .val (.int x3), .val (.int x4), .val (.ref b101), .val (.ref b113), .val (.ref b_131), .unset, .unset, .unset] [(.int x0)]))) (fun _ k => XS.iloadN X131.here hx rfl (hb hby at_80) rfl k) ?_
      obtain ⟨_, _, ⟨T143, L143, k143, n143⟩, -, X143, ⟨Lc143, hQ143, l143, y143, z143⟩, st143⟩ := Jvm.LawKit.callS X131 hx (y := (⟨"java/lang/Integer", "valueOf", "(I)Ljava/lang/Integer;"⟩ : MethodName)) hown (mvT hZ (hw _ (List.mem_of_getElem? (i := 44) rfl))) (mvT hZ (hw _ (List.mem_of_getElem? (i := 45) rfl))) (mvT hZ (hw _ (List.mem_of_getElem? (i := 46) rfl))) (mvT hZ (hw _ (List.mem_of_getElem? (i := 47) rfl))) (by decide) (backOf (W := 0) (own_iv_rm l Z a0 hw [] x0 cA T131.heap n0 Z131 f136 f137 (own_ck hC K131)) hZ (hw _ (List.mem_of_getElem? (i := 47) rfl)) (hw _ (List.mem_of_getElem? (i := 46) rfl)) (by decide) (by decide)) (g := (mkF m 81 #[.val (.int x0), .val (.int x1), .val (.int x2), .val (.int x3), .val (.int x4), .val (.ref b101), .val (.ref b113), .val (.ref b_131), .unset, .unset, .unset] [(.int x0)])) rfl (by rw [hml]; rfl) (argsL := [(.int x0)]) (rest := []) (lenOf pd__I_Ljava_lang_Integer_ rfl) rfl (by show 2 * 0 + _ ≤ _; exact Nat.le_of_eq rfl) (hb hby at_81) (fun _ _ => ⟨rfl, rfl, (by decide : 5 + 1 ≤ _), (by decide : 13 + 1 ≤ _)⟩)
      dsimp only [Pt.U, Pt.locs, Pt.cells, Pt.slots] at X143 l143 y143 z143 st143 hQ143
      subst l143 y143 z143
      obtain ⟨b_143, rfl, N143q, K143q, p143_0, p143_1⟩ := hQ143
      have N143 := Fr.app N131 N143q
      have f144 := f135.keepN K143q (fun _ q => nomatch q)
      have f145 := f136.keepN K143q (fun _ q => nomatch q)
      have f146 := f137.keepN K143q (fun _ q => nomatch q)
      have f147 := f138.keep K143q nm0
      have f148 := f139.keep K143q
      have f149 := f140.keep K143q nm0
      have f150 := f141.keep K143q nm0
      have f151 := f142.keep K143q nm0
      have f152 := p131_0.keep K143q
      have K143 : Keep h0 T143.heap [] := Keep.trans K131 K143q (fun _ q => nomatch q)
      have Z143 : n0 ≤ T143.heap.size := Nat.le_trans Z131 K143q.1
      have hk143 := Nat.le_trans hk131 K143q.1
      refine GoesW.step (B := (T143.setTop (mkF m 84 #[.val (.int x0), .val (.int x1), .val (.int x2), .val (.int x3), .val (.int x4), .val (.ref b101), .val (.ref b113), .val (.ref b_131), .unset, .unset, .unset] [(.ref b_143)]))) (fun _ k => st143 _ k) ?_
      refine GoesW.step (B := (T143.setTop (mkF m 86 #[.val (.int x0), .val (.int x1), .val (.int x2), .val (.int x3), .val (.int x4), .val (.ref b101), .val (.ref b113), .val (.ref b_131), .val (.ref b_143), .unset, .unset] []))) (fun _ k => XS.astore X143.here hx rfl (hb hby at_84) rfl rfl (l' := #[.val (.int x0), .val (.int x1), .val (.int x2), .val (.int x3), .val (.int x4), .val (.ref b101), .val (.ref b113), .val (.ref b_131), .val (.ref b_143), .unset, .unset]) rfl k) ?_
      refine GoesW.step (B := (T143.setTop (mkF m 88 #[.val (.int x0), .val (.int x1), .val (.int x2), .val (.int x3), .val (.int x4), .val (.ref b101), .val (.ref b113), .val (.ref b_131), .val (.ref b_143), .unset, .unset] [(.ref b_131)]))) (fun _ k => XS.aload X143.here hx rfl (hb hby at_86) rfl rfl k) ?_
      refine GoesW.step (B := (T143.setTop (mkF m 90 #[.val (.int x0), .val (.int x1), .val (.int x2), .val (.int x3), .val (.int x4), .val (.ref b101), .val (.ref b113), .val (.ref b_131), .val (.ref b_143), .unset, .unset] [(.ref b_143), (.ref b_131)]))) (fun _ k => XS.aload X143.here hx rfl (hb hby at_88) rfl rfl k) ?_
      obtain ⟨_, _, ⟨T153, L153, k153, n153⟩, -, X153, ⟨Lc153, hQ153, l153, y153, z153⟩, st153⟩ := Jvm.LawKit.callS X143 hx (y := (⟨"com/example/timeworth/timeworth/Checks", "given", "(Ljava/lang/String;Ljava/lang/Object;)Ljava/lang/Object;"⟩ : MethodName)) hown (mvT hZ (hw _ (List.mem_of_getElem? (i := 51) rfl))) (mvT hZ (hw _ (List.mem_of_getElem? (i := 52) rfl))) (mvT hZ (hw _ (List.mem_of_getElem? (i := 53) rfl))) (mvT hZ (hw _ (List.mem_of_getElem? (i := 54) rfl))) (by decide) (backOf (W := 0) (own_gR_rm l Z a0 hw [] b_131 b_143  T143.heap n0 Z143 ) hZ (hw _ (List.mem_of_getElem? (i := 54) rfl)) (hw _ (List.mem_of_getElem? (i := 53) rfl)) (by decide) (by decide)) (g := (mkF m 90 #[.val (.int x0), .val (.int x1), .val (.int x2), .val (.int x3), .val (.int x4), .val (.ref b101), .val (.ref b113), .val (.ref b_131), .val (.ref b_143), .unset, .unset] [(.ref b_143), (.ref b_131)])) rfl (by rw [hml]; rfl) (argsL := [(.ref b_131), (.ref b_143)]) (rest := []) (lenOf pd__Ljava_lang_String_Ljava_lang_Object__Ljava_lang_Object_ rfl) rfl (by show 2 * 0 + _ ≤ _; exact Nat.le_of_eq rfl) (hb hby at_90) (fun _ _ => ⟨rfl, rfl, (by decide : 6 + 0 ≤ _), (by decide : 14 + 0 ≤ _)⟩)
      dsimp only [Pt.U, Pt.locs, Pt.cells, Pt.slots] at X153 l153 y153 z153 st153 hQ153
      subst l153 y153 z153
      obtain ⟨rfl, N153q, e153⟩ := hQ153
      have N153 := Fr.app N143 N153q
      refine GoesW.step (B := (T153.setTop (mkF m 93 #[.val (.int x0), .val (.int x1), .val (.int x2), .val (.int x3), .val (.int x4), .val (.ref b101), .val (.ref b113), .val (.ref b_131), .val (.ref b_143), .unset, .unset] [(.ref b_143)]))) (fun _ k => st153 _ k) ?_
      obtain ⟨T154, X154, e154, st154⟩ := castY X153 hx hZ hown (hw _ (List.mem_of_getElem? (i := 55) rfl)) e153 (Ins.self p143_0) (g := (mkF m 93 #[.val (.int x0), .val (.int x1), .val (.int x2), .val (.int x3), .val (.int x4), .val (.ref b101), .val (.ref b113), .val (.ref b_131), .val (.ref b_143), .unset, .unset] [(.ref b_143)])) rfl rfl (hb hby at_93)
      refine GoesW.step (B := (T154.setTop (mkF m 96 #[.val (.int x0), .val (.int x1), .val (.int x2), .val (.int x3), .val (.int x4), .val (.ref b101), .val (.ref b113), .val (.ref b_131), .val (.ref b_143), .unset, .unset] [(.ref b_143)]))) (fun _ k => st154 _ k) ?_
      refine GoesW.step (B := (T154.setTop (mkF m 98 #[.val (.int x0), .val (.int x1), .val (.int x2), .val (.int x3), .val (.int x4), .val (.ref b101), .val (.ref b113), .val (.ref b_131), .val (.ref b_143), .val (.ref b_143), .unset] []))) (fun _ k => XS.astore X154.here hx rfl (hb hby at_96) rfl rfl (l' := #[.val (.int x0), .val (.int x1), .val (.int x2), .val (.int x3), .val (.int x4), .val (.ref b101), .val (.ref b113), .val (.ref b_131), .val (.ref b_143), .val (.ref b_143), .unset]) rfl k) ?_
      refine GoesW.step (B := (T154.setTop (mkF m 100 #[.val (.int x0), .val (.int x1), .val (.int x2), .val (.int x3), .val (.int x4), .val (.ref b101), .val (.ref b113), .val (.ref b_131), .val (.ref b_143), .val (.ref b_143), .unset] [(.ref b_131)]))) (fun _ k => XS.aload X154.here hx rfl (hb hby at_98) rfl rfl k) ?_
      refine GoesW.step (B := (T154.setTop (mkF m 102 #[.val (.int x0), .val (.int x1), .val (.int x2), .val (.int x3), .val (.int x4), .val (.ref b101), .val (.ref b113), .val (.ref b_131), .val (.ref b_143), .val (.ref b_143), .unset] [(.ref b113), (.ref b_131)]))) (fun _ k => XS.aload X154.here hx rfl (hb hby at_100) rfl rfl k) ?_
      obtain ⟨_, _, ⟨T155, L155, k155, n155⟩, -, X155, ⟨Lc155, hQ155, l155, y155, z155⟩, st155⟩ := Jvm.LawKit.callS X154 hx (y := (⟨"com/example/timeworth/timeworth/Checks", "given", "(Ljava/lang/String;Ljava/lang/Object;)Ljava/lang/Object;"⟩ : MethodName)) hown (mvT hZ (hw _ (List.mem_of_getElem? (i := 51) rfl))) (mvT hZ (hw _ (List.mem_of_getElem? (i := 52) rfl))) (mvT hZ (hw _ (List.mem_of_getElem? (i := 53) rfl))) (mvT hZ (hw _ (List.mem_of_getElem? (i := 54) rfl))) (by decide) (backOf (W := 0) (own_gR_rm l Z a0 hw [] b_131 b113  T143.heap n0 Z143 ) hZ (hw _ (List.mem_of_getElem? (i := 54) rfl)) (hw _ (List.mem_of_getElem? (i := 53) rfl)) (by decide) (by decide)) (g := (mkF m 102 #[.val (.int x0), .val (.int x1), .val (.int x2), .val (.int x3), .val (.int x4), .val (.ref b101), .val (.ref b113), .val (.ref b_131), .val (.ref b_143), .val (.ref b_143), .unset] [(.ref b113), (.ref b_131)])) rfl (by rw [hml]; rfl) (argsL := [(.ref b_131), (.ref b113)]) (rest := []) (lenOf pd__Ljava_lang_String_Ljava_lang_Object__Ljava_lang_Object_ rfl) rfl (by show 2 * 0 + _ ≤ _; exact Nat.le_of_eq rfl) (hb hby at_102) (fun _ _ => ⟨rfl, e154, (by decide : 6 + 0 ≤ _), (by decide : 14 + 0 ≤ _)⟩)
      dsimp only [Pt.U, Pt.locs, Pt.cells, Pt.slots] at X155 l155 y155 z155 st155 hQ155
      subst l155 y155 z155
      obtain ⟨rfl, N155q, e155⟩ := hQ155
      have N155 := Fr.app N153 N155q
      refine GoesW.step (B := (T155.setTop (mkF m 105 #[.val (.int x0), .val (.int x1), .val (.int x2), .val (.int x3), .val (.int x4), .val (.ref b101), .val (.ref b113), .val (.ref b_131), .val (.ref b_143), .val (.ref b_143), .unset] [(.ref b113)]))) (fun _ k => st155 _ k) ?_
      obtain ⟨T156, X156, e156, st156⟩ := castY X155 hx hZ hown (hw _ (List.mem_of_getElem? (i := 1) rfl)) e155 (Ins.self f148) (g := (mkF m 105 #[.val (.int x0), .val (.int x1), .val (.int x2), .val (.int x3), .val (.int x4), .val (.ref b101), .val (.ref b113), .val (.ref b_131), .val (.ref b_143), .val (.ref b_143), .unset] [(.ref b113)])) rfl rfl (hb hby at_105)
      refine GoesW.step (B := (T156.setTop (mkF m 108 #[.val (.int x0), .val (.int x1), .val (.int x2), .val (.int x3), .val (.int x4), .val (.ref b101), .val (.ref b113), .val (.ref b_131), .val (.ref b_143), .val (.ref b_143), .unset] [(.ref b113)]))) (fun _ k => st156 _ k) ?_
      refine GoesW.step (B := (T156.setTop (mkF m 110 #[.val (.int x0), .val (.int x1), .val (.int x2), .val (.int x3), .val (.int x4), .val (.ref b101), .val (.ref b113), .val (.ref b_131), .val (.ref b_143), .val (.ref b_143), .val (.ref b113)] []))) (fun _ k => XS.astore X156.here hx rfl (hb hby at_108) rfl rfl (l' := #[.val (.int x0), .val (.int x1), .val (.int x2), .val (.int x3), .val (.int x4), .val (.ref b101), .val (.ref b113), .val (.ref b_131), .val (.ref b_143), .val (.ref b_143), .val (.ref b113)]) rfl k) ?_
      refine GoesW.step (B := (T156.setTop (mkF m 112 #[.val (.int x0), .val (.int x1), .val (.int x2), .val (.int x3), .val (.int x4), .val (.ref b101), .val (.ref b113), .val (.ref b_131), .val (.ref b_143), .val (.ref b_143), .val (.ref b113)] [(.ref b_143)]))) (fun _ k => XS.aload X156.here hx rfl (hb hby at_110) rfl rfl k) ?_
      refine GoesW.step (B := (T156.setTop (mkF m 114 #[.val (.int x0), .val (.int x1), .val (.int x2), .val (.int x3), .val (.int x4), .val (.ref b101), .val (.ref b113), .val (.ref b_131), .val (.ref b_143), .val (.ref b_143), .val (.ref b113)] [(.ref b_143), (.ref b_143)]))) (fun _ k => XS.aload X156.here hx rfl (hb hby at_112) rfl rfl k) ?_
      refine GoesW.step (B := (T156.setTop (mkF m 117 #[.val (.int x0), .val (.int x1), .val (.int x2), .val (.int x3), .val (.int x4), .val (.ref b101), .val (.ref b113), .val (.ref b_131), .val (.ref b_143), .val (.ref b_143), .val (.ref b113)] []))) (fun _ k => Jvm.RoadKit.acmp (g := (mkF m 114 #[.val (.int x0), .val (.int x1), .val (.int x2), .val (.int x3), .val (.int x4), .val (.ref b101), .val (.ref b113), .val (.ref b_131), .val (.ref b_143), .val (.ref b_143), .val (.ref b113)] [(.ref b_143), (.ref b_143)])) X156 hx rfl rfl rfl (pc0 := 114) (pc' := 117) (same := true) rfl (hb hby at_114) rfl (decide_eq_true rfl) (by decide) (by decide) k) ?_
      refine GoesW.step (B := (T156.setTop (mkF m 119 #[.val (.int x0), .val (.int x1), .val (.int x2), .val (.int x3), .val (.int x4), .val (.ref b101), .val (.ref b113), .val (.ref b_131), .val (.ref b_143), .val (.ref b_143), .val (.ref b113)] [(.ref b_143)]))) (fun _ k => XS.aload X156.here hx rfl (hb hby at_117) rfl rfl k) ?_
      obtain ⟨cq157, kq157, q157a, q157b, q157c⟩ := isOf hZ e156 p143_0
      obtain ⟨_, _, ⟨T157, L157, k157, n157⟩, -, X157, ⟨Lc157, hQ157, l157, y157, z157⟩, st157⟩ := X156.virtualBack hx (y := (⟨"java/lang/Integer", "intValue", "()I"⟩ : MethodName)) (z := (⟨"java/lang/Integer", "intValue", "()I"⟩ : MethodName)) hown (mvT hZ (hw _ (List.mem_of_getElem? (i := 57) rfl))) (mvT hZ (hw _ (List.mem_of_getElem? (i := 58) rfl))) (notFace_of_selects (args := #[]) (mvT hZ (hw _ (List.mem_of_getElem? (i := 60) rfl)))) (mvT hZ (hw _ (List.mem_of_getElem? (i := 60) rfl))) (mvT hZ (hw _ (List.mem_of_getElem? (i := 59) rfl))) (by decide) (backOf (W := 0) (own_it_rm l Z a0 hw [] b_143 x0 T143.heap n0 Z143 p143_1) hZ (hw _ (List.mem_of_getElem? (i := 61) rfl)) (hw _ (List.mem_of_getElem? (i := 46) rfl)) (by decide) (by decide)) q157a q157c (g := (mkF m 119 #[.val (.int x0), .val (.int x1), .val (.int x2), .val (.int x3), .val (.int x4), .val (.ref b101), .val (.ref b113), .val (.ref b_131), .val (.ref b_143), .val (.ref b_143), .val (.ref b113)] [(.ref b_143)])) rfl (by rw [hml]; rfl) (Steps.refl _) (argsL := []) (rest := []) (lenOf pd___I rfl) rfl (by show 2 * 0 + _ ≤ _; exact Nat.le_of_eq rfl) (hb hby at_119) (fun _ _ => ⟨rfl, e156, (by decide : 6 + 0 ≤ _), (by decide : 14 + 0 ≤ _)⟩)
      dsimp only [Pt.U, Pt.locs, Pt.cells, Pt.slots] at X157 l157 y157 z157 st157 hQ157
      subst l157 y157 z157
      obtain ⟨rfl, N157q, e157⟩ := hQ157
      have N157 := Fr.app N155 N157q
      refine GoesW.to (B := (T157.setTop (mkF m 122 #[.val (.int x0), .val (.int x1), .val (.int x2), .val (.int x3), .val (.int x4), .val (.ref b101), .val (.ref b113), .val (.ref b_131), .val (.ref b_143), .val (.ref b_143), .val (.ref b113)] [(.int (own_it_fn x0))]))) st157 ?_
      refine GoesW.step (B := (T157.setTop (mkF m 123 #[.val (.int x0), .val (.int x1), .val (.int x2), .val (.int x3), .val (.int x4), .val (.ref b101), .val (.ref b113), .val (.ref b_131), .val (.ref b_143), .val (.ref b_143), .val (.ref b113)] [(.int x0), (.int (own_it_fn x0))]))) (fun _ k => XS.iloadN X157.here hx rfl (hb hby at_122) rfl k) ?_
      have hc158 : (own_it_fn x0) = x0 := rfl
      refine GoesW.step (B := (T157.setTop (mkF m 126 #[.val (.int x0), .val (.int x1), .val (.int x2), .val (.int x3), .val (.int x4), .val (.ref b101), .val (.ref b113), .val (.ref b_131), .val (.ref b_143), .val (.ref b_143), .val (.ref b113)] []))) (fun _ k => XS.icmpNo X157.here hx rfl (hb hby at_123) rfl (teq hc158).2 k) ?_
      refine GoesW.step (B := (T157.setTop (mkF m 128 #[.val (.int x0), .val (.int x1), .val (.int x2), .val (.int x3), .val (.int x4), .val (.ref b101), .val (.ref b113), .val (.ref b_131), .val (.ref b_143), .val (.ref b_143), .val (.ref b113)] [(.ref b113)]))) (fun _ k => XS.aload X157.here hx rfl (hb hby at_126) rfl rfl k) ?_
      refine GoesW.step (B := (T157.setTop (mkF m 130 #[.val (.int x0), .val (.int x1), .val (.int x2), .val (.int x3), .val (.int x4), .val (.ref b101), .val (.ref b113), .val (.ref b_131), .val (.ref b_143), .val (.ref b_143), .val (.ref b113)] [(.ref b113), (.ref b113)]))) (fun _ k => XS.aload X157.here hx rfl (hb hby at_128) rfl rfl k) ?_
      refine GoesW.step (B := (T157.setTop (mkF m 133 #[.val (.int x0), .val (.int x1), .val (.int x2), .val (.int x3), .val (.int x4), .val (.ref b101), .val (.ref b113), .val (.ref b_131), .val (.ref b_143), .val (.ref b_143), .val (.ref b113)] []))) (fun _ k => Jvm.RoadKit.acmp (g := (mkF m 130 #[.val (.int x0), .val (.int x1), .val (.int x2), .val (.int x3), .val (.int x4), .val (.ref b101), .val (.ref b113), .val (.ref b_131), .val (.ref b_143), .val (.ref b_143), .val (.ref b113)] [(.ref b113), (.ref b113)])) X157 hx rfl rfl rfl (pc0 := 130) (pc' := 133) (same := true) rfl (hb hby at_130) rfl (decide_eq_true rfl) (by decide) (by decide) k) ?_
      refine GoesW.step (B := (T157.setTop (mkF m 135 #[.val (.int x0), .val (.int x1), .val (.int x2), .val (.int x3), .val (.int x4), .val (.ref b101), .val (.ref b113), .val (.ref b_131), .val (.ref b_143), .val (.ref b_143), .val (.ref b113)] [(.ref b113)]))) (fun _ k => XS.aload X157.here hx rfl (hb hby at_133) rfl rfl k) ?_
      obtain ⟨cq159, kq159, q159a, q159b, q159c⟩ := isOf hZ e157 f148
      obtain ⟨_, _, ⟨T159, L159, k159, n159⟩, -, X159, ⟨Lc159, hQ159, l159, y159, z159⟩, st159⟩ := X157.virtualBack hx (y := (⟨"java/lang/String", "length", "()I"⟩ : MethodName)) (z := (⟨"java/lang/String", "length", "()I"⟩ : MethodName)) hown (mvT hZ (hw _ (List.mem_of_getElem? (i := 64) rfl))) (mvT hZ (hw _ (List.mem_of_getElem? (i := 65) rfl))) (notFace_of_selects (args := #[]) (mvT hZ (hw _ (List.mem_of_getElem? (i := 67) rfl)))) (mvT hZ (hw _ (List.mem_of_getElem? (i := 67) rfl))) (mvT hZ (hw _ (List.mem_of_getElem? (i := 66) rfl))) (by decide) (backOf (W := 0) (own_ln_rm l Z a0 hw [] b113 w0 b_121 k2_121 ([(.int (nar .byte (nar .char (x1 &&& (255 : Int32)).toUInt32.toUInt16.toUInt32.toInt32).toInt8.toInt32)), (.int (nar .byte (nar .char (x2 &&& (255 : Int32)).toUInt32.toUInt16.toUInt32.toInt32).toInt8.toInt32))]) (.int (0 : Int32)) T143.heap n0 Z143 f144 f148 f150 f149 f151 hw0) hZ (hw _ (List.mem_of_getElem? (i := 68) rfl)) (hw _ (List.mem_of_getElem? (i := 3) rfl)) (by decide) (by decide)) q159a q159c (g := (mkF m 135 #[.val (.int x0), .val (.int x1), .val (.int x2), .val (.int x3), .val (.int x4), .val (.ref b101), .val (.ref b113), .val (.ref b_131), .val (.ref b_143), .val (.ref b_143), .val (.ref b113)] [(.ref b113)])) rfl (by rw [hml]; rfl) (Steps.refl _) (argsL := []) (rest := []) (lenOf pd___I rfl) rfl (by show 2 * 0 + _ ≤ _; exact Nat.le_of_eq rfl) (hb hby at_135) (fun _ _ => ⟨rfl, e157, (by decide : 6 + 0 ≤ _), (by decide : 14 + 0 ≤ _)⟩)
      dsimp only [Pt.U, Pt.locs, Pt.cells, Pt.slots] at X159 l159 y159 z159 st159 hQ159
      subst l159 y159 z159
      obtain ⟨rfl, N159q, e159⟩ := hQ159
      have N159 := Fr.app N157 N159q
      refine GoesW.to (B := (T159.setTop (mkF m 138 #[.val (.int x0), .val (.int x1), .val (.int x2), .val (.int x3), .val (.int x4), .val (.ref b101), .val (.ref b113), .val (.ref b_131), .val (.ref b_143), .val (.ref b_143), .val (.ref b113)] [(.int (own_ln_fn w0))]))) st159 ?_
      refine GoesW.step (B := (T159.setTop (mkF m 139 #[.val (.int x0), .val (.int x1), .val (.int x2), .val (.int x3), .val (.int x4), .val (.ref b101), .val (.ref b113), .val (.ref b_131), .val (.ref b_143), .val (.ref b_143), .val (.ref b113)] [(.int (2 : Int32)), (.int (own_ln_fn w0))]))) (fun _ k => XS.iconst X159.here hx rfl (hb hby at_138) k) ?_
      have hc160 : (own_ln_fn w0) = (2 : Int32) := show ((2 : Int32) >>> ((0 : Int32) &&& (31 : Int32))) = (2 : Int32) from by decide
      refine GoesW.step (B := (T159.setTop (mkF m 142 #[.val (.int x0), .val (.int x1), .val (.int x2), .val (.int x3), .val (.int x4), .val (.ref b101), .val (.ref b113), .val (.ref b_131), .val (.ref b_143), .val (.ref b_143), .val (.ref b113)] []))) (fun _ k => XS.icmpNo X159.here hx rfl (hb hby at_139) rfl (teq hc160).2 k) ?_
      refine GoesW.step (B := (T159.setTop (mkF m 144 #[.val (.int x0), .val (.int x1), .val (.int x2), .val (.int x3), .val (.int x4), .val (.ref b101), .val (.ref b113), .val (.ref b_131), .val (.ref b_143), .val (.ref b_143), .val (.ref b113)] [(.ref b113)]))) (fun _ k => XS.aload X159.here hx rfl (hb hby at_142) rfl rfl k) ?_
      refine GoesW.step (B := (T159.setTop (mkF m 146 #[.val (.int x0), .val (.int x1), .val (.int x2), .val (.int x3), .val (.int x4), .val (.ref b101), .val (.ref b113), .val (.ref b_131), .val (.ref b_143), .val (.ref b_143), .val (.ref b113)] [(.ref b113), (.ref b113)]))) (fun _ k => XS.aload X159.here hx rfl (hb hby at_144) rfl rfl k) ?_
      obtain ⟨cq161, kq161, q161a, q161b, q161c⟩ := isOf hZ e159 f148
      obtain ⟨_, _, ⟨T161, L161, k161, n161⟩, -, X161, ⟨Lc161, hQ161, l161, y161, z161⟩, st161⟩ := X159.virtualBack hx (y := (⟨"java/lang/String", "equals", "(Ljava/lang/Object;)Z"⟩ : MethodName)) (z := (⟨"java/lang/String", "equals", "(Ljava/lang/Object;)Z"⟩ : MethodName)) hown (mvT hZ (hw _ (List.mem_of_getElem? (i := 74) rfl))) (mvT hZ (hw _ (List.mem_of_getElem? (i := 75) rfl))) (notFace_of_selects (args := #[]) (mvT hZ (hw _ (List.mem_of_getElem? (i := 77) rfl)))) (mvT hZ (hw _ (List.mem_of_getElem? (i := 77) rfl))) (mvT hZ (hw _ (List.mem_of_getElem? (i := 76) rfl))) (by decide) (backOf (W := 0) (own_eqS_rm l Z a0 hw [] b113 b113  T143.heap n0 Z143 rfl) hZ (hw _ (List.mem_of_getElem? (i := 78) rfl)) (hw _ (List.mem_of_getElem? (i := 3) rfl)) (by decide) (by decide)) q161a q161c (g := (mkF m 146 #[.val (.int x0), .val (.int x1), .val (.int x2), .val (.int x3), .val (.int x4), .val (.ref b101), .val (.ref b113), .val (.ref b_131), .val (.ref b_143), .val (.ref b_143), .val (.ref b113)] [(.ref b113), (.ref b113)])) rfl (by rw [hml]; rfl) (Steps.refl _) (argsL := [(.ref b113)]) (rest := []) (lenOf pd__Ljava_lang_Object__Z rfl) rfl (by show 2 * 0 + _ ≤ _; exact Nat.le_of_eq rfl) (hb hby at_146) (fun _ _ => ⟨rfl, e159, (by decide : 6 + 0 ≤ _), (by decide : 14 + 0 ≤ _)⟩)
      dsimp only [Pt.U, Pt.locs, Pt.cells, Pt.slots] at X161 l161 y161 z161 st161 hQ161
      subst l161 y161 z161
      obtain ⟨rfl, N161q, e161⟩ := hQ161
      have N161 := Fr.app N159 N161q
      refine GoesW.to (B := (T161.setTop (mkF m 149 #[.val (.int x0), .val (.int x1), .val (.int x2), .val (.int x3), .val (.int x4), .val (.ref b101), .val (.ref b113), .val (.ref b_131), .val (.ref b_143), .val (.ref b_143), .val (.ref b113)] [(.int (own_eqS_fn))]))) st161 ?_
      have hc162 : ¬ ((own_eqS_fn) = (0 : Int32)) := by decide
      refine GoesW.step (B := (T161.setTop (mkF m 152 #[.val (.int x0), .val (.int x1), .val (.int x2), .val (.int x3), .val (.int x4), .val (.ref b101), .val (.ref b113), .val (.ref b_131), .val (.ref b_143), .val (.ref b_143), .val (.ref b113)] []))) (fun _ k => XS.ifNo X161.here hx rfl (hb hby at_149) rfl ((if0 _ _).trans (feq hc162).1) k) ?_
      refine GoesW.step (B := (T161.setTop (mkF m 153 #[.val (.int x0), .val (.int x1), .val (.int x2), .val (.int x3), .val (.int x4), .val (.ref b101), .val (.ref b113), .val (.ref b_131), .val (.ref b_143), .val (.ref b_143), .val (.ref b113)] [(.int (1 : Int32))]))) (fun _ k => XS.iconst X161.here hx rfl (hb hby at_152) k) ?_
      refine GoesW.step (B := (T161.setTop (mkF m 157 #[.val (.int x0), .val (.int x1), .val (.int x2), .val (.int x3), .val (.int x4), .val (.ref b101), .val (.ref b113), .val (.ref b_131), .val (.ref b_143), .val (.ref b_143), .val (.ref b113)] [(.int (1 : Int32))]))) (fun _ k => XS.goto X161.here hx rfl (pc0 := 153) (pc' := 157) rfl (hb hby at_153) (by decide) (by decide) k) ?_
      refine GoesW.retN X161 hS0 (by rw [e161]; exact hk143) hx hlk (t := .boolean) hrt (by simp) (hb hby at_157) ?_ (by decide) (by decide)
      rw [e161]
      exact ⟨rfl, N161⟩
    · refine GoesW.step (B := (T121.setTop (mkF m 54 #[.val (.int x0), .val (.int x1), .val (.int x2), .val (.int x3), .val (.int x4), .val (.ref b101), .val (.ref b113), .unset, .unset, .unset, .unset] []))) (fun _ k => XS.ifNo X121.here hx rfl (hb hby at_51) rfl ((if0 _ _).trans (feq hc130).1) k) ?_
      obtain ⟨T163, h163, X163, e163, E163, A163, D163, -, st163⟩ := newO X121 hx hZ hown (hw _ (List.mem_of_getElem? (i := 1) rfl)) (hw _ (List.mem_of_getElem? (i := 2) rfl)) (hw _ (List.mem_of_getElem? (i := 3) rfl)) rfl (g := (mkF m 54 #[.val (.int x0), .val (.int x1), .val (.int x2), .val (.int x3), .val (.int x4), .val (.ref b101), .val (.ref b113), .unset, .unset, .unset, .unset] [])) rfl (hb hby at_54) (by decide) (by decide)
      obtain ⟨b163, g163⟩ : ∃ z, z = T121.heap.size := ⟨_, rfl⟩
      rw [← g163] at A163 D163 st163
      have gn163 : n0 ≤ b163 := Nat.le_trans Z121 (Nat.le_of_eq g163.symm)
      have sz163 : h0.size ≤ b163 := Nat.le_trans K121.1 (Nat.le_of_eq g163.symm)
      have ne164 : b101 ≠ b163 := Nat.ne_of_lt (Nat.lt_of_lt_of_le f127.lt (Nat.le_of_eq g163.symm))
      have ne165 : b113 ≠ b163 := Nat.ne_of_lt (Nat.lt_of_lt_of_le p121_0.lt (Nat.le_of_eq g163.symm))
      have ne166 : b_121 ≠ b163 := Nat.ne_of_lt (Nat.lt_of_lt_of_le p121_3.lt (Nat.le_of_eq g163.symm))
      have f167 := f124.ext E163
      have f168 := f125.ext E163
      have f169 := f126.ext E163
      have f170 := f127.ext E163
      have f171 := p121_0.ext E163
      have f172 := p121_1.ext E163
      have f173 := p121_2.ext E163
      have f174 := p121_3.ext E163
      have f175 : Fld Z h163 b163 "java/lang/String" "coder" "B" (.int (0 : Int32)) := D163 (Or.inr (hw _ (List.mem_of_getElem? (i := 27) rfl))) (ty := .byte) (by decide)
      have f176 : Fld Z h163 b163 "java/lang/String" "value" "[B" .null := D163 (Or.inr (hw _ (List.mem_of_getElem? (i := 29) rfl))) (ty := (.array .byte)) (by decide)
      have Z163 : n0 ≤ h163.size := Nat.le_trans Z121 E163.1
      have K163 : Keep h0 h163 [] := K121.ext E163
      have hk163 := Nat.le_trans hk121 E163.1
      refine GoesW.step (B := (T163.setTop (mkF m 57 #[.val (.int x0), .val (.int x1), .val (.int x2), .val (.int x3), .val (.int x4), .val (.ref b101), .val (.ref b113), .unset, .unset, .unset, .unset] [(.ref b163)]))) (fun _ k => st163 _ k) ?_
      refine GoesW.step (B := (T163.setTop (mkF m 58 #[.val (.int x0), .val (.int x1), .val (.int x2), .val (.int x3), .val (.int x4), .val (.ref b101), .val (.ref b113), .unset, .unset, .unset, .unset] [(.ref b163), (.ref b163)]))) (fun _ k => XS.dup X163.here hx rfl (hb hby at_57) rfl rfl k) ?_
      refine GoesW.step (B := (T163.setTop (mkF m 59 #[.val (.int x0), .val (.int x1), .val (.int x2), .val (.int x3), .val (.int x4), .val (.ref b101), .val (.ref b113), .unset, .unset, .unset, .unset] [(.int (0 : Int32)), (.ref b163), (.ref b163)]))) (fun _ k => XS.iconst X163.here hx rfl (hb hby at_58) k) ?_
      obtain ⟨T177, h177, k177, X177, e177, E177, A177, st177⟩ := newP X163 hx hZ (hw _ (List.mem_of_getElem? (i := 0) rfl)) e163 (g := (mkF m 59 #[.val (.int x0), .val (.int x1), .val (.int x2), .val (.int x3), .val (.int x4), .val (.ref b101), .val (.ref b113), .unset, .unset, .unset, .unset] [(.int (0 : Int32)), (.ref b163), (.ref b163)])) rfl (hb hby at_59) rfl (by decide) (cap := 0) (by decide) (by decide) (by decide) (by decide)
      obtain ⟨b177, g177⟩ : ∃ z, z = h163.size := ⟨_, rfl⟩
      rw [← g177] at A177 st177
      have gn177 : n0 ≤ b177 := Nat.le_trans Z163 (Nat.le_of_eq g177.symm)
      have sz177 : h0.size ≤ b177 := Nat.le_trans K163.1 (Nat.le_of_eq g177.symm)
      have ne178 : b101 ≠ b177 := Nat.ne_of_lt (Nat.lt_of_lt_of_le f170.lt (Nat.le_of_eq g177.symm))
      have ne179 : b113 ≠ b177 := Nat.ne_of_lt (Nat.lt_of_lt_of_le f171.lt (Nat.le_of_eq g177.symm))
      have ne180 : b_121 ≠ b177 := Nat.ne_of_lt (Nat.lt_of_lt_of_le f174.lt (Nat.le_of_eq g177.symm))
      have ne181 : b163 ≠ b177 := Nat.ne_of_lt (Nat.lt_of_lt_of_le A163.lt (Nat.le_of_eq g177.symm))
      have f182 := f167.ext E177
      have f183 := f168.ext E177
      have f184 := f169.ext E177
      have f185 := f170.ext E177
      have f186 := f171.ext E177
      have f187 := f172.ext E177
      have f188 := f173.ext E177
      have f189 := f174.ext E177
      have f190 := A163.ext E177
      have f191 := f175.ext E177
      have f192 := f176.ext E177
      have V177 : Arv Z h177 b177 k177 .char (0 : Int32) [] (.int (0 : Int32)) := Arv.new A177 (by decide)
      have Z177 : n0 ≤ h177.size := Nat.le_trans Z163 E177.1
      have K177 : Keep h0 h177 [] := K163.ext E177
      have hk177 := Nat.le_trans hk163 E177.1
      refine GoesW.step (B := (T177.setTop (mkF m 61 #[.val (.int x0), .val (.int x1), .val (.int x2), .val (.int x3), .val (.int x4), .val (.ref b101), .val (.ref b113), .unset, .unset, .unset, .unset] [(.ref b177), (.ref b163), (.ref b163)]))) (fun _ k => st177 _ k) ?_
      obtain ⟨_, _, ⟨T193, L193, k193, n193⟩, -, X193, hSq193, hgr193, ⟨Lc193, hQ193, l193, y193, z193⟩, st193⟩ := X177.specialBackS hx (y := (⟨"java/lang/String", "<init>", "([C)V"⟩ : MethodName)) rfl hown (mvT hZ (hw _ (List.mem_of_getElem? (i := 4) rfl))) (mvT hZ (hw _ (List.mem_of_getElem? (i := 5) rfl))) (mvT hZ (hw _ (List.mem_of_getElem? (i := 6) rfl))) (by decide) (backOfI (W := 1) (own_s10_rm l Z a0 hw [] b163 b177 k177 h177 n0 Z177 f190 f192 f191 V177 gn163 (Ne.symm ne181) (fun b cl q => K177.2.1 b cl (hkp b cl q) nm0) hcon hcw) hZ hI (hw _ (List.mem_of_getElem? (i := 6) rfl)) (hw _ (List.mem_of_getElem? (i := 3) rfl)) (by decide) (by decide)) (g := (mkF m 61 #[.val (.int x0), .val (.int x1), .val (.int x2), .val (.int x3), .val (.int x4), .val (.ref b101), .val (.ref b113), .unset, .unset, .unset, .unset] [(.ref b177), (.ref b163), (.ref b163)])) rfl (by rw [hml]; rfl) (Steps.refl _) (a := b163) (argsL := [(.ref b177)]) (rest := [(.ref b163)]) (lenOf pd__AC_V rfl) rfl (by show 2 * 0 + _ ≤ _; exact Nat.le_of_eq rfl) (hb hby at_61) (fun _ _ => ⟨rfl, e177, (by decide : 5 + 2 ≤ _), (by decide : 12 + 4 ≤ _)⟩)
      dsimp only [Pt.U, Pt.locs, Pt.cells, Pt.slots] at X193 l193 y193 z193 st193 hQ193 hSq193 hgr193
      subst l193 y193 z193
      have hk193 := Nat.le_trans (by rw [e177]; exact hk177) hgr193
      have hS193 := hS0.trans hSq193 hk193
      have hZ193 : Z.Warmed39 T193.vm := State.Warmed39.trans hZ hSq193.1
      have hown193 : T193.vm.findClass "com/example/timeworth/timeworth/ChecksGivenPinLaw" = some m.cls := by rw [hSq193.1.alike.findClass]; exact hown
      obtain ⟨rfl, N193q, K193q, p193_0⟩ := hQ193
      have N193 := Fr.app N121 N193q
      have f194 := f182.keepN K193q (fun y q => by cases List.mem_singleton.mp q; exact f190.plainN)
      have f195 := f183.keepN K193q (fun y q => by cases List.mem_singleton.mp q; exact f190.plainN)
      have f196 := f184.keepN K193q (fun y q => by cases List.mem_singleton.mp q; exact f190.plainN)
      have f197 := f185.keep K193q (nm1 ne164)
      have f198 := f186.keep K193q
      have f199 := f187.keep K193q (nm1 ne165)
      have f200 := f188.keep K193q (nm1 ne165)
      have f201 := f189.keep K193q (nm1 ne166)
      have f202 := f190.keep K193q
      have f203 := V177.keep K193q (nm1 (Ne.symm ne181))
      have K193 : Keep h0 T193.heap [] := Keep.trans K177 K193q (fun y q => by cases List.mem_singleton.mp q; exact (Or.inr sz163))
      have Z193 : n0 ≤ T193.heap.size := Nat.le_trans Z177 K193q.1
      refine GoesW.to (B := (T193.setTop (mkF m 64 #[.val (.int x0), .val (.int x1), .val (.int x2), .val (.int x3), .val (.int x4), .val (.ref b101), .val (.ref b113), .unset, .unset, .unset, .unset] [(.ref b163)]))) st193 ?_
      refine GoesW.step (B := (T193.setTop (mkF m 66 #[.val (.int x0), .val (.int x1), .val (.int x2), .val (.int x3), .val (.int x4), .val (.ref b101), .val (.ref b113), .val (.ref b163), .unset, .unset, .unset] []))) (fun _ k => XS.astore X193.here hx rfl (hb hby at_64) rfl rfl (l' := #[.val (.int x0), .val (.int x1), .val (.int x2), .val (.int x3), .val (.int x4), .val (.ref b101), .val (.ref b113), .val (.ref b163), .unset, .unset, .unset]) rfl k) ?_
      refine GoesW.step (B := (T193.setTop (mkF m 80 #[.val (.int x0), .val (.int x1), .val (.int x2), .val (.int x3), .val (.int x4), .val (.ref b101), .val (.ref b113), .val (.ref b163), .unset, .unset, .unset] []))) (fun _ k => XS.goto X193.here hx rfl (pc0 := 66) (pc' := 80) rfl (hb hby at_66) (by decide) (by decide) k) ?_
      refine GoesW.step (B := (T193.setTop (mkF m 81 #[.val (.int x0), .val (.int x1), .val (.int x2), .val (.int x3), .val (.int x4), .val (.ref b101), .val (.ref b113), .val (.ref b163), .unset, .unset, .unset] [(.int x0)]))) (fun _ k => XS.iloadN X193.here hx rfl (hb hby at_80) rfl k) ?_
      obtain ⟨_, _, ⟨T204, L204, k204, n204⟩, -, X204, ⟨Lc204, hQ204, l204, y204, z204⟩, st204⟩ := Jvm.LawKit.callS X193 hx (y := (⟨"java/lang/Integer", "valueOf", "(I)Ljava/lang/Integer;"⟩ : MethodName)) hown193 (mvT hZ193 (hw _ (List.mem_of_getElem? (i := 44) rfl))) (mvT hZ193 (hw _ (List.mem_of_getElem? (i := 45) rfl))) (mvT hZ193 (hw _ (List.mem_of_getElem? (i := 46) rfl))) (mvT hZ193 (hw _ (List.mem_of_getElem? (i := 47) rfl))) (by decide) (backOf (W := 0) (own_iv_rm l Z a0 hw [] x0 cA T193.heap n0 Z193 f195 f196 (own_ck hC K193)) hZ193 (hw _ (List.mem_of_getElem? (i := 47) rfl)) (hw _ (List.mem_of_getElem? (i := 46) rfl)) (by decide) (by decide)) (g := (mkF m 81 #[.val (.int x0), .val (.int x1), .val (.int x2), .val (.int x3), .val (.int x4), .val (.ref b101), .val (.ref b113), .val (.ref b163), .unset, .unset, .unset] [(.int x0)])) rfl (by rw [hml]; rfl) (argsL := [(.int x0)]) (rest := []) (lenOf pd__I_Ljava_lang_Integer_ rfl) rfl (by show 2 * 0 + _ ≤ _; exact Nat.le_of_eq rfl) (hb hby at_81) (fun _ _ => ⟨rfl, rfl, (by decide : 7 + 1 ≤ _), (by decide : 16 + 1 ≤ _)⟩)
      dsimp only [Pt.U, Pt.locs, Pt.cells, Pt.slots] at X204 l204 y204 z204 st204 hQ204
      subst l204 y204 z204
      obtain ⟨b_204, rfl, N204q, K204q, p204_0, p204_1⟩ := hQ204
      have N204 := Fr.app N193 N204q
      have f205 := f194.keepN K204q (fun _ q => nomatch q)
      have f206 := f195.keepN K204q (fun _ q => nomatch q)
      have f207 := f196.keepN K204q (fun _ q => nomatch q)
      have f208 := f197.keep K204q nm0
      have f209 := f198.keep K204q
      have f210 := f199.keep K204q nm0
      have f211 := f200.keep K204q nm0
      have f212 := f201.keep K204q nm0
      have f213 := p193_0.keep K204q
      have f214 := f203.keep K204q nm0
      have K204 : Keep h0 T204.heap [] := Keep.trans K193 K204q (fun _ q => nomatch q)
      have Z204 : n0 ≤ T204.heap.size := Nat.le_trans Z193 K204q.1
      have hk204 := Nat.le_trans (Nat.le_refl T193.heap.size) K204q.1
      refine GoesW.step (B := (T204.setTop (mkF m 84 #[.val (.int x0), .val (.int x1), .val (.int x2), .val (.int x3), .val (.int x4), .val (.ref b101), .val (.ref b113), .val (.ref b163), .unset, .unset, .unset] [(.ref b_204)]))) (fun _ k => st204 _ k) ?_
      refine GoesW.step (B := (T204.setTop (mkF m 86 #[.val (.int x0), .val (.int x1), .val (.int x2), .val (.int x3), .val (.int x4), .val (.ref b101), .val (.ref b113), .val (.ref b163), .val (.ref b_204), .unset, .unset] []))) (fun _ k => XS.astore X204.here hx rfl (hb hby at_84) rfl rfl (l' := #[.val (.int x0), .val (.int x1), .val (.int x2), .val (.int x3), .val (.int x4), .val (.ref b101), .val (.ref b113), .val (.ref b163), .val (.ref b_204), .unset, .unset]) rfl k) ?_
      refine GoesW.step (B := (T204.setTop (mkF m 88 #[.val (.int x0), .val (.int x1), .val (.int x2), .val (.int x3), .val (.int x4), .val (.ref b101), .val (.ref b113), .val (.ref b163), .val (.ref b_204), .unset, .unset] [(.ref b163)]))) (fun _ k => XS.aload X204.here hx rfl (hb hby at_86) rfl rfl k) ?_
      refine GoesW.step (B := (T204.setTop (mkF m 90 #[.val (.int x0), .val (.int x1), .val (.int x2), .val (.int x3), .val (.int x4), .val (.ref b101), .val (.ref b113), .val (.ref b163), .val (.ref b_204), .unset, .unset] [(.ref b_204), (.ref b163)]))) (fun _ k => XS.aload X204.here hx rfl (hb hby at_88) rfl rfl k) ?_
      obtain ⟨_, _, ⟨T215, L215, k215, n215⟩, -, X215, ⟨Lc215, hQ215, l215, y215, z215⟩, st215⟩ := Jvm.LawKit.callS X204 hx (y := (⟨"com/example/timeworth/timeworth/Checks", "given", "(Ljava/lang/String;Ljava/lang/Object;)Ljava/lang/Object;"⟩ : MethodName)) hown193 (mvT hZ193 (hw _ (List.mem_of_getElem? (i := 51) rfl))) (mvT hZ193 (hw _ (List.mem_of_getElem? (i := 52) rfl))) (mvT hZ193 (hw _ (List.mem_of_getElem? (i := 53) rfl))) (mvT hZ193 (hw _ (List.mem_of_getElem? (i := 54) rfl))) (by decide) (backOf (W := 0) (own_gR_rm l Z a0 hw [] b163 b_204  T204.heap n0 Z204 ) hZ193 (hw _ (List.mem_of_getElem? (i := 54) rfl)) (hw _ (List.mem_of_getElem? (i := 53) rfl)) (by decide) (by decide)) (g := (mkF m 90 #[.val (.int x0), .val (.int x1), .val (.int x2), .val (.int x3), .val (.int x4), .val (.ref b101), .val (.ref b113), .val (.ref b163), .val (.ref b_204), .unset, .unset] [(.ref b_204), (.ref b163)])) rfl (by rw [hml]; rfl) (argsL := [(.ref b163), (.ref b_204)]) (rest := []) (lenOf pd__Ljava_lang_String_Ljava_lang_Object__Ljava_lang_Object_ rfl) rfl (by show 2 * 0 + _ ≤ _; exact Nat.le_of_eq rfl) (hb hby at_90) (fun _ _ => ⟨rfl, rfl, (by decide : 8 + 0 ≤ _), (by decide : 17 + 0 ≤ _)⟩)
      dsimp only [Pt.U, Pt.locs, Pt.cells, Pt.slots] at X215 l215 y215 z215 st215 hQ215
      subst l215 y215 z215
      obtain ⟨rfl, N215q, e215⟩ := hQ215
      have N215 := Fr.app N204 N215q
      refine GoesW.step (B := (T215.setTop (mkF m 93 #[.val (.int x0), .val (.int x1), .val (.int x2), .val (.int x3), .val (.int x4), .val (.ref b101), .val (.ref b113), .val (.ref b163), .val (.ref b_204), .unset, .unset] [(.ref b_204)]))) (fun _ k => st215 _ k) ?_
      obtain ⟨T216, X216, e216, st216⟩ := castY X215 hx hZ193 hown193 (hw _ (List.mem_of_getElem? (i := 55) rfl)) e215 (Ins.self p204_0) (g := (mkF m 93 #[.val (.int x0), .val (.int x1), .val (.int x2), .val (.int x3), .val (.int x4), .val (.ref b101), .val (.ref b113), .val (.ref b163), .val (.ref b_204), .unset, .unset] [(.ref b_204)])) rfl rfl (hb hby at_93)
      refine GoesW.step (B := (T216.setTop (mkF m 96 #[.val (.int x0), .val (.int x1), .val (.int x2), .val (.int x3), .val (.int x4), .val (.ref b101), .val (.ref b113), .val (.ref b163), .val (.ref b_204), .unset, .unset] [(.ref b_204)]))) (fun _ k => st216 _ k) ?_
      refine GoesW.step (B := (T216.setTop (mkF m 98 #[.val (.int x0), .val (.int x1), .val (.int x2), .val (.int x3), .val (.int x4), .val (.ref b101), .val (.ref b113), .val (.ref b163), .val (.ref b_204), .val (.ref b_204), .unset] []))) (fun _ k => XS.astore X216.here hx rfl (hb hby at_96) rfl rfl (l' := #[.val (.int x0), .val (.int x1), .val (.int x2), .val (.int x3), .val (.int x4), .val (.ref b101), .val (.ref b113), .val (.ref b163), .val (.ref b_204), .val (.ref b_204), .unset]) rfl k) ?_
      refine GoesW.step (B := (T216.setTop (mkF m 100 #[.val (.int x0), .val (.int x1), .val (.int x2), .val (.int x3), .val (.int x4), .val (.ref b101), .val (.ref b113), .val (.ref b163), .val (.ref b_204), .val (.ref b_204), .unset] [(.ref b163)]))) (fun _ k => XS.aload X216.here hx rfl (hb hby at_98) rfl rfl k) ?_
      refine GoesW.step (B := (T216.setTop (mkF m 102 #[.val (.int x0), .val (.int x1), .val (.int x2), .val (.int x3), .val (.int x4), .val (.ref b101), .val (.ref b113), .val (.ref b163), .val (.ref b_204), .val (.ref b_204), .unset] [(.ref b113), (.ref b163)]))) (fun _ k => XS.aload X216.here hx rfl (hb hby at_100) rfl rfl k) ?_
      obtain ⟨_, _, ⟨T217, L217, k217, n217⟩, -, X217, ⟨Lc217, hQ217, l217, y217, z217⟩, st217⟩ := Jvm.LawKit.callS X216 hx (y := (⟨"com/example/timeworth/timeworth/Checks", "given", "(Ljava/lang/String;Ljava/lang/Object;)Ljava/lang/Object;"⟩ : MethodName)) hown193 (mvT hZ193 (hw _ (List.mem_of_getElem? (i := 51) rfl))) (mvT hZ193 (hw _ (List.mem_of_getElem? (i := 52) rfl))) (mvT hZ193 (hw _ (List.mem_of_getElem? (i := 53) rfl))) (mvT hZ193 (hw _ (List.mem_of_getElem? (i := 54) rfl))) (by decide) (backOf (W := 0) (own_gR_rm l Z a0 hw [] b163 b113  T204.heap n0 Z204 ) hZ193 (hw _ (List.mem_of_getElem? (i := 54) rfl)) (hw _ (List.mem_of_getElem? (i := 53) rfl)) (by decide) (by decide)) (g := (mkF m 102 #[.val (.int x0), .val (.int x1), .val (.int x2), .val (.int x3), .val (.int x4), .val (.ref b101), .val (.ref b113), .val (.ref b163), .val (.ref b_204), .val (.ref b_204), .unset] [(.ref b113), (.ref b163)])) rfl (by rw [hml]; rfl) (argsL := [(.ref b163), (.ref b113)]) (rest := []) (lenOf pd__Ljava_lang_String_Ljava_lang_Object__Ljava_lang_Object_ rfl) rfl (by show 2 * 0 + _ ≤ _; exact Nat.le_of_eq rfl) (hb hby at_102) (fun _ _ => ⟨rfl, e216, (by decide : 8 + 0 ≤ _), (by decide : 17 + 0 ≤ _)⟩)
      dsimp only [Pt.U, Pt.locs, Pt.cells, Pt.slots] at X217 l217 y217 z217 st217 hQ217
      subst l217 y217 z217
      obtain ⟨rfl, N217q, e217⟩ := hQ217
      have N217 := Fr.app N215 N217q
      refine GoesW.step (B := (T217.setTop (mkF m 105 #[.val (.int x0), .val (.int x1), .val (.int x2), .val (.int x3), .val (.int x4), .val (.ref b101), .val (.ref b113), .val (.ref b163), .val (.ref b_204), .val (.ref b_204), .unset] [(.ref b113)]))) (fun _ k => st217 _ k) ?_
      obtain ⟨T218, X218, e218, st218⟩ := castY X217 hx hZ193 hown193 (hw _ (List.mem_of_getElem? (i := 1) rfl)) e217 (Ins.self f209) (g := (mkF m 105 #[.val (.int x0), .val (.int x1), .val (.int x2), .val (.int x3), .val (.int x4), .val (.ref b101), .val (.ref b113), .val (.ref b163), .val (.ref b_204), .val (.ref b_204), .unset] [(.ref b113)])) rfl rfl (hb hby at_105)
      refine GoesW.step (B := (T218.setTop (mkF m 108 #[.val (.int x0), .val (.int x1), .val (.int x2), .val (.int x3), .val (.int x4), .val (.ref b101), .val (.ref b113), .val (.ref b163), .val (.ref b_204), .val (.ref b_204), .unset] [(.ref b113)]))) (fun _ k => st218 _ k) ?_
      refine GoesW.step (B := (T218.setTop (mkF m 110 #[.val (.int x0), .val (.int x1), .val (.int x2), .val (.int x3), .val (.int x4), .val (.ref b101), .val (.ref b113), .val (.ref b163), .val (.ref b_204), .val (.ref b_204), .val (.ref b113)] []))) (fun _ k => XS.astore X218.here hx rfl (hb hby at_108) rfl rfl (l' := #[.val (.int x0), .val (.int x1), .val (.int x2), .val (.int x3), .val (.int x4), .val (.ref b101), .val (.ref b113), .val (.ref b163), .val (.ref b_204), .val (.ref b_204), .val (.ref b113)]) rfl k) ?_
      refine GoesW.step (B := (T218.setTop (mkF m 112 #[.val (.int x0), .val (.int x1), .val (.int x2), .val (.int x3), .val (.int x4), .val (.ref b101), .val (.ref b113), .val (.ref b163), .val (.ref b_204), .val (.ref b_204), .val (.ref b113)] [(.ref b_204)]))) (fun _ k => XS.aload X218.here hx rfl (hb hby at_110) rfl rfl k) ?_
      refine GoesW.step (B := (T218.setTop (mkF m 114 #[.val (.int x0), .val (.int x1), .val (.int x2), .val (.int x3), .val (.int x4), .val (.ref b101), .val (.ref b113), .val (.ref b163), .val (.ref b_204), .val (.ref b_204), .val (.ref b113)] [(.ref b_204), (.ref b_204)]))) (fun _ k => XS.aload X218.here hx rfl (hb hby at_112) rfl rfl k) ?_
      refine GoesW.step (B := (T218.setTop (mkF m 117 #[.val (.int x0), .val (.int x1), .val (.int x2), .val (.int x3), .val (.int x4), .val (.ref b101), .val (.ref b113), .val (.ref b163), .val (.ref b_204), .val (.ref b_204), .val (.ref b113)] []))) (fun _ k => Jvm.RoadKit.acmp (g := (mkF m 114 #[.val (.int x0), .val (.int x1), .val (.int x2), .val (.int x3), .val (.int x4), .val (.ref b101), .val (.ref b113), .val (.ref b163), .val (.ref b_204), .val (.ref b_204), .val (.ref b113)] [(.ref b_204), (.ref b_204)])) X218 hx rfl rfl rfl (pc0 := 114) (pc' := 117) (same := true) rfl (hb hby at_114) rfl (decide_eq_true rfl) (by decide) (by decide) k) ?_
      refine GoesW.step (B := (T218.setTop (mkF m 119 #[.val (.int x0), .val (.int x1), .val (.int x2), .val (.int x3), .val (.int x4), .val (.ref b101), .val (.ref b113), .val (.ref b163), .val (.ref b_204), .val (.ref b_204), .val (.ref b113)] [(.ref b_204)]))) (fun _ k => XS.aload X218.here hx rfl (hb hby at_117) rfl rfl k) ?_
      obtain ⟨cq219, kq219, q219a, q219b, q219c⟩ := isOf hZ193 e218 p204_0
      obtain ⟨_, _, ⟨T219, L219, k219, n219⟩, -, X219, ⟨Lc219, hQ219, l219, y219, z219⟩, st219⟩ := X218.virtualBack hx (y := (⟨"java/lang/Integer", "intValue", "()I"⟩ : MethodName)) (z := (⟨"java/lang/Integer", "intValue", "()I"⟩ : MethodName)) hown193 (mvT hZ193 (hw _ (List.mem_of_getElem? (i := 57) rfl))) (mvT hZ193 (hw _ (List.mem_of_getElem? (i := 58) rfl))) (notFace_of_selects (args := #[]) (mvT hZ193 (hw _ (List.mem_of_getElem? (i := 60) rfl)))) (mvT hZ193 (hw _ (List.mem_of_getElem? (i := 60) rfl))) (mvT hZ193 (hw _ (List.mem_of_getElem? (i := 59) rfl))) (by decide) (backOf (W := 0) (own_it_rm l Z a0 hw [] b_204 x0 T204.heap n0 Z204 p204_1) hZ193 (hw _ (List.mem_of_getElem? (i := 61) rfl)) (hw _ (List.mem_of_getElem? (i := 46) rfl)) (by decide) (by decide)) q219a q219c (g := (mkF m 119 #[.val (.int x0), .val (.int x1), .val (.int x2), .val (.int x3), .val (.int x4), .val (.ref b101), .val (.ref b113), .val (.ref b163), .val (.ref b_204), .val (.ref b_204), .val (.ref b113)] [(.ref b_204)])) rfl (by rw [hml]; rfl) (Steps.refl _) (argsL := []) (rest := []) (lenOf pd___I rfl) rfl (by show 2 * 0 + _ ≤ _; exact Nat.le_of_eq rfl) (hb hby at_119) (fun _ _ => ⟨rfl, e218, (by decide : 8 + 0 ≤ _), (by decide : 17 + 0 ≤ _)⟩)
      dsimp only [Pt.U, Pt.locs, Pt.cells, Pt.slots] at X219 l219 y219 z219 st219 hQ219
      subst l219 y219 z219
      obtain ⟨rfl, N219q, e219⟩ := hQ219
      have N219 := Fr.app N217 N219q
      refine GoesW.to (B := (T219.setTop (mkF m 122 #[.val (.int x0), .val (.int x1), .val (.int x2), .val (.int x3), .val (.int x4), .val (.ref b101), .val (.ref b113), .val (.ref b163), .val (.ref b_204), .val (.ref b_204), .val (.ref b113)] [(.int (own_it_fn x0))]))) st219 ?_
      refine GoesW.step (B := (T219.setTop (mkF m 123 #[.val (.int x0), .val (.int x1), .val (.int x2), .val (.int x3), .val (.int x4), .val (.ref b101), .val (.ref b113), .val (.ref b163), .val (.ref b_204), .val (.ref b_204), .val (.ref b113)] [(.int x0), (.int (own_it_fn x0))]))) (fun _ k => XS.iloadN X219.here hx rfl (hb hby at_122) rfl k) ?_
      have hc220 : (own_it_fn x0) = x0 := rfl
      refine GoesW.step (B := (T219.setTop (mkF m 126 #[.val (.int x0), .val (.int x1), .val (.int x2), .val (.int x3), .val (.int x4), .val (.ref b101), .val (.ref b113), .val (.ref b163), .val (.ref b_204), .val (.ref b_204), .val (.ref b113)] []))) (fun _ k => XS.icmpNo X219.here hx rfl (hb hby at_123) rfl (teq hc220).2 k) ?_
      refine GoesW.step (B := (T219.setTop (mkF m 128 #[.val (.int x0), .val (.int x1), .val (.int x2), .val (.int x3), .val (.int x4), .val (.ref b101), .val (.ref b113), .val (.ref b163), .val (.ref b_204), .val (.ref b_204), .val (.ref b113)] [(.ref b113)]))) (fun _ k => XS.aload X219.here hx rfl (hb hby at_126) rfl rfl k) ?_
      refine GoesW.step (B := (T219.setTop (mkF m 130 #[.val (.int x0), .val (.int x1), .val (.int x2), .val (.int x3), .val (.int x4), .val (.ref b101), .val (.ref b113), .val (.ref b163), .val (.ref b_204), .val (.ref b_204), .val (.ref b113)] [(.ref b113), (.ref b113)]))) (fun _ k => XS.aload X219.here hx rfl (hb hby at_128) rfl rfl k) ?_
      refine GoesW.step (B := (T219.setTop (mkF m 133 #[.val (.int x0), .val (.int x1), .val (.int x2), .val (.int x3), .val (.int x4), .val (.ref b101), .val (.ref b113), .val (.ref b163), .val (.ref b_204), .val (.ref b_204), .val (.ref b113)] []))) (fun _ k => Jvm.RoadKit.acmp (g := (mkF m 130 #[.val (.int x0), .val (.int x1), .val (.int x2), .val (.int x3), .val (.int x4), .val (.ref b101), .val (.ref b113), .val (.ref b163), .val (.ref b_204), .val (.ref b_204), .val (.ref b113)] [(.ref b113), (.ref b113)])) X219 hx rfl rfl rfl (pc0 := 130) (pc' := 133) (same := true) rfl (hb hby at_130) rfl (decide_eq_true rfl) (by decide) (by decide) k) ?_
      refine GoesW.step (B := (T219.setTop (mkF m 135 #[.val (.int x0), .val (.int x1), .val (.int x2), .val (.int x3), .val (.int x4), .val (.ref b101), .val (.ref b113), .val (.ref b163), .val (.ref b_204), .val (.ref b_204), .val (.ref b113)] [(.ref b113)]))) (fun _ k => XS.aload X219.here hx rfl (hb hby at_133) rfl rfl k) ?_
      obtain ⟨cq221, kq221, q221a, q221b, q221c⟩ := isOf hZ193 e219 f209
      obtain ⟨_, _, ⟨T221, L221, k221, n221⟩, -, X221, ⟨Lc221, hQ221, l221, y221, z221⟩, st221⟩ := X219.virtualBack hx (y := (⟨"java/lang/String", "length", "()I"⟩ : MethodName)) (z := (⟨"java/lang/String", "length", "()I"⟩ : MethodName)) hown193 (mvT hZ193 (hw _ (List.mem_of_getElem? (i := 64) rfl))) (mvT hZ193 (hw _ (List.mem_of_getElem? (i := 65) rfl))) (notFace_of_selects (args := #[]) (mvT hZ193 (hw _ (List.mem_of_getElem? (i := 67) rfl)))) (mvT hZ193 (hw _ (List.mem_of_getElem? (i := 67) rfl))) (mvT hZ193 (hw _ (List.mem_of_getElem? (i := 66) rfl))) (by decide) (backOf (W := 0) (own_ln_rm l Z a0 hw [] b113 w0 b_121 k2_121 ([(.int (nar .byte (nar .char (x1 &&& (255 : Int32)).toUInt32.toUInt16.toUInt32.toInt32).toInt8.toInt32)), (.int (nar .byte (nar .char (x2 &&& (255 : Int32)).toUInt32.toUInt16.toUInt32.toInt32).toInt8.toInt32))]) (.int (0 : Int32)) T204.heap n0 Z204 f205 f209 f211 f210 f212 hw0) hZ193 (hw _ (List.mem_of_getElem? (i := 68) rfl)) (hw _ (List.mem_of_getElem? (i := 3) rfl)) (by decide) (by decide)) q221a q221c (g := (mkF m 135 #[.val (.int x0), .val (.int x1), .val (.int x2), .val (.int x3), .val (.int x4), .val (.ref b101), .val (.ref b113), .val (.ref b163), .val (.ref b_204), .val (.ref b_204), .val (.ref b113)] [(.ref b113)])) rfl (by rw [hml]; rfl) (Steps.refl _) (argsL := []) (rest := []) (lenOf pd___I rfl) rfl (by show 2 * 0 + _ ≤ _; exact Nat.le_of_eq rfl) (hb hby at_135) (fun _ _ => ⟨rfl, e219, (by decide : 8 + 0 ≤ _), (by decide : 17 + 0 ≤ _)⟩)
      dsimp only [Pt.U, Pt.locs, Pt.cells, Pt.slots] at X221 l221 y221 z221 st221 hQ221
      subst l221 y221 z221
      obtain ⟨rfl, N221q, e221⟩ := hQ221
      have N221 := Fr.app N219 N221q
      refine GoesW.to (B := (T221.setTop (mkF m 138 #[.val (.int x0), .val (.int x1), .val (.int x2), .val (.int x3), .val (.int x4), .val (.ref b101), .val (.ref b113), .val (.ref b163), .val (.ref b_204), .val (.ref b_204), .val (.ref b113)] [(.int (own_ln_fn w0))]))) st221 ?_
      refine GoesW.step (B := (T221.setTop (mkF m 139 #[.val (.int x0), .val (.int x1), .val (.int x2), .val (.int x3), .val (.int x4), .val (.ref b101), .val (.ref b113), .val (.ref b163), .val (.ref b_204), .val (.ref b_204), .val (.ref b113)] [(.int (2 : Int32)), (.int (own_ln_fn w0))]))) (fun _ k => XS.iconst X221.here hx rfl (hb hby at_138) k) ?_
      have hc222 : (own_ln_fn w0) = (2 : Int32) := show ((2 : Int32) >>> ((0 : Int32) &&& (31 : Int32))) = (2 : Int32) from by decide
      refine GoesW.step (B := (T221.setTop (mkF m 142 #[.val (.int x0), .val (.int x1), .val (.int x2), .val (.int x3), .val (.int x4), .val (.ref b101), .val (.ref b113), .val (.ref b163), .val (.ref b_204), .val (.ref b_204), .val (.ref b113)] []))) (fun _ k => XS.icmpNo X221.here hx rfl (hb hby at_139) rfl (teq hc222).2 k) ?_
      refine GoesW.step (B := (T221.setTop (mkF m 144 #[.val (.int x0), .val (.int x1), .val (.int x2), .val (.int x3), .val (.int x4), .val (.ref b101), .val (.ref b113), .val (.ref b163), .val (.ref b_204), .val (.ref b_204), .val (.ref b113)] [(.ref b113)]))) (fun _ k => XS.aload X221.here hx rfl (hb hby at_142) rfl rfl k) ?_
      refine GoesW.step (B := (T221.setTop (mkF m 146 #[.val (.int x0), .val (.int x1), .val (.int x2), .val (.int x3), .val (.int x4), .val (.ref b101), .val (.ref b113), .val (.ref b163), .val (.ref b_204), .val (.ref b_204), .val (.ref b113)] [(.ref b113), (.ref b113)]))) (fun _ k => XS.aload X221.here hx rfl (hb hby at_144) rfl rfl k) ?_
      obtain ⟨cq223, kq223, q223a, q223b, q223c⟩ := isOf hZ193 e221 f209
      obtain ⟨_, _, ⟨T223, L223, k223, n223⟩, -, X223, ⟨Lc223, hQ223, l223, y223, z223⟩, st223⟩ := X221.virtualBack hx (y := (⟨"java/lang/String", "equals", "(Ljava/lang/Object;)Z"⟩ : MethodName)) (z := (⟨"java/lang/String", "equals", "(Ljava/lang/Object;)Z"⟩ : MethodName)) hown193 (mvT hZ193 (hw _ (List.mem_of_getElem? (i := 74) rfl))) (mvT hZ193 (hw _ (List.mem_of_getElem? (i := 75) rfl))) (notFace_of_selects (args := #[]) (mvT hZ193 (hw _ (List.mem_of_getElem? (i := 77) rfl)))) (mvT hZ193 (hw _ (List.mem_of_getElem? (i := 77) rfl))) (mvT hZ193 (hw _ (List.mem_of_getElem? (i := 76) rfl))) (by decide) (backOf (W := 0) (own_eqS_rm l Z a0 hw [] b113 b113  T204.heap n0 Z204 rfl) hZ193 (hw _ (List.mem_of_getElem? (i := 78) rfl)) (hw _ (List.mem_of_getElem? (i := 3) rfl)) (by decide) (by decide)) q223a q223c (g := (mkF m 146 #[.val (.int x0), .val (.int x1), .val (.int x2), .val (.int x3), .val (.int x4), .val (.ref b101), .val (.ref b113), .val (.ref b163), .val (.ref b_204), .val (.ref b_204), .val (.ref b113)] [(.ref b113), (.ref b113)])) rfl (by rw [hml]; rfl) (Steps.refl _) (argsL := [(.ref b113)]) (rest := []) (lenOf pd__Ljava_lang_Object__Z rfl) rfl (by show 2 * 0 + _ ≤ _; exact Nat.le_of_eq rfl) (hb hby at_146) (fun _ _ => ⟨rfl, e221, (by decide : 8 + 0 ≤ _), (by decide : 17 + 0 ≤ _)⟩)
      dsimp only [Pt.U, Pt.locs, Pt.cells, Pt.slots] at X223 l223 y223 z223 st223 hQ223
      subst l223 y223 z223
      obtain ⟨rfl, N223q, e223⟩ := hQ223
      have N223 := Fr.app N221 N223q
      refine GoesW.to (B := (T223.setTop (mkF m 149 #[.val (.int x0), .val (.int x1), .val (.int x2), .val (.int x3), .val (.int x4), .val (.ref b101), .val (.ref b113), .val (.ref b163), .val (.ref b_204), .val (.ref b_204), .val (.ref b113)] [(.int (own_eqS_fn))]))) st223 ?_
      have hc224 : ¬ ((own_eqS_fn) = (0 : Int32)) := by decide
      refine GoesW.step (B := (T223.setTop (mkF m 152 #[.val (.int x0), .val (.int x1), .val (.int x2), .val (.int x3), .val (.int x4), .val (.ref b101), .val (.ref b113), .val (.ref b163), .val (.ref b_204), .val (.ref b_204), .val (.ref b113)] []))) (fun _ k => XS.ifNo X223.here hx rfl (hb hby at_149) rfl ((if0 _ _).trans (feq hc224).1) k) ?_
      refine GoesW.step (B := (T223.setTop (mkF m 153 #[.val (.int x0), .val (.int x1), .val (.int x2), .val (.int x3), .val (.int x4), .val (.ref b101), .val (.ref b113), .val (.ref b163), .val (.ref b_204), .val (.ref b_204), .val (.ref b113)] [(.int (1 : Int32))]))) (fun _ k => XS.iconst X223.here hx rfl (hb hby at_152) k) ?_
      refine GoesW.step (B := (T223.setTop (mkF m 157 #[.val (.int x0), .val (.int x1), .val (.int x2), .val (.int x3), .val (.int x4), .val (.ref b101), .val (.ref b113), .val (.ref b163), .val (.ref b_204), .val (.ref b_204), .val (.ref b113)] [(.int (1 : Int32))]))) (fun _ k => XS.goto X223.here hx rfl (pc0 := 153) (pc' := 157) rfl (hb hby at_153) (by decide) (by decide) k) ?_
      refine GoesW.retN X223 hS193 (by rw [e223]; exact hk204) hx hlk (t := .boolean) hrt (by simp) (hb hby at_157) ?_ (by decide) (by decide)
      rw [e223]
      exact ⟨rfl, N223⟩
  · refine GoesW.step (B := (T121.setTop (mkF m 41 #[.val (.int x0), .val (.int x1), .val (.int x2), .val (.int x3), .val (.int x4), .val (.ref b101), .val (.ref b113), .unset, .unset, .unset, .unset] []))) (fun _ k => XS.ifNo X121.here hx rfl (hb hby at_38) rfl ((if0 _ _).trans (feq hc129).1) k) ?_
    refine GoesW.step (B := (T121.setTop (mkF m 42 #[.val (.int x0), .val (.int x1), .val (.int x2), .val (.int x3), .val (.int x4), .val (.ref b101), .val (.ref b113), .unset, .unset, .unset, .unset] [.null]))) (fun _ k => XS.aconstNull X121.here hx rfl (hb hby at_41) k) ?_
    refine GoesW.step (B := (T121.setTop (mkF m 44 #[.val (.int x0), .val (.int x1), .val (.int x2), .val (.int x3), .val (.int x4), .val (.ref b101), .val (.ref b113), .val .null, .unset, .unset, .unset] []))) (fun _ k => XS.astore X121.here hx rfl (hb hby at_42) rfl rfl (l' := #[.val (.int x0), .val (.int x1), .val (.int x2), .val (.int x3), .val (.int x4), .val (.ref b101), .val (.ref b113), .val .null, .unset, .unset, .unset]) rfl k) ?_
    refine GoesW.step (B := (T121.setTop (mkF m 80 #[.val (.int x0), .val (.int x1), .val (.int x2), .val (.int x3), .val (.int x4), .val (.ref b101), .val (.ref b113), .val .null, .unset, .unset, .unset] []))) (fun _ k => XS.goto X121.here hx rfl (pc0 := 44) (pc' := 80) rfl (hb hby at_44) (by decide) (by decide) k) ?_
    refine GoesW.step (B := (T121.setTop (mkF m 81 #[.val (.int x0), .val (.int x1), .val (.int x2), .val (.int x3), .val (.int x4), .val (.ref b101), .val (.ref b113), .val .null, .unset, .unset, .unset] [(.int x0)]))) (fun _ k => XS.iloadN X121.here hx rfl (hb hby at_80) rfl k) ?_
    obtain ⟨_, _, ⟨T225, L225, k225, n225⟩, -, X225, ⟨Lc225, hQ225, l225, y225, z225⟩, st225⟩ := Jvm.LawKit.callS X121 hx (y := (⟨"java/lang/Integer", "valueOf", "(I)Ljava/lang/Integer;"⟩ : MethodName)) hown (mvT hZ (hw _ (List.mem_of_getElem? (i := 44) rfl))) (mvT hZ (hw _ (List.mem_of_getElem? (i := 45) rfl))) (mvT hZ (hw _ (List.mem_of_getElem? (i := 46) rfl))) (mvT hZ (hw _ (List.mem_of_getElem? (i := 47) rfl))) (by decide) (backOf (W := 0) (own_iv_rm l Z a0 hw [] x0 cA T121.heap n0 Z121 f125 f126 (own_ck hC K121)) hZ (hw _ (List.mem_of_getElem? (i := 47) rfl)) (hw _ (List.mem_of_getElem? (i := 46) rfl)) (by decide) (by decide)) (g := (mkF m 81 #[.val (.int x0), .val (.int x1), .val (.int x2), .val (.int x3), .val (.int x4), .val (.ref b101), .val (.ref b113), .val .null, .unset, .unset, .unset] [(.int x0)])) rfl (by rw [hml]; rfl) (argsL := [(.int x0)]) (rest := []) (lenOf pd__I_Ljava_lang_Integer_ rfl) rfl (by show 2 * 0 + _ ≤ _; exact Nat.le_of_eq rfl) (hb hby at_81) (fun _ _ => ⟨rfl, rfl, (by decide : 3 + 1 ≤ _), (by decide : 8 + 1 ≤ _)⟩)
    dsimp only [Pt.U, Pt.locs, Pt.cells, Pt.slots] at X225 l225 y225 z225 st225 hQ225
    subst l225 y225 z225
    obtain ⟨b_225, rfl, N225q, K225q, p225_0, p225_1⟩ := hQ225
    have N225 := Fr.app N121 N225q
    have f226 := f124.keepN K225q (fun _ q => nomatch q)
    have f227 := f125.keepN K225q (fun _ q => nomatch q)
    have f228 := f126.keepN K225q (fun _ q => nomatch q)
    have f229 := f127.keep K225q nm0
    have f230 := p121_0.keep K225q
    have f231 := p121_1.keep K225q nm0
    have f232 := p121_2.keep K225q nm0
    have f233 := p121_3.keep K225q nm0
    have K225 : Keep h0 T225.heap [] := Keep.trans K121 K225q (fun _ q => nomatch q)
    have Z225 : n0 ≤ T225.heap.size := Nat.le_trans Z121 K225q.1
    have hk225 := Nat.le_trans hk121 K225q.1
    refine GoesW.step (B := (T225.setTop (mkF m 84 #[.val (.int x0), .val (.int x1), .val (.int x2), .val (.int x3), .val (.int x4), .val (.ref b101), .val (.ref b113), .val .null, .unset, .unset, .unset] [(.ref b_225)]))) (fun _ k => st225 _ k) ?_
    refine GoesW.step (B := (T225.setTop (mkF m 86 #[.val (.int x0), .val (.int x1), .val (.int x2), .val (.int x3), .val (.int x4), .val (.ref b101), .val (.ref b113), .val .null, .val (.ref b_225), .unset, .unset] []))) (fun _ k => XS.astore X225.here hx rfl (hb hby at_84) rfl rfl (l' := #[.val (.int x0), .val (.int x1), .val (.int x2), .val (.int x3), .val (.int x4), .val (.ref b101), .val (.ref b113), .val .null, .val (.ref b_225), .unset, .unset]) rfl k) ?_
    refine GoesW.step (B := (T225.setTop (mkF m 88 #[.val (.int x0), .val (.int x1), .val (.int x2), .val (.int x3), .val (.int x4), .val (.ref b101), .val (.ref b113), .val .null, .val (.ref b_225), .unset, .unset] [.null]))) (fun _ k => XS.aload X225.here hx rfl (hb hby at_86) rfl rfl k) ?_
    refine GoesW.step (B := (T225.setTop (mkF m 90 #[.val (.int x0), .val (.int x1), .val (.int x2), .val (.int x3), .val (.int x4), .val (.ref b101), .val (.ref b113), .val .null, .val (.ref b_225), .unset, .unset] [(.ref b_225), .null]))) (fun _ k => XS.aload X225.here hx rfl (hb hby at_88) rfl rfl k) ?_
    obtain ⟨_, _, ⟨T234, L234, k234, n234⟩, -, X234, ⟨Lc234, hQ234, l234, y234, z234⟩, st234⟩ := Jvm.LawKit.callS X225 hx (y := (⟨"com/example/timeworth/timeworth/Checks", "given", "(Ljava/lang/String;Ljava/lang/Object;)Ljava/lang/Object;"⟩ : MethodName)) hown (mvT hZ (hw _ (List.mem_of_getElem? (i := 51) rfl))) (mvT hZ (hw _ (List.mem_of_getElem? (i := 52) rfl))) (mvT hZ (hw _ (List.mem_of_getElem? (i := 53) rfl))) (mvT hZ (hw _ (List.mem_of_getElem? (i := 54) rfl))) (by decide) (backOf (W := 0) (own_gN_rm l Z a0 hw [] b_225  T225.heap n0 Z225 ) hZ (hw _ (List.mem_of_getElem? (i := 54) rfl)) (hw _ (List.mem_of_getElem? (i := 53) rfl)) (by decide) (by decide)) (g := (mkF m 90 #[.val (.int x0), .val (.int x1), .val (.int x2), .val (.int x3), .val (.int x4), .val (.ref b101), .val (.ref b113), .val .null, .val (.ref b_225), .unset, .unset] [(.ref b_225), .null])) rfl (by rw [hml]; rfl) (argsL := [.null, (.ref b_225)]) (rest := []) (lenOf pd__Ljava_lang_String_Ljava_lang_Object__Ljava_lang_Object_ rfl) rfl (by show 2 * 0 + _ ≤ _; exact Nat.le_of_eq rfl) (hb hby at_90) (fun _ _ => ⟨rfl, rfl, (by decide : 4 + 0 ≤ _), (by decide : 9 + 0 ≤ _)⟩)
    dsimp only [Pt.U, Pt.locs, Pt.cells, Pt.slots] at X234 l234 y234 z234 st234 hQ234
    subst l234 y234 z234
    obtain ⟨rfl, N234q, e234⟩ := hQ234
    have N234 := Fr.app N225 N234q
    refine GoesW.step (B := (T234.setTop (mkF m 93 #[.val (.int x0), .val (.int x1), .val (.int x2), .val (.int x3), .val (.int x4), .val (.ref b101), .val (.ref b113), .val .null, .val (.ref b_225), .unset, .unset] [(.ref b_225)]))) (fun _ k => st234 _ k) ?_
    obtain ⟨T235, X235, e235, st235⟩ := castY X234 hx hZ hown (hw _ (List.mem_of_getElem? (i := 55) rfl)) e234 (Ins.self p225_0) (g := (mkF m 93 #[.val (.int x0), .val (.int x1), .val (.int x2), .val (.int x3), .val (.int x4), .val (.ref b101), .val (.ref b113), .val .null, .val (.ref b_225), .unset, .unset] [(.ref b_225)])) rfl rfl (hb hby at_93)
    refine GoesW.step (B := (T235.setTop (mkF m 96 #[.val (.int x0), .val (.int x1), .val (.int x2), .val (.int x3), .val (.int x4), .val (.ref b101), .val (.ref b113), .val .null, .val (.ref b_225), .unset, .unset] [(.ref b_225)]))) (fun _ k => st235 _ k) ?_
    refine GoesW.step (B := (T235.setTop (mkF m 98 #[.val (.int x0), .val (.int x1), .val (.int x2), .val (.int x3), .val (.int x4), .val (.ref b101), .val (.ref b113), .val .null, .val (.ref b_225), .val (.ref b_225), .unset] []))) (fun _ k => XS.astore X235.here hx rfl (hb hby at_96) rfl rfl (l' := #[.val (.int x0), .val (.int x1), .val (.int x2), .val (.int x3), .val (.int x4), .val (.ref b101), .val (.ref b113), .val .null, .val (.ref b_225), .val (.ref b_225), .unset]) rfl k) ?_
    refine GoesW.step (B := (T235.setTop (mkF m 100 #[.val (.int x0), .val (.int x1), .val (.int x2), .val (.int x3), .val (.int x4), .val (.ref b101), .val (.ref b113), .val .null, .val (.ref b_225), .val (.ref b_225), .unset] [.null]))) (fun _ k => XS.aload X235.here hx rfl (hb hby at_98) rfl rfl k) ?_
    refine GoesW.step (B := (T235.setTop (mkF m 102 #[.val (.int x0), .val (.int x1), .val (.int x2), .val (.int x3), .val (.int x4), .val (.ref b101), .val (.ref b113), .val .null, .val (.ref b_225), .val (.ref b_225), .unset] [(.ref b113), .null]))) (fun _ k => XS.aload X235.here hx rfl (hb hby at_100) rfl rfl k) ?_
    obtain ⟨_, _, ⟨T236, L236, k236, n236⟩, -, X236, ⟨Lc236, hQ236, l236, y236, z236⟩, st236⟩ := Jvm.LawKit.callS X235 hx (y := (⟨"com/example/timeworth/timeworth/Checks", "given", "(Ljava/lang/String;Ljava/lang/Object;)Ljava/lang/Object;"⟩ : MethodName)) hown (mvT hZ (hw _ (List.mem_of_getElem? (i := 51) rfl))) (mvT hZ (hw _ (List.mem_of_getElem? (i := 52) rfl))) (mvT hZ (hw _ (List.mem_of_getElem? (i := 53) rfl))) (mvT hZ (hw _ (List.mem_of_getElem? (i := 54) rfl))) (by decide) (backOf (W := 0) (own_gN_rm l Z a0 hw [] b113  T225.heap n0 Z225 ) hZ (hw _ (List.mem_of_getElem? (i := 54) rfl)) (hw _ (List.mem_of_getElem? (i := 53) rfl)) (by decide) (by decide)) (g := (mkF m 102 #[.val (.int x0), .val (.int x1), .val (.int x2), .val (.int x3), .val (.int x4), .val (.ref b101), .val (.ref b113), .val .null, .val (.ref b_225), .val (.ref b_225), .unset] [(.ref b113), .null])) rfl (by rw [hml]; rfl) (argsL := [.null, (.ref b113)]) (rest := []) (lenOf pd__Ljava_lang_String_Ljava_lang_Object__Ljava_lang_Object_ rfl) rfl (by show 2 * 0 + _ ≤ _; exact Nat.le_of_eq rfl) (hb hby at_102) (fun _ _ => ⟨rfl, e235, (by decide : 4 + 0 ≤ _), (by decide : 9 + 0 ≤ _)⟩)
    dsimp only [Pt.U, Pt.locs, Pt.cells, Pt.slots] at X236 l236 y236 z236 st236 hQ236
    subst l236 y236 z236
    obtain ⟨rfl, N236q, e236⟩ := hQ236
    have N236 := Fr.app N234 N236q
    refine GoesW.step (B := (T236.setTop (mkF m 105 #[.val (.int x0), .val (.int x1), .val (.int x2), .val (.int x3), .val (.int x4), .val (.ref b101), .val (.ref b113), .val .null, .val (.ref b_225), .val (.ref b_225), .unset] [(.ref b113)]))) (fun _ k => st236 _ k) ?_
    obtain ⟨T237, X237, e237, st237⟩ := castY X236 hx hZ hown (hw _ (List.mem_of_getElem? (i := 1) rfl)) e236 (Ins.self f230) (g := (mkF m 105 #[.val (.int x0), .val (.int x1), .val (.int x2), .val (.int x3), .val (.int x4), .val (.ref b101), .val (.ref b113), .val .null, .val (.ref b_225), .val (.ref b_225), .unset] [(.ref b113)])) rfl rfl (hb hby at_105)
    refine GoesW.step (B := (T237.setTop (mkF m 108 #[.val (.int x0), .val (.int x1), .val (.int x2), .val (.int x3), .val (.int x4), .val (.ref b101), .val (.ref b113), .val .null, .val (.ref b_225), .val (.ref b_225), .unset] [(.ref b113)]))) (fun _ k => st237 _ k) ?_
    refine GoesW.step (B := (T237.setTop (mkF m 110 #[.val (.int x0), .val (.int x1), .val (.int x2), .val (.int x3), .val (.int x4), .val (.ref b101), .val (.ref b113), .val .null, .val (.ref b_225), .val (.ref b_225), .val (.ref b113)] []))) (fun _ k => XS.astore X237.here hx rfl (hb hby at_108) rfl rfl (l' := #[.val (.int x0), .val (.int x1), .val (.int x2), .val (.int x3), .val (.int x4), .val (.ref b101), .val (.ref b113), .val .null, .val (.ref b_225), .val (.ref b_225), .val (.ref b113)]) rfl k) ?_
    refine GoesW.step (B := (T237.setTop (mkF m 112 #[.val (.int x0), .val (.int x1), .val (.int x2), .val (.int x3), .val (.int x4), .val (.ref b101), .val (.ref b113), .val .null, .val (.ref b_225), .val (.ref b_225), .val (.ref b113)] [(.ref b_225)]))) (fun _ k => XS.aload X237.here hx rfl (hb hby at_110) rfl rfl k) ?_
    refine GoesW.step (B := (T237.setTop (mkF m 114 #[.val (.int x0), .val (.int x1), .val (.int x2), .val (.int x3), .val (.int x4), .val (.ref b101), .val (.ref b113), .val .null, .val (.ref b_225), .val (.ref b_225), .val (.ref b113)] [(.ref b_225), (.ref b_225)]))) (fun _ k => XS.aload X237.here hx rfl (hb hby at_112) rfl rfl k) ?_
    refine GoesW.step (B := (T237.setTop (mkF m 117 #[.val (.int x0), .val (.int x1), .val (.int x2), .val (.int x3), .val (.int x4), .val (.ref b101), .val (.ref b113), .val .null, .val (.ref b_225), .val (.ref b_225), .val (.ref b113)] []))) (fun _ k => Jvm.RoadKit.acmp (g := (mkF m 114 #[.val (.int x0), .val (.int x1), .val (.int x2), .val (.int x3), .val (.int x4), .val (.ref b101), .val (.ref b113), .val .null, .val (.ref b_225), .val (.ref b_225), .val (.ref b113)] [(.ref b_225), (.ref b_225)])) X237 hx rfl rfl rfl (pc0 := 114) (pc' := 117) (same := true) rfl (hb hby at_114) rfl (decide_eq_true rfl) (by decide) (by decide) k) ?_
    refine GoesW.step (B := (T237.setTop (mkF m 119 #[.val (.int x0), .val (.int x1), .val (.int x2), .val (.int x3), .val (.int x4), .val (.ref b101), .val (.ref b113), .val .null, .val (.ref b_225), .val (.ref b_225), .val (.ref b113)] [(.ref b_225)]))) (fun _ k => XS.aload X237.here hx rfl (hb hby at_117) rfl rfl k) ?_
    obtain ⟨cq238, kq238, q238a, q238b, q238c⟩ := isOf hZ e237 p225_0
    obtain ⟨_, _, ⟨T238, L238, k238, n238⟩, -, X238, ⟨Lc238, hQ238, l238, y238, z238⟩, st238⟩ := X237.virtualBack hx (y := (⟨"java/lang/Integer", "intValue", "()I"⟩ : MethodName)) (z := (⟨"java/lang/Integer", "intValue", "()I"⟩ : MethodName)) hown (mvT hZ (hw _ (List.mem_of_getElem? (i := 57) rfl))) (mvT hZ (hw _ (List.mem_of_getElem? (i := 58) rfl))) (notFace_of_selects (args := #[]) (mvT hZ (hw _ (List.mem_of_getElem? (i := 60) rfl)))) (mvT hZ (hw _ (List.mem_of_getElem? (i := 60) rfl))) (mvT hZ (hw _ (List.mem_of_getElem? (i := 59) rfl))) (by decide) (backOf (W := 0) (own_it_rm l Z a0 hw [] b_225 x0 T225.heap n0 Z225 p225_1) hZ (hw _ (List.mem_of_getElem? (i := 61) rfl)) (hw _ (List.mem_of_getElem? (i := 46) rfl)) (by decide) (by decide)) q238a q238c (g := (mkF m 119 #[.val (.int x0), .val (.int x1), .val (.int x2), .val (.int x3), .val (.int x4), .val (.ref b101), .val (.ref b113), .val .null, .val (.ref b_225), .val (.ref b_225), .val (.ref b113)] [(.ref b_225)])) rfl (by rw [hml]; rfl) (Steps.refl _) (argsL := []) (rest := []) (lenOf pd___I rfl) rfl (by show 2 * 0 + _ ≤ _; exact Nat.le_of_eq rfl) (hb hby at_119) (fun _ _ => ⟨rfl, e237, (by decide : 4 + 0 ≤ _), (by decide : 9 + 0 ≤ _)⟩)
    dsimp only [Pt.U, Pt.locs, Pt.cells, Pt.slots] at X238 l238 y238 z238 st238 hQ238
    subst l238 y238 z238
    obtain ⟨rfl, N238q, e238⟩ := hQ238
    have N238 := Fr.app N236 N238q
    refine GoesW.to (B := (T238.setTop (mkF m 122 #[.val (.int x0), .val (.int x1), .val (.int x2), .val (.int x3), .val (.int x4), .val (.ref b101), .val (.ref b113), .val .null, .val (.ref b_225), .val (.ref b_225), .val (.ref b113)] [(.int (own_it_fn x0))]))) st238 ?_
    refine GoesW.step (B := (T238.setTop (mkF m 123 #[.val (.int x0), .val (.int x1), .val (.int x2), .val (.int x3), .val (.int x4), .val (.ref b101), .val (.ref b113), .val .null, .val (.ref b_225), .val (.ref b_225), .val (.ref b113)] [(.int x0), (.int (own_it_fn x0))]))) (fun _ k => XS.iloadN X238.here hx rfl (hb hby at_122) rfl k) ?_
    have hc239 : (own_it_fn x0) = x0 := rfl
    refine GoesW.step (B := (T238.setTop (mkF m 126 #[.val (.int x0), .val (.int x1), .val (.int x2), .val (.int x3), .val (.int x4), .val (.ref b101), .val (.ref b113), .val .null, .val (.ref b_225), .val (.ref b_225), .val (.ref b113)] []))) (fun _ k => XS.icmpNo X238.here hx rfl (hb hby at_123) rfl (teq hc239).2 k) ?_
    refine GoesW.step (B := (T238.setTop (mkF m 128 #[.val (.int x0), .val (.int x1), .val (.int x2), .val (.int x3), .val (.int x4), .val (.ref b101), .val (.ref b113), .val .null, .val (.ref b_225), .val (.ref b_225), .val (.ref b113)] [(.ref b113)]))) (fun _ k => XS.aload X238.here hx rfl (hb hby at_126) rfl rfl k) ?_
    refine GoesW.step (B := (T238.setTop (mkF m 130 #[.val (.int x0), .val (.int x1), .val (.int x2), .val (.int x3), .val (.int x4), .val (.ref b101), .val (.ref b113), .val .null, .val (.ref b_225), .val (.ref b_225), .val (.ref b113)] [(.ref b113), (.ref b113)]))) (fun _ k => XS.aload X238.here hx rfl (hb hby at_128) rfl rfl k) ?_
    refine GoesW.step (B := (T238.setTop (mkF m 133 #[.val (.int x0), .val (.int x1), .val (.int x2), .val (.int x3), .val (.int x4), .val (.ref b101), .val (.ref b113), .val .null, .val (.ref b_225), .val (.ref b_225), .val (.ref b113)] []))) (fun _ k => Jvm.RoadKit.acmp (g := (mkF m 130 #[.val (.int x0), .val (.int x1), .val (.int x2), .val (.int x3), .val (.int x4), .val (.ref b101), .val (.ref b113), .val .null, .val (.ref b_225), .val (.ref b_225), .val (.ref b113)] [(.ref b113), (.ref b113)])) X238 hx rfl rfl rfl (pc0 := 130) (pc' := 133) (same := true) rfl (hb hby at_130) rfl (decide_eq_true rfl) (by decide) (by decide) k) ?_
    refine GoesW.step (B := (T238.setTop (mkF m 135 #[.val (.int x0), .val (.int x1), .val (.int x2), .val (.int x3), .val (.int x4), .val (.ref b101), .val (.ref b113), .val .null, .val (.ref b_225), .val (.ref b_225), .val (.ref b113)] [(.ref b113)]))) (fun _ k => XS.aload X238.here hx rfl (hb hby at_133) rfl rfl k) ?_
    obtain ⟨cq240, kq240, q240a, q240b, q240c⟩ := isOf hZ e238 f230
    obtain ⟨_, _, ⟨T240, L240, k240, n240⟩, -, X240, ⟨Lc240, hQ240, l240, y240, z240⟩, st240⟩ := X238.virtualBack hx (y := (⟨"java/lang/String", "length", "()I"⟩ : MethodName)) (z := (⟨"java/lang/String", "length", "()I"⟩ : MethodName)) hown (mvT hZ (hw _ (List.mem_of_getElem? (i := 64) rfl))) (mvT hZ (hw _ (List.mem_of_getElem? (i := 65) rfl))) (notFace_of_selects (args := #[]) (mvT hZ (hw _ (List.mem_of_getElem? (i := 67) rfl)))) (mvT hZ (hw _ (List.mem_of_getElem? (i := 67) rfl))) (mvT hZ (hw _ (List.mem_of_getElem? (i := 66) rfl))) (by decide) (backOf (W := 0) (own_ln_rm l Z a0 hw [] b113 w0 b_121 k2_121 ([(.int (nar .byte (nar .char (x1 &&& (255 : Int32)).toUInt32.toUInt16.toUInt32.toInt32).toInt8.toInt32)), (.int (nar .byte (nar .char (x2 &&& (255 : Int32)).toUInt32.toUInt16.toUInt32.toInt32).toInt8.toInt32))]) (.int (0 : Int32)) T225.heap n0 Z225 f226 f230 f232 f231 f233 hw0) hZ (hw _ (List.mem_of_getElem? (i := 68) rfl)) (hw _ (List.mem_of_getElem? (i := 3) rfl)) (by decide) (by decide)) q240a q240c (g := (mkF m 135 #[.val (.int x0), .val (.int x1), .val (.int x2), .val (.int x3), .val (.int x4), .val (.ref b101), .val (.ref b113), .val .null, .val (.ref b_225), .val (.ref b_225), .val (.ref b113)] [(.ref b113)])) rfl (by rw [hml]; rfl) (Steps.refl _) (argsL := []) (rest := []) (lenOf pd___I rfl) rfl (by show 2 * 0 + _ ≤ _; exact Nat.le_of_eq rfl) (hb hby at_135) (fun _ _ => ⟨rfl, e238, (by decide : 4 + 0 ≤ _), (by decide : 9 + 0 ≤ _)⟩)
    dsimp only [Pt.U, Pt.locs, Pt.cells, Pt.slots] at X240 l240 y240 z240 st240 hQ240
    subst l240 y240 z240
    obtain ⟨rfl, N240q, e240⟩ := hQ240
    have N240 := Fr.app N238 N240q
    refine GoesW.to (B := (T240.setTop (mkF m 138 #[.val (.int x0), .val (.int x1), .val (.int x2), .val (.int x3), .val (.int x4), .val (.ref b101), .val (.ref b113), .val .null, .val (.ref b_225), .val (.ref b_225), .val (.ref b113)] [(.int (own_ln_fn w0))]))) st240 ?_
    refine GoesW.step (B := (T240.setTop (mkF m 139 #[.val (.int x0), .val (.int x1), .val (.int x2), .val (.int x3), .val (.int x4), .val (.ref b101), .val (.ref b113), .val .null, .val (.ref b_225), .val (.ref b_225), .val (.ref b113)] [(.int (2 : Int32)), (.int (own_ln_fn w0))]))) (fun _ k => XS.iconst X240.here hx rfl (hb hby at_138) k) ?_
    have hc241 : (own_ln_fn w0) = (2 : Int32) := show ((2 : Int32) >>> ((0 : Int32) &&& (31 : Int32))) = (2 : Int32) from by decide
    refine GoesW.step (B := (T240.setTop (mkF m 142 #[.val (.int x0), .val (.int x1), .val (.int x2), .val (.int x3), .val (.int x4), .val (.ref b101), .val (.ref b113), .val .null, .val (.ref b_225), .val (.ref b_225), .val (.ref b113)] []))) (fun _ k => XS.icmpNo X240.here hx rfl (hb hby at_139) rfl (teq hc241).2 k) ?_
    refine GoesW.step (B := (T240.setTop (mkF m 144 #[.val (.int x0), .val (.int x1), .val (.int x2), .val (.int x3), .val (.int x4), .val (.ref b101), .val (.ref b113), .val .null, .val (.ref b_225), .val (.ref b_225), .val (.ref b113)] [(.ref b113)]))) (fun _ k => XS.aload X240.here hx rfl (hb hby at_142) rfl rfl k) ?_
    refine GoesW.step (B := (T240.setTop (mkF m 146 #[.val (.int x0), .val (.int x1), .val (.int x2), .val (.int x3), .val (.int x4), .val (.ref b101), .val (.ref b113), .val .null, .val (.ref b_225), .val (.ref b_225), .val (.ref b113)] [(.ref b113), (.ref b113)]))) (fun _ k => XS.aload X240.here hx rfl (hb hby at_144) rfl rfl k) ?_
    obtain ⟨cq242, kq242, q242a, q242b, q242c⟩ := isOf hZ e240 f230
    obtain ⟨_, _, ⟨T242, L242, k242, n242⟩, -, X242, ⟨Lc242, hQ242, l242, y242, z242⟩, st242⟩ := X240.virtualBack hx (y := (⟨"java/lang/String", "equals", "(Ljava/lang/Object;)Z"⟩ : MethodName)) (z := (⟨"java/lang/String", "equals", "(Ljava/lang/Object;)Z"⟩ : MethodName)) hown (mvT hZ (hw _ (List.mem_of_getElem? (i := 74) rfl))) (mvT hZ (hw _ (List.mem_of_getElem? (i := 75) rfl))) (notFace_of_selects (args := #[]) (mvT hZ (hw _ (List.mem_of_getElem? (i := 77) rfl)))) (mvT hZ (hw _ (List.mem_of_getElem? (i := 77) rfl))) (mvT hZ (hw _ (List.mem_of_getElem? (i := 76) rfl))) (by decide) (backOf (W := 0) (own_eqS_rm l Z a0 hw [] b113 b113  T225.heap n0 Z225 rfl) hZ (hw _ (List.mem_of_getElem? (i := 78) rfl)) (hw _ (List.mem_of_getElem? (i := 3) rfl)) (by decide) (by decide)) q242a q242c (g := (mkF m 146 #[.val (.int x0), .val (.int x1), .val (.int x2), .val (.int x3), .val (.int x4), .val (.ref b101), .val (.ref b113), .val .null, .val (.ref b_225), .val (.ref b_225), .val (.ref b113)] [(.ref b113), (.ref b113)])) rfl (by rw [hml]; rfl) (Steps.refl _) (argsL := [(.ref b113)]) (rest := []) (lenOf pd__Ljava_lang_Object__Z rfl) rfl (by show 2 * 0 + _ ≤ _; exact Nat.le_of_eq rfl) (hb hby at_146) (fun _ _ => ⟨rfl, e240, (by decide : 4 + 0 ≤ _), (by decide : 9 + 0 ≤ _)⟩)
    dsimp only [Pt.U, Pt.locs, Pt.cells, Pt.slots] at X242 l242 y242 z242 st242 hQ242
    subst l242 y242 z242
    obtain ⟨rfl, N242q, e242⟩ := hQ242
    have N242 := Fr.app N240 N242q
    refine GoesW.to (B := (T242.setTop (mkF m 149 #[.val (.int x0), .val (.int x1), .val (.int x2), .val (.int x3), .val (.int x4), .val (.ref b101), .val (.ref b113), .val .null, .val (.ref b_225), .val (.ref b_225), .val (.ref b113)] [(.int (own_eqS_fn))]))) st242 ?_
    have hc243 : ¬ ((own_eqS_fn) = (0 : Int32)) := by decide
    refine GoesW.step (B := (T242.setTop (mkF m 152 #[.val (.int x0), .val (.int x1), .val (.int x2), .val (.int x3), .val (.int x4), .val (.ref b101), .val (.ref b113), .val .null, .val (.ref b_225), .val (.ref b_225), .val (.ref b113)] []))) (fun _ k => XS.ifNo X242.here hx rfl (hb hby at_149) rfl ((if0 _ _).trans (feq hc243).1) k) ?_
    refine GoesW.step (B := (T242.setTop (mkF m 153 #[.val (.int x0), .val (.int x1), .val (.int x2), .val (.int x3), .val (.int x4), .val (.ref b101), .val (.ref b113), .val .null, .val (.ref b_225), .val (.ref b_225), .val (.ref b113)] [(.int (1 : Int32))]))) (fun _ k => XS.iconst X242.here hx rfl (hb hby at_152) k) ?_
    refine GoesW.step (B := (T242.setTop (mkF m 157 #[.val (.int x0), .val (.int x1), .val (.int x2), .val (.int x3), .val (.int x4), .val (.ref b101), .val (.ref b113), .val .null, .val (.ref b_225), .val (.ref b_225), .val (.ref b113)] [(.int (1 : Int32))]))) (fun _ k => XS.goto X242.here hx rfl (pc0 := 153) (pc' := 157) rfl (hb hby at_153) (by decide) (by decide) k) ?_
    refine GoesW.retN X242 hS0 (by rw [e242]; exact hk225) hx hlk (t := .boolean) hrt (by simp) (hb hby at_157) ?_ (by decide) (by decide)
    rw [e242]
    exact ⟨rfl, N242⟩
set_option maxRecDepth 65536 in
set_option maxHeartbeats 40000000 in
theorem comes_1 {Post : Tables → Env → Array Value → State → Outcome → State → Prop} (hpost : ∀ tb e args s v u, (limb_1_1.after args s (.returned v) u = true ∧ limb_1_2.after args s (.returned v) u = true ∧ True) → ReturnedEndW s (.returned v) u (Jvm.fieldLocs frame_1_writes args s ++ Jvm.arrayLocs frame_1_arrays args s ++ Jvm.staticLocs frame_1_statics s) 24 1152 → Post tb e args s (.returned v) u) :
    ArmFor flags0 classFile x code maxLocals ret World_1 tables_1 room_1 Calls_1 rest_1 Pre_1 Post := by
  intro l hfl _ _ p e ha hc hk s m args below hf hA hF happ hP
  obtain ⟨hcalls, hrest, hpre⟩ := hP
  obtain ⟨-, -, -, hnamed, -, -, -, hat⟩ := (Spec.applies_iff hf).mp happ
  obtain ⟨hg, hn⟩ := and_e (Cond.before_iff.mp (show (Jvm.Cond.and given_1 narrow_1).before args s = true from hpre))
  obtain ⟨hg1, hg2⟩ := and_e hg
  obtain ⟨hg3, hg4⟩ := and_e hg2
  obtain ⟨hg5, hg6⟩ := and_e hg4
  obtain ⟨hg7, hg8⟩ := and_e hg6
  obtain ⟨hg9, hg10⟩ := and_e hg8
  obtain ⟨w0, w1, w2, w3, w4, rfl⟩ : ∃ w0 w1 w2 w3 w4 : Value, args = #[w0, w1, w2, w3, w4] := by
    have hs : args.size = 5 := by simpa [Cond.value, given_1] using hg1
    obtain ⟨L⟩ := args
    match L, hs with
    | [w0, w1, w2, w3, w4], _ => exact ⟨w0, w1, w2, w3, w4, rfl⟩
  have hw := fun d (hd : d ∈ tables_1) => atoms_spec (ws := Jvm.Cond.code x code maxLocals ret :: tables_1) hat d (List.mem_cons_of_mem _ hd)
  have hfit : Fit s := fun {y c} hc i hi => by
    obtain ⟨ha, rfl⟩ := Array.getElem?_eq_some_iff.mp hc
    have q := List.all_eq_true.mp ((Array.all_eq_true_iff_forall_mem.mp hF) _ (Array.getElem_mem ha)) i (List.mem_range.mpr hi)
    simpa [Array.getElem?_eq_getElem hi] using q
  obtain ⟨hsets, hown0⟩ := atoms_of _ (rest_1_c_eq ▸ (show rest_1_c.before _ s = true from hrest))
  obtain ⟨i0, ei0⟩ := is_v hg3
  obtain rfl : w0 = (.int i0) := Option.some.inj ei0
  obtain ⟨i1, ei1⟩ := is_v hg5
  obtain rfl : w1 = (.int i1) := Option.some.inj ei1
  obtain ⟨i2, ei2⟩ := is_v hg7
  obtain rfl : w2 = (.int i2) := Option.some.inj ei2
  obtain ⟨i3, ei3⟩ := is_v hg9
  obtain rfl : w3 = (.int i3) := Option.some.inj ei3
  obtain ⟨i4, ei4⟩ := is_v hg10
  obtain rfl : w4 = (.int i4) := Option.some.inj ei4
  obtain ⟨cw, ecw⟩ := is_v (Cond.before_iff.mp (hsets _ (List.mem_of_getElem? (i := 1) rfl)))
  have SC := Sta.start ecw (Or.inl (hsets _ (List.mem_of_getElem? (i := 0) rfl)))
  have hcw : ¬ (cw = (0 : Int32)) := own_nz0 ecw (Cond.before_iff.mp (hsets _ (List.mem_of_getElem? (i := 2) rfl)))
  have ehi := own_stint (Cond.before_iff.mp (hsets _ (List.mem_of_getElem? (i := 12) rfl)))
  have SHi := Sta.start ehi (Or.inl (hsets _ (List.mem_of_getElem? (i := 10) rfl)))
  obtain ⟨cc, ecc⟩ := arr_v (Cond.before_iff.mp (hsets _ (List.mem_of_getElem? (i := 13) rfl)))
  have SCa := Sta.start ecc (Or.inr ⟨(hw _ (List.mem_of_getElem? (i := 49) rfl)), (hsets _ (List.mem_of_getElem? (i := 11) rfl))⟩)
  obtain ⟨cl, Ac⟩ := Arr.start ecc (Cond.before_iff.mp (hsets _ (List.mem_of_getElem? (i := 13) rfl)))
  have VC : OwnCache s s.heap cc := own_cache ecc Ac (Cond.before_iff.mp (hsets _ (List.mem_of_getElem? (i := 15) rfl))) (Cond.before_iff.mp (hsets _ (List.mem_of_getElem? (i := 16) rfl)))
  obtain ⟨n, o, h1, h2, h3, _, L, rfl, ⟨hv, N⟩, hq⟩ := own_law_rm l s _ hw tables_1 i0 i1 i2 i3 i4 cw cc s.heap s.heap.size (Nat.le_refl _) SC SHi SCa hcw VC (fun _ _ q => q) (hcalls.1 ("java/lang/String", 7) (List.mem_of_getElem? (i := 0) rfl)) (hsets _ (List.mem_of_getElem? (i := 2) rfl)) p e ha hc hk s m _ below hf ((Spec.applies_iff_loose hf).mp happ).1 ⟨rfl, State.Warmed39.refl s, rfl, rfl⟩ trivial
  subst hv
  refine ⟨n, _, h1, h2, h3, hpost _ _ _ _ _ _ ⟨Cond.after_iff.mpr rfl, Cond.after_iff.mpr (eq_i res_at (Term.int_eval (1)) rfl), trivial⟩ ⟨hq.1, hq.2.1, hq.2.2.1, (hq.2.2.2.sift fun y hy => Or.inr (N y hy)).mono (by decide) (by decide)⟩⟩
theorem main_1_1 : Claimed_1_1 := comes_1 fun _ _ _ _ _ _ h hF => ⟨h.1, hF⟩
theorem main_1_2 : Claimed_1_2 := comes_1 fun _ _ _ _ _ _ h hF => ⟨h.2.1, hF⟩
end Jvm.Pilot.@@N@@
namespace Jvm.Pilot.@@N@@
open Jvm Jvm.ClassFile Sem Op Lib Jvm.Free Jvm.Stand Jvm.Pilot.@@N@@.Jvm.D
/-! MADE BY PROGRAM (witnessworld.py) out of the Statement's table words and the real class files: 24 classes; the members and pool entries that the words name. The judged class is class 1, her method 1. -/
namespace start1
open Jvm.ClassFile
def u (s : String) : CpInfo := .utf8 (stringToUtf16 s)
/-- a pool by its gaps: so many unusable entries, then the entry; so many at the end -/
def gap : Nat → List CpInfo → List CpInfo
  | 0, r => r
  | n + 1, r => .unusable :: gap n r
def poolList (es : List (Nat × CpInfo)) (last : Nat) : List CpInfo := es.foldr (fun e r => gap e.1 (e.2 :: r)) (gap last [])
def pool (es : List (Nat × CpInfo)) (last : Nat) : Array CpInfo := ⟨poolList es last⟩
def fileOf (pool : Array CpInfo) (this : Nat) (attrs : Array Attribute := #[]) (ms : Array MethodInfo := #[]) (fl : Nat := 33) (sup : Nat := 0) (ifs : Array Nat := #[]) (fds : Array FieldInfo := #[]) : ClassFile where
  minorVersion := 0
  majorVersion := 65
  constantPool := pool
  accessFlags := fl
  thisClass := this
  superClass := sup
  interfaces := ifs
  fields := fds
  methods := ms
  attributes := attrs
def plain (name : String) (sup : Option ClassId) : Class where
  name := name
  kind := .ordinary
  loader := none
  accessFlags := 33
  super := sup
  interfaces := #[]
  cf := none
  fields := #[]
  methods := #[]
  instanceTypes := #[]
  staticTypes := #[]
  resolved := #[]
  callSites := []
  init := .initialized
  statics := none
  mirror := none

def pool0 : Array CpInfo := pool [(5, u "<init>"), (0, u "()V"), (1, .class_ 10), (1, u "java/lang/Object")] 113

def k0c0 : Code := { maxStack := 0, maxLocals := 1, code := object_method_1_code, exceptionTable := #[], attributes := #[] }
def k0m0 : Method := { name := "<init>", desc := "()V", sig := { parameters := [], returnType := none }, accessFlags := 1, code := some k0c0 }
/-- java/lang/Object -/
def k0 : Class := { plain "java/lang/Object" none with
  accessFlags := 33
  interfaces := #[]
  cf := some (fileOf pool0 8 #[] #[{ accessFlags := 1, nameIndex := 5, descriptorIndex := 6, attributes := #[] }] 33 0 #[] #[])
  fields := #[]
  methods := #[k0m0]
  instanceTypes := #[]
  staticTypes := #[]
  resolved := Array.replicate 124 none
  statics := none }

def pool1 : Array CpInfo := pool [(2, .class_ 4), (1, u "java/lang/Object"), (0, u "<init>"), (0, u "()V"), (0, .class_ 8), (0, u "java/lang/String"), (0, .methodref 7 10), (0, .nameAndType 5 11), (0, u "([C)V"), (0, .methodref 7 13), (0, .nameAndType 14 15), (0, u "valueOf"), (0, u "(C)Ljava/lang/String;"), (0, .methodref 17 18), (0, .class_ 19), (0, .nameAndType 14 20), (0, u "java/lang/Integer"), (0, u "(I)Ljava/lang/Integer;"), (0, .methodref 22 23), (0, .class_ 24), (0, .nameAndType 25 26), (0, u "com/example/timeworth/timeworth/Checks"), (0, u "given"), (0, u "(Ljava/lang/String;Ljava/lang/Object;)Ljava/lang/Object;"), (0, .methodref 17 28), (0, .nameAndType 29 30), (0, u "intValue"), (0, u "()I"), (0, .methodref 7 32), (0, .nameAndType 33 30), (0, u "length"), (0, .methodref 7 35), (0, .nameAndType 36 37), (0, u "equals"), (0, u "(Ljava/lang/Object;)Z"), (0, .class_ 39), (0, u "com/example/timeworth/timeworth/ChecksGivenPinLaw"), (2, u "law"), (0, u "(IIIII)Z")] 5

def k1m0 : Method := { name := "<init>", desc := "()V", sig := { parameters := [], returnType := none }, accessFlags := 2, code := none }
def k1c1 : Code := { maxStack := 5, maxLocals := 11, code := code, exceptionTable := #[], attributes := #[] }
def k1m1 : Method := { name := "law", desc := "(IIIII)Z", sig := { parameters := [.int, .int, .int, .int, .int], returnType := some .boolean }, accessFlags := 9, code := some k1c1 }
/-- com/example/timeworth/timeworth/ChecksGivenPinLaw -/
def k1 : Class := { plain "com/example/timeworth/timeworth/ChecksGivenPinLaw" (some 0) with
  accessFlags := 49
  interfaces := #[]
  cf := some (fileOf pool1 38 #[] #[{ accessFlags := 2, nameIndex := 5, descriptorIndex := 6, attributes := #[] }, { accessFlags := 9, nameIndex := 42, descriptorIndex := 43, attributes := #[] }] 49 2 #[] #[])
  fields := #[]
  methods := #[k1m0, k1m1]
  instanceTypes := #[]
  staticTypes := #[]
  resolved := Array.replicate 49 none
  statics := none }

def pool2 : Array CpInfo := pool [(1, .class_ 2), (0, u "java/io/Serializable"), (0, .class_ 4), (0, u "java/lang/Object")] 2

/-- java/io/Serializable -/
def k2 : Class := { plain "java/io/Serializable" (some 0) with
  accessFlags := 1537
  interfaces := #[]
  cf := some (fileOf pool2 1 #[] #[] 1537 3 #[] #[])
  fields := #[]
  methods := #[]
  instanceTypes := #[]
  staticTypes := #[]
  resolved := Array.replicate 7 none
  statics := none }

def pool3 : Array CpInfo := pool [(1, .class_ 2), (0, u "java/lang/Comparable"), (0, .class_ 4), (0, u "java/lang/Object")] 7

/-- java/lang/Comparable -/
def k3 : Class := { plain "java/lang/Comparable" (some 0) with
  accessFlags := 1537
  interfaces := #[]
  cf := some (fileOf pool3 1 #[] #[] 1537 3 #[] #[])
  fields := #[]
  methods := #[]
  instanceTypes := #[]
  staticTypes := #[]
  resolved := Array.replicate 12 none
  statics := none }

def pool4 : Array CpInfo := pool [(2, .class_ 4), (1, u "java/lang/CharSequence"), (42, .class_ 48), (0, u "java/lang/CharSequence$1CodePointIterator"), (10, .class_ 60), (0, u "java/lang/CharSequence$1CharIterator"), (5, .class_ 67), (0, u "java/lang/Object")] 63

/-- java/lang/CharSequence -/
def k4 : Class := { plain "java/lang/CharSequence" (some 0) with
  accessFlags := 1537
  interfaces := #[]
  cf := some (fileOf pool4 2 #[.nestMembers #[47, 59]] #[] 1537 66 #[] #[])
  fields := #[]
  methods := #[]
  instanceTypes := #[]
  staticTypes := #[]
  resolved := Array.replicate 131 none
  statics := none }

def pool5 : Array CpInfo := pool [(1, .class_ 2), (0, u "java/lang/constant/Constable"), (0, .class_ 4), (0, u "java/lang/Object")] 6

/-- java/lang/constant/Constable -/
def k5 : Class := { plain "java/lang/constant/Constable" (some 0) with
  accessFlags := 1537
  interfaces := #[]
  cf := some (fileOf pool5 1 #[] #[] 1537 3 #[] #[])
  fields := #[]
  methods := #[]
  instanceTypes := #[]
  staticTypes := #[]
  resolved := Array.replicate 11 none
  statics := none }

def pool6 : Array CpInfo := pool [(1, .class_ 2), (0, u "java/lang/constant/ConstantDesc"), (0, .class_ 4), (0, u "java/lang/Object")] 32

/-- java/lang/constant/ConstantDesc -/
def k6 : Class := { plain "java/lang/constant/ConstantDesc" (some 0) with
  accessFlags := 1537
  interfaces := #[]
  cf := some (fileOf pool6 1 #[] #[] 1537 3 #[] #[])
  fields := #[]
  methods := #[]
  instanceTypes := #[]
  staticTypes := #[]
  resolved := Array.replicate 37 none
  statics := none }

def pool7 : Array CpInfo := pool [(1, .methodref 2 3), (0, .class_ 4), (0, .nameAndType 5 6), (0, u "java/lang/Object"), (0, u "<init>"), (0, u "()V"), (0, .string 8), (0, u ""), (0, .fieldref 10 11), (0, .class_ 12), (0, .nameAndType 13 14), (0, u "java/lang/String"), (0, u "value"), (0, u "[B"), (0, .fieldref 10 16), (0, .nameAndType 17 18), (0, u "coder"), (0, u "B"), (2, u "hash"), (0, u "I"), (2, u "hashIsZero"), (0, u "Z"), (0, .methodref 10 28), (0, .nameAndType 5 29), (0, u "([CIILjava/lang/Void;)V"), (8, .fieldref 10 39), (0, .nameAndType 40 26), (0, u "COMPACT_STRINGS"), (1, .class_ 44), (1, u "java/lang/StringUTF16"), (0, u "compress"), (1, .methodref 42 48), (0, .nameAndType 49 50), (0, u "coderFromArrayLen"), (0, u "([BI)B"), (2, u "toBytes"), (53, .class_ 109), (1, u "java/lang/StringLatin1"), (67, .methodref 42 178), (0, .nameAndType 45 179), (0, u "([CII)[B"), (29, .methodref 10 210), (0, .nameAndType 5 211), (0, u "([BB)V"), (122, u "()I"), (0, .methodref 10 336), (0, .nameAndType 17 337), (0, u "()B"), (31, u "(C)Z"), (137, u "length"), (35, u "equals"), (29, u "(Ljava/lang/Object;)Z"), (1, .class_ 576), (0, u "java/lang/CharSequence"), (22, u "CASE_INSENSITIVE_ORDER"), (0, u "Ljava/util/Comparator;"), (181, u "valueOf"), (0, u "(C)Ljava/lang/String;"), (226, u "([C)V"), (4, .methodref 107 1016), (0, .nameAndType 1017 369), (0, u "canEncode"), (0, .methodref 107 1019), (0, .nameAndType 53 1020), (0, u "(C)[B"), (80, u "serialPersistentFields"), (0, u "[Ljava/io/ObjectStreamField;"), (0, .class_ 1104), (0, u "java/lang/String$CaseInsensitiveComparator"), (1, .class_ 1107), (0, u "java/io/Serializable"), (0, .class_ 1109), (0, u "java/lang/Comparable"), (0, .class_ 1111), (0, u "java/lang/constant/Constable"), (0, .class_ 1113), (0, u "java/lang/constant/ConstantDesc"), (2, u "serialVersionUID"), (0, u "J"), (3, u "REPL"), (0, u "C"), (2, u "LATIN1"), (1, u "UTF16")] 323

def k7m0 : Method := { name := "<init>", desc := "()V", sig := { parameters := [], returnType := none }, accessFlags := 1, code := none }
def k7c1 : Code := { maxStack := 5, maxLocals := 2, code := jdk_42_method_3_code, exceptionTable := #[], attributes := #[] }
def k7m1 : Method := { name := "<init>", desc := "([C)V", sig := { parameters := [(.array .char)], returnType := none }, accessFlags := 1, code := some k7c1 }
def k7c2 : Code := { maxStack := 2, maxLocals := 1, code := jdk_42_method_54_code, exceptionTable := #[], attributes := #[] }
def k7m2 : Method := { name := "length", desc := "()I", sig := { parameters := [], returnType := some .int }, accessFlags := 1, code := some k7c2 }
def k7c3 : Code := { maxStack := 2, maxLocals := 3, code := jdk_42_method_66_code, exceptionTable := #[], attributes := #[] }
def k7m3 : Method := { name := "equals", desc := "(Ljava/lang/Object;)Z", sig := { parameters := [(.object "java/lang/Object")], returnType := some .boolean }, accessFlags := 1, code := some k7c3 }
def k7c4 : Code := { maxStack := 4, maxLocals := 1, code := jdk_42_method_139_code, exceptionTable := #[], attributes := #[] }
def k7m4 : Method := { name := "valueOf", desc := "(C)Ljava/lang/String;", sig := { parameters := [.char], returnType := some (.object "java/lang/String") }, accessFlags := 9, code := some k7c4 }
def k7c5 : Code := { maxStack := 4, maxLocals := 6, code := jdk_42_method_149_code, exceptionTable := #[], attributes := #[] }
def k7m5 : Method := { name := "<init>", desc := "([CIILjava/lang/Void;)V", sig := { parameters := [(.array .char), .int, .int, (.object "java/lang/Void")], returnType := none }, accessFlags := 2, code := some k7c5 }
def k7c6 : Code := { maxStack := 2, maxLocals := 3, code := jdk_42_method_151_code, exceptionTable := #[], attributes := #[] }
def k7m6 : Method := { name := "<init>", desc := "([BB)V", sig := { parameters := [(.array .byte), .byte], returnType := none }, accessFlags := 0, code := some k7c6 }
def k7c7 : Code := { maxStack := 1, maxLocals := 1, code := jdk_42_method_152_code, exceptionTable := #[], attributes := #[] }
def k7m7 : Method := { name := "coder", desc := "()B", sig := { parameters := [], returnType := some .byte }, accessFlags := 0, code := some k7c7 }
/-- java/lang/String -/
def k7 : Class := { plain "java/lang/String" (some 0) with
  accessFlags := 49
  interfaces := #[2, 3, 4, 5, 6]
  cf := some (fileOf pool7 10 #[.nestMembers #[1103]] #[{ accessFlags := 1, nameIndex := 5, descriptorIndex := 6, attributes := #[] }, { accessFlags := 1, nameIndex := 5, descriptorIndex := 1010, attributes := #[] }, { accessFlags := 1, nameIndex := 507, descriptorIndex := 334, attributes := #[] }, { accessFlags := 1, nameIndex := 543, descriptorIndex := 573, attributes := #[] }, { accessFlags := 9, nameIndex := 782, descriptorIndex := 783, attributes := #[] }, { accessFlags := 2, nameIndex := 5, descriptorIndex := 29, attributes := #[] }, { accessFlags := 0, nameIndex := 5, descriptorIndex := 211, attributes := #[] }, { accessFlags := 0, nameIndex := 17, descriptorIndex := 337, attributes := #[] }] 49 2 #[1106, 1108, 575, 1110, 1112] #[{ accessFlags := 18, nameIndex := 13, descriptorIndex := 14, attributes := #[] }, { accessFlags := 18, nameIndex := 17, descriptorIndex := 18, attributes := #[] }, { accessFlags := 2, nameIndex := 21, descriptorIndex := 22, attributes := #[] }, { accessFlags := 2, nameIndex := 25, descriptorIndex := 26, attributes := #[] }, { accessFlags := 26, nameIndex := 1116, descriptorIndex := 1117, attributes := #[] }, { accessFlags := 24, nameIndex := 40, descriptorIndex := 26, attributes := #[] }, { accessFlags := 26, nameIndex := 1101, descriptorIndex := 1102, attributes := #[] }, { accessFlags := 26, nameIndex := 1121, descriptorIndex := 1122, attributes := #[] }, { accessFlags := 25, nameIndex := 599, descriptorIndex := 600, attributes := #[] }, { accessFlags := 24, nameIndex := 1125, descriptorIndex := 18, attributes := #[] }, { accessFlags := 24, nameIndex := 1127, descriptorIndex := 18, attributes := #[] }])
  fields := #[{ name := "value", type := (.array .byte), accessFlags := 18, slot := 0, constantValue := 0 }, { name := "coder", type := .byte, accessFlags := 18, slot := 1, constantValue := 0 }, { name := "hash", type := .int, accessFlags := 2, slot := 2, constantValue := 0 }, { name := "hashIsZero", type := .boolean, accessFlags := 2, slot := 3, constantValue := 0 }, { name := "serialVersionUID", type := .long, accessFlags := 26, slot := 0, constantValue := 0 }, { name := "COMPACT_STRINGS", type := .boolean, accessFlags := 24, slot := 1, constantValue := 0 }, { name := "serialPersistentFields", type := (.array (.object "java/io/ObjectStreamField")), accessFlags := 26, slot := 2, constantValue := 0 }, { name := "REPL", type := .char, accessFlags := 26, slot := 3, constantValue := 0 }, { name := "CASE_INSENSITIVE_ORDER", type := (.object "java/util/Comparator"), accessFlags := 25, slot := 4, constantValue := 0 }, { name := "LATIN1", type := .byte, accessFlags := 24, slot := 5, constantValue := 0 }, { name := "UTF16", type := .byte, accessFlags := 24, slot := 6, constantValue := 0 }]
  methods := #[k7m0, k7m1, k7m2, k7m3, k7m4, k7m5, k7m6, k7m7]
  instanceTypes := #[(.array .byte), .byte, .int, .boolean]
  staticTypes := #[.long, .boolean, (.array (.object "java/io/ObjectStreamField")), .char, (.object "java/util/Comparator"), .byte, .byte]
  resolved := Array.replicate 1451 none
  statics := some 0 }

def pool8 : Array CpInfo := pool [(6, .class_ 8), (1, u "java/lang/Object"), (0, u "<init>"), (0, u "()V"), (1, .class_ 14), (1, u "java/lang/StringUTF16"), (31, u "$assertionsDisabled"), (0, u "Z"), (13, u "HI_BYTE_SHIFT"), (0, u "I"), (2, u "LO_BYTE_SHIFT"), (49, .methodref 12 116), (0, .nameAndType 117 118), (0, u "compress"), (0, u "([CI[BII)I"), (3, u "([CII)[B"), (138, u "coderFromArrayLen"), (0, u "([BI)B"), (106, .class_ 371), (1, u "java/lang/StringUTF16$LinesSpliterator"), (58, u "MAX_LENGTH"), (196, .class_ 628), (0, u "java/lang/StringUTF16$CodePointsSpliterator"), (0, .class_ 630), (0, u "java/lang/StringUTF16$CharsSpliterator")] 4

def k8m0 : Method := { name := "<init>", desc := "()V", sig := { parameters := [], returnType := none }, accessFlags := 0, code := none }
def k8c1 : Code := { maxStack := 2, maxLocals := 2, code := jdk_52_method_15_code, exceptionTable := #[], attributes := #[] }
def k8m1 : Method := { name := "coderFromArrayLen", desc := "([BI)B", sig := { parameters := [(.array .byte), .int], returnType := some .byte }, accessFlags := 8, code := some k8c1 }
def k8c2 : Code := { maxStack := 5, maxLocals := 6, code := jdk_52_method_16_code, exceptionTable := #[], attributes := #[] }
def k8m2 : Method := { name := "compress", desc := "([CII)[B", sig := { parameters := [(.array .char), .int, .int], returnType := some (.array .byte) }, accessFlags := 9, code := some k8c2 }
def k8c3 : Code := { maxStack := 3, maxLocals := 7, code := jdk_52_method_21_code, exceptionTable := #[], attributes := #[] }
def k8m3 : Method := { name := "compress", desc := "([CI[BII)I", sig := { parameters := [(.array .char), .int, (.array .byte), .int, .int], returnType := some .int }, accessFlags := 9, code := some k8c3 }
/-- java/lang/StringUTF16 -/
def k8 : Class := { plain "java/lang/StringUTF16" (some 0) with
  accessFlags := 48
  interfaces := #[]
  cf := some (fileOf pool8 12 #[.nestMembers #[627, 629, 369]] #[{ accessFlags := 0, nameIndex := 9, descriptorIndex := 10, attributes := #[] }, { accessFlags := 8, nameIndex := 261, descriptorIndex := 262, attributes := #[] }, { accessFlags := 9, nameIndex := 117, descriptorIndex := 122, attributes := #[] }, { accessFlags := 9, nameIndex := 117, descriptorIndex := 118, attributes := #[] }] 48 6 #[] #[{ accessFlags := 26, nameIndex := 61, descriptorIndex := 62, attributes := #[] }, { accessFlags := 26, nameIndex := 65, descriptorIndex := 62, attributes := #[] }, { accessFlags := 24, nameIndex := 430, descriptorIndex := 62, attributes := #[] }, { accessFlags := 4120, nameIndex := 46, descriptorIndex := 47, attributes := #[] }])
  fields := #[{ name := "HI_BYTE_SHIFT", type := .int, accessFlags := 26, slot := 0, constantValue := 0 }, { name := "LO_BYTE_SHIFT", type := .int, accessFlags := 26, slot := 1, constantValue := 0 }, { name := "MAX_LENGTH", type := .int, accessFlags := 24, slot := 2, constantValue := 0 }, { name := "$assertionsDisabled", type := .boolean, accessFlags := 4120, slot := 3, constantValue := 0 }]
  methods := #[k8m0, k8m1, k8m2, k8m3]
  instanceTypes := #[]
  staticTypes := #[.int, .int, .int, .boolean]
  resolved := Array.replicate 635 none
  statics := none }

def pool9 : Array CpInfo := pool [(4, .class_ 6), (1, u "java/lang/Object"), (0, u "<init>"), (0, u "()V"), (5, .class_ 16), (1, u "java/lang/StringLatin1"), (73, u "canEncode"), (14, u "(C)Z"), (15, u "$assertionsDisabled"), (0, u "Z"), (98, .class_ 223), (1, u "java/lang/StringLatin1$LinesSpliterator"), (156, u "toBytes"), (1, u "(C)[B"), (7, .class_ 391), (0, u "java/lang/StringLatin1$CharsSpliterator")] 3

def k9m0 : Method := { name := "<init>", desc := "()V", sig := { parameters := [], returnType := none }, accessFlags := 0, code := none }
def k9c1 : Code := { maxStack := 2, maxLocals := 1, code := jdk_43_method_3_code, exceptionTable := #[], attributes := #[] }
def k9m1 : Method := { name := "canEncode", desc := "(C)Z", sig := { parameters := [.char], returnType := some .boolean }, accessFlags := 9, code := some k9c1 }
def k9c2 : Code := { maxStack := 4, maxLocals := 1, code := jdk_43_method_46_code, exceptionTable := #[], attributes := #[] }
def k9m2 : Method := { name := "toBytes", desc := "(C)[B", sig := { parameters := [.char], returnType := some (.array .byte) }, accessFlags := 9, code := some k9c2 }
/-- java/lang/StringLatin1 -/
def k9 : Class := { plain "java/lang/StringLatin1" (some 0) with
  accessFlags := 48
  interfaces := #[]
  cf := some (fileOf pool9 14 #[.nestMembers #[390, 221]] #[{ accessFlags := 0, nameIndex := 7, descriptorIndex := 8, attributes := #[] }, { accessFlags := 9, nameIndex := 90, descriptorIndex := 105, attributes := #[] }, { accessFlags := 9, nameIndex := 380, descriptorIndex := 382, attributes := #[] }] 48 4 #[] #[{ accessFlags := 4120, nameIndex := 121, descriptorIndex := 122, attributes := #[] }])
  fields := #[{ name := "$assertionsDisabled", type := .boolean, accessFlags := 4120, slot := 0, constantValue := 0 }]
  methods := #[k9m0, k9m1, k9m2]
  instanceTypes := #[]
  staticTypes := #[.boolean]
  resolved := Array.replicate 395 none
  statics := none }

def pool10 : Array CpInfo := pool [(1, .methodref 2 3), (0, .class_ 4), (0, .nameAndType 5 6), (0, u "java/lang/Object"), (0, u "<init>"), (0, u "()V"), (1, .class_ 10), (1, u "java/lang/Number"), (2, .class_ 14), (0, u "java/io/Serializable"), (0, u "serialVersionUID"), (0, u "J")] 20

def k10c0 : Code := { maxStack := 1, maxLocals := 1, code := jdk_18_method_1_code, exceptionTable := #[], attributes := #[] }
def k10m0 : Method := { name := "<init>", desc := "()V", sig := { parameters := [], returnType := none }, accessFlags := 1, code := some k10c0 }
/-- java/lang/Number -/
def k10 : Class := { plain "java/lang/Number" (some 0) with
  accessFlags := 1057
  interfaces := #[2]
  cf := some (fileOf pool10 8 #[] #[{ accessFlags := 1, nameIndex := 5, descriptorIndex := 6, attributes := #[] }] 1057 2 #[13] #[{ accessFlags := 26, nameIndex := 15, descriptorIndex := 16, attributes := #[] }])
  fields := #[{ name := "serialVersionUID", type := .long, accessFlags := 26, slot := 0, constantValue := 0 }]
  methods := #[k10m0]
  instanceTypes := #[]
  staticTypes := #[.long]
  resolved := Array.replicate 37 none
  statics := none }

def pool11 : Array CpInfo := pool [(1, .class_ 2), (0, u "java/lang/Integer"), (16, u "digits"), (0, u "[C"), (46, u "<init>"), (17, u "DigitOnes"), (0, u "[B"), (2, u "DigitTens"), (10, .nameAndType 67 101), (0, u "()V"), (19, u "()I"), (65, u "valueOf"), (0, u "(I)Ljava/lang/Integer;"), (0, .class_ 190), (0, u "java/lang/Integer$IntegerCache"), (0, .fieldref 189 192), (0, .nameAndType 193 194), (0, u "high"), (0, u "I"), (0, .fieldref 189 196), (0, .nameAndType 197 198), (0, u "cache"), (0, u "[Ljava/lang/Integer;"), (0, .methodref 1 200), (0, .nameAndType 67 201), (0, u "(I)V"), (0, .methodref 203 100), (0, .class_ 204), (0, u "java/lang/Number"), (0, .fieldref 1 206), (0, .nameAndType 207 194), (0, u "value"), (5, u "intValue"), (88, u "TYPE"), (0, u "Ljava/lang/Class;"), (0, .class_ 305), (0, u "java/lang/Comparable"), (0, .class_ 307), (0, u "java/lang/constant/Constable"), (0, .class_ 309), (0, u "java/lang/constant/ConstantDesc"), (0, u "MIN_VALUE"), (1, u "MAX_VALUE"), (3, u "SIZE"), (1, u "BYTES"), (1, u "serialVersionUID"), (0, u "J")] 131

def k11c0 : Code := { maxStack := 3, maxLocals := 1, code := jdk_33_method_22_code, exceptionTable := #[], attributes := #[] }
def k11m0 : Method := { name := "valueOf", desc := "(I)Ljava/lang/Integer;", sig := { parameters := [.int], returnType := some (.object "java/lang/Integer") }, accessFlags := 9, code := some k11c0 }
def k11c1 : Code := { maxStack := 2, maxLocals := 2, code := jdk_33_method_23_code, exceptionTable := #[], attributes := #[] }
def k11m1 : Method := { name := "<init>", desc := "(I)V", sig := { parameters := [.int], returnType := none }, accessFlags := 1, code := some k11c1 }
def k11c2 : Code := { maxStack := 1, maxLocals := 1, code := jdk_33_method_27_code, exceptionTable := #[], attributes := #[] }
def k11m2 : Method := { name := "intValue", desc := "()I", sig := { parameters := [], returnType := some .int }, accessFlags := 1, code := some k11c2 }
/-- java/lang/Integer -/
def k11 : Class := { plain "java/lang/Integer" (some 10) with
  accessFlags := 49
  interfaces := #[3, 5, 6]
  cf := some (fileOf pool11 1 #[.nestMembers #[189]] #[{ accessFlags := 9, nameIndex := 187, descriptorIndex := 188, attributes := #[] }, { accessFlags := 1, nameIndex := 67, descriptorIndex := 201, attributes := #[] }, { accessFlags := 1, nameIndex := 213, descriptorIndex := 121, attributes := #[] }] 49 203 #[304, 306, 308] #[{ accessFlags := 25, nameIndex := 310, descriptorIndex := 194, attributes := #[] }, { accessFlags := 25, nameIndex := 312, descriptorIndex := 194, attributes := #[] }, { accessFlags := 25, nameIndex := 302, descriptorIndex := 303, attributes := #[] }, { accessFlags := 24, nameIndex := 19, descriptorIndex := 20, attributes := #[] }, { accessFlags := 24, nameIndex := 89, descriptorIndex := 86, attributes := #[] }, { accessFlags := 24, nameIndex := 85, descriptorIndex := 86, attributes := #[] }, { accessFlags := 18, nameIndex := 207, descriptorIndex := 194, attributes := #[] }, { accessFlags := 25, nameIndex := 316, descriptorIndex := 194, attributes := #[] }, { accessFlags := 25, nameIndex := 318, descriptorIndex := 194, attributes := #[] }, { accessFlags := 26, nameIndex := 320, descriptorIndex := 321, attributes := #[] }])
  fields := #[{ name := "MIN_VALUE", type := .int, accessFlags := 25, slot := 0, constantValue := 0 }, { name := "MAX_VALUE", type := .int, accessFlags := 25, slot := 1, constantValue := 0 }, { name := "TYPE", type := (.object "java/lang/Class"), accessFlags := 25, slot := 2, constantValue := 0 }, { name := "digits", type := (.array .char), accessFlags := 24, slot := 3, constantValue := 0 }, { name := "DigitTens", type := (.array .byte), accessFlags := 24, slot := 4, constantValue := 0 }, { name := "DigitOnes", type := (.array .byte), accessFlags := 24, slot := 5, constantValue := 0 }, { name := "value", type := .int, accessFlags := 18, slot := 0, constantValue := 0 }, { name := "SIZE", type := .int, accessFlags := 25, slot := 6, constantValue := 0 }, { name := "BYTES", type := .int, accessFlags := 25, slot := 7, constantValue := 0 }, { name := "serialVersionUID", type := .long, accessFlags := 26, slot := 8, constantValue := 0 }]
  methods := #[k11m0, k11m1, k11m2]
  instanceTypes := #[.int]
  staticTypes := #[.int, .int, (.object "java/lang/Class"), (.array .char), (.array .byte), (.array .byte), .int, .int, .long]
  resolved := Array.replicate 453 none
  statics := none }

def pool12 : Array CpInfo := pool [(2, .class_ 4), (1, u "java/lang/Object"), (0, u "<init>"), (0, u "()V"), (0, .class_ 8), (0, u "java/lang/Integer"), (7, .class_ 18), (1, u "java/lang/Integer$IntegerCache"), (0, u "$assertionsDisabled"), (0, u "Z"), (26, u "high"), (0, u "I"), (8, u "archivedCache"), (0, u "[Ljava/lang/Integer;"), (12, u "cache"), (0, u "low")] 27

def k12m0 : Method := { name := "<init>", desc := "()V", sig := { parameters := [], returnType := none }, accessFlags := 2, code := none }
/-- java/lang/Integer$IntegerCache -/
def k12 : Class := { plain "java/lang/Integer$IntegerCache" (some 0) with
  accessFlags := 48
  interfaces := #[]
  cf := some (fileOf pool12 16 #[.nestHost 7] #[{ accessFlags := 2, nameIndex := 5, descriptorIndex := 6, attributes := #[] }] 48 2 #[] #[{ accessFlags := 24, nameIndex := 72, descriptorIndex := 48, attributes := #[] }, { accessFlags := 24, nameIndex := 47, descriptorIndex := 48, attributes := #[] }, { accessFlags := 24, nameIndex := 71, descriptorIndex := 58, attributes := #[] }, { accessFlags := 8, nameIndex := 57, descriptorIndex := 58, attributes := #[] }, { accessFlags := 4120, nameIndex := 19, descriptorIndex := 20, attributes := #[] }])
  fields := #[{ name := "low", type := .int, accessFlags := 24, slot := 0, constantValue := 0 }, { name := "high", type := .int, accessFlags := 24, slot := 1, constantValue := 0 }, { name := "cache", type := (.array (.object "java/lang/Integer")), accessFlags := 24, slot := 2, constantValue := 0 }, { name := "archivedCache", type := (.array (.object "java/lang/Integer")), accessFlags := 8, slot := 3, constantValue := 0 }, { name := "$assertionsDisabled", type := .boolean, accessFlags := 4120, slot := 4, constantValue := 0 }]
  methods := #[k12m0]
  instanceTypes := #[]
  staticTypes := #[.int, .int, (.array (.object "java/lang/Integer")), (.array (.object "java/lang/Integer")), .boolean]
  resolved := Array.replicate 100 none
  statics := some 1 }

def pool13 : Array CpInfo := pool [(2, .class_ 4), (1, u "java/lang/Object"), (0, u "<init>"), (0, u "()V"), (10, .class_ 19), (1, u "com/example/timeworth/timeworth/Checks"), (0, u "given"), (0, u "(Ljava/lang/String;Ljava/lang/Object;)Ljava/lang/Object;"), (18, u "MAX_AMOUNT"), (0, u "Ljava/math/BigDecimal;"), (61, u "MAX_FRACTION_VALUE"), (7, u "MAX_PERIODS"), (0, u "Lcom/example/timeworth/timeworth/Fraction;"), (23, u "Ljava/math/BigInteger;"), (29, u "UNWRITTEN"), (15, u "MAX_RATE_GIVEN"), (57, u "MAX_RATE"), (29, u "PRESENT_VALUE"), (0, u "Ljava/lang/String;"), (3, u "PAYMENT"), (2, u "FUTURE_VALUE"), (2, u "NET_PRESENT_VALUE"), (2, u "EFFECTIVE_RATE"), (0, u "NOMINAL_RATE"), (2, u "RATE"), (0, u "PERIODS"), (0, u "YEARS"), (0, u "FRACTION_VALUE"), (0, u "MAX_PER_YEAR"), (0, u "I"), (1, u "MAX_PLACES")] 85

def k13m0 : Method := { name := "<init>", desc := "()V", sig := { parameters := [], returnType := none }, accessFlags := 2, code := none }
def k13c1 : Code := { maxStack := 3, maxLocals := 2, code := prog_6_method_2_code, exceptionTable := #[], attributes := #[] }
def k13m1 : Method := { name := "given", desc := "(Ljava/lang/String;Ljava/lang/Object;)Ljava/lang/Object;", sig := { parameters := [(.object "java/lang/String"), (.object "java/lang/Object")], returnType := some (.object "java/lang/Object") }, accessFlags := 8, code := some k13c1 }
/-- com/example/timeworth/timeworth/Checks -/
def k13 : Class := { plain "com/example/timeworth/timeworth/Checks" (some 0) with
  accessFlags := 48
  interfaces := #[]
  cf := some (fileOf pool13 17 #[] #[{ accessFlags := 2, nameIndex := 5, descriptorIndex := 6, attributes := #[] }, { accessFlags := 8, nameIndex := 20, descriptorIndex := 21, attributes := #[] }] 48 2 #[] #[{ accessFlags := 24, nameIndex := 270, descriptorIndex := 271, attributes := #[] }, { accessFlags := 24, nameIndex := 275, descriptorIndex := 271, attributes := #[] }, { accessFlags := 24, nameIndex := 278, descriptorIndex := 271, attributes := #[] }, { accessFlags := 24, nameIndex := 281, descriptorIndex := 271, attributes := #[] }, { accessFlags := 24, nameIndex := 284, descriptorIndex := 271, attributes := #[] }, { accessFlags := 24, nameIndex := 285, descriptorIndex := 271, attributes := #[] }, { accessFlags := 26, nameIndex := 288, descriptorIndex := 271, attributes := #[] }, { accessFlags := 26, nameIndex := 289, descriptorIndex := 271, attributes := #[] }, { accessFlags := 26, nameIndex := 290, descriptorIndex := 271, attributes := #[] }, { accessFlags := 26, nameIndex := 291, descriptorIndex := 271, attributes := #[] }, { accessFlags := 24, nameIndex := 40, descriptorIndex := 41, attributes := #[] }, { accessFlags := 24, nameIndex := 111, descriptorIndex := 112, attributes := #[] }, { accessFlags := 24, nameIndex := 292, descriptorIndex := 293, attributes := #[] }, { accessFlags := 24, nameIndex := 240, descriptorIndex := 41, attributes := #[] }, { accessFlags := 24, nameIndex := 295, descriptorIndex := 293, attributes := #[] }, { accessFlags := 24, nameIndex := 182, descriptorIndex := 41, attributes := #[] }, { accessFlags := 24, nameIndex := 103, descriptorIndex := 41, attributes := #[] }, { accessFlags := 26, nameIndex := 166, descriptorIndex := 136, attributes := #[] }])
  fields := #[{ name := "PRESENT_VALUE", type := (.object "java/lang/String"), accessFlags := 24, slot := 0, constantValue := 0 }, { name := "PAYMENT", type := (.object "java/lang/String"), accessFlags := 24, slot := 1, constantValue := 0 }, { name := "FUTURE_VALUE", type := (.object "java/lang/String"), accessFlags := 24, slot := 2, constantValue := 0 }, { name := "NET_PRESENT_VALUE", type := (.object "java/lang/String"), accessFlags := 24, slot := 3, constantValue := 0 }, { name := "EFFECTIVE_RATE", type := (.object "java/lang/String"), accessFlags := 24, slot := 4, constantValue := 0 }, { name := "NOMINAL_RATE", type := (.object "java/lang/String"), accessFlags := 24, slot := 5, constantValue := 0 }, { name := "RATE", type := (.object "java/lang/String"), accessFlags := 26, slot := 6, constantValue := 0 }, { name := "PERIODS", type := (.object "java/lang/String"), accessFlags := 26, slot := 7, constantValue := 0 }, { name := "YEARS", type := (.object "java/lang/String"), accessFlags := 26, slot := 8, constantValue := 0 }, { name := "FRACTION_VALUE", type := (.object "java/lang/String"), accessFlags := 26, slot := 9, constantValue := 0 }, { name := "MAX_AMOUNT", type := (.object "java/math/BigDecimal"), accessFlags := 24, slot := 10, constantValue := 0 }, { name := "MAX_PERIODS", type := (.object "com/example/timeworth/timeworth/Fraction"), accessFlags := 24, slot := 11, constantValue := 0 }, { name := "MAX_PER_YEAR", type := .int, accessFlags := 24, slot := 12, constantValue := 0 }, { name := "MAX_RATE", type := (.object "java/math/BigDecimal"), accessFlags := 24, slot := 13, constantValue := 0 }, { name := "MAX_PLACES", type := .int, accessFlags := 24, slot := 14, constantValue := 0 }, { name := "MAX_RATE_GIVEN", type := (.object "java/math/BigDecimal"), accessFlags := 24, slot := 15, constantValue := 0 }, { name := "MAX_FRACTION_VALUE", type := (.object "java/math/BigDecimal"), accessFlags := 24, slot := 16, constantValue := 0 }, { name := "UNWRITTEN", type := (.object "java/math/BigInteger"), accessFlags := 26, slot := 17, constantValue := 0 }]
  methods := #[k13m0, k13m1]
  instanceTypes := #[]
  staticTypes := #[(.object "java/lang/String"), (.object "java/lang/String"), (.object "java/lang/String"), (.object "java/lang/String"), (.object "java/lang/String"), (.object "java/lang/String"), (.object "java/lang/String"), (.object "java/lang/String"), (.object "java/lang/String"), (.object "java/lang/String"), (.object "java/math/BigDecimal"), (.object "com/example/timeworth/timeworth/Fraction"), .int, (.object "java/math/BigDecimal"), .int, (.object "java/math/BigDecimal"), (.object "java/math/BigDecimal"), (.object "java/math/BigInteger")]
  resolved := Array.replicate 381 none
  statics := none }

def pool14 : Array CpInfo := pool [(2, .class_ 4), (1, u "java/lang/Object"), (0, u "<init>"), (0, u "()V"), (17, .class_ 26), (1, u "jdk/internal/util/Preconditions"), (28, .class_ 56), (0, u "jdk/internal/util/Preconditions$4"), (57, .class_ 115), (0, u "jdk/internal/util/Preconditions$1"), (7, u "SIOOBE_FORMATTER"), (0, u "Ljava/util/function/BiFunction;"), (0, .class_ 126), (0, u "jdk/internal/util/Preconditions$2"), (3, u "AIOOBE_FORMATTER"), (0, .class_ 132), (0, u "jdk/internal/util/Preconditions$3"), (3, u "IOOBE_FORMATTER")] 57

def k14m0 : Method := { name := "<init>", desc := "()V", sig := { parameters := [], returnType := none }, accessFlags := 1, code := none }
/-- jdk/internal/util/Preconditions -/
def k14 : Class := { plain "jdk/internal/util/Preconditions" (some 0) with
  accessFlags := 33
  interfaces := #[]
  cf := some (fileOf pool14 24 #[.nestMembers #[55, 131, 125, 114]] #[{ accessFlags := 1, nameIndex := 5, descriptorIndex := 6, attributes := #[] }] 33 2 #[] #[{ accessFlags := 25, nameIndex := 123, descriptorIndex := 124, attributes := #[] }, { accessFlags := 25, nameIndex := 130, descriptorIndex := 124, attributes := #[] }, { accessFlags := 25, nameIndex := 136, descriptorIndex := 124, attributes := #[] }])
  fields := #[{ name := "SIOOBE_FORMATTER", type := (.object "java/util/function/BiFunction"), accessFlags := 25, slot := 0, constantValue := 0 }, { name := "AIOOBE_FORMATTER", type := (.object "java/util/function/BiFunction"), accessFlags := 25, slot := 1, constantValue := 0 }, { name := "IOOBE_FORMATTER", type := (.object "java/util/function/BiFunction"), accessFlags := 25, slot := 2, constantValue := 0 }]
  methods := #[k14m0]
  instanceTypes := #[]
  staticTypes := #[(.object "java/util/function/BiFunction"), (.object "java/util/function/BiFunction"), (.object "java/util/function/BiFunction")]
  resolved := Array.replicate 194 none
  statics := some 2 }

def pool15 : Array CpInfo := pool [(9, u "<init>"), (6, .class_ 18), (1, u "java/lang/Object"), (0, u "()V"), (1, .class_ 23), (1, u "jdk/internal/util/ArraysSupport"), (0, u "LOG2_ARRAY_LONG_INDEX_SCALE"), (0, u "I"), (2, u "U"), (0, u "Ljdk/internal/misc/Unsafe;"), (8, u "BIG_ENDIAN"), (0, u "Z"), (8, u "LOG2_BYTE_BIT_SIZE"), (4, u "LOG2_ARRAY_INT_INDEX_SCALE"), (54, u "JLA"), (0, u "Ljdk/internal/access/JavaLangAccess;"), (11, u "LOG2_ARRAY_BOOLEAN_INDEX_SCALE"), (9, u "LOG2_ARRAY_BYTE_INDEX_SCALE"), (5, u "LOG2_ARRAY_CHAR_INDEX_SCALE"), (5, u "LOG2_ARRAY_SHORT_INDEX_SCALE"), (18, u "LOG2_ARRAY_FLOAT_INDEX_SCALE"), (24, u "LOG2_ARRAY_DOUBLE_INDEX_SCALE"), (89, u "T_BOOLEAN"), (2, u "T_CHAR"), (1, u "T_FLOAT"), (1, u "T_DOUBLE"), (1, u "T_BYTE"), (1, u "T_SHORT"), (1, u "T_INT"), (1, u "T_LONG"), (1, u "SOFT_MAX_ARRAY_LENGTH")] 83

def k15m0 : Method := { name := "<init>", desc := "()V", sig := { parameters := [], returnType := none }, accessFlags := 2, code := none }
/-- jdk/internal/util/ArraysSupport -/
def k15 : Class := { plain "jdk/internal/util/ArraysSupport" (some 0) with
  accessFlags := 33
  interfaces := #[]
  cf := some (fileOf pool15 21 #[] #[{ accessFlags := 2, nameIndex := 9, descriptorIndex := 19, attributes := #[] }] 33 16 #[] #[{ accessFlags := 24, nameIndex := 28, descriptorIndex := 29, attributes := #[] }, { accessFlags := 26, nameIndex := 38, descriptorIndex := 39, attributes := #[] }, { accessFlags := 25, nameIndex := 121, descriptorIndex := 25, attributes := #[] }, { accessFlags := 25, nameIndex := 131, descriptorIndex := 25, attributes := #[] }, { accessFlags := 25, nameIndex := 137, descriptorIndex := 25, attributes := #[] }, { accessFlags := 25, nameIndex := 143, descriptorIndex := 25, attributes := #[] }, { accessFlags := 25, nameIndex := 53, descriptorIndex := 25, attributes := #[] }, { accessFlags := 25, nameIndex := 24, descriptorIndex := 25, attributes := #[] }, { accessFlags := 25, nameIndex := 162, descriptorIndex := 25, attributes := #[] }, { accessFlags := 25, nameIndex := 187, descriptorIndex := 25, attributes := #[] }, { accessFlags := 26, nameIndex := 48, descriptorIndex := 25, attributes := #[] }, { accessFlags := 25, nameIndex := 277, descriptorIndex := 25, attributes := #[] }, { accessFlags := 25, nameIndex := 280, descriptorIndex := 25, attributes := #[] }, { accessFlags := 25, nameIndex := 282, descriptorIndex := 25, attributes := #[] }, { accessFlags := 25, nameIndex := 284, descriptorIndex := 25, attributes := #[] }, { accessFlags := 25, nameIndex := 286, descriptorIndex := 25, attributes := #[] }, { accessFlags := 25, nameIndex := 288, descriptorIndex := 25, attributes := #[] }, { accessFlags := 25, nameIndex := 290, descriptorIndex := 25, attributes := #[] }, { accessFlags := 25, nameIndex := 292, descriptorIndex := 25, attributes := #[] }, { accessFlags := 26, nameIndex := 108, descriptorIndex := 109, attributes := #[] }, { accessFlags := 25, nameIndex := 294, descriptorIndex := 25, attributes := #[] }])
  fields := #[{ name := "U", type := (.object "jdk/internal/misc/Unsafe"), accessFlags := 24, slot := 0, constantValue := 0 }, { name := "BIG_ENDIAN", type := .boolean, accessFlags := 26, slot := 1, constantValue := 0 }, { name := "LOG2_ARRAY_BOOLEAN_INDEX_SCALE", type := .int, accessFlags := 25, slot := 2, constantValue := 0 }, { name := "LOG2_ARRAY_BYTE_INDEX_SCALE", type := .int, accessFlags := 25, slot := 3, constantValue := 0 }, { name := "LOG2_ARRAY_CHAR_INDEX_SCALE", type := .int, accessFlags := 25, slot := 4, constantValue := 0 }, { name := "LOG2_ARRAY_SHORT_INDEX_SCALE", type := .int, accessFlags := 25, slot := 5, constantValue := 0 }, { name := "LOG2_ARRAY_INT_INDEX_SCALE", type := .int, accessFlags := 25, slot := 6, constantValue := 0 }, { name := "LOG2_ARRAY_LONG_INDEX_SCALE", type := .int, accessFlags := 25, slot := 7, constantValue := 0 }, { name := "LOG2_ARRAY_FLOAT_INDEX_SCALE", type := .int, accessFlags := 25, slot := 8, constantValue := 0 }, { name := "LOG2_ARRAY_DOUBLE_INDEX_SCALE", type := .int, accessFlags := 25, slot := 9, constantValue := 0 }, { name := "LOG2_BYTE_BIT_SIZE", type := .int, accessFlags := 26, slot := 10, constantValue := 0 }, { name := "T_BOOLEAN", type := .int, accessFlags := 25, slot := 11, constantValue := 0 }, { name := "T_CHAR", type := .int, accessFlags := 25, slot := 12, constantValue := 0 }, { name := "T_FLOAT", type := .int, accessFlags := 25, slot := 13, constantValue := 0 }, { name := "T_DOUBLE", type := .int, accessFlags := 25, slot := 14, constantValue := 0 }, { name := "T_BYTE", type := .int, accessFlags := 25, slot := 15, constantValue := 0 }, { name := "T_SHORT", type := .int, accessFlags := 25, slot := 16, constantValue := 0 }, { name := "T_INT", type := .int, accessFlags := 25, slot := 17, constantValue := 0 }, { name := "T_LONG", type := .int, accessFlags := 25, slot := 18, constantValue := 0 }, { name := "JLA", type := (.object "jdk/internal/access/JavaLangAccess"), accessFlags := 26, slot := 19, constantValue := 0 }, { name := "SOFT_MAX_ARRAY_LENGTH", type := .int, accessFlags := 25, slot := 20, constantValue := 0 }]
  methods := #[k15m0]
  instanceTypes := #[]
  staticTypes := #[(.object "jdk/internal/misc/Unsafe"), .boolean, .int, .int, .int, .int, .int, .int, .int, .int, .int, .int, .int, .int, .int, .int, .int, .int, .int, (.object "jdk/internal/access/JavaLangAccess"), .int]
  resolved := Array.replicate 378 none
  statics := none }

def pool16 : Array CpInfo := pool [(1, u "java/lang/Cloneable"), (0, .class_ 1), (0, u "java/lang/Object"), (0, .class_ 3)] 3

/-- java/lang/Cloneable -/
def k16 : Class := { plain "java/lang/Cloneable" (some 0) with
  accessFlags := 1537
  interfaces := #[]
  cf := some (fileOf pool16 2 #[] #[] 1537 4 #[] #[])
  fields := #[]
  methods := #[]
  instanceTypes := #[]
  staticTypes := #[]
  resolved := Array.replicate 8 none
  statics := none }

/-- the primitive byte -/
def k17 : Class := { plain "byte" none with kind := .primitive 'B', accessFlags := 0x411 }
/-- [B -/
def k18 : Class := { plain "[B" (some 0) with kind := .array 17 .byte, interfaces := #[16, 2], accessFlags := 1041 }

/-- the primitive char -/
def k19 : Class := { plain "char" none with kind := .primitive 'C', accessFlags := 0x411 }
/-- [C -/
def k20 : Class := { plain "[C" (some 0) with kind := .array 19 .char, interfaces := #[16, 2], accessFlags := 1041 }

/-- the primitive int -/
def k21 : Class := { plain "int" none with kind := .primitive 'I', accessFlags := 0x411 }
/-- [I -/
def k22 : Class := { plain "[I" (some 0) with kind := .array 21 .int, interfaces := #[16, 2], accessFlags := 1041 }

/-- [Ljava/lang/Integer; -/
def k23 : Class := { plain "[Ljava/lang/Integer;" (some 0) with kind := .array 11 (.object "java/lang/Integer"), interfaces := #[16, 2], accessFlags := 1041 }

def heap : Heap := #[{ cls := 7, slots := #[.long 0, .int 1, .null, .int 0, .null, .int 0, .int 0], vm := .statics 7 },
  { cls := 12, slots := #[.int 0, .int 127, .ref 3, .null, .int 0], vm := .statics 12 },
  { cls := 14, slots := #[.null, .null, .null], vm := .statics 14 },
  { cls := 23, slots := #[.ref 4, .ref 5, .ref 6, .ref 7, .ref 8, .ref 9, .ref 10, .ref 11, .ref 12, .ref 13, .ref 14, .ref 15, .ref 16, .ref 17, .ref 18, .ref 19, .ref 20, .ref 21, .ref 22, .ref 23, .ref 24, .ref 25, .ref 26, .ref 27, .ref 28, .ref 29, .ref 30, .ref 31, .ref 32, .ref 33, .ref 34, .ref 35, .ref 36, .ref 37, .ref 38, .ref 39, .ref 40, .ref 41, .ref 42, .ref 43, .ref 44, .ref 45, .ref 46, .ref 47, .ref 48, .ref 49, .ref 50, .ref 51, .ref 52, .ref 53, .ref 54, .ref 55, .ref 56, .ref 57, .ref 58, .ref 59, .ref 60, .ref 61, .ref 62, .ref 63, .ref 64, .ref 65, .ref 66, .ref 67, .ref 68, .ref 69, .ref 70, .ref 71, .ref 72, .ref 73, .ref 74, .ref 75, .ref 76, .ref 77, .ref 78, .ref 79, .ref 80, .ref 81, .ref 82, .ref 83, .ref 84, .ref 85, .ref 86, .ref 87, .ref 88, .ref 89, .ref 90, .ref 91, .ref 92, .ref 93, .ref 94, .ref 95, .ref 96, .ref 97, .ref 98, .ref 99, .ref 100, .ref 101, .ref 102, .ref 103, .ref 104, .ref 105, .ref 106, .ref 107, .ref 108, .ref 109, .ref 110, .ref 111, .ref 112, .ref 113, .ref 114, .ref 115, .ref 116, .ref 117, .ref 118, .ref 119, .ref 120, .ref 121, .ref 122, .ref 123, .ref 124, .ref 125, .ref 126, .ref 127, .ref 128, .ref 129, .ref 130, .ref 131, .ref 132, .ref 133, .ref 134, .ref 135, .ref 136, .ref 137, .ref 138, .ref 139, .ref 140, .ref 141, .ref 142, .ref 143, .ref 144, .ref 145, .ref 146, .ref 147, .ref 148, .ref 149, .ref 150, .ref 151, .ref 152, .ref 153, .ref 154, .ref 155, .ref 156, .ref 157, .ref 158, .ref 159, .ref 160, .ref 161, .ref 162, .ref 163, .ref 164, .ref 165, .ref 166, .ref 167, .ref 168, .ref 169, .ref 170, .ref 171, .ref 172, .ref 173, .ref 174, .ref 175, .ref 176, .ref 177, .ref 178, .ref 179, .ref 180, .ref 181, .ref 182, .ref 183, .ref 184, .ref 185, .ref 186, .ref 187, .ref 188, .ref 189, .ref 190, .ref 191, .ref 192, .ref 193, .ref 194, .ref 195, .ref 196, .ref 197, .ref 198, .ref 199, .ref 200, .ref 201, .ref 202, .ref 203, .ref 204, .ref 205, .ref 206, .ref 207, .ref 208, .ref 209, .ref 210, .ref 211, .ref 212, .ref 213, .ref 214, .ref 215, .ref 216, .ref 217, .ref 218, .ref 219, .ref 220, .ref 221, .ref 222, .ref 223, .ref 224, .ref 225, .ref 226, .ref 227, .ref 228, .ref 229, .ref 230, .ref 231, .ref 232, .ref 233, .ref 234, .ref 235, .ref 236, .ref 237, .ref 238, .ref 239, .ref 240, .ref 241, .ref 242, .ref 243, .ref 244, .ref 245, .ref 246, .ref 247, .ref 248, .ref 249, .ref 250, .ref 251, .ref 252, .ref 253, .ref 254, .ref 255, .ref 256, .ref 257, .ref 258, .ref 259], vm := .none },
  { cls := 11, slots := #[.int (-128)], vm := .none },
  { cls := 11, slots := #[.int (-127)], vm := .none },
  { cls := 11, slots := #[.int (-126)], vm := .none },
  { cls := 11, slots := #[.int (-125)], vm := .none },
  { cls := 11, slots := #[.int (-124)], vm := .none },
  { cls := 11, slots := #[.int (-123)], vm := .none },
  { cls := 11, slots := #[.int (-122)], vm := .none },
  { cls := 11, slots := #[.int (-121)], vm := .none },
  { cls := 11, slots := #[.int (-120)], vm := .none },
  { cls := 11, slots := #[.int (-119)], vm := .none },
  { cls := 11, slots := #[.int (-118)], vm := .none },
  { cls := 11, slots := #[.int (-117)], vm := .none },
  { cls := 11, slots := #[.int (-116)], vm := .none },
  { cls := 11, slots := #[.int (-115)], vm := .none },
  { cls := 11, slots := #[.int (-114)], vm := .none },
  { cls := 11, slots := #[.int (-113)], vm := .none },
  { cls := 11, slots := #[.int (-112)], vm := .none },
  { cls := 11, slots := #[.int (-111)], vm := .none },
  { cls := 11, slots := #[.int (-110)], vm := .none },
  { cls := 11, slots := #[.int (-109)], vm := .none },
  { cls := 11, slots := #[.int (-108)], vm := .none },
  { cls := 11, slots := #[.int (-107)], vm := .none },
  { cls := 11, slots := #[.int (-106)], vm := .none },
  { cls := 11, slots := #[.int (-105)], vm := .none },
  { cls := 11, slots := #[.int (-104)], vm := .none },
  { cls := 11, slots := #[.int (-103)], vm := .none },
  { cls := 11, slots := #[.int (-102)], vm := .none },
  { cls := 11, slots := #[.int (-101)], vm := .none },
  { cls := 11, slots := #[.int (-100)], vm := .none },
  { cls := 11, slots := #[.int (-99)], vm := .none },
  { cls := 11, slots := #[.int (-98)], vm := .none },
  { cls := 11, slots := #[.int (-97)], vm := .none },
  { cls := 11, slots := #[.int (-96)], vm := .none },
  { cls := 11, slots := #[.int (-95)], vm := .none },
  { cls := 11, slots := #[.int (-94)], vm := .none },
  { cls := 11, slots := #[.int (-93)], vm := .none },
  { cls := 11, slots := #[.int (-92)], vm := .none },
  { cls := 11, slots := #[.int (-91)], vm := .none },
  { cls := 11, slots := #[.int (-90)], vm := .none },
  { cls := 11, slots := #[.int (-89)], vm := .none },
  { cls := 11, slots := #[.int (-88)], vm := .none },
  { cls := 11, slots := #[.int (-87)], vm := .none },
  { cls := 11, slots := #[.int (-86)], vm := .none },
  { cls := 11, slots := #[.int (-85)], vm := .none },
  { cls := 11, slots := #[.int (-84)], vm := .none },
  { cls := 11, slots := #[.int (-83)], vm := .none },
  { cls := 11, slots := #[.int (-82)], vm := .none },
  { cls := 11, slots := #[.int (-81)], vm := .none },
  { cls := 11, slots := #[.int (-80)], vm := .none },
  { cls := 11, slots := #[.int (-79)], vm := .none },
  { cls := 11, slots := #[.int (-78)], vm := .none },
  { cls := 11, slots := #[.int (-77)], vm := .none },
  { cls := 11, slots := #[.int (-76)], vm := .none },
  { cls := 11, slots := #[.int (-75)], vm := .none },
  { cls := 11, slots := #[.int (-74)], vm := .none },
  { cls := 11, slots := #[.int (-73)], vm := .none },
  { cls := 11, slots := #[.int (-72)], vm := .none },
  { cls := 11, slots := #[.int (-71)], vm := .none },
  { cls := 11, slots := #[.int (-70)], vm := .none },
  { cls := 11, slots := #[.int (-69)], vm := .none },
  { cls := 11, slots := #[.int (-68)], vm := .none },
  { cls := 11, slots := #[.int (-67)], vm := .none },
  { cls := 11, slots := #[.int (-66)], vm := .none },
  { cls := 11, slots := #[.int (-65)], vm := .none },
  { cls := 11, slots := #[.int (-64)], vm := .none },
  { cls := 11, slots := #[.int (-63)], vm := .none },
  { cls := 11, slots := #[.int (-62)], vm := .none },
  { cls := 11, slots := #[.int (-61)], vm := .none },
  { cls := 11, slots := #[.int (-60)], vm := .none },
  { cls := 11, slots := #[.int (-59)], vm := .none },
  { cls := 11, slots := #[.int (-58)], vm := .none },
  { cls := 11, slots := #[.int (-57)], vm := .none },
  { cls := 11, slots := #[.int (-56)], vm := .none },
  { cls := 11, slots := #[.int (-55)], vm := .none },
  { cls := 11, slots := #[.int (-54)], vm := .none },
  { cls := 11, slots := #[.int (-53)], vm := .none },
  { cls := 11, slots := #[.int (-52)], vm := .none },
  { cls := 11, slots := #[.int (-51)], vm := .none },
  { cls := 11, slots := #[.int (-50)], vm := .none },
  { cls := 11, slots := #[.int (-49)], vm := .none },
  { cls := 11, slots := #[.int (-48)], vm := .none },
  { cls := 11, slots := #[.int (-47)], vm := .none },
  { cls := 11, slots := #[.int (-46)], vm := .none },
  { cls := 11, slots := #[.int (-45)], vm := .none },
  { cls := 11, slots := #[.int (-44)], vm := .none },
  { cls := 11, slots := #[.int (-43)], vm := .none },
  { cls := 11, slots := #[.int (-42)], vm := .none },
  { cls := 11, slots := #[.int (-41)], vm := .none },
  { cls := 11, slots := #[.int (-40)], vm := .none },
  { cls := 11, slots := #[.int (-39)], vm := .none },
  { cls := 11, slots := #[.int (-38)], vm := .none },
  { cls := 11, slots := #[.int (-37)], vm := .none },
  { cls := 11, slots := #[.int (-36)], vm := .none },
  { cls := 11, slots := #[.int (-35)], vm := .none },
  { cls := 11, slots := #[.int (-34)], vm := .none },
  { cls := 11, slots := #[.int (-33)], vm := .none },
  { cls := 11, slots := #[.int (-32)], vm := .none },
  { cls := 11, slots := #[.int (-31)], vm := .none },
  { cls := 11, slots := #[.int (-30)], vm := .none },
  { cls := 11, slots := #[.int (-29)], vm := .none },
  { cls := 11, slots := #[.int (-28)], vm := .none },
  { cls := 11, slots := #[.int (-27)], vm := .none },
  { cls := 11, slots := #[.int (-26)], vm := .none },
  { cls := 11, slots := #[.int (-25)], vm := .none },
  { cls := 11, slots := #[.int (-24)], vm := .none },
  { cls := 11, slots := #[.int (-23)], vm := .none },
  { cls := 11, slots := #[.int (-22)], vm := .none },
  { cls := 11, slots := #[.int (-21)], vm := .none },
  { cls := 11, slots := #[.int (-20)], vm := .none },
  { cls := 11, slots := #[.int (-19)], vm := .none },
  { cls := 11, slots := #[.int (-18)], vm := .none },
  { cls := 11, slots := #[.int (-17)], vm := .none },
  { cls := 11, slots := #[.int (-16)], vm := .none },
  { cls := 11, slots := #[.int (-15)], vm := .none },
  { cls := 11, slots := #[.int (-14)], vm := .none },
  { cls := 11, slots := #[.int (-13)], vm := .none },
  { cls := 11, slots := #[.int (-12)], vm := .none },
  { cls := 11, slots := #[.int (-11)], vm := .none },
  { cls := 11, slots := #[.int (-10)], vm := .none },
  { cls := 11, slots := #[.int (-9)], vm := .none },
  { cls := 11, slots := #[.int (-8)], vm := .none },
  { cls := 11, slots := #[.int (-7)], vm := .none },
  { cls := 11, slots := #[.int (-6)], vm := .none },
  { cls := 11, slots := #[.int (-5)], vm := .none },
  { cls := 11, slots := #[.int (-4)], vm := .none },
  { cls := 11, slots := #[.int (-3)], vm := .none },
  { cls := 11, slots := #[.int (-2)], vm := .none },
  { cls := 11, slots := #[.int (-1)], vm := .none },
  { cls := 11, slots := #[.int (0)], vm := .none },
  { cls := 11, slots := #[.int (1)], vm := .none },
  { cls := 11, slots := #[.int (2)], vm := .none },
  { cls := 11, slots := #[.int (3)], vm := .none },
  { cls := 11, slots := #[.int (4)], vm := .none },
  { cls := 11, slots := #[.int (5)], vm := .none },
  { cls := 11, slots := #[.int (6)], vm := .none },
  { cls := 11, slots := #[.int (7)], vm := .none },
  { cls := 11, slots := #[.int (8)], vm := .none },
  { cls := 11, slots := #[.int (9)], vm := .none },
  { cls := 11, slots := #[.int (10)], vm := .none },
  { cls := 11, slots := #[.int (11)], vm := .none },
  { cls := 11, slots := #[.int (12)], vm := .none },
  { cls := 11, slots := #[.int (13)], vm := .none },
  { cls := 11, slots := #[.int (14)], vm := .none },
  { cls := 11, slots := #[.int (15)], vm := .none },
  { cls := 11, slots := #[.int (16)], vm := .none },
  { cls := 11, slots := #[.int (17)], vm := .none },
  { cls := 11, slots := #[.int (18)], vm := .none },
  { cls := 11, slots := #[.int (19)], vm := .none },
  { cls := 11, slots := #[.int (20)], vm := .none },
  { cls := 11, slots := #[.int (21)], vm := .none },
  { cls := 11, slots := #[.int (22)], vm := .none },
  { cls := 11, slots := #[.int (23)], vm := .none },
  { cls := 11, slots := #[.int (24)], vm := .none },
  { cls := 11, slots := #[.int (25)], vm := .none },
  { cls := 11, slots := #[.int (26)], vm := .none },
  { cls := 11, slots := #[.int (27)], vm := .none },
  { cls := 11, slots := #[.int (28)], vm := .none },
  { cls := 11, slots := #[.int (29)], vm := .none },
  { cls := 11, slots := #[.int (30)], vm := .none },
  { cls := 11, slots := #[.int (31)], vm := .none },
  { cls := 11, slots := #[.int (32)], vm := .none },
  { cls := 11, slots := #[.int (33)], vm := .none },
  { cls := 11, slots := #[.int (34)], vm := .none },
  { cls := 11, slots := #[.int (35)], vm := .none },
  { cls := 11, slots := #[.int (36)], vm := .none },
  { cls := 11, slots := #[.int (37)], vm := .none },
  { cls := 11, slots := #[.int (38)], vm := .none },
  { cls := 11, slots := #[.int (39)], vm := .none },
  { cls := 11, slots := #[.int (40)], vm := .none },
  { cls := 11, slots := #[.int (41)], vm := .none },
  { cls := 11, slots := #[.int (42)], vm := .none },
  { cls := 11, slots := #[.int (43)], vm := .none },
  { cls := 11, slots := #[.int (44)], vm := .none },
  { cls := 11, slots := #[.int (45)], vm := .none },
  { cls := 11, slots := #[.int (46)], vm := .none },
  { cls := 11, slots := #[.int (47)], vm := .none },
  { cls := 11, slots := #[.int (48)], vm := .none },
  { cls := 11, slots := #[.int (49)], vm := .none },
  { cls := 11, slots := #[.int (50)], vm := .none },
  { cls := 11, slots := #[.int (51)], vm := .none },
  { cls := 11, slots := #[.int (52)], vm := .none },
  { cls := 11, slots := #[.int (53)], vm := .none },
  { cls := 11, slots := #[.int (54)], vm := .none },
  { cls := 11, slots := #[.int (55)], vm := .none },
  { cls := 11, slots := #[.int (56)], vm := .none },
  { cls := 11, slots := #[.int (57)], vm := .none },
  { cls := 11, slots := #[.int (58)], vm := .none },
  { cls := 11, slots := #[.int (59)], vm := .none },
  { cls := 11, slots := #[.int (60)], vm := .none },
  { cls := 11, slots := #[.int (61)], vm := .none },
  { cls := 11, slots := #[.int (62)], vm := .none },
  { cls := 11, slots := #[.int (63)], vm := .none },
  { cls := 11, slots := #[.int (64)], vm := .none },
  { cls := 11, slots := #[.int (65)], vm := .none },
  { cls := 11, slots := #[.int (66)], vm := .none },
  { cls := 11, slots := #[.int (67)], vm := .none },
  { cls := 11, slots := #[.int (68)], vm := .none },
  { cls := 11, slots := #[.int (69)], vm := .none },
  { cls := 11, slots := #[.int (70)], vm := .none },
  { cls := 11, slots := #[.int (71)], vm := .none },
  { cls := 11, slots := #[.int (72)], vm := .none },
  { cls := 11, slots := #[.int (73)], vm := .none },
  { cls := 11, slots := #[.int (74)], vm := .none },
  { cls := 11, slots := #[.int (75)], vm := .none },
  { cls := 11, slots := #[.int (76)], vm := .none },
  { cls := 11, slots := #[.int (77)], vm := .none },
  { cls := 11, slots := #[.int (78)], vm := .none },
  { cls := 11, slots := #[.int (79)], vm := .none },
  { cls := 11, slots := #[.int (80)], vm := .none },
  { cls := 11, slots := #[.int (81)], vm := .none },
  { cls := 11, slots := #[.int (82)], vm := .none },
  { cls := 11, slots := #[.int (83)], vm := .none },
  { cls := 11, slots := #[.int (84)], vm := .none },
  { cls := 11, slots := #[.int (85)], vm := .none },
  { cls := 11, slots := #[.int (86)], vm := .none },
  { cls := 11, slots := #[.int (87)], vm := .none },
  { cls := 11, slots := #[.int (88)], vm := .none },
  { cls := 11, slots := #[.int (89)], vm := .none },
  { cls := 11, slots := #[.int (90)], vm := .none },
  { cls := 11, slots := #[.int (91)], vm := .none },
  { cls := 11, slots := #[.int (92)], vm := .none },
  { cls := 11, slots := #[.int (93)], vm := .none },
  { cls := 11, slots := #[.int (94)], vm := .none },
  { cls := 11, slots := #[.int (95)], vm := .none },
  { cls := 11, slots := #[.int (96)], vm := .none },
  { cls := 11, slots := #[.int (97)], vm := .none },
  { cls := 11, slots := #[.int (98)], vm := .none },
  { cls := 11, slots := #[.int (99)], vm := .none },
  { cls := 11, slots := #[.int (100)], vm := .none },
  { cls := 11, slots := #[.int (101)], vm := .none },
  { cls := 11, slots := #[.int (102)], vm := .none },
  { cls := 11, slots := #[.int (103)], vm := .none },
  { cls := 11, slots := #[.int (104)], vm := .none },
  { cls := 11, slots := #[.int (105)], vm := .none },
  { cls := 11, slots := #[.int (106)], vm := .none },
  { cls := 11, slots := #[.int (107)], vm := .none },
  { cls := 11, slots := #[.int (108)], vm := .none },
  { cls := 11, slots := #[.int (109)], vm := .none },
  { cls := 11, slots := #[.int (110)], vm := .none },
  { cls := 11, slots := #[.int (111)], vm := .none },
  { cls := 11, slots := #[.int (112)], vm := .none },
  { cls := 11, slots := #[.int (113)], vm := .none },
  { cls := 11, slots := #[.int (114)], vm := .none },
  { cls := 11, slots := #[.int (115)], vm := .none },
  { cls := 11, slots := #[.int (116)], vm := .none },
  { cls := 11, slots := #[.int (117)], vm := .none },
  { cls := 11, slots := #[.int (118)], vm := .none },
  { cls := 11, slots := #[.int (119)], vm := .none },
  { cls := 11, slots := #[.int (120)], vm := .none },
  { cls := 11, slots := #[.int (121)], vm := .none },
  { cls := 11, slots := #[.int (122)], vm := .none },
  { cls := 11, slots := #[.int (123)], vm := .none },
  { cls := 11, slots := #[.int (124)], vm := .none },
  { cls := 11, slots := #[.int (125)], vm := .none },
  { cls := 11, slots := #[.int (126)], vm := .none },
  { cls := 11, slots := #[.int (127)], vm := .none }]
def classes : Array Class := #[k0, k1, k2, k3, k4, k5, k6, k7, k8, k9, k10, k11, k12, k13, k14, k15, k16, k17, k18, k19, k20, k21, k22, k23]
def interned : List (Array UInt16 × Addr) := []
def slotsUsed : Nat := 527
def theMethod : MethodId := ⟨1, 1⟩
def args0 : Array Value := #[.int 65, .int 65, .int 65, .int 65, .int 65]
def aboutOver (below : List Frame) : State where
  vm := { classes := classes, interned := interned.toArray }
  heap := heap
  slotsUsed := slotsUsed
  threads := #[{ frames := .invoking theMethod args0 :: below }]
def below0 : List Frame := [.native { method := ⟨0, 0⟩, args := #[] }]
def about1 : State := aboutOver below0
def p0 : Program := .bare "" "" ""
def e0 : Env := launch0.env 0 0 0
theorem w_frames : about1.frames = Frame.invoking theMethod args0 :: below0 := rfl
set_option maxRecDepth 65536 in
theorem w_args : argsFit about1.vm theMethod args0 = true := by decide +kernel
set_option maxRecDepth 65536 in
theorem w_heap : heapFits about1 = true := by decide +kernel
set_option maxRecDepth 65536 in
theorem w_runnable : about1.curStatus? = some .runnable := by decide +kernel
set_option maxRecDepth 65536 in
theorem w_alone : about1.alone = true := by decide +kernel
set_option maxRecDepth 65536 in
theorem w_named : about1.methodNamed? x = some theMethod := by decide +kernel
set_option maxRecDepth 65536 in
theorem w_hears : about1.hears theMethod below0 = true := by decide +kernel
set_option maxRecDepth 65536 in
theorem w_ripe : about1.ripe theMethod args0 below0 = true := by decide +kernel
theorem w_running : about1.status = .running := rfl
set_option maxRecDepth 65536 in
theorem w_room : about1.hasRoom e0.platform room_1 = true :=
  launch0.hasRoom_least _ room_1 (by decide +kernel) (by decide +kernel) (by decide +kernel) (by decide +kernel) (by decide +kernel) (by decide +kernel)
theorem allAtoms_all (ts : List Jvm.Cond) (a : Array Jvm.Value) (st : Jvm.State) : (allAtoms ts).before a st = ts.all (fun c => c.before a st) := by
  induction ts with
  | nil => rfl
  | cons c t ih =>
    show (Jvm.Cond.and c (allAtoms t)).before a st = _
    rw [Jvm.Cond.before_and, ih, List.all_cons]
def words1 : List Jvm.Cond := Jvm.Cond.code x code maxLocals ret :: tables_1
/-- a 'code' word, met by the world's own term for the bytes: nothing is compared byte by byte -/
theorem code_word {y : MethodName} {bytes : ByteArray} {mx : Nat} {rt : Option FieldType} {a : Array Value} {s : State} {m : MethodId} {meth : Method} {c : Code} (h1 : s.methodNamed? y = some m) (h2 : s.vm.method? m = some meth) (h3 : meth.code = some c) (h4 : c.code = bytes)
    (h5 : (c.maxLocals == mx && c.exceptionTable.isEmpty && decide (c.maxStack ≤ mostOperands) && decide (meth.sig.returnType = rt) && !meth.locks && decide (parseMethodDescriptor y.desc = some meth.sig)) = true) : (Jvm.Cond.code y bytes mx rt).before a s = true := by
  simp only [Bool.and_eq_true, beq_iff_eq, Bool.not_eq_true', decide_eq_true_eq] at h5
  obtain ⟨⟨⟨⟨⟨g1, g2⟩, g3⟩, g4⟩, g5⟩, g6⟩ := h5
  simp [Cond.before, Cond.holds, Cond.value, h1, h2, h3, h4, g1, g2, g3, g4, g5, g6]
def isCode : Jvm.Cond → Bool
  | .code _ _ _ _ => true
  | _ => false
theorem all_split {L : List Jvm.Cond} {P : Jvm.Cond → Bool} (h1 : L.all (fun c => isCode c || P c) = true) (h2 : ∀ c ∈ L.filter isCode, P c = true) : L.all P = true := by
  refine List.all_eq_true.mpr fun c hc => ?_
  have h := List.all_eq_true.mp h1 c hc
  rcases Bool.eq_false_or_eq_true (isCode c) with hi | hi
  · exact h2 c (List.mem_filter.mpr ⟨hc, hi⟩)
  · simpa [hi] using h
set_option maxRecDepth 65536 in
theorem w_c0 : (Jvm.Cond.code x code maxLocals ret).before args0 about1 = true := code_word (m := ⟨1, 1⟩) (meth := k1m1) (c := k1c1) (by decide +kernel) rfl rfl rfl (by decide +kernel)
set_option maxRecDepth 65536 in
theorem w_c1 : (Jvm.Cond.code ({ cls := "java/lang/String", name := "<init>", desc := "([C)V" } : Jvm.MethodName) jdk_42_method_3_code (2 : Nat) (Option.none : Option Jvm.ClassFile.FieldType)).before args0 about1 = true := code_word (m := ⟨7, 1⟩) (meth := k7m1) (c := k7c1) (by decide +kernel) rfl rfl rfl (by decide +kernel)
set_option maxRecDepth 65536 in
theorem w_c2 : (Jvm.Cond.code ({ cls := "java/lang/String", name := "<init>", desc := "([CIILjava/lang/Void;)V" } : Jvm.MethodName) jdk_42_method_149_code (6 : Nat) (Option.none : Option Jvm.ClassFile.FieldType)).before args0 about1 = true := code_word (m := ⟨7, 5⟩) (meth := k7m5) (c := k7c5) (by decide +kernel) rfl rfl rfl (by decide +kernel)
set_option maxRecDepth 65536 in
theorem w_c3 : (Jvm.Cond.code ({ cls := "java/lang/Object", name := "<init>", desc := "()V" } : Jvm.MethodName) object_method_1_code (1 : Nat) (Option.none : Option Jvm.ClassFile.FieldType)).before args0 about1 = true := code_word (m := ⟨0, 0⟩) (meth := k0m0) (c := k0c0) (by decide +kernel) rfl rfl rfl (by decide +kernel)
set_option maxRecDepth 65536 in
theorem w_c4 : (Jvm.Cond.code ({ cls := "java/lang/StringUTF16", name := "compress", desc := "([CII)[B" } : Jvm.MethodName) jdk_52_method_16_code (6 : Nat) (Option.some (Jvm.ClassFile.FieldType.array Jvm.ClassFile.FieldType.byte))).before args0 about1 = true := code_word (m := ⟨8, 2⟩) (meth := k8m2) (c := k8c2) (by decide +kernel) rfl rfl rfl (by decide +kernel)
set_option maxRecDepth 65536 in
theorem w_c5 : (Jvm.Cond.code ({ cls := "java/lang/StringUTF16", name := "compress", desc := "([CI[BII)I" } : Jvm.MethodName) jdk_52_method_21_code (7 : Nat) (Option.some Jvm.ClassFile.FieldType.int)).before args0 about1 = true := code_word (m := ⟨8, 3⟩) (meth := k8m3) (c := k8c3) (by decide +kernel) rfl rfl rfl (by decide +kernel)
set_option maxRecDepth 65536 in
theorem w_c6 : (Jvm.Cond.code ({ cls := "java/lang/StringUTF16", name := "coderFromArrayLen", desc := "([BI)B" } : Jvm.MethodName) jdk_52_method_15_code (2 : Nat) (Option.some Jvm.ClassFile.FieldType.byte)).before args0 about1 = true := code_word (m := ⟨8, 1⟩) (meth := k8m1) (c := k8c1) (by decide +kernel) rfl rfl rfl (by decide +kernel)
set_option maxRecDepth 65536 in
theorem w_c7 : (Jvm.Cond.code ({ cls := "java/lang/String", name := "valueOf", desc := "(C)Ljava/lang/String;" } : Jvm.MethodName) jdk_42_method_139_code (1 : Nat) (Option.some (Jvm.ClassFile.FieldType.object "java/lang/String"))).before args0 about1 = true := code_word (m := ⟨7, 4⟩) (meth := k7m4) (c := k7c4) (by decide +kernel) rfl rfl rfl (by decide +kernel)
set_option maxRecDepth 65536 in
theorem w_c8 : (Jvm.Cond.code ({ cls := "java/lang/StringLatin1", name := "canEncode", desc := "(C)Z" } : Jvm.MethodName) jdk_43_method_3_code (1 : Nat) (Option.some Jvm.ClassFile.FieldType.boolean)).before args0 about1 = true := code_word (m := ⟨9, 1⟩) (meth := k9m1) (c := k9c1) (by decide +kernel) rfl rfl rfl (by decide +kernel)
set_option maxRecDepth 65536 in
theorem w_c9 : (Jvm.Cond.code ({ cls := "java/lang/StringLatin1", name := "toBytes", desc := "(C)[B" } : Jvm.MethodName) jdk_43_method_46_code (1 : Nat) (Option.some (Jvm.ClassFile.FieldType.array Jvm.ClassFile.FieldType.byte))).before args0 about1 = true := code_word (m := ⟨9, 2⟩) (meth := k9m2) (c := k9c2) (by decide +kernel) rfl rfl rfl (by decide +kernel)
set_option maxRecDepth 65536 in
theorem w_c10 : (Jvm.Cond.code ({ cls := "java/lang/String", name := "<init>", desc := "([BB)V" } : Jvm.MethodName) jdk_42_method_151_code (3 : Nat) (Option.none : Option Jvm.ClassFile.FieldType)).before args0 about1 = true := code_word (m := ⟨7, 6⟩) (meth := k7m6) (c := k7c6) (by decide +kernel) rfl rfl rfl (by decide +kernel)
set_option maxRecDepth 65536 in
theorem w_c11 : (Jvm.Cond.code ({ cls := "java/lang/Integer", name := "valueOf", desc := "(I)Ljava/lang/Integer;" } : Jvm.MethodName) jdk_33_method_22_code (1 : Nat) (Option.some (Jvm.ClassFile.FieldType.object "java/lang/Integer"))).before args0 about1 = true := code_word (m := ⟨11, 0⟩) (meth := k11m0) (c := k11c0) (by decide +kernel) rfl rfl rfl (by decide +kernel)
set_option maxRecDepth 65536 in
theorem w_c12 : (Jvm.Cond.code ({ cls := "com/example/timeworth/timeworth/Checks", name := "given", desc := "(Ljava/lang/String;Ljava/lang/Object;)Ljava/lang/Object;" } : Jvm.MethodName) prog_6_method_2_code (2 : Nat) (Option.some (Jvm.ClassFile.FieldType.object "java/lang/Object"))).before args0 about1 = true := code_word (m := ⟨13, 1⟩) (meth := k13m1) (c := k13c1) (by decide +kernel) rfl rfl rfl (by decide +kernel)
set_option maxRecDepth 65536 in
theorem w_c13 : (Jvm.Cond.code ({ cls := "java/lang/Integer", name := "intValue", desc := "()I" } : Jvm.MethodName) jdk_33_method_27_code (1 : Nat) (Option.some Jvm.ClassFile.FieldType.int)).before args0 about1 = true := code_word (m := ⟨11, 2⟩) (meth := k11m2) (c := k11c2) (by decide +kernel) rfl rfl rfl (by decide +kernel)
set_option maxRecDepth 65536 in
theorem w_c14 : (Jvm.Cond.code ({ cls := "java/lang/String", name := "length", desc := "()I" } : Jvm.MethodName) jdk_42_method_54_code (1 : Nat) (Option.some Jvm.ClassFile.FieldType.int)).before args0 about1 = true := code_word (m := ⟨7, 2⟩) (meth := k7m2) (c := k7c2) (by decide +kernel) rfl rfl rfl (by decide +kernel)
set_option maxRecDepth 65536 in
theorem w_c15 : (Jvm.Cond.code ({ cls := "java/lang/String", name := "coder", desc := "()B" } : Jvm.MethodName) jdk_42_method_152_code (1 : Nat) (Option.some Jvm.ClassFile.FieldType.byte)).before args0 about1 = true := code_word (m := ⟨7, 7⟩) (meth := k7m7) (c := k7c7) (by decide +kernel) rfl rfl rfl (by decide +kernel)
set_option maxRecDepth 65536 in
theorem w_c16 : (Jvm.Cond.code ({ cls := "java/lang/String", name := "equals", desc := "(Ljava/lang/Object;)Z" } : Jvm.MethodName) jdk_42_method_66_code (3 : Nat) (Option.some Jvm.ClassFile.FieldType.boolean)).before args0 about1 = true := code_word (m := ⟨7, 3⟩) (meth := k7m3) (c := k7c3) (by decide +kernel) rfl rfl rfl (by decide +kernel)
set_option maxRecDepth 65536 in
theorem w_c17 : (Jvm.Cond.code ({ cls := "java/lang/Integer", name := "<init>", desc := "(I)V" } : Jvm.MethodName) jdk_33_method_23_code (2 : Nat) (Option.none : Option Jvm.ClassFile.FieldType)).before args0 about1 = true := code_word (m := ⟨11, 1⟩) (meth := k11m1) (c := k11c1) (by decide +kernel) rfl rfl rfl (by decide +kernel)
set_option maxRecDepth 65536 in
theorem w_c18 : (Jvm.Cond.code ({ cls := "java/lang/Number", name := "<init>", desc := "()V" } : Jvm.MethodName) jdk_18_method_1_code (1 : Nat) (Option.none : Option Jvm.ClassFile.FieldType)).before args0 about1 = true := code_word (m := ⟨10, 0⟩) (meth := k10m0) (c := k10c0) (by decide +kernel) rfl rfl rfl (by decide +kernel)
def codes1 : List Jvm.Cond := [Jvm.Cond.code x code maxLocals ret, Jvm.Cond.code ({ cls := "java/lang/String", name := "<init>", desc := "([C)V" } : Jvm.MethodName) jdk_42_method_3_code (2 : Nat) (Option.none : Option Jvm.ClassFile.FieldType), Jvm.Cond.code ({ cls := "java/lang/String", name := "<init>", desc := "([CIILjava/lang/Void;)V" } : Jvm.MethodName) jdk_42_method_149_code (6 : Nat) (Option.none : Option Jvm.ClassFile.FieldType), Jvm.Cond.code ({ cls := "java/lang/Object", name := "<init>", desc := "()V" } : Jvm.MethodName) object_method_1_code (1 : Nat) (Option.none : Option Jvm.ClassFile.FieldType), Jvm.Cond.code ({ cls := "java/lang/StringUTF16", name := "compress", desc := "([CII)[B" } : Jvm.MethodName) jdk_52_method_16_code (6 : Nat) (Option.some (Jvm.ClassFile.FieldType.array Jvm.ClassFile.FieldType.byte)), Jvm.Cond.code ({ cls := "java/lang/StringUTF16", name := "compress", desc := "([CI[BII)I" } : Jvm.MethodName) jdk_52_method_21_code (7 : Nat) (Option.some Jvm.ClassFile.FieldType.int), Jvm.Cond.code ({ cls := "java/lang/StringUTF16", name := "coderFromArrayLen", desc := "([BI)B" } : Jvm.MethodName) jdk_52_method_15_code (2 : Nat) (Option.some Jvm.ClassFile.FieldType.byte), Jvm.Cond.code ({ cls := "java/lang/String", name := "valueOf", desc := "(C)Ljava/lang/String;" } : Jvm.MethodName) jdk_42_method_139_code (1 : Nat) (Option.some (Jvm.ClassFile.FieldType.object "java/lang/String")), Jvm.Cond.code ({ cls := "java/lang/StringLatin1", name := "canEncode", desc := "(C)Z" } : Jvm.MethodName) jdk_43_method_3_code (1 : Nat) (Option.some Jvm.ClassFile.FieldType.boolean), Jvm.Cond.code ({ cls := "java/lang/StringLatin1", name := "toBytes", desc := "(C)[B" } : Jvm.MethodName) jdk_43_method_46_code (1 : Nat) (Option.some (Jvm.ClassFile.FieldType.array Jvm.ClassFile.FieldType.byte)), Jvm.Cond.code ({ cls := "java/lang/String", name := "<init>", desc := "([BB)V" } : Jvm.MethodName) jdk_42_method_151_code (3 : Nat) (Option.none : Option Jvm.ClassFile.FieldType), Jvm.Cond.code ({ cls := "java/lang/Integer", name := "valueOf", desc := "(I)Ljava/lang/Integer;" } : Jvm.MethodName) jdk_33_method_22_code (1 : Nat) (Option.some (Jvm.ClassFile.FieldType.object "java/lang/Integer")), Jvm.Cond.code ({ cls := "com/example/timeworth/timeworth/Checks", name := "given", desc := "(Ljava/lang/String;Ljava/lang/Object;)Ljava/lang/Object;" } : Jvm.MethodName) prog_6_method_2_code (2 : Nat) (Option.some (Jvm.ClassFile.FieldType.object "java/lang/Object")), Jvm.Cond.code ({ cls := "java/lang/Integer", name := "intValue", desc := "()I" } : Jvm.MethodName) jdk_33_method_27_code (1 : Nat) (Option.some Jvm.ClassFile.FieldType.int), Jvm.Cond.code ({ cls := "java/lang/String", name := "length", desc := "()I" } : Jvm.MethodName) jdk_42_method_54_code (1 : Nat) (Option.some Jvm.ClassFile.FieldType.int), Jvm.Cond.code ({ cls := "java/lang/String", name := "coder", desc := "()B" } : Jvm.MethodName) jdk_42_method_152_code (1 : Nat) (Option.some Jvm.ClassFile.FieldType.byte), Jvm.Cond.code ({ cls := "java/lang/String", name := "equals", desc := "(Ljava/lang/Object;)Z" } : Jvm.MethodName) jdk_42_method_66_code (3 : Nat) (Option.some Jvm.ClassFile.FieldType.boolean), Jvm.Cond.code ({ cls := "java/lang/Integer", name := "<init>", desc := "(I)V" } : Jvm.MethodName) jdk_33_method_23_code (2 : Nat) (Option.none : Option Jvm.ClassFile.FieldType), Jvm.Cond.code ({ cls := "java/lang/Number", name := "<init>", desc := "()V" } : Jvm.MethodName) jdk_18_method_1_code (1 : Nat) (Option.none : Option Jvm.ClassFile.FieldType)]
set_option maxRecDepth 65536 in
theorem codes_eq : words1.filter isCode = codes1 := rfl
theorem w_codes : ∀ c ∈ words1.filter isCode, c.before args0 about1 = true := by
  rw [codes_eq]
  intro c hc
  simp only [codes1, List.mem_cons, List.not_mem_nil, or_false] at hc
  rcases hc with rfl | rfl | rfl | rfl | rfl | rfl | rfl | rfl | rfl | rfl | rfl | rfl | rfl | rfl | rfl | rfl | rfl | rfl | rfl
  · exact w_c0
  · exact w_c1
  · exact w_c2
  · exact w_c3
  · exact w_c4
  · exact w_c5
  · exact w_c6
  · exact w_c7
  · exact w_c8
  · exact w_c9
  · exact w_c10
  · exact w_c11
  · exact w_c12
  · exact w_c13
  · exact w_c14
  · exact w_c15
  · exact w_c16
  · exact w_c17
  · exact w_c18
set_option maxRecDepth 65536 in
theorem w_t1 : (words1.take 24).all (fun c => isCode c || c.before args0 about1) = true := by decide +kernel
set_option maxRecDepth 65536 in
theorem w_t2 : ((words1.drop 24).take 24).all (fun c => isCode c || c.before args0 about1) = true := by decide +kernel
set_option maxRecDepth 65536 in
theorem w_t3 : (((words1.drop 24).drop 24).take 24).all (fun c => isCode c || c.before args0 about1) = true := by decide +kernel
set_option maxRecDepth 65536 in
theorem w_t4 : (((words1.drop 24).drop 24).drop 24).all (fun c => isCode c || c.before args0 about1) = true := by decide +kernel
theorem w_tables : (allAtoms (Jvm.Cond.code x code maxLocals ret :: tables_1)).before args0 about1 = true := by
  rw [allAtoms_all]
  show words1.all (fun c => c.before args0 about1) = true
  refine all_split ?_ w_codes
  rw [← List.take_append_drop 24 words1, List.all_append, w_t1, ← List.take_append_drop 24 (words1.drop 24), List.all_append, w_t2, ← List.take_append_drop 24 ((words1.drop 24).drop 24), List.all_append, w_t3, w_t4]
  rfl
set_option maxRecDepth 65536 in
theorem w_rest : rest_1_c.before args0 about1 = true := by decide +kernel
set_option maxRecDepth 65536 in
theorem w_case : (Jvm.Cond.and given_1 narrow_1).before args0 about1 = true := by decide +kernel
set_option maxRecDepth 65536 in
theorem w_consts : constsHeld consts_1 about1 := Jvm.Lit.constsHeldB_iff.mp (by decide +kernel)
theorem w_applies : (headSpec (Jvm.Cond.code x code maxLocals ret :: tables_1) room_1).applies x e0.platform about1 = true :=
  (Spec.applies_iff w_frames).mpr ⟨w_running, w_runnable, w_alone, w_named, w_hears, w_ripe, w_room, w_tables⟩
theorem atStart : AtStart classFile x code maxLocals ret World_1 tables_1 room_1 Calls_1 rest_1 Pre_1 launch0 p0 e0 about1 theMethod args0 below0 :=
  ⟨lists_1, trivial, launch0.admits_env _ _ _, launch0.least_env, fairChoices_fair.cas, fairChoices_fair.clock, w_frames, w_args, w_heap, w_applies, ⟨w_consts, trivial⟩, w_rest, w_case⟩
end start1
theorem witness_1 : WitnessClaimed_1 := ⟨start1.p0, start1.e0, start1.about1, start1.theMethod, start1.args0, start1.below0, start1.atStart⟩
end Jvm.Pilot.@@N@@
