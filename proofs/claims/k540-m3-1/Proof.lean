import JvmDerived
import JvmDerived.Pilot.@@N@@Statement
import JvmDerived.Pilot.@@N@@Code
set_option linter.unusedVariables false
set_option linter.unusedSimpArgs false
namespace Jvm.RoadKit
open Sem ClassFile Op Lib Jvm.Stand Jvm.Free Jvm.LawKit
section Own
variable {p : Program} {l : Launch} {e : Env} {R : Room} {s : State} {m : MethodId} {args : Array Value} {below : List Frame} {meth : Method} {c : Code} {T : State} {locs : List Loc} {cells slots : Nat}
theorem retI (X : Stand p l e R s m args below meth c T locs cells slots) (hx : p.tables.exec = Jvm.exec) {pc : Nat} {Ls : Array Slot} {z : Int32} {rest : List Value} (hret : meth.sig.returnType = some .int) (hd : decode c.code pc = .ok (.ireturn, 1)) {fs : List Frame}
    (hl : ∀ (f : JFrame) (acts : List Action), f.method = m → f.locked = none → f.entered = [] → (doReturn e (T.setTop f) acts (some (.int z))).1 = T.setFrames fs) : Steps p.tables e below (T.setTop (mkF m pc Ls (.int z :: rest))) (T.setFrames fs) :=
  retOut X hx hret rfl (Or.inl ⟨rfl, Or.inl rfl, z, rfl⟩) hd hl
theorem lremM {g : JFrame} {target : State} (X : Stand p l e R s m args below meth c T locs cells slots) (hx : p.tables.exec = Jvm.exec) (hg : g.method = m) {x y : Int64} {rest : List Value} (hd : decode c.code g.pc = .ok (.lrem, 1)) (hs : g.stack = .long y :: .long x :: rest) (hy : y ≠ 0)
    (hr : Steps p.tables e below (T.setTop { g with pc := g.pc + 1, stack := .long (x % y) :: rest }) target) : Steps p.tables e below (T.setTop g) target :=
  XS.lrem X.here hx hg hd hs hy (by rw [lrem_mod]; exact hr)
/-- the walk from S on ends in a return of which Q holds -/
def Goes (p : Program) (e : Env) (below : List Frame) (s : State) (k n : Nat) (Q : Option Value → Heap → List Loc → Prop) (S : State) : Prop :=
  ∃ t o, Steps p.tables e below S t ∧ t.status = .running ∧ Ended t below o ∧ ∃ v L, o = .returned v ∧ Q v t.heap L ∧ FrameEnd s o t L k n
variable {kc kn : Nat} {Q : Option Value → Heap → List Loc → Prop}
theorem Goes.step {A B : State} (h : ∀ t, Steps p.tables e below B t → Steps p.tables e below A t) (g : Goes p e below s kc kn Q B) : Goes p e below s kc kn Q A := by
  obtain ⟨t, o, h1, h2⟩ := g; exact ⟨t, o, h t h1, h2⟩
theorem Goes.to {A B : State} (h : Steps p.tables e below A B) (g : Goes p e below s kc kn Q B) : Goes p e below s kc kn Q A := by
  obtain ⟨t, o, h1, h2⟩ := g; exact ⟨t, o, h.trans h1, h2⟩
theorem Goes.out (X : Stand p l e R s m args below meth c T locs cells slots) {g : JFrame} {v : Option Value} (hlk : meth.locks = false) (hv : meth.sig.returnType = none → v = none)
    (hs : ∀ fs : List Frame, (∀ (f : JFrame) (acts : List Action), f.method = m → f.locked = none → f.entered = [] → (doReturn e (T.setTop f) acts v).1 = T.setFrames fs) → Steps p.tables e below (T.setTop g) (T.setFrames fs))
    (hq : Q v T.heap locs) (hk : cells ≤ kc) (hn : slots ≤ kn) : Goes p e below s kc kn Q (T.setTop g) := by
  obtain ⟨fs, hr, hrun, hended, hW, hsame⟩ := X.leave (v := v) hv hlk
  exact ⟨_, _, hs fs hr, hrun, hended, v, locs, rfl, hq, ⟨_, rfl⟩, hW, hsame.mono hk hn⟩
theorem Goes.retI (X : Stand p l e R s m args below meth c T locs cells slots) (hx : p.tables.exec = Jvm.exec) (hlk : meth.locks = false) {pc : Nat} {Ls : Array Slot} {z : Int32} {rest : List Value} (hret : meth.sig.returnType = some .int) (hd : decode c.code pc = .ok (.ireturn, 1))
    (hq : Q (some (.int z)) T.heap locs) (hk : cells ≤ kc) (hn : slots ≤ kn) : Goes p e below s kc kn Q (T.setTop (mkF m pc Ls (.int z :: rest))) :=
  Goes.out X hlk (fun h => by rw [hret] at h; cases h) (fun fs hr => Jvm.RoadKit.retI X hx hret hd hr) hq hk hn
theorem Goes.retN (X : Stand p l e R s m args below meth c T locs cells slots) (hx : p.tables.exec = Jvm.exec) (hlk : meth.locks = false) {pc : Nat} {Ls : Array Slot} {z : Int32} {t : FieldType} {rest : List Value} (hret : meth.sig.returnType = some t) (ht : t = .boolean ∨ t = .byte ∨ t = .char ∨ t = .short) (hd : decode c.code pc = .ok (.ireturn, 1))
    (hq : Q (some (.int (nar t z))) T.heap locs) (hk : cells ≤ kc) (hn : slots ≤ kn) : Goes p e below s kc kn Q (T.setTop (mkF m pc Ls (.int z :: rest))) :=
  Goes.out X hlk (fun h => by rw [hret] at h; cases h) (fun fs hr => Jvm.RoadKit.retN X hx hret ht hd hr) hq hk hn
theorem Goes.retJ (X : Stand p l e R s m args below meth c T locs cells slots) (hx : p.tables.exec = Jvm.exec) (hlk : meth.locks = false) {pc : Nat} {Ls : Array Slot} {z : Int64} {rest : List Value} (hret : meth.sig.returnType = some .long) (hd : decode c.code pc = .ok (.lreturn, 1))
    (hq : Q (some (.long z)) T.heap locs) (hk : cells ≤ kc) (hn : slots ≤ kn) : Goes p e below s kc kn Q (T.setTop (mkF m pc Ls (.long z :: rest))) :=
  Goes.out X hlk (fun h => by rw [hret] at h; cases h) (fun fs hr => retOut X hx hret rfl (Or.inr (Or.inl ⟨rfl, rfl, z, rfl⟩)) hd hr) hq hk hn
theorem Goes.retR (X : Stand p l e R s m args below meth c T locs cells slots) (hx : p.tables.exec = Jvm.exec) (hlk : meth.locks = false) {pc : Nat} {Ls : Array Slot} {w : Value} {t : FieldType} {rest : List Value} (hret : meth.sig.returnType = some t) (ht : t.isReference = true) (hw : w.isRef = true) (hn' : narrow t w = w) (hd : decode c.code pc = .ok (.areturn, 1))
    (hq : Q (some w) T.heap locs) (hk : cells ≤ kc) (hn : slots ≤ kn) : Goes p e below s kc kn Q (T.setTop (mkF m pc Ls (w :: rest))) :=
  Goes.out X hlk (fun h => by rw [hret] at h; cases h) (fun fs hr => retOut X hx hret hn' (Or.inr (Or.inr (Or.inr (Or.inr ⟨rfl, ht, hw⟩)))) hd hr) hq hk hn
theorem Goes.retV (X : Stand p l e R s m args below meth c T locs cells slots) (hx : p.tables.exec = Jvm.exec) (hlk : meth.locks = false) {pc : Nat} {Ls : Array Slot} (hret : meth.sig.returnType = none) (hd : decode c.code pc = .ok (.return_, 1))
    (hq : Q none T.heap locs) (hk : cells ≤ kc) (hn : slots ≤ kn) : Goes p e below s kc kn Q (T.setTop (mkF m pc Ls [])) :=
  Goes.out X hlk (fun _ => rfl) (fun fs hr => X.returnOut hx hret hd hr) hq hk hn
theorem Goes.enter {s₁ : State} {maxL : Nat} {g : JFrame} (h : entryFrame m args maxL = g) (k : Goes p e below s kc kn Q (s₁.setTop g)) :
    ∃ t o, Steps p.tables e below (s₁.setTop (entryFrame m args maxL)) t ∧ t.status = .running ∧ Ended t below o ∧ ∃ v L, o = .returned v ∧ Q v t.heap L ∧ FrameEnd s o t L kc kn := by rw [h]; exact k
theorem nm0 {b : Addr} : b ∉ ([] : List Addr) := List.not_mem_nil
theorem nm1 {b a : Addr} (h : b ≠ a) : b ∉ [a] := fun q => h (List.mem_singleton.mp q)
theorem nm2 {b a a' : Addr} (h : b ≠ a) (h' : b ≠ a') : b ∉ [a, a'] := fun q => (List.mem_cons.mp q).elim h (fun q => h' (List.mem_singleton.mp q))
theorem nm3 {b a a' a'' : Addr} (h : b ≠ a) (h' : b ≠ a') (h'' : b ≠ a'') : b ∉ [a, a', a''] := fun q => (List.mem_cons.mp q).elim h (fun q => nm2 h' h'' q)
theorem Sta.keepN {Z : State} {h h' : Heap} {C n d : String} {v : Value} {ws : List Addr} (F : Sta Z h C n d v) (K : Keep h h' ws) (hn : ∀ a ∈ ws, ∀ cell : Cell, h[a]? = some cell → cell.vm.isStatics = false) : Sta Z h' C n d v := by
  obtain ⟨cf, i, k, f, st, cell, h1, h2, h3, h4, h5, h6, r⟩ := F
  exact ⟨cf, i, k, f, st, cell, h1, h2, h3, h4, K.2.1 st cell h5 (fun q => by have := hn st q cell h5; rw [h6] at this; cases this), h6, r⟩
theorem Exa.plainN {Z : State} {h : Heap} {a : Addr} {C : String} (E : Exa Z h a C) : ∀ cell : Cell, h[a]? = some cell → cell.vm.isStatics = false := fun cell q => by
  obtain ⟨c, k, h1, h2, h3, h4, h5⟩ := E; cases h1.symm.trans q; exact h4
theorem Arv.plainN {Z : State} {h : Heap} {a : Addr} {k : ClassId} {ty : FieldType} {z : Int32} {vs : List Value} {d : Value} (A : Arv Z h a k ty z vs d) : ∀ cell : Cell, h[a]? = some cell → cell.vm.isStatics = false := fun cell q => by
  obtain ⟨c, A, r⟩ := A; cases A.1.symm.trans q; exact A.plain
end Own
end Jvm.RoadKit
namespace Jvm.RoadKit
open Sem ClassFile Op Lib Jvm.Stand Jvm.Free Jvm.LawKit
section OwnW
variable {p : Program} {l : Launch} {e : Env} {R : Room} {s : State} {m : MethodId} {args : Array Value} {below : List Frame} {meth : Method} {c : Code} {T : State} {locs : List Loc} {cells slots : Nat} {vm₁ : Vm} {kk : Nat}
/-- the wide end: the walk may have loaded String constants -/
def GoesW (p : Program) (e : Env) (below : List Frame) (s : State) (k n : Nat) (Q : Option Value → Heap → List Loc → Prop) (S : State) : Prop :=
  ∃ t o, Steps p.tables e below S t ∧ t.status = .running ∧ Ended t below o ∧ ∃ v L, o = .returned v ∧ Q v t.heap L ∧ ReturnedEndW s o t L k n
variable {kc kn : Nat} {Q : Option Value → Heap → List Loc → Prop}
theorem GoesW.step {A B : State} (h : ∀ t, Steps p.tables e below B t → Steps p.tables e below A t) (g : GoesW p e below s kc kn Q B) : GoesW p e below s kc kn Q A := by
  obtain ⟨t, o, h1, h2⟩ := g; exact ⟨t, o, h t h1, h2⟩
theorem GoesW.to {A B : State} (h : Steps p.tables e below A B) (g : GoesW p e below s kc kn Q B) : GoesW p e below s kc kn Q A := by
  obtain ⟨t, o, h1, h2⟩ := g; exact ⟨t, o, h.trans h1, h2⟩
theorem GoesW.out (X : Stand p l e R (s.setVm vm₁) m args below meth c T locs cells slots) (hS : s.Since vm₁ kk) (hkk : kk ≤ T.heap.size) {g : JFrame} {v : Option Value} (hlk : meth.locks = false) (hv : meth.sig.returnType = none → v = none)
    (hs : ∀ fs : List Frame, (∀ (f : JFrame) (acts : List Action), f.method = m → f.locked = none → f.entered = [] → (doReturn e (T.setTop f) acts v).1 = T.setFrames fs) → Steps p.tables e below (T.setTop g) (T.setFrames fs))
    (hq : Q v T.heap locs) (hk : cells ≤ kc) (hn : slots ≤ kn) : GoesW p e below s kc kn Q (T.setTop g) := by
  obtain ⟨fs, hr, hrun, hended, h1, h2, h3, h4⟩ := X.leaveW hS hkk (v := v) hv hlk
  exact ⟨_, _, hs fs hr, hrun, hended, v, locs, rfl, hq, h1, h2, h3, h4.mono hk hn⟩
theorem GoesW.retI (X : Stand p l e R (s.setVm vm₁) m args below meth c T locs cells slots) (hS : s.Since vm₁ kk) (hkk : kk ≤ T.heap.size) (hx : p.tables.exec = Jvm.exec) (hlk : meth.locks = false) {pc : Nat} {Ls : Array Slot} {z : Int32} {rest : List Value} (hret : meth.sig.returnType = some .int) (hd : decode c.code pc = .ok (.ireturn, 1))
    (hq : Q (some (.int z)) T.heap locs) (hk : cells ≤ kc) (hn : slots ≤ kn) : GoesW p e below s kc kn Q (T.setTop (mkF m pc Ls (.int z :: rest))) :=
  GoesW.out X hS hkk hlk (fun h => by rw [hret] at h; cases h) (fun fs hr => Jvm.RoadKit.retI X hx hret hd hr) hq hk hn
theorem GoesW.retN (X : Stand p l e R (s.setVm vm₁) m args below meth c T locs cells slots) (hS : s.Since vm₁ kk) (hkk : kk ≤ T.heap.size) (hx : p.tables.exec = Jvm.exec) (hlk : meth.locks = false) {pc : Nat} {Ls : Array Slot} {z : Int32} {t : FieldType} {rest : List Value} (hret : meth.sig.returnType = some t) (ht : t = .boolean ∨ t = .byte ∨ t = .char ∨ t = .short) (hd : decode c.code pc = .ok (.ireturn, 1))
    (hq : Q (some (.int (nar t z))) T.heap locs) (hk : cells ≤ kc) (hn : slots ≤ kn) : GoesW p e below s kc kn Q (T.setTop (mkF m pc Ls (.int z :: rest))) :=
  GoesW.out X hS hkk hlk (fun h => by rw [hret] at h; cases h) (fun fs hr => Jvm.RoadKit.retN X hx hret ht hd hr) hq hk hn
theorem GoesW.retR (X : Stand p l e R (s.setVm vm₁) m args below meth c T locs cells slots) (hS : s.Since vm₁ kk) (hkk : kk ≤ T.heap.size) (hx : p.tables.exec = Jvm.exec) (hlk : meth.locks = false) {pc : Nat} {Ls : Array Slot} {w : Value} {t : FieldType} {rest : List Value} (hret : meth.sig.returnType = some t) (ht : t.isReference = true) (hw : w.isRef = true) (hn' : narrow t w = w) (hd : decode c.code pc = .ok (.areturn, 1))
    (hq : Q (some w) T.heap locs) (hk : cells ≤ kc) (hn : slots ≤ kn) : GoesW p e below s kc kn Q (T.setTop (mkF m pc Ls (w :: rest))) :=
  GoesW.out X hS hkk hlk (fun h => by rw [hret] at h; cases h) (fun fs hr => retOut X hx hret hn' (Or.inr (Or.inr (Or.inr (Or.inr ⟨rfl, ht, hw⟩)))) hd hr) hq hk hn
theorem GoesW.retV (X : Stand p l e R (s.setVm vm₁) m args below meth c T locs cells slots) (hS : s.Since vm₁ kk) (hkk : kk ≤ T.heap.size) (hx : p.tables.exec = Jvm.exec) (hlk : meth.locks = false) {pc : Nat} {Ls : Array Slot} (hret : meth.sig.returnType = none) (hd : decode c.code pc = .ok (.return_, 1))
    (hq : Q none T.heap locs) (hk : cells ≤ kc) (hn : slots ≤ kn) : GoesW p e below s kc kn Q (T.setTop (mkF m pc Ls [])) :=
  GoesW.out X hS hkk hlk (fun _ => rfl) (fun fs hr => X.returnOut hx hret hd hr) hq hk hn
theorem GoesW.enter {s₁ : State} {maxL : Nat} {g : JFrame} (h : entryFrame m args maxL = g) (k : GoesW p e below s kc kn Q (s₁.setTop g)) :
    ∃ t o, Steps p.tables e below (s₁.setTop (entryFrame m args maxL)) t ∧ t.status = .running ∧ Ended t below o ∧ ∃ v L, o = .returned v ∧ Q v t.heap L ∧ ReturnedEndW s o t L kc kn := by rw [h]; exact k
/-- a contract that may intern, asked where nothing has been interned yet -/
theorem backOfI {Z : State} {a0 : Array Value} {h : Heap} {y : MethodName} {bytes : ByteArray} {maxL : Nat} {ret : Option FieldType} {rm : Room} {len W : Nat} {as' : Array Value} {Q : Option Value → Heap → List Loc → Prop}
    (hM : MetFree l y (head1 [Cond.code y bytes maxL ret] rm) (fun a U => a = as' ∧ Z.Warmed39 U.vm ∧ U.heap = h ∧ U.vm.interned = Z.vm.interned) (fun _ _ _ _ _ => True) (fun _ U o U' => ∃ v L, o = .returned v ∧ Q v U'.heap L ∧ ReturnedEndW U o U' L rm.cells rm.slots))
    (hZ : Z.Warmed39 s.vm) (hI : s.vm.interned = Z.vm.interned) (wc : (Cond.code y bytes maxL ret).before a0 Z = true) (wz : (Cond.initialized y.cls).before a0 Z = true) (hf : rm.frames + 1 ≤ R.frames) (hl : W + (maxL + 11) + rm.locals ≤ R.locals) :
    BackS l R p e below s args y len W (fun A a => a = as' ∧ A.U.heap = h ∧ A.cells + rm.cells ≤ R.cells ∧ A.slots + rm.slots ≤ R.slots)
      (fun A _ v B => ∃ L, Q v B.U.heap L ∧ B.locs = A.locs ++ L ∧ B.cells = A.cells + rm.cells ∧ B.slots = A.slots + rm.slots) :=
  BackS.of_freeW (bytes := bytes) (maxL := maxL) (ret := ret) (E := fun _ _ o t L k n => k = rm.cells ∧ n = rm.slots ∧ ∃ v, o = .returned v ∧ Q v t.heap L) hM hf hl
    (fun m meth c A a Y hp => have hU : Z.Warmed39 A.U.vm := wtrans hZ Y.warmed
      ⟨by show (Cond.and _ .tt).before a A.U = true; rw [Cond.before_and, mv hU wc]; rfl, mv hU wc, mv hU wz, hp.2.2.1, hp.2.2.2⟩)
    (fun m meth c A a g mk Y hp => ⟨hp.1, wtrans hZ Y.warmed, hp.2.1, Y.warmed.interned_eq.trans hI⟩) (fun _ _ _ _ _ _ _ _ _ => trivial)
    (fun _ _ _ _ ⟨v, L, h1, h2, h3⟩ => ⟨L, _, _, h3, rfl, rfl, v, h1, h2⟩)
    (fun m meth c A a g mk v t L k n Y hp _ _ ⟨e1, e2, v', e3, e4⟩ => by cases e3; subst e1 e2; exact ⟨L, e4, rfl, rfl, rfl⟩)
theorem since0 (s : State) : s.Since s.vm s.heap.size := (State.WarmedH.refl s).since _
end OwnW
end Jvm.RoadKit
namespace Jvm.Pilot.@@N@@
open Jvm Jvm.ClassFile Sem Op Lib Jvm.Free Jvm.Stand Jvm.LawKit Jvm.RoadKit Bundle Jvm.Pilot.@@N@@.Jvm.D
theorem own_nz0 {args : Array Value} {s : State} {t : Term} {w : Int32} (ev : t.eval args s none [] s = some (.int w)) (h : (Jvm.Cond.not (.eq t (.int 0))).value args s none s [] = some true) : ¬ (w = (0 : Int32)) := fun q => by
  have h2 := not_v h
  have e2 : (Term.int 0).eval args s none [] s = some (.int 0) := rfl
  subst q
  simp only [Cond.value, ev, e2] at h2
  simp at h2
theorem own_fldeq {Z : State} {h : Heap} {a : Addr} {C n d : String} {v w : Value} (F : Fld Z h a C n d v) (G : Fld Z h a C n d w) : v = w := by
  obtain ⟨c1, f1, k1, i1, x1, a1, a2, a3, a4, a5, a6, a7⟩ := F
  obtain ⟨c2, f2, k2, i2, x2, b1, b2, b3, b4, b5, b6, b7⟩ := G
  cases a1.symm.trans b1
  cases a2.symm.trans b2
  exact Option.some.inj (a7.symm.trans b7)
theorem d_jdk_43_method_3_code_0 : decode jdk_43_method_3_code 0 = .ok (.iload_n 0, 1) := by decide +kernel
theorem d_jdk_43_method_3_code_1 : decode jdk_43_method_3_code 1 = .ok (.sipush 255, 3) := by decide +kernel
theorem d_jdk_43_method_3_code_4 : decode jdk_43_method_3_code 4 = .ok (.if_icmp .gt 7, 3) := by decide +kernel
theorem d_jdk_43_method_3_code_11 : decode jdk_43_method_3_code 11 = .ok (.iconst 0, 1) := by decide +kernel
theorem d_jdk_43_method_3_code_12 : decode jdk_43_method_3_code 12 = .ok (.ireturn, 1) := by decide +kernel
theorem d_jdk_43_method_3_code_7 : decode jdk_43_method_3_code 7 = .ok (.iconst 1, 1) := by decide +kernel
theorem d_jdk_43_method_3_code_8 : decode jdk_43_method_3_code 8 = .ok (.goto 4, 3) := by decide +kernel
def own_ce_fn (u0 : Int32) : Int32 := (if (255 : Int32) < u0 then (0 : Int32) else (1 : Int32))
def own_ce_Q (Z : State) (u0 : Int32)  (h0 : Heap) (n0 : Nat) (v : Option Value) (h : Heap) (L : List Loc) : Prop := v = some (.int (own_ce_fn u0)) ∧ Fr n0 L ∧ h = h0
theorem own_ce_ef (m : MethodId) (u0 : Int32) : entryFrame m #[(.int u0)] 1 = mkF m 0 #[.val (.int u0)] [] := by first | (simp [entryFrame, mkF, argsToLocals, Value.category]; done) | rfl
theorem pn_StringLatin1 : plainName "java/lang/StringLatin1" = true := by first | (simp [plainName, overriddenIn]; done) | decide +kernel
set_option maxRecDepth 65536 in
set_option maxHeartbeats 40000000 in
theorem own_ce_rm (l : Launch) (Z : State) (a0 : Array Value) (hw : ∀ d ∈ tables_1, d.before a0 Z = true) (ws : List Jvm.Cond) (u0 : Int32)  (h0 : Heap) (n0 : Nat) (Z0 : n0 ≤ h0.size)  :
    MetFree l (⟨"java/lang/StringLatin1", "canEncode", "(C)Z"⟩ : MethodName) (head1 (Jvm.Cond.code (⟨"java/lang/StringLatin1", "canEncode", "(C)Z"⟩ : MethodName) jdk_43_method_3_code 1 (some .boolean) :: ws) ({ frames := 0, cells := 0, slots := 0, locals := 0 } : Room)) (fun a U => a = #[(.int u0)] ∧ Z.Warmed39 U.vm ∧ U.heap = h0) (fun _ _ _ _ _ => True) (fun _ U o U' => ∃ v L, o = .returned v ∧ own_ce_Q Z u0 h0 n0 v U'.heap L ∧ FrameEnd U o U' L ({ frames := 0, cells := 0, slots := 0, locals := 0 } : Room).cells ({ frames := 0, cells := 0, slots := 0, locals := 0 } : Room).slots) := by
  refine MetFree.of_bodySF (plainFor_of_name pn_StringLatin1) hisR ?_
  intro p e s m args below meth c s₁ Bd hml0 hP hK
  obtain ⟨rfl, hZ, hh⟩ := hP
  have hx := Bd.exec
  have hby := Bd.bytes
  have hml : c.maxLocals = 1 := hml0
  have hown : s.vm.findClass "java/lang/StringLatin1" = some m.cls := findClass_of_methodNamed Bd.named
  have hnm := (name_of_methodNamed Bd.named Bd.method).1
  have hlk : meth.locks = false := BodyLoose.notSynchronized Bd
  have hrt := Bd.returns
  have X0 : Stand p l e ({ frames := 0, cells := 0, slots := 0, locals := 0 } : Room) s m #[(.int u0)] below meth c s₁ [] 0 0 := Stand.of_body Bd
  have e0 : s₁.heap = h0 := by rw [← hh, Bd.state]; rfl
  have N0 := Fr.nil n0
  refine Goes.enter (kc := ({ frames := 0, cells := 0, slots := 0, locals := 0 } : Room).cells) (kn := ({ frames := 0, cells := 0, slots := 0, locals := 0 } : Room).slots) (Q := own_ce_Q Z u0 h0 n0) (own_ce_ef m u0) ?_
  refine Goes.step (B := (s₁.setTop (mkF m 1 #[.val (.int u0)] [(.int u0)]))) (fun _ k => XS.iloadN X0.here hx rfl (hb hby d_jdk_43_method_3_code_0) rfl k) ?_
  refine Goes.step (B := (s₁.setTop (mkF m 4 #[.val (.int u0)] [(.int (255 : Int32)), (.int u0)]))) (fun _ k => XS.sipush X0.here hx rfl (hb hby d_jdk_43_method_3_code_1) k) ?_
  by_cases hc101 : (255 : Int32) < u0
  · refine Goes.step (B := (s₁.setTop (mkF m 11 #[.val (.int u0)] []))) (fun _ k => XS.icmpYes X0.here hx rfl (pc0 := 4) (pc' := 11) rfl (hb hby d_jdk_43_method_3_code_4) rfl (tlt hc101).2.2.1 (by decide) (by decide) k) ?_
    refine Goes.step (B := (s₁.setTop (mkF m 12 #[.val (.int u0)] [(.int (0 : Int32))]))) (fun _ k => XS.iconst X0.here hx rfl (hb hby d_jdk_43_method_3_code_11) k) ?_
    refine Goes.retN X0 hx hlk (t := .boolean) hrt (by simp) (hb hby d_jdk_43_method_3_code_12) ?_ (by decide) (by decide)
    rw [e0]
    exact ⟨congrArg (fun z => some (Value.int z)) (show nar .boolean (0 : Int32) = (own_ce_fn u0) from (show nar .boolean (0 : Int32) = (0 : Int32) from rfl).trans (by simp only [own_ce_fn, if_pos hc101])), N0, rfl⟩
  · refine Goes.step (B := (s₁.setTop (mkF m 7 #[.val (.int u0)] []))) (fun _ k => XS.icmpNo X0.here hx rfl (hb hby d_jdk_43_method_3_code_4) rfl (flt hc101).2.2.1 k) ?_
    refine Goes.step (B := (s₁.setTop (mkF m 8 #[.val (.int u0)] [(.int (1 : Int32))]))) (fun _ k => XS.iconst X0.here hx rfl (hb hby d_jdk_43_method_3_code_7) k) ?_
    refine Goes.step (B := (s₁.setTop (mkF m 12 #[.val (.int u0)] [(.int (1 : Int32))]))) (fun _ k => XS.goto X0.here hx rfl (pc0 := 8) (pc' := 12) rfl (hb hby d_jdk_43_method_3_code_8) (by decide) (by decide) k) ?_
    refine Goes.retN X0 hx hlk (t := .boolean) hrt (by simp) (hb hby d_jdk_43_method_3_code_12) ?_ (by decide) (by decide)
    rw [e0]
    exact ⟨congrArg (fun z => some (Value.int z)) (show nar .boolean (1 : Int32) = (own_ce_fn u0) from (show nar .boolean (1 : Int32) = (1 : Int32) from rfl).trans (by simp only [own_ce_fn, if_neg hc101])), N0, rfl⟩
theorem d_jdk_43_method_46_code_0 : decode jdk_43_method_46_code 0 = .ok (.iconst 1, 1) := by decide +kernel
theorem d_jdk_43_method_46_code_1 : decode jdk_43_method_46_code 1 = .ok (.newarray .byte, 2) := by decide +kernel
theorem d_jdk_43_method_46_code_3 : decode jdk_43_method_46_code 3 = .ok (.dup, 1) := by decide +kernel
theorem d_jdk_43_method_46_code_4 : decode jdk_43_method_46_code 4 = .ok (.iconst 0, 1) := by decide +kernel
theorem d_jdk_43_method_46_code_5 : decode jdk_43_method_46_code 5 = .ok (.iload_n 0, 1) := by decide +kernel
theorem d_jdk_43_method_46_code_6 : decode jdk_43_method_46_code 6 = .ok (.i2b, 1) := by decide +kernel
theorem d_jdk_43_method_46_code_7 : decode jdk_43_method_46_code 7 = .ok (.bastore, 1) := by decide +kernel
theorem d_jdk_43_method_46_code_8 : decode jdk_43_method_46_code 8 = .ok (.areturn, 1) := by decide +kernel
def own_tb_Q (Z : State) (u0 : Int32)  (h0 : Heap) (n0 : Nat) (v : Option Value) (h : Heap) (L : List Loc) : Prop := ∃ (b : Addr), (v = some (.ref b)) ∧ (Fr n0 L) ∧ (Keep h0 h []) ∧ (n0 ≤ b) ∧ (h0.size ≤ b)
theorem own_tb_ef (m : MethodId) (u0 : Int32) : entryFrame m #[(.int u0)] 1 = mkF m 0 #[.val (.int u0)] [] := by first | (simp [entryFrame, mkF, argsToLocals, Value.category]; done) | rfl
set_option maxRecDepth 65536 in
set_option maxHeartbeats 40000000 in
theorem own_tb_rm (l : Launch) (Z : State) (a0 : Array Value) (hw : ∀ d ∈ tables_1, d.before a0 Z = true) (ws : List Jvm.Cond) (u0 : Int32)  (h0 : Heap) (n0 : Nat) (Z0 : n0 ≤ h0.size)  :
    MetFree l (⟨"java/lang/StringLatin1", "toBytes", "(C)[B"⟩ : MethodName) (head1 (Jvm.Cond.code (⟨"java/lang/StringLatin1", "toBytes", "(C)[B"⟩ : MethodName) jdk_43_method_46_code 1 (some (.array .byte)) :: ws) ({ frames := 0, cells := 1, slots := 1, locals := 0 } : Room)) (fun a U => a = #[(.int u0)] ∧ Z.Warmed39 U.vm ∧ U.heap = h0) (fun _ _ _ _ _ => True) (fun _ U o U' => ∃ v L, o = .returned v ∧ own_tb_Q Z u0 h0 n0 v U'.heap L ∧ FrameEnd U o U' L ({ frames := 0, cells := 1, slots := 1, locals := 0 } : Room).cells ({ frames := 0, cells := 1, slots := 1, locals := 0 } : Room).slots) := by
  refine MetFree.of_bodySF (plainFor_of_name pn_StringLatin1) hisR ?_
  intro p e s m args below meth c s₁ Bd hml0 hP hK
  obtain ⟨rfl, hZ, hh⟩ := hP
  have hx := Bd.exec
  have hby := Bd.bytes
  have hml : c.maxLocals = 1 := hml0
  have hown : s.vm.findClass "java/lang/StringLatin1" = some m.cls := findClass_of_methodNamed Bd.named
  have hnm := (name_of_methodNamed Bd.named Bd.method).1
  have hlk : meth.locks = false := BodyLoose.notSynchronized Bd
  have hrt := Bd.returns
  have X0 : Stand p l e ({ frames := 0, cells := 1, slots := 1, locals := 0 } : Room) s m #[(.int u0)] below meth c s₁ [] 0 0 := Stand.of_body Bd
  have e0 : s₁.heap = h0 := by rw [← hh, Bd.state]; rfl
  have N0 := Fr.nil n0
  refine Goes.enter (kc := ({ frames := 0, cells := 1, slots := 1, locals := 0 } : Room).cells) (kn := ({ frames := 0, cells := 1, slots := 1, locals := 0 } : Room).slots) (Q := own_tb_Q Z u0 h0 n0) (own_tb_ef m u0) ?_
  refine Goes.step (B := (s₁.setTop (mkF m 1 #[.val (.int u0)] [(.int (1 : Int32))]))) (fun _ k => XS.iconst X0.here hx rfl (hb hby d_jdk_43_method_46_code_0) k) ?_
  obtain ⟨T101, h101, k101, X101, e101, E101, A101, st101⟩ := newP X0 hx hZ (hw _ (List.mem_of_getElem? (i := 24) rfl)) e0 (g := (mkF m 1 #[.val (.int u0)] [(.int (1 : Int32))])) rfl (hb hby d_jdk_43_method_46_code_1) rfl (by decide) (cap := 1) (by decide) (by decide) (by decide) (by decide)
  obtain ⟨b101, g101⟩ : ∃ z, z = h0.size := ⟨_, rfl⟩
  rw [← g101] at A101 st101
  have gn101 : n0 ≤ b101 := Nat.le_trans Z0 (Nat.le_of_eq g101.symm)
  have sz101 : h0.size ≤ b101 := Nat.le_trans (Keep.refl h0 []).1 (Nat.le_of_eq g101.symm)
  have V101 : Arv Z h101 b101 k101 .byte (1 : Int32) [(.int (0 : Int32))] (.int (0 : Int32)) := (Arv.new A101 (by decide)).pad (pad_rep [] (.int (0 : Int32)) 1)
  have Z101 : n0 ≤ h101.size := Nat.le_trans Z0 E101.1
  have K101 : Keep h0 h101 [] := (Keep.refl h0 []).ext E101
  refine Goes.step (B := (T101.setTop (mkF m 3 #[.val (.int u0)] [(.ref b101)]))) (fun _ k => st101 _ k) ?_
  refine Goes.step (B := (T101.setTop (mkF m 4 #[.val (.int u0)] [(.ref b101), (.ref b101)]))) (fun _ k => XS.dup X101.here hx rfl (hb hby d_jdk_43_method_46_code_3) rfl rfl k) ?_
  refine Goes.step (B := (T101.setTop (mkF m 5 #[.val (.int u0)] [(.int (0 : Int32)), (.ref b101), (.ref b101)]))) (fun _ k => XS.iconst X101.here hx rfl (hb hby d_jdk_43_method_46_code_4) k) ?_
  refine Goes.step (B := (T101.setTop (mkF m 6 #[.val (.int u0)] [(.int u0), (.int (0 : Int32)), (.ref b101), (.ref b101)]))) (fun _ k => XS.iloadN X101.here hx rfl (hb hby d_jdk_43_method_46_code_5) rfl k) ?_
  refine Goes.step (B := (T101.setTop (mkF m 7 #[.val (.int u0)] [(.int u0.toInt8.toInt32), (.int (0 : Int32)), (.ref b101), (.ref b101)]))) (fun _ k => XS.i2b X101.here hx rfl (hb hby d_jdk_43_method_46_code_6) rfl k) ?_
  obtain ⟨cl102, Ar102, q102, S102, M102, H102, G102⟩ := id V101
  have hin102 : ¬ ((0 : Int32) < 0 ∨ cl102.slots.size ≤ ((0 : Int32)).toNatClampNeg) := inb_of S102 ⟨by decide, by decide⟩
  obtain ⟨T102, h102, X102, e102, W102, st102⟩ := stB X101 hx hZ e101 Ar102 (j := (0 : Int32)) hin102 (g := (mkF m 7 #[.val (.int u0)] [(.int u0.toInt8.toInt32), (.int (0 : Int32)), (.ref b101), (.ref b101)])) rfl rfl (hb hby d_jdk_43_method_46_code_7)
  have N102 := Fr.snoc X102 N0 gn101
  have K102 : Keep h0 h102 [] := K101.wr W102 (Or.inr sz101)
  have Z102 : n0 ≤ h102.size := Nat.le_trans Z101 (Nat.le_of_eq W102.size.symm)
  have V102 : Arv Z h102 b101 k101 .byte (1 : Int32) [(.int (nar .byte u0.toInt8.toInt32))] (.int (0 : Int32)) := Arv.set Ar102 q102 S102 M102 H102 G102 (fits_nar_byte _) W102 0 rfl (Nat.le_of_ble_eq_true rfl)
  refine Goes.step (B := (T102.setTop (mkF m 8 #[.val (.int u0)] [(.ref b101)]))) (fun _ k => st102 _ k) ?_
  refine Goes.retR X102 hx hlk hrt rfl rfl rfl (hb hby d_jdk_43_method_46_code_8) ?_ (by decide) (by decide)
  rw [e102]
  exact ⟨b101, rfl, N102, K102, gn101, sz101⟩
theorem d_jdk_42_method_151_code_0 : decode jdk_42_method_151_code 0 = .ok (.aload_n 0, 1) := by decide +kernel
theorem d_jdk_42_method_151_code_1 : decode jdk_42_method_151_code 1 = .ok (.invokespecial 1, 3) := by decide +kernel
theorem d_jdk_42_method_151_code_4 : decode jdk_42_method_151_code 4 = .ok (.aload_n 0, 1) := by decide +kernel
theorem d_jdk_42_method_151_code_5 : decode jdk_42_method_151_code 5 = .ok (.aload_n 1, 1) := by decide +kernel
theorem d_jdk_42_method_151_code_6 : decode jdk_42_method_151_code 6 = .ok (.putfield 9, 3) := by decide +kernel
theorem d_jdk_42_method_151_code_9 : decode jdk_42_method_151_code 9 = .ok (.aload_n 0, 1) := by decide +kernel
theorem d_jdk_42_method_151_code_10 : decode jdk_42_method_151_code 10 = .ok (.iload_n 2, 1) := by decide +kernel
theorem d_jdk_42_method_151_code_11 : decode jdk_42_method_151_code 11 = .ok (.putfield 15, 3) := by decide +kernel
theorem d_jdk_42_method_151_code_14 : decode jdk_42_method_151_code 14 = .ok (.return_, 1) := by decide +kernel
def own_si_Q (Z : State) (o0 : Addr) (c0 : Addr)  (h0 : Heap) (n0 : Nat) (v : Option Value) (h : Heap) (L : List Loc) : Prop := (v = none) ∧ (Fr n0 L) ∧ (Keep h0 h [o0]) ∧ (Exa Z h o0 "java/lang/String")
theorem own_si_ef (m : MethodId) (o0 : Addr) (c0 : Addr) : entryFrame m #[(.ref o0), (.ref c0), (.int (0 : Int32))] 3 = mkF m 0 #[.val (.ref o0), .val (.ref c0), .val (.int (0 : Int32))] [] := by first | (simp [entryFrame, mkF, argsToLocals, Value.category]; done) | rfl
theorem pn_String : plainName "java/lang/String" = true := by first | (simp [plainName, overriddenIn]; done) | decide +kernel
set_option maxRecDepth 65536 in
set_option maxHeartbeats 40000000 in
theorem own_si_rm (l : Launch) (Z : State) (a0 : Array Value) (hw : ∀ d ∈ tables_1, d.before a0 Z = true) (ws : List Jvm.Cond) (o0 : Addr) (c0 : Addr)  (h0 : Heap) (n0 : Nat) (Z0 : n0 ≤ h0.size) (pr0 : Exa Z h0 o0 "java/lang/String") (pr1 : Fld Z h0 o0 "java/lang/String" "value" "[B" .null) (pr2 : Fld Z h0 o0 "java/lang/String" "coder" "B" (.int (0 : Int32))) (pr3 : n0 ≤ o0) :
    MetFree l (⟨"java/lang/String", "<init>", "([BB)V"⟩ : MethodName) (head1 (Jvm.Cond.code (⟨"java/lang/String", "<init>", "([BB)V"⟩ : MethodName) jdk_42_method_151_code 3 none :: ws) ({ frames := 1, cells := 0, slots := 0, locals := 12 } : Room)) (fun a U => a = #[(.ref o0), (.ref c0), (.int (0 : Int32))] ∧ Z.Warmed39 U.vm ∧ U.heap = h0) (fun _ _ _ _ _ => True) (fun _ U o U' => ∃ v L, o = .returned v ∧ own_si_Q Z o0 c0 h0 n0 v U'.heap L ∧ FrameEnd U o U' L ({ frames := 1, cells := 0, slots := 0, locals := 12 } : Room).cells ({ frames := 1, cells := 0, slots := 0, locals := 12 } : Room).slots) := by
  refine MetFree.of_bodySF (plainFor_of_name pn_String) hisR ?_
  intro p e s m args below meth c s₁ Bd hml0 hP hK
  obtain ⟨rfl, hZ, hh⟩ := hP
  have hx := Bd.exec
  have hby := Bd.bytes
  have hml : c.maxLocals = 3 := hml0
  have hown : s.vm.findClass "java/lang/String" = some m.cls := findClass_of_methodNamed Bd.named
  have hnm := (name_of_methodNamed Bd.named Bd.method).1
  have hlk : meth.locks = false := BodyLoose.notSynchronized Bd
  have hrt := Bd.returns
  have X0 : Stand p l e ({ frames := 1, cells := 0, slots := 0, locals := 12 } : Room) s m #[(.ref o0), (.ref c0), (.int (0 : Int32))] below meth c s₁ [] 0 0 := Stand.of_body Bd
  have e0 : s₁.heap = h0 := by rw [← hh, Bd.state]; rfl
  have N0 := Fr.nil n0
  refine Goes.enter (kc := ({ frames := 1, cells := 0, slots := 0, locals := 12 } : Room).cells) (kn := ({ frames := 1, cells := 0, slots := 0, locals := 12 } : Room).slots) (Q := own_si_Q Z o0 c0 h0 n0) (own_si_ef m o0 c0) ?_
  refine Goes.step (B := (s₁.setTop (mkF m 1 #[.val (.ref o0), .val (.ref c0), .val (.int (0 : Int32))] [(.ref o0)]))) (fun _ k => XS.aloadN X0.here hx rfl (hb hby d_jdk_42_method_151_code_0) rfl rfl k) ?_
  obtain ⟨T101, X101, e101, st101⟩ := initO X0 hx hZ hown (hw _ (List.mem_of_getElem? (i := 16) rfl)) (hw _ (List.mem_of_getElem? (i := 17) rfl)) (hw _ (List.mem_of_getElem? (i := 18) rfl)) e0 (g := (mkF m 1 #[.val (.ref o0), .val (.ref c0), .val (.int (0 : Int32))] [(.ref o0)])) rfl (by rw [hml]; rfl) rfl (hb hby d_jdk_42_method_151_code_1) (by decide) (W := 0) (by show 2 * 0 + _ ≤ _; exact Nat.le_of_eq rfl) (by decide)
  refine Goes.step (B := (T101.setTop (mkF m 4 #[.val (.ref o0), .val (.ref c0), .val (.int (0 : Int32))] []))) (fun _ k => st101 _ k) ?_
  refine Goes.step (B := (T101.setTop (mkF m 5 #[.val (.ref o0), .val (.ref c0), .val (.int (0 : Int32))] [(.ref o0)]))) (fun _ k => XS.aloadN X101.here hx rfl (hb hby d_jdk_42_method_151_code_4) rfl rfl k) ?_
  refine Goes.step (B := (T101.setTop (mkF m 6 #[.val (.ref o0), .val (.ref c0), .val (.int (0 : Int32))] [(.ref c0), (.ref o0)]))) (fun _ k => XS.aloadN X101.here hx rfl (hb hby d_jdk_42_method_151_code_5) rfl rfl k) ?_
  obtain ⟨T102, h102, X102, e102, W102, st102⟩ := putF X101 hx hZ hown (host := "") (Or.inl (hw _ (List.mem_of_getElem? (i := 33) rfl))) Via.refl e101 pr1 pr0 (Or.inr ⟨(hw _ (List.mem_of_getElem? (i := 34) rfl)), rfl, hnm⟩) (hw _ (List.mem_of_getElem? (i := 6) rfl)) (ty := (.array .byte)) (by decide) rfl rfl (g := (mkF m 6 #[.val (.ref o0), .val (.ref c0), .val (.int (0 : Int32))] [(.ref c0), (.ref o0)])) rfl rfl (hb hby d_jdk_42_method_151_code_6)
  have f103 := pr0.wr W102
  have f104 := pr2.other W102 (Or.inr (slot_ne (Or.inr (hw _ (List.mem_of_getElem? (i := 32) rfl))) (Or.inr (hw _ (List.mem_of_getElem? (i := 34) rfl))) (by decide) (t := .byte) (t' := (.array .byte)) (by decide) (by decide)))
  have N102 := Fr.snoc X102 N0 pr3
  have K102 : Keep h0 h102 [o0] := (Keep.refl h0 [o0]).wr W102 (Or.inl (List.mem_of_getElem? (i := 0) rfl))
  have Z102 : n0 ≤ h102.size := Nat.le_trans Z0 (Nat.le_of_eq W102.size.symm)
  have f105 : Fld Z h102 o0 "java/lang/String" "value" "[B" (.ref c0) := pr1.same W102
  refine Goes.step (B := (T102.setTop (mkF m 9 #[.val (.ref o0), .val (.ref c0), .val (.int (0 : Int32))] []))) (fun _ k => st102 _ k) ?_
  refine Goes.step (B := (T102.setTop (mkF m 10 #[.val (.ref o0), .val (.ref c0), .val (.int (0 : Int32))] [(.ref o0)]))) (fun _ k => XS.aloadN X102.here hx rfl (hb hby d_jdk_42_method_151_code_9) rfl rfl k) ?_
  refine Goes.step (B := (T102.setTop (mkF m 11 #[.val (.ref o0), .val (.ref c0), .val (.int (0 : Int32))] [(.int (0 : Int32)), (.ref o0)]))) (fun _ k => XS.iloadN X102.here hx rfl (hb hby d_jdk_42_method_151_code_10) rfl k) ?_
  obtain ⟨T106, h106, X106, e106, W106, st106⟩ := putFN X102 hx hZ hown (hw _ (List.mem_of_getElem? (i := 31) rfl)) Via.refl e102 f104 f103 (Or.inr ⟨(hw _ (List.mem_of_getElem? (i := 32) rfl)), rfl, hnm⟩) (hw _ (List.mem_of_getElem? (i := 6) rfl)) (ty := .byte) (v' := (.int (nar .byte (0 : Int32)))) (by decide) rfl (fits_nar_byte _) (g := (mkF m 11 #[.val (.ref o0), .val (.ref c0), .val (.int (0 : Int32))] [(.int (0 : Int32)), (.ref o0)])) rfl rfl (hb hby d_jdk_42_method_151_code_11)
  have f107 := f103.wr W106
  have f108 := f105.other W106 (Or.inr (slot_ne (Or.inr (hw _ (List.mem_of_getElem? (i := 34) rfl))) (Or.inr (hw _ (List.mem_of_getElem? (i := 32) rfl))) (by decide) (t := (.array .byte)) (t' := .byte) (by decide) (by decide)))
  have N106 := Fr.snoc X106 N102 pr3
  have K106 : Keep h0 h106 [o0] := K102.wr W106 (Or.inl (List.mem_of_getElem? (i := 0) rfl))
  have Z106 : n0 ≤ h106.size := Nat.le_trans Z102 (Nat.le_of_eq W106.size.symm)
  have f109 : Fld Z h106 o0 "java/lang/String" "coder" "B" (.int (0 : Int32)) := f104.same W106
  refine Goes.step (B := (T106.setTop (mkF m 14 #[.val (.ref o0), .val (.ref c0), .val (.int (0 : Int32))] []))) (fun _ k => st106 _ k) ?_
  refine Goes.retV X106 hx hlk hrt (hb hby d_jdk_42_method_151_code_14) ?_ (by decide) (by decide)
  rw [e106]
  exact ⟨rfl, N106, K106, f107⟩
theorem d_jdk_42_method_139_code_0 : decode jdk_42_method_139_code 0 = .ok (.getstatic 38, 3) := by decide +kernel
theorem d_jdk_42_method_139_code_3 : decode jdk_42_method_139_code 3 = .ok (.ifCond .eq 23, 3) := by decide +kernel
theorem d_jdk_42_method_139_code_6 : decode jdk_42_method_139_code 6 = .ok (.iload_n 0, 1) := by decide +kernel
theorem d_jdk_42_method_139_code_7 : decode jdk_42_method_139_code 7 = .ok (.invokestatic 1015, 3) := by decide +kernel
theorem pd__C_Z : parseMethodDescriptor "(C)Z" = some ⟨[.char], some .boolean⟩ := by decide +kernel
theorem d_jdk_42_method_139_code_10 : decode jdk_42_method_139_code 10 = .ok (.ifCond .eq 16, 3) := by decide +kernel
theorem d_jdk_42_method_139_code_13 : decode jdk_42_method_139_code 13 = .ok (.new 10, 3) := by decide +kernel
theorem d_jdk_42_method_139_code_16 : decode jdk_42_method_139_code 16 = .ok (.dup, 1) := by decide +kernel
theorem d_jdk_42_method_139_code_17 : decode jdk_42_method_139_code 17 = .ok (.iload_n 0, 1) := by decide +kernel
theorem d_jdk_42_method_139_code_18 : decode jdk_42_method_139_code 18 = .ok (.invokestatic 1018, 3) := by decide +kernel
theorem pd__C_AB : parseMethodDescriptor "(C)[B" = some ⟨[.char], some (.array .byte)⟩ := by decide +kernel
theorem d_jdk_42_method_139_code_21 : decode jdk_42_method_139_code 21 = .ok (.iconst 0, 1) := by decide +kernel
theorem d_jdk_42_method_139_code_22 : decode jdk_42_method_139_code 22 = .ok (.invokespecial 209, 3) := by decide +kernel
theorem pd__ABB_V : parseMethodDescriptor "([BB)V" = some ⟨[(.array .byte), .byte], none⟩ := by decide +kernel
theorem d_jdk_42_method_139_code_25 : decode jdk_42_method_139_code 25 = .ok (.areturn, 1) := by decide +kernel
def own_vo_Q (Z : State) (u0 : Int32) (w0 : Int32) (h0 : Heap) (n0 : Nat) (v : Option Value) (h : Heap) (L : List Loc) : Prop := ∃ (b : Addr), (v = some (.ref b)) ∧ (Fr n0 L) ∧ (Keep h0 h []) ∧ (n0 ≤ b) ∧ (h0.size ≤ b) ∧ (Exa Z h b "java/lang/String")
theorem own_vo_ef (m : MethodId) (u0 : Int32) : entryFrame m #[(.int u0)] 1 = mkF m 0 #[.val (.int u0)] [] := by first | (simp [entryFrame, mkF, argsToLocals, Value.category]; done) | rfl
set_option maxRecDepth 65536 in
set_option maxHeartbeats 40000000 in
theorem own_vo_rm (l : Launch) (Z : State) (a0 : Array Value) (hw : ∀ d ∈ tables_1, d.before a0 Z = true) (ws : List Jvm.Cond) (u0 : Int32) (w0 : Int32) (h0 : Heap) (n0 : Nat) (Z0 : n0 ≤ h0.size) (pr0 : Sta Z h0 "java/lang/String" "COMPACT_STRINGS" "Z" (.int w0)) (hw0 : ¬ (w0 = (0 : Int32))) (hu0 : ¬ ((own_ce_fn u0) = (0 : Int32))) :
    MetFree l (⟨"java/lang/String", "valueOf", "(C)Ljava/lang/String;"⟩ : MethodName) (head1 (Jvm.Cond.code (⟨"java/lang/String", "valueOf", "(C)Ljava/lang/String;"⟩ : MethodName) jdk_42_method_139_code 1 (some (.object "java/lang/String")) :: ws) ({ frames := 2, cells := 2, slots := 5, locals := 27 } : Room)) (fun a U => a = #[(.int u0)] ∧ Z.Warmed39 U.vm ∧ U.heap = h0) (fun _ _ _ _ _ => True) (fun _ U o U' => ∃ v L, o = .returned v ∧ own_vo_Q Z u0 w0 h0 n0 v U'.heap L ∧ FrameEnd U o U' L ({ frames := 2, cells := 2, slots := 5, locals := 27 } : Room).cells ({ frames := 2, cells := 2, slots := 5, locals := 27 } : Room).slots) := by
  refine MetFree.of_bodySF (plainFor_of_name pn_String) hisR ?_
  intro p e s m args below meth c s₁ Bd hml0 hP hK
  obtain ⟨rfl, hZ, hh⟩ := hP
  have hx := Bd.exec
  have hby := Bd.bytes
  have hml : c.maxLocals = 1 := hml0
  have hown : s.vm.findClass "java/lang/String" = some m.cls := findClass_of_methodNamed Bd.named
  have hnm := (name_of_methodNamed Bd.named Bd.method).1
  have hlk : meth.locks = false := BodyLoose.notSynchronized Bd
  have hrt := Bd.returns
  have X0 : Stand p l e ({ frames := 2, cells := 2, slots := 5, locals := 27 } : Room) s m #[(.int u0)] below meth c s₁ [] 0 0 := Stand.of_body Bd
  have e0 : s₁.heap = h0 := by rw [← hh, Bd.state]; rfl
  have N0 := Fr.nil n0
  refine Goes.enter (kc := ({ frames := 2, cells := 2, slots := 5, locals := 27 } : Room).cells) (kn := ({ frames := 2, cells := 2, slots := 5, locals := 27 } : Room).slots) (Q := own_vo_Q Z u0 w0 h0 n0) (own_vo_ef m u0) ?_
  obtain ⟨T101, X101, e101, st101⟩ := getS2 X0 hx hZ hown (host := "") (Or.inl (hw _ (List.mem_of_getElem? (i := 19) rfl))) Via.refl e0 pr0 (g := (mkF m 0 #[.val (.int u0)] [])) rfl (hb hby d_jdk_42_method_139_code_0)
  refine Goes.step (B := (T101.setTop (mkF m 3 #[.val (.int u0)] [(.int w0)]))) (fun _ k => st101 _ k) ?_
  have hc102 : ¬ (w0 = (0 : Int32)) := hw0
  refine Goes.step (B := (T101.setTop (mkF m 6 #[.val (.int u0)] []))) (fun _ k => XS.ifNo X101.here hx rfl (hb hby d_jdk_42_method_139_code_3) rfl ((if0 _ _).trans (feq hc102).1) k) ?_
  refine Goes.step (B := (T101.setTop (mkF m 7 #[.val (.int u0)] [(.int u0)]))) (fun _ k => XS.iloadN X101.here hx rfl (hb hby d_jdk_42_method_139_code_6) rfl k) ?_
  obtain ⟨_, _, ⟨T103, L103, k103, n103⟩, -, X103, ⟨Lc103, hQ103, l103, y103, z103⟩, st103⟩ := Jvm.LawKit.callS X101 hx (y := (⟨"java/lang/StringLatin1", "canEncode", "(C)Z"⟩ : MethodName)) hown (mvT hZ (hw _ (List.mem_of_getElem? (i := 45) rfl))) (mvT hZ (hw _ (List.mem_of_getElem? (i := 46) rfl))) (mvT hZ (hw _ (List.mem_of_getElem? (i := 47) rfl))) (mvT hZ (hw _ (List.mem_of_getElem? (i := 48) rfl))) (by decide) (backOf (W := 0) (own_ce_rm l Z a0 hw [] u0  h0 n0 Z0 ) hZ (hw _ (List.mem_of_getElem? (i := 48) rfl)) (hw _ (List.mem_of_getElem? (i := 47) rfl)) (by decide) (by decide)) (g := (mkF m 7 #[.val (.int u0)] [(.int u0)])) rfl (by rw [hml]; rfl) (argsL := [(.int u0)]) (rest := []) (lenOf pd__C_Z rfl) rfl (by show 2 * 0 + _ ≤ _; exact Nat.le_of_eq rfl) (hb hby d_jdk_42_method_139_code_7) (fun _ _ => ⟨rfl, e101, (by decide : 0 + 0 ≤ _), (by decide : 0 + 0 ≤ _)⟩)
  dsimp only [Pt.U, Pt.locs, Pt.cells, Pt.slots] at X103 l103 y103 z103 st103 hQ103
  subst l103 y103 z103
  obtain ⟨rfl, N103q, e103⟩ := hQ103
  have N103 := Fr.app N0 N103q
  refine Goes.step (B := (T103.setTop (mkF m 10 #[.val (.int u0)] [(.int (own_ce_fn u0))]))) (fun _ k => st103 _ k) ?_
  have hc104 : ¬ ((own_ce_fn u0) = (0 : Int32)) := hu0
  refine Goes.step (B := (T103.setTop (mkF m 13 #[.val (.int u0)] []))) (fun _ k => XS.ifNo X103.here hx rfl (hb hby d_jdk_42_method_139_code_10) rfl ((if0 _ _).trans (feq hc104).1) k) ?_
  obtain ⟨T105, h105, X105, e105, E105, A105, D105, -, st105⟩ := newO X103 hx hZ hown (hw _ (List.mem_of_getElem? (i := 49) rfl)) (hw _ (List.mem_of_getElem? (i := 6) rfl)) (hw _ (List.mem_of_getElem? (i := 7) rfl)) e103 (g := (mkF m 13 #[.val (.int u0)] [])) rfl (hb hby d_jdk_42_method_139_code_13) (by decide) (by decide)
  obtain ⟨b105, g105⟩ : ∃ z, z = h0.size := ⟨_, rfl⟩
  rw [← g105] at A105 D105 st105
  have gn105 : n0 ≤ b105 := Nat.le_trans Z0 (Nat.le_of_eq g105.symm)
  have sz105 : h0.size ≤ b105 := Nat.le_trans (Keep.refl h0 []).1 (Nat.le_of_eq g105.symm)
  have f106 := pr0.ext E105
  have f107 : Fld Z h105 b105 "java/lang/String" "coder" "B" (.int (0 : Int32)) := D105 (Or.inr (hw _ (List.mem_of_getElem? (i := 32) rfl))) (ty := .byte) (by decide)
  have f108 : Fld Z h105 b105 "java/lang/String" "value" "[B" .null := D105 (Or.inr (hw _ (List.mem_of_getElem? (i := 34) rfl))) (ty := (.array .byte)) (by decide)
  have Z105 : n0 ≤ h105.size := Nat.le_trans Z0 E105.1
  have K105 : Keep h0 h105 [] := (Keep.refl h0 []).ext E105
  refine Goes.step (B := (T105.setTop (mkF m 16 #[.val (.int u0)] [(.ref b105)]))) (fun _ k => st105 _ k) ?_
  refine Goes.step (B := (T105.setTop (mkF m 17 #[.val (.int u0)] [(.ref b105), (.ref b105)]))) (fun _ k => XS.dup X105.here hx rfl (hb hby d_jdk_42_method_139_code_16) rfl rfl k) ?_
  refine Goes.step (B := (T105.setTop (mkF m 18 #[.val (.int u0)] [(.int u0), (.ref b105), (.ref b105)]))) (fun _ k => XS.iloadN X105.here hx rfl (hb hby d_jdk_42_method_139_code_17) rfl k) ?_
  obtain ⟨_, _, ⟨T109, L109, k109, n109⟩, -, X109, ⟨Lc109, hQ109, l109, y109, z109⟩, st109⟩ := Jvm.LawKit.callS X105 hx (y := (⟨"java/lang/StringLatin1", "toBytes", "(C)[B"⟩ : MethodName)) hown (mvT hZ (hw _ (List.mem_of_getElem? (i := 50) rfl))) (mvT hZ (hw _ (List.mem_of_getElem? (i := 51) rfl))) (mvT hZ (hw _ (List.mem_of_getElem? (i := 47) rfl))) (mvT hZ (hw _ (List.mem_of_getElem? (i := 52) rfl))) (by decide) (backOf (W := 2) (own_tb_rm l Z a0 hw [] u0  h105 n0 Z105 ) hZ (hw _ (List.mem_of_getElem? (i := 52) rfl)) (hw _ (List.mem_of_getElem? (i := 47) rfl)) (by decide) (by decide)) (g := (mkF m 18 #[.val (.int u0)] [(.int u0), (.ref b105), (.ref b105)])) rfl (by rw [hml]; rfl) (argsL := [(.int u0)]) (rest := [(.ref b105), (.ref b105)]) (lenOf pd__C_AB rfl) rfl (by show 2 * 0 + _ ≤ _; exact Nat.le_of_eq rfl) (hb hby d_jdk_42_method_139_code_18) (fun _ _ => ⟨rfl, e105, (by decide : 1 + 1 ≤ _), (by decide : 4 + 1 ≤ _)⟩)
  dsimp only [Pt.U, Pt.locs, Pt.cells, Pt.slots] at X109 l109 y109 z109 st109 hQ109
  subst l109 y109 z109
  obtain ⟨b_109, rfl, N109q, K109q, gn109_b, sz109_b⟩ := hQ109
  have N109 := Fr.app N103 N109q
  have ne110 : b105 ≠ b_109 := Nat.ne_of_lt (Nat.lt_of_lt_of_le A105.lt sz109_b)
  have f111 := f106.keepN K109q (fun _ q => nomatch q)
  have f112 := A105.keep K109q
  have f113 := f107.keep K109q nm0
  have f114 := f108.keep K109q nm0
  have K109 : Keep h0 T109.heap [] := Keep.trans K105 K109q (fun _ q => nomatch q)
  have Z109 : n0 ≤ T109.heap.size := Nat.le_trans Z105 K109q.1
  have szz109_b : h0.size ≤ b_109 := Nat.le_trans K105.1 sz109_b
  refine Goes.step (B := (T109.setTop (mkF m 21 #[.val (.int u0)] [(.ref b_109), (.ref b105), (.ref b105)]))) (fun _ k => st109 _ k) ?_
  refine Goes.step (B := (T109.setTop (mkF m 22 #[.val (.int u0)] [(.int (0 : Int32)), (.ref b_109), (.ref b105), (.ref b105)]))) (fun _ k => XS.iconst X109.here hx rfl (hb hby d_jdk_42_method_139_code_21) k) ?_
  obtain ⟨_, _, ⟨T115, L115, k115, n115⟩, -, X115, ⟨Lc115, hQ115, l115, y115, z115⟩, st115⟩ := X109.specialBack hx (y := (⟨"java/lang/String", "<init>", "([BB)V"⟩ : MethodName)) rfl hown (mvT hZ (hw _ (List.mem_of_getElem? (i := 53) rfl))) (mvT hZ (hw _ (List.mem_of_getElem? (i := 54) rfl))) (mvT hZ (hw _ (List.mem_of_getElem? (i := 55) rfl))) (by decide) (backOf (W := 1) (own_si_rm l Z a0 hw [] b105 b_109  T109.heap n0 Z109 f112 f114 f113 gn105) hZ (hw _ (List.mem_of_getElem? (i := 55) rfl)) (hw _ (List.mem_of_getElem? (i := 7) rfl)) (by decide) (by decide)) (g := (mkF m 22 #[.val (.int u0)] [(.int (0 : Int32)), (.ref b_109), (.ref b105), (.ref b105)])) rfl (by rw [hml]; rfl) (Steps.refl _) (a := b105) (argsL := [(.ref b_109), (.int (0 : Int32))]) (rest := [(.ref b105)]) (lenOf pd__ABB_V rfl) rfl (by show 2 * 0 + _ ≤ _; exact Nat.le_of_eq rfl) (hb hby d_jdk_42_method_139_code_22) (fun _ _ => ⟨rfl, rfl, (by decide : 2 + 0 ≤ _), (by decide : 5 + 0 ≤ _)⟩)
  dsimp only [Pt.U, Pt.locs, Pt.cells, Pt.slots] at X115 l115 y115 z115 st115 hQ115
  subst l115 y115 z115
  obtain ⟨rfl, N115q, K115q, p115_0⟩ := hQ115
  have N115 := Fr.app N109 N115q
  have f116 := f111.keepN K115q (fun y q => by cases List.mem_singleton.mp q; exact f112.plainN)
  have f117 := f112.keep K115q
  have K115 : Keep h0 T115.heap [] := Keep.trans K109 K115q (fun y q => by cases List.mem_singleton.mp q; exact (Or.inr sz105))
  have Z115 : n0 ≤ T115.heap.size := Nat.le_trans Z109 K115q.1
  refine Goes.to (B := (T115.setTop (mkF m 25 #[.val (.int u0)] [(.ref b105)]))) st115 ?_
  refine Goes.retR X115 hx hlk hrt rfl rfl rfl (hb hby d_jdk_42_method_139_code_25) ?_ (by decide) (by decide)
  exact ⟨b105, rfl, N115, K115, gn105, sz105, p115_0⟩
theorem own_m255 (x : Int32) : 0 ≤ (x &&& (255 : Int32)).toInt ∧ (x &&& (255 : Int32)).toInt ≤ 255 := by
  have h := c_mask x 255 8 (by decide) (by decide)
  omega
theorem own_i2c (x : Int32) : (x &&& (255 : Int32)).toUInt32.toUInt16.toUInt32.toInt32.toInt = (x &&& (255 : Int32)).toInt := by
  have h1 := own_m255 x
  have h2 := c_i2c (x &&& 255)
  omega
theorem own_ch (x0 : Int32) : ¬ ((own_ce_fn (x0 &&& (255 : Int32)).toUInt32.toUInt16.toUInt32.toInt32) = (0 : Int32)) := by
  have h1 := own_m255 x0
  have h2 := own_i2c x0
  have k : (255 : Int32).toInt = 255 := by decide
  have h3 : ¬ (255 : Int32) < (x0 &&& (255 : Int32)).toUInt32.toUInt16.toUInt32.toInt32 := by
    rw [Int32.lt_iff_toInt_lt]; omega
  rw [own_ce_fn, if_neg h3]; decide
theorem own_cc (x0 : Int32) : ¬ (255 : Int32) < nar .char (x0 &&& (255 : Int32)).toUInt32.toUInt16.toUInt32.toInt32 := by
  have h1 := own_m255 x0
  have h2 := own_i2c x0
  have h3 := c_i2c (x0 &&& (255 : Int32)).toUInt32.toUInt16.toUInt32.toInt32
  have k : (255 : Int32).toInt = 255 := by decide
  show ¬ (255 : Int32) < (x0 &&& (255 : Int32)).toUInt32.toUInt16.toUInt32.toInt32.toUInt32.toUInt16.toUInt32.toInt32
  rw [Int32.lt_iff_toInt_lt]; omega
theorem d_jdk_42_method_149_code_0 : decode jdk_42_method_149_code 0 = .ok (.aload_n 0, 1) := by decide +kernel
theorem d_jdk_42_method_149_code_1 : decode jdk_42_method_149_code 1 = .ok (.invokespecial 1, 3) := by decide +kernel
theorem d_jdk_42_method_149_code_4 : decode jdk_42_method_149_code 4 = .ok (.iload_n 3, 1) := by decide +kernel
theorem d_jdk_42_method_149_code_5 : decode jdk_42_method_149_code 5 = .ok (.ifCond .ne 22, 3) := by decide +kernel
theorem d_jdk_42_method_149_code_8 : decode jdk_42_method_149_code 8 = .ok (.aload_n 0, 1) := by decide +kernel
theorem d_jdk_42_method_149_code_9 : decode jdk_42_method_149_code 9 = .ok (.ldc 7, 2) := by decide +kernel
theorem d_jdk_42_method_149_code_11 : decode jdk_42_method_149_code 11 = .ok (.getfield 9, 3) := by decide +kernel
theorem d_jdk_42_method_149_code_14 : decode jdk_42_method_149_code 14 = .ok (.putfield 9, 3) := by decide +kernel
theorem d_jdk_42_method_149_code_17 : decode jdk_42_method_149_code 17 = .ok (.aload_n 0, 1) := by decide +kernel
theorem d_jdk_42_method_149_code_18 : decode jdk_42_method_149_code 18 = .ok (.ldc 7, 2) := by decide +kernel
theorem d_jdk_42_method_149_code_20 : decode jdk_42_method_149_code 20 = .ok (.getfield 15, 3) := by decide +kernel
theorem d_jdk_42_method_149_code_23 : decode jdk_42_method_149_code 23 = .ok (.putfield 15, 3) := by decide +kernel
theorem d_jdk_42_method_149_code_26 : decode jdk_42_method_149_code 26 = .ok (.return_, 1) := by decide +kernel
def own_s40_Q (Z : State) (o0 : Addr) (c0 : Addr) (k1 : ClassId) (h0 : Heap) (n0 : Nat) (v : Option Value) (h : Heap) (L : List Loc) : Prop := (v = none) ∧ (Fr n0 L) ∧ (Keep h0 h [o0]) ∧ (Exa Z h o0 "java/lang/String")
theorem own_s40_ef (m : MethodId) (o0 : Addr) (c0 : Addr) : entryFrame m #[(.ref o0), (.ref c0), (.int (0 : Int32)), (.int (0 : Int32)), .null] 6 = mkF m 0 #[.val (.ref o0), .val (.ref c0), .val (.int (0 : Int32)), .val (.int (0 : Int32)), .val .null, .unset] [] := by first | (simp [entryFrame, mkF, argsToLocals, Value.category]; done) | rfl
set_option maxRecDepth 65536 in
set_option maxHeartbeats 40000000 in
theorem own_s40_rm (l : Launch) (Z : State) (a0 : Array Value) (hw : ∀ d ∈ tables_1, d.before a0 Z = true) (ws : List Jvm.Cond) (o0 : Addr) (c0 : Addr) (k1 : ClassId) (h0 : Heap) (n0 : Nat) (Z0 : n0 ≤ h0.size) (pr0 : Exa Z h0 o0 "java/lang/String") (pr1 : Fld Z h0 o0 "java/lang/String" "value" "[B" .null) (pr2 : Fld Z h0 o0 "java/lang/String" "coder" "B" (.int (0 : Int32))) (pr3 : Arv Z h0 c0 k1 .char (0 : Int32) [] (.int (0 : Int32))) (pr4 : n0 ≤ o0) (pr5 : c0 ≠ o0) (hkp : ∀ (b : Addr) (cl : Cell), Z.heap[b]? = some cl → h0[b]? = some cl) (hcon : Jvm.Lit.constHeld Z "java/lang/String" 7) (hcw : Jvm.Lit.compactW.before a0 Z = true) :
    MetFree l (⟨"java/lang/String", "<init>", "([CIILjava/lang/Void;)V"⟩ : MethodName) (head1 (Jvm.Cond.code (⟨"java/lang/String", "<init>", "([CIILjava/lang/Void;)V"⟩ : MethodName) jdk_42_method_149_code 6 none :: ws) ({ frames := 1, cells := 2, slots := 4, locals := 12 } : Room)) (fun a U => a = #[(.ref o0), (.ref c0), (.int (0 : Int32)), (.int (0 : Int32)), .null] ∧ Z.Warmed39 U.vm ∧ U.heap = h0 ∧ U.vm.interned = Z.vm.interned) (fun _ _ _ _ _ => True) (fun _ U o U' => ∃ v L, o = .returned v ∧ own_s40_Q Z o0 c0 k1 h0 n0 v U'.heap L ∧ ReturnedEndW U o U' L ({ frames := 1, cells := 2, slots := 4, locals := 12 } : Room).cells ({ frames := 1, cells := 2, slots := 4, locals := 12 } : Room).slots) := by
  refine MetFree.of_bodySF (plainFor_of_name pn_String) hisR ?_
  intro p e s m args below meth c s₁ Bd hml0 hP hK
  obtain ⟨rfl, hZ, hh, hI⟩ := hP
  have hx := Bd.exec
  have hby := Bd.bytes
  have hml : c.maxLocals = 6 := hml0
  have hown : s.vm.findClass "java/lang/String" = some m.cls := findClass_of_methodNamed Bd.named
  have hnm := (name_of_methodNamed Bd.named Bd.method).1
  have hlk : meth.locks = false := BodyLoose.notSynchronized Bd
  have hrt := Bd.returns
  have X0 : Stand p l e ({ frames := 1, cells := 2, slots := 4, locals := 12 } : Room) (s.setVm s.vm) m #[(.ref o0), (.ref c0), (.int (0 : Int32)), (.int (0 : Int32)), .null] below meth c s₁ [] 0 0 := Stand.of_body Bd
  have e0 : s₁.heap = h0 := by rw [← hh, Bd.state]; rfl
  have N0 := Fr.nil n0
  have hS0 := since0 s
  have hk0 : s.heap.size ≤ h0.size := by rw [hh]; exact Nat.le_refl _
  refine GoesW.enter (kc := ({ frames := 1, cells := 2, slots := 4, locals := 12 } : Room).cells) (kn := ({ frames := 1, cells := 2, slots := 4, locals := 12 } : Room).slots) (Q := own_s40_Q Z o0 c0 k1 h0 n0) (own_s40_ef m o0 c0) ?_
  refine GoesW.step (B := (s₁.setTop (mkF m 1 #[.val (.ref o0), .val (.ref c0), .val (.int (0 : Int32)), .val (.int (0 : Int32)), .val .null, .unset] [(.ref o0)]))) (fun _ k => XS.aloadN X0.here hx rfl (hb hby d_jdk_42_method_149_code_0) rfl rfl k) ?_
  obtain ⟨T101, X101, e101, st101⟩ := initO X0 hx hZ hown (hw _ (List.mem_of_getElem? (i := 16) rfl)) (hw _ (List.mem_of_getElem? (i := 17) rfl)) (hw _ (List.mem_of_getElem? (i := 18) rfl)) e0 (g := (mkF m 1 #[.val (.ref o0), .val (.ref c0), .val (.int (0 : Int32)), .val (.int (0 : Int32)), .val .null, .unset] [(.ref o0)])) rfl (by rw [hml]; rfl) rfl (hb hby d_jdk_42_method_149_code_1) (by decide) (W := 0) (by show 2 * 0 + _ ≤ _; exact Nat.le_of_eq rfl) (by decide)
  refine GoesW.step (B := (T101.setTop (mkF m 4 #[.val (.ref o0), .val (.ref c0), .val (.int (0 : Int32)), .val (.int (0 : Int32)), .val .null, .unset] []))) (fun _ k => st101 _ k) ?_
  refine GoesW.step (B := (T101.setTop (mkF m 5 #[.val (.ref o0), .val (.ref c0), .val (.int (0 : Int32)), .val (.int (0 : Int32)), .val .null, .unset] [(.int (0 : Int32))]))) (fun _ k => XS.iloadN X101.here hx rfl (hb hby d_jdk_42_method_149_code_4) rfl k) ?_
  have hc102 : (0 : Int32) = (0 : Int32) := by decide
  refine GoesW.step (B := (T101.setTop (mkF m 8 #[.val (.ref o0), .val (.ref c0), .val (.int (0 : Int32)), .val (.int (0 : Int32)), .val .null, .unset] []))) (fun _ k => XS.ifNo X101.here hx rfl (hb hby d_jdk_42_method_149_code_5) rfl ((if0 _ _).trans (teq hc102).2) k) ?_
  refine GoesW.step (B := (T101.setTop (mkF m 9 #[.val (.ref o0), .val (.ref c0), .val (.int (0 : Int32)), .val (.int (0 : Int32)), .val .null, .unset] [(.ref o0)]))) (fun _ k => XS.aloadN X101.here hx rfl (hb hby d_jdk_42_method_149_code_8) rfl rfl k) ?_
  have wS : ∀ a ∈ Bundle.stringAtoms, a.before a0 Z = true := by
    intro a ha; simp only [Bundle.stringAtoms, Bundle.sN, List.mem_cons, List.not_mem_nil, or_false] at ha
    rcases ha with rfl | rfl | rfl | rfl | rfl | rfl | rfl
    · exact (hw _ (List.mem_of_getElem? (i := 7) rfl))
    · exact (hw _ (List.mem_of_getElem? (i := 6) rfl))
    · exact (hw _ (List.mem_of_getElem? (i := 24) rfl))
    · exact (hw _ (List.mem_of_getElem? (i := 34) rfl))
    · exact (hw _ (List.mem_of_getElem? (i := 32) rfl))
    · exact (hw _ (List.mem_of_getElem? (i := 40) rfl))
    · exact (hw _ (List.mem_of_getElem? (i := 41) rfl))
  obtain ⟨a103, T103, h103, k103, b103, kb103, X103, e103, E103, hS103, hk103, hZ103, hown103, Ea103, Fc103, Fv103, Vb103, la103, lb103, IB103, Lit103, st103⟩ := ldcSVL X101 hx hZ hown (hw _ (List.mem_of_getElem? (i := 39) rfl)) wS e101 hS0 hk0 (Fr.nil _) (fun b cl q => by rw [show (s.heap = h0) from hh]; exact hkp b cl q) (⟨#[], by rw [hI]; simp, fun q hq => by simp at hq⟩ : IB Z s.vm []) (by decide) hcon hcw (vs := []) (z := (0 : Int32)) ⟨by decide, by decide⟩ (by decide) (by decide) (g := (mkF m 9 #[.val (.ref o0), .val (.ref c0), .val (.int (0 : Int32)), .val (.int (0 : Int32)), .val .null, .unset] [(.ref o0)])) rfl (hb hby d_jdk_42_method_149_code_9) (n := 0) (by decide) (by decide) (by decide) (by decide)
  have f104 := pr0.ext E103
  have f105 := pr1.ext E103
  have f106 := pr2.ext E103
  have f107 := pr3.ext E103
  have Z103 : n0 ≤ h103.size := Nat.le_trans Z0 E103.1
  have K103 : Keep h0 h103 [o0] := (Keep.refl h0 [o0]).ext E103
  have ne108 : a103 ≠ o0 := fun q => by subst q; exact absurd (own_fldeq Fv103 f105) (by simp)
  refine GoesW.step (B := (T103.setTop (mkF m 11 #[.val (.ref o0), .val (.ref c0), .val (.int (0 : Int32)), .val (.int (0 : Int32)), .val .null, .unset] [(.ref a103), (.ref o0)]))) (fun _ k => st103 _ k) ?_
  obtain ⟨T109, X109, e109, st109⟩ := getF X103 hx hZ103 hown103 (host := "") (Or.inl (hw _ (List.mem_of_getElem? (i := 33) rfl))) Via.refl e103 Fv103 (g := (mkF m 11 #[.val (.ref o0), .val (.ref c0), .val (.int (0 : Int32)), .val (.int (0 : Int32)), .val .null, .unset] [(.ref a103), (.ref o0)])) rfl rfl (hb hby d_jdk_42_method_149_code_11)
  refine GoesW.step (B := (T109.setTop (mkF m 14 #[.val (.ref o0), .val (.ref c0), .val (.int (0 : Int32)), .val (.int (0 : Int32)), .val .null, .unset] [(.ref b103), (.ref o0)]))) (fun _ k => st109 _ k) ?_
  obtain ⟨T110, h110, X110, e110, W110, st110⟩ := putF X109 hx hZ103 hown103 (host := "") (Or.inl (hw _ (List.mem_of_getElem? (i := 33) rfl))) Via.refl e109 f105 f104 (Or.inr ⟨(hw _ (List.mem_of_getElem? (i := 34) rfl)), rfl, hnm⟩) (hw _ (List.mem_of_getElem? (i := 6) rfl)) (ty := (.array .byte)) (by decide) rfl rfl (g := (mkF m 14 #[.val (.ref o0), .val (.ref c0), .val (.int (0 : Int32)), .val (.int (0 : Int32)), .val .null, .unset] [(.ref b103), (.ref o0)])) rfl rfl (hb hby d_jdk_42_method_149_code_14)
  have f111 := f104.wr W110
  have f112 := f106.other W110 (Or.inr (slot_ne (Or.inr (hw _ (List.mem_of_getElem? (i := 32) rfl))) (Or.inr (hw _ (List.mem_of_getElem? (i := 34) rfl))) (by decide) (t := .byte) (t' := (.array .byte)) (by decide) (by decide)))
  have f113 := f107.other W110 pr5
  have f114 := Ea103.wr W110
  have f115 := Fc103.other W110 (Or.inl ne108)
  have f116 := Fv103.other W110 (Or.inl ne108)
  have N110 := Fr.snoc X110 N0 pr4
  have K110 : Keep h0 h110 [o0] := K103.wr W110 (Or.inl (List.mem_of_getElem? (i := 0) rfl))
  have Z110 : n0 ≤ h110.size := Nat.le_trans Z103 (Nat.le_of_eq W110.size.symm)
  have hk110 := Nat.le_trans hk103 (Nat.le_of_eq W110.size.symm)
  have f117 : Fld Z h110 o0 "java/lang/String" "value" "[B" (.ref b103) := f105.same W110
  refine GoesW.step (B := (T110.setTop (mkF m 17 #[.val (.ref o0), .val (.ref c0), .val (.int (0 : Int32)), .val (.int (0 : Int32)), .val .null, .unset] []))) (fun _ k => st110 _ k) ?_
  refine GoesW.step (B := (T110.setTop (mkF m 18 #[.val (.ref o0), .val (.ref c0), .val (.int (0 : Int32)), .val (.int (0 : Int32)), .val .null, .unset] [(.ref o0)]))) (fun _ k => XS.aloadN X110.here hx rfl (hb hby d_jdk_42_method_149_code_17) rfl rfl k) ?_
  refine GoesW.step (B := (T110.setTop (mkF m 20 #[.val (.ref o0), .val (.ref c0), .val (.int (0 : Int32)), .val (.int (0 : Int32)), .val .null, .unset] [(.ref a103), (.ref o0)]))) (fun _ k => ldcAgain X110 hx hZ103 hown103 (hw _ (List.mem_of_getElem? (i := 39) rfl)) Lit103 (g := (mkF m 18 #[.val (.ref o0), .val (.ref c0), .val (.int (0 : Int32)), .val (.int (0 : Int32)), .val .null, .unset] [(.ref o0)])) rfl (hb hby d_jdk_42_method_149_code_18) _ k) ?_
  obtain ⟨T119, X119, e119, st119⟩ := getF X110 hx hZ103 hown103 (host := "") (Or.inl (hw _ (List.mem_of_getElem? (i := 31) rfl))) Via.refl e110 f115 (g := (mkF m 20 #[.val (.ref o0), .val (.ref c0), .val (.int (0 : Int32)), .val (.int (0 : Int32)), .val .null, .unset] [(.ref a103), (.ref o0)])) rfl rfl (hb hby d_jdk_42_method_149_code_20)
  refine GoesW.step (B := (T119.setTop (mkF m 23 #[.val (.ref o0), .val (.ref c0), .val (.int (0 : Int32)), .val (.int (0 : Int32)), .val .null, .unset] [(.int (0 : Int32)), (.ref o0)]))) (fun _ k => st119 _ k) ?_
  obtain ⟨T120, h120, X120, e120, W120, st120⟩ := putFN X119 hx hZ103 hown103 (hw _ (List.mem_of_getElem? (i := 31) rfl)) Via.refl e119 f112 f111 (Or.inr ⟨(hw _ (List.mem_of_getElem? (i := 32) rfl)), rfl, hnm⟩) (hw _ (List.mem_of_getElem? (i := 6) rfl)) (ty := .byte) (v' := (.int (nar .byte (0 : Int32)))) (by decide) rfl (fits_nar_byte _) (g := (mkF m 23 #[.val (.ref o0), .val (.ref c0), .val (.int (0 : Int32)), .val (.int (0 : Int32)), .val .null, .unset] [(.int (0 : Int32)), (.ref o0)])) rfl rfl (hb hby d_jdk_42_method_149_code_23)
  have f121 := f111.wr W120
  have f122 := f117.other W120 (Or.inr (slot_ne (Or.inr (hw _ (List.mem_of_getElem? (i := 34) rfl))) (Or.inr (hw _ (List.mem_of_getElem? (i := 32) rfl))) (by decide) (t := (.array .byte)) (t' := .byte) (by decide) (by decide)))
  have f123 := f113.other W120 pr5
  have f124 := f114.wr W120
  have f125 := f115.other W120 (Or.inl ne108)
  have f126 := f116.other W120 (Or.inl ne108)
  have N120 := Fr.snoc X120 N110 pr4
  have K120 : Keep h0 h120 [o0] := K110.wr W120 (Or.inl (List.mem_of_getElem? (i := 0) rfl))
  have Z120 : n0 ≤ h120.size := Nat.le_trans Z110 (Nat.le_of_eq W120.size.symm)
  have hk120 := Nat.le_trans hk110 (Nat.le_of_eq W120.size.symm)
  have f127 : Fld Z h120 o0 "java/lang/String" "coder" "B" (.int (0 : Int32)) := f112.same W120
  refine GoesW.step (B := (T120.setTop (mkF m 26 #[.val (.ref o0), .val (.ref c0), .val (.int (0 : Int32)), .val (.int (0 : Int32)), .val .null, .unset] []))) (fun _ k => st120 _ k) ?_
  refine GoesW.retV X120 hS103 (by rw [e120]; exact hk120) hx hlk hrt (hb hby d_jdk_42_method_149_code_26) ?_ (by decide) (by decide)
  rw [e120]
  exact ⟨rfl, N120, K120, f121⟩
theorem d_jdk_42_method_3_code_0 : decode jdk_42_method_3_code 0 = .ok (.aload_n 0, 1) := by decide +kernel
theorem d_jdk_42_method_3_code_1 : decode jdk_42_method_3_code 1 = .ok (.aload_n 1, 1) := by decide +kernel
theorem d_jdk_42_method_3_code_2 : decode jdk_42_method_3_code 2 = .ok (.iconst 0, 1) := by decide +kernel
theorem d_jdk_42_method_3_code_3 : decode jdk_42_method_3_code 3 = .ok (.aload_n 1, 1) := by decide +kernel
theorem d_jdk_42_method_3_code_4 : decode jdk_42_method_3_code 4 = .ok (.arraylength, 1) := by decide +kernel
theorem d_jdk_42_method_3_code_5 : decode jdk_42_method_3_code 5 = .ok (.aconst_null, 1) := by decide +kernel
theorem d_jdk_42_method_3_code_6 : decode jdk_42_method_3_code 6 = .ok (.invokespecial 27, 3) := by decide +kernel
theorem pd__ACIILjava_lang_Void__V : parseMethodDescriptor "([CIILjava/lang/Void;)V" = some ⟨[(.array .char), .int, .int, (.object "java/lang/Void")], none⟩ := by decide +kernel
theorem d_jdk_42_method_3_code_9 : decode jdk_42_method_3_code 9 = .ok (.return_, 1) := by decide +kernel
def own_s10_Q (Z : State) (o0 : Addr) (c0 : Addr) (k1 : ClassId) (h0 : Heap) (n0 : Nat) (v : Option Value) (h : Heap) (L : List Loc) : Prop := (v = none) ∧ (Fr n0 L) ∧ (Keep h0 h [o0]) ∧ (Exa Z h o0 "java/lang/String")
theorem own_s10_ef (m : MethodId) (o0 : Addr) (c0 : Addr) : entryFrame m #[(.ref o0), (.ref c0)] 2 = mkF m 0 #[.val (.ref o0), .val (.ref c0)] [] := by first | (simp [entryFrame, mkF, argsToLocals, Value.category]; done) | rfl
set_option maxRecDepth 65536 in
set_option maxHeartbeats 40000000 in
theorem own_s10_rm (l : Launch) (Z : State) (a0 : Array Value) (hw : ∀ d ∈ tables_1, d.before a0 Z = true) (ws : List Jvm.Cond) (o0 : Addr) (c0 : Addr) (k1 : ClassId) (h0 : Heap) (n0 : Nat) (Z0 : n0 ≤ h0.size) (pr0 : Exa Z h0 o0 "java/lang/String") (pr1 : Fld Z h0 o0 "java/lang/String" "value" "[B" .null) (pr2 : Fld Z h0 o0 "java/lang/String" "coder" "B" (.int (0 : Int32))) (pr3 : Arv Z h0 c0 k1 .char (0 : Int32) [] (.int (0 : Int32))) (pr4 : n0 ≤ o0) (pr5 : c0 ≠ o0) (hkp : ∀ (b : Addr) (cl : Cell), Z.heap[b]? = some cl → h0[b]? = some cl) (hcon : Jvm.Lit.constHeld Z "java/lang/String" 7) (hcw : Jvm.Lit.compactW.before a0 Z = true) :
    MetFree l (⟨"java/lang/String", "<init>", "([C)V"⟩ : MethodName) (head1 (Jvm.Cond.code (⟨"java/lang/String", "<init>", "([C)V"⟩ : MethodName) jdk_42_method_3_code 2 none :: ws) ({ frames := 2, cells := 2, slots := 4, locals := 29 } : Room)) (fun a U => a = #[(.ref o0), (.ref c0)] ∧ Z.Warmed39 U.vm ∧ U.heap = h0 ∧ U.vm.interned = Z.vm.interned) (fun _ _ _ _ _ => True) (fun _ U o U' => ∃ v L, o = .returned v ∧ own_s10_Q Z o0 c0 k1 h0 n0 v U'.heap L ∧ ReturnedEndW U o U' L ({ frames := 2, cells := 2, slots := 4, locals := 29 } : Room).cells ({ frames := 2, cells := 2, slots := 4, locals := 29 } : Room).slots) := by
  refine MetFree.of_bodySF (plainFor_of_name pn_String) hisR ?_
  intro p e s m args below meth c s₁ Bd hml0 hP hK
  obtain ⟨rfl, hZ, hh, hI⟩ := hP
  have hx := Bd.exec
  have hby := Bd.bytes
  have hml : c.maxLocals = 2 := hml0
  have hown : s.vm.findClass "java/lang/String" = some m.cls := findClass_of_methodNamed Bd.named
  have hnm := (name_of_methodNamed Bd.named Bd.method).1
  have hlk : meth.locks = false := BodyLoose.notSynchronized Bd
  have hrt := Bd.returns
  have X0 : Stand p l e ({ frames := 2, cells := 2, slots := 4, locals := 29 } : Room) (s.setVm s.vm) m #[(.ref o0), (.ref c0)] below meth c s₁ [] 0 0 := Stand.of_body Bd
  have e0 : s₁.heap = h0 := by rw [← hh, Bd.state]; rfl
  have N0 := Fr.nil n0
  have hS0 := since0 s
  have hk0 : s.heap.size ≤ h0.size := by rw [hh]; exact Nat.le_refl _
  refine GoesW.enter (kc := ({ frames := 2, cells := 2, slots := 4, locals := 29 } : Room).cells) (kn := ({ frames := 2, cells := 2, slots := 4, locals := 29 } : Room).slots) (Q := own_s10_Q Z o0 c0 k1 h0 n0) (own_s10_ef m o0 c0) ?_
  refine GoesW.step (B := (s₁.setTop (mkF m 1 #[.val (.ref o0), .val (.ref c0)] [(.ref o0)]))) (fun _ k => XS.aloadN X0.here hx rfl (hb hby d_jdk_42_method_3_code_0) rfl rfl k) ?_
  refine GoesW.step (B := (s₁.setTop (mkF m 2 #[.val (.ref o0), .val (.ref c0)] [(.ref c0), (.ref o0)]))) (fun _ k => XS.aloadN X0.here hx rfl (hb hby d_jdk_42_method_3_code_1) rfl rfl k) ?_
  refine GoesW.step (B := (s₁.setTop (mkF m 3 #[.val (.ref o0), .val (.ref c0)] [(.int (0 : Int32)), (.ref c0), (.ref o0)]))) (fun _ k => XS.iconst X0.here hx rfl (hb hby d_jdk_42_method_3_code_2) k) ?_
  refine GoesW.step (B := (s₁.setTop (mkF m 4 #[.val (.ref o0), .val (.ref c0)] [(.ref c0), (.int (0 : Int32)), (.ref c0), (.ref o0)]))) (fun _ k => XS.aloadN X0.here hx rfl (hb hby d_jdk_42_method_3_code_3) rfl rfl k) ?_
  obtain ⟨cl101, Ar101, q101, S101, M101, H101, G101⟩ := id pr3
  refine GoesW.step (B := (s₁.setTop (mkF m 5 #[.val (.ref o0), .val (.ref c0)] [(.int (0 : Int32)), (.int (0 : Int32)), (.ref c0), (.ref o0)]))) (fun _ k => X0.arraylength hx (by rw [e0]; exact Ar101.1) (State.isArrayOf_alike hZ.alike Ar101.2.1) (g := (mkF m 4 #[.val (.ref o0), .val (.ref c0)] [(.ref c0), (.int (0 : Int32)), (.ref c0), (.ref o0)])) rfl rfl (hb hby d_jdk_42_method_3_code_4) _ (by rw [len_of S101 M101]; exact k)) ?_
  refine GoesW.step (B := (s₁.setTop (mkF m 6 #[.val (.ref o0), .val (.ref c0)] [.null, (.int (0 : Int32)), (.int (0 : Int32)), (.ref c0), (.ref o0)]))) (fun _ k => XS.aconstNull X0.here hx rfl (hb hby d_jdk_42_method_3_code_5) k) ?_
  obtain ⟨_, _, ⟨T102, L102, k102, n102⟩, -, X102, hSq102, hgr102, ⟨Lc102, hQ102, l102, y102, z102⟩, st102⟩ := X0.specialBackS hx (y := (⟨"java/lang/String", "<init>", "([CIILjava/lang/Void;)V"⟩ : MethodName)) rfl hown (mvT hZ (hw _ (List.mem_of_getElem? (i := 12) rfl))) (mvT hZ (hw _ (List.mem_of_getElem? (i := 13) rfl))) (mvT hZ (hw _ (List.mem_of_getElem? (i := 15) rfl))) (by decide) (backOfI (W := 0) (own_s40_rm l Z a0 hw [] o0 c0 k1 h0 n0 Z0 pr0 pr1 pr2 pr3 pr4 pr5 hkp hcon hcw) hZ hI (hw _ (List.mem_of_getElem? (i := 15) rfl)) (hw _ (List.mem_of_getElem? (i := 7) rfl)) (by decide) (by decide)) (g := (mkF m 6 #[.val (.ref o0), .val (.ref c0)] [.null, (.int (0 : Int32)), (.int (0 : Int32)), (.ref c0), (.ref o0)])) rfl (by rw [hml]; rfl) (Steps.refl _) (a := o0) (argsL := [(.ref c0), (.int (0 : Int32)), (.int (0 : Int32)), .null]) (rest := []) (lenOf pd__ACIILjava_lang_Void__V rfl) rfl (by show 2 * 0 + _ ≤ _; exact Nat.le_of_eq rfl) (hb hby d_jdk_42_method_3_code_6) (fun _ _ => ⟨rfl, e0, (by decide : 0 + 2 ≤ _), (by decide : 0 + 4 ≤ _)⟩)
  dsimp only [Pt.U, Pt.locs, Pt.cells, Pt.slots] at X102 l102 y102 z102 st102 hQ102 hSq102 hgr102
  subst l102 y102 z102
  have hk102 := Nat.le_trans (by rw [e0]; exact hk0) hgr102
  have hS102 := hS0.trans hSq102 hk102
  have hZ102 : Z.Warmed39 T102.vm := State.Warmed39.trans hZ hSq102.1
  have hown102 : T102.vm.findClass "java/lang/String" = some m.cls := by rw [hSq102.1.alike.findClass]; exact hown
  obtain ⟨rfl, N102q, K102q, p102_0⟩ := hQ102
  have N102 := Fr.app N0 N102q
  have f103 := pr0.keep K102q
  have f104 := pr3.keep K102q (nm1 pr5)
  have K102 : Keep h0 T102.heap [o0] := Keep.trans (Keep.refl h0 [o0]) K102q (fun y q => by cases List.mem_singleton.mp q; exact (Or.inl (List.mem_of_getElem? (i := 0) rfl)))
  have Z102 : n0 ≤ T102.heap.size := Nat.le_trans Z0 K102q.1
  refine GoesW.to (B := (T102.setTop (mkF m 9 #[.val (.ref o0), .val (.ref c0)] []))) st102 ?_
  refine GoesW.retV X102 hS102 (Nat.le_refl T102.heap.size) hx hlk hrt (hb hby d_jdk_42_method_3_code_9) ?_ (by decide) (by decide)
  exact ⟨rfl, N102, K102, p102_0⟩
theorem d_jdk_52_method_21_code_0 : decode jdk_52_method_21_code 0 = .ok (.iconst 0, 1) := by decide +kernel
theorem d_jdk_52_method_21_code_1 : decode jdk_52_method_21_code 1 = .ok (.istore 5, 2) := by decide +kernel
theorem d_jdk_52_method_21_code_3 : decode jdk_52_method_21_code 3 = .ok (.iload 5, 2) := by decide +kernel
theorem d_jdk_52_method_21_code_5 : decode jdk_52_method_21_code 5 = .ok (.iload 4, 2) := by decide +kernel
theorem d_jdk_52_method_21_code_7 : decode jdk_52_method_21_code 7 = .ok (.if_icmp .ge 37, 3) := by decide +kernel
theorem d_jdk_52_method_21_code_10 : decode jdk_52_method_21_code 10 = .ok (.aload_n 0, 1) := by decide +kernel
theorem d_jdk_52_method_21_code_11 : decode jdk_52_method_21_code 11 = .ok (.iload_n 1, 1) := by decide +kernel
theorem d_jdk_52_method_21_code_12 : decode jdk_52_method_21_code 12 = .ok (.caload, 1) := by decide +kernel
theorem d_jdk_52_method_21_code_13 : decode jdk_52_method_21_code 13 = .ok (.istore 6, 2) := by decide +kernel
theorem d_jdk_52_method_21_code_15 : decode jdk_52_method_21_code 15 = .ok (.iload 6, 2) := by decide +kernel
theorem d_jdk_52_method_21_code_17 : decode jdk_52_method_21_code 17 = .ok (.sipush 255, 3) := by decide +kernel
theorem d_jdk_52_method_21_code_20 : decode jdk_52_method_21_code 20 = .ok (.if_icmp .le 6, 3) := by decide +kernel
theorem d_jdk_52_method_21_code_26 : decode jdk_52_method_21_code 26 = .ok (.aload_n 2, 1) := by decide +kernel
theorem d_jdk_52_method_21_code_27 : decode jdk_52_method_21_code 27 = .ok (.iload_n 3, 1) := by decide +kernel
theorem d_jdk_52_method_21_code_28 : decode jdk_52_method_21_code 28 = .ok (.iload 6, 2) := by decide +kernel
theorem d_jdk_52_method_21_code_30 : decode jdk_52_method_21_code 30 = .ok (.i2b, 1) := by decide +kernel
theorem d_jdk_52_method_21_code_31 : decode jdk_52_method_21_code 31 = .ok (.bastore, 1) := by decide +kernel
theorem d_jdk_52_method_21_code_32 : decode jdk_52_method_21_code 32 = .ok (.iinc 1 1, 3) := by decide +kernel
theorem d_jdk_52_method_21_code_35 : decode jdk_52_method_21_code 35 = .ok (.iinc 3 1, 3) := by decide +kernel
theorem d_jdk_52_method_21_code_38 : decode jdk_52_method_21_code 38 = .ok (.iinc 5 1, 3) := by decide +kernel
theorem d_jdk_52_method_21_code_41 : decode jdk_52_method_21_code 41 = .ok (.goto (-38), 3) := by decide +kernel
theorem d_jdk_52_method_21_code_44 : decode jdk_52_method_21_code 44 = .ok (.iload 4, 2) := by decide +kernel
theorem d_jdk_52_method_21_code_46 : decode jdk_52_method_21_code 46 = .ok (.ireturn, 1) := by decide +kernel
def own_c2_2_Q (Z : State) (c0 : Addr) (d0 : Addr) (k1 : ClassId) (v0 : Int32) (v1 : Int32) (k2 : ClassId) (h0 : Heap) (n0 : Nat) (v : Option Value) (h : Heap) (L : List Loc) : Prop := (v = some (.int (2 : Int32))) ∧ (Fr n0 L) ∧ (Keep h0 h [d0]) ∧ (Arv Z h d0 k2 .byte (2 : Int32) [(.int (nar .byte v0.toInt8.toInt32)), (.int (nar .byte v1.toInt8.toInt32))] (.int (0 : Int32)))
theorem own_c2_2_ef (m : MethodId) (c0 : Addr) (d0 : Addr) : entryFrame m #[(.ref c0), (.int (0 : Int32)), (.ref d0), (.int (0 : Int32)), (.int (2 : Int32))] 7 = mkF m 0 #[.val (.ref c0), .val (.int (0 : Int32)), .val (.ref d0), .val (.int (0 : Int32)), .val (.int (2 : Int32)), .unset, .unset] [] := by first | (simp [entryFrame, mkF, argsToLocals, Value.category]; done) | rfl
theorem pn_StringUTF16 : plainName "java/lang/StringUTF16" = true := by first | (simp [plainName, overriddenIn]; done) | decide +kernel
set_option maxRecDepth 65536 in
set_option maxHeartbeats 40000000 in
theorem own_c2_2_rm (l : Launch) (Z : State) (a0 : Array Value) (hw : ∀ d ∈ tables_1, d.before a0 Z = true) (ws : List Jvm.Cond) (c0 : Addr) (d0 : Addr) (k1 : ClassId) (v0 : Int32) (v1 : Int32) (k2 : ClassId) (h0 : Heap) (n0 : Nat) (Z0 : n0 ≤ h0.size) (pr0 : Arv Z h0 c0 k1 .char (2 : Int32) [(.int v0), (.int v1)] (.int (0 : Int32))) (pr1 : Arv Z h0 d0 k2 .byte (2 : Int32) [(.int (0 : Int32)), (.int (0 : Int32))] (.int (0 : Int32))) (pr2 : n0 ≤ d0) (pr3 : c0 ≠ d0) (hv0 : ¬ (255 : Int32) < v0) (hv1 : ¬ (255 : Int32) < v1) :
    MetFree l (⟨"java/lang/StringUTF16", "compress", "([CI[BII)I"⟩ : MethodName) (head1 (Jvm.Cond.code (⟨"java/lang/StringUTF16", "compress", "([CI[BII)I"⟩ : MethodName) jdk_52_method_21_code 7 (some .int) :: ws) ({ frames := 0, cells := 0, slots := 0, locals := 0 } : Room)) (fun a U => a = #[(.ref c0), (.int (0 : Int32)), (.ref d0), (.int (0 : Int32)), (.int (2 : Int32))] ∧ Z.Warmed39 U.vm ∧ U.heap = h0) (fun _ _ _ _ _ => True) (fun _ U o U' => ∃ v L, o = .returned v ∧ own_c2_2_Q Z c0 d0 k1 v0 v1 k2 h0 n0 v U'.heap L ∧ FrameEnd U o U' L ({ frames := 0, cells := 0, slots := 0, locals := 0 } : Room).cells ({ frames := 0, cells := 0, slots := 0, locals := 0 } : Room).slots) := by
  refine MetFree.of_bodySF (plainFor_of_name pn_StringUTF16) hisR ?_
  intro p e s m args below meth c s₁ Bd hml0 hP hK
  obtain ⟨rfl, hZ, hh⟩ := hP
  have hx := Bd.exec
  have hby := Bd.bytes
  have hml : c.maxLocals = 7 := hml0
  have hown : s.vm.findClass "java/lang/StringUTF16" = some m.cls := findClass_of_methodNamed Bd.named
  have hnm := (name_of_methodNamed Bd.named Bd.method).1
  have hlk : meth.locks = false := BodyLoose.notSynchronized Bd
  have hrt := Bd.returns
  have X0 : Stand p l e ({ frames := 0, cells := 0, slots := 0, locals := 0 } : Room) s m #[(.ref c0), (.int (0 : Int32)), (.ref d0), (.int (0 : Int32)), (.int (2 : Int32))] below meth c s₁ [] 0 0 := Stand.of_body Bd
  have e0 : s₁.heap = h0 := by rw [← hh, Bd.state]; rfl
  have N0 := Fr.nil n0
  refine Goes.enter (kc := ({ frames := 0, cells := 0, slots := 0, locals := 0 } : Room).cells) (kn := ({ frames := 0, cells := 0, slots := 0, locals := 0 } : Room).slots) (Q := own_c2_2_Q Z c0 d0 k1 v0 v1 k2 h0 n0) (own_c2_2_ef m c0 d0) ?_
  refine Goes.step (B := (s₁.setTop (mkF m 1 #[.val (.ref c0), .val (.int (0 : Int32)), .val (.ref d0), .val (.int (0 : Int32)), .val (.int (2 : Int32)), .unset, .unset] [(.int (0 : Int32))]))) (fun _ k => XS.iconst X0.here hx rfl (hb hby d_jdk_52_method_21_code_0) k) ?_
  refine Goes.step (B := (s₁.setTop (mkF m 3 #[.val (.ref c0), .val (.int (0 : Int32)), .val (.ref d0), .val (.int (0 : Int32)), .val (.int (2 : Int32)), .val (.int (0 : Int32)), .unset] []))) (fun _ k => XS.istore X0.here hx rfl (hb hby d_jdk_52_method_21_code_1) rfl (l' := #[.val (.ref c0), .val (.int (0 : Int32)), .val (.ref d0), .val (.int (0 : Int32)), .val (.int (2 : Int32)), .val (.int (0 : Int32)), .unset]) rfl k) ?_
  refine Goes.step (B := (s₁.setTop (mkF m 5 #[.val (.ref c0), .val (.int (0 : Int32)), .val (.ref d0), .val (.int (0 : Int32)), .val (.int (2 : Int32)), .val (.int (0 : Int32)), .unset] [(.int (0 : Int32))]))) (fun _ k => XS.iload X0.here hx rfl (hb hby d_jdk_52_method_21_code_3) rfl k) ?_
  refine Goes.step (B := (s₁.setTop (mkF m 7 #[.val (.ref c0), .val (.int (0 : Int32)), .val (.ref d0), .val (.int (0 : Int32)), .val (.int (2 : Int32)), .val (.int (0 : Int32)), .unset] [(.int (2 : Int32)), (.int (0 : Int32))]))) (fun _ k => XS.iload X0.here hx rfl (hb hby d_jdk_52_method_21_code_5) rfl k) ?_
  have hc101 : (0 : Int32) < (2 : Int32) := by decide
  refine Goes.step (B := (s₁.setTop (mkF m 10 #[.val (.ref c0), .val (.int (0 : Int32)), .val (.ref d0), .val (.int (0 : Int32)), .val (.int (2 : Int32)), .val (.int (0 : Int32)), .unset] []))) (fun _ k => XS.icmpNo X0.here hx rfl (hb hby d_jdk_52_method_21_code_7) rfl (tlt hc101).2.1 k) ?_
  refine Goes.step (B := (s₁.setTop (mkF m 11 #[.val (.ref c0), .val (.int (0 : Int32)), .val (.ref d0), .val (.int (0 : Int32)), .val (.int (2 : Int32)), .val (.int (0 : Int32)), .unset] [(.ref c0)]))) (fun _ k => XS.aloadN X0.here hx rfl (hb hby d_jdk_52_method_21_code_10) rfl rfl k) ?_
  refine Goes.step (B := (s₁.setTop (mkF m 12 #[.val (.ref c0), .val (.int (0 : Int32)), .val (.ref d0), .val (.int (0 : Int32)), .val (.int (2 : Int32)), .val (.int (0 : Int32)), .unset] [(.int (0 : Int32)), (.ref c0)]))) (fun _ k => XS.iloadN X0.here hx rfl (hb hby d_jdk_52_method_21_code_11) rfl k) ?_
  obtain ⟨cl102, Ar102, q102, S102, M102, H102, G102⟩ := id pr0
  have hin102 : ¬ ((0 : Int32) < 0 ∨ cl102.slots.size ≤ ((0 : Int32)).toNatClampNeg) := inb_of S102 ⟨by decide, by decide⟩
  have hat102 : cl102.slots[((0 : Int32)).toNatClampNeg]? = some (.int v0) := H102 0 (by rw [S102]; decide)
  refine Goes.step (B := (s₁.setTop (mkF m 13 #[.val (.ref c0), .val (.int (0 : Int32)), .val (.ref d0), .val (.int (0 : Int32)), .val (.int (2 : Int32)), .val (.int (0 : Int32)), .unset] [(.int v0)]))) (fun _ k => X0.caload hx (j := (0 : Int32)) (v := (.int v0)) (by rw [e0]; exact Ar102.1) (State.isArrayOf_alike hZ.alike Ar102.2.1) Ar102.2.2 hin102 hat102 (g := (mkF m 12 #[.val (.ref c0), .val (.int (0 : Int32)), .val (.ref d0), .val (.int (0 : Int32)), .val (.int (2 : Int32)), .val (.int (0 : Int32)), .unset] [(.int (0 : Int32)), (.ref c0)])) rfl rfl (hb hby d_jdk_52_method_21_code_12) _ k) ?_
  refine Goes.step (B := (s₁.setTop (mkF m 15 #[.val (.ref c0), .val (.int (0 : Int32)), .val (.ref d0), .val (.int (0 : Int32)), .val (.int (2 : Int32)), .val (.int (0 : Int32)), .val (.int v0)] []))) (fun _ k => XS.istore X0.here hx rfl (hb hby d_jdk_52_method_21_code_13) rfl (l' := #[.val (.ref c0), .val (.int (0 : Int32)), .val (.ref d0), .val (.int (0 : Int32)), .val (.int (2 : Int32)), .val (.int (0 : Int32)), .val (.int v0)]) rfl k) ?_
  refine Goes.step (B := (s₁.setTop (mkF m 17 #[.val (.ref c0), .val (.int (0 : Int32)), .val (.ref d0), .val (.int (0 : Int32)), .val (.int (2 : Int32)), .val (.int (0 : Int32)), .val (.int v0)] [(.int v0)]))) (fun _ k => XS.iload X0.here hx rfl (hb hby d_jdk_52_method_21_code_15) rfl k) ?_
  refine Goes.step (B := (s₁.setTop (mkF m 20 #[.val (.ref c0), .val (.int (0 : Int32)), .val (.ref d0), .val (.int (0 : Int32)), .val (.int (2 : Int32)), .val (.int (0 : Int32)), .val (.int v0)] [(.int (255 : Int32)), (.int v0)]))) (fun _ k => XS.sipush X0.here hx rfl (hb hby d_jdk_52_method_21_code_17) k) ?_
  have hc103 : ¬ ((255 : Int32) < v0) := hv0
  refine Goes.step (B := (s₁.setTop (mkF m 26 #[.val (.ref c0), .val (.int (0 : Int32)), .val (.ref d0), .val (.int (0 : Int32)), .val (.int (2 : Int32)), .val (.int (0 : Int32)), .val (.int v0)] []))) (fun _ k => XS.icmpYes X0.here hx rfl (pc0 := 20) (pc' := 26) rfl (hb hby d_jdk_52_method_21_code_20) rfl (flt hc103).2.2.2 (by decide) (by decide) k) ?_
  refine Goes.step (B := (s₁.setTop (mkF m 27 #[.val (.ref c0), .val (.int (0 : Int32)), .val (.ref d0), .val (.int (0 : Int32)), .val (.int (2 : Int32)), .val (.int (0 : Int32)), .val (.int v0)] [(.ref d0)]))) (fun _ k => XS.aloadN X0.here hx rfl (hb hby d_jdk_52_method_21_code_26) rfl rfl k) ?_
  refine Goes.step (B := (s₁.setTop (mkF m 28 #[.val (.ref c0), .val (.int (0 : Int32)), .val (.ref d0), .val (.int (0 : Int32)), .val (.int (2 : Int32)), .val (.int (0 : Int32)), .val (.int v0)] [(.int (0 : Int32)), (.ref d0)]))) (fun _ k => XS.iloadN X0.here hx rfl (hb hby d_jdk_52_method_21_code_27) rfl k) ?_
  refine Goes.step (B := (s₁.setTop (mkF m 30 #[.val (.ref c0), .val (.int (0 : Int32)), .val (.ref d0), .val (.int (0 : Int32)), .val (.int (2 : Int32)), .val (.int (0 : Int32)), .val (.int v0)] [(.int v0), (.int (0 : Int32)), (.ref d0)]))) (fun _ k => XS.iload X0.here hx rfl (hb hby d_jdk_52_method_21_code_28) rfl k) ?_
  refine Goes.step (B := (s₁.setTop (mkF m 31 #[.val (.ref c0), .val (.int (0 : Int32)), .val (.ref d0), .val (.int (0 : Int32)), .val (.int (2 : Int32)), .val (.int (0 : Int32)), .val (.int v0)] [(.int v0.toInt8.toInt32), (.int (0 : Int32)), (.ref d0)]))) (fun _ k => XS.i2b X0.here hx rfl (hb hby d_jdk_52_method_21_code_30) rfl k) ?_
  obtain ⟨cl104, Ar104, q104, S104, M104, H104, G104⟩ := id pr1
  have hin104 : ¬ ((0 : Int32) < 0 ∨ cl104.slots.size ≤ ((0 : Int32)).toNatClampNeg) := inb_of S104 ⟨by decide, by decide⟩
  obtain ⟨T104, h104, X104, e104, W104, st104⟩ := stB X0 hx hZ e0 Ar104 (j := (0 : Int32)) hin104 (g := (mkF m 31 #[.val (.ref c0), .val (.int (0 : Int32)), .val (.ref d0), .val (.int (0 : Int32)), .val (.int (2 : Int32)), .val (.int (0 : Int32)), .val (.int v0)] [(.int v0.toInt8.toInt32), (.int (0 : Int32)), (.ref d0)])) rfl rfl (hb hby d_jdk_52_method_21_code_31)
  have f105 := pr0.other W104 pr3
  have N104 := Fr.snoc X104 N0 pr2
  have K104 : Keep h0 h104 [d0] := (Keep.refl h0 [d0]).wr W104 (Or.inl (List.mem_of_getElem? (i := 0) rfl))
  have Z104 : n0 ≤ h104.size := Nat.le_trans Z0 (Nat.le_of_eq W104.size.symm)
  have V104 : Arv Z h104 d0 k2 .byte (2 : Int32) [(.int (nar .byte v0.toInt8.toInt32)), (.int (0 : Int32))] (.int (0 : Int32)) := Arv.set Ar104 q104 S104 M104 H104 G104 (fits_nar_byte _) W104 0 rfl (Nat.le_of_ble_eq_true rfl)
  refine Goes.step (B := (T104.setTop (mkF m 32 #[.val (.ref c0), .val (.int (0 : Int32)), .val (.ref d0), .val (.int (0 : Int32)), .val (.int (2 : Int32)), .val (.int (0 : Int32)), .val (.int v0)] []))) (fun _ k => st104 _ k) ?_
  refine Goes.step (B := (T104.setTop (mkF m 35 #[.val (.ref c0), .val (.int (1 : Int32)), .val (.ref d0), .val (.int (0 : Int32)), .val (.int (2 : Int32)), .val (.int (0 : Int32)), .val (.int v0)] []))) (fun _ k => XS.iinc X104.here hx rfl (hb hby d_jdk_52_method_21_code_32) rfl (l' := #[.val (.ref c0), .val (.int (1 : Int32)), .val (.ref d0), .val (.int (0 : Int32)), .val (.int (2 : Int32)), .val (.int (0 : Int32)), .val (.int v0)]) rfl k) ?_
  refine Goes.step (B := (T104.setTop (mkF m 38 #[.val (.ref c0), .val (.int (1 : Int32)), .val (.ref d0), .val (.int (1 : Int32)), .val (.int (2 : Int32)), .val (.int (0 : Int32)), .val (.int v0)] []))) (fun _ k => XS.iinc X104.here hx rfl (hb hby d_jdk_52_method_21_code_35) rfl (l' := #[.val (.ref c0), .val (.int (1 : Int32)), .val (.ref d0), .val (.int (1 : Int32)), .val (.int (2 : Int32)), .val (.int (0 : Int32)), .val (.int v0)]) rfl k) ?_
  refine Goes.step (B := (T104.setTop (mkF m 41 #[.val (.ref c0), .val (.int (1 : Int32)), .val (.ref d0), .val (.int (1 : Int32)), .val (.int (2 : Int32)), .val (.int (1 : Int32)), .val (.int v0)] []))) (fun _ k => XS.iinc X104.here hx rfl (hb hby d_jdk_52_method_21_code_38) rfl (l' := #[.val (.ref c0), .val (.int (1 : Int32)), .val (.ref d0), .val (.int (1 : Int32)), .val (.int (2 : Int32)), .val (.int (1 : Int32)), .val (.int v0)]) rfl k) ?_
  refine Goes.step (B := (T104.setTop (mkF m 3 #[.val (.ref c0), .val (.int (1 : Int32)), .val (.ref d0), .val (.int (1 : Int32)), .val (.int (2 : Int32)), .val (.int (1 : Int32)), .val (.int v0)] []))) (fun _ k => XS.goto X104.here hx rfl (pc0 := 41) (pc' := 3) rfl (hb hby d_jdk_52_method_21_code_41) (by decide) (by decide) k) ?_
  refine Goes.step (B := (T104.setTop (mkF m 5 #[.val (.ref c0), .val (.int (1 : Int32)), .val (.ref d0), .val (.int (1 : Int32)), .val (.int (2 : Int32)), .val (.int (1 : Int32)), .val (.int v0)] [(.int (1 : Int32))]))) (fun _ k => XS.iload X104.here hx rfl (hb hby d_jdk_52_method_21_code_3) rfl k) ?_
  refine Goes.step (B := (T104.setTop (mkF m 7 #[.val (.ref c0), .val (.int (1 : Int32)), .val (.ref d0), .val (.int (1 : Int32)), .val (.int (2 : Int32)), .val (.int (1 : Int32)), .val (.int v0)] [(.int (2 : Int32)), (.int (1 : Int32))]))) (fun _ k => XS.iload X104.here hx rfl (hb hby d_jdk_52_method_21_code_5) rfl k) ?_
  have hc106 : (1 : Int32) < (2 : Int32) := by decide
  refine Goes.step (B := (T104.setTop (mkF m 10 #[.val (.ref c0), .val (.int (1 : Int32)), .val (.ref d0), .val (.int (1 : Int32)), .val (.int (2 : Int32)), .val (.int (1 : Int32)), .val (.int v0)] []))) (fun _ k => XS.icmpNo X104.here hx rfl (hb hby d_jdk_52_method_21_code_7) rfl (tlt hc106).2.1 k) ?_
  refine Goes.step (B := (T104.setTop (mkF m 11 #[.val (.ref c0), .val (.int (1 : Int32)), .val (.ref d0), .val (.int (1 : Int32)), .val (.int (2 : Int32)), .val (.int (1 : Int32)), .val (.int v0)] [(.ref c0)]))) (fun _ k => XS.aloadN X104.here hx rfl (hb hby d_jdk_52_method_21_code_10) rfl rfl k) ?_
  refine Goes.step (B := (T104.setTop (mkF m 12 #[.val (.ref c0), .val (.int (1 : Int32)), .val (.ref d0), .val (.int (1 : Int32)), .val (.int (2 : Int32)), .val (.int (1 : Int32)), .val (.int v0)] [(.int (1 : Int32)), (.ref c0)]))) (fun _ k => XS.iloadN X104.here hx rfl (hb hby d_jdk_52_method_21_code_11) rfl k) ?_
  obtain ⟨cl107, Ar107, q107, S107, M107, H107, G107⟩ := id f105
  have hin107 : ¬ ((1 : Int32) < 0 ∨ cl107.slots.size ≤ ((1 : Int32)).toNatClampNeg) := inb_of S107 ⟨by decide, by decide⟩
  have hat107 : cl107.slots[((1 : Int32)).toNatClampNeg]? = some (.int v1) := H107 1 (by rw [S107]; decide)
  refine Goes.step (B := (T104.setTop (mkF m 13 #[.val (.ref c0), .val (.int (1 : Int32)), .val (.ref d0), .val (.int (1 : Int32)), .val (.int (2 : Int32)), .val (.int (1 : Int32)), .val (.int v0)] [(.int v1)]))) (fun _ k => X104.caload hx (j := (1 : Int32)) (v := (.int v1)) (by rw [e104]; exact Ar107.1) (State.isArrayOf_alike hZ.alike Ar107.2.1) Ar107.2.2 hin107 hat107 (g := (mkF m 12 #[.val (.ref c0), .val (.int (1 : Int32)), .val (.ref d0), .val (.int (1 : Int32)), .val (.int (2 : Int32)), .val (.int (1 : Int32)), .val (.int v0)] [(.int (1 : Int32)), (.ref c0)])) rfl rfl (hb hby d_jdk_52_method_21_code_12) _ k) ?_
  refine Goes.step (B := (T104.setTop (mkF m 15 #[.val (.ref c0), .val (.int (1 : Int32)), .val (.ref d0), .val (.int (1 : Int32)), .val (.int (2 : Int32)), .val (.int (1 : Int32)), .val (.int v1)] []))) (fun _ k => XS.istore X104.here hx rfl (hb hby d_jdk_52_method_21_code_13) rfl (l' := #[.val (.ref c0), .val (.int (1 : Int32)), .val (.ref d0), .val (.int (1 : Int32)), .val (.int (2 : Int32)), .val (.int (1 : Int32)), .val (.int v1)]) rfl k) ?_
  refine Goes.step (B := (T104.setTop (mkF m 17 #[.val (.ref c0), .val (.int (1 : Int32)), .val (.ref d0), .val (.int (1 : Int32)), .val (.int (2 : Int32)), .val (.int (1 : Int32)), .val (.int v1)] [(.int v1)]))) (fun _ k => XS.iload X104.here hx rfl (hb hby d_jdk_52_method_21_code_15) rfl k) ?_
  refine Goes.step (B := (T104.setTop (mkF m 20 #[.val (.ref c0), .val (.int (1 : Int32)), .val (.ref d0), .val (.int (1 : Int32)), .val (.int (2 : Int32)), .val (.int (1 : Int32)), .val (.int v1)] [(.int (255 : Int32)), (.int v1)]))) (fun _ k => XS.sipush X104.here hx rfl (hb hby d_jdk_52_method_21_code_17) k) ?_
  have hc108 : ¬ ((255 : Int32) < v1) := hv1
  refine Goes.step (B := (T104.setTop (mkF m 26 #[.val (.ref c0), .val (.int (1 : Int32)), .val (.ref d0), .val (.int (1 : Int32)), .val (.int (2 : Int32)), .val (.int (1 : Int32)), .val (.int v1)] []))) (fun _ k => XS.icmpYes X104.here hx rfl (pc0 := 20) (pc' := 26) rfl (hb hby d_jdk_52_method_21_code_20) rfl (flt hc108).2.2.2 (by decide) (by decide) k) ?_
  refine Goes.step (B := (T104.setTop (mkF m 27 #[.val (.ref c0), .val (.int (1 : Int32)), .val (.ref d0), .val (.int (1 : Int32)), .val (.int (2 : Int32)), .val (.int (1 : Int32)), .val (.int v1)] [(.ref d0)]))) (fun _ k => XS.aloadN X104.here hx rfl (hb hby d_jdk_52_method_21_code_26) rfl rfl k) ?_
  refine Goes.step (B := (T104.setTop (mkF m 28 #[.val (.ref c0), .val (.int (1 : Int32)), .val (.ref d0), .val (.int (1 : Int32)), .val (.int (2 : Int32)), .val (.int (1 : Int32)), .val (.int v1)] [(.int (1 : Int32)), (.ref d0)]))) (fun _ k => XS.iloadN X104.here hx rfl (hb hby d_jdk_52_method_21_code_27) rfl k) ?_
  refine Goes.step (B := (T104.setTop (mkF m 30 #[.val (.ref c0), .val (.int (1 : Int32)), .val (.ref d0), .val (.int (1 : Int32)), .val (.int (2 : Int32)), .val (.int (1 : Int32)), .val (.int v1)] [(.int v1), (.int (1 : Int32)), (.ref d0)]))) (fun _ k => XS.iload X104.here hx rfl (hb hby d_jdk_52_method_21_code_28) rfl k) ?_
  refine Goes.step (B := (T104.setTop (mkF m 31 #[.val (.ref c0), .val (.int (1 : Int32)), .val (.ref d0), .val (.int (1 : Int32)), .val (.int (2 : Int32)), .val (.int (1 : Int32)), .val (.int v1)] [(.int v1.toInt8.toInt32), (.int (1 : Int32)), (.ref d0)]))) (fun _ k => XS.i2b X104.here hx rfl (hb hby d_jdk_52_method_21_code_30) rfl k) ?_
  obtain ⟨cl109, Ar109, q109, S109, M109, H109, G109⟩ := id V104
  have hin109 : ¬ ((1 : Int32) < 0 ∨ cl109.slots.size ≤ ((1 : Int32)).toNatClampNeg) := inb_of S109 ⟨by decide, by decide⟩
  obtain ⟨T109, h109, X109, e109, W109, st109⟩ := stB X104 hx hZ e104 Ar109 (j := (1 : Int32)) hin109 (g := (mkF m 31 #[.val (.ref c0), .val (.int (1 : Int32)), .val (.ref d0), .val (.int (1 : Int32)), .val (.int (2 : Int32)), .val (.int (1 : Int32)), .val (.int v1)] [(.int v1.toInt8.toInt32), (.int (1 : Int32)), (.ref d0)])) rfl rfl (hb hby d_jdk_52_method_21_code_31)
  have f110 := f105.other W109 pr3
  have N109 := Fr.snoc X109 N104 pr2
  have K109 : Keep h0 h109 [d0] := K104.wr W109 (Or.inl (List.mem_of_getElem? (i := 0) rfl))
  have Z109 : n0 ≤ h109.size := Nat.le_trans Z104 (Nat.le_of_eq W109.size.symm)
  have V109 : Arv Z h109 d0 k2 .byte (2 : Int32) [(.int (nar .byte v0.toInt8.toInt32)), (.int (nar .byte v1.toInt8.toInt32))] (.int (0 : Int32)) := Arv.set Ar109 q109 S109 M109 H109 G109 (fits_nar_byte _) W109 1 rfl (Nat.le_of_ble_eq_true rfl)
  refine Goes.step (B := (T109.setTop (mkF m 32 #[.val (.ref c0), .val (.int (1 : Int32)), .val (.ref d0), .val (.int (1 : Int32)), .val (.int (2 : Int32)), .val (.int (1 : Int32)), .val (.int v1)] []))) (fun _ k => st109 _ k) ?_
  refine Goes.step (B := (T109.setTop (mkF m 35 #[.val (.ref c0), .val (.int (2 : Int32)), .val (.ref d0), .val (.int (1 : Int32)), .val (.int (2 : Int32)), .val (.int (1 : Int32)), .val (.int v1)] []))) (fun _ k => XS.iinc X109.here hx rfl (hb hby d_jdk_52_method_21_code_32) rfl (l' := #[.val (.ref c0), .val (.int (2 : Int32)), .val (.ref d0), .val (.int (1 : Int32)), .val (.int (2 : Int32)), .val (.int (1 : Int32)), .val (.int v1)]) rfl k) ?_
  refine Goes.step (B := (T109.setTop (mkF m 38 #[.val (.ref c0), .val (.int (2 : Int32)), .val (.ref d0), .val (.int (2 : Int32)), .val (.int (2 : Int32)), .val (.int (1 : Int32)), .val (.int v1)] []))) (fun _ k => XS.iinc X109.here hx rfl (hb hby d_jdk_52_method_21_code_35) rfl (l' := #[.val (.ref c0), .val (.int (2 : Int32)), .val (.ref d0), .val (.int (2 : Int32)), .val (.int (2 : Int32)), .val (.int (1 : Int32)), .val (.int v1)]) rfl k) ?_
  refine Goes.step (B := (T109.setTop (mkF m 41 #[.val (.ref c0), .val (.int (2 : Int32)), .val (.ref d0), .val (.int (2 : Int32)), .val (.int (2 : Int32)), .val (.int (2 : Int32)), .val (.int v1)] []))) (fun _ k => XS.iinc X109.here hx rfl (hb hby d_jdk_52_method_21_code_38) rfl (l' := #[.val (.ref c0), .val (.int (2 : Int32)), .val (.ref d0), .val (.int (2 : Int32)), .val (.int (2 : Int32)), .val (.int (2 : Int32)), .val (.int v1)]) rfl k) ?_
  refine Goes.step (B := (T109.setTop (mkF m 3 #[.val (.ref c0), .val (.int (2 : Int32)), .val (.ref d0), .val (.int (2 : Int32)), .val (.int (2 : Int32)), .val (.int (2 : Int32)), .val (.int v1)] []))) (fun _ k => XS.goto X109.here hx rfl (pc0 := 41) (pc' := 3) rfl (hb hby d_jdk_52_method_21_code_41) (by decide) (by decide) k) ?_
  refine Goes.step (B := (T109.setTop (mkF m 5 #[.val (.ref c0), .val (.int (2 : Int32)), .val (.ref d0), .val (.int (2 : Int32)), .val (.int (2 : Int32)), .val (.int (2 : Int32)), .val (.int v1)] [(.int (2 : Int32))]))) (fun _ k => XS.iload X109.here hx rfl (hb hby d_jdk_52_method_21_code_3) rfl k) ?_
  refine Goes.step (B := (T109.setTop (mkF m 7 #[.val (.ref c0), .val (.int (2 : Int32)), .val (.ref d0), .val (.int (2 : Int32)), .val (.int (2 : Int32)), .val (.int (2 : Int32)), .val (.int v1)] [(.int (2 : Int32)), (.int (2 : Int32))]))) (fun _ k => XS.iload X109.here hx rfl (hb hby d_jdk_52_method_21_code_5) rfl k) ?_
  have hc111 : ¬ ((2 : Int32) < (2 : Int32)) := by decide
  refine Goes.step (B := (T109.setTop (mkF m 44 #[.val (.ref c0), .val (.int (2 : Int32)), .val (.ref d0), .val (.int (2 : Int32)), .val (.int (2 : Int32)), .val (.int (2 : Int32)), .val (.int v1)] []))) (fun _ k => XS.icmpYes X109.here hx rfl (pc0 := 7) (pc' := 44) rfl (hb hby d_jdk_52_method_21_code_7) rfl (flt hc111).2.1 (by decide) (by decide) k) ?_
  refine Goes.step (B := (T109.setTop (mkF m 46 #[.val (.ref c0), .val (.int (2 : Int32)), .val (.ref d0), .val (.int (2 : Int32)), .val (.int (2 : Int32)), .val (.int (2 : Int32)), .val (.int v1)] [(.int (2 : Int32))]))) (fun _ k => XS.iload X109.here hx rfl (hb hby d_jdk_52_method_21_code_44) rfl k) ?_
  refine Goes.retI X109 hx hlk hrt (hb hby d_jdk_52_method_21_code_46) ?_ (by decide) (by decide)
  rw [e109]
  exact ⟨rfl, N109, K109, V109⟩
theorem d_jdk_52_method_16_code_0 : decode jdk_52_method_16_code 0 = .ok (.iload_n 2, 1) := by decide +kernel
theorem d_jdk_52_method_16_code_1 : decode jdk_52_method_16_code 1 = .ok (.newarray .byte, 2) := by decide +kernel
theorem d_jdk_52_method_16_code_3 : decode jdk_52_method_16_code 3 = .ok (.astore_n 3, 1) := by decide +kernel
theorem d_jdk_52_method_16_code_4 : decode jdk_52_method_16_code 4 = .ok (.aload_n 0, 1) := by decide +kernel
theorem d_jdk_52_method_16_code_5 : decode jdk_52_method_16_code 5 = .ok (.iload_n 1, 1) := by decide +kernel
theorem d_jdk_52_method_16_code_6 : decode jdk_52_method_16_code 6 = .ok (.aload_n 3, 1) := by decide +kernel
theorem d_jdk_52_method_16_code_7 : decode jdk_52_method_16_code 7 = .ok (.iconst 0, 1) := by decide +kernel
theorem d_jdk_52_method_16_code_8 : decode jdk_52_method_16_code 8 = .ok (.iload_n 2, 1) := by decide +kernel
theorem d_jdk_52_method_16_code_9 : decode jdk_52_method_16_code 9 = .ok (.invokestatic 115, 3) := by decide +kernel
theorem pd__ACIABII_I : parseMethodDescriptor "([CI[BII)I" = some ⟨[(.array .char), .int, (.array .byte), .int, .int], some .int⟩ := by decide +kernel
theorem d_jdk_52_method_16_code_12 : decode jdk_52_method_16_code 12 = .ok (.istore 4, 2) := by decide +kernel
theorem d_jdk_52_method_16_code_14 : decode jdk_52_method_16_code 14 = .ok (.iload 4, 2) := by decide +kernel
theorem d_jdk_52_method_16_code_16 : decode jdk_52_method_16_code 16 = .ok (.iload_n 2, 1) := by decide +kernel
theorem d_jdk_52_method_16_code_17 : decode jdk_52_method_16_code 17 = .ok (.if_icmp .eq 40, 3) := by decide +kernel
theorem d_jdk_52_method_16_code_57 : decode jdk_52_method_16_code 57 = .ok (.aload_n 3, 1) := by decide +kernel
theorem d_jdk_52_method_16_code_58 : decode jdk_52_method_16_code 58 = .ok (.areturn, 1) := by decide +kernel
def own_c1_2_Q (Z : State) (c0 : Addr) (k1 : ClassId) (v0 : Int32) (v1 : Int32) (h0 : Heap) (n0 : Nat) (v : Option Value) (h : Heap) (L : List Loc) : Prop := ∃ (b : Addr), ∃ (k2 : ClassId), (v = some (.ref b)) ∧ (Fr n0 L) ∧ (Keep h0 h []) ∧ (n0 ≤ b) ∧ (h0.size ≤ b) ∧ (Arv Z h b k2 .byte (2 : Int32) [(.int (nar .byte v0.toInt8.toInt32)), (.int (nar .byte v1.toInt8.toInt32))] (.int (0 : Int32)))
theorem own_c1_2_ef (m : MethodId) (c0 : Addr) : entryFrame m #[(.ref c0), (.int (0 : Int32)), (.int (2 : Int32))] 6 = mkF m 0 #[.val (.ref c0), .val (.int (0 : Int32)), .val (.int (2 : Int32)), .unset, .unset, .unset] [] := by first | (simp [entryFrame, mkF, argsToLocals, Value.category]; done) | rfl
set_option maxRecDepth 65536 in
set_option maxHeartbeats 40000000 in
theorem own_c1_2_rm (l : Launch) (Z : State) (a0 : Array Value) (hw : ∀ d ∈ tables_1, d.before a0 Z = true) (ws : List Jvm.Cond) (c0 : Addr) (k1 : ClassId) (v0 : Int32) (v1 : Int32) (h0 : Heap) (n0 : Nat) (Z0 : n0 ≤ h0.size) (pr0 : Arv Z h0 c0 k1 .char (2 : Int32) [(.int v0), (.int v1)] (.int (0 : Int32))) (hv0 : ¬ (255 : Int32) < v0) (hv1 : ¬ (255 : Int32) < v1) :
    MetFree l (⟨"java/lang/StringUTF16", "compress", "([CII)[B"⟩ : MethodName) (head1 (Jvm.Cond.code (⟨"java/lang/StringUTF16", "compress", "([CII)[B"⟩ : MethodName) jdk_52_method_16_code 6 (some (.array .byte)) :: ws) ({ frames := 1, cells := 1, slots := 2, locals := 18 } : Room)) (fun a U => a = #[(.ref c0), (.int (0 : Int32)), (.int (2 : Int32))] ∧ Z.Warmed39 U.vm ∧ U.heap = h0) (fun _ _ _ _ _ => True) (fun _ U o U' => ∃ v L, o = .returned v ∧ own_c1_2_Q Z c0 k1 v0 v1 h0 n0 v U'.heap L ∧ FrameEnd U o U' L ({ frames := 1, cells := 1, slots := 2, locals := 18 } : Room).cells ({ frames := 1, cells := 1, slots := 2, locals := 18 } : Room).slots) := by
  refine MetFree.of_bodySF (plainFor_of_name pn_StringUTF16) hisR ?_
  intro p e s m args below meth c s₁ Bd hml0 hP hK
  obtain ⟨rfl, hZ, hh⟩ := hP
  have hx := Bd.exec
  have hby := Bd.bytes
  have hml : c.maxLocals = 6 := hml0
  have hown : s.vm.findClass "java/lang/StringUTF16" = some m.cls := findClass_of_methodNamed Bd.named
  have hnm := (name_of_methodNamed Bd.named Bd.method).1
  have hlk : meth.locks = false := BodyLoose.notSynchronized Bd
  have hrt := Bd.returns
  have X0 : Stand p l e ({ frames := 1, cells := 1, slots := 2, locals := 18 } : Room) s m #[(.ref c0), (.int (0 : Int32)), (.int (2 : Int32))] below meth c s₁ [] 0 0 := Stand.of_body Bd
  have e0 : s₁.heap = h0 := by rw [← hh, Bd.state]; rfl
  have N0 := Fr.nil n0
  refine Goes.enter (kc := ({ frames := 1, cells := 1, slots := 2, locals := 18 } : Room).cells) (kn := ({ frames := 1, cells := 1, slots := 2, locals := 18 } : Room).slots) (Q := own_c1_2_Q Z c0 k1 v0 v1 h0 n0) (own_c1_2_ef m c0) ?_
  refine Goes.step (B := (s₁.setTop (mkF m 1 #[.val (.ref c0), .val (.int (0 : Int32)), .val (.int (2 : Int32)), .unset, .unset, .unset] [(.int (2 : Int32))]))) (fun _ k => XS.iloadN X0.here hx rfl (hb hby d_jdk_52_method_16_code_0) rfl k) ?_
  obtain ⟨T101, h101, k101, X101, e101, E101, A101, st101⟩ := newP X0 hx hZ (hw _ (List.mem_of_getElem? (i := 24) rfl)) e0 (g := (mkF m 1 #[.val (.ref c0), .val (.int (0 : Int32)), .val (.int (2 : Int32)), .unset, .unset, .unset] [(.int (2 : Int32))])) rfl (hb hby d_jdk_52_method_16_code_1) rfl (by decide) (cap := 2) (by decide) (by decide) (by decide) (by decide)
  obtain ⟨b101, g101⟩ : ∃ z, z = h0.size := ⟨_, rfl⟩
  rw [← g101] at A101 st101
  have gn101 : n0 ≤ b101 := Nat.le_trans Z0 (Nat.le_of_eq g101.symm)
  have sz101 : h0.size ≤ b101 := Nat.le_trans (Keep.refl h0 []).1 (Nat.le_of_eq g101.symm)
  have ne102 : c0 ≠ b101 := Nat.ne_of_lt (Nat.lt_of_lt_of_le pr0.lt (Nat.le_of_eq g101.symm))
  have f103 := pr0.ext E101
  have V101 : Arv Z h101 b101 k101 .byte (2 : Int32) [(.int (0 : Int32)), (.int (0 : Int32))] (.int (0 : Int32)) := (Arv.new A101 (by decide)).pad (pad_rep [] (.int (0 : Int32)) 2)
  have Z101 : n0 ≤ h101.size := Nat.le_trans Z0 E101.1
  have K101 : Keep h0 h101 [] := (Keep.refl h0 []).ext E101
  refine Goes.step (B := (T101.setTop (mkF m 3 #[.val (.ref c0), .val (.int (0 : Int32)), .val (.int (2 : Int32)), .unset, .unset, .unset] [(.ref b101)]))) (fun _ k => st101 _ k) ?_
  refine Goes.step (B := (T101.setTop (mkF m 4 #[.val (.ref c0), .val (.int (0 : Int32)), .val (.int (2 : Int32)), .val (.ref b101), .unset, .unset] []))) (fun _ k => XS.astoreN X101.here hx rfl (hb hby d_jdk_52_method_16_code_3) rfl rfl (l' := #[.val (.ref c0), .val (.int (0 : Int32)), .val (.int (2 : Int32)), .val (.ref b101), .unset, .unset]) rfl k) ?_
  refine Goes.step (B := (T101.setTop (mkF m 5 #[.val (.ref c0), .val (.int (0 : Int32)), .val (.int (2 : Int32)), .val (.ref b101), .unset, .unset] [(.ref c0)]))) (fun _ k => XS.aloadN X101.here hx rfl (hb hby d_jdk_52_method_16_code_4) rfl rfl k) ?_
  refine Goes.step (B := (T101.setTop (mkF m 6 #[.val (.ref c0), .val (.int (0 : Int32)), .val (.int (2 : Int32)), .val (.ref b101), .unset, .unset] [(.int (0 : Int32)), (.ref c0)]))) (fun _ k => XS.iloadN X101.here hx rfl (hb hby d_jdk_52_method_16_code_5) rfl k) ?_
  refine Goes.step (B := (T101.setTop (mkF m 7 #[.val (.ref c0), .val (.int (0 : Int32)), .val (.int (2 : Int32)), .val (.ref b101), .unset, .unset] [(.ref b101), (.int (0 : Int32)), (.ref c0)]))) (fun _ k => XS.aloadN X101.here hx rfl (hb hby d_jdk_52_method_16_code_6) rfl rfl k) ?_
  refine Goes.step (B := (T101.setTop (mkF m 8 #[.val (.ref c0), .val (.int (0 : Int32)), .val (.int (2 : Int32)), .val (.ref b101), .unset, .unset] [(.int (0 : Int32)), (.ref b101), (.int (0 : Int32)), (.ref c0)]))) (fun _ k => XS.iconst X101.here hx rfl (hb hby d_jdk_52_method_16_code_7) k) ?_
  refine Goes.step (B := (T101.setTop (mkF m 9 #[.val (.ref c0), .val (.int (0 : Int32)), .val (.int (2 : Int32)), .val (.ref b101), .unset, .unset] [(.int (2 : Int32)), (.int (0 : Int32)), (.ref b101), (.int (0 : Int32)), (.ref c0)]))) (fun _ k => XS.iloadN X101.here hx rfl (hb hby d_jdk_52_method_16_code_8) rfl k) ?_
  obtain ⟨_, _, ⟨T104, L104, k104, n104⟩, -, X104, ⟨Lc104, hQ104, l104, y104, z104⟩, st104⟩ := Jvm.LawKit.callS X101 hx (y := (⟨"java/lang/StringUTF16", "compress", "([CI[BII)I"⟩ : MethodName)) hown (mvT hZ (hw _ (List.mem_of_getElem? (i := 25) rfl))) (mvT hZ (hw _ (List.mem_of_getElem? (i := 26) rfl))) (mvT hZ (hw _ (List.mem_of_getElem? (i := 22) rfl))) (mvT hZ (hw _ (List.mem_of_getElem? (i := 27) rfl))) (by decide) (backOf (W := 0) (own_c2_2_rm l Z a0 hw [] c0 b101 k1 v0 v1 k101 h101 n0 Z101 f103 V101 gn101 ne102 hv0 hv1) hZ (hw _ (List.mem_of_getElem? (i := 27) rfl)) (hw _ (List.mem_of_getElem? (i := 22) rfl)) (by decide) (by decide)) (g := (mkF m 9 #[.val (.ref c0), .val (.int (0 : Int32)), .val (.int (2 : Int32)), .val (.ref b101), .unset, .unset] [(.int (2 : Int32)), (.int (0 : Int32)), (.ref b101), (.int (0 : Int32)), (.ref c0)])) rfl (by rw [hml]; rfl) (argsL := [(.ref c0), (.int (0 : Int32)), (.ref b101), (.int (0 : Int32)), (.int (2 : Int32))]) (rest := []) (lenOf pd__ACIABII_I rfl) rfl (by show 2 * 0 + _ ≤ _; exact Nat.le_of_eq rfl) (hb hby d_jdk_52_method_16_code_9) (fun _ _ => ⟨rfl, e101, (by decide : 1 + 0 ≤ _), (by decide : 2 + 0 ≤ _)⟩)
  dsimp only [Pt.U, Pt.locs, Pt.cells, Pt.slots] at X104 l104 y104 z104 st104 hQ104
  subst l104 y104 z104
  obtain ⟨rfl, N104q, K104q, p104_0⟩ := hQ104
  have N104 := Fr.app N0 N104q
  have f105 := f103.keep K104q (nm1 ne102)
  have K104 : Keep h0 T104.heap [] := Keep.trans K101 K104q (fun y q => by cases List.mem_singleton.mp q; exact (Or.inr sz101))
  have Z104 : n0 ≤ T104.heap.size := Nat.le_trans Z101 K104q.1
  refine Goes.step (B := (T104.setTop (mkF m 12 #[.val (.ref c0), .val (.int (0 : Int32)), .val (.int (2 : Int32)), .val (.ref b101), .unset, .unset] [(.int (2 : Int32))]))) (fun _ k => st104 _ k) ?_
  refine Goes.step (B := (T104.setTop (mkF m 14 #[.val (.ref c0), .val (.int (0 : Int32)), .val (.int (2 : Int32)), .val (.ref b101), .val (.int (2 : Int32)), .unset] []))) (fun _ k => XS.istore X104.here hx rfl (hb hby d_jdk_52_method_16_code_12) rfl (l' := #[.val (.ref c0), .val (.int (0 : Int32)), .val (.int (2 : Int32)), .val (.ref b101), .val (.int (2 : Int32)), .unset]) rfl k) ?_
  refine Goes.step (B := (T104.setTop (mkF m 16 #[.val (.ref c0), .val (.int (0 : Int32)), .val (.int (2 : Int32)), .val (.ref b101), .val (.int (2 : Int32)), .unset] [(.int (2 : Int32))]))) (fun _ k => XS.iload X104.here hx rfl (hb hby d_jdk_52_method_16_code_14) rfl k) ?_
  refine Goes.step (B := (T104.setTop (mkF m 17 #[.val (.ref c0), .val (.int (0 : Int32)), .val (.int (2 : Int32)), .val (.ref b101), .val (.int (2 : Int32)), .unset] [(.int (2 : Int32)), (.int (2 : Int32))]))) (fun _ k => XS.iloadN X104.here hx rfl (hb hby d_jdk_52_method_16_code_16) rfl k) ?_
  have hc106 : (2 : Int32) = (2 : Int32) := by decide
  refine Goes.step (B := (T104.setTop (mkF m 57 #[.val (.ref c0), .val (.int (0 : Int32)), .val (.int (2 : Int32)), .val (.ref b101), .val (.int (2 : Int32)), .unset] []))) (fun _ k => XS.icmpYes X104.here hx rfl (pc0 := 17) (pc' := 57) rfl (hb hby d_jdk_52_method_16_code_17) rfl (teq hc106).1 (by decide) (by decide) k) ?_
  refine Goes.step (B := (T104.setTop (mkF m 58 #[.val (.ref c0), .val (.int (0 : Int32)), .val (.int (2 : Int32)), .val (.ref b101), .val (.int (2 : Int32)), .unset] [(.ref b101)]))) (fun _ k => XS.aloadN X104.here hx rfl (hb hby d_jdk_52_method_16_code_57) rfl rfl k) ?_
  refine Goes.retR X104 hx hlk hrt rfl rfl rfl (hb hby d_jdk_52_method_16_code_58) ?_ (by decide) (by decide)
  exact ⟨b101, k101, rfl, N104, K104, gn101, sz101, p104_0⟩
theorem d_jdk_52_method_15_code_0 : decode jdk_52_method_15_code 0 = .ok (.iload_n 1, 1) := by decide +kernel
theorem d_jdk_52_method_15_code_1 : decode jdk_52_method_15_code 1 = .ok (.aload_n 0, 1) := by decide +kernel
theorem d_jdk_52_method_15_code_2 : decode jdk_52_method_15_code 2 = .ok (.arraylength, 1) := by decide +kernel
theorem d_jdk_52_method_15_code_3 : decode jdk_52_method_15_code 3 = .ok (.isub, 1) := by decide +kernel
theorem d_jdk_52_method_15_code_4 : decode jdk_52_method_15_code 4 = .ok (.bipush 31, 2) := by decide +kernel
theorem d_jdk_52_method_15_code_6 : decode jdk_52_method_15_code 6 = .ok (.iushr, 1) := by decide +kernel
theorem d_jdk_52_method_15_code_7 : decode jdk_52_method_15_code 7 = .ok (.i2b, 1) := by decide +kernel
theorem d_jdk_52_method_15_code_8 : decode jdk_52_method_15_code 8 = .ok (.ireturn, 1) := by decide +kernel
def own_cf_2_fn  : Int32 := (nar .byte (((0 : Int32).toUInt32 >>> ((31 : Int32) &&& 31).toUInt32).toInt32).toInt8.toInt32)
def own_cf_2_Q (Z : State) (d0 : Addr) (k2 : ClassId) (l2 : List Value) (h0 : Heap) (n0 : Nat) (v : Option Value) (h : Heap) (L : List Loc) : Prop := v = some (.int (own_cf_2_fn)) ∧ Fr n0 L ∧ h = h0
theorem own_cf_2_ef (m : MethodId) (d0 : Addr) : entryFrame m #[(.ref d0), (.int (2 : Int32))] 2 = mkF m 0 #[.val (.ref d0), .val (.int (2 : Int32))] [] := by first | (simp [entryFrame, mkF, argsToLocals, Value.category]; done) | rfl
set_option maxRecDepth 65536 in
set_option maxHeartbeats 40000000 in
theorem own_cf_2_rm (l : Launch) (Z : State) (a0 : Array Value) (hw : ∀ d ∈ tables_1, d.before a0 Z = true) (ws : List Jvm.Cond) (d0 : Addr) (k2 : ClassId) (l2 : List Value) (h0 : Heap) (n0 : Nat) (Z0 : n0 ≤ h0.size) (pr0 : Arv Z h0 d0 k2 .byte (2 : Int32) l2 (.int (0 : Int32))) :
    MetFree l (⟨"java/lang/StringUTF16", "coderFromArrayLen", "([BI)B"⟩ : MethodName) (head1 (Jvm.Cond.code (⟨"java/lang/StringUTF16", "coderFromArrayLen", "([BI)B"⟩ : MethodName) jdk_52_method_15_code 2 (some .byte) :: ws) ({ frames := 0, cells := 0, slots := 0, locals := 0 } : Room)) (fun a U => a = #[(.ref d0), (.int (2 : Int32))] ∧ Z.Warmed39 U.vm ∧ U.heap = h0) (fun _ _ _ _ _ => True) (fun _ U o U' => ∃ v L, o = .returned v ∧ own_cf_2_Q Z d0 k2 l2 h0 n0 v U'.heap L ∧ FrameEnd U o U' L ({ frames := 0, cells := 0, slots := 0, locals := 0 } : Room).cells ({ frames := 0, cells := 0, slots := 0, locals := 0 } : Room).slots) := by
  refine MetFree.of_bodySF (plainFor_of_name pn_StringUTF16) hisR ?_
  intro p e s m args below meth c s₁ Bd hml0 hP hK
  obtain ⟨rfl, hZ, hh⟩ := hP
  have hx := Bd.exec
  have hby := Bd.bytes
  have hml : c.maxLocals = 2 := hml0
  have hown : s.vm.findClass "java/lang/StringUTF16" = some m.cls := findClass_of_methodNamed Bd.named
  have hnm := (name_of_methodNamed Bd.named Bd.method).1
  have hlk : meth.locks = false := BodyLoose.notSynchronized Bd
  have hrt := Bd.returns
  have X0 : Stand p l e ({ frames := 0, cells := 0, slots := 0, locals := 0 } : Room) s m #[(.ref d0), (.int (2 : Int32))] below meth c s₁ [] 0 0 := Stand.of_body Bd
  have e0 : s₁.heap = h0 := by rw [← hh, Bd.state]; rfl
  have N0 := Fr.nil n0
  refine Goes.enter (kc := ({ frames := 0, cells := 0, slots := 0, locals := 0 } : Room).cells) (kn := ({ frames := 0, cells := 0, slots := 0, locals := 0 } : Room).slots) (Q := own_cf_2_Q Z d0 k2 l2 h0 n0) (own_cf_2_ef m d0) ?_
  refine Goes.step (B := (s₁.setTop (mkF m 1 #[.val (.ref d0), .val (.int (2 : Int32))] [(.int (2 : Int32))]))) (fun _ k => XS.iloadN X0.here hx rfl (hb hby d_jdk_52_method_15_code_0) rfl k) ?_
  refine Goes.step (B := (s₁.setTop (mkF m 2 #[.val (.ref d0), .val (.int (2 : Int32))] [(.ref d0), (.int (2 : Int32))]))) (fun _ k => XS.aloadN X0.here hx rfl (hb hby d_jdk_52_method_15_code_1) rfl rfl k) ?_
  obtain ⟨cl101, Ar101, q101, S101, M101, H101, G101⟩ := id pr0
  refine Goes.step (B := (s₁.setTop (mkF m 3 #[.val (.ref d0), .val (.int (2 : Int32))] [(.int (2 : Int32)), (.int (2 : Int32))]))) (fun _ k => X0.arraylength hx (by rw [e0]; exact Ar101.1) (State.isArrayOf_alike hZ.alike Ar101.2.1) (g := (mkF m 2 #[.val (.ref d0), .val (.int (2 : Int32))] [(.ref d0), (.int (2 : Int32))])) rfl rfl (hb hby d_jdk_52_method_15_code_2) _ (by rw [len_of S101 M101]; exact k)) ?_
  refine Goes.step (B := (s₁.setTop (mkF m 4 #[.val (.ref d0), .val (.int (2 : Int32))] [(.int (0 : Int32))]))) (fun _ k => XS.isub X0.here hx rfl (hb hby d_jdk_52_method_15_code_3) rfl k) ?_
  refine Goes.step (B := (s₁.setTop (mkF m 6 #[.val (.ref d0), .val (.int (2 : Int32))] [(.int (31 : Int32)), (.int (0 : Int32))]))) (fun _ k => XS.bipush X0.here hx rfl (hb hby d_jdk_52_method_15_code_4) k) ?_
  refine Goes.step (B := (s₁.setTop (mkF m 7 #[.val (.ref d0), .val (.int (2 : Int32))] [(.int ((0 : Int32).toUInt32 >>> ((31 : Int32) &&& 31).toUInt32).toInt32)]))) (fun _ k => XS.iushr X0.here hx rfl (hb hby d_jdk_52_method_15_code_6) rfl k) ?_
  refine Goes.step (B := (s₁.setTop (mkF m 8 #[.val (.ref d0), .val (.int (2 : Int32))] [(.int (((0 : Int32).toUInt32 >>> ((31 : Int32) &&& 31).toUInt32).toInt32).toInt8.toInt32)]))) (fun _ k => XS.i2b X0.here hx rfl (hb hby d_jdk_52_method_15_code_7) rfl k) ?_
  refine Goes.retN X0 hx hlk (t := .byte) hrt (by simp) (hb hby d_jdk_52_method_15_code_8) ?_ (by decide) (by decide)
  rw [e0]
  exact ⟨congrArg (fun z => some (Value.int z)) (show nar .byte (((0 : Int32).toUInt32 >>> ((31 : Int32) &&& 31).toUInt32).toInt32).toInt8.toInt32 = (own_cf_2_fn) from (show nar .byte (((0 : Int32).toUInt32 >>> ((31 : Int32) &&& 31).toUInt32).toInt32).toInt8.toInt32 = (nar .byte (((0 : Int32).toUInt32 >>> ((31 : Int32) &&& 31).toUInt32).toInt32).toInt8.toInt32) from rfl).trans (by simp only [own_cf_2_fn])), N0, rfl⟩
theorem d_jdk_42_method_149_code_27 : decode jdk_42_method_149_code 27 = .ok (.getstatic 38, 3) := by decide +kernel
theorem d_jdk_42_method_149_code_30 : decode jdk_42_method_149_code 30 = .ok (.ifCond .eq 28, 3) := by decide +kernel
theorem d_jdk_42_method_149_code_33 : decode jdk_42_method_149_code 33 = .ok (.aload_n 1, 1) := by decide +kernel
theorem d_jdk_42_method_149_code_34 : decode jdk_42_method_149_code 34 = .ok (.iload_n 2, 1) := by decide +kernel
theorem d_jdk_42_method_149_code_35 : decode jdk_42_method_149_code 35 = .ok (.iload_n 3, 1) := by decide +kernel
theorem d_jdk_42_method_149_code_36 : decode jdk_42_method_149_code 36 = .ok (.invokestatic 177, 3) := by decide +kernel
theorem pd__ACII_AB : parseMethodDescriptor "([CII)[B" = some ⟨[(.array .char), .int, .int], some (.array .byte)⟩ := by decide +kernel
theorem d_jdk_42_method_149_code_39 : decode jdk_42_method_149_code 39 = .ok (.astore 5, 2) := by decide +kernel
theorem d_jdk_42_method_149_code_41 : decode jdk_42_method_149_code 41 = .ok (.aload_n 0, 1) := by decide +kernel
theorem d_jdk_42_method_149_code_42 : decode jdk_42_method_149_code 42 = .ok (.aload 5, 2) := by decide +kernel
theorem d_jdk_42_method_149_code_44 : decode jdk_42_method_149_code 44 = .ok (.iload_n 3, 1) := by decide +kernel
theorem d_jdk_42_method_149_code_45 : decode jdk_42_method_149_code 45 = .ok (.invokestatic 47, 3) := by decide +kernel
theorem pd__ABI_B : parseMethodDescriptor "([BI)B" = some ⟨[(.array .byte), .int], some .byte⟩ := by decide +kernel
theorem d_jdk_42_method_149_code_48 : decode jdk_42_method_149_code 48 = .ok (.putfield 15, 3) := by decide +kernel
theorem d_jdk_42_method_149_code_51 : decode jdk_42_method_149_code 51 = .ok (.aload_n 0, 1) := by decide +kernel
theorem d_jdk_42_method_149_code_52 : decode jdk_42_method_149_code 52 = .ok (.aload 5, 2) := by decide +kernel
theorem d_jdk_42_method_149_code_54 : decode jdk_42_method_149_code 54 = .ok (.putfield 9, 3) := by decide +kernel
theorem d_jdk_42_method_149_code_57 : decode jdk_42_method_149_code 57 = .ok (.return_, 1) := by decide +kernel
def own_s4_2_Q (Z : State) (o0 : Addr) (c0 : Addr) (w0 : Int32) (k1 : ClassId) (v0 : Int32) (v1 : Int32) (h0 : Heap) (n0 : Nat) (v : Option Value) (h : Heap) (L : List Loc) : Prop := ∃ (b : Addr), ∃ (k2 : ClassId), (v = none) ∧ (Fr n0 L) ∧ (Keep h0 h [o0]) ∧ (n0 ≤ b) ∧ (h0.size ≤ b) ∧ (Exa Z h o0 "java/lang/String") ∧ (Fld Z h o0 "java/lang/String" "value" "[B" (.ref b)) ∧ (Fld Z h o0 "java/lang/String" "coder" "B" (.int (0 : Int32))) ∧ (Arv Z h b k2 .byte (2 : Int32) [(.int (nar .byte v0.toInt8.toInt32)), (.int (nar .byte v1.toInt8.toInt32))] (.int (0 : Int32)))
theorem own_s4_2_ef (m : MethodId) (o0 : Addr) (c0 : Addr) : entryFrame m #[(.ref o0), (.ref c0), (.int (0 : Int32)), (.int (2 : Int32)), .null] 6 = mkF m 0 #[.val (.ref o0), .val (.ref c0), .val (.int (0 : Int32)), .val (.int (2 : Int32)), .val .null, .unset] [] := by first | (simp [entryFrame, mkF, argsToLocals, Value.category]; done) | rfl
set_option maxRecDepth 65536 in
set_option maxHeartbeats 40000000 in
theorem own_s4_2_rm (l : Launch) (Z : State) (a0 : Array Value) (hw : ∀ d ∈ tables_1, d.before a0 Z = true) (ws : List Jvm.Cond) (o0 : Addr) (c0 : Addr) (w0 : Int32) (k1 : ClassId) (v0 : Int32) (v1 : Int32) (h0 : Heap) (n0 : Nat) (Z0 : n0 ≤ h0.size) (pr0 : Exa Z h0 o0 "java/lang/String") (pr1 : Fld Z h0 o0 "java/lang/String" "value" "[B" .null) (pr2 : Fld Z h0 o0 "java/lang/String" "coder" "B" (.int (0 : Int32))) (pr3 : Sta Z h0 "java/lang/String" "COMPACT_STRINGS" "Z" (.int w0)) (pr4 : Arv Z h0 c0 k1 .char (2 : Int32) [(.int v0), (.int v1)] (.int (0 : Int32))) (pr5 : n0 ≤ o0) (pr6 : c0 ≠ o0) (hw0 : ¬ (w0 = (0 : Int32))) (hv0 : ¬ (255 : Int32) < v0) (hv1 : ¬ (255 : Int32) < v1) :
    MetFree l (⟨"java/lang/String", "<init>", "([CIILjava/lang/Void;)V"⟩ : MethodName) (head1 (Jvm.Cond.code (⟨"java/lang/String", "<init>", "([CIILjava/lang/Void;)V"⟩ : MethodName) jdk_42_method_149_code 6 none :: ws) ({ frames := 2, cells := 1, slots := 2, locals := 35 } : Room)) (fun a U => a = #[(.ref o0), (.ref c0), (.int (0 : Int32)), (.int (2 : Int32)), .null] ∧ Z.Warmed39 U.vm ∧ U.heap = h0) (fun _ _ _ _ _ => True) (fun _ U o U' => ∃ v L, o = .returned v ∧ own_s4_2_Q Z o0 c0 w0 k1 v0 v1 h0 n0 v U'.heap L ∧ FrameEnd U o U' L ({ frames := 2, cells := 1, slots := 2, locals := 35 } : Room).cells ({ frames := 2, cells := 1, slots := 2, locals := 35 } : Room).slots) := by
  refine MetFree.of_bodySF (plainFor_of_name pn_String) hisR ?_
  intro p e s m args below meth c s₁ Bd hml0 hP hK
  obtain ⟨rfl, hZ, hh⟩ := hP
  have hx := Bd.exec
  have hby := Bd.bytes
  have hml : c.maxLocals = 6 := hml0
  have hown : s.vm.findClass "java/lang/String" = some m.cls := findClass_of_methodNamed Bd.named
  have hnm := (name_of_methodNamed Bd.named Bd.method).1
  have hlk : meth.locks = false := BodyLoose.notSynchronized Bd
  have hrt := Bd.returns
  have X0 : Stand p l e ({ frames := 2, cells := 1, slots := 2, locals := 35 } : Room) s m #[(.ref o0), (.ref c0), (.int (0 : Int32)), (.int (2 : Int32)), .null] below meth c s₁ [] 0 0 := Stand.of_body Bd
  have e0 : s₁.heap = h0 := by rw [← hh, Bd.state]; rfl
  have N0 := Fr.nil n0
  refine Goes.enter (kc := ({ frames := 2, cells := 1, slots := 2, locals := 35 } : Room).cells) (kn := ({ frames := 2, cells := 1, slots := 2, locals := 35 } : Room).slots) (Q := own_s4_2_Q Z o0 c0 w0 k1 v0 v1 h0 n0) (own_s4_2_ef m o0 c0) ?_
  refine Goes.step (B := (s₁.setTop (mkF m 1 #[.val (.ref o0), .val (.ref c0), .val (.int (0 : Int32)), .val (.int (2 : Int32)), .val .null, .unset] [(.ref o0)]))) (fun _ k => XS.aloadN X0.here hx rfl (hb hby d_jdk_42_method_149_code_0) rfl rfl k) ?_
  obtain ⟨T101, X101, e101, st101⟩ := initO X0 hx hZ hown (hw _ (List.mem_of_getElem? (i := 16) rfl)) (hw _ (List.mem_of_getElem? (i := 17) rfl)) (hw _ (List.mem_of_getElem? (i := 18) rfl)) e0 (g := (mkF m 1 #[.val (.ref o0), .val (.ref c0), .val (.int (0 : Int32)), .val (.int (2 : Int32)), .val .null, .unset] [(.ref o0)])) rfl (by rw [hml]; rfl) rfl (hb hby d_jdk_42_method_149_code_1) (by decide) (W := 0) (by show 2 * 0 + _ ≤ _; exact Nat.le_of_eq rfl) (by decide)
  refine Goes.step (B := (T101.setTop (mkF m 4 #[.val (.ref o0), .val (.ref c0), .val (.int (0 : Int32)), .val (.int (2 : Int32)), .val .null, .unset] []))) (fun _ k => st101 _ k) ?_
  refine Goes.step (B := (T101.setTop (mkF m 5 #[.val (.ref o0), .val (.ref c0), .val (.int (0 : Int32)), .val (.int (2 : Int32)), .val .null, .unset] [(.int (2 : Int32))]))) (fun _ k => XS.iloadN X101.here hx rfl (hb hby d_jdk_42_method_149_code_4) rfl k) ?_
  have hc102 : ¬ ((2 : Int32) = (0 : Int32)) := by decide
  refine Goes.step (B := (T101.setTop (mkF m 27 #[.val (.ref o0), .val (.ref c0), .val (.int (0 : Int32)), .val (.int (2 : Int32)), .val .null, .unset] []))) (fun _ k => XS.ifYes X101.here hx rfl (pc0 := 5) (pc' := 27) rfl (hb hby d_jdk_42_method_149_code_5) rfl ((if0 _ _).trans (feq hc102).2) (by decide) (by decide) k) ?_
  obtain ⟨T103, X103, e103, st103⟩ := getS2 X101 hx hZ hown (host := "") (Or.inl (hw _ (List.mem_of_getElem? (i := 19) rfl))) Via.refl e101 pr3 (g := (mkF m 27 #[.val (.ref o0), .val (.ref c0), .val (.int (0 : Int32)), .val (.int (2 : Int32)), .val .null, .unset] [])) rfl (hb hby d_jdk_42_method_149_code_27)
  refine Goes.step (B := (T103.setTop (mkF m 30 #[.val (.ref o0), .val (.ref c0), .val (.int (0 : Int32)), .val (.int (2 : Int32)), .val .null, .unset] [(.int w0)]))) (fun _ k => st103 _ k) ?_
  have hc104 : ¬ (w0 = (0 : Int32)) := hw0
  refine Goes.step (B := (T103.setTop (mkF m 33 #[.val (.ref o0), .val (.ref c0), .val (.int (0 : Int32)), .val (.int (2 : Int32)), .val .null, .unset] []))) (fun _ k => XS.ifNo X103.here hx rfl (hb hby d_jdk_42_method_149_code_30) rfl ((if0 _ _).trans (feq hc104).1) k) ?_
  refine Goes.step (B := (T103.setTop (mkF m 34 #[.val (.ref o0), .val (.ref c0), .val (.int (0 : Int32)), .val (.int (2 : Int32)), .val .null, .unset] [(.ref c0)]))) (fun _ k => XS.aloadN X103.here hx rfl (hb hby d_jdk_42_method_149_code_33) rfl rfl k) ?_
  refine Goes.step (B := (T103.setTop (mkF m 35 #[.val (.ref o0), .val (.ref c0), .val (.int (0 : Int32)), .val (.int (2 : Int32)), .val .null, .unset] [(.int (0 : Int32)), (.ref c0)]))) (fun _ k => XS.iloadN X103.here hx rfl (hb hby d_jdk_42_method_149_code_34) rfl k) ?_
  refine Goes.step (B := (T103.setTop (mkF m 36 #[.val (.ref o0), .val (.ref c0), .val (.int (0 : Int32)), .val (.int (2 : Int32)), .val .null, .unset] [(.int (2 : Int32)), (.int (0 : Int32)), (.ref c0)]))) (fun _ k => XS.iloadN X103.here hx rfl (hb hby d_jdk_42_method_149_code_35) rfl k) ?_
  obtain ⟨_, _, ⟨T105, L105, k105, n105⟩, -, X105, ⟨Lc105, hQ105, l105, y105, z105⟩, st105⟩ := Jvm.LawKit.callS X103 hx (y := (⟨"java/lang/StringUTF16", "compress", "([CII)[B"⟩ : MethodName)) hown (mvT hZ (hw _ (List.mem_of_getElem? (i := 20) rfl))) (mvT hZ (hw _ (List.mem_of_getElem? (i := 21) rfl))) (mvT hZ (hw _ (List.mem_of_getElem? (i := 22) rfl))) (mvT hZ (hw _ (List.mem_of_getElem? (i := 23) rfl))) (by decide) (backOf (W := 0) (own_c1_2_rm l Z a0 hw [] c0 k1 v0 v1 h0 n0 Z0 pr4 hv0 hv1) hZ (hw _ (List.mem_of_getElem? (i := 23) rfl)) (hw _ (List.mem_of_getElem? (i := 22) rfl)) (by decide) (by decide)) (g := (mkF m 36 #[.val (.ref o0), .val (.ref c0), .val (.int (0 : Int32)), .val (.int (2 : Int32)), .val .null, .unset] [(.int (2 : Int32)), (.int (0 : Int32)), (.ref c0)])) rfl (by rw [hml]; rfl) (argsL := [(.ref c0), (.int (0 : Int32)), (.int (2 : Int32))]) (rest := []) (lenOf pd__ACII_AB rfl) rfl (by show 2 * 0 + _ ≤ _; exact Nat.le_of_eq rfl) (hb hby d_jdk_42_method_149_code_36) (fun _ _ => ⟨rfl, e103, (by decide : 0 + 1 ≤ _), (by decide : 0 + 2 ≤ _)⟩)
  dsimp only [Pt.U, Pt.locs, Pt.cells, Pt.slots] at X105 l105 y105 z105 st105 hQ105
  subst l105 y105 z105
  obtain ⟨b_105, k2_105, rfl, N105q, K105q, gn105_b, sz105_b, p105_0⟩ := hQ105
  have N105 := Fr.app N0 N105q
  have ne106 : o0 ≠ b_105 := Nat.ne_of_lt (Nat.lt_of_lt_of_le pr0.lt sz105_b)
  have ne107 : c0 ≠ b_105 := Nat.ne_of_lt (Nat.lt_of_lt_of_le pr4.lt sz105_b)
  have f108 := pr0.keep K105q
  have f109 := pr1.keep K105q nm0
  have f110 := pr2.keep K105q nm0
  have f111 := pr3.keepN K105q (fun _ q => nomatch q)
  have f112 := pr4.keep K105q nm0
  have K105 : Keep h0 T105.heap [o0] := Keep.trans (Keep.refl h0 [o0]) K105q (fun _ q => nomatch q)
  have Z105 : n0 ≤ T105.heap.size := Nat.le_trans Z0 K105q.1
  have szz105_b : h0.size ≤ b_105 := Nat.le_trans (Keep.refl h0 [o0]).1 sz105_b
  refine Goes.step (B := (T105.setTop (mkF m 39 #[.val (.ref o0), .val (.ref c0), .val (.int (0 : Int32)), .val (.int (2 : Int32)), .val .null, .unset] [(.ref b_105)]))) (fun _ k => st105 _ k) ?_
  refine Goes.step (B := (T105.setTop (mkF m 41 #[.val (.ref o0), .val (.ref c0), .val (.int (0 : Int32)), .val (.int (2 : Int32)), .val .null, .val (.ref b_105)] []))) (fun _ k => XS.astore X105.here hx rfl (hb hby d_jdk_42_method_149_code_39) rfl rfl (l' := #[.val (.ref o0), .val (.ref c0), .val (.int (0 : Int32)), .val (.int (2 : Int32)), .val .null, .val (.ref b_105)]) rfl k) ?_
  refine Goes.step (B := (T105.setTop (mkF m 42 #[.val (.ref o0), .val (.ref c0), .val (.int (0 : Int32)), .val (.int (2 : Int32)), .val .null, .val (.ref b_105)] [(.ref o0)]))) (fun _ k => XS.aloadN X105.here hx rfl (hb hby d_jdk_42_method_149_code_41) rfl rfl k) ?_
  refine Goes.step (B := (T105.setTop (mkF m 44 #[.val (.ref o0), .val (.ref c0), .val (.int (0 : Int32)), .val (.int (2 : Int32)), .val .null, .val (.ref b_105)] [(.ref b_105), (.ref o0)]))) (fun _ k => XS.aload X105.here hx rfl (hb hby d_jdk_42_method_149_code_42) rfl rfl k) ?_
  refine Goes.step (B := (T105.setTop (mkF m 45 #[.val (.ref o0), .val (.ref c0), .val (.int (0 : Int32)), .val (.int (2 : Int32)), .val .null, .val (.ref b_105)] [(.int (2 : Int32)), (.ref b_105), (.ref o0)]))) (fun _ k => XS.iloadN X105.here hx rfl (hb hby d_jdk_42_method_149_code_44) rfl k) ?_
  obtain ⟨_, _, ⟨T113, L113, k113, n113⟩, -, X113, ⟨Lc113, hQ113, l113, y113, z113⟩, st113⟩ := Jvm.LawKit.callS X105 hx (y := (⟨"java/lang/StringUTF16", "coderFromArrayLen", "([BI)B"⟩ : MethodName)) hown (mvT hZ (hw _ (List.mem_of_getElem? (i := 28) rfl))) (mvT hZ (hw _ (List.mem_of_getElem? (i := 29) rfl))) (mvT hZ (hw _ (List.mem_of_getElem? (i := 22) rfl))) (mvT hZ (hw _ (List.mem_of_getElem? (i := 30) rfl))) (by decide) (backOf (W := 1) (own_cf_2_rm l Z a0 hw [] b_105 k2_105 ([(.int (nar .byte v0.toInt8.toInt32)), (.int (nar .byte v1.toInt8.toInt32))]) T105.heap n0 Z105 p105_0) hZ (hw _ (List.mem_of_getElem? (i := 30) rfl)) (hw _ (List.mem_of_getElem? (i := 22) rfl)) (by decide) (by decide)) (g := (mkF m 45 #[.val (.ref o0), .val (.ref c0), .val (.int (0 : Int32)), .val (.int (2 : Int32)), .val .null, .val (.ref b_105)] [(.int (2 : Int32)), (.ref b_105), (.ref o0)])) rfl (by rw [hml]; rfl) (argsL := [(.ref b_105), (.int (2 : Int32))]) (rest := [(.ref o0)]) (lenOf pd__ABI_B rfl) rfl (by show 2 * 0 + _ ≤ _; exact Nat.le_of_eq rfl) (hb hby d_jdk_42_method_149_code_45) (fun _ _ => ⟨rfl, rfl, (by decide : 1 + 0 ≤ _), (by decide : 2 + 0 ≤ _)⟩)
  dsimp only [Pt.U, Pt.locs, Pt.cells, Pt.slots] at X113 l113 y113 z113 st113 hQ113
  subst l113 y113 z113
  obtain ⟨rfl, N113q, e113⟩ := hQ113
  have N113 := Fr.app N105 N113q
  refine Goes.step (B := (T113.setTop (mkF m 48 #[.val (.ref o0), .val (.ref c0), .val (.int (0 : Int32)), .val (.int (2 : Int32)), .val .null, .val (.ref b_105)] [(.int (own_cf_2_fn)), (.ref o0)]))) (fun _ k => st113 _ k) ?_
  obtain ⟨T114, h114, X114, e114, W114, st114⟩ := putFN X113 hx hZ hown (hw _ (List.mem_of_getElem? (i := 31) rfl)) Via.refl e113 f110 f108 (Or.inr ⟨(hw _ (List.mem_of_getElem? (i := 32) rfl)), rfl, hnm⟩) (hw _ (List.mem_of_getElem? (i := 6) rfl)) (ty := .byte) (v' := (.int (nar .byte (own_cf_2_fn)))) (by decide) rfl (fits_nar_byte _) (g := (mkF m 48 #[.val (.ref o0), .val (.ref c0), .val (.int (0 : Int32)), .val (.int (2 : Int32)), .val .null, .val (.ref b_105)] [(.int (own_cf_2_fn)), (.ref o0)])) rfl rfl (hb hby d_jdk_42_method_149_code_48)
  have f115 := f108.wr W114
  have f116 := f109.other W114 (Or.inr (slot_ne (Or.inr (hw _ (List.mem_of_getElem? (i := 34) rfl))) (Or.inr (hw _ (List.mem_of_getElem? (i := 32) rfl))) (by decide) (t := (.array .byte)) (t' := .byte) (by decide) (by decide)))
  have f117 := f111.wr W114
  have f118 := f112.other W114 pr6
  have f119 := p105_0.other W114 (Ne.symm ne106)
  have N114 := Fr.snoc X114 N113 pr5
  have K114 : Keep h0 h114 [o0] := K105.wr W114 (Or.inl (List.mem_of_getElem? (i := 0) rfl))
  have Z114 : n0 ≤ h114.size := Nat.le_trans Z105 (Nat.le_of_eq W114.size.symm)
  have f120 : Fld Z h114 o0 "java/lang/String" "coder" "B" (.int (nar .byte (own_cf_2_fn))) := f110.same W114
  refine Goes.step (B := (T114.setTop (mkF m 51 #[.val (.ref o0), .val (.ref c0), .val (.int (0 : Int32)), .val (.int (2 : Int32)), .val .null, .val (.ref b_105)] []))) (fun _ k => st114 _ k) ?_
  refine Goes.step (B := (T114.setTop (mkF m 52 #[.val (.ref o0), .val (.ref c0), .val (.int (0 : Int32)), .val (.int (2 : Int32)), .val .null, .val (.ref b_105)] [(.ref o0)]))) (fun _ k => XS.aloadN X114.here hx rfl (hb hby d_jdk_42_method_149_code_51) rfl rfl k) ?_
  refine Goes.step (B := (T114.setTop (mkF m 54 #[.val (.ref o0), .val (.ref c0), .val (.int (0 : Int32)), .val (.int (2 : Int32)), .val .null, .val (.ref b_105)] [(.ref b_105), (.ref o0)]))) (fun _ k => XS.aload X114.here hx rfl (hb hby d_jdk_42_method_149_code_52) rfl rfl k) ?_
  obtain ⟨T121, h121, X121, e121, W121, st121⟩ := putF X114 hx hZ hown (host := "") (Or.inl (hw _ (List.mem_of_getElem? (i := 33) rfl))) Via.refl e114 f116 f115 (Or.inr ⟨(hw _ (List.mem_of_getElem? (i := 34) rfl)), rfl, hnm⟩) (hw _ (List.mem_of_getElem? (i := 6) rfl)) (ty := (.array .byte)) (by decide) rfl rfl (g := (mkF m 54 #[.val (.ref o0), .val (.ref c0), .val (.int (0 : Int32)), .val (.int (2 : Int32)), .val .null, .val (.ref b_105)] [(.ref b_105), (.ref o0)])) rfl rfl (hb hby d_jdk_42_method_149_code_54)
  have f122 := f115.wr W121
  have f123 := f120.other W121 (Or.inr (slot_ne (Or.inr (hw _ (List.mem_of_getElem? (i := 32) rfl))) (Or.inr (hw _ (List.mem_of_getElem? (i := 34) rfl))) (by decide) (t := .byte) (t' := (.array .byte)) (by decide) (by decide)))
  have f124 := f117.wr W121
  have f125 := f118.other W121 pr6
  have f126 := f119.other W121 (Ne.symm ne106)
  have N121 := Fr.snoc X121 N114 pr5
  have K121 : Keep h0 h121 [o0] := K114.wr W121 (Or.inl (List.mem_of_getElem? (i := 0) rfl))
  have Z121 : n0 ≤ h121.size := Nat.le_trans Z114 (Nat.le_of_eq W121.size.symm)
  have f127 : Fld Z h121 o0 "java/lang/String" "value" "[B" (.ref b_105) := f116.same W121
  refine Goes.step (B := (T121.setTop (mkF m 57 #[.val (.ref o0), .val (.ref c0), .val (.int (0 : Int32)), .val (.int (2 : Int32)), .val .null, .val (.ref b_105)] []))) (fun _ k => st121 _ k) ?_
  refine Goes.retV X121 hx hlk hrt (hb hby d_jdk_42_method_149_code_57) ?_ (by decide) (by decide)
  rw [e121]
  exact ⟨b_105, k2_105, rfl, N121, K121, gn105_b, szz105_b, f122, f127, f123, f126⟩
def own_s1_2_Q (Z : State) (o0 : Addr) (c0 : Addr) (w0 : Int32) (k1 : ClassId) (v0 : Int32) (v1 : Int32) (h0 : Heap) (n0 : Nat) (v : Option Value) (h : Heap) (L : List Loc) : Prop := ∃ (b : Addr), ∃ (k2 : ClassId), (v = none) ∧ (Fr n0 L) ∧ (Keep h0 h [o0]) ∧ (n0 ≤ b) ∧ (h0.size ≤ b) ∧ (Exa Z h o0 "java/lang/String") ∧ (Fld Z h o0 "java/lang/String" "value" "[B" (.ref b)) ∧ (Fld Z h o0 "java/lang/String" "coder" "B" (.int (0 : Int32))) ∧ (Arv Z h b k2 .byte (2 : Int32) [(.int (nar .byte v0.toInt8.toInt32)), (.int (nar .byte v1.toInt8.toInt32))] (.int (0 : Int32)))
theorem own_s1_2_ef (m : MethodId) (o0 : Addr) (c0 : Addr) : entryFrame m #[(.ref o0), (.ref c0)] 2 = mkF m 0 #[.val (.ref o0), .val (.ref c0)] [] := by first | (simp [entryFrame, mkF, argsToLocals, Value.category]; done) | rfl
set_option maxRecDepth 65536 in
set_option maxHeartbeats 40000000 in
theorem own_s1_2_rm (l : Launch) (Z : State) (a0 : Array Value) (hw : ∀ d ∈ tables_1, d.before a0 Z = true) (ws : List Jvm.Cond) (o0 : Addr) (c0 : Addr) (w0 : Int32) (k1 : ClassId) (v0 : Int32) (v1 : Int32) (h0 : Heap) (n0 : Nat) (Z0 : n0 ≤ h0.size) (pr0 : Exa Z h0 o0 "java/lang/String") (pr1 : Fld Z h0 o0 "java/lang/String" "value" "[B" .null) (pr2 : Fld Z h0 o0 "java/lang/String" "coder" "B" (.int (0 : Int32))) (pr3 : Sta Z h0 "java/lang/String" "COMPACT_STRINGS" "Z" (.int w0)) (pr4 : Arv Z h0 c0 k1 .char (2 : Int32) [(.int v0), (.int v1)] (.int (0 : Int32))) (pr5 : n0 ≤ o0) (pr6 : c0 ≠ o0) (hw0 : ¬ (w0 = (0 : Int32))) (hv0 : ¬ (255 : Int32) < v0) (hv1 : ¬ (255 : Int32) < v1) :
    MetFree l (⟨"java/lang/String", "<init>", "([C)V"⟩ : MethodName) (head1 (Jvm.Cond.code (⟨"java/lang/String", "<init>", "([C)V"⟩ : MethodName) jdk_42_method_3_code 2 none :: ws) ({ frames := 3, cells := 1, slots := 2, locals := 52 } : Room)) (fun a U => a = #[(.ref o0), (.ref c0)] ∧ Z.Warmed39 U.vm ∧ U.heap = h0) (fun _ _ _ _ _ => True) (fun _ U o U' => ∃ v L, o = .returned v ∧ own_s1_2_Q Z o0 c0 w0 k1 v0 v1 h0 n0 v U'.heap L ∧ FrameEnd U o U' L ({ frames := 3, cells := 1, slots := 2, locals := 52 } : Room).cells ({ frames := 3, cells := 1, slots := 2, locals := 52 } : Room).slots) := by
  refine MetFree.of_bodySF (plainFor_of_name pn_String) hisR ?_
  intro p e s m args below meth c s₁ Bd hml0 hP hK
  obtain ⟨rfl, hZ, hh⟩ := hP
  have hx := Bd.exec
  have hby := Bd.bytes
  have hml : c.maxLocals = 2 := hml0
  have hown : s.vm.findClass "java/lang/String" = some m.cls := findClass_of_methodNamed Bd.named
  have hnm := (name_of_methodNamed Bd.named Bd.method).1
  have hlk : meth.locks = false := BodyLoose.notSynchronized Bd
  have hrt := Bd.returns
  have X0 : Stand p l e ({ frames := 3, cells := 1, slots := 2, locals := 52 } : Room) s m #[(.ref o0), (.ref c0)] below meth c s₁ [] 0 0 := Stand.of_body Bd
  have e0 : s₁.heap = h0 := by rw [← hh, Bd.state]; rfl
  have N0 := Fr.nil n0
  refine Goes.enter (kc := ({ frames := 3, cells := 1, slots := 2, locals := 52 } : Room).cells) (kn := ({ frames := 3, cells := 1, slots := 2, locals := 52 } : Room).slots) (Q := own_s1_2_Q Z o0 c0 w0 k1 v0 v1 h0 n0) (own_s1_2_ef m o0 c0) ?_
  refine Goes.step (B := (s₁.setTop (mkF m 1 #[.val (.ref o0), .val (.ref c0)] [(.ref o0)]))) (fun _ k => XS.aloadN X0.here hx rfl (hb hby d_jdk_42_method_3_code_0) rfl rfl k) ?_
  refine Goes.step (B := (s₁.setTop (mkF m 2 #[.val (.ref o0), .val (.ref c0)] [(.ref c0), (.ref o0)]))) (fun _ k => XS.aloadN X0.here hx rfl (hb hby d_jdk_42_method_3_code_1) rfl rfl k) ?_
  refine Goes.step (B := (s₁.setTop (mkF m 3 #[.val (.ref o0), .val (.ref c0)] [(.int (0 : Int32)), (.ref c0), (.ref o0)]))) (fun _ k => XS.iconst X0.here hx rfl (hb hby d_jdk_42_method_3_code_2) k) ?_
  refine Goes.step (B := (s₁.setTop (mkF m 4 #[.val (.ref o0), .val (.ref c0)] [(.ref c0), (.int (0 : Int32)), (.ref c0), (.ref o0)]))) (fun _ k => XS.aloadN X0.here hx rfl (hb hby d_jdk_42_method_3_code_3) rfl rfl k) ?_
  obtain ⟨cl101, Ar101, q101, S101, M101, H101, G101⟩ := id pr4
  refine Goes.step (B := (s₁.setTop (mkF m 5 #[.val (.ref o0), .val (.ref c0)] [(.int (2 : Int32)), (.int (0 : Int32)), (.ref c0), (.ref o0)]))) (fun _ k => X0.arraylength hx (by rw [e0]; exact Ar101.1) (State.isArrayOf_alike hZ.alike Ar101.2.1) (g := (mkF m 4 #[.val (.ref o0), .val (.ref c0)] [(.ref c0), (.int (0 : Int32)), (.ref c0), (.ref o0)])) rfl rfl (hb hby d_jdk_42_method_3_code_4) _ (by rw [len_of S101 M101]; exact k)) ?_
  refine Goes.step (B := (s₁.setTop (mkF m 6 #[.val (.ref o0), .val (.ref c0)] [.null, (.int (2 : Int32)), (.int (0 : Int32)), (.ref c0), (.ref o0)]))) (fun _ k => XS.aconstNull X0.here hx rfl (hb hby d_jdk_42_method_3_code_5) k) ?_
  obtain ⟨_, _, ⟨T102, L102, k102, n102⟩, -, X102, ⟨Lc102, hQ102, l102, y102, z102⟩, st102⟩ := X0.specialBack hx (y := (⟨"java/lang/String", "<init>", "([CIILjava/lang/Void;)V"⟩ : MethodName)) rfl hown (mvT hZ (hw _ (List.mem_of_getElem? (i := 12) rfl))) (mvT hZ (hw _ (List.mem_of_getElem? (i := 13) rfl))) (mvT hZ (hw _ (List.mem_of_getElem? (i := 15) rfl))) (by decide) (backOf (W := 0) (own_s4_2_rm l Z a0 hw [] o0 c0 w0 k1 v0 v1 h0 n0 Z0 pr0 pr1 pr2 pr3 pr4 pr5 pr6 hw0 hv0 hv1) hZ (hw _ (List.mem_of_getElem? (i := 15) rfl)) (hw _ (List.mem_of_getElem? (i := 7) rfl)) (by decide) (by decide)) (g := (mkF m 6 #[.val (.ref o0), .val (.ref c0)] [.null, (.int (2 : Int32)), (.int (0 : Int32)), (.ref c0), (.ref o0)])) rfl (by rw [hml]; rfl) (Steps.refl _) (a := o0) (argsL := [(.ref c0), (.int (0 : Int32)), (.int (2 : Int32)), .null]) (rest := []) (lenOf pd__ACIILjava_lang_Void__V rfl) rfl (by show 2 * 0 + _ ≤ _; exact Nat.le_of_eq rfl) (hb hby d_jdk_42_method_3_code_6) (fun _ _ => ⟨rfl, e0, (by decide : 0 + 1 ≤ _), (by decide : 0 + 2 ≤ _)⟩)
  dsimp only [Pt.U, Pt.locs, Pt.cells, Pt.slots] at X102 l102 y102 z102 st102 hQ102
  subst l102 y102 z102
  obtain ⟨b_102, k2_102, rfl, N102q, K102q, gn102_b, sz102_b, p102_0, p102_1, p102_2, p102_3⟩ := hQ102
  have N102 := Fr.app N0 N102q
  have ne103 : o0 ≠ b_102 := Nat.ne_of_lt (Nat.lt_of_lt_of_le pr0.lt sz102_b)
  have ne104 : c0 ≠ b_102 := Nat.ne_of_lt (Nat.lt_of_lt_of_le pr4.lt sz102_b)
  have f105 := pr0.keep K102q
  have f106 := pr3.keepN K102q (fun y q => by cases List.mem_singleton.mp q; exact pr0.plainN)
  have f107 := pr4.keep K102q (nm1 pr6)
  have K102 : Keep h0 T102.heap [o0] := Keep.trans (Keep.refl h0 [o0]) K102q (fun y q => by cases List.mem_singleton.mp q; exact (Or.inl (List.mem_of_getElem? (i := 0) rfl)))
  have Z102 : n0 ≤ T102.heap.size := Nat.le_trans Z0 K102q.1
  have szz102_b : h0.size ≤ b_102 := Nat.le_trans (Keep.refl h0 [o0]).1 sz102_b
  refine Goes.to (B := (T102.setTop (mkF m 9 #[.val (.ref o0), .val (.ref c0)] []))) st102 ?_
  refine Goes.retV X102 hx hlk hrt (hb hby d_jdk_42_method_3_code_9) ?_ (by decide) (by decide)
  exact ⟨b_102, k2_102, rfl, N102, K102, gn102_b, szz102_b, p102_0, p102_1, p102_2, p102_3⟩
def own_c2_3_Q (Z : State) (c0 : Addr) (d0 : Addr) (k1 : ClassId) (v0 : Int32) (v1 : Int32) (v2 : Int32) (k2 : ClassId) (h0 : Heap) (n0 : Nat) (v : Option Value) (h : Heap) (L : List Loc) : Prop := (v = some (.int (3 : Int32))) ∧ (Fr n0 L) ∧ (Keep h0 h [d0]) ∧ (Arv Z h d0 k2 .byte (3 : Int32) [(.int (nar .byte v0.toInt8.toInt32)), (.int (nar .byte v1.toInt8.toInt32)), (.int (nar .byte v2.toInt8.toInt32))] (.int (0 : Int32)))
theorem own_c2_3_ef (m : MethodId) (c0 : Addr) (d0 : Addr) : entryFrame m #[(.ref c0), (.int (0 : Int32)), (.ref d0), (.int (0 : Int32)), (.int (3 : Int32))] 7 = mkF m 0 #[.val (.ref c0), .val (.int (0 : Int32)), .val (.ref d0), .val (.int (0 : Int32)), .val (.int (3 : Int32)), .unset, .unset] [] := by first | (simp [entryFrame, mkF, argsToLocals, Value.category]; done) | rfl
set_option maxRecDepth 65536 in
set_option maxHeartbeats 40000000 in
theorem own_c2_3_rm (l : Launch) (Z : State) (a0 : Array Value) (hw : ∀ d ∈ tables_1, d.before a0 Z = true) (ws : List Jvm.Cond) (c0 : Addr) (d0 : Addr) (k1 : ClassId) (v0 : Int32) (v1 : Int32) (v2 : Int32) (k2 : ClassId) (h0 : Heap) (n0 : Nat) (Z0 : n0 ≤ h0.size) (pr0 : Arv Z h0 c0 k1 .char (3 : Int32) [(.int v0), (.int v1), (.int v2)] (.int (0 : Int32))) (pr1 : Arv Z h0 d0 k2 .byte (3 : Int32) [(.int (0 : Int32)), (.int (0 : Int32)), (.int (0 : Int32))] (.int (0 : Int32))) (pr2 : n0 ≤ d0) (pr3 : c0 ≠ d0) (hv0 : ¬ (255 : Int32) < v0) (hv1 : ¬ (255 : Int32) < v1) (hv2 : ¬ (255 : Int32) < v2) :
    MetFree l (⟨"java/lang/StringUTF16", "compress", "([CI[BII)I"⟩ : MethodName) (head1 (Jvm.Cond.code (⟨"java/lang/StringUTF16", "compress", "([CI[BII)I"⟩ : MethodName) jdk_52_method_21_code 7 (some .int) :: ws) ({ frames := 0, cells := 0, slots := 0, locals := 0 } : Room)) (fun a U => a = #[(.ref c0), (.int (0 : Int32)), (.ref d0), (.int (0 : Int32)), (.int (3 : Int32))] ∧ Z.Warmed39 U.vm ∧ U.heap = h0) (fun _ _ _ _ _ => True) (fun _ U o U' => ∃ v L, o = .returned v ∧ own_c2_3_Q Z c0 d0 k1 v0 v1 v2 k2 h0 n0 v U'.heap L ∧ FrameEnd U o U' L ({ frames := 0, cells := 0, slots := 0, locals := 0 } : Room).cells ({ frames := 0, cells := 0, slots := 0, locals := 0 } : Room).slots) := by
  refine MetFree.of_bodySF (plainFor_of_name pn_StringUTF16) hisR ?_
  intro p e s m args below meth c s₁ Bd hml0 hP hK
  obtain ⟨rfl, hZ, hh⟩ := hP
  have hx := Bd.exec
  have hby := Bd.bytes
  have hml : c.maxLocals = 7 := hml0
  have hown : s.vm.findClass "java/lang/StringUTF16" = some m.cls := findClass_of_methodNamed Bd.named
  have hnm := (name_of_methodNamed Bd.named Bd.method).1
  have hlk : meth.locks = false := BodyLoose.notSynchronized Bd
  have hrt := Bd.returns
  have X0 : Stand p l e ({ frames := 0, cells := 0, slots := 0, locals := 0 } : Room) s m #[(.ref c0), (.int (0 : Int32)), (.ref d0), (.int (0 : Int32)), (.int (3 : Int32))] below meth c s₁ [] 0 0 := Stand.of_body Bd
  have e0 : s₁.heap = h0 := by rw [← hh, Bd.state]; rfl
  have N0 := Fr.nil n0
  refine Goes.enter (kc := ({ frames := 0, cells := 0, slots := 0, locals := 0 } : Room).cells) (kn := ({ frames := 0, cells := 0, slots := 0, locals := 0 } : Room).slots) (Q := own_c2_3_Q Z c0 d0 k1 v0 v1 v2 k2 h0 n0) (own_c2_3_ef m c0 d0) ?_
  refine Goes.step (B := (s₁.setTop (mkF m 1 #[.val (.ref c0), .val (.int (0 : Int32)), .val (.ref d0), .val (.int (0 : Int32)), .val (.int (3 : Int32)), .unset, .unset] [(.int (0 : Int32))]))) (fun _ k => XS.iconst X0.here hx rfl (hb hby d_jdk_52_method_21_code_0) k) ?_
  refine Goes.step (B := (s₁.setTop (mkF m 3 #[.val (.ref c0), .val (.int (0 : Int32)), .val (.ref d0), .val (.int (0 : Int32)), .val (.int (3 : Int32)), .val (.int (0 : Int32)), .unset] []))) (fun _ k => XS.istore X0.here hx rfl (hb hby d_jdk_52_method_21_code_1) rfl (l' := #[.val (.ref c0), .val (.int (0 : Int32)), .val (.ref d0), .val (.int (0 : Int32)), .val (.int (3 : Int32)), .val (.int (0 : Int32)), .unset]) rfl k) ?_
  refine Goes.step (B := (s₁.setTop (mkF m 5 #[.val (.ref c0), .val (.int (0 : Int32)), .val (.ref d0), .val (.int (0 : Int32)), .val (.int (3 : Int32)), .val (.int (0 : Int32)), .unset] [(.int (0 : Int32))]))) (fun _ k => XS.iload X0.here hx rfl (hb hby d_jdk_52_method_21_code_3) rfl k) ?_
  refine Goes.step (B := (s₁.setTop (mkF m 7 #[.val (.ref c0), .val (.int (0 : Int32)), .val (.ref d0), .val (.int (0 : Int32)), .val (.int (3 : Int32)), .val (.int (0 : Int32)), .unset] [(.int (3 : Int32)), (.int (0 : Int32))]))) (fun _ k => XS.iload X0.here hx rfl (hb hby d_jdk_52_method_21_code_5) rfl k) ?_
  have hc101 : (0 : Int32) < (3 : Int32) := by decide
  refine Goes.step (B := (s₁.setTop (mkF m 10 #[.val (.ref c0), .val (.int (0 : Int32)), .val (.ref d0), .val (.int (0 : Int32)), .val (.int (3 : Int32)), .val (.int (0 : Int32)), .unset] []))) (fun _ k => XS.icmpNo X0.here hx rfl (hb hby d_jdk_52_method_21_code_7) rfl (tlt hc101).2.1 k) ?_
  refine Goes.step (B := (s₁.setTop (mkF m 11 #[.val (.ref c0), .val (.int (0 : Int32)), .val (.ref d0), .val (.int (0 : Int32)), .val (.int (3 : Int32)), .val (.int (0 : Int32)), .unset] [(.ref c0)]))) (fun _ k => XS.aloadN X0.here hx rfl (hb hby d_jdk_52_method_21_code_10) rfl rfl k) ?_
  refine Goes.step (B := (s₁.setTop (mkF m 12 #[.val (.ref c0), .val (.int (0 : Int32)), .val (.ref d0), .val (.int (0 : Int32)), .val (.int (3 : Int32)), .val (.int (0 : Int32)), .unset] [(.int (0 : Int32)), (.ref c0)]))) (fun _ k => XS.iloadN X0.here hx rfl (hb hby d_jdk_52_method_21_code_11) rfl k) ?_
  obtain ⟨cl102, Ar102, q102, S102, M102, H102, G102⟩ := id pr0
  have hin102 : ¬ ((0 : Int32) < 0 ∨ cl102.slots.size ≤ ((0 : Int32)).toNatClampNeg) := inb_of S102 ⟨by decide, by decide⟩
  have hat102 : cl102.slots[((0 : Int32)).toNatClampNeg]? = some (.int v0) := H102 0 (by rw [S102]; decide)
  refine Goes.step (B := (s₁.setTop (mkF m 13 #[.val (.ref c0), .val (.int (0 : Int32)), .val (.ref d0), .val (.int (0 : Int32)), .val (.int (3 : Int32)), .val (.int (0 : Int32)), .unset] [(.int v0)]))) (fun _ k => X0.caload hx (j := (0 : Int32)) (v := (.int v0)) (by rw [e0]; exact Ar102.1) (State.isArrayOf_alike hZ.alike Ar102.2.1) Ar102.2.2 hin102 hat102 (g := (mkF m 12 #[.val (.ref c0), .val (.int (0 : Int32)), .val (.ref d0), .val (.int (0 : Int32)), .val (.int (3 : Int32)), .val (.int (0 : Int32)), .unset] [(.int (0 : Int32)), (.ref c0)])) rfl rfl (hb hby d_jdk_52_method_21_code_12) _ k) ?_
  refine Goes.step (B := (s₁.setTop (mkF m 15 #[.val (.ref c0), .val (.int (0 : Int32)), .val (.ref d0), .val (.int (0 : Int32)), .val (.int (3 : Int32)), .val (.int (0 : Int32)), .val (.int v0)] []))) (fun _ k => XS.istore X0.here hx rfl (hb hby d_jdk_52_method_21_code_13) rfl (l' := #[.val (.ref c0), .val (.int (0 : Int32)), .val (.ref d0), .val (.int (0 : Int32)), .val (.int (3 : Int32)), .val (.int (0 : Int32)), .val (.int v0)]) rfl k) ?_
  refine Goes.step (B := (s₁.setTop (mkF m 17 #[.val (.ref c0), .val (.int (0 : Int32)), .val (.ref d0), .val (.int (0 : Int32)), .val (.int (3 : Int32)), .val (.int (0 : Int32)), .val (.int v0)] [(.int v0)]))) (fun _ k => XS.iload X0.here hx rfl (hb hby d_jdk_52_method_21_code_15) rfl k) ?_
  refine Goes.step (B := (s₁.setTop (mkF m 20 #[.val (.ref c0), .val (.int (0 : Int32)), .val (.ref d0), .val (.int (0 : Int32)), .val (.int (3 : Int32)), .val (.int (0 : Int32)), .val (.int v0)] [(.int (255 : Int32)), (.int v0)]))) (fun _ k => XS.sipush X0.here hx rfl (hb hby d_jdk_52_method_21_code_17) k) ?_
  have hc103 : ¬ ((255 : Int32) < v0) := hv0
  refine Goes.step (B := (s₁.setTop (mkF m 26 #[.val (.ref c0), .val (.int (0 : Int32)), .val (.ref d0), .val (.int (0 : Int32)), .val (.int (3 : Int32)), .val (.int (0 : Int32)), .val (.int v0)] []))) (fun _ k => XS.icmpYes X0.here hx rfl (pc0 := 20) (pc' := 26) rfl (hb hby d_jdk_52_method_21_code_20) rfl (flt hc103).2.2.2 (by decide) (by decide) k) ?_
  refine Goes.step (B := (s₁.setTop (mkF m 27 #[.val (.ref c0), .val (.int (0 : Int32)), .val (.ref d0), .val (.int (0 : Int32)), .val (.int (3 : Int32)), .val (.int (0 : Int32)), .val (.int v0)] [(.ref d0)]))) (fun _ k => XS.aloadN X0.here hx rfl (hb hby d_jdk_52_method_21_code_26) rfl rfl k) ?_
  refine Goes.step (B := (s₁.setTop (mkF m 28 #[.val (.ref c0), .val (.int (0 : Int32)), .val (.ref d0), .val (.int (0 : Int32)), .val (.int (3 : Int32)), .val (.int (0 : Int32)), .val (.int v0)] [(.int (0 : Int32)), (.ref d0)]))) (fun _ k => XS.iloadN X0.here hx rfl (hb hby d_jdk_52_method_21_code_27) rfl k) ?_
  refine Goes.step (B := (s₁.setTop (mkF m 30 #[.val (.ref c0), .val (.int (0 : Int32)), .val (.ref d0), .val (.int (0 : Int32)), .val (.int (3 : Int32)), .val (.int (0 : Int32)), .val (.int v0)] [(.int v0), (.int (0 : Int32)), (.ref d0)]))) (fun _ k => XS.iload X0.here hx rfl (hb hby d_jdk_52_method_21_code_28) rfl k) ?_
  refine Goes.step (B := (s₁.setTop (mkF m 31 #[.val (.ref c0), .val (.int (0 : Int32)), .val (.ref d0), .val (.int (0 : Int32)), .val (.int (3 : Int32)), .val (.int (0 : Int32)), .val (.int v0)] [(.int v0.toInt8.toInt32), (.int (0 : Int32)), (.ref d0)]))) (fun _ k => XS.i2b X0.here hx rfl (hb hby d_jdk_52_method_21_code_30) rfl k) ?_
  obtain ⟨cl104, Ar104, q104, S104, M104, H104, G104⟩ := id pr1
  have hin104 : ¬ ((0 : Int32) < 0 ∨ cl104.slots.size ≤ ((0 : Int32)).toNatClampNeg) := inb_of S104 ⟨by decide, by decide⟩
  obtain ⟨T104, h104, X104, e104, W104, st104⟩ := stB X0 hx hZ e0 Ar104 (j := (0 : Int32)) hin104 (g := (mkF m 31 #[.val (.ref c0), .val (.int (0 : Int32)), .val (.ref d0), .val (.int (0 : Int32)), .val (.int (3 : Int32)), .val (.int (0 : Int32)), .val (.int v0)] [(.int v0.toInt8.toInt32), (.int (0 : Int32)), (.ref d0)])) rfl rfl (hb hby d_jdk_52_method_21_code_31)
  have f105 := pr0.other W104 pr3
  have N104 := Fr.snoc X104 N0 pr2
  have K104 : Keep h0 h104 [d0] := (Keep.refl h0 [d0]).wr W104 (Or.inl (List.mem_of_getElem? (i := 0) rfl))
  have Z104 : n0 ≤ h104.size := Nat.le_trans Z0 (Nat.le_of_eq W104.size.symm)
  have V104 : Arv Z h104 d0 k2 .byte (3 : Int32) [(.int (nar .byte v0.toInt8.toInt32)), (.int (0 : Int32)), (.int (0 : Int32))] (.int (0 : Int32)) := Arv.set Ar104 q104 S104 M104 H104 G104 (fits_nar_byte _) W104 0 rfl (Nat.le_of_ble_eq_true rfl)
  refine Goes.step (B := (T104.setTop (mkF m 32 #[.val (.ref c0), .val (.int (0 : Int32)), .val (.ref d0), .val (.int (0 : Int32)), .val (.int (3 : Int32)), .val (.int (0 : Int32)), .val (.int v0)] []))) (fun _ k => st104 _ k) ?_
  refine Goes.step (B := (T104.setTop (mkF m 35 #[.val (.ref c0), .val (.int (1 : Int32)), .val (.ref d0), .val (.int (0 : Int32)), .val (.int (3 : Int32)), .val (.int (0 : Int32)), .val (.int v0)] []))) (fun _ k => XS.iinc X104.here hx rfl (hb hby d_jdk_52_method_21_code_32) rfl (l' := #[.val (.ref c0), .val (.int (1 : Int32)), .val (.ref d0), .val (.int (0 : Int32)), .val (.int (3 : Int32)), .val (.int (0 : Int32)), .val (.int v0)]) rfl k) ?_
  refine Goes.step (B := (T104.setTop (mkF m 38 #[.val (.ref c0), .val (.int (1 : Int32)), .val (.ref d0), .val (.int (1 : Int32)), .val (.int (3 : Int32)), .val (.int (0 : Int32)), .val (.int v0)] []))) (fun _ k => XS.iinc X104.here hx rfl (hb hby d_jdk_52_method_21_code_35) rfl (l' := #[.val (.ref c0), .val (.int (1 : Int32)), .val (.ref d0), .val (.int (1 : Int32)), .val (.int (3 : Int32)), .val (.int (0 : Int32)), .val (.int v0)]) rfl k) ?_
  refine Goes.step (B := (T104.setTop (mkF m 41 #[.val (.ref c0), .val (.int (1 : Int32)), .val (.ref d0), .val (.int (1 : Int32)), .val (.int (3 : Int32)), .val (.int (1 : Int32)), .val (.int v0)] []))) (fun _ k => XS.iinc X104.here hx rfl (hb hby d_jdk_52_method_21_code_38) rfl (l' := #[.val (.ref c0), .val (.int (1 : Int32)), .val (.ref d0), .val (.int (1 : Int32)), .val (.int (3 : Int32)), .val (.int (1 : Int32)), .val (.int v0)]) rfl k) ?_
  refine Goes.step (B := (T104.setTop (mkF m 3 #[.val (.ref c0), .val (.int (1 : Int32)), .val (.ref d0), .val (.int (1 : Int32)), .val (.int (3 : Int32)), .val (.int (1 : Int32)), .val (.int v0)] []))) (fun _ k => XS.goto X104.here hx rfl (pc0 := 41) (pc' := 3) rfl (hb hby d_jdk_52_method_21_code_41) (by decide) (by decide) k) ?_
  refine Goes.step (B := (T104.setTop (mkF m 5 #[.val (.ref c0), .val (.int (1 : Int32)), .val (.ref d0), .val (.int (1 : Int32)), .val (.int (3 : Int32)), .val (.int (1 : Int32)), .val (.int v0)] [(.int (1 : Int32))]))) (fun _ k => XS.iload X104.here hx rfl (hb hby d_jdk_52_method_21_code_3) rfl k) ?_
  refine Goes.step (B := (T104.setTop (mkF m 7 #[.val (.ref c0), .val (.int (1 : Int32)), .val (.ref d0), .val (.int (1 : Int32)), .val (.int (3 : Int32)), .val (.int (1 : Int32)), .val (.int v0)] [(.int (3 : Int32)), (.int (1 : Int32))]))) (fun _ k => XS.iload X104.here hx rfl (hb hby d_jdk_52_method_21_code_5) rfl k) ?_
  have hc106 : (1 : Int32) < (3 : Int32) := by decide
  refine Goes.step (B := (T104.setTop (mkF m 10 #[.val (.ref c0), .val (.int (1 : Int32)), .val (.ref d0), .val (.int (1 : Int32)), .val (.int (3 : Int32)), .val (.int (1 : Int32)), .val (.int v0)] []))) (fun _ k => XS.icmpNo X104.here hx rfl (hb hby d_jdk_52_method_21_code_7) rfl (tlt hc106).2.1 k) ?_
  refine Goes.step (B := (T104.setTop (mkF m 11 #[.val (.ref c0), .val (.int (1 : Int32)), .val (.ref d0), .val (.int (1 : Int32)), .val (.int (3 : Int32)), .val (.int (1 : Int32)), .val (.int v0)] [(.ref c0)]))) (fun _ k => XS.aloadN X104.here hx rfl (hb hby d_jdk_52_method_21_code_10) rfl rfl k) ?_
  refine Goes.step (B := (T104.setTop (mkF m 12 #[.val (.ref c0), .val (.int (1 : Int32)), .val (.ref d0), .val (.int (1 : Int32)), .val (.int (3 : Int32)), .val (.int (1 : Int32)), .val (.int v0)] [(.int (1 : Int32)), (.ref c0)]))) (fun _ k => XS.iloadN X104.here hx rfl (hb hby d_jdk_52_method_21_code_11) rfl k) ?_
  obtain ⟨cl107, Ar107, q107, S107, M107, H107, G107⟩ := id f105
  have hin107 : ¬ ((1 : Int32) < 0 ∨ cl107.slots.size ≤ ((1 : Int32)).toNatClampNeg) := inb_of S107 ⟨by decide, by decide⟩
  have hat107 : cl107.slots[((1 : Int32)).toNatClampNeg]? = some (.int v1) := H107 1 (by rw [S107]; decide)
  refine Goes.step (B := (T104.setTop (mkF m 13 #[.val (.ref c0), .val (.int (1 : Int32)), .val (.ref d0), .val (.int (1 : Int32)), .val (.int (3 : Int32)), .val (.int (1 : Int32)), .val (.int v0)] [(.int v1)]))) (fun _ k => X104.caload hx (j := (1 : Int32)) (v := (.int v1)) (by rw [e104]; exact Ar107.1) (State.isArrayOf_alike hZ.alike Ar107.2.1) Ar107.2.2 hin107 hat107 (g := (mkF m 12 #[.val (.ref c0), .val (.int (1 : Int32)), .val (.ref d0), .val (.int (1 : Int32)), .val (.int (3 : Int32)), .val (.int (1 : Int32)), .val (.int v0)] [(.int (1 : Int32)), (.ref c0)])) rfl rfl (hb hby d_jdk_52_method_21_code_12) _ k) ?_
  refine Goes.step (B := (T104.setTop (mkF m 15 #[.val (.ref c0), .val (.int (1 : Int32)), .val (.ref d0), .val (.int (1 : Int32)), .val (.int (3 : Int32)), .val (.int (1 : Int32)), .val (.int v1)] []))) (fun _ k => XS.istore X104.here hx rfl (hb hby d_jdk_52_method_21_code_13) rfl (l' := #[.val (.ref c0), .val (.int (1 : Int32)), .val (.ref d0), .val (.int (1 : Int32)), .val (.int (3 : Int32)), .val (.int (1 : Int32)), .val (.int v1)]) rfl k) ?_
  refine Goes.step (B := (T104.setTop (mkF m 17 #[.val (.ref c0), .val (.int (1 : Int32)), .val (.ref d0), .val (.int (1 : Int32)), .val (.int (3 : Int32)), .val (.int (1 : Int32)), .val (.int v1)] [(.int v1)]))) (fun _ k => XS.iload X104.here hx rfl (hb hby d_jdk_52_method_21_code_15) rfl k) ?_
  refine Goes.step (B := (T104.setTop (mkF m 20 #[.val (.ref c0), .val (.int (1 : Int32)), .val (.ref d0), .val (.int (1 : Int32)), .val (.int (3 : Int32)), .val (.int (1 : Int32)), .val (.int v1)] [(.int (255 : Int32)), (.int v1)]))) (fun _ k => XS.sipush X104.here hx rfl (hb hby d_jdk_52_method_21_code_17) k) ?_
  have hc108 : ¬ ((255 : Int32) < v1) := hv1
  refine Goes.step (B := (T104.setTop (mkF m 26 #[.val (.ref c0), .val (.int (1 : Int32)), .val (.ref d0), .val (.int (1 : Int32)), .val (.int (3 : Int32)), .val (.int (1 : Int32)), .val (.int v1)] []))) (fun _ k => XS.icmpYes X104.here hx rfl (pc0 := 20) (pc' := 26) rfl (hb hby d_jdk_52_method_21_code_20) rfl (flt hc108).2.2.2 (by decide) (by decide) k) ?_
  refine Goes.step (B := (T104.setTop (mkF m 27 #[.val (.ref c0), .val (.int (1 : Int32)), .val (.ref d0), .val (.int (1 : Int32)), .val (.int (3 : Int32)), .val (.int (1 : Int32)), .val (.int v1)] [(.ref d0)]))) (fun _ k => XS.aloadN X104.here hx rfl (hb hby d_jdk_52_method_21_code_26) rfl rfl k) ?_
  refine Goes.step (B := (T104.setTop (mkF m 28 #[.val (.ref c0), .val (.int (1 : Int32)), .val (.ref d0), .val (.int (1 : Int32)), .val (.int (3 : Int32)), .val (.int (1 : Int32)), .val (.int v1)] [(.int (1 : Int32)), (.ref d0)]))) (fun _ k => XS.iloadN X104.here hx rfl (hb hby d_jdk_52_method_21_code_27) rfl k) ?_
  refine Goes.step (B := (T104.setTop (mkF m 30 #[.val (.ref c0), .val (.int (1 : Int32)), .val (.ref d0), .val (.int (1 : Int32)), .val (.int (3 : Int32)), .val (.int (1 : Int32)), .val (.int v1)] [(.int v1), (.int (1 : Int32)), (.ref d0)]))) (fun _ k => XS.iload X104.here hx rfl (hb hby d_jdk_52_method_21_code_28) rfl k) ?_
  refine Goes.step (B := (T104.setTop (mkF m 31 #[.val (.ref c0), .val (.int (1 : Int32)), .val (.ref d0), .val (.int (1 : Int32)), .val (.int (3 : Int32)), .val (.int (1 : Int32)), .val (.int v1)] [(.int v1.toInt8.toInt32), (.int (1 : Int32)), (.ref d0)]))) (fun _ k => XS.i2b X104.here hx rfl (hb hby d_jdk_52_method_21_code_30) rfl k) ?_
  obtain ⟨cl109, Ar109, q109, S109, M109, H109, G109⟩ := id V104
  have hin109 : ¬ ((1 : Int32) < 0 ∨ cl109.slots.size ≤ ((1 : Int32)).toNatClampNeg) := inb_of S109 ⟨by decide, by decide⟩
  obtain ⟨T109, h109, X109, e109, W109, st109⟩ := stB X104 hx hZ e104 Ar109 (j := (1 : Int32)) hin109 (g := (mkF m 31 #[.val (.ref c0), .val (.int (1 : Int32)), .val (.ref d0), .val (.int (1 : Int32)), .val (.int (3 : Int32)), .val (.int (1 : Int32)), .val (.int v1)] [(.int v1.toInt8.toInt32), (.int (1 : Int32)), (.ref d0)])) rfl rfl (hb hby d_jdk_52_method_21_code_31)
  have f110 := f105.other W109 pr3
  have N109 := Fr.snoc X109 N104 pr2
  have K109 : Keep h0 h109 [d0] := K104.wr W109 (Or.inl (List.mem_of_getElem? (i := 0) rfl))
  have Z109 : n0 ≤ h109.size := Nat.le_trans Z104 (Nat.le_of_eq W109.size.symm)
  have V109 : Arv Z h109 d0 k2 .byte (3 : Int32) [(.int (nar .byte v0.toInt8.toInt32)), (.int (nar .byte v1.toInt8.toInt32)), (.int (0 : Int32))] (.int (0 : Int32)) := Arv.set Ar109 q109 S109 M109 H109 G109 (fits_nar_byte _) W109 1 rfl (Nat.le_of_ble_eq_true rfl)
  refine Goes.step (B := (T109.setTop (mkF m 32 #[.val (.ref c0), .val (.int (1 : Int32)), .val (.ref d0), .val (.int (1 : Int32)), .val (.int (3 : Int32)), .val (.int (1 : Int32)), .val (.int v1)] []))) (fun _ k => st109 _ k) ?_
  refine Goes.step (B := (T109.setTop (mkF m 35 #[.val (.ref c0), .val (.int (2 : Int32)), .val (.ref d0), .val (.int (1 : Int32)), .val (.int (3 : Int32)), .val (.int (1 : Int32)), .val (.int v1)] []))) (fun _ k => XS.iinc X109.here hx rfl (hb hby d_jdk_52_method_21_code_32) rfl (l' := #[.val (.ref c0), .val (.int (2 : Int32)), .val (.ref d0), .val (.int (1 : Int32)), .val (.int (3 : Int32)), .val (.int (1 : Int32)), .val (.int v1)]) rfl k) ?_
  refine Goes.step (B := (T109.setTop (mkF m 38 #[.val (.ref c0), .val (.int (2 : Int32)), .val (.ref d0), .val (.int (2 : Int32)), .val (.int (3 : Int32)), .val (.int (1 : Int32)), .val (.int v1)] []))) (fun _ k => XS.iinc X109.here hx rfl (hb hby d_jdk_52_method_21_code_35) rfl (l' := #[.val (.ref c0), .val (.int (2 : Int32)), .val (.ref d0), .val (.int (2 : Int32)), .val (.int (3 : Int32)), .val (.int (1 : Int32)), .val (.int v1)]) rfl k) ?_
  refine Goes.step (B := (T109.setTop (mkF m 41 #[.val (.ref c0), .val (.int (2 : Int32)), .val (.ref d0), .val (.int (2 : Int32)), .val (.int (3 : Int32)), .val (.int (2 : Int32)), .val (.int v1)] []))) (fun _ k => XS.iinc X109.here hx rfl (hb hby d_jdk_52_method_21_code_38) rfl (l' := #[.val (.ref c0), .val (.int (2 : Int32)), .val (.ref d0), .val (.int (2 : Int32)), .val (.int (3 : Int32)), .val (.int (2 : Int32)), .val (.int v1)]) rfl k) ?_
  refine Goes.step (B := (T109.setTop (mkF m 3 #[.val (.ref c0), .val (.int (2 : Int32)), .val (.ref d0), .val (.int (2 : Int32)), .val (.int (3 : Int32)), .val (.int (2 : Int32)), .val (.int v1)] []))) (fun _ k => XS.goto X109.here hx rfl (pc0 := 41) (pc' := 3) rfl (hb hby d_jdk_52_method_21_code_41) (by decide) (by decide) k) ?_
  refine Goes.step (B := (T109.setTop (mkF m 5 #[.val (.ref c0), .val (.int (2 : Int32)), .val (.ref d0), .val (.int (2 : Int32)), .val (.int (3 : Int32)), .val (.int (2 : Int32)), .val (.int v1)] [(.int (2 : Int32))]))) (fun _ k => XS.iload X109.here hx rfl (hb hby d_jdk_52_method_21_code_3) rfl k) ?_
  refine Goes.step (B := (T109.setTop (mkF m 7 #[.val (.ref c0), .val (.int (2 : Int32)), .val (.ref d0), .val (.int (2 : Int32)), .val (.int (3 : Int32)), .val (.int (2 : Int32)), .val (.int v1)] [(.int (3 : Int32)), (.int (2 : Int32))]))) (fun _ k => XS.iload X109.here hx rfl (hb hby d_jdk_52_method_21_code_5) rfl k) ?_
  have hc111 : (2 : Int32) < (3 : Int32) := by decide
  refine Goes.step (B := (T109.setTop (mkF m 10 #[.val (.ref c0), .val (.int (2 : Int32)), .val (.ref d0), .val (.int (2 : Int32)), .val (.int (3 : Int32)), .val (.int (2 : Int32)), .val (.int v1)] []))) (fun _ k => XS.icmpNo X109.here hx rfl (hb hby d_jdk_52_method_21_code_7) rfl (tlt hc111).2.1 k) ?_
  refine Goes.step (B := (T109.setTop (mkF m 11 #[.val (.ref c0), .val (.int (2 : Int32)), .val (.ref d0), .val (.int (2 : Int32)), .val (.int (3 : Int32)), .val (.int (2 : Int32)), .val (.int v1)] [(.ref c0)]))) (fun _ k => XS.aloadN X109.here hx rfl (hb hby d_jdk_52_method_21_code_10) rfl rfl k) ?_
  refine Goes.step (B := (T109.setTop (mkF m 12 #[.val (.ref c0), .val (.int (2 : Int32)), .val (.ref d0), .val (.int (2 : Int32)), .val (.int (3 : Int32)), .val (.int (2 : Int32)), .val (.int v1)] [(.int (2 : Int32)), (.ref c0)]))) (fun _ k => XS.iloadN X109.here hx rfl (hb hby d_jdk_52_method_21_code_11) rfl k) ?_
  obtain ⟨cl112, Ar112, q112, S112, M112, H112, G112⟩ := id f110
  have hin112 : ¬ ((2 : Int32) < 0 ∨ cl112.slots.size ≤ ((2 : Int32)).toNatClampNeg) := inb_of S112 ⟨by decide, by decide⟩
  have hat112 : cl112.slots[((2 : Int32)).toNatClampNeg]? = some (.int v2) := H112 2 (by rw [S112]; decide)
  refine Goes.step (B := (T109.setTop (mkF m 13 #[.val (.ref c0), .val (.int (2 : Int32)), .val (.ref d0), .val (.int (2 : Int32)), .val (.int (3 : Int32)), .val (.int (2 : Int32)), .val (.int v1)] [(.int v2)]))) (fun _ k => X109.caload hx (j := (2 : Int32)) (v := (.int v2)) (by rw [e109]; exact Ar112.1) (State.isArrayOf_alike hZ.alike Ar112.2.1) Ar112.2.2 hin112 hat112 (g := (mkF m 12 #[.val (.ref c0), .val (.int (2 : Int32)), .val (.ref d0), .val (.int (2 : Int32)), .val (.int (3 : Int32)), .val (.int (2 : Int32)), .val (.int v1)] [(.int (2 : Int32)), (.ref c0)])) rfl rfl (hb hby d_jdk_52_method_21_code_12) _ k) ?_
  refine Goes.step (B := (T109.setTop (mkF m 15 #[.val (.ref c0), .val (.int (2 : Int32)), .val (.ref d0), .val (.int (2 : Int32)), .val (.int (3 : Int32)), .val (.int (2 : Int32)), .val (.int v2)] []))) (fun _ k => XS.istore X109.here hx rfl (hb hby d_jdk_52_method_21_code_13) rfl (l' := #[.val (.ref c0), .val (.int (2 : Int32)), .val (.ref d0), .val (.int (2 : Int32)), .val (.int (3 : Int32)), .val (.int (2 : Int32)), .val (.int v2)]) rfl k) ?_
  refine Goes.step (B := (T109.setTop (mkF m 17 #[.val (.ref c0), .val (.int (2 : Int32)), .val (.ref d0), .val (.int (2 : Int32)), .val (.int (3 : Int32)), .val (.int (2 : Int32)), .val (.int v2)] [(.int v2)]))) (fun _ k => XS.iload X109.here hx rfl (hb hby d_jdk_52_method_21_code_15) rfl k) ?_
  refine Goes.step (B := (T109.setTop (mkF m 20 #[.val (.ref c0), .val (.int (2 : Int32)), .val (.ref d0), .val (.int (2 : Int32)), .val (.int (3 : Int32)), .val (.int (2 : Int32)), .val (.int v2)] [(.int (255 : Int32)), (.int v2)]))) (fun _ k => XS.sipush X109.here hx rfl (hb hby d_jdk_52_method_21_code_17) k) ?_
  have hc113 : ¬ ((255 : Int32) < v2) := hv2
  refine Goes.step (B := (T109.setTop (mkF m 26 #[.val (.ref c0), .val (.int (2 : Int32)), .val (.ref d0), .val (.int (2 : Int32)), .val (.int (3 : Int32)), .val (.int (2 : Int32)), .val (.int v2)] []))) (fun _ k => XS.icmpYes X109.here hx rfl (pc0 := 20) (pc' := 26) rfl (hb hby d_jdk_52_method_21_code_20) rfl (flt hc113).2.2.2 (by decide) (by decide) k) ?_
  refine Goes.step (B := (T109.setTop (mkF m 27 #[.val (.ref c0), .val (.int (2 : Int32)), .val (.ref d0), .val (.int (2 : Int32)), .val (.int (3 : Int32)), .val (.int (2 : Int32)), .val (.int v2)] [(.ref d0)]))) (fun _ k => XS.aloadN X109.here hx rfl (hb hby d_jdk_52_method_21_code_26) rfl rfl k) ?_
  refine Goes.step (B := (T109.setTop (mkF m 28 #[.val (.ref c0), .val (.int (2 : Int32)), .val (.ref d0), .val (.int (2 : Int32)), .val (.int (3 : Int32)), .val (.int (2 : Int32)), .val (.int v2)] [(.int (2 : Int32)), (.ref d0)]))) (fun _ k => XS.iloadN X109.here hx rfl (hb hby d_jdk_52_method_21_code_27) rfl k) ?_
  refine Goes.step (B := (T109.setTop (mkF m 30 #[.val (.ref c0), .val (.int (2 : Int32)), .val (.ref d0), .val (.int (2 : Int32)), .val (.int (3 : Int32)), .val (.int (2 : Int32)), .val (.int v2)] [(.int v2), (.int (2 : Int32)), (.ref d0)]))) (fun _ k => XS.iload X109.here hx rfl (hb hby d_jdk_52_method_21_code_28) rfl k) ?_
  refine Goes.step (B := (T109.setTop (mkF m 31 #[.val (.ref c0), .val (.int (2 : Int32)), .val (.ref d0), .val (.int (2 : Int32)), .val (.int (3 : Int32)), .val (.int (2 : Int32)), .val (.int v2)] [(.int v2.toInt8.toInt32), (.int (2 : Int32)), (.ref d0)]))) (fun _ k => XS.i2b X109.here hx rfl (hb hby d_jdk_52_method_21_code_30) rfl k) ?_
  obtain ⟨cl114, Ar114, q114, S114, M114, H114, G114⟩ := id V109
  have hin114 : ¬ ((2 : Int32) < 0 ∨ cl114.slots.size ≤ ((2 : Int32)).toNatClampNeg) := inb_of S114 ⟨by decide, by decide⟩
  obtain ⟨T114, h114, X114, e114, W114, st114⟩ := stB X109 hx hZ e109 Ar114 (j := (2 : Int32)) hin114 (g := (mkF m 31 #[.val (.ref c0), .val (.int (2 : Int32)), .val (.ref d0), .val (.int (2 : Int32)), .val (.int (3 : Int32)), .val (.int (2 : Int32)), .val (.int v2)] [(.int v2.toInt8.toInt32), (.int (2 : Int32)), (.ref d0)])) rfl rfl (hb hby d_jdk_52_method_21_code_31)
  have f115 := f110.other W114 pr3
  have N114 := Fr.snoc X114 N109 pr2
  have K114 : Keep h0 h114 [d0] := K109.wr W114 (Or.inl (List.mem_of_getElem? (i := 0) rfl))
  have Z114 : n0 ≤ h114.size := Nat.le_trans Z109 (Nat.le_of_eq W114.size.symm)
  have V114 : Arv Z h114 d0 k2 .byte (3 : Int32) [(.int (nar .byte v0.toInt8.toInt32)), (.int (nar .byte v1.toInt8.toInt32)), (.int (nar .byte v2.toInt8.toInt32))] (.int (0 : Int32)) := Arv.set Ar114 q114 S114 M114 H114 G114 (fits_nar_byte _) W114 2 rfl (Nat.le_of_ble_eq_true rfl)
  refine Goes.step (B := (T114.setTop (mkF m 32 #[.val (.ref c0), .val (.int (2 : Int32)), .val (.ref d0), .val (.int (2 : Int32)), .val (.int (3 : Int32)), .val (.int (2 : Int32)), .val (.int v2)] []))) (fun _ k => st114 _ k) ?_
  refine Goes.step (B := (T114.setTop (mkF m 35 #[.val (.ref c0), .val (.int (3 : Int32)), .val (.ref d0), .val (.int (2 : Int32)), .val (.int (3 : Int32)), .val (.int (2 : Int32)), .val (.int v2)] []))) (fun _ k => XS.iinc X114.here hx rfl (hb hby d_jdk_52_method_21_code_32) rfl (l' := #[.val (.ref c0), .val (.int (3 : Int32)), .val (.ref d0), .val (.int (2 : Int32)), .val (.int (3 : Int32)), .val (.int (2 : Int32)), .val (.int v2)]) rfl k) ?_
  refine Goes.step (B := (T114.setTop (mkF m 38 #[.val (.ref c0), .val (.int (3 : Int32)), .val (.ref d0), .val (.int (3 : Int32)), .val (.int (3 : Int32)), .val (.int (2 : Int32)), .val (.int v2)] []))) (fun _ k => XS.iinc X114.here hx rfl (hb hby d_jdk_52_method_21_code_35) rfl (l' := #[.val (.ref c0), .val (.int (3 : Int32)), .val (.ref d0), .val (.int (3 : Int32)), .val (.int (3 : Int32)), .val (.int (2 : Int32)), .val (.int v2)]) rfl k) ?_
  refine Goes.step (B := (T114.setTop (mkF m 41 #[.val (.ref c0), .val (.int (3 : Int32)), .val (.ref d0), .val (.int (3 : Int32)), .val (.int (3 : Int32)), .val (.int (3 : Int32)), .val (.int v2)] []))) (fun _ k => XS.iinc X114.here hx rfl (hb hby d_jdk_52_method_21_code_38) rfl (l' := #[.val (.ref c0), .val (.int (3 : Int32)), .val (.ref d0), .val (.int (3 : Int32)), .val (.int (3 : Int32)), .val (.int (3 : Int32)), .val (.int v2)]) rfl k) ?_
  refine Goes.step (B := (T114.setTop (mkF m 3 #[.val (.ref c0), .val (.int (3 : Int32)), .val (.ref d0), .val (.int (3 : Int32)), .val (.int (3 : Int32)), .val (.int (3 : Int32)), .val (.int v2)] []))) (fun _ k => XS.goto X114.here hx rfl (pc0 := 41) (pc' := 3) rfl (hb hby d_jdk_52_method_21_code_41) (by decide) (by decide) k) ?_
  refine Goes.step (B := (T114.setTop (mkF m 5 #[.val (.ref c0), .val (.int (3 : Int32)), .val (.ref d0), .val (.int (3 : Int32)), .val (.int (3 : Int32)), .val (.int (3 : Int32)), .val (.int v2)] [(.int (3 : Int32))]))) (fun _ k => XS.iload X114.here hx rfl (hb hby d_jdk_52_method_21_code_3) rfl k) ?_
  refine Goes.step (B := (T114.setTop (mkF m 7 #[.val (.ref c0), .val (.int (3 : Int32)), .val (.ref d0), .val (.int (3 : Int32)), .val (.int (3 : Int32)), .val (.int (3 : Int32)), .val (.int v2)] [(.int (3 : Int32)), (.int (3 : Int32))]))) (fun _ k => XS.iload X114.here hx rfl (hb hby d_jdk_52_method_21_code_5) rfl k) ?_
  have hc116 : ¬ ((3 : Int32) < (3 : Int32)) := by decide
  refine Goes.step (B := (T114.setTop (mkF m 44 #[.val (.ref c0), .val (.int (3 : Int32)), .val (.ref d0), .val (.int (3 : Int32)), .val (.int (3 : Int32)), .val (.int (3 : Int32)), .val (.int v2)] []))) (fun _ k => XS.icmpYes X114.here hx rfl (pc0 := 7) (pc' := 44) rfl (hb hby d_jdk_52_method_21_code_7) rfl (flt hc116).2.1 (by decide) (by decide) k) ?_
  refine Goes.step (B := (T114.setTop (mkF m 46 #[.val (.ref c0), .val (.int (3 : Int32)), .val (.ref d0), .val (.int (3 : Int32)), .val (.int (3 : Int32)), .val (.int (3 : Int32)), .val (.int v2)] [(.int (3 : Int32))]))) (fun _ k => XS.iload X114.here hx rfl (hb hby d_jdk_52_method_21_code_44) rfl k) ?_
  refine Goes.retI X114 hx hlk hrt (hb hby d_jdk_52_method_21_code_46) ?_ (by decide) (by decide)
  rw [e114]
  exact ⟨rfl, N114, K114, V114⟩
def own_c1_3_Q (Z : State) (c0 : Addr) (k1 : ClassId) (v0 : Int32) (v1 : Int32) (v2 : Int32) (h0 : Heap) (n0 : Nat) (v : Option Value) (h : Heap) (L : List Loc) : Prop := ∃ (b : Addr), ∃ (k2 : ClassId), (v = some (.ref b)) ∧ (Fr n0 L) ∧ (Keep h0 h []) ∧ (n0 ≤ b) ∧ (h0.size ≤ b) ∧ (Arv Z h b k2 .byte (3 : Int32) [(.int (nar .byte v0.toInt8.toInt32)), (.int (nar .byte v1.toInt8.toInt32)), (.int (nar .byte v2.toInt8.toInt32))] (.int (0 : Int32)))
theorem own_c1_3_ef (m : MethodId) (c0 : Addr) : entryFrame m #[(.ref c0), (.int (0 : Int32)), (.int (3 : Int32))] 6 = mkF m 0 #[.val (.ref c0), .val (.int (0 : Int32)), .val (.int (3 : Int32)), .unset, .unset, .unset] [] := by first | (simp [entryFrame, mkF, argsToLocals, Value.category]; done) | rfl
set_option maxRecDepth 65536 in
set_option maxHeartbeats 40000000 in
theorem own_c1_3_rm (l : Launch) (Z : State) (a0 : Array Value) (hw : ∀ d ∈ tables_1, d.before a0 Z = true) (ws : List Jvm.Cond) (c0 : Addr) (k1 : ClassId) (v0 : Int32) (v1 : Int32) (v2 : Int32) (h0 : Heap) (n0 : Nat) (Z0 : n0 ≤ h0.size) (pr0 : Arv Z h0 c0 k1 .char (3 : Int32) [(.int v0), (.int v1), (.int v2)] (.int (0 : Int32))) (hv0 : ¬ (255 : Int32) < v0) (hv1 : ¬ (255 : Int32) < v1) (hv2 : ¬ (255 : Int32) < v2) :
    MetFree l (⟨"java/lang/StringUTF16", "compress", "([CII)[B"⟩ : MethodName) (head1 (Jvm.Cond.code (⟨"java/lang/StringUTF16", "compress", "([CII)[B"⟩ : MethodName) jdk_52_method_16_code 6 (some (.array .byte)) :: ws) ({ frames := 1, cells := 1, slots := 3, locals := 18 } : Room)) (fun a U => a = #[(.ref c0), (.int (0 : Int32)), (.int (3 : Int32))] ∧ Z.Warmed39 U.vm ∧ U.heap = h0) (fun _ _ _ _ _ => True) (fun _ U o U' => ∃ v L, o = .returned v ∧ own_c1_3_Q Z c0 k1 v0 v1 v2 h0 n0 v U'.heap L ∧ FrameEnd U o U' L ({ frames := 1, cells := 1, slots := 3, locals := 18 } : Room).cells ({ frames := 1, cells := 1, slots := 3, locals := 18 } : Room).slots) := by
  refine MetFree.of_bodySF (plainFor_of_name pn_StringUTF16) hisR ?_
  intro p e s m args below meth c s₁ Bd hml0 hP hK
  obtain ⟨rfl, hZ, hh⟩ := hP
  have hx := Bd.exec
  have hby := Bd.bytes
  have hml : c.maxLocals = 6 := hml0
  have hown : s.vm.findClass "java/lang/StringUTF16" = some m.cls := findClass_of_methodNamed Bd.named
  have hnm := (name_of_methodNamed Bd.named Bd.method).1
  have hlk : meth.locks = false := BodyLoose.notSynchronized Bd
  have hrt := Bd.returns
  have X0 : Stand p l e ({ frames := 1, cells := 1, slots := 3, locals := 18 } : Room) s m #[(.ref c0), (.int (0 : Int32)), (.int (3 : Int32))] below meth c s₁ [] 0 0 := Stand.of_body Bd
  have e0 : s₁.heap = h0 := by rw [← hh, Bd.state]; rfl
  have N0 := Fr.nil n0
  refine Goes.enter (kc := ({ frames := 1, cells := 1, slots := 3, locals := 18 } : Room).cells) (kn := ({ frames := 1, cells := 1, slots := 3, locals := 18 } : Room).slots) (Q := own_c1_3_Q Z c0 k1 v0 v1 v2 h0 n0) (own_c1_3_ef m c0) ?_
  refine Goes.step (B := (s₁.setTop (mkF m 1 #[.val (.ref c0), .val (.int (0 : Int32)), .val (.int (3 : Int32)), .unset, .unset, .unset] [(.int (3 : Int32))]))) (fun _ k => XS.iloadN X0.here hx rfl (hb hby d_jdk_52_method_16_code_0) rfl k) ?_
  obtain ⟨T101, h101, k101, X101, e101, E101, A101, st101⟩ := newP X0 hx hZ (hw _ (List.mem_of_getElem? (i := 24) rfl)) e0 (g := (mkF m 1 #[.val (.ref c0), .val (.int (0 : Int32)), .val (.int (3 : Int32)), .unset, .unset, .unset] [(.int (3 : Int32))])) rfl (hb hby d_jdk_52_method_16_code_1) rfl (by decide) (cap := 3) (by decide) (by decide) (by decide) (by decide)
  obtain ⟨b101, g101⟩ : ∃ z, z = h0.size := ⟨_, rfl⟩
  rw [← g101] at A101 st101
  have gn101 : n0 ≤ b101 := Nat.le_trans Z0 (Nat.le_of_eq g101.symm)
  have sz101 : h0.size ≤ b101 := Nat.le_trans (Keep.refl h0 []).1 (Nat.le_of_eq g101.symm)
  have ne102 : c0 ≠ b101 := Nat.ne_of_lt (Nat.lt_of_lt_of_le pr0.lt (Nat.le_of_eq g101.symm))
  have f103 := pr0.ext E101
  have V101 : Arv Z h101 b101 k101 .byte (3 : Int32) [(.int (0 : Int32)), (.int (0 : Int32)), (.int (0 : Int32))] (.int (0 : Int32)) := (Arv.new A101 (by decide)).pad (pad_rep [] (.int (0 : Int32)) 3)
  have Z101 : n0 ≤ h101.size := Nat.le_trans Z0 E101.1
  have K101 : Keep h0 h101 [] := (Keep.refl h0 []).ext E101
  refine Goes.step (B := (T101.setTop (mkF m 3 #[.val (.ref c0), .val (.int (0 : Int32)), .val (.int (3 : Int32)), .unset, .unset, .unset] [(.ref b101)]))) (fun _ k => st101 _ k) ?_
  refine Goes.step (B := (T101.setTop (mkF m 4 #[.val (.ref c0), .val (.int (0 : Int32)), .val (.int (3 : Int32)), .val (.ref b101), .unset, .unset] []))) (fun _ k => XS.astoreN X101.here hx rfl (hb hby d_jdk_52_method_16_code_3) rfl rfl (l' := #[.val (.ref c0), .val (.int (0 : Int32)), .val (.int (3 : Int32)), .val (.ref b101), .unset, .unset]) rfl k) ?_
  refine Goes.step (B := (T101.setTop (mkF m 5 #[.val (.ref c0), .val (.int (0 : Int32)), .val (.int (3 : Int32)), .val (.ref b101), .unset, .unset] [(.ref c0)]))) (fun _ k => XS.aloadN X101.here hx rfl (hb hby d_jdk_52_method_16_code_4) rfl rfl k) ?_
  refine Goes.step (B := (T101.setTop (mkF m 6 #[.val (.ref c0), .val (.int (0 : Int32)), .val (.int (3 : Int32)), .val (.ref b101), .unset, .unset] [(.int (0 : Int32)), (.ref c0)]))) (fun _ k => XS.iloadN X101.here hx rfl (hb hby d_jdk_52_method_16_code_5) rfl k) ?_
  refine Goes.step (B := (T101.setTop (mkF m 7 #[.val (.ref c0), .val (.int (0 : Int32)), .val (.int (3 : Int32)), .val (.ref b101), .unset, .unset] [(.ref b101), (.int (0 : Int32)), (.ref c0)]))) (fun _ k => XS.aloadN X101.here hx rfl (hb hby d_jdk_52_method_16_code_6) rfl rfl k) ?_
  refine Goes.step (B := (T101.setTop (mkF m 8 #[.val (.ref c0), .val (.int (0 : Int32)), .val (.int (3 : Int32)), .val (.ref b101), .unset, .unset] [(.int (0 : Int32)), (.ref b101), (.int (0 : Int32)), (.ref c0)]))) (fun _ k => XS.iconst X101.here hx rfl (hb hby d_jdk_52_method_16_code_7) k) ?_
  refine Goes.step (B := (T101.setTop (mkF m 9 #[.val (.ref c0), .val (.int (0 : Int32)), .val (.int (3 : Int32)), .val (.ref b101), .unset, .unset] [(.int (3 : Int32)), (.int (0 : Int32)), (.ref b101), (.int (0 : Int32)), (.ref c0)]))) (fun _ k => XS.iloadN X101.here hx rfl (hb hby d_jdk_52_method_16_code_8) rfl k) ?_
  obtain ⟨_, _, ⟨T104, L104, k104, n104⟩, -, X104, ⟨Lc104, hQ104, l104, y104, z104⟩, st104⟩ := Jvm.LawKit.callS X101 hx (y := (⟨"java/lang/StringUTF16", "compress", "([CI[BII)I"⟩ : MethodName)) hown (mvT hZ (hw _ (List.mem_of_getElem? (i := 25) rfl))) (mvT hZ (hw _ (List.mem_of_getElem? (i := 26) rfl))) (mvT hZ (hw _ (List.mem_of_getElem? (i := 22) rfl))) (mvT hZ (hw _ (List.mem_of_getElem? (i := 27) rfl))) (by decide) (backOf (W := 0) (own_c2_3_rm l Z a0 hw [] c0 b101 k1 v0 v1 v2 k101 h101 n0 Z101 f103 V101 gn101 ne102 hv0 hv1 hv2) hZ (hw _ (List.mem_of_getElem? (i := 27) rfl)) (hw _ (List.mem_of_getElem? (i := 22) rfl)) (by decide) (by decide)) (g := (mkF m 9 #[.val (.ref c0), .val (.int (0 : Int32)), .val (.int (3 : Int32)), .val (.ref b101), .unset, .unset] [(.int (3 : Int32)), (.int (0 : Int32)), (.ref b101), (.int (0 : Int32)), (.ref c0)])) rfl (by rw [hml]; rfl) (argsL := [(.ref c0), (.int (0 : Int32)), (.ref b101), (.int (0 : Int32)), (.int (3 : Int32))]) (rest := []) (lenOf pd__ACIABII_I rfl) rfl (by show 2 * 0 + _ ≤ _; exact Nat.le_of_eq rfl) (hb hby d_jdk_52_method_16_code_9) (fun _ _ => ⟨rfl, e101, (by decide : 1 + 0 ≤ _), (by decide : 3 + 0 ≤ _)⟩)
  dsimp only [Pt.U, Pt.locs, Pt.cells, Pt.slots] at X104 l104 y104 z104 st104 hQ104
  subst l104 y104 z104
  obtain ⟨rfl, N104q, K104q, p104_0⟩ := hQ104
  have N104 := Fr.app N0 N104q
  have f105 := f103.keep K104q (nm1 ne102)
  have K104 : Keep h0 T104.heap [] := Keep.trans K101 K104q (fun y q => by cases List.mem_singleton.mp q; exact (Or.inr sz101))
  have Z104 : n0 ≤ T104.heap.size := Nat.le_trans Z101 K104q.1
  refine Goes.step (B := (T104.setTop (mkF m 12 #[.val (.ref c0), .val (.int (0 : Int32)), .val (.int (3 : Int32)), .val (.ref b101), .unset, .unset] [(.int (3 : Int32))]))) (fun _ k => st104 _ k) ?_
  refine Goes.step (B := (T104.setTop (mkF m 14 #[.val (.ref c0), .val (.int (0 : Int32)), .val (.int (3 : Int32)), .val (.ref b101), .val (.int (3 : Int32)), .unset] []))) (fun _ k => XS.istore X104.here hx rfl (hb hby d_jdk_52_method_16_code_12) rfl (l' := #[.val (.ref c0), .val (.int (0 : Int32)), .val (.int (3 : Int32)), .val (.ref b101), .val (.int (3 : Int32)), .unset]) rfl k) ?_
  refine Goes.step (B := (T104.setTop (mkF m 16 #[.val (.ref c0), .val (.int (0 : Int32)), .val (.int (3 : Int32)), .val (.ref b101), .val (.int (3 : Int32)), .unset] [(.int (3 : Int32))]))) (fun _ k => XS.iload X104.here hx rfl (hb hby d_jdk_52_method_16_code_14) rfl k) ?_
  refine Goes.step (B := (T104.setTop (mkF m 17 #[.val (.ref c0), .val (.int (0 : Int32)), .val (.int (3 : Int32)), .val (.ref b101), .val (.int (3 : Int32)), .unset] [(.int (3 : Int32)), (.int (3 : Int32))]))) (fun _ k => XS.iloadN X104.here hx rfl (hb hby d_jdk_52_method_16_code_16) rfl k) ?_
  have hc106 : (3 : Int32) = (3 : Int32) := by decide
  refine Goes.step (B := (T104.setTop (mkF m 57 #[.val (.ref c0), .val (.int (0 : Int32)), .val (.int (3 : Int32)), .val (.ref b101), .val (.int (3 : Int32)), .unset] []))) (fun _ k => XS.icmpYes X104.here hx rfl (pc0 := 17) (pc' := 57) rfl (hb hby d_jdk_52_method_16_code_17) rfl (teq hc106).1 (by decide) (by decide) k) ?_
  refine Goes.step (B := (T104.setTop (mkF m 58 #[.val (.ref c0), .val (.int (0 : Int32)), .val (.int (3 : Int32)), .val (.ref b101), .val (.int (3 : Int32)), .unset] [(.ref b101)]))) (fun _ k => XS.aloadN X104.here hx rfl (hb hby d_jdk_52_method_16_code_57) rfl rfl k) ?_
  refine Goes.retR X104 hx hlk hrt rfl rfl rfl (hb hby d_jdk_52_method_16_code_58) ?_ (by decide) (by decide)
  exact ⟨b101, k101, rfl, N104, K104, gn101, sz101, p104_0⟩
def own_cf_3_fn  : Int32 := (nar .byte (((0 : Int32).toUInt32 >>> ((31 : Int32) &&& 31).toUInt32).toInt32).toInt8.toInt32)
def own_cf_3_Q (Z : State) (d0 : Addr) (k2 : ClassId) (l2 : List Value) (h0 : Heap) (n0 : Nat) (v : Option Value) (h : Heap) (L : List Loc) : Prop := v = some (.int (own_cf_3_fn)) ∧ Fr n0 L ∧ h = h0
theorem own_cf_3_ef (m : MethodId) (d0 : Addr) : entryFrame m #[(.ref d0), (.int (3 : Int32))] 2 = mkF m 0 #[.val (.ref d0), .val (.int (3 : Int32))] [] := by first | (simp [entryFrame, mkF, argsToLocals, Value.category]; done) | rfl
set_option maxRecDepth 65536 in
set_option maxHeartbeats 40000000 in
theorem own_cf_3_rm (l : Launch) (Z : State) (a0 : Array Value) (hw : ∀ d ∈ tables_1, d.before a0 Z = true) (ws : List Jvm.Cond) (d0 : Addr) (k2 : ClassId) (l2 : List Value) (h0 : Heap) (n0 : Nat) (Z0 : n0 ≤ h0.size) (pr0 : Arv Z h0 d0 k2 .byte (3 : Int32) l2 (.int (0 : Int32))) :
    MetFree l (⟨"java/lang/StringUTF16", "coderFromArrayLen", "([BI)B"⟩ : MethodName) (head1 (Jvm.Cond.code (⟨"java/lang/StringUTF16", "coderFromArrayLen", "([BI)B"⟩ : MethodName) jdk_52_method_15_code 2 (some .byte) :: ws) ({ frames := 0, cells := 0, slots := 0, locals := 0 } : Room)) (fun a U => a = #[(.ref d0), (.int (3 : Int32))] ∧ Z.Warmed39 U.vm ∧ U.heap = h0) (fun _ _ _ _ _ => True) (fun _ U o U' => ∃ v L, o = .returned v ∧ own_cf_3_Q Z d0 k2 l2 h0 n0 v U'.heap L ∧ FrameEnd U o U' L ({ frames := 0, cells := 0, slots := 0, locals := 0 } : Room).cells ({ frames := 0, cells := 0, slots := 0, locals := 0 } : Room).slots) := by
  refine MetFree.of_bodySF (plainFor_of_name pn_StringUTF16) hisR ?_
  intro p e s m args below meth c s₁ Bd hml0 hP hK
  obtain ⟨rfl, hZ, hh⟩ := hP
  have hx := Bd.exec
  have hby := Bd.bytes
  have hml : c.maxLocals = 2 := hml0
  have hown : s.vm.findClass "java/lang/StringUTF16" = some m.cls := findClass_of_methodNamed Bd.named
  have hnm := (name_of_methodNamed Bd.named Bd.method).1
  have hlk : meth.locks = false := BodyLoose.notSynchronized Bd
  have hrt := Bd.returns
  have X0 : Stand p l e ({ frames := 0, cells := 0, slots := 0, locals := 0 } : Room) s m #[(.ref d0), (.int (3 : Int32))] below meth c s₁ [] 0 0 := Stand.of_body Bd
  have e0 : s₁.heap = h0 := by rw [← hh, Bd.state]; rfl
  have N0 := Fr.nil n0
  refine Goes.enter (kc := ({ frames := 0, cells := 0, slots := 0, locals := 0 } : Room).cells) (kn := ({ frames := 0, cells := 0, slots := 0, locals := 0 } : Room).slots) (Q := own_cf_3_Q Z d0 k2 l2 h0 n0) (own_cf_3_ef m d0) ?_
  refine Goes.step (B := (s₁.setTop (mkF m 1 #[.val (.ref d0), .val (.int (3 : Int32))] [(.int (3 : Int32))]))) (fun _ k => XS.iloadN X0.here hx rfl (hb hby d_jdk_52_method_15_code_0) rfl k) ?_
  refine Goes.step (B := (s₁.setTop (mkF m 2 #[.val (.ref d0), .val (.int (3 : Int32))] [(.ref d0), (.int (3 : Int32))]))) (fun _ k => XS.aloadN X0.here hx rfl (hb hby d_jdk_52_method_15_code_1) rfl rfl k) ?_
  obtain ⟨cl101, Ar101, q101, S101, M101, H101, G101⟩ := id pr0
  refine Goes.step (B := (s₁.setTop (mkF m 3 #[.val (.ref d0), .val (.int (3 : Int32))] [(.int (3 : Int32)), (.int (3 : Int32))]))) (fun _ k => X0.arraylength hx (by rw [e0]; exact Ar101.1) (State.isArrayOf_alike hZ.alike Ar101.2.1) (g := (mkF m 2 #[.val (.ref d0), .val (.int (3 : Int32))] [(.ref d0), (.int (3 : Int32))])) rfl rfl (hb hby d_jdk_52_method_15_code_2) _ (by rw [len_of S101 M101]; exact k)) ?_
  refine Goes.step (B := (s₁.setTop (mkF m 4 #[.val (.ref d0), .val (.int (3 : Int32))] [(.int (0 : Int32))]))) (fun _ k => XS.isub X0.here hx rfl (hb hby d_jdk_52_method_15_code_3) rfl k) ?_
  refine Goes.step (B := (s₁.setTop (mkF m 6 #[.val (.ref d0), .val (.int (3 : Int32))] [(.int (31 : Int32)), (.int (0 : Int32))]))) (fun _ k => XS.bipush X0.here hx rfl (hb hby d_jdk_52_method_15_code_4) k) ?_
  refine Goes.step (B := (s₁.setTop (mkF m 7 #[.val (.ref d0), .val (.int (3 : Int32))] [(.int ((0 : Int32).toUInt32 >>> ((31 : Int32) &&& 31).toUInt32).toInt32)]))) (fun _ k => XS.iushr X0.here hx rfl (hb hby d_jdk_52_method_15_code_6) rfl k) ?_
  refine Goes.step (B := (s₁.setTop (mkF m 8 #[.val (.ref d0), .val (.int (3 : Int32))] [(.int (((0 : Int32).toUInt32 >>> ((31 : Int32) &&& 31).toUInt32).toInt32).toInt8.toInt32)]))) (fun _ k => XS.i2b X0.here hx rfl (hb hby d_jdk_52_method_15_code_7) rfl k) ?_
  refine Goes.retN X0 hx hlk (t := .byte) hrt (by simp) (hb hby d_jdk_52_method_15_code_8) ?_ (by decide) (by decide)
  rw [e0]
  exact ⟨congrArg (fun z => some (Value.int z)) (show nar .byte (((0 : Int32).toUInt32 >>> ((31 : Int32) &&& 31).toUInt32).toInt32).toInt8.toInt32 = (own_cf_3_fn) from (show nar .byte (((0 : Int32).toUInt32 >>> ((31 : Int32) &&& 31).toUInt32).toInt32).toInt8.toInt32 = (nar .byte (((0 : Int32).toUInt32 >>> ((31 : Int32) &&& 31).toUInt32).toInt32).toInt8.toInt32) from rfl).trans (by simp only [own_cf_3_fn])), N0, rfl⟩
def own_s4_3_Q (Z : State) (o0 : Addr) (c0 : Addr) (w0 : Int32) (k1 : ClassId) (v0 : Int32) (v1 : Int32) (v2 : Int32) (h0 : Heap) (n0 : Nat) (v : Option Value) (h : Heap) (L : List Loc) : Prop := ∃ (b : Addr), ∃ (k2 : ClassId), (v = none) ∧ (Fr n0 L) ∧ (Keep h0 h [o0]) ∧ (n0 ≤ b) ∧ (h0.size ≤ b) ∧ (Exa Z h o0 "java/lang/String") ∧ (Fld Z h o0 "java/lang/String" "value" "[B" (.ref b)) ∧ (Fld Z h o0 "java/lang/String" "coder" "B" (.int (0 : Int32))) ∧ (Arv Z h b k2 .byte (3 : Int32) [(.int (nar .byte v0.toInt8.toInt32)), (.int (nar .byte v1.toInt8.toInt32)), (.int (nar .byte v2.toInt8.toInt32))] (.int (0 : Int32)))
theorem own_s4_3_ef (m : MethodId) (o0 : Addr) (c0 : Addr) : entryFrame m #[(.ref o0), (.ref c0), (.int (0 : Int32)), (.int (3 : Int32)), .null] 6 = mkF m 0 #[.val (.ref o0), .val (.ref c0), .val (.int (0 : Int32)), .val (.int (3 : Int32)), .val .null, .unset] [] := by first | (simp [entryFrame, mkF, argsToLocals, Value.category]; done) | rfl
set_option maxRecDepth 65536 in
set_option maxHeartbeats 40000000 in
theorem own_s4_3_rm (l : Launch) (Z : State) (a0 : Array Value) (hw : ∀ d ∈ tables_1, d.before a0 Z = true) (ws : List Jvm.Cond) (o0 : Addr) (c0 : Addr) (w0 : Int32) (k1 : ClassId) (v0 : Int32) (v1 : Int32) (v2 : Int32) (h0 : Heap) (n0 : Nat) (Z0 : n0 ≤ h0.size) (pr0 : Exa Z h0 o0 "java/lang/String") (pr1 : Fld Z h0 o0 "java/lang/String" "value" "[B" .null) (pr2 : Fld Z h0 o0 "java/lang/String" "coder" "B" (.int (0 : Int32))) (pr3 : Sta Z h0 "java/lang/String" "COMPACT_STRINGS" "Z" (.int w0)) (pr4 : Arv Z h0 c0 k1 .char (3 : Int32) [(.int v0), (.int v1), (.int v2)] (.int (0 : Int32))) (pr5 : n0 ≤ o0) (pr6 : c0 ≠ o0) (hw0 : ¬ (w0 = (0 : Int32))) (hv0 : ¬ (255 : Int32) < v0) (hv1 : ¬ (255 : Int32) < v1) (hv2 : ¬ (255 : Int32) < v2) :
    MetFree l (⟨"java/lang/String", "<init>", "([CIILjava/lang/Void;)V"⟩ : MethodName) (head1 (Jvm.Cond.code (⟨"java/lang/String", "<init>", "([CIILjava/lang/Void;)V"⟩ : MethodName) jdk_42_method_149_code 6 none :: ws) ({ frames := 2, cells := 1, slots := 3, locals := 35 } : Room)) (fun a U => a = #[(.ref o0), (.ref c0), (.int (0 : Int32)), (.int (3 : Int32)), .null] ∧ Z.Warmed39 U.vm ∧ U.heap = h0) (fun _ _ _ _ _ => True) (fun _ U o U' => ∃ v L, o = .returned v ∧ own_s4_3_Q Z o0 c0 w0 k1 v0 v1 v2 h0 n0 v U'.heap L ∧ FrameEnd U o U' L ({ frames := 2, cells := 1, slots := 3, locals := 35 } : Room).cells ({ frames := 2, cells := 1, slots := 3, locals := 35 } : Room).slots) := by
  refine MetFree.of_bodySF (plainFor_of_name pn_String) hisR ?_
  intro p e s m args below meth c s₁ Bd hml0 hP hK
  obtain ⟨rfl, hZ, hh⟩ := hP
  have hx := Bd.exec
  have hby := Bd.bytes
  have hml : c.maxLocals = 6 := hml0
  have hown : s.vm.findClass "java/lang/String" = some m.cls := findClass_of_methodNamed Bd.named
  have hnm := (name_of_methodNamed Bd.named Bd.method).1
  have hlk : meth.locks = false := BodyLoose.notSynchronized Bd
  have hrt := Bd.returns
  have X0 : Stand p l e ({ frames := 2, cells := 1, slots := 3, locals := 35 } : Room) s m #[(.ref o0), (.ref c0), (.int (0 : Int32)), (.int (3 : Int32)), .null] below meth c s₁ [] 0 0 := Stand.of_body Bd
  have e0 : s₁.heap = h0 := by rw [← hh, Bd.state]; rfl
  have N0 := Fr.nil n0
  refine Goes.enter (kc := ({ frames := 2, cells := 1, slots := 3, locals := 35 } : Room).cells) (kn := ({ frames := 2, cells := 1, slots := 3, locals := 35 } : Room).slots) (Q := own_s4_3_Q Z o0 c0 w0 k1 v0 v1 v2 h0 n0) (own_s4_3_ef m o0 c0) ?_
  refine Goes.step (B := (s₁.setTop (mkF m 1 #[.val (.ref o0), .val (.ref c0), .val (.int (0 : Int32)), .val (.int (3 : Int32)), .val .null, .unset] [(.ref o0)]))) (fun _ k => XS.aloadN X0.here hx rfl (hb hby d_jdk_42_method_149_code_0) rfl rfl k) ?_
  obtain ⟨T101, X101, e101, st101⟩ := initO X0 hx hZ hown (hw _ (List.mem_of_getElem? (i := 16) rfl)) (hw _ (List.mem_of_getElem? (i := 17) rfl)) (hw _ (List.mem_of_getElem? (i := 18) rfl)) e0 (g := (mkF m 1 #[.val (.ref o0), .val (.ref c0), .val (.int (0 : Int32)), .val (.int (3 : Int32)), .val .null, .unset] [(.ref o0)])) rfl (by rw [hml]; rfl) rfl (hb hby d_jdk_42_method_149_code_1) (by decide) (W := 0) (by show 2 * 0 + _ ≤ _; exact Nat.le_of_eq rfl) (by decide)
  refine Goes.step (B := (T101.setTop (mkF m 4 #[.val (.ref o0), .val (.ref c0), .val (.int (0 : Int32)), .val (.int (3 : Int32)), .val .null, .unset] []))) (fun _ k => st101 _ k) ?_
  refine Goes.step (B := (T101.setTop (mkF m 5 #[.val (.ref o0), .val (.ref c0), .val (.int (0 : Int32)), .val (.int (3 : Int32)), .val .null, .unset] [(.int (3 : Int32))]))) (fun _ k => XS.iloadN X101.here hx rfl (hb hby d_jdk_42_method_149_code_4) rfl k) ?_
  have hc102 : ¬ ((3 : Int32) = (0 : Int32)) := by decide
  refine Goes.step (B := (T101.setTop (mkF m 27 #[.val (.ref o0), .val (.ref c0), .val (.int (0 : Int32)), .val (.int (3 : Int32)), .val .null, .unset] []))) (fun _ k => XS.ifYes X101.here hx rfl (pc0 := 5) (pc' := 27) rfl (hb hby d_jdk_42_method_149_code_5) rfl ((if0 _ _).trans (feq hc102).2) (by decide) (by decide) k) ?_
  obtain ⟨T103, X103, e103, st103⟩ := getS2 X101 hx hZ hown (host := "") (Or.inl (hw _ (List.mem_of_getElem? (i := 19) rfl))) Via.refl e101 pr3 (g := (mkF m 27 #[.val (.ref o0), .val (.ref c0), .val (.int (0 : Int32)), .val (.int (3 : Int32)), .val .null, .unset] [])) rfl (hb hby d_jdk_42_method_149_code_27)
  refine Goes.step (B := (T103.setTop (mkF m 30 #[.val (.ref o0), .val (.ref c0), .val (.int (0 : Int32)), .val (.int (3 : Int32)), .val .null, .unset] [(.int w0)]))) (fun _ k => st103 _ k) ?_
  have hc104 : ¬ (w0 = (0 : Int32)) := hw0
  refine Goes.step (B := (T103.setTop (mkF m 33 #[.val (.ref o0), .val (.ref c0), .val (.int (0 : Int32)), .val (.int (3 : Int32)), .val .null, .unset] []))) (fun _ k => XS.ifNo X103.here hx rfl (hb hby d_jdk_42_method_149_code_30) rfl ((if0 _ _).trans (feq hc104).1) k) ?_
  refine Goes.step (B := (T103.setTop (mkF m 34 #[.val (.ref o0), .val (.ref c0), .val (.int (0 : Int32)), .val (.int (3 : Int32)), .val .null, .unset] [(.ref c0)]))) (fun _ k => XS.aloadN X103.here hx rfl (hb hby d_jdk_42_method_149_code_33) rfl rfl k) ?_
  refine Goes.step (B := (T103.setTop (mkF m 35 #[.val (.ref o0), .val (.ref c0), .val (.int (0 : Int32)), .val (.int (3 : Int32)), .val .null, .unset] [(.int (0 : Int32)), (.ref c0)]))) (fun _ k => XS.iloadN X103.here hx rfl (hb hby d_jdk_42_method_149_code_34) rfl k) ?_
  refine Goes.step (B := (T103.setTop (mkF m 36 #[.val (.ref o0), .val (.ref c0), .val (.int (0 : Int32)), .val (.int (3 : Int32)), .val .null, .unset] [(.int (3 : Int32)), (.int (0 : Int32)), (.ref c0)]))) (fun _ k => XS.iloadN X103.here hx rfl (hb hby d_jdk_42_method_149_code_35) rfl k) ?_
  obtain ⟨_, _, ⟨T105, L105, k105, n105⟩, -, X105, ⟨Lc105, hQ105, l105, y105, z105⟩, st105⟩ := Jvm.LawKit.callS X103 hx (y := (⟨"java/lang/StringUTF16", "compress", "([CII)[B"⟩ : MethodName)) hown (mvT hZ (hw _ (List.mem_of_getElem? (i := 20) rfl))) (mvT hZ (hw _ (List.mem_of_getElem? (i := 21) rfl))) (mvT hZ (hw _ (List.mem_of_getElem? (i := 22) rfl))) (mvT hZ (hw _ (List.mem_of_getElem? (i := 23) rfl))) (by decide) (backOf (W := 0) (own_c1_3_rm l Z a0 hw [] c0 k1 v0 v1 v2 h0 n0 Z0 pr4 hv0 hv1 hv2) hZ (hw _ (List.mem_of_getElem? (i := 23) rfl)) (hw _ (List.mem_of_getElem? (i := 22) rfl)) (by decide) (by decide)) (g := (mkF m 36 #[.val (.ref o0), .val (.ref c0), .val (.int (0 : Int32)), .val (.int (3 : Int32)), .val .null, .unset] [(.int (3 : Int32)), (.int (0 : Int32)), (.ref c0)])) rfl (by rw [hml]; rfl) (argsL := [(.ref c0), (.int (0 : Int32)), (.int (3 : Int32))]) (rest := []) (lenOf pd__ACII_AB rfl) rfl (by show 2 * 0 + _ ≤ _; exact Nat.le_of_eq rfl) (hb hby d_jdk_42_method_149_code_36) (fun _ _ => ⟨rfl, e103, (by decide : 0 + 1 ≤ _), (by decide : 0 + 3 ≤ _)⟩)
  dsimp only [Pt.U, Pt.locs, Pt.cells, Pt.slots] at X105 l105 y105 z105 st105 hQ105
  subst l105 y105 z105
  obtain ⟨b_105, k2_105, rfl, N105q, K105q, gn105_b, sz105_b, p105_0⟩ := hQ105
  have N105 := Fr.app N0 N105q
  have ne106 : o0 ≠ b_105 := Nat.ne_of_lt (Nat.lt_of_lt_of_le pr0.lt sz105_b)
  have ne107 : c0 ≠ b_105 := Nat.ne_of_lt (Nat.lt_of_lt_of_le pr4.lt sz105_b)
  have f108 := pr0.keep K105q
  have f109 := pr1.keep K105q nm0
  have f110 := pr2.keep K105q nm0
  have f111 := pr3.keepN K105q (fun _ q => nomatch q)
  have f112 := pr4.keep K105q nm0
  have K105 : Keep h0 T105.heap [o0] := Keep.trans (Keep.refl h0 [o0]) K105q (fun _ q => nomatch q)
  have Z105 : n0 ≤ T105.heap.size := Nat.le_trans Z0 K105q.1
  have szz105_b : h0.size ≤ b_105 := Nat.le_trans (Keep.refl h0 [o0]).1 sz105_b
  refine Goes.step (B := (T105.setTop (mkF m 39 #[.val (.ref o0), .val (.ref c0), .val (.int (0 : Int32)), .val (.int (3 : Int32)), .val .null, .unset] [(.ref b_105)]))) (fun _ k => st105 _ k) ?_
  refine Goes.step (B := (T105.setTop (mkF m 41 #[.val (.ref o0), .val (.ref c0), .val (.int (0 : Int32)), .val (.int (3 : Int32)), .val .null, .val (.ref b_105)] []))) (fun _ k => XS.astore X105.here hx rfl (hb hby d_jdk_42_method_149_code_39) rfl rfl (l' := #[.val (.ref o0), .val (.ref c0), .val (.int (0 : Int32)), .val (.int (3 : Int32)), .val .null, .val (.ref b_105)]) rfl k) ?_
  refine Goes.step (B := (T105.setTop (mkF m 42 #[.val (.ref o0), .val (.ref c0), .val (.int (0 : Int32)), .val (.int (3 : Int32)), .val .null, .val (.ref b_105)] [(.ref o0)]))) (fun _ k => XS.aloadN X105.here hx rfl (hb hby d_jdk_42_method_149_code_41) rfl rfl k) ?_
  refine Goes.step (B := (T105.setTop (mkF m 44 #[.val (.ref o0), .val (.ref c0), .val (.int (0 : Int32)), .val (.int (3 : Int32)), .val .null, .val (.ref b_105)] [(.ref b_105), (.ref o0)]))) (fun _ k => XS.aload X105.here hx rfl (hb hby d_jdk_42_method_149_code_42) rfl rfl k) ?_
  refine Goes.step (B := (T105.setTop (mkF m 45 #[.val (.ref o0), .val (.ref c0), .val (.int (0 : Int32)), .val (.int (3 : Int32)), .val .null, .val (.ref b_105)] [(.int (3 : Int32)), (.ref b_105), (.ref o0)]))) (fun _ k => XS.iloadN X105.here hx rfl (hb hby d_jdk_42_method_149_code_44) rfl k) ?_
  obtain ⟨_, _, ⟨T113, L113, k113, n113⟩, -, X113, ⟨Lc113, hQ113, l113, y113, z113⟩, st113⟩ := Jvm.LawKit.callS X105 hx (y := (⟨"java/lang/StringUTF16", "coderFromArrayLen", "([BI)B"⟩ : MethodName)) hown (mvT hZ (hw _ (List.mem_of_getElem? (i := 28) rfl))) (mvT hZ (hw _ (List.mem_of_getElem? (i := 29) rfl))) (mvT hZ (hw _ (List.mem_of_getElem? (i := 22) rfl))) (mvT hZ (hw _ (List.mem_of_getElem? (i := 30) rfl))) (by decide) (backOf (W := 1) (own_cf_3_rm l Z a0 hw [] b_105 k2_105 ([(.int (nar .byte v0.toInt8.toInt32)), (.int (nar .byte v1.toInt8.toInt32)), (.int (nar .byte v2.toInt8.toInt32))]) T105.heap n0 Z105 p105_0) hZ (hw _ (List.mem_of_getElem? (i := 30) rfl)) (hw _ (List.mem_of_getElem? (i := 22) rfl)) (by decide) (by decide)) (g := (mkF m 45 #[.val (.ref o0), .val (.ref c0), .val (.int (0 : Int32)), .val (.int (3 : Int32)), .val .null, .val (.ref b_105)] [(.int (3 : Int32)), (.ref b_105), (.ref o0)])) rfl (by rw [hml]; rfl) (argsL := [(.ref b_105), (.int (3 : Int32))]) (rest := [(.ref o0)]) (lenOf pd__ABI_B rfl) rfl (by show 2 * 0 + _ ≤ _; exact Nat.le_of_eq rfl) (hb hby d_jdk_42_method_149_code_45) (fun _ _ => ⟨rfl, rfl, (by decide : 1 + 0 ≤ _), (by decide : 3 + 0 ≤ _)⟩)
  dsimp only [Pt.U, Pt.locs, Pt.cells, Pt.slots] at X113 l113 y113 z113 st113 hQ113
  subst l113 y113 z113
  obtain ⟨rfl, N113q, e113⟩ := hQ113
  have N113 := Fr.app N105 N113q
  refine Goes.step (B := (T113.setTop (mkF m 48 #[.val (.ref o0), .val (.ref c0), .val (.int (0 : Int32)), .val (.int (3 : Int32)), .val .null, .val (.ref b_105)] [(.int (own_cf_3_fn)), (.ref o0)]))) (fun _ k => st113 _ k) ?_
  obtain ⟨T114, h114, X114, e114, W114, st114⟩ := putFN X113 hx hZ hown (hw _ (List.mem_of_getElem? (i := 31) rfl)) Via.refl e113 f110 f108 (Or.inr ⟨(hw _ (List.mem_of_getElem? (i := 32) rfl)), rfl, hnm⟩) (hw _ (List.mem_of_getElem? (i := 6) rfl)) (ty := .byte) (v' := (.int (nar .byte (own_cf_3_fn)))) (by decide) rfl (fits_nar_byte _) (g := (mkF m 48 #[.val (.ref o0), .val (.ref c0), .val (.int (0 : Int32)), .val (.int (3 : Int32)), .val .null, .val (.ref b_105)] [(.int (own_cf_3_fn)), (.ref o0)])) rfl rfl (hb hby d_jdk_42_method_149_code_48)
  have f115 := f108.wr W114
  have f116 := f109.other W114 (Or.inr (slot_ne (Or.inr (hw _ (List.mem_of_getElem? (i := 34) rfl))) (Or.inr (hw _ (List.mem_of_getElem? (i := 32) rfl))) (by decide) (t := (.array .byte)) (t' := .byte) (by decide) (by decide)))
  have f117 := f111.wr W114
  have f118 := f112.other W114 pr6
  have f119 := p105_0.other W114 (Ne.symm ne106)
  have N114 := Fr.snoc X114 N113 pr5
  have K114 : Keep h0 h114 [o0] := K105.wr W114 (Or.inl (List.mem_of_getElem? (i := 0) rfl))
  have Z114 : n0 ≤ h114.size := Nat.le_trans Z105 (Nat.le_of_eq W114.size.symm)
  have f120 : Fld Z h114 o0 "java/lang/String" "coder" "B" (.int (nar .byte (own_cf_3_fn))) := f110.same W114
  refine Goes.step (B := (T114.setTop (mkF m 51 #[.val (.ref o0), .val (.ref c0), .val (.int (0 : Int32)), .val (.int (3 : Int32)), .val .null, .val (.ref b_105)] []))) (fun _ k => st114 _ k) ?_
  refine Goes.step (B := (T114.setTop (mkF m 52 #[.val (.ref o0), .val (.ref c0), .val (.int (0 : Int32)), .val (.int (3 : Int32)), .val .null, .val (.ref b_105)] [(.ref o0)]))) (fun _ k => XS.aloadN X114.here hx rfl (hb hby d_jdk_42_method_149_code_51) rfl rfl k) ?_
  refine Goes.step (B := (T114.setTop (mkF m 54 #[.val (.ref o0), .val (.ref c0), .val (.int (0 : Int32)), .val (.int (3 : Int32)), .val .null, .val (.ref b_105)] [(.ref b_105), (.ref o0)]))) (fun _ k => XS.aload X114.here hx rfl (hb hby d_jdk_42_method_149_code_52) rfl rfl k) ?_
  obtain ⟨T121, h121, X121, e121, W121, st121⟩ := putF X114 hx hZ hown (host := "") (Or.inl (hw _ (List.mem_of_getElem? (i := 33) rfl))) Via.refl e114 f116 f115 (Or.inr ⟨(hw _ (List.mem_of_getElem? (i := 34) rfl)), rfl, hnm⟩) (hw _ (List.mem_of_getElem? (i := 6) rfl)) (ty := (.array .byte)) (by decide) rfl rfl (g := (mkF m 54 #[.val (.ref o0), .val (.ref c0), .val (.int (0 : Int32)), .val (.int (3 : Int32)), .val .null, .val (.ref b_105)] [(.ref b_105), (.ref o0)])) rfl rfl (hb hby d_jdk_42_method_149_code_54)
  have f122 := f115.wr W121
  have f123 := f120.other W121 (Or.inr (slot_ne (Or.inr (hw _ (List.mem_of_getElem? (i := 32) rfl))) (Or.inr (hw _ (List.mem_of_getElem? (i := 34) rfl))) (by decide) (t := .byte) (t' := (.array .byte)) (by decide) (by decide)))
  have f124 := f117.wr W121
  have f125 := f118.other W121 pr6
  have f126 := f119.other W121 (Ne.symm ne106)
  have N121 := Fr.snoc X121 N114 pr5
  have K121 : Keep h0 h121 [o0] := K114.wr W121 (Or.inl (List.mem_of_getElem? (i := 0) rfl))
  have Z121 : n0 ≤ h121.size := Nat.le_trans Z114 (Nat.le_of_eq W121.size.symm)
  have f127 : Fld Z h121 o0 "java/lang/String" "value" "[B" (.ref b_105) := f116.same W121
  refine Goes.step (B := (T121.setTop (mkF m 57 #[.val (.ref o0), .val (.ref c0), .val (.int (0 : Int32)), .val (.int (3 : Int32)), .val .null, .val (.ref b_105)] []))) (fun _ k => st121 _ k) ?_
  refine Goes.retV X121 hx hlk hrt (hb hby d_jdk_42_method_149_code_57) ?_ (by decide) (by decide)
  rw [e121]
  exact ⟨b_105, k2_105, rfl, N121, K121, gn105_b, szz105_b, f122, f127, f123, f126⟩
def own_s1_3_Q (Z : State) (o0 : Addr) (c0 : Addr) (w0 : Int32) (k1 : ClassId) (v0 : Int32) (v1 : Int32) (v2 : Int32) (h0 : Heap) (n0 : Nat) (v : Option Value) (h : Heap) (L : List Loc) : Prop := ∃ (b : Addr), ∃ (k2 : ClassId), (v = none) ∧ (Fr n0 L) ∧ (Keep h0 h [o0]) ∧ (n0 ≤ b) ∧ (h0.size ≤ b) ∧ (Exa Z h o0 "java/lang/String") ∧ (Fld Z h o0 "java/lang/String" "value" "[B" (.ref b)) ∧ (Fld Z h o0 "java/lang/String" "coder" "B" (.int (0 : Int32))) ∧ (Arv Z h b k2 .byte (3 : Int32) [(.int (nar .byte v0.toInt8.toInt32)), (.int (nar .byte v1.toInt8.toInt32)), (.int (nar .byte v2.toInt8.toInt32))] (.int (0 : Int32)))
theorem own_s1_3_ef (m : MethodId) (o0 : Addr) (c0 : Addr) : entryFrame m #[(.ref o0), (.ref c0)] 2 = mkF m 0 #[.val (.ref o0), .val (.ref c0)] [] := by first | (simp [entryFrame, mkF, argsToLocals, Value.category]; done) | rfl
set_option maxRecDepth 65536 in
set_option maxHeartbeats 40000000 in
theorem own_s1_3_rm (l : Launch) (Z : State) (a0 : Array Value) (hw : ∀ d ∈ tables_1, d.before a0 Z = true) (ws : List Jvm.Cond) (o0 : Addr) (c0 : Addr) (w0 : Int32) (k1 : ClassId) (v0 : Int32) (v1 : Int32) (v2 : Int32) (h0 : Heap) (n0 : Nat) (Z0 : n0 ≤ h0.size) (pr0 : Exa Z h0 o0 "java/lang/String") (pr1 : Fld Z h0 o0 "java/lang/String" "value" "[B" .null) (pr2 : Fld Z h0 o0 "java/lang/String" "coder" "B" (.int (0 : Int32))) (pr3 : Sta Z h0 "java/lang/String" "COMPACT_STRINGS" "Z" (.int w0)) (pr4 : Arv Z h0 c0 k1 .char (3 : Int32) [(.int v0), (.int v1), (.int v2)] (.int (0 : Int32))) (pr5 : n0 ≤ o0) (pr6 : c0 ≠ o0) (hw0 : ¬ (w0 = (0 : Int32))) (hv0 : ¬ (255 : Int32) < v0) (hv1 : ¬ (255 : Int32) < v1) (hv2 : ¬ (255 : Int32) < v2) :
    MetFree l (⟨"java/lang/String", "<init>", "([C)V"⟩ : MethodName) (head1 (Jvm.Cond.code (⟨"java/lang/String", "<init>", "([C)V"⟩ : MethodName) jdk_42_method_3_code 2 none :: ws) ({ frames := 3, cells := 1, slots := 3, locals := 52 } : Room)) (fun a U => a = #[(.ref o0), (.ref c0)] ∧ Z.Warmed39 U.vm ∧ U.heap = h0) (fun _ _ _ _ _ => True) (fun _ U o U' => ∃ v L, o = .returned v ∧ own_s1_3_Q Z o0 c0 w0 k1 v0 v1 v2 h0 n0 v U'.heap L ∧ FrameEnd U o U' L ({ frames := 3, cells := 1, slots := 3, locals := 52 } : Room).cells ({ frames := 3, cells := 1, slots := 3, locals := 52 } : Room).slots) := by
  refine MetFree.of_bodySF (plainFor_of_name pn_String) hisR ?_
  intro p e s m args below meth c s₁ Bd hml0 hP hK
  obtain ⟨rfl, hZ, hh⟩ := hP
  have hx := Bd.exec
  have hby := Bd.bytes
  have hml : c.maxLocals = 2 := hml0
  have hown : s.vm.findClass "java/lang/String" = some m.cls := findClass_of_methodNamed Bd.named
  have hnm := (name_of_methodNamed Bd.named Bd.method).1
  have hlk : meth.locks = false := BodyLoose.notSynchronized Bd
  have hrt := Bd.returns
  have X0 : Stand p l e ({ frames := 3, cells := 1, slots := 3, locals := 52 } : Room) s m #[(.ref o0), (.ref c0)] below meth c s₁ [] 0 0 := Stand.of_body Bd
  have e0 : s₁.heap = h0 := by rw [← hh, Bd.state]; rfl
  have N0 := Fr.nil n0
  refine Goes.enter (kc := ({ frames := 3, cells := 1, slots := 3, locals := 52 } : Room).cells) (kn := ({ frames := 3, cells := 1, slots := 3, locals := 52 } : Room).slots) (Q := own_s1_3_Q Z o0 c0 w0 k1 v0 v1 v2 h0 n0) (own_s1_3_ef m o0 c0) ?_
  refine Goes.step (B := (s₁.setTop (mkF m 1 #[.val (.ref o0), .val (.ref c0)] [(.ref o0)]))) (fun _ k => XS.aloadN X0.here hx rfl (hb hby d_jdk_42_method_3_code_0) rfl rfl k) ?_
  refine Goes.step (B := (s₁.setTop (mkF m 2 #[.val (.ref o0), .val (.ref c0)] [(.ref c0), (.ref o0)]))) (fun _ k => XS.aloadN X0.here hx rfl (hb hby d_jdk_42_method_3_code_1) rfl rfl k) ?_
  refine Goes.step (B := (s₁.setTop (mkF m 3 #[.val (.ref o0), .val (.ref c0)] [(.int (0 : Int32)), (.ref c0), (.ref o0)]))) (fun _ k => XS.iconst X0.here hx rfl (hb hby d_jdk_42_method_3_code_2) k) ?_
  refine Goes.step (B := (s₁.setTop (mkF m 4 #[.val (.ref o0), .val (.ref c0)] [(.ref c0), (.int (0 : Int32)), (.ref c0), (.ref o0)]))) (fun _ k => XS.aloadN X0.here hx rfl (hb hby d_jdk_42_method_3_code_3) rfl rfl k) ?_
  obtain ⟨cl101, Ar101, q101, S101, M101, H101, G101⟩ := id pr4
  refine Goes.step (B := (s₁.setTop (mkF m 5 #[.val (.ref o0), .val (.ref c0)] [(.int (3 : Int32)), (.int (0 : Int32)), (.ref c0), (.ref o0)]))) (fun _ k => X0.arraylength hx (by rw [e0]; exact Ar101.1) (State.isArrayOf_alike hZ.alike Ar101.2.1) (g := (mkF m 4 #[.val (.ref o0), .val (.ref c0)] [(.ref c0), (.int (0 : Int32)), (.ref c0), (.ref o0)])) rfl rfl (hb hby d_jdk_42_method_3_code_4) _ (by rw [len_of S101 M101]; exact k)) ?_
  refine Goes.step (B := (s₁.setTop (mkF m 6 #[.val (.ref o0), .val (.ref c0)] [.null, (.int (3 : Int32)), (.int (0 : Int32)), (.ref c0), (.ref o0)]))) (fun _ k => XS.aconstNull X0.here hx rfl (hb hby d_jdk_42_method_3_code_5) k) ?_
  obtain ⟨_, _, ⟨T102, L102, k102, n102⟩, -, X102, ⟨Lc102, hQ102, l102, y102, z102⟩, st102⟩ := X0.specialBack hx (y := (⟨"java/lang/String", "<init>", "([CIILjava/lang/Void;)V"⟩ : MethodName)) rfl hown (mvT hZ (hw _ (List.mem_of_getElem? (i := 12) rfl))) (mvT hZ (hw _ (List.mem_of_getElem? (i := 13) rfl))) (mvT hZ (hw _ (List.mem_of_getElem? (i := 15) rfl))) (by decide) (backOf (W := 0) (own_s4_3_rm l Z a0 hw [] o0 c0 w0 k1 v0 v1 v2 h0 n0 Z0 pr0 pr1 pr2 pr3 pr4 pr5 pr6 hw0 hv0 hv1 hv2) hZ (hw _ (List.mem_of_getElem? (i := 15) rfl)) (hw _ (List.mem_of_getElem? (i := 7) rfl)) (by decide) (by decide)) (g := (mkF m 6 #[.val (.ref o0), .val (.ref c0)] [.null, (.int (3 : Int32)), (.int (0 : Int32)), (.ref c0), (.ref o0)])) rfl (by rw [hml]; rfl) (Steps.refl _) (a := o0) (argsL := [(.ref c0), (.int (0 : Int32)), (.int (3 : Int32)), .null]) (rest := []) (lenOf pd__ACIILjava_lang_Void__V rfl) rfl (by show 2 * 0 + _ ≤ _; exact Nat.le_of_eq rfl) (hb hby d_jdk_42_method_3_code_6) (fun _ _ => ⟨rfl, e0, (by decide : 0 + 1 ≤ _), (by decide : 0 + 3 ≤ _)⟩)
  dsimp only [Pt.U, Pt.locs, Pt.cells, Pt.slots] at X102 l102 y102 z102 st102 hQ102
  subst l102 y102 z102
  obtain ⟨b_102, k2_102, rfl, N102q, K102q, gn102_b, sz102_b, p102_0, p102_1, p102_2, p102_3⟩ := hQ102
  have N102 := Fr.app N0 N102q
  have ne103 : o0 ≠ b_102 := Nat.ne_of_lt (Nat.lt_of_lt_of_le pr0.lt sz102_b)
  have ne104 : c0 ≠ b_102 := Nat.ne_of_lt (Nat.lt_of_lt_of_le pr4.lt sz102_b)
  have f105 := pr0.keep K102q
  have f106 := pr3.keepN K102q (fun y q => by cases List.mem_singleton.mp q; exact pr0.plainN)
  have f107 := pr4.keep K102q (nm1 pr6)
  have K102 : Keep h0 T102.heap [o0] := Keep.trans (Keep.refl h0 [o0]) K102q (fun y q => by cases List.mem_singleton.mp q; exact (Or.inl (List.mem_of_getElem? (i := 0) rfl)))
  have Z102 : n0 ≤ T102.heap.size := Nat.le_trans Z0 K102q.1
  have szz102_b : h0.size ≤ b_102 := Nat.le_trans (Keep.refl h0 [o0]).1 sz102_b
  refine Goes.to (B := (T102.setTop (mkF m 9 #[.val (.ref o0), .val (.ref c0)] []))) st102 ?_
  refine Goes.retV X102 hx hlk hrt (hb hby d_jdk_42_method_3_code_9) ?_ (by decide) (by decide)
  exact ⟨b_102, k2_102, rfl, N102, K102, gn102_b, szz102_b, p102_0, p102_1, p102_2, p102_3⟩
theorem d_prog_27_method_35_code_0 : decode prog_27_method_35_code 0 = .ok (.iload_n 0, 1) := by decide +kernel
theorem d_prog_27_method_35_code_1 : decode prog_27_method_35_code 1 = .ok (.iconst 1, 1) := by decide +kernel
theorem d_prog_27_method_35_code_2 : decode prog_27_method_35_code 2 = .ok (.if_icmp .ge 18, 3) := by decide +kernel
theorem d_prog_27_method_35_code_20 : decode prog_27_method_35_code 20 = .ok (.return_, 1) := by decide +kernel
def own_rq_Q (Z : State) (u0 : Int32) (c0 : Addr)  (h0 : Heap) (n0 : Nat) (v : Option Value) (h : Heap) (L : List Loc) : Prop := v = none ∧ Fr n0 L ∧ h = h0
theorem own_rq_ef (m : MethodId) (u0 : Int32) (c0 : Addr) : entryFrame m #[(.int u0), (.ref c0)] 2 = mkF m 0 #[.val (.int u0), .val (.ref c0)] [] := by first | (simp [entryFrame, mkF, argsToLocals, Value.category]; done) | rfl
theorem pn_Settings : plainName "com/example/breakwater/breakwater/Settings" = true := by first | (simp [plainName, overriddenIn]; done) | decide +kernel
set_option maxRecDepth 65536 in
set_option maxHeartbeats 40000000 in
theorem own_rq_rm (l : Launch) (Z : State) (a0 : Array Value) (hw : ∀ d ∈ tables_1, d.before a0 Z = true) (ws : List Jvm.Cond) (u0 : Int32) (c0 : Addr)  (h0 : Heap) (n0 : Nat) (Z0 : n0 ≤ h0.size) (hu0 : ¬ u0 < (1 : Int32)) :
    MetFree l (⟨"com/example/breakwater/breakwater/Settings", "requireAtLeastOne", "(ILjava/lang/String;)V"⟩ : MethodName) (head1 (Jvm.Cond.code (⟨"com/example/breakwater/breakwater/Settings", "requireAtLeastOne", "(ILjava/lang/String;)V"⟩ : MethodName) prog_27_method_35_code 2 none :: ws) ({ frames := 0, cells := 0, slots := 0, locals := 0 } : Room)) (fun a U => a = #[(.int u0), (.ref c0)] ∧ Z.Warmed39 U.vm ∧ U.heap = h0) (fun _ _ _ _ _ => True) (fun _ U o U' => ∃ v L, o = .returned v ∧ own_rq_Q Z u0 c0 h0 n0 v U'.heap L ∧ FrameEnd U o U' L ({ frames := 0, cells := 0, slots := 0, locals := 0 } : Room).cells ({ frames := 0, cells := 0, slots := 0, locals := 0 } : Room).slots) := by
  refine MetFree.of_bodySF (plainFor_of_name pn_Settings) hisR ?_
  intro p e s m args below meth c s₁ Bd hml0 hP hK
  obtain ⟨rfl, hZ, hh⟩ := hP
  have hx := Bd.exec
  have hby := Bd.bytes
  have hml : c.maxLocals = 2 := hml0
  have hown : s.vm.findClass "com/example/breakwater/breakwater/Settings" = some m.cls := findClass_of_methodNamed Bd.named
  have hnm := (name_of_methodNamed Bd.named Bd.method).1
  have hlk : meth.locks = false := BodyLoose.notSynchronized Bd
  have hrt := Bd.returns
  have X0 : Stand p l e ({ frames := 0, cells := 0, slots := 0, locals := 0 } : Room) s m #[(.int u0), (.ref c0)] below meth c s₁ [] 0 0 := Stand.of_body Bd
  have e0 : s₁.heap = h0 := by rw [← hh, Bd.state]; rfl
  have N0 := Fr.nil n0
  refine Goes.enter (kc := ({ frames := 0, cells := 0, slots := 0, locals := 0 } : Room).cells) (kn := ({ frames := 0, cells := 0, slots := 0, locals := 0 } : Room).slots) (Q := own_rq_Q Z u0 c0 h0 n0) (own_rq_ef m u0 c0) ?_
  refine Goes.step (B := (s₁.setTop (mkF m 1 #[.val (.int u0), .val (.ref c0)] [(.int u0)]))) (fun _ k => XS.iloadN X0.here hx rfl (hb hby d_prog_27_method_35_code_0) rfl k) ?_
  refine Goes.step (B := (s₁.setTop (mkF m 2 #[.val (.int u0), .val (.ref c0)] [(.int (1 : Int32)), (.int u0)]))) (fun _ k => XS.iconst X0.here hx rfl (hb hby d_prog_27_method_35_code_1) k) ?_
  have hc101 : ¬ (u0 < (1 : Int32)) := hu0
  refine Goes.step (B := (s₁.setTop (mkF m 20 #[.val (.int u0), .val (.ref c0)] []))) (fun _ k => XS.icmpYes X0.here hx rfl (pc0 := 2) (pc' := 20) rfl (hb hby d_prog_27_method_35_code_2) rfl (flt hc101).2.1 (by decide) (by decide) k) ?_
  refine Goes.retV X0 hx hlk hrt (hb hby d_prog_27_method_35_code_20) ?_ (by decide) (by decide)
  rw [e0]
  exact ⟨rfl, N0, rfl⟩
theorem d_method_3_code_0 : decode method_3_code 0 = .ok (.iload_n 1, 1) := by decide +kernel
theorem d_method_3_code_1 : decode method_3_code 1 = .ok (.sipush 255, 3) := by decide +kernel
theorem d_method_3_code_4 : decode method_3_code 4 = .ok (.iand, 1) := by decide +kernel
theorem d_method_3_code_5 : decode method_3_code 5 = .ok (.i2c, 1) := by decide +kernel
theorem d_method_3_code_6 : decode method_3_code 6 = .ok (.istore 4, 2) := by decide +kernel
theorem d_method_3_code_8 : decode method_3_code 8 = .ok (.iload_n 2, 1) := by decide +kernel
theorem d_method_3_code_9 : decode method_3_code 9 = .ok (.sipush 255, 3) := by decide +kernel
theorem d_method_3_code_12 : decode method_3_code 12 = .ok (.iand, 1) := by decide +kernel
theorem d_method_3_code_13 : decode method_3_code 13 = .ok (.i2c, 1) := by decide +kernel
theorem d_method_3_code_14 : decode method_3_code 14 = .ok (.istore 5, 2) := by decide +kernel
theorem d_method_3_code_16 : decode method_3_code 16 = .ok (.iload_n 3, 1) := by decide +kernel
theorem d_method_3_code_17 : decode method_3_code 17 = .ok (.sipush 255, 3) := by decide +kernel
theorem d_method_3_code_20 : decode method_3_code 20 = .ok (.iand, 1) := by decide +kernel
theorem d_method_3_code_21 : decode method_3_code 21 = .ok (.i2c, 1) := by decide +kernel
theorem d_method_3_code_22 : decode method_3_code 22 = .ok (.istore 6, 2) := by decide +kernel
theorem d_method_3_code_24 : decode method_3_code 24 = .ok (.iload_n 0, 1) := by decide +kernel
theorem d_method_3_code_25 : decode method_3_code 25 = .ok (.ifCond .ne 14, 3) := by decide +kernel
theorem d_method_3_code_28 : decode method_3_code 28 = .ok (.new 20, 3) := by decide +kernel
theorem d_method_3_code_31 : decode method_3_code 31 = .ok (.dup, 1) := by decide +kernel
theorem d_method_3_code_32 : decode method_3_code 32 = .ok (.iconst 0, 1) := by decide +kernel
theorem d_method_3_code_33 : decode method_3_code 33 = .ok (.newarray .char, 2) := by decide +kernel
theorem d_method_3_code_35 : decode method_3_code 35 = .ok (.invokespecial 22, 3) := by decide +kernel
theorem pd__AC_V : parseMethodDescriptor "([C)V" = some ⟨[(.array .char)], none⟩ := by decide +kernel
theorem d_method_3_code_38 : decode method_3_code 38 = .ok (.areturn, 1) := by decide +kernel
def own_nm0_Q (Z : State) (u1 : Int32) (u2 : Int32) (u3 : Int32)  (h0 : Heap) (n0 : Nat) (v : Option Value) (h : Heap) (L : List Loc) : Prop := ∃ (b : Addr), (v = some (.ref b)) ∧ (Fr n0 L) ∧ (Keep h0 h []) ∧ (n0 ≤ b) ∧ (h0.size ≤ b) ∧ (Exa Z h b "java/lang/String")
theorem own_nm0_ef (m : MethodId) (u1 : Int32) (u2 : Int32) (u3 : Int32) : entryFrame m #[(.int (0 : Int32)), (.int u1), (.int u2), (.int u3)] 7 = mkF m 0 #[.val (.int (0 : Int32)), .val (.int u1), .val (.int u2), .val (.int u3), .unset, .unset, .unset] [] := by first | (simp [entryFrame, mkF, argsToLocals, Value.category]; done) | rfl
theorem pn_SettingsRequireAtLeastOnePinLaw : plainName "com/example/breakwater/breakwater/SettingsRequireAtLeastOnePinLaw" = true := by first | (simp [plainName, overriddenIn]; done) | decide +kernel
set_option maxRecDepth 65536 in
set_option maxHeartbeats 40000000 in
theorem own_nm0_rm (l : Launch) (Z : State) (a0 : Array Value) (hw : ∀ d ∈ tables_1, d.before a0 Z = true) (ws : List Jvm.Cond) (u1 : Int32) (u2 : Int32) (u3 : Int32)  (h0 : Heap) (n0 : Nat) (Z0 : n0 ≤ h0.size) (hkp : ∀ (b : Addr) (cl : Cell), Z.heap[b]? = some cl → h0[b]? = some cl) (hcon : Jvm.Lit.constHeld Z "java/lang/String" 7) (hcw : Jvm.Lit.compactW.before a0 Z = true) :
    MetFree l (⟨"com/example/breakwater/breakwater/SettingsRequireAtLeastOnePinLaw", "name", "(IIII)Ljava/lang/String;"⟩ : MethodName) (head1 (Jvm.Cond.code (⟨"com/example/breakwater/breakwater/SettingsRequireAtLeastOnePinLaw", "name", "(IIII)Ljava/lang/String;"⟩ : MethodName) method_3_code 7 (some (.object "java/lang/String")) :: ws) ({ frames := 3, cells := 4, slots := 8, locals := 43 } : Room)) (fun a U => a = #[(.int (0 : Int32)), (.int u1), (.int u2), (.int u3)] ∧ Z.Warmed39 U.vm ∧ U.heap = h0 ∧ U.vm.interned = Z.vm.interned) (fun _ _ _ _ _ => True) (fun _ U o U' => ∃ v L, o = .returned v ∧ own_nm0_Q Z u1 u2 u3 h0 n0 v U'.heap L ∧ ReturnedEndW U o U' L ({ frames := 3, cells := 4, slots := 8, locals := 43 } : Room).cells ({ frames := 3, cells := 4, slots := 8, locals := 43 } : Room).slots) := by
  refine MetFree.of_bodySF (plainFor_of_name pn_SettingsRequireAtLeastOnePinLaw) hisR ?_
  intro p e s m args below meth c s₁ Bd hml0 hP hK
  obtain ⟨rfl, hZ, hh, hI⟩ := hP
  have hx := Bd.exec
  have hby := Bd.bytes
  have hml : c.maxLocals = 7 := hml0
  have hown : s.vm.findClass "com/example/breakwater/breakwater/SettingsRequireAtLeastOnePinLaw" = some m.cls := findClass_of_methodNamed Bd.named
  have hnm := (name_of_methodNamed Bd.named Bd.method).1
  have hlk : meth.locks = false := BodyLoose.notSynchronized Bd
  have hrt := Bd.returns
  have X0 : Stand p l e ({ frames := 3, cells := 4, slots := 8, locals := 43 } : Room) (s.setVm s.vm) m #[(.int (0 : Int32)), (.int u1), (.int u2), (.int u3)] below meth c s₁ [] 0 0 := Stand.of_body Bd
  have e0 : s₁.heap = h0 := by rw [← hh, Bd.state]; rfl
  have N0 := Fr.nil n0
  have hS0 := since0 s
  have hk0 : s.heap.size ≤ h0.size := by rw [hh]; exact Nat.le_refl _
  refine GoesW.enter (kc := ({ frames := 3, cells := 4, slots := 8, locals := 43 } : Room).cells) (kn := ({ frames := 3, cells := 4, slots := 8, locals := 43 } : Room).slots) (Q := own_nm0_Q Z u1 u2 u3 h0 n0) (own_nm0_ef m u1 u2 u3) ?_
  refine GoesW.step (B := (s₁.setTop (mkF m 1 #[.val (.int (0 : Int32)), .val (.int u1), .val (.int u2), .val (.int u3), .unset, .unset, .unset] [(.int u1)]))) (fun _ k => XS.iloadN X0.here hx rfl (hb hby d_method_3_code_0) rfl k) ?_
  refine GoesW.step (B := (s₁.setTop (mkF m 4 #[.val (.int (0 : Int32)), .val (.int u1), .val (.int u2), .val (.int u3), .unset, .unset, .unset] [(.int (255 : Int32)), (.int u1)]))) (fun _ k => XS.sipush X0.here hx rfl (hb hby d_method_3_code_1) k) ?_
  refine GoesW.step (B := (s₁.setTop (mkF m 5 #[.val (.int (0 : Int32)), .val (.int u1), .val (.int u2), .val (.int u3), .unset, .unset, .unset] [(.int (u1 &&& (255 : Int32)))]))) (fun _ k => XS.iand X0.here hx rfl (hb hby d_method_3_code_4) rfl k) ?_
  refine GoesW.step (B := (s₁.setTop (mkF m 6 #[.val (.int (0 : Int32)), .val (.int u1), .val (.int u2), .val (.int u3), .unset, .unset, .unset] [(.int (u1 &&& (255 : Int32)).toUInt32.toUInt16.toUInt32.toInt32)]))) (fun _ k => XS.i2c X0.here hx rfl (hb hby d_method_3_code_5) rfl k) ?_
  refine GoesW.step (B := (s₁.setTop (mkF m 8 #[.val (.int (0 : Int32)), .val (.int u1), .val (.int u2), .val (.int u3), .val (.int (u1 &&& (255 : Int32)).toUInt32.toUInt16.toUInt32.toInt32), .unset, .unset] []))) (fun _ k => XS.istore X0.here hx rfl (hb hby d_method_3_code_6) rfl (l' := #[.val (.int (0 : Int32)), .val (.int u1), .val (.int u2), .val (.int u3), .val (.int (u1 &&& (255 : Int32)).toUInt32.toUInt16.toUInt32.toInt32), .unset, .unset]) rfl k) ?_
  refine GoesW.step (B := (s₁.setTop (mkF m 9 #[.val (.int (0 : Int32)), .val (.int u1), .val (.int u2), .val (.int u3), .val (.int (u1 &&& (255 : Int32)).toUInt32.toUInt16.toUInt32.toInt32), .unset, .unset] [(.int u2)]))) (fun _ k => XS.iloadN X0.here hx rfl (hb hby d_method_3_code_8) rfl k) ?_
  refine GoesW.step (B := (s₁.setTop (mkF m 12 #[.val (.int (0 : Int32)), .val (.int u1), .val (.int u2), .val (.int u3), .val (.int (u1 &&& (255 : Int32)).toUInt32.toUInt16.toUInt32.toInt32), .unset, .unset] [(.int (255 : Int32)), (.int u2)]))) (fun _ k => XS.sipush X0.here hx rfl (hb hby d_method_3_code_9) k) ?_
  refine GoesW.step (B := (s₁.setTop (mkF m 13 #[.val (.int (0 : Int32)), .val (.int u1), .val (.int u2), .val (.int u3), .val (.int (u1 &&& (255 : Int32)).toUInt32.toUInt16.toUInt32.toInt32), .unset, .unset] [(.int (u2 &&& (255 : Int32)))]))) (fun _ k => XS.iand X0.here hx rfl (hb hby d_method_3_code_12) rfl k) ?_
  refine GoesW.step (B := (s₁.setTop (mkF m 14 #[.val (.int (0 : Int32)), .val (.int u1), .val (.int u2), .val (.int u3), .val (.int (u1 &&& (255 : Int32)).toUInt32.toUInt16.toUInt32.toInt32), .unset, .unset] [(.int (u2 &&& (255 : Int32)).toUInt32.toUInt16.toUInt32.toInt32)]))) (fun _ k => XS.i2c X0.here hx rfl (hb hby d_method_3_code_13) rfl k) ?_
  refine GoesW.step (B := (s₁.setTop (mkF m 16 #[.val (.int (0 : Int32)), .val (.int u1), .val (.int u2), .val (.int u3), .val (.int (u1 &&& (255 : Int32)).toUInt32.toUInt16.toUInt32.toInt32), .val (.int (u2 &&& (255 : Int32)).toUInt32.toUInt16.toUInt32.toInt32), .unset] []))) (fun _ k => XS.istore X0.here hx rfl (hb hby d_method_3_code_14) rfl (l' := #[.val (.int (0 : Int32)), .val (.int u1), .val (.int u2), .val (.int u3), .val (.int (u1 &&& (255 : Int32)).toUInt32.toUInt16.toUInt32.toInt32), .val (.int (u2 &&& (255 : Int32)).toUInt32.toUInt16.toUInt32.toInt32), .unset]) rfl k) ?_
  refine GoesW.step (B := (s₁.setTop (mkF m 17 #[.val (.int (0 : Int32)), .val (.int u1), .val (.int u2), .val (.int u3), .val (.int (u1 &&& (255 : Int32)).toUInt32.toUInt16.toUInt32.toInt32), .val (.int (u2 &&& (255 : Int32)).toUInt32.toUInt16.toUInt32.toInt32), .unset] [(.int u3)]))) (fun _ k => XS.iloadN X0.here hx rfl (hb hby d_method_3_code_16) rfl k) ?_
  refine GoesW.step (B := (s₁.setTop (mkF m 20 #[.val (.int (0 : Int32)), .val (.int u1), .val (.int u2), .val (.int u3), .val (.int (u1 &&& (255 : Int32)).toUInt32.toUInt16.toUInt32.toInt32), .val (.int (u2 &&& (255 : Int32)).toUInt32.toUInt16.toUInt32.toInt32), .unset] [(.int (255 : Int32)), (.int u3)]))) (fun _ k => XS.sipush X0.here hx rfl (hb hby d_method_3_code_17) k) ?_
  refine GoesW.step (B := (s₁.setTop (mkF m 21 #[.val (.int (0 : Int32)), .val (.int u1), .val (.int u2), .val (.int u3), .val (.int (u1 &&& (255 : Int32)).toUInt32.toUInt16.toUInt32.toInt32), .val (.int (u2 &&& (255 : Int32)).toUInt32.toUInt16.toUInt32.toInt32), .unset] [(.int (u3 &&& (255 : Int32)))]))) (fun _ k => XS.iand X0.here hx rfl (hb hby d_method_3_code_20) rfl k) ?_
  refine GoesW.step (B := (s₁.setTop (mkF m 22 #[.val (.int (0 : Int32)), .val (.int u1), .val (.int u2), .val (.int u3), .val (.int (u1 &&& (255 : Int32)).toUInt32.toUInt16.toUInt32.toInt32), .val (.int (u2 &&& (255 : Int32)).toUInt32.toUInt16.toUInt32.toInt32), .unset] [(.int (u3 &&& (255 : Int32)).toUInt32.toUInt16.toUInt32.toInt32)]))) (fun _ k => XS.i2c X0.here hx rfl (hb hby d_method_3_code_21) rfl k) ?_
  refine GoesW.step (B := (s₁.setTop (mkF m 24 #[.val (.int (0 : Int32)), .val (.int u1), .val (.int u2), .val (.int u3), .val (.int (u1 &&& (255 : Int32)).toUInt32.toUInt16.toUInt32.toInt32), .val (.int (u2 &&& (255 : Int32)).toUInt32.toUInt16.toUInt32.toInt32), .val (.int (u3 &&& (255 : Int32)).toUInt32.toUInt16.toUInt32.toInt32)] []))) (fun _ k => XS.istore X0.here hx rfl (hb hby d_method_3_code_22) rfl (l' := #[.val (.int (0 : Int32)), .val (.int u1), .val (.int u2), .val (.int u3), .val (.int (u1 &&& (255 : Int32)).toUInt32.toUInt16.toUInt32.toInt32), .val (.int (u2 &&& (255 : Int32)).toUInt32.toUInt16.toUInt32.toInt32), .val (.int (u3 &&& (255 : Int32)).toUInt32.toUInt16.toUInt32.toInt32)]) rfl k) ?_
  refine GoesW.step (B := (s₁.setTop (mkF m 25 #[.val (.int (0 : Int32)), .val (.int u1), .val (.int u2), .val (.int u3), .val (.int (u1 &&& (255 : Int32)).toUInt32.toUInt16.toUInt32.toInt32), .val (.int (u2 &&& (255 : Int32)).toUInt32.toUInt16.toUInt32.toInt32), .val (.int (u3 &&& (255 : Int32)).toUInt32.toUInt16.toUInt32.toInt32)] [(.int (0 : Int32))]))) (fun _ k => XS.iloadN X0.here hx rfl (hb hby d_method_3_code_24) rfl k) ?_
  have hc101 : (0 : Int32) = (0 : Int32) := by decide
  refine GoesW.step (B := (s₁.setTop (mkF m 28 #[.val (.int (0 : Int32)), .val (.int u1), .val (.int u2), .val (.int u3), .val (.int (u1 &&& (255 : Int32)).toUInt32.toUInt16.toUInt32.toInt32), .val (.int (u2 &&& (255 : Int32)).toUInt32.toUInt16.toUInt32.toInt32), .val (.int (u3 &&& (255 : Int32)).toUInt32.toUInt16.toUInt32.toInt32)] []))) (fun _ k => XS.ifNo X0.here hx rfl (hb hby d_method_3_code_25) rfl ((if0 _ _).trans (teq hc101).2) k) ?_
  obtain ⟨T102, h102, X102, e102, E102, A102, D102, -, st102⟩ := newO X0 hx hZ hown (hw _ (List.mem_of_getElem? (i := 5) rfl)) (hw _ (List.mem_of_getElem? (i := 6) rfl)) (hw _ (List.mem_of_getElem? (i := 7) rfl)) e0 (g := (mkF m 28 #[.val (.int (0 : Int32)), .val (.int u1), .val (.int u2), .val (.int u3), .val (.int (u1 &&& (255 : Int32)).toUInt32.toUInt16.toUInt32.toInt32), .val (.int (u2 &&& (255 : Int32)).toUInt32.toUInt16.toUInt32.toInt32), .val (.int (u3 &&& (255 : Int32)).toUInt32.toUInt16.toUInt32.toInt32)] [])) rfl (hb hby d_method_3_code_28) (by decide) (by decide)
  obtain ⟨b102, g102⟩ : ∃ z, z = h0.size := ⟨_, rfl⟩
  rw [← g102] at A102 D102 st102
  have gn102 : n0 ≤ b102 := Nat.le_trans Z0 (Nat.le_of_eq g102.symm)
  have sz102 : h0.size ≤ b102 := Nat.le_trans (Keep.refl h0 []).1 (Nat.le_of_eq g102.symm)
  have f103 : Fld Z h102 b102 "java/lang/String" "coder" "B" (.int (0 : Int32)) := D102 (Or.inr (hw _ (List.mem_of_getElem? (i := 32) rfl))) (ty := .byte) (by decide)
  have f104 : Fld Z h102 b102 "java/lang/String" "value" "[B" .null := D102 (Or.inr (hw _ (List.mem_of_getElem? (i := 34) rfl))) (ty := (.array .byte)) (by decide)
  have Z102 : n0 ≤ h102.size := Nat.le_trans Z0 E102.1
  have K102 : Keep h0 h102 [] := (Keep.refl h0 []).ext E102
  have hk102 := Nat.le_trans hk0 E102.1
  refine GoesW.step (B := (T102.setTop (mkF m 31 #[.val (.int (0 : Int32)), .val (.int u1), .val (.int u2), .val (.int u3), .val (.int (u1 &&& (255 : Int32)).toUInt32.toUInt16.toUInt32.toInt32), .val (.int (u2 &&& (255 : Int32)).toUInt32.toUInt16.toUInt32.toInt32), .val (.int (u3 &&& (255 : Int32)).toUInt32.toUInt16.toUInt32.toInt32)] [(.ref b102)]))) (fun _ k => st102 _ k) ?_
  refine GoesW.step (B := (T102.setTop (mkF m 32 #[.val (.int (0 : Int32)), .val (.int u1), .val (.int u2), .val (.int u3), .val (.int (u1 &&& (255 : Int32)).toUInt32.toUInt16.toUInt32.toInt32), .val (.int (u2 &&& (255 : Int32)).toUInt32.toUInt16.toUInt32.toInt32), .val (.int (u3 &&& (255 : Int32)).toUInt32.toUInt16.toUInt32.toInt32)] [(.ref b102), (.ref b102)]))) (fun _ k => XS.dup X102.here hx rfl (hb hby d_method_3_code_31) rfl rfl k) ?_
  refine GoesW.step (B := (T102.setTop (mkF m 33 #[.val (.int (0 : Int32)), .val (.int u1), .val (.int u2), .val (.int u3), .val (.int (u1 &&& (255 : Int32)).toUInt32.toUInt16.toUInt32.toInt32), .val (.int (u2 &&& (255 : Int32)).toUInt32.toUInt16.toUInt32.toInt32), .val (.int (u3 &&& (255 : Int32)).toUInt32.toUInt16.toUInt32.toInt32)] [(.int (0 : Int32)), (.ref b102), (.ref b102)]))) (fun _ k => XS.iconst X102.here hx rfl (hb hby d_method_3_code_32) k) ?_
  obtain ⟨T105, h105, k105, X105, e105, E105, A105, st105⟩ := newP X102 hx hZ (hw _ (List.mem_of_getElem? (i := 8) rfl)) e102 (g := (mkF m 33 #[.val (.int (0 : Int32)), .val (.int u1), .val (.int u2), .val (.int u3), .val (.int (u1 &&& (255 : Int32)).toUInt32.toUInt16.toUInt32.toInt32), .val (.int (u2 &&& (255 : Int32)).toUInt32.toUInt16.toUInt32.toInt32), .val (.int (u3 &&& (255 : Int32)).toUInt32.toUInt16.toUInt32.toInt32)] [(.int (0 : Int32)), (.ref b102), (.ref b102)])) rfl (hb hby d_method_3_code_33) rfl (by decide) (cap := 0) (by decide) (by decide) (by decide) (by decide)
  obtain ⟨b105, g105⟩ : ∃ z, z = h102.size := ⟨_, rfl⟩
  rw [← g105] at A105 st105
  have gn105 : n0 ≤ b105 := Nat.le_trans Z102 (Nat.le_of_eq g105.symm)
  have sz105 : h0.size ≤ b105 := Nat.le_trans K102.1 (Nat.le_of_eq g105.symm)
  have ne106 : b102 ≠ b105 := Nat.ne_of_lt (Nat.lt_of_lt_of_le A102.lt (Nat.le_of_eq g105.symm))
  have f107 := A102.ext E105
  have f108 := f103.ext E105
  have f109 := f104.ext E105
  have V105 : Arv Z h105 b105 k105 .char (0 : Int32) [] (.int (0 : Int32)) := Arv.new A105 (by decide)
  have Z105 : n0 ≤ h105.size := Nat.le_trans Z102 E105.1
  have K105 : Keep h0 h105 [] := K102.ext E105
  have hk105 := Nat.le_trans hk102 E105.1
  refine GoesW.step (B := (T105.setTop (mkF m 35 #[.val (.int (0 : Int32)), .val (.int u1), .val (.int u2), .val (.int u3), .val (.int (u1 &&& (255 : Int32)).toUInt32.toUInt16.toUInt32.toInt32), .val (.int (u2 &&& (255 : Int32)).toUInt32.toUInt16.toUInt32.toInt32), .val (.int (u3 &&& (255 : Int32)).toUInt32.toUInt16.toUInt32.toInt32)] [(.ref b105), (.ref b102), (.ref b102)]))) (fun _ k => st105 _ k) ?_
  obtain ⟨_, _, ⟨T110, L110, k110, n110⟩, -, X110, hSq110, hgr110, ⟨Lc110, hQ110, l110, y110, z110⟩, st110⟩ := X105.specialBackS hx (y := (⟨"java/lang/String", "<init>", "([C)V"⟩ : MethodName)) rfl hown (mvT hZ (hw _ (List.mem_of_getElem? (i := 9) rfl))) (mvT hZ (hw _ (List.mem_of_getElem? (i := 10) rfl))) (mvT hZ (hw _ (List.mem_of_getElem? (i := 11) rfl))) (by decide) (backOfI (W := 1) (own_s10_rm l Z a0 hw [] b102 b105 k105 h105 n0 Z105 f107 f109 f108 V105 gn102 (Ne.symm ne106) (fun b cl q => K105.2.1 b cl (hkp b cl q) nm0) hcon hcw) hZ hI (hw _ (List.mem_of_getElem? (i := 11) rfl)) (hw _ (List.mem_of_getElem? (i := 7) rfl)) (by decide) (by decide)) (g := (mkF m 35 #[.val (.int (0 : Int32)), .val (.int u1), .val (.int u2), .val (.int u3), .val (.int (u1 &&& (255 : Int32)).toUInt32.toUInt16.toUInt32.toInt32), .val (.int (u2 &&& (255 : Int32)).toUInt32.toUInt16.toUInt32.toInt32), .val (.int (u3 &&& (255 : Int32)).toUInt32.toUInt16.toUInt32.toInt32)] [(.ref b105), (.ref b102), (.ref b102)])) rfl (by rw [hml]; rfl) (Steps.refl _) (a := b102) (argsL := [(.ref b105)]) (rest := [(.ref b102)]) (lenOf pd__AC_V rfl) rfl (by show 2 * 0 + _ ≤ _; exact Nat.le_of_eq rfl) (hb hby d_method_3_code_35) (fun _ _ => ⟨rfl, e105, (by decide : 2 + 2 ≤ _), (by decide : 4 + 4 ≤ _)⟩)
  dsimp only [Pt.U, Pt.locs, Pt.cells, Pt.slots] at X110 l110 y110 z110 st110 hQ110 hSq110 hgr110
  subst l110 y110 z110
  have hk110 := Nat.le_trans (by rw [e105]; exact hk105) hgr110
  have hS110 := hS0.trans hSq110 hk110
  have hZ110 : Z.Warmed39 T110.vm := State.Warmed39.trans hZ hSq110.1
  have hown110 : T110.vm.findClass "com/example/breakwater/breakwater/SettingsRequireAtLeastOnePinLaw" = some m.cls := by rw [hSq110.1.alike.findClass]; exact hown
  obtain ⟨rfl, N110q, K110q, p110_0⟩ := hQ110
  have N110 := Fr.app N0 N110q
  have f111 := f107.keep K110q
  have f112 := V105.keep K110q (nm1 (Ne.symm ne106))
  have K110 : Keep h0 T110.heap [] := Keep.trans K105 K110q (fun y q => by cases List.mem_singleton.mp q; exact (Or.inr sz102))
  have Z110 : n0 ≤ T110.heap.size := Nat.le_trans Z105 K110q.1
  refine GoesW.to (B := (T110.setTop (mkF m 38 #[.val (.int (0 : Int32)), .val (.int u1), .val (.int u2), .val (.int u3), .val (.int (u1 &&& (255 : Int32)).toUInt32.toUInt16.toUInt32.toInt32), .val (.int (u2 &&& (255 : Int32)).toUInt32.toUInt16.toUInt32.toInt32), .val (.int (u3 &&& (255 : Int32)).toUInt32.toUInt16.toUInt32.toInt32)] [(.ref b102)]))) st110 ?_
  refine GoesW.retR X110 hS110 (Nat.le_refl T110.heap.size) hx hlk hrt rfl rfl rfl (hb hby d_method_3_code_38) ?_ (by decide) (by decide)
  exact ⟨b102, rfl, N110, K110, gn102, sz102, p110_0⟩
theorem d_method_3_code_39 : decode method_3_code 39 = .ok (.iload_n 0, 1) := by decide +kernel
theorem d_method_3_code_40 : decode method_3_code 40 = .ok (.iconst 1, 1) := by decide +kernel
theorem d_method_3_code_41 : decode method_3_code 41 = .ok (.if_icmp .ne 9, 3) := by decide +kernel
theorem d_method_3_code_44 : decode method_3_code 44 = .ok (.iload 4, 2) := by decide +kernel
theorem d_method_3_code_46 : decode method_3_code 46 = .ok (.invokestatic 25, 3) := by decide +kernel
theorem pd__C_Ljava_lang_String_ : parseMethodDescriptor "(C)Ljava/lang/String;" = some ⟨[.char], some (.object "java/lang/String")⟩ := by decide +kernel
theorem d_method_3_code_49 : decode method_3_code 49 = .ok (.areturn, 1) := by decide +kernel
def own_nm1_Q (Z : State) (u1 : Int32) (u2 : Int32) (u3 : Int32) (w0 : Int32) (h0 : Heap) (n0 : Nat) (v : Option Value) (h : Heap) (L : List Loc) : Prop := ∃ (b : Addr), (v = some (.ref b)) ∧ (Fr n0 L) ∧ (Keep h0 h []) ∧ (n0 ≤ b) ∧ (h0.size ≤ b) ∧ (Exa Z h b "java/lang/String")
theorem own_nm1_ef (m : MethodId) (u1 : Int32) (u2 : Int32) (u3 : Int32) : entryFrame m #[(.int (1 : Int32)), (.int u1), (.int u2), (.int u3)] 7 = mkF m 0 #[.val (.int (1 : Int32)), .val (.int u1), .val (.int u2), .val (.int u3), .unset, .unset, .unset] [] := by first | (simp [entryFrame, mkF, argsToLocals, Value.category]; done) | rfl
set_option maxRecDepth 65536 in
set_option maxHeartbeats 40000000 in
theorem own_nm1_rm (l : Launch) (Z : State) (a0 : Array Value) (hw : ∀ d ∈ tables_1, d.before a0 Z = true) (ws : List Jvm.Cond) (u1 : Int32) (u2 : Int32) (u3 : Int32) (w0 : Int32) (h0 : Heap) (n0 : Nat) (Z0 : n0 ≤ h0.size) (pr0 : Sta Z h0 "java/lang/String" "COMPACT_STRINGS" "Z" (.int w0)) (hw0 : ¬ (w0 = (0 : Int32))) :
    MetFree l (⟨"com/example/breakwater/breakwater/SettingsRequireAtLeastOnePinLaw", "name", "(IIII)Ljava/lang/String;"⟩ : MethodName) (head1 (Jvm.Cond.code (⟨"com/example/breakwater/breakwater/SettingsRequireAtLeastOnePinLaw", "name", "(IIII)Ljava/lang/String;"⟩ : MethodName) method_3_code 7 (some (.object "java/lang/String")) :: ws) ({ frames := 3, cells := 2, slots := 5, locals := 39 } : Room)) (fun a U => a = #[(.int (1 : Int32)), (.int u1), (.int u2), (.int u3)] ∧ Z.Warmed39 U.vm ∧ U.heap = h0) (fun _ _ _ _ _ => True) (fun _ U o U' => ∃ v L, o = .returned v ∧ own_nm1_Q Z u1 u2 u3 w0 h0 n0 v U'.heap L ∧ FrameEnd U o U' L ({ frames := 3, cells := 2, slots := 5, locals := 39 } : Room).cells ({ frames := 3, cells := 2, slots := 5, locals := 39 } : Room).slots) := by
  refine MetFree.of_bodySF (plainFor_of_name pn_SettingsRequireAtLeastOnePinLaw) hisR ?_
  intro p e s m args below meth c s₁ Bd hml0 hP hK
  obtain ⟨rfl, hZ, hh⟩ := hP
  have hx := Bd.exec
  have hby := Bd.bytes
  have hml : c.maxLocals = 7 := hml0
  have hown : s.vm.findClass "com/example/breakwater/breakwater/SettingsRequireAtLeastOnePinLaw" = some m.cls := findClass_of_methodNamed Bd.named
  have hnm := (name_of_methodNamed Bd.named Bd.method).1
  have hlk : meth.locks = false := BodyLoose.notSynchronized Bd
  have hrt := Bd.returns
  have X0 : Stand p l e ({ frames := 3, cells := 2, slots := 5, locals := 39 } : Room) s m #[(.int (1 : Int32)), (.int u1), (.int u2), (.int u3)] below meth c s₁ [] 0 0 := Stand.of_body Bd
  have e0 : s₁.heap = h0 := by rw [← hh, Bd.state]; rfl
  have N0 := Fr.nil n0
  refine Goes.enter (kc := ({ frames := 3, cells := 2, slots := 5, locals := 39 } : Room).cells) (kn := ({ frames := 3, cells := 2, slots := 5, locals := 39 } : Room).slots) (Q := own_nm1_Q Z u1 u2 u3 w0 h0 n0) (own_nm1_ef m u1 u2 u3) ?_
  refine Goes.step (B := (s₁.setTop (mkF m 1 #[.val (.int (1 : Int32)), .val (.int u1), .val (.int u2), .val (.int u3), .unset, .unset, .unset] [(.int u1)]))) (fun _ k => XS.iloadN X0.here hx rfl (hb hby d_method_3_code_0) rfl k) ?_
  refine Goes.step (B := (s₁.setTop (mkF m 4 #[.val (.int (1 : Int32)), .val (.int u1), .val (.int u2), .val (.int u3), .unset, .unset, .unset] [(.int (255 : Int32)), (.int u1)]))) (fun _ k => XS.sipush X0.here hx rfl (hb hby d_method_3_code_1) k) ?_
  refine Goes.step (B := (s₁.setTop (mkF m 5 #[.val (.int (1 : Int32)), .val (.int u1), .val (.int u2), .val (.int u3), .unset, .unset, .unset] [(.int (u1 &&& (255 : Int32)))]))) (fun _ k => XS.iand X0.here hx rfl (hb hby d_method_3_code_4) rfl k) ?_
  refine Goes.step (B := (s₁.setTop (mkF m 6 #[.val (.int (1 : Int32)), .val (.int u1), .val (.int u2), .val (.int u3), .unset, .unset, .unset] [(.int (u1 &&& (255 : Int32)).toUInt32.toUInt16.toUInt32.toInt32)]))) (fun _ k => XS.i2c X0.here hx rfl (hb hby d_method_3_code_5) rfl k) ?_
  refine Goes.step (B := (s₁.setTop (mkF m 8 #[.val (.int (1 : Int32)), .val (.int u1), .val (.int u2), .val (.int u3), .val (.int (u1 &&& (255 : Int32)).toUInt32.toUInt16.toUInt32.toInt32), .unset, .unset] []))) (fun _ k => XS.istore X0.here hx rfl (hb hby d_method_3_code_6) rfl (l' := #[.val (.int (1 : Int32)), .val (.int u1), .val (.int u2), .val (.int u3), .val (.int (u1 &&& (255 : Int32)).toUInt32.toUInt16.toUInt32.toInt32), .unset, .unset]) rfl k) ?_
  refine Goes.step (B := (s₁.setTop (mkF m 9 #[.val (.int (1 : Int32)), .val (.int u1), .val (.int u2), .val (.int u3), .val (.int (u1 &&& (255 : Int32)).toUInt32.toUInt16.toUInt32.toInt32), .unset, .unset] [(.int u2)]))) (fun _ k => XS.iloadN X0.here hx rfl (hb hby d_method_3_code_8) rfl k) ?_
  refine Goes.step (B := (s₁.setTop (mkF m 12 #[.val (.int (1 : Int32)), .val (.int u1), .val (.int u2), .val (.int u3), .val (.int (u1 &&& (255 : Int32)).toUInt32.toUInt16.toUInt32.toInt32), .unset, .unset] [(.int (255 : Int32)), (.int u2)]))) (fun _ k => XS.sipush X0.here hx rfl (hb hby d_method_3_code_9) k) ?_
  refine Goes.step (B := (s₁.setTop (mkF m 13 #[.val (.int (1 : Int32)), .val (.int u1), .val (.int u2), .val (.int u3), .val (.int (u1 &&& (255 : Int32)).toUInt32.toUInt16.toUInt32.toInt32), .unset, .unset] [(.int (u2 &&& (255 : Int32)))]))) (fun _ k => XS.iand X0.here hx rfl (hb hby d_method_3_code_12) rfl k) ?_
  refine Goes.step (B := (s₁.setTop (mkF m 14 #[.val (.int (1 : Int32)), .val (.int u1), .val (.int u2), .val (.int u3), .val (.int (u1 &&& (255 : Int32)).toUInt32.toUInt16.toUInt32.toInt32), .unset, .unset] [(.int (u2 &&& (255 : Int32)).toUInt32.toUInt16.toUInt32.toInt32)]))) (fun _ k => XS.i2c X0.here hx rfl (hb hby d_method_3_code_13) rfl k) ?_
  refine Goes.step (B := (s₁.setTop (mkF m 16 #[.val (.int (1 : Int32)), .val (.int u1), .val (.int u2), .val (.int u3), .val (.int (u1 &&& (255 : Int32)).toUInt32.toUInt16.toUInt32.toInt32), .val (.int (u2 &&& (255 : Int32)).toUInt32.toUInt16.toUInt32.toInt32), .unset] []))) (fun _ k => XS.istore X0.here hx rfl (hb hby d_method_3_code_14) rfl (l' := #[.val (.int (1 : Int32)), .val (.int u1), .val (.int u2), .val (.int u3), .val (.int (u1 &&& (255 : Int32)).toUInt32.toUInt16.toUInt32.toInt32), .val (.int (u2 &&& (255 : Int32)).toUInt32.toUInt16.toUInt32.toInt32), .unset]) rfl k) ?_
  refine Goes.step (B := (s₁.setTop (mkF m 17 #[.val (.int (1 : Int32)), .val (.int u1), .val (.int u2), .val (.int u3), .val (.int (u1 &&& (255 : Int32)).toUInt32.toUInt16.toUInt32.toInt32), .val (.int (u2 &&& (255 : Int32)).toUInt32.toUInt16.toUInt32.toInt32), .unset] [(.int u3)]))) (fun _ k => XS.iloadN X0.here hx rfl (hb hby d_method_3_code_16) rfl k) ?_
  refine Goes.step (B := (s₁.setTop (mkF m 20 #[.val (.int (1 : Int32)), .val (.int u1), .val (.int u2), .val (.int u3), .val (.int (u1 &&& (255 : Int32)).toUInt32.toUInt16.toUInt32.toInt32), .val (.int (u2 &&& (255 : Int32)).toUInt32.toUInt16.toUInt32.toInt32), .unset] [(.int (255 : Int32)), (.int u3)]))) (fun _ k => XS.sipush X0.here hx rfl (hb hby d_method_3_code_17) k) ?_
  refine Goes.step (B := (s₁.setTop (mkF m 21 #[.val (.int (1 : Int32)), .val (.int u1), .val (.int u2), .val (.int u3), .val (.int (u1 &&& (255 : Int32)).toUInt32.toUInt16.toUInt32.toInt32), .val (.int (u2 &&& (255 : Int32)).toUInt32.toUInt16.toUInt32.toInt32), .unset] [(.int (u3 &&& (255 : Int32)))]))) (fun _ k => XS.iand X0.here hx rfl (hb hby d_method_3_code_20) rfl k) ?_
  refine Goes.step (B := (s₁.setTop (mkF m 22 #[.val (.int (1 : Int32)), .val (.int u1), .val (.int u2), .val (.int u3), .val (.int (u1 &&& (255 : Int32)).toUInt32.toUInt16.toUInt32.toInt32), .val (.int (u2 &&& (255 : Int32)).toUInt32.toUInt16.toUInt32.toInt32), .unset] [(.int (u3 &&& (255 : Int32)).toUInt32.toUInt16.toUInt32.toInt32)]))) (fun _ k => XS.i2c X0.here hx rfl (hb hby d_method_3_code_21) rfl k) ?_
  refine Goes.step (B := (s₁.setTop (mkF m 24 #[.val (.int (1 : Int32)), .val (.int u1), .val (.int u2), .val (.int u3), .val (.int (u1 &&& (255 : Int32)).toUInt32.toUInt16.toUInt32.toInt32), .val (.int (u2 &&& (255 : Int32)).toUInt32.toUInt16.toUInt32.toInt32), .val (.int (u3 &&& (255 : Int32)).toUInt32.toUInt16.toUInt32.toInt32)] []))) (fun _ k => XS.istore X0.here hx rfl (hb hby d_method_3_code_22) rfl (l' := #[.val (.int (1 : Int32)), .val (.int u1), .val (.int u2), .val (.int u3), .val (.int (u1 &&& (255 : Int32)).toUInt32.toUInt16.toUInt32.toInt32), .val (.int (u2 &&& (255 : Int32)).toUInt32.toUInt16.toUInt32.toInt32), .val (.int (u3 &&& (255 : Int32)).toUInt32.toUInt16.toUInt32.toInt32)]) rfl k) ?_
  refine Goes.step (B := (s₁.setTop (mkF m 25 #[.val (.int (1 : Int32)), .val (.int u1), .val (.int u2), .val (.int u3), .val (.int (u1 &&& (255 : Int32)).toUInt32.toUInt16.toUInt32.toInt32), .val (.int (u2 &&& (255 : Int32)).toUInt32.toUInt16.toUInt32.toInt32), .val (.int (u3 &&& (255 : Int32)).toUInt32.toUInt16.toUInt32.toInt32)] [(.int (1 : Int32))]))) (fun _ k => XS.iloadN X0.here hx rfl (hb hby d_method_3_code_24) rfl k) ?_
  have hc101 : ¬ ((1 : Int32) = (0 : Int32)) := by decide
  refine Goes.step (B := (s₁.setTop (mkF m 39 #[.val (.int (1 : Int32)), .val (.int u1), .val (.int u2), .val (.int u3), .val (.int (u1 &&& (255 : Int32)).toUInt32.toUInt16.toUInt32.toInt32), .val (.int (u2 &&& (255 : Int32)).toUInt32.toUInt16.toUInt32.toInt32), .val (.int (u3 &&& (255 : Int32)).toUInt32.toUInt16.toUInt32.toInt32)] []))) (fun _ k => XS.ifYes X0.here hx rfl (pc0 := 25) (pc' := 39) rfl (hb hby d_method_3_code_25) rfl ((if0 _ _).trans (feq hc101).2) (by decide) (by decide) k) ?_
  refine Goes.step (B := (s₁.setTop (mkF m 40 #[.val (.int (1 : Int32)), .val (.int u1), .val (.int u2), .val (.int u3), .val (.int (u1 &&& (255 : Int32)).toUInt32.toUInt16.toUInt32.toInt32), .val (.int (u2 &&& (255 : Int32)).toUInt32.toUInt16.toUInt32.toInt32), .val (.int (u3 &&& (255 : Int32)).toUInt32.toUInt16.toUInt32.toInt32)] [(.int (1 : Int32))]))) (fun _ k => XS.iloadN X0.here hx rfl (hb hby d_method_3_code_39) rfl k) ?_
  refine Goes.step (B := (s₁.setTop (mkF m 41 #[.val (.int (1 : Int32)), .val (.int u1), .val (.int u2), .val (.int u3), .val (.int (u1 &&& (255 : Int32)).toUInt32.toUInt16.toUInt32.toInt32), .val (.int (u2 &&& (255 : Int32)).toUInt32.toUInt16.toUInt32.toInt32), .val (.int (u3 &&& (255 : Int32)).toUInt32.toUInt16.toUInt32.toInt32)] [(.int (1 : Int32)), (.int (1 : Int32))]))) (fun _ k => XS.iconst X0.here hx rfl (hb hby d_method_3_code_40) k) ?_
  have hc102 : (1 : Int32) = (1 : Int32) := by decide
  refine Goes.step (B := (s₁.setTop (mkF m 44 #[.val (.int (1 : Int32)), .val (.int u1), .val (.int u2), .val (.int u3), .val (.int (u1 &&& (255 : Int32)).toUInt32.toUInt16.toUInt32.toInt32), .val (.int (u2 &&& (255 : Int32)).toUInt32.toUInt16.toUInt32.toInt32), .val (.int (u3 &&& (255 : Int32)).toUInt32.toUInt16.toUInt32.toInt32)] []))) (fun _ k => XS.icmpNo X0.here hx rfl (hb hby d_method_3_code_41) rfl (teq hc102).2 k) ?_
  refine Goes.step (B := (s₁.setTop (mkF m 46 #[.val (.int (1 : Int32)), .val (.int u1), .val (.int u2), .val (.int u3), .val (.int (u1 &&& (255 : Int32)).toUInt32.toUInt16.toUInt32.toInt32), .val (.int (u2 &&& (255 : Int32)).toUInt32.toUInt16.toUInt32.toInt32), .val (.int (u3 &&& (255 : Int32)).toUInt32.toUInt16.toUInt32.toInt32)] [(.int (u1 &&& (255 : Int32)).toUInt32.toUInt16.toUInt32.toInt32)]))) (fun _ k => XS.iload X0.here hx rfl (hb hby d_method_3_code_44) rfl k) ?_
  obtain ⟨_, _, ⟨T103, L103, k103, n103⟩, -, X103, ⟨Lc103, hQ103, l103, y103, z103⟩, st103⟩ := Jvm.LawKit.callS X0 hx (y := (⟨"java/lang/String", "valueOf", "(C)Ljava/lang/String;"⟩ : MethodName)) hown (mvT hZ (hw _ (List.mem_of_getElem? (i := 42) rfl))) (mvT hZ (hw _ (List.mem_of_getElem? (i := 43) rfl))) (mvT hZ (hw _ (List.mem_of_getElem? (i := 7) rfl))) (mvT hZ (hw _ (List.mem_of_getElem? (i := 44) rfl))) (by decide) (backOf (W := 0) (own_vo_rm l Z a0 hw [] ((u1 &&& (255 : Int32)).toUInt32.toUInt16.toUInt32.toInt32) w0 h0 n0 Z0 pr0 hw0 (own_ch u1)) hZ (hw _ (List.mem_of_getElem? (i := 44) rfl)) (hw _ (List.mem_of_getElem? (i := 7) rfl)) (by decide) (by decide)) (g := (mkF m 46 #[.val (.int (1 : Int32)), .val (.int u1), .val (.int u2), .val (.int u3), .val (.int (u1 &&& (255 : Int32)).toUInt32.toUInt16.toUInt32.toInt32), .val (.int (u2 &&& (255 : Int32)).toUInt32.toUInt16.toUInt32.toInt32), .val (.int (u3 &&& (255 : Int32)).toUInt32.toUInt16.toUInt32.toInt32)] [(.int (u1 &&& (255 : Int32)).toUInt32.toUInt16.toUInt32.toInt32)])) rfl (by rw [hml]; rfl) (argsL := [(.int (u1 &&& (255 : Int32)).toUInt32.toUInt16.toUInt32.toInt32)]) (rest := []) (lenOf pd__C_Ljava_lang_String_ rfl) rfl (by show 2 * 0 + _ ≤ _; exact Nat.le_of_eq rfl) (hb hby d_method_3_code_46) (fun _ _ => ⟨rfl, e0, (by decide : 0 + 2 ≤ _), (by decide : 0 + 5 ≤ _)⟩)
  dsimp only [Pt.U, Pt.locs, Pt.cells, Pt.slots] at X103 l103 y103 z103 st103 hQ103
  subst l103 y103 z103
  obtain ⟨b_103, rfl, N103q, K103q, gn103_b, sz103_b, p103_0⟩ := hQ103
  have N103 := Fr.app N0 N103q
  have f104 := pr0.keepN K103q (fun _ q => nomatch q)
  have K103 : Keep h0 T103.heap [] := Keep.trans (Keep.refl h0 []) K103q (fun _ q => nomatch q)
  have Z103 : n0 ≤ T103.heap.size := Nat.le_trans Z0 K103q.1
  have szz103_b : h0.size ≤ b_103 := Nat.le_trans (Keep.refl h0 []).1 sz103_b
  refine Goes.step (B := (T103.setTop (mkF m 49 #[.val (.int (1 : Int32)), .val (.int u1), .val (.int u2), .val (.int u3), .val (.int (u1 &&& (255 : Int32)).toUInt32.toUInt16.toUInt32.toInt32), .val (.int (u2 &&& (255 : Int32)).toUInt32.toUInt16.toUInt32.toInt32), .val (.int (u3 &&& (255 : Int32)).toUInt32.toUInt16.toUInt32.toInt32)] [(.ref b_103)]))) (fun _ k => st103 _ k) ?_
  refine Goes.retR X103 hx hlk hrt rfl rfl rfl (hb hby d_method_3_code_49) ?_ (by decide) (by decide)
  exact ⟨b_103, rfl, N103, K103, gn103_b, szz103_b, p103_0⟩
theorem d_method_3_code_50 : decode method_3_code 50 = .ok (.iload_n 0, 1) := by decide +kernel
theorem d_method_3_code_51 : decode method_3_code 51 = .ok (.iconst 2, 1) := by decide +kernel
theorem d_method_3_code_52 : decode method_3_code 52 = .ok (.if_icmp .ne 24, 3) := by decide +kernel
theorem d_method_3_code_55 : decode method_3_code 55 = .ok (.new 20, 3) := by decide +kernel
theorem d_method_3_code_58 : decode method_3_code 58 = .ok (.dup, 1) := by decide +kernel
theorem d_method_3_code_59 : decode method_3_code 59 = .ok (.iconst 2, 1) := by decide +kernel
theorem d_method_3_code_60 : decode method_3_code 60 = .ok (.newarray .char, 2) := by decide +kernel
theorem d_method_3_code_62 : decode method_3_code 62 = .ok (.dup, 1) := by decide +kernel
theorem d_method_3_code_63 : decode method_3_code 63 = .ok (.iconst 0, 1) := by decide +kernel
theorem d_method_3_code_64 : decode method_3_code 64 = .ok (.iload 4, 2) := by decide +kernel
theorem d_method_3_code_66 : decode method_3_code 66 = .ok (.castore, 1) := by decide +kernel
theorem d_method_3_code_67 : decode method_3_code 67 = .ok (.dup, 1) := by decide +kernel
theorem d_method_3_code_68 : decode method_3_code 68 = .ok (.iconst 1, 1) := by decide +kernel
theorem d_method_3_code_69 : decode method_3_code 69 = .ok (.iload 5, 2) := by decide +kernel
theorem d_method_3_code_71 : decode method_3_code 71 = .ok (.castore, 1) := by decide +kernel
theorem d_method_3_code_72 : decode method_3_code 72 = .ok (.invokespecial 22, 3) := by decide +kernel
theorem d_method_3_code_75 : decode method_3_code 75 = .ok (.areturn, 1) := by decide +kernel
def own_nm2_Q (Z : State) (u1 : Int32) (u2 : Int32) (u3 : Int32) (w0 : Int32) (h0 : Heap) (n0 : Nat) (v : Option Value) (h : Heap) (L : List Loc) : Prop := ∃ (b : Addr), (v = some (.ref b)) ∧ (Fr n0 L) ∧ (Keep h0 h []) ∧ (n0 ≤ b) ∧ (h0.size ≤ b) ∧ (Exa Z h b "java/lang/String")
theorem own_nm2_ef (m : MethodId) (u1 : Int32) (u2 : Int32) (u3 : Int32) : entryFrame m #[(.int (2 : Int32)), (.int u1), (.int u2), (.int u3)] 7 = mkF m 0 #[.val (.int (2 : Int32)), .val (.int u1), .val (.int u2), .val (.int u3), .unset, .unset, .unset] [] := by first | (simp [entryFrame, mkF, argsToLocals, Value.category]; done) | rfl
set_option maxRecDepth 65536 in
set_option maxHeartbeats 40000000 in
theorem own_nm2_rm (l : Launch) (Z : State) (a0 : Array Value) (hw : ∀ d ∈ tables_1, d.before a0 Z = true) (ws : List Jvm.Cond) (u1 : Int32) (u2 : Int32) (u3 : Int32) (w0 : Int32) (h0 : Heap) (n0 : Nat) (Z0 : n0 ≤ h0.size) (pr0 : Sta Z h0 "java/lang/String" "COMPACT_STRINGS" "Z" (.int w0)) (hw0 : ¬ (w0 = (0 : Int32))) :
    MetFree l (⟨"com/example/breakwater/breakwater/SettingsRequireAtLeastOnePinLaw", "name", "(IIII)Ljava/lang/String;"⟩ : MethodName) (head1 (Jvm.Cond.code (⟨"com/example/breakwater/breakwater/SettingsRequireAtLeastOnePinLaw", "name", "(IIII)Ljava/lang/String;"⟩ : MethodName) method_3_code 7 (some (.object "java/lang/String")) :: ws) ({ frames := 4, cells := 3, slots := 8, locals := 66 } : Room)) (fun a U => a = #[(.int (2 : Int32)), (.int u1), (.int u2), (.int u3)] ∧ Z.Warmed39 U.vm ∧ U.heap = h0) (fun _ _ _ _ _ => True) (fun _ U o U' => ∃ v L, o = .returned v ∧ own_nm2_Q Z u1 u2 u3 w0 h0 n0 v U'.heap L ∧ FrameEnd U o U' L ({ frames := 4, cells := 3, slots := 8, locals := 66 } : Room).cells ({ frames := 4, cells := 3, slots := 8, locals := 66 } : Room).slots) := by
  refine MetFree.of_bodySF (plainFor_of_name pn_SettingsRequireAtLeastOnePinLaw) hisR ?_
  intro p e s m args below meth c s₁ Bd hml0 hP hK
  obtain ⟨rfl, hZ, hh⟩ := hP
  have hx := Bd.exec
  have hby := Bd.bytes
  have hml : c.maxLocals = 7 := hml0
  have hown : s.vm.findClass "com/example/breakwater/breakwater/SettingsRequireAtLeastOnePinLaw" = some m.cls := findClass_of_methodNamed Bd.named
  have hnm := (name_of_methodNamed Bd.named Bd.method).1
  have hlk : meth.locks = false := BodyLoose.notSynchronized Bd
  have hrt := Bd.returns
  have X0 : Stand p l e ({ frames := 4, cells := 3, slots := 8, locals := 66 } : Room) s m #[(.int (2 : Int32)), (.int u1), (.int u2), (.int u3)] below meth c s₁ [] 0 0 := Stand.of_body Bd
  have e0 : s₁.heap = h0 := by rw [← hh, Bd.state]; rfl
  have N0 := Fr.nil n0
  refine Goes.enter (kc := ({ frames := 4, cells := 3, slots := 8, locals := 66 } : Room).cells) (kn := ({ frames := 4, cells := 3, slots := 8, locals := 66 } : Room).slots) (Q := own_nm2_Q Z u1 u2 u3 w0 h0 n0) (own_nm2_ef m u1 u2 u3) ?_
  refine Goes.step (B := (s₁.setTop (mkF m 1 #[.val (.int (2 : Int32)), .val (.int u1), .val (.int u2), .val (.int u3), .unset, .unset, .unset] [(.int u1)]))) (fun _ k => XS.iloadN X0.here hx rfl (hb hby d_method_3_code_0) rfl k) ?_
  refine Goes.step (B := (s₁.setTop (mkF m 4 #[.val (.int (2 : Int32)), .val (.int u1), .val (.int u2), .val (.int u3), .unset, .unset, .unset] [(.int (255 : Int32)), (.int u1)]))) (fun _ k => XS.sipush X0.here hx rfl (hb hby d_method_3_code_1) k) ?_
  refine Goes.step (B := (s₁.setTop (mkF m 5 #[.val (.int (2 : Int32)), .val (.int u1), .val (.int u2), .val (.int u3), .unset, .unset, .unset] [(.int (u1 &&& (255 : Int32)))]))) (fun _ k => XS.iand X0.here hx rfl (hb hby d_method_3_code_4) rfl k) ?_
  refine Goes.step (B := (s₁.setTop (mkF m 6 #[.val (.int (2 : Int32)), .val (.int u1), .val (.int u2), .val (.int u3), .unset, .unset, .unset] [(.int (u1 &&& (255 : Int32)).toUInt32.toUInt16.toUInt32.toInt32)]))) (fun _ k => XS.i2c X0.here hx rfl (hb hby d_method_3_code_5) rfl k) ?_
  refine Goes.step (B := (s₁.setTop (mkF m 8 #[.val (.int (2 : Int32)), .val (.int u1), .val (.int u2), .val (.int u3), .val (.int (u1 &&& (255 : Int32)).toUInt32.toUInt16.toUInt32.toInt32), .unset, .unset] []))) (fun _ k => XS.istore X0.here hx rfl (hb hby d_method_3_code_6) rfl (l' := #[.val (.int (2 : Int32)), .val (.int u1), .val (.int u2), .val (.int u3), .val (.int (u1 &&& (255 : Int32)).toUInt32.toUInt16.toUInt32.toInt32), .unset, .unset]) rfl k) ?_
  refine Goes.step (B := (s₁.setTop (mkF m 9 #[.val (.int (2 : Int32)), .val (.int u1), .val (.int u2), .val (.int u3), .val (.int (u1 &&& (255 : Int32)).toUInt32.toUInt16.toUInt32.toInt32), .unset, .unset] [(.int u2)]))) (fun _ k => XS.iloadN X0.here hx rfl (hb hby d_method_3_code_8) rfl k) ?_
  refine Goes.step (B := (s₁.setTop (mkF m 12 #[.val (.int (2 : Int32)), .val (.int u1), .val (.int u2), .val (.int u3), .val (.int (u1 &&& (255 : Int32)).toUInt32.toUInt16.toUInt32.toInt32), .unset, .unset] [(.int (255 : Int32)), (.int u2)]))) (fun _ k => XS.sipush X0.here hx rfl (hb hby d_method_3_code_9) k) ?_
  refine Goes.step (B := (s₁.setTop (mkF m 13 #[.val (.int (2 : Int32)), .val (.int u1), .val (.int u2), .val (.int u3), .val (.int (u1 &&& (255 : Int32)).toUInt32.toUInt16.toUInt32.toInt32), .unset, .unset] [(.int (u2 &&& (255 : Int32)))]))) (fun _ k => XS.iand X0.here hx rfl (hb hby d_method_3_code_12) rfl k) ?_
  refine Goes.step (B := (s₁.setTop (mkF m 14 #[.val (.int (2 : Int32)), .val (.int u1), .val (.int u2), .val (.int u3), .val (.int (u1 &&& (255 : Int32)).toUInt32.toUInt16.toUInt32.toInt32), .unset, .unset] [(.int (u2 &&& (255 : Int32)).toUInt32.toUInt16.toUInt32.toInt32)]))) (fun _ k => XS.i2c X0.here hx rfl (hb hby d_method_3_code_13) rfl k) ?_
  refine Goes.step (B := (s₁.setTop (mkF m 16 #[.val (.int (2 : Int32)), .val (.int u1), .val (.int u2), .val (.int u3), .val (.int (u1 &&& (255 : Int32)).toUInt32.toUInt16.toUInt32.toInt32), .val (.int (u2 &&& (255 : Int32)).toUInt32.toUInt16.toUInt32.toInt32), .unset] []))) (fun _ k => XS.istore X0.here hx rfl (hb hby d_method_3_code_14) rfl (l' := #[.val (.int (2 : Int32)), .val (.int u1), .val (.int u2), .val (.int u3), .val (.int (u1 &&& (255 : Int32)).toUInt32.toUInt16.toUInt32.toInt32), .val (.int (u2 &&& (255 : Int32)).toUInt32.toUInt16.toUInt32.toInt32), .unset]) rfl k) ?_
  refine Goes.step (B := (s₁.setTop (mkF m 17 #[.val (.int (2 : Int32)), .val (.int u1), .val (.int u2), .val (.int u3), .val (.int (u1 &&& (255 : Int32)).toUInt32.toUInt16.toUInt32.toInt32), .val (.int (u2 &&& (255 : Int32)).toUInt32.toUInt16.toUInt32.toInt32), .unset] [(.int u3)]))) (fun _ k => XS.iloadN X0.here hx rfl (hb hby d_method_3_code_16) rfl k) ?_
  refine Goes.step (B := (s₁.setTop (mkF m 20 #[.val (.int (2 : Int32)), .val (.int u1), .val (.int u2), .val (.int u3), .val (.int (u1 &&& (255 : Int32)).toUInt32.toUInt16.toUInt32.toInt32), .val (.int (u2 &&& (255 : Int32)).toUInt32.toUInt16.toUInt32.toInt32), .unset] [(.int (255 : Int32)), (.int u3)]))) (fun _ k => XS.sipush X0.here hx rfl (hb hby d_method_3_code_17) k) ?_
  refine Goes.step (B := (s₁.setTop (mkF m 21 #[.val (.int (2 : Int32)), .val (.int u1), .val (.int u2), .val (.int u3), .val (.int (u1 &&& (255 : Int32)).toUInt32.toUInt16.toUInt32.toInt32), .val (.int (u2 &&& (255 : Int32)).toUInt32.toUInt16.toUInt32.toInt32), .unset] [(.int (u3 &&& (255 : Int32)))]))) (fun _ k => XS.iand X0.here hx rfl (hb hby d_method_3_code_20) rfl k) ?_
  refine Goes.step (B := (s₁.setTop (mkF m 22 #[.val (.int (2 : Int32)), .val (.int u1), .val (.int u2), .val (.int u3), .val (.int (u1 &&& (255 : Int32)).toUInt32.toUInt16.toUInt32.toInt32), .val (.int (u2 &&& (255 : Int32)).toUInt32.toUInt16.toUInt32.toInt32), .unset] [(.int (u3 &&& (255 : Int32)).toUInt32.toUInt16.toUInt32.toInt32)]))) (fun _ k => XS.i2c X0.here hx rfl (hb hby d_method_3_code_21) rfl k) ?_
  refine Goes.step (B := (s₁.setTop (mkF m 24 #[.val (.int (2 : Int32)), .val (.int u1), .val (.int u2), .val (.int u3), .val (.int (u1 &&& (255 : Int32)).toUInt32.toUInt16.toUInt32.toInt32), .val (.int (u2 &&& (255 : Int32)).toUInt32.toUInt16.toUInt32.toInt32), .val (.int (u3 &&& (255 : Int32)).toUInt32.toUInt16.toUInt32.toInt32)] []))) (fun _ k => XS.istore X0.here hx rfl (hb hby d_method_3_code_22) rfl (l' := #[.val (.int (2 : Int32)), .val (.int u1), .val (.int u2), .val (.int u3), .val (.int (u1 &&& (255 : Int32)).toUInt32.toUInt16.toUInt32.toInt32), .val (.int (u2 &&& (255 : Int32)).toUInt32.toUInt16.toUInt32.toInt32), .val (.int (u3 &&& (255 : Int32)).toUInt32.toUInt16.toUInt32.toInt32)]) rfl k) ?_
  refine Goes.step (B := (s₁.setTop (mkF m 25 #[.val (.int (2 : Int32)), .val (.int u1), .val (.int u2), .val (.int u3), .val (.int (u1 &&& (255 : Int32)).toUInt32.toUInt16.toUInt32.toInt32), .val (.int (u2 &&& (255 : Int32)).toUInt32.toUInt16.toUInt32.toInt32), .val (.int (u3 &&& (255 : Int32)).toUInt32.toUInt16.toUInt32.toInt32)] [(.int (2 : Int32))]))) (fun _ k => XS.iloadN X0.here hx rfl (hb hby d_method_3_code_24) rfl k) ?_
  have hc101 : ¬ ((2 : Int32) = (0 : Int32)) := by decide
  refine Goes.step (B := (s₁.setTop (mkF m 39 #[.val (.int (2 : Int32)), .val (.int u1), .val (.int u2), .val (.int u3), .val (.int (u1 &&& (255 : Int32)).toUInt32.toUInt16.toUInt32.toInt32), .val (.int (u2 &&& (255 : Int32)).toUInt32.toUInt16.toUInt32.toInt32), .val (.int (u3 &&& (255 : Int32)).toUInt32.toUInt16.toUInt32.toInt32)] []))) (fun _ k => XS.ifYes X0.here hx rfl (pc0 := 25) (pc' := 39) rfl (hb hby d_method_3_code_25) rfl ((if0 _ _).trans (feq hc101).2) (by decide) (by decide) k) ?_
  refine Goes.step (B := (s₁.setTop (mkF m 40 #[.val (.int (2 : Int32)), .val (.int u1), .val (.int u2), .val (.int u3), .val (.int (u1 &&& (255 : Int32)).toUInt32.toUInt16.toUInt32.toInt32), .val (.int (u2 &&& (255 : Int32)).toUInt32.toUInt16.toUInt32.toInt32), .val (.int (u3 &&& (255 : Int32)).toUInt32.toUInt16.toUInt32.toInt32)] [(.int (2 : Int32))]))) (fun _ k => XS.iloadN X0.here hx rfl (hb hby d_method_3_code_39) rfl k) ?_
  refine Goes.step (B := (s₁.setTop (mkF m 41 #[.val (.int (2 : Int32)), .val (.int u1), .val (.int u2), .val (.int u3), .val (.int (u1 &&& (255 : Int32)).toUInt32.toUInt16.toUInt32.toInt32), .val (.int (u2 &&& (255 : Int32)).toUInt32.toUInt16.toUInt32.toInt32), .val (.int (u3 &&& (255 : Int32)).toUInt32.toUInt16.toUInt32.toInt32)] [(.int (1 : Int32)), (.int (2 : Int32))]))) (fun _ k => XS.iconst X0.here hx rfl (hb hby d_method_3_code_40) k) ?_
  have hc102 : ¬ ((2 : Int32) = (1 : Int32)) := by decide
  refine Goes.step (B := (s₁.setTop (mkF m 50 #[.val (.int (2 : Int32)), .val (.int u1), .val (.int u2), .val (.int u3), .val (.int (u1 &&& (255 : Int32)).toUInt32.toUInt16.toUInt32.toInt32), .val (.int (u2 &&& (255 : Int32)).toUInt32.toUInt16.toUInt32.toInt32), .val (.int (u3 &&& (255 : Int32)).toUInt32.toUInt16.toUInt32.toInt32)] []))) (fun _ k => XS.icmpYes X0.here hx rfl (pc0 := 41) (pc' := 50) rfl (hb hby d_method_3_code_41) rfl (feq hc102).2 (by decide) (by decide) k) ?_
  refine Goes.step (B := (s₁.setTop (mkF m 51 #[.val (.int (2 : Int32)), .val (.int u1), .val (.int u2), .val (.int u3), .val (.int (u1 &&& (255 : Int32)).toUInt32.toUInt16.toUInt32.toInt32), .val (.int (u2 &&& (255 : Int32)).toUInt32.toUInt16.toUInt32.toInt32), .val (.int (u3 &&& (255 : Int32)).toUInt32.toUInt16.toUInt32.toInt32)] [(.int (2 : Int32))]))) (fun _ k => XS.iloadN X0.here hx rfl (hb hby d_method_3_code_50) rfl k) ?_
  refine Goes.step (B := (s₁.setTop (mkF m 52 #[.val (.int (2 : Int32)), .val (.int u1), .val (.int u2), .val (.int u3), .val (.int (u1 &&& (255 : Int32)).toUInt32.toUInt16.toUInt32.toInt32), .val (.int (u2 &&& (255 : Int32)).toUInt32.toUInt16.toUInt32.toInt32), .val (.int (u3 &&& (255 : Int32)).toUInt32.toUInt16.toUInt32.toInt32)] [(.int (2 : Int32)), (.int (2 : Int32))]))) (fun _ k => XS.iconst X0.here hx rfl (hb hby d_method_3_code_51) k) ?_
  have hc103 : (2 : Int32) = (2 : Int32) := by decide
  refine Goes.step (B := (s₁.setTop (mkF m 55 #[.val (.int (2 : Int32)), .val (.int u1), .val (.int u2), .val (.int u3), .val (.int (u1 &&& (255 : Int32)).toUInt32.toUInt16.toUInt32.toInt32), .val (.int (u2 &&& (255 : Int32)).toUInt32.toUInt16.toUInt32.toInt32), .val (.int (u3 &&& (255 : Int32)).toUInt32.toUInt16.toUInt32.toInt32)] []))) (fun _ k => XS.icmpNo X0.here hx rfl (hb hby d_method_3_code_52) rfl (teq hc103).2 k) ?_
  obtain ⟨T104, h104, X104, e104, E104, A104, D104, -, st104⟩ := newO X0 hx hZ hown (hw _ (List.mem_of_getElem? (i := 5) rfl)) (hw _ (List.mem_of_getElem? (i := 6) rfl)) (hw _ (List.mem_of_getElem? (i := 7) rfl)) e0 (g := (mkF m 55 #[.val (.int (2 : Int32)), .val (.int u1), .val (.int u2), .val (.int u3), .val (.int (u1 &&& (255 : Int32)).toUInt32.toUInt16.toUInt32.toInt32), .val (.int (u2 &&& (255 : Int32)).toUInt32.toUInt16.toUInt32.toInt32), .val (.int (u3 &&& (255 : Int32)).toUInt32.toUInt16.toUInt32.toInt32)] [])) rfl (hb hby d_method_3_code_55) (by decide) (by decide)
  obtain ⟨b104, g104⟩ : ∃ z, z = h0.size := ⟨_, rfl⟩
  rw [← g104] at A104 D104 st104
  have gn104 : n0 ≤ b104 := Nat.le_trans Z0 (Nat.le_of_eq g104.symm)
  have sz104 : h0.size ≤ b104 := Nat.le_trans (Keep.refl h0 []).1 (Nat.le_of_eq g104.symm)
  have f105 := pr0.ext E104
  have f106 : Fld Z h104 b104 "java/lang/String" "coder" "B" (.int (0 : Int32)) := D104 (Or.inr (hw _ (List.mem_of_getElem? (i := 32) rfl))) (ty := .byte) (by decide)
  have f107 : Fld Z h104 b104 "java/lang/String" "value" "[B" .null := D104 (Or.inr (hw _ (List.mem_of_getElem? (i := 34) rfl))) (ty := (.array .byte)) (by decide)
  have Z104 : n0 ≤ h104.size := Nat.le_trans Z0 E104.1
  have K104 : Keep h0 h104 [] := (Keep.refl h0 []).ext E104
  refine Goes.step (B := (T104.setTop (mkF m 58 #[.val (.int (2 : Int32)), .val (.int u1), .val (.int u2), .val (.int u3), .val (.int (u1 &&& (255 : Int32)).toUInt32.toUInt16.toUInt32.toInt32), .val (.int (u2 &&& (255 : Int32)).toUInt32.toUInt16.toUInt32.toInt32), .val (.int (u3 &&& (255 : Int32)).toUInt32.toUInt16.toUInt32.toInt32)] [(.ref b104)]))) (fun _ k => st104 _ k) ?_
  refine Goes.step (B := (T104.setTop (mkF m 59 #[.val (.int (2 : Int32)), .val (.int u1), .val (.int u2), .val (.int u3), .val (.int (u1 &&& (255 : Int32)).toUInt32.toUInt16.toUInt32.toInt32), .val (.int (u2 &&& (255 : Int32)).toUInt32.toUInt16.toUInt32.toInt32), .val (.int (u3 &&& (255 : Int32)).toUInt32.toUInt16.toUInt32.toInt32)] [(.ref b104), (.ref b104)]))) (fun _ k => XS.dup X104.here hx rfl (hb hby d_method_3_code_58) rfl rfl k) ?_
  refine Goes.step (B := (T104.setTop (mkF m 60 #[.val (.int (2 : Int32)), .val (.int u1), .val (.int u2), .val (.int u3), .val (.int (u1 &&& (255 : Int32)).toUInt32.toUInt16.toUInt32.toInt32), .val (.int (u2 &&& (255 : Int32)).toUInt32.toUInt16.toUInt32.toInt32), .val (.int (u3 &&& (255 : Int32)).toUInt32.toUInt16.toUInt32.toInt32)] [(.int (2 : Int32)), (.ref b104), (.ref b104)]))) (fun _ k => XS.iconst X104.here hx rfl (hb hby d_method_3_code_59) k) ?_
  obtain ⟨T108, h108, k108, X108, e108, E108, A108, st108⟩ := newP X104 hx hZ (hw _ (List.mem_of_getElem? (i := 8) rfl)) e104 (g := (mkF m 60 #[.val (.int (2 : Int32)), .val (.int u1), .val (.int u2), .val (.int u3), .val (.int (u1 &&& (255 : Int32)).toUInt32.toUInt16.toUInt32.toInt32), .val (.int (u2 &&& (255 : Int32)).toUInt32.toUInt16.toUInt32.toInt32), .val (.int (u3 &&& (255 : Int32)).toUInt32.toUInt16.toUInt32.toInt32)] [(.int (2 : Int32)), (.ref b104), (.ref b104)])) rfl (hb hby d_method_3_code_60) rfl (by decide) (cap := 2) (by decide) (by decide) (by decide) (by decide)
  obtain ⟨b108, g108⟩ : ∃ z, z = h104.size := ⟨_, rfl⟩
  rw [← g108] at A108 st108
  have gn108 : n0 ≤ b108 := Nat.le_trans Z104 (Nat.le_of_eq g108.symm)
  have sz108 : h0.size ≤ b108 := Nat.le_trans K104.1 (Nat.le_of_eq g108.symm)
  have ne109 : b104 ≠ b108 := Nat.ne_of_lt (Nat.lt_of_lt_of_le A104.lt (Nat.le_of_eq g108.symm))
  have f110 := f105.ext E108
  have f111 := A104.ext E108
  have f112 := f106.ext E108
  have f113 := f107.ext E108
  have V108 : Arv Z h108 b108 k108 .char (2 : Int32) [(.int (0 : Int32)), (.int (0 : Int32))] (.int (0 : Int32)) := (Arv.new A108 (by decide)).pad (pad_rep [] (.int (0 : Int32)) 2)
  have Z108 : n0 ≤ h108.size := Nat.le_trans Z104 E108.1
  have K108 : Keep h0 h108 [] := K104.ext E108
  refine Goes.step (B := (T108.setTop (mkF m 62 #[.val (.int (2 : Int32)), .val (.int u1), .val (.int u2), .val (.int u3), .val (.int (u1 &&& (255 : Int32)).toUInt32.toUInt16.toUInt32.toInt32), .val (.int (u2 &&& (255 : Int32)).toUInt32.toUInt16.toUInt32.toInt32), .val (.int (u3 &&& (255 : Int32)).toUInt32.toUInt16.toUInt32.toInt32)] [(.ref b108), (.ref b104), (.ref b104)]))) (fun _ k => st108 _ k) ?_
  refine Goes.step (B := (T108.setTop (mkF m 63 #[.val (.int (2 : Int32)), .val (.int u1), .val (.int u2), .val (.int u3), .val (.int (u1 &&& (255 : Int32)).toUInt32.toUInt16.toUInt32.toInt32), .val (.int (u2 &&& (255 : Int32)).toUInt32.toUInt16.toUInt32.toInt32), .val (.int (u3 &&& (255 : Int32)).toUInt32.toUInt16.toUInt32.toInt32)] [(.ref b108), (.ref b108), (.ref b104), (.ref b104)]))) (fun _ k => XS.dup X108.here hx rfl (hb hby d_method_3_code_62) rfl rfl k) ?_
  refine Goes.step (B := (T108.setTop (mkF m 64 #[.val (.int (2 : Int32)), .val (.int u1), .val (.int u2), .val (.int u3), .val (.int (u1 &&& (255 : Int32)).toUInt32.toUInt16.toUInt32.toInt32), .val (.int (u2 &&& (255 : Int32)).toUInt32.toUInt16.toUInt32.toInt32), .val (.int (u3 &&& (255 : Int32)).toUInt32.toUInt16.toUInt32.toInt32)] [(.int (0 : Int32)), (.ref b108), (.ref b108), (.ref b104), (.ref b104)]))) (fun _ k => XS.iconst X108.here hx rfl (hb hby d_method_3_code_63) k) ?_
  refine Goes.step (B := (T108.setTop (mkF m 66 #[.val (.int (2 : Int32)), .val (.int u1), .val (.int u2), .val (.int u3), .val (.int (u1 &&& (255 : Int32)).toUInt32.toUInt16.toUInt32.toInt32), .val (.int (u2 &&& (255 : Int32)).toUInt32.toUInt16.toUInt32.toInt32), .val (.int (u3 &&& (255 : Int32)).toUInt32.toUInt16.toUInt32.toInt32)] [(.int (u1 &&& (255 : Int32)).toUInt32.toUInt16.toUInt32.toInt32), (.int (0 : Int32)), (.ref b108), (.ref b108), (.ref b104), (.ref b104)]))) (fun _ k => XS.iload X108.here hx rfl (hb hby d_method_3_code_64) rfl k) ?_
  obtain ⟨cl114, Ar114, q114, S114, M114, H114, G114⟩ := id V108
  have hin114 : ¬ ((0 : Int32) < 0 ∨ cl114.slots.size ≤ ((0 : Int32)).toNatClampNeg) := inb_of S114 ⟨by decide, by decide⟩
  obtain ⟨T114, h114, X114, e114, W114, st114⟩ := stC X108 hx hZ e108 Ar114 (j := (0 : Int32)) hin114 (g := (mkF m 66 #[.val (.int (2 : Int32)), .val (.int u1), .val (.int u2), .val (.int u3), .val (.int (u1 &&& (255 : Int32)).toUInt32.toUInt16.toUInt32.toInt32), .val (.int (u2 &&& (255 : Int32)).toUInt32.toUInt16.toUInt32.toInt32), .val (.int (u3 &&& (255 : Int32)).toUInt32.toUInt16.toUInt32.toInt32)] [(.int (u1 &&& (255 : Int32)).toUInt32.toUInt16.toUInt32.toInt32), (.int (0 : Int32)), (.ref b108), (.ref b108), (.ref b104), (.ref b104)])) rfl rfl (hb hby d_method_3_code_66)
  have f115 := f110.wr W114
  have f116 := f111.wr W114
  have f117 := f112.other W114 (Or.inl ne109)
  have f118 := f113.other W114 (Or.inl ne109)
  have N114 := Fr.snoc X114 N0 gn108
  have K114 : Keep h0 h114 [] := K108.wr W114 (Or.inr sz108)
  have Z114 : n0 ≤ h114.size := Nat.le_trans Z108 (Nat.le_of_eq W114.size.symm)
  have V114 : Arv Z h114 b108 k108 .char (2 : Int32) [(.int (nar .char (u1 &&& (255 : Int32)).toUInt32.toUInt16.toUInt32.toInt32)), (.int (0 : Int32))] (.int (0 : Int32)) := Arv.set Ar114 q114 S114 M114 H114 G114 (fits_nar_char _) W114 0 rfl (Nat.le_of_ble_eq_true rfl)
  refine Goes.step (B := (T114.setTop (mkF m 67 #[.val (.int (2 : Int32)), .val (.int u1), .val (.int u2), .val (.int u3), .val (.int (u1 &&& (255 : Int32)).toUInt32.toUInt16.toUInt32.toInt32), .val (.int (u2 &&& (255 : Int32)).toUInt32.toUInt16.toUInt32.toInt32), .val (.int (u3 &&& (255 : Int32)).toUInt32.toUInt16.toUInt32.toInt32)] [(.ref b108), (.ref b104), (.ref b104)]))) (fun _ k => st114 _ k) ?_
  refine Goes.step (B := (T114.setTop (mkF m 68 #[.val (.int (2 : Int32)), .val (.int u1), .val (.int u2), .val (.int u3), .val (.int (u1 &&& (255 : Int32)).toUInt32.toUInt16.toUInt32.toInt32), .val (.int (u2 &&& (255 : Int32)).toUInt32.toUInt16.toUInt32.toInt32), .val (.int (u3 &&& (255 : Int32)).toUInt32.toUInt16.toUInt32.toInt32)] [(.ref b108), (.ref b108), (.ref b104), (.ref b104)]))) (fun _ k => XS.dup X114.here hx rfl (hb hby d_method_3_code_67) rfl rfl k) ?_
  refine Goes.step (B := (T114.setTop (mkF m 69 #[.val (.int (2 : Int32)), .val (.int u1), .val (.int u2), .val (.int u3), .val (.int (u1 &&& (255 : Int32)).toUInt32.toUInt16.toUInt32.toInt32), .val (.int (u2 &&& (255 : Int32)).toUInt32.toUInt16.toUInt32.toInt32), .val (.int (u3 &&& (255 : Int32)).toUInt32.toUInt16.toUInt32.toInt32)] [(.int (1 : Int32)), (.ref b108), (.ref b108), (.ref b104), (.ref b104)]))) (fun _ k => XS.iconst X114.here hx rfl (hb hby d_method_3_code_68) k) ?_
  refine Goes.step (B := (T114.setTop (mkF m 71 #[.val (.int (2 : Int32)), .val (.int u1), .val (.int u2), .val (.int u3), .val (.int (u1 &&& (255 : Int32)).toUInt32.toUInt16.toUInt32.toInt32), .val (.int (u2 &&& (255 : Int32)).toUInt32.toUInt16.toUInt32.toInt32), .val (.int (u3 &&& (255 : Int32)).toUInt32.toUInt16.toUInt32.toInt32)] [(.int (u2 &&& (255 : Int32)).toUInt32.toUInt16.toUInt32.toInt32), (.int (1 : Int32)), (.ref b108), (.ref b108), (.ref b104), (.ref b104)]))) (fun _ k => XS.iload X114.here hx rfl (hb hby d_method_3_code_69) rfl k) ?_
  obtain ⟨cl119, Ar119, q119, S119, M119, H119, G119⟩ := id V114
  have hin119 : ¬ ((1 : Int32) < 0 ∨ cl119.slots.size ≤ ((1 : Int32)).toNatClampNeg) := inb_of S119 ⟨by decide, by decide⟩
  obtain ⟨T119, h119, X119, e119, W119, st119⟩ := stC X114 hx hZ e114 Ar119 (j := (1 : Int32)) hin119 (g := (mkF m 71 #[.val (.int (2 : Int32)), .val (.int u1), .val (.int u2), .val (.int u3), .val (.int (u1 &&& (255 : Int32)).toUInt32.toUInt16.toUInt32.toInt32), .val (.int (u2 &&& (255 : Int32)).toUInt32.toUInt16.toUInt32.toInt32), .val (.int (u3 &&& (255 : Int32)).toUInt32.toUInt16.toUInt32.toInt32)] [(.int (u2 &&& (255 : Int32)).toUInt32.toUInt16.toUInt32.toInt32), (.int (1 : Int32)), (.ref b108), (.ref b108), (.ref b104), (.ref b104)])) rfl rfl (hb hby d_method_3_code_71)
  have f120 := f115.wr W119
  have f121 := f116.wr W119
  have f122 := f117.other W119 (Or.inl ne109)
  have f123 := f118.other W119 (Or.inl ne109)
  have N119 := Fr.snoc X119 N114 gn108
  have K119 : Keep h0 h119 [] := K114.wr W119 (Or.inr sz108)
  have Z119 : n0 ≤ h119.size := Nat.le_trans Z114 (Nat.le_of_eq W119.size.symm)
  have V119 : Arv Z h119 b108 k108 .char (2 : Int32) [(.int (nar .char (u1 &&& (255 : Int32)).toUInt32.toUInt16.toUInt32.toInt32)), (.int (nar .char (u2 &&& (255 : Int32)).toUInt32.toUInt16.toUInt32.toInt32))] (.int (0 : Int32)) := Arv.set Ar119 q119 S119 M119 H119 G119 (fits_nar_char _) W119 1 rfl (Nat.le_of_ble_eq_true rfl)
  refine Goes.step (B := (T119.setTop (mkF m 72 #[.val (.int (2 : Int32)), .val (.int u1), .val (.int u2), .val (.int u3), .val (.int (u1 &&& (255 : Int32)).toUInt32.toUInt16.toUInt32.toInt32), .val (.int (u2 &&& (255 : Int32)).toUInt32.toUInt16.toUInt32.toInt32), .val (.int (u3 &&& (255 : Int32)).toUInt32.toUInt16.toUInt32.toInt32)] [(.ref b108), (.ref b104), (.ref b104)]))) (fun _ k => st119 _ k) ?_
  obtain ⟨_, _, ⟨T124, L124, k124, n124⟩, -, X124, ⟨Lc124, hQ124, l124, y124, z124⟩, st124⟩ := X119.specialBack hx (y := (⟨"java/lang/String", "<init>", "([C)V"⟩ : MethodName)) rfl hown (mvT hZ (hw _ (List.mem_of_getElem? (i := 9) rfl))) (mvT hZ (hw _ (List.mem_of_getElem? (i := 10) rfl))) (mvT hZ (hw _ (List.mem_of_getElem? (i := 11) rfl))) (by decide) (backOf (W := 1) (own_s1_2_rm l Z a0 hw [] b104 b108 w0 k108 (nar .char (u1 &&& (255 : Int32)).toUInt32.toUInt16.toUInt32.toInt32) (nar .char (u2 &&& (255 : Int32)).toUInt32.toUInt16.toUInt32.toInt32) h119 n0 Z119 f121 f123 f122 f120 V119 gn104 (Ne.symm ne109) hw0 (own_cc u1) (own_cc u2)) hZ (hw _ (List.mem_of_getElem? (i := 11) rfl)) (hw _ (List.mem_of_getElem? (i := 7) rfl)) (by decide) (by decide)) (g := (mkF m 72 #[.val (.int (2 : Int32)), .val (.int u1), .val (.int u2), .val (.int u3), .val (.int (u1 &&& (255 : Int32)).toUInt32.toUInt16.toUInt32.toInt32), .val (.int (u2 &&& (255 : Int32)).toUInt32.toUInt16.toUInt32.toInt32), .val (.int (u3 &&& (255 : Int32)).toUInt32.toUInt16.toUInt32.toInt32)] [(.ref b108), (.ref b104), (.ref b104)])) rfl (by rw [hml]; rfl) (Steps.refl _) (a := b104) (argsL := [(.ref b108)]) (rest := [(.ref b104)]) (lenOf pd__AC_V rfl) rfl (by show 2 * 0 + _ ≤ _; exact Nat.le_of_eq rfl) (hb hby d_method_3_code_72) (fun _ _ => ⟨rfl, e119, (by decide : 2 + 1 ≤ _), (by decide : 6 + 2 ≤ _)⟩)
  dsimp only [Pt.U, Pt.locs, Pt.cells, Pt.slots] at X124 l124 y124 z124 st124 hQ124
  subst l124 y124 z124
  obtain ⟨b_124, k2_124, rfl, N124q, K124q, gn124_b, sz124_b, p124_0, p124_1, p124_2, p124_3⟩ := hQ124
  have N124 := Fr.app N119 N124q
  have ne125 : b104 ≠ b_124 := Nat.ne_of_lt (Nat.lt_of_lt_of_le f121.lt sz124_b)
  have ne126 : b108 ≠ b_124 := Nat.ne_of_lt (Nat.lt_of_lt_of_le V119.lt sz124_b)
  have f127 := f120.keepN K124q (fun y q => by cases List.mem_singleton.mp q; exact f121.plainN)
  have f128 := f121.keep K124q
  have f129 := V119.keep K124q (nm1 (Ne.symm ne109))
  have K124 : Keep h0 T124.heap [] := Keep.trans K119 K124q (fun y q => by cases List.mem_singleton.mp q; exact (Or.inr sz104))
  have Z124 : n0 ≤ T124.heap.size := Nat.le_trans Z119 K124q.1
  have szz124_b : h0.size ≤ b_124 := Nat.le_trans K119.1 sz124_b
  refine Goes.to (B := (T124.setTop (mkF m 75 #[.val (.int (2 : Int32)), .val (.int u1), .val (.int u2), .val (.int u3), .val (.int (u1 &&& (255 : Int32)).toUInt32.toUInt16.toUInt32.toInt32), .val (.int (u2 &&& (255 : Int32)).toUInt32.toUInt16.toUInt32.toInt32), .val (.int (u3 &&& (255 : Int32)).toUInt32.toUInt16.toUInt32.toInt32)] [(.ref b104)]))) st124 ?_
  refine Goes.retR X124 hx hlk hrt rfl rfl rfl (hb hby d_method_3_code_75) ?_ (by decide) (by decide)
  exact ⟨b104, rfl, N124, K124, gn104, sz104, p124_0⟩
theorem d_method_3_code_76 : decode method_3_code 76 = .ok (.new 20, 3) := by decide +kernel
theorem d_method_3_code_79 : decode method_3_code 79 = .ok (.dup, 1) := by decide +kernel
theorem d_method_3_code_80 : decode method_3_code 80 = .ok (.iconst 3, 1) := by decide +kernel
theorem d_method_3_code_81 : decode method_3_code 81 = .ok (.newarray .char, 2) := by decide +kernel
theorem d_method_3_code_83 : decode method_3_code 83 = .ok (.dup, 1) := by decide +kernel
theorem d_method_3_code_84 : decode method_3_code 84 = .ok (.iconst 0, 1) := by decide +kernel
theorem d_method_3_code_85 : decode method_3_code 85 = .ok (.iload 4, 2) := by decide +kernel
theorem d_method_3_code_87 : decode method_3_code 87 = .ok (.castore, 1) := by decide +kernel
theorem d_method_3_code_88 : decode method_3_code 88 = .ok (.dup, 1) := by decide +kernel
theorem d_method_3_code_89 : decode method_3_code 89 = .ok (.iconst 1, 1) := by decide +kernel
theorem d_method_3_code_90 : decode method_3_code 90 = .ok (.iload 5, 2) := by decide +kernel
theorem d_method_3_code_92 : decode method_3_code 92 = .ok (.castore, 1) := by decide +kernel
theorem d_method_3_code_93 : decode method_3_code 93 = .ok (.dup, 1) := by decide +kernel
theorem d_method_3_code_94 : decode method_3_code 94 = .ok (.iconst 2, 1) := by decide +kernel
theorem d_method_3_code_95 : decode method_3_code 95 = .ok (.iload 6, 2) := by decide +kernel
theorem d_method_3_code_97 : decode method_3_code 97 = .ok (.castore, 1) := by decide +kernel
theorem d_method_3_code_98 : decode method_3_code 98 = .ok (.invokespecial 22, 3) := by decide +kernel
theorem d_method_3_code_101 : decode method_3_code 101 = .ok (.areturn, 1) := by decide +kernel
def own_nm3_Q (Z : State) (u1 : Int32) (u2 : Int32) (u3 : Int32) (w0 : Int32) (h0 : Heap) (n0 : Nat) (v : Option Value) (h : Heap) (L : List Loc) : Prop := ∃ (b : Addr), (v = some (.ref b)) ∧ (Fr n0 L) ∧ (Keep h0 h []) ∧ (n0 ≤ b) ∧ (h0.size ≤ b) ∧ (Exa Z h b "java/lang/String")
theorem own_nm3_ef (m : MethodId) (u1 : Int32) (u2 : Int32) (u3 : Int32) : entryFrame m #[(.int (3 : Int32)), (.int u1), (.int u2), (.int u3)] 7 = mkF m 0 #[.val (.int (3 : Int32)), .val (.int u1), .val (.int u2), .val (.int u3), .unset, .unset, .unset] [] := by first | (simp [entryFrame, mkF, argsToLocals, Value.category]; done) | rfl
set_option maxRecDepth 65536 in
set_option maxHeartbeats 40000000 in
theorem own_nm3_rm (l : Launch) (Z : State) (a0 : Array Value) (hw : ∀ d ∈ tables_1, d.before a0 Z = true) (ws : List Jvm.Cond) (u1 : Int32) (u2 : Int32) (u3 : Int32) (w0 : Int32) (h0 : Heap) (n0 : Nat) (Z0 : n0 ≤ h0.size) (pr0 : Sta Z h0 "java/lang/String" "COMPACT_STRINGS" "Z" (.int w0)) (hw0 : ¬ (w0 = (0 : Int32))) :
    MetFree l (⟨"com/example/breakwater/breakwater/SettingsRequireAtLeastOnePinLaw", "name", "(IIII)Ljava/lang/String;"⟩ : MethodName) (head1 (Jvm.Cond.code (⟨"com/example/breakwater/breakwater/SettingsRequireAtLeastOnePinLaw", "name", "(IIII)Ljava/lang/String;"⟩ : MethodName) method_3_code 7 (some (.object "java/lang/String")) :: ws) ({ frames := 4, cells := 3, slots := 10, locals := 66 } : Room)) (fun a U => a = #[(.int (3 : Int32)), (.int u1), (.int u2), (.int u3)] ∧ Z.Warmed39 U.vm ∧ U.heap = h0) (fun _ _ _ _ _ => True) (fun _ U o U' => ∃ v L, o = .returned v ∧ own_nm3_Q Z u1 u2 u3 w0 h0 n0 v U'.heap L ∧ FrameEnd U o U' L ({ frames := 4, cells := 3, slots := 10, locals := 66 } : Room).cells ({ frames := 4, cells := 3, slots := 10, locals := 66 } : Room).slots) := by
  refine MetFree.of_bodySF (plainFor_of_name pn_SettingsRequireAtLeastOnePinLaw) hisR ?_
  intro p e s m args below meth c s₁ Bd hml0 hP hK
  obtain ⟨rfl, hZ, hh⟩ := hP
  have hx := Bd.exec
  have hby := Bd.bytes
  have hml : c.maxLocals = 7 := hml0
  have hown : s.vm.findClass "com/example/breakwater/breakwater/SettingsRequireAtLeastOnePinLaw" = some m.cls := findClass_of_methodNamed Bd.named
  have hnm := (name_of_methodNamed Bd.named Bd.method).1
  have hlk : meth.locks = false := BodyLoose.notSynchronized Bd
  have hrt := Bd.returns
  have X0 : Stand p l e ({ frames := 4, cells := 3, slots := 10, locals := 66 } : Room) s m #[(.int (3 : Int32)), (.int u1), (.int u2), (.int u3)] below meth c s₁ [] 0 0 := Stand.of_body Bd
  have e0 : s₁.heap = h0 := by rw [← hh, Bd.state]; rfl
  have N0 := Fr.nil n0
  refine Goes.enter (kc := ({ frames := 4, cells := 3, slots := 10, locals := 66 } : Room).cells) (kn := ({ frames := 4, cells := 3, slots := 10, locals := 66 } : Room).slots) (Q := own_nm3_Q Z u1 u2 u3 w0 h0 n0) (own_nm3_ef m u1 u2 u3) ?_
  refine Goes.step (B := (s₁.setTop (mkF m 1 #[.val (.int (3 : Int32)), .val (.int u1), .val (.int u2), .val (.int u3), .unset, .unset, .unset] [(.int u1)]))) (fun _ k => XS.iloadN X0.here hx rfl (hb hby d_method_3_code_0) rfl k) ?_
  refine Goes.step (B := (s₁.setTop (mkF m 4 #[.val (.int (3 : Int32)), .val (.int u1), .val (.int u2), .val (.int u3), .unset, .unset, .unset] [(.int (255 : Int32)), (.int u1)]))) (fun _ k => XS.sipush X0.here hx rfl (hb hby d_method_3_code_1) k) ?_
  refine Goes.step (B := (s₁.setTop (mkF m 5 #[.val (.int (3 : Int32)), .val (.int u1), .val (.int u2), .val (.int u3), .unset, .unset, .unset] [(.int (u1 &&& (255 : Int32)))]))) (fun _ k => XS.iand X0.here hx rfl (hb hby d_method_3_code_4) rfl k) ?_
  refine Goes.step (B := (s₁.setTop (mkF m 6 #[.val (.int (3 : Int32)), .val (.int u1), .val (.int u2), .val (.int u3), .unset, .unset, .unset] [(.int (u1 &&& (255 : Int32)).toUInt32.toUInt16.toUInt32.toInt32)]))) (fun _ k => XS.i2c X0.here hx rfl (hb hby d_method_3_code_5) rfl k) ?_
  refine Goes.step (B := (s₁.setTop (mkF m 8 #[.val (.int (3 : Int32)), .val (.int u1), .val (.int u2), .val (.int u3), .val (.int (u1 &&& (255 : Int32)).toUInt32.toUInt16.toUInt32.toInt32), .unset, .unset] []))) (fun _ k => XS.istore X0.here hx rfl (hb hby d_method_3_code_6) rfl (l' := #[.val (.int (3 : Int32)), .val (.int u1), .val (.int u2), .val (.int u3), .val (.int (u1 &&& (255 : Int32)).toUInt32.toUInt16.toUInt32.toInt32), .unset, .unset]) rfl k) ?_
  refine Goes.step (B := (s₁.setTop (mkF m 9 #[.val (.int (3 : Int32)), .val (.int u1), .val (.int u2), .val (.int u3), .val (.int (u1 &&& (255 : Int32)).toUInt32.toUInt16.toUInt32.toInt32), .unset, .unset] [(.int u2)]))) (fun _ k => XS.iloadN X0.here hx rfl (hb hby d_method_3_code_8) rfl k) ?_
  refine Goes.step (B := (s₁.setTop (mkF m 12 #[.val (.int (3 : Int32)), .val (.int u1), .val (.int u2), .val (.int u3), .val (.int (u1 &&& (255 : Int32)).toUInt32.toUInt16.toUInt32.toInt32), .unset, .unset] [(.int (255 : Int32)), (.int u2)]))) (fun _ k => XS.sipush X0.here hx rfl (hb hby d_method_3_code_9) k) ?_
  refine Goes.step (B := (s₁.setTop (mkF m 13 #[.val (.int (3 : Int32)), .val (.int u1), .val (.int u2), .val (.int u3), .val (.int (u1 &&& (255 : Int32)).toUInt32.toUInt16.toUInt32.toInt32), .unset, .unset] [(.int (u2 &&& (255 : Int32)))]))) (fun _ k => XS.iand X0.here hx rfl (hb hby d_method_3_code_12) rfl k) ?_
  refine Goes.step (B := (s₁.setTop (mkF m 14 #[.val (.int (3 : Int32)), .val (.int u1), .val (.int u2), .val (.int u3), .val (.int (u1 &&& (255 : Int32)).toUInt32.toUInt16.toUInt32.toInt32), .unset, .unset] [(.int (u2 &&& (255 : Int32)).toUInt32.toUInt16.toUInt32.toInt32)]))) (fun _ k => XS.i2c X0.here hx rfl (hb hby d_method_3_code_13) rfl k) ?_
  refine Goes.step (B := (s₁.setTop (mkF m 16 #[.val (.int (3 : Int32)), .val (.int u1), .val (.int u2), .val (.int u3), .val (.int (u1 &&& (255 : Int32)).toUInt32.toUInt16.toUInt32.toInt32), .val (.int (u2 &&& (255 : Int32)).toUInt32.toUInt16.toUInt32.toInt32), .unset] []))) (fun _ k => XS.istore X0.here hx rfl (hb hby d_method_3_code_14) rfl (l' := #[.val (.int (3 : Int32)), .val (.int u1), .val (.int u2), .val (.int u3), .val (.int (u1 &&& (255 : Int32)).toUInt32.toUInt16.toUInt32.toInt32), .val (.int (u2 &&& (255 : Int32)).toUInt32.toUInt16.toUInt32.toInt32), .unset]) rfl k) ?_
  refine Goes.step (B := (s₁.setTop (mkF m 17 #[.val (.int (3 : Int32)), .val (.int u1), .val (.int u2), .val (.int u3), .val (.int (u1 &&& (255 : Int32)).toUInt32.toUInt16.toUInt32.toInt32), .val (.int (u2 &&& (255 : Int32)).toUInt32.toUInt16.toUInt32.toInt32), .unset] [(.int u3)]))) (fun _ k => XS.iloadN X0.here hx rfl (hb hby d_method_3_code_16) rfl k) ?_
  refine Goes.step (B := (s₁.setTop (mkF m 20 #[.val (.int (3 : Int32)), .val (.int u1), .val (.int u2), .val (.int u3), .val (.int (u1 &&& (255 : Int32)).toUInt32.toUInt16.toUInt32.toInt32), .val (.int (u2 &&& (255 : Int32)).toUInt32.toUInt16.toUInt32.toInt32), .unset] [(.int (255 : Int32)), (.int u3)]))) (fun _ k => XS.sipush X0.here hx rfl (hb hby d_method_3_code_17) k) ?_
  refine Goes.step (B := (s₁.setTop (mkF m 21 #[.val (.int (3 : Int32)), .val (.int u1), .val (.int u2), .val (.int u3), .val (.int (u1 &&& (255 : Int32)).toUInt32.toUInt16.toUInt32.toInt32), .val (.int (u2 &&& (255 : Int32)).toUInt32.toUInt16.toUInt32.toInt32), .unset] [(.int (u3 &&& (255 : Int32)))]))) (fun _ k => XS.iand X0.here hx rfl (hb hby d_method_3_code_20) rfl k) ?_
  refine Goes.step (B := (s₁.setTop (mkF m 22 #[.val (.int (3 : Int32)), .val (.int u1), .val (.int u2), .val (.int u3), .val (.int (u1 &&& (255 : Int32)).toUInt32.toUInt16.toUInt32.toInt32), .val (.int (u2 &&& (255 : Int32)).toUInt32.toUInt16.toUInt32.toInt32), .unset] [(.int (u3 &&& (255 : Int32)).toUInt32.toUInt16.toUInt32.toInt32)]))) (fun _ k => XS.i2c X0.here hx rfl (hb hby d_method_3_code_21) rfl k) ?_
  refine Goes.step (B := (s₁.setTop (mkF m 24 #[.val (.int (3 : Int32)), .val (.int u1), .val (.int u2), .val (.int u3), .val (.int (u1 &&& (255 : Int32)).toUInt32.toUInt16.toUInt32.toInt32), .val (.int (u2 &&& (255 : Int32)).toUInt32.toUInt16.toUInt32.toInt32), .val (.int (u3 &&& (255 : Int32)).toUInt32.toUInt16.toUInt32.toInt32)] []))) (fun _ k => XS.istore X0.here hx rfl (hb hby d_method_3_code_22) rfl (l' := #[.val (.int (3 : Int32)), .val (.int u1), .val (.int u2), .val (.int u3), .val (.int (u1 &&& (255 : Int32)).toUInt32.toUInt16.toUInt32.toInt32), .val (.int (u2 &&& (255 : Int32)).toUInt32.toUInt16.toUInt32.toInt32), .val (.int (u3 &&& (255 : Int32)).toUInt32.toUInt16.toUInt32.toInt32)]) rfl k) ?_
  refine Goes.step (B := (s₁.setTop (mkF m 25 #[.val (.int (3 : Int32)), .val (.int u1), .val (.int u2), .val (.int u3), .val (.int (u1 &&& (255 : Int32)).toUInt32.toUInt16.toUInt32.toInt32), .val (.int (u2 &&& (255 : Int32)).toUInt32.toUInt16.toUInt32.toInt32), .val (.int (u3 &&& (255 : Int32)).toUInt32.toUInt16.toUInt32.toInt32)] [(.int (3 : Int32))]))) (fun _ k => XS.iloadN X0.here hx rfl (hb hby d_method_3_code_24) rfl k) ?_
  have hc101 : ¬ ((3 : Int32) = (0 : Int32)) := by decide
  refine Goes.step (B := (s₁.setTop (mkF m 39 #[.val (.int (3 : Int32)), .val (.int u1), .val (.int u2), .val (.int u3), .val (.int (u1 &&& (255 : Int32)).toUInt32.toUInt16.toUInt32.toInt32), .val (.int (u2 &&& (255 : Int32)).toUInt32.toUInt16.toUInt32.toInt32), .val (.int (u3 &&& (255 : Int32)).toUInt32.toUInt16.toUInt32.toInt32)] []))) (fun _ k => XS.ifYes X0.here hx rfl (pc0 := 25) (pc' := 39) rfl (hb hby d_method_3_code_25) rfl ((if0 _ _).trans (feq hc101).2) (by decide) (by decide) k) ?_
  refine Goes.step (B := (s₁.setTop (mkF m 40 #[.val (.int (3 : Int32)), .val (.int u1), .val (.int u2), .val (.int u3), .val (.int (u1 &&& (255 : Int32)).toUInt32.toUInt16.toUInt32.toInt32), .val (.int (u2 &&& (255 : Int32)).toUInt32.toUInt16.toUInt32.toInt32), .val (.int (u3 &&& (255 : Int32)).toUInt32.toUInt16.toUInt32.toInt32)] [(.int (3 : Int32))]))) (fun _ k => XS.iloadN X0.here hx rfl (hb hby d_method_3_code_39) rfl k) ?_
  refine Goes.step (B := (s₁.setTop (mkF m 41 #[.val (.int (3 : Int32)), .val (.int u1), .val (.int u2), .val (.int u3), .val (.int (u1 &&& (255 : Int32)).toUInt32.toUInt16.toUInt32.toInt32), .val (.int (u2 &&& (255 : Int32)).toUInt32.toUInt16.toUInt32.toInt32), .val (.int (u3 &&& (255 : Int32)).toUInt32.toUInt16.toUInt32.toInt32)] [(.int (1 : Int32)), (.int (3 : Int32))]))) (fun _ k => XS.iconst X0.here hx rfl (hb hby d_method_3_code_40) k) ?_
  have hc102 : ¬ ((3 : Int32) = (1 : Int32)) := by decide
  refine Goes.step (B := (s₁.setTop (mkF m 50 #[.val (.int (3 : Int32)), .val (.int u1), .val (.int u2), .val (.int u3), .val (.int (u1 &&& (255 : Int32)).toUInt32.toUInt16.toUInt32.toInt32), .val (.int (u2 &&& (255 : Int32)).toUInt32.toUInt16.toUInt32.toInt32), .val (.int (u3 &&& (255 : Int32)).toUInt32.toUInt16.toUInt32.toInt32)] []))) (fun _ k => XS.icmpYes X0.here hx rfl (pc0 := 41) (pc' := 50) rfl (hb hby d_method_3_code_41) rfl (feq hc102).2 (by decide) (by decide) k) ?_
  refine Goes.step (B := (s₁.setTop (mkF m 51 #[.val (.int (3 : Int32)), .val (.int u1), .val (.int u2), .val (.int u3), .val (.int (u1 &&& (255 : Int32)).toUInt32.toUInt16.toUInt32.toInt32), .val (.int (u2 &&& (255 : Int32)).toUInt32.toUInt16.toUInt32.toInt32), .val (.int (u3 &&& (255 : Int32)).toUInt32.toUInt16.toUInt32.toInt32)] [(.int (3 : Int32))]))) (fun _ k => XS.iloadN X0.here hx rfl (hb hby d_method_3_code_50) rfl k) ?_
  refine Goes.step (B := (s₁.setTop (mkF m 52 #[.val (.int (3 : Int32)), .val (.int u1), .val (.int u2), .val (.int u3), .val (.int (u1 &&& (255 : Int32)).toUInt32.toUInt16.toUInt32.toInt32), .val (.int (u2 &&& (255 : Int32)).toUInt32.toUInt16.toUInt32.toInt32), .val (.int (u3 &&& (255 : Int32)).toUInt32.toUInt16.toUInt32.toInt32)] [(.int (2 : Int32)), (.int (3 : Int32))]))) (fun _ k => XS.iconst X0.here hx rfl (hb hby d_method_3_code_51) k) ?_
  have hc103 : ¬ ((3 : Int32) = (2 : Int32)) := by decide
  refine Goes.step (B := (s₁.setTop (mkF m 76 #[.val (.int (3 : Int32)), .val (.int u1), .val (.int u2), .val (.int u3), .val (.int (u1 &&& (255 : Int32)).toUInt32.toUInt16.toUInt32.toInt32), .val (.int (u2 &&& (255 : Int32)).toUInt32.toUInt16.toUInt32.toInt32), .val (.int (u3 &&& (255 : Int32)).toUInt32.toUInt16.toUInt32.toInt32)] []))) (fun _ k => XS.icmpYes X0.here hx rfl (pc0 := 52) (pc' := 76) rfl (hb hby d_method_3_code_52) rfl (feq hc103).2 (by decide) (by decide) k) ?_
  obtain ⟨T104, h104, X104, e104, E104, A104, D104, -, st104⟩ := newO X0 hx hZ hown (hw _ (List.mem_of_getElem? (i := 5) rfl)) (hw _ (List.mem_of_getElem? (i := 6) rfl)) (hw _ (List.mem_of_getElem? (i := 7) rfl)) e0 (g := (mkF m 76 #[.val (.int (3 : Int32)), .val (.int u1), .val (.int u2), .val (.int u3), .val (.int (u1 &&& (255 : Int32)).toUInt32.toUInt16.toUInt32.toInt32), .val (.int (u2 &&& (255 : Int32)).toUInt32.toUInt16.toUInt32.toInt32), .val (.int (u3 &&& (255 : Int32)).toUInt32.toUInt16.toUInt32.toInt32)] [])) rfl (hb hby d_method_3_code_76) (by decide) (by decide)
  obtain ⟨b104, g104⟩ : ∃ z, z = h0.size := ⟨_, rfl⟩
  rw [← g104] at A104 D104 st104
  have gn104 : n0 ≤ b104 := Nat.le_trans Z0 (Nat.le_of_eq g104.symm)
  have sz104 : h0.size ≤ b104 := Nat.le_trans (Keep.refl h0 []).1 (Nat.le_of_eq g104.symm)
  have f105 := pr0.ext E104
  have f106 : Fld Z h104 b104 "java/lang/String" "coder" "B" (.int (0 : Int32)) := D104 (Or.inr (hw _ (List.mem_of_getElem? (i := 32) rfl))) (ty := .byte) (by decide)
  have f107 : Fld Z h104 b104 "java/lang/String" "value" "[B" .null := D104 (Or.inr (hw _ (List.mem_of_getElem? (i := 34) rfl))) (ty := (.array .byte)) (by decide)
  have Z104 : n0 ≤ h104.size := Nat.le_trans Z0 E104.1
  have K104 : Keep h0 h104 [] := (Keep.refl h0 []).ext E104
  refine Goes.step (B := (T104.setTop (mkF m 79 #[.val (.int (3 : Int32)), .val (.int u1), .val (.int u2), .val (.int u3), .val (.int (u1 &&& (255 : Int32)).toUInt32.toUInt16.toUInt32.toInt32), .val (.int (u2 &&& (255 : Int32)).toUInt32.toUInt16.toUInt32.toInt32), .val (.int (u3 &&& (255 : Int32)).toUInt32.toUInt16.toUInt32.toInt32)] [(.ref b104)]))) (fun _ k => st104 _ k) ?_
  refine Goes.step (B := (T104.setTop (mkF m 80 #[.val (.int (3 : Int32)), .val (.int u1), .val (.int u2), .val (.int u3), .val (.int (u1 &&& (255 : Int32)).toUInt32.toUInt16.toUInt32.toInt32), .val (.int (u2 &&& (255 : Int32)).toUInt32.toUInt16.toUInt32.toInt32), .val (.int (u3 &&& (255 : Int32)).toUInt32.toUInt16.toUInt32.toInt32)] [(.ref b104), (.ref b104)]))) (fun _ k => XS.dup X104.here hx rfl (hb hby d_method_3_code_79) rfl rfl k) ?_
  refine Goes.step (B := (T104.setTop (mkF m 81 #[.val (.int (3 : Int32)), .val (.int u1), .val (.int u2), .val (.int u3), .val (.int (u1 &&& (255 : Int32)).toUInt32.toUInt16.toUInt32.toInt32), .val (.int (u2 &&& (255 : Int32)).toUInt32.toUInt16.toUInt32.toInt32), .val (.int (u3 &&& (255 : Int32)).toUInt32.toUInt16.toUInt32.toInt32)] [(.int (3 : Int32)), (.ref b104), (.ref b104)]))) (fun _ k => XS.iconst X104.here hx rfl (hb hby d_method_3_code_80) k) ?_
  obtain ⟨T108, h108, k108, X108, e108, E108, A108, st108⟩ := newP X104 hx hZ (hw _ (List.mem_of_getElem? (i := 8) rfl)) e104 (g := (mkF m 81 #[.val (.int (3 : Int32)), .val (.int u1), .val (.int u2), .val (.int u3), .val (.int (u1 &&& (255 : Int32)).toUInt32.toUInt16.toUInt32.toInt32), .val (.int (u2 &&& (255 : Int32)).toUInt32.toUInt16.toUInt32.toInt32), .val (.int (u3 &&& (255 : Int32)).toUInt32.toUInt16.toUInt32.toInt32)] [(.int (3 : Int32)), (.ref b104), (.ref b104)])) rfl (hb hby d_method_3_code_81) rfl (by decide) (cap := 3) (by decide) (by decide) (by decide) (by decide)
  obtain ⟨b108, g108⟩ : ∃ z, z = h104.size := ⟨_, rfl⟩
  rw [← g108] at A108 st108
  have gn108 : n0 ≤ b108 := Nat.le_trans Z104 (Nat.le_of_eq g108.symm)
  have sz108 : h0.size ≤ b108 := Nat.le_trans K104.1 (Nat.le_of_eq g108.symm)
  have ne109 : b104 ≠ b108 := Nat.ne_of_lt (Nat.lt_of_lt_of_le A104.lt (Nat.le_of_eq g108.symm))
  have f110 := f105.ext E108
  have f111 := A104.ext E108
  have f112 := f106.ext E108
  have f113 := f107.ext E108
  have V108 : Arv Z h108 b108 k108 .char (3 : Int32) [(.int (0 : Int32)), (.int (0 : Int32)), (.int (0 : Int32))] (.int (0 : Int32)) := (Arv.new A108 (by decide)).pad (pad_rep [] (.int (0 : Int32)) 3)
  have Z108 : n0 ≤ h108.size := Nat.le_trans Z104 E108.1
  have K108 : Keep h0 h108 [] := K104.ext E108
  refine Goes.step (B := (T108.setTop (mkF m 83 #[.val (.int (3 : Int32)), .val (.int u1), .val (.int u2), .val (.int u3), .val (.int (u1 &&& (255 : Int32)).toUInt32.toUInt16.toUInt32.toInt32), .val (.int (u2 &&& (255 : Int32)).toUInt32.toUInt16.toUInt32.toInt32), .val (.int (u3 &&& (255 : Int32)).toUInt32.toUInt16.toUInt32.toInt32)] [(.ref b108), (.ref b104), (.ref b104)]))) (fun _ k => st108 _ k) ?_
  refine Goes.step (B := (T108.setTop (mkF m 84 #[.val (.int (3 : Int32)), .val (.int u1), .val (.int u2), .val (.int u3), .val (.int (u1 &&& (255 : Int32)).toUInt32.toUInt16.toUInt32.toInt32), .val (.int (u2 &&& (255 : Int32)).toUInt32.toUInt16.toUInt32.toInt32), .val (.int (u3 &&& (255 : Int32)).toUInt32.toUInt16.toUInt32.toInt32)] [(.ref b108), (.ref b108), (.ref b104), (.ref b104)]))) (fun _ k => XS.dup X108.here hx rfl (hb hby d_method_3_code_83) rfl rfl k) ?_
  refine Goes.step (B := (T108.setTop (mkF m 85 #[.val (.int (3 : Int32)), .val (.int u1), .val (.int u2), .val (.int u3), .val (.int (u1 &&& (255 : Int32)).toUInt32.toUInt16.toUInt32.toInt32), .val (.int (u2 &&& (255 : Int32)).toUInt32.toUInt16.toUInt32.toInt32), .val (.int (u3 &&& (255 : Int32)).toUInt32.toUInt16.toUInt32.toInt32)] [(.int (0 : Int32)), (.ref b108), (.ref b108), (.ref b104), (.ref b104)]))) (fun _ k => XS.iconst X108.here hx rfl (hb hby d_method_3_code_84) k) ?_
  refine Goes.step (B := (T108.setTop (mkF m 87 #[.val (.int (3 : Int32)), .val (.int u1), .val (.int u2), .val (.int u3), .val (.int (u1 &&& (255 : Int32)).toUInt32.toUInt16.toUInt32.toInt32), .val (.int (u2 &&& (255 : Int32)).toUInt32.toUInt16.toUInt32.toInt32), .val (.int (u3 &&& (255 : Int32)).toUInt32.toUInt16.toUInt32.toInt32)] [(.int (u1 &&& (255 : Int32)).toUInt32.toUInt16.toUInt32.toInt32), (.int (0 : Int32)), (.ref b108), (.ref b108), (.ref b104), (.ref b104)]))) (fun _ k => XS.iload X108.here hx rfl (hb hby d_method_3_code_85) rfl k) ?_
  obtain ⟨cl114, Ar114, q114, S114, M114, H114, G114⟩ := id V108
  have hin114 : ¬ ((0 : Int32) < 0 ∨ cl114.slots.size ≤ ((0 : Int32)).toNatClampNeg) := inb_of S114 ⟨by decide, by decide⟩
  obtain ⟨T114, h114, X114, e114, W114, st114⟩ := stC X108 hx hZ e108 Ar114 (j := (0 : Int32)) hin114 (g := (mkF m 87 #[.val (.int (3 : Int32)), .val (.int u1), .val (.int u2), .val (.int u3), .val (.int (u1 &&& (255 : Int32)).toUInt32.toUInt16.toUInt32.toInt32), .val (.int (u2 &&& (255 : Int32)).toUInt32.toUInt16.toUInt32.toInt32), .val (.int (u3 &&& (255 : Int32)).toUInt32.toUInt16.toUInt32.toInt32)] [(.int (u1 &&& (255 : Int32)).toUInt32.toUInt16.toUInt32.toInt32), (.int (0 : Int32)), (.ref b108), (.ref b108), (.ref b104), (.ref b104)])) rfl rfl (hb hby d_method_3_code_87)
  have f115 := f110.wr W114
  have f116 := f111.wr W114
  have f117 := f112.other W114 (Or.inl ne109)
  have f118 := f113.other W114 (Or.inl ne109)
  have N114 := Fr.snoc X114 N0 gn108
  have K114 : Keep h0 h114 [] := K108.wr W114 (Or.inr sz108)
  have Z114 : n0 ≤ h114.size := Nat.le_trans Z108 (Nat.le_of_eq W114.size.symm)
  have V114 : Arv Z h114 b108 k108 .char (3 : Int32) [(.int (nar .char (u1 &&& (255 : Int32)).toUInt32.toUInt16.toUInt32.toInt32)), (.int (0 : Int32)), (.int (0 : Int32))] (.int (0 : Int32)) := Arv.set Ar114 q114 S114 M114 H114 G114 (fits_nar_char _) W114 0 rfl (Nat.le_of_ble_eq_true rfl)
  refine Goes.step (B := (T114.setTop (mkF m 88 #[.val (.int (3 : Int32)), .val (.int u1), .val (.int u2), .val (.int u3), .val (.int (u1 &&& (255 : Int32)).toUInt32.toUInt16.toUInt32.toInt32), .val (.int (u2 &&& (255 : Int32)).toUInt32.toUInt16.toUInt32.toInt32), .val (.int (u3 &&& (255 : Int32)).toUInt32.toUInt16.toUInt32.toInt32)] [(.ref b108), (.ref b104), (.ref b104)]))) (fun _ k => st114 _ k) ?_
  refine Goes.step (B := (T114.setTop (mkF m 89 #[.val (.int (3 : Int32)), .val (.int u1), .val (.int u2), .val (.int u3), .val (.int (u1 &&& (255 : Int32)).toUInt32.toUInt16.toUInt32.toInt32), .val (.int (u2 &&& (255 : Int32)).toUInt32.toUInt16.toUInt32.toInt32), .val (.int (u3 &&& (255 : Int32)).toUInt32.toUInt16.toUInt32.toInt32)] [(.ref b108), (.ref b108), (.ref b104), (.ref b104)]))) (fun _ k => XS.dup X114.here hx rfl (hb hby d_method_3_code_88) rfl rfl k) ?_
  refine Goes.step (B := (T114.setTop (mkF m 90 #[.val (.int (3 : Int32)), .val (.int u1), .val (.int u2), .val (.int u3), .val (.int (u1 &&& (255 : Int32)).toUInt32.toUInt16.toUInt32.toInt32), .val (.int (u2 &&& (255 : Int32)).toUInt32.toUInt16.toUInt32.toInt32), .val (.int (u3 &&& (255 : Int32)).toUInt32.toUInt16.toUInt32.toInt32)] [(.int (1 : Int32)), (.ref b108), (.ref b108), (.ref b104), (.ref b104)]))) (fun _ k => XS.iconst X114.here hx rfl (hb hby d_method_3_code_89) k) ?_
  refine Goes.step (B := (T114.setTop (mkF m 92 #[.val (.int (3 : Int32)), .val (.int u1), .val (.int u2), .val (.int u3), .val (.int (u1 &&& (255 : Int32)).toUInt32.toUInt16.toUInt32.toInt32), .val (.int (u2 &&& (255 : Int32)).toUInt32.toUInt16.toUInt32.toInt32), .val (.int (u3 &&& (255 : Int32)).toUInt32.toUInt16.toUInt32.toInt32)] [(.int (u2 &&& (255 : Int32)).toUInt32.toUInt16.toUInt32.toInt32), (.int (1 : Int32)), (.ref b108), (.ref b108), (.ref b104), (.ref b104)]))) (fun _ k => XS.iload X114.here hx rfl (hb hby d_method_3_code_90) rfl k) ?_
  obtain ⟨cl119, Ar119, q119, S119, M119, H119, G119⟩ := id V114
  have hin119 : ¬ ((1 : Int32) < 0 ∨ cl119.slots.size ≤ ((1 : Int32)).toNatClampNeg) := inb_of S119 ⟨by decide, by decide⟩
  obtain ⟨T119, h119, X119, e119, W119, st119⟩ := stC X114 hx hZ e114 Ar119 (j := (1 : Int32)) hin119 (g := (mkF m 92 #[.val (.int (3 : Int32)), .val (.int u1), .val (.int u2), .val (.int u3), .val (.int (u1 &&& (255 : Int32)).toUInt32.toUInt16.toUInt32.toInt32), .val (.int (u2 &&& (255 : Int32)).toUInt32.toUInt16.toUInt32.toInt32), .val (.int (u3 &&& (255 : Int32)).toUInt32.toUInt16.toUInt32.toInt32)] [(.int (u2 &&& (255 : Int32)).toUInt32.toUInt16.toUInt32.toInt32), (.int (1 : Int32)), (.ref b108), (.ref b108), (.ref b104), (.ref b104)])) rfl rfl (hb hby d_method_3_code_92)
  have f120 := f115.wr W119
  have f121 := f116.wr W119
  have f122 := f117.other W119 (Or.inl ne109)
  have f123 := f118.other W119 (Or.inl ne109)
  have N119 := Fr.snoc X119 N114 gn108
  have K119 : Keep h0 h119 [] := K114.wr W119 (Or.inr sz108)
  have Z119 : n0 ≤ h119.size := Nat.le_trans Z114 (Nat.le_of_eq W119.size.symm)
  have V119 : Arv Z h119 b108 k108 .char (3 : Int32) [(.int (nar .char (u1 &&& (255 : Int32)).toUInt32.toUInt16.toUInt32.toInt32)), (.int (nar .char (u2 &&& (255 : Int32)).toUInt32.toUInt16.toUInt32.toInt32)), (.int (0 : Int32))] (.int (0 : Int32)) := Arv.set Ar119 q119 S119 M119 H119 G119 (fits_nar_char _) W119 1 rfl (Nat.le_of_ble_eq_true rfl)
  refine Goes.step (B := (T119.setTop (mkF m 93 #[.val (.int (3 : Int32)), .val (.int u1), .val (.int u2), .val (.int u3), .val (.int (u1 &&& (255 : Int32)).toUInt32.toUInt16.toUInt32.toInt32), .val (.int (u2 &&& (255 : Int32)).toUInt32.toUInt16.toUInt32.toInt32), .val (.int (u3 &&& (255 : Int32)).toUInt32.toUInt16.toUInt32.toInt32)] [(.ref b108), (.ref b104), (.ref b104)]))) (fun _ k => st119 _ k) ?_
  refine Goes.step (B := (T119.setTop (mkF m 94 #[.val (.int (3 : Int32)), .val (.int u1), .val (.int u2), .val (.int u3), .val (.int (u1 &&& (255 : Int32)).toUInt32.toUInt16.toUInt32.toInt32), .val (.int (u2 &&& (255 : Int32)).toUInt32.toUInt16.toUInt32.toInt32), .val (.int (u3 &&& (255 : Int32)).toUInt32.toUInt16.toUInt32.toInt32)] [(.ref b108), (.ref b108), (.ref b104), (.ref b104)]))) (fun _ k => XS.dup X119.here hx rfl (hb hby d_method_3_code_93) rfl rfl k) ?_
  refine Goes.step (B := (T119.setTop (mkF m 95 #[.val (.int (3 : Int32)), .val (.int u1), .val (.int u2), .val (.int u3), .val (.int (u1 &&& (255 : Int32)).toUInt32.toUInt16.toUInt32.toInt32), .val (.int (u2 &&& (255 : Int32)).toUInt32.toUInt16.toUInt32.toInt32), .val (.int (u3 &&& (255 : Int32)).toUInt32.toUInt16.toUInt32.toInt32)] [(.int (2 : Int32)), (.ref b108), (.ref b108), (.ref b104), (.ref b104)]))) (fun _ k => XS.iconst X119.here hx rfl (hb hby d_method_3_code_94) k) ?_
  refine Goes.step (B := (T119.setTop (mkF m 97 #[.val (.int (3 : Int32)), .val (.int u1), .val (.int u2), .val (.int u3), .val (.int (u1 &&& (255 : Int32)).toUInt32.toUInt16.toUInt32.toInt32), .val (.int (u2 &&& (255 : Int32)).toUInt32.toUInt16.toUInt32.toInt32), .val (.int (u3 &&& (255 : Int32)).toUInt32.toUInt16.toUInt32.toInt32)] [(.int (u3 &&& (255 : Int32)).toUInt32.toUInt16.toUInt32.toInt32), (.int (2 : Int32)), (.ref b108), (.ref b108), (.ref b104), (.ref b104)]))) (fun _ k => XS.iload X119.here hx rfl (hb hby d_method_3_code_95) rfl k) ?_
  obtain ⟨cl124, Ar124, q124, S124, M124, H124, G124⟩ := id V119
  have hin124 : ¬ ((2 : Int32) < 0 ∨ cl124.slots.size ≤ ((2 : Int32)).toNatClampNeg) := inb_of S124 ⟨by decide, by decide⟩
  obtain ⟨T124, h124, X124, e124, W124, st124⟩ := stC X119 hx hZ e119 Ar124 (j := (2 : Int32)) hin124 (g := (mkF m 97 #[.val (.int (3 : Int32)), .val (.int u1), .val (.int u2), .val (.int u3), .val (.int (u1 &&& (255 : Int32)).toUInt32.toUInt16.toUInt32.toInt32), .val (.int (u2 &&& (255 : Int32)).toUInt32.toUInt16.toUInt32.toInt32), .val (.int (u3 &&& (255 : Int32)).toUInt32.toUInt16.toUInt32.toInt32)] [(.int (u3 &&& (255 : Int32)).toUInt32.toUInt16.toUInt32.toInt32), (.int (2 : Int32)), (.ref b108), (.ref b108), (.ref b104), (.ref b104)])) rfl rfl (hb hby d_method_3_code_97)
  have f125 := f120.wr W124
  have f126 := f121.wr W124
  have f127 := f122.other W124 (Or.inl ne109)
  have f128 := f123.other W124 (Or.inl ne109)
  have N124 := Fr.snoc X124 N119 gn108
  have K124 : Keep h0 h124 [] := K119.wr W124 (Or.inr sz108)
  have Z124 : n0 ≤ h124.size := Nat.le_trans Z119 (Nat.le_of_eq W124.size.symm)
  have V124 : Arv Z h124 b108 k108 .char (3 : Int32) [(.int (nar .char (u1 &&& (255 : Int32)).toUInt32.toUInt16.toUInt32.toInt32)), (.int (nar .char (u2 &&& (255 : Int32)).toUInt32.toUInt16.toUInt32.toInt32)), (.int (nar .char (u3 &&& (255 : Int32)).toUInt32.toUInt16.toUInt32.toInt32))] (.int (0 : Int32)) := Arv.set Ar124 q124 S124 M124 H124 G124 (fits_nar_char _) W124 2 rfl (Nat.le_of_ble_eq_true rfl)
  refine Goes.step (B := (T124.setTop (mkF m 98 #[.val (.int (3 : Int32)), .val (.int u1), .val (.int u2), .val (.int u3), .val (.int (u1 &&& (255 : Int32)).toUInt32.toUInt16.toUInt32.toInt32), .val (.int (u2 &&& (255 : Int32)).toUInt32.toUInt16.toUInt32.toInt32), .val (.int (u3 &&& (255 : Int32)).toUInt32.toUInt16.toUInt32.toInt32)] [(.ref b108), (.ref b104), (.ref b104)]))) (fun _ k => st124 _ k) ?_
  obtain ⟨_, _, ⟨T129, L129, k129, n129⟩, -, X129, ⟨Lc129, hQ129, l129, y129, z129⟩, st129⟩ := X124.specialBack hx (y := (⟨"java/lang/String", "<init>", "([C)V"⟩ : MethodName)) rfl hown (mvT hZ (hw _ (List.mem_of_getElem? (i := 9) rfl))) (mvT hZ (hw _ (List.mem_of_getElem? (i := 10) rfl))) (mvT hZ (hw _ (List.mem_of_getElem? (i := 11) rfl))) (by decide) (backOf (W := 1) (own_s1_3_rm l Z a0 hw [] b104 b108 w0 k108 (nar .char (u1 &&& (255 : Int32)).toUInt32.toUInt16.toUInt32.toInt32) (nar .char (u2 &&& (255 : Int32)).toUInt32.toUInt16.toUInt32.toInt32) (nar .char (u3 &&& (255 : Int32)).toUInt32.toUInt16.toUInt32.toInt32) h124 n0 Z124 f126 f128 f127 f125 V124 gn104 (Ne.symm ne109) hw0 (own_cc u1) (own_cc u2) (own_cc u3)) hZ (hw _ (List.mem_of_getElem? (i := 11) rfl)) (hw _ (List.mem_of_getElem? (i := 7) rfl)) (by decide) (by decide)) (g := (mkF m 98 #[.val (.int (3 : Int32)), .val (.int u1), .val (.int u2), .val (.int u3), .val (.int (u1 &&& (255 : Int32)).toUInt32.toUInt16.toUInt32.toInt32), .val (.int (u2 &&& (255 : Int32)).toUInt32.toUInt16.toUInt32.toInt32), .val (.int (u3 &&& (255 : Int32)).toUInt32.toUInt16.toUInt32.toInt32)] [(.ref b108), (.ref b104), (.ref b104)])) rfl (by rw [hml]; rfl) (Steps.refl _) (a := b104) (argsL := [(.ref b108)]) (rest := [(.ref b104)]) (lenOf pd__AC_V rfl) rfl (by show 2 * 0 + _ ≤ _; exact Nat.le_of_eq rfl) (hb hby d_method_3_code_98) (fun _ _ => ⟨rfl, e124, (by decide : 2 + 1 ≤ _), (by decide : 7 + 3 ≤ _)⟩)
  dsimp only [Pt.U, Pt.locs, Pt.cells, Pt.slots] at X129 l129 y129 z129 st129 hQ129
  subst l129 y129 z129
  obtain ⟨b_129, k2_129, rfl, N129q, K129q, gn129_b, sz129_b, p129_0, p129_1, p129_2, p129_3⟩ := hQ129
  have N129 := Fr.app N124 N129q
  have ne130 : b104 ≠ b_129 := Nat.ne_of_lt (Nat.lt_of_lt_of_le f126.lt sz129_b)
  have ne131 : b108 ≠ b_129 := Nat.ne_of_lt (Nat.lt_of_lt_of_le V124.lt sz129_b)
  have f132 := f125.keepN K129q (fun y q => by cases List.mem_singleton.mp q; exact f126.plainN)
  have f133 := f126.keep K129q
  have f134 := V124.keep K129q (nm1 (Ne.symm ne109))
  have K129 : Keep h0 T129.heap [] := Keep.trans K124 K129q (fun y q => by cases List.mem_singleton.mp q; exact (Or.inr sz104))
  have Z129 : n0 ≤ T129.heap.size := Nat.le_trans Z124 K129q.1
  have szz129_b : h0.size ≤ b_129 := Nat.le_trans K124.1 sz129_b
  refine Goes.to (B := (T129.setTop (mkF m 101 #[.val (.int (3 : Int32)), .val (.int u1), .val (.int u2), .val (.int u3), .val (.int (u1 &&& (255 : Int32)).toUInt32.toUInt16.toUInt32.toInt32), .val (.int (u2 &&& (255 : Int32)).toUInt32.toUInt16.toUInt32.toInt32), .val (.int (u3 &&& (255 : Int32)).toUInt32.toUInt16.toUInt32.toInt32)] [(.ref b104)]))) st129 ?_
  refine Goes.retR X129 hx hlk hrt rfl rfl rfl (hb hby d_method_3_code_101) ?_ (by decide) (by decide)
  exact ⟨b104, rfl, N129, K129, gn104, sz104, p129_0⟩
def own_v0 (x0 : Int32) : Int32 := (x0 &&& (2147483647 : Int32))
def own_law_j8 (x0 : Int32) : Int32 := (if (own_v0 x0) = (0 : Int32) then (1 : Int32) else (own_v0 x0))
theorem own_v1 (x0 : Int32) : ¬ own_law_j8 x0 < (1 : Int32) := by
  have h := c_mask x0 2147483647 31 (by decide) (by decide)
  have k0 : (0 : Int32).toInt = 0 := by decide
  have k1 : (1 : Int32).toInt = 1 := by decide
  unfold own_law_j8
  split
  · decide
  · rename_i q
    have hq : (own_v0 x0).toInt ≠ 0 := fun r => q (Int32.toInt_inj.mp (by rw [r]; decide))
    have hv : (own_v0 x0).toInt = (x0 &&& 2147483647).toInt := rfl
    rw [Int32.lt_iff_toInt_lt]; omega
theorem own_n4 (x1 : Int32) : (x1 &&& (3 : Int32)) = 0 ∨ (x1 &&& (3 : Int32)) = 1 ∨ (x1 &&& (3 : Int32)) = 2 ∨ (x1 &&& (3 : Int32)) = 3 := by
  have h := c_mask x1 3 2 (by decide) (by decide)
  have h3 : (x1 &&& (3 : Int32)).toInt = 0 ∨ (x1 &&& (3 : Int32)).toInt = 1 ∨ (x1 &&& (3 : Int32)).toInt = 2 ∨ (x1 &&& (3 : Int32)).toInt = 3 := by omega
  rcases h3 with h | h | h | h
  · exact Or.inl (Int32.toInt_inj.mp (by rw [h]; decide))
  · exact Or.inr (Or.inl (Int32.toInt_inj.mp (by rw [h]; decide)))
  · exact Or.inr (Or.inr (Or.inl (Int32.toInt_inj.mp (by rw [h]; decide))))
  · exact Or.inr (Or.inr (Or.inr (Int32.toInt_inj.mp (by rw [h]; decide))))
theorem pd__IIII_Ljava_lang_String_ : parseMethodDescriptor "(IIII)Ljava/lang/String;" = some ⟨[.int, .int, .int, .int], some (.object "java/lang/String")⟩ := by decide +kernel
theorem pd__ILjava_lang_String__V : parseMethodDescriptor "(ILjava/lang/String;)V" = some ⟨[.int, (.object "java/lang/String")], none⟩ := by decide +kernel
def own_law_Q (Z : State) (x0 : Int32) (x1 : Int32) (x2 : Int32) (x3 : Int32) (x4 : Int32) (w0 : Int32) (h0 : Heap) (n0 : Nat) (v : Option Value) (h : Heap) (L : List Loc) : Prop := v = some (.int 1) ∧ Fr n0 L
theorem own_law_ef (m : MethodId) (x0 : Int32) (x1 : Int32) (x2 : Int32) (x3 : Int32) (x4 : Int32) : entryFrame m #[(.int x0), (.int x1), (.int x2), (.int x3), (.int x4)] maxLocals = mkF m 0 #[.val (.int x0), .val (.int x1), .val (.int x2), .val (.int x3), .val (.int x4), .unset, .unset] [] := by first | (simp [entryFrame, mkF, argsToLocals, Value.category, maxLocals]; done) | rfl
set_option maxRecDepth 65536 in
set_option maxHeartbeats 40000000 in
theorem own_law_rm (l : Launch) (Z : State) (a0 : Array Value) (hw : ∀ d ∈ tables_1, d.before a0 Z = true) (ws : List Jvm.Cond) (x0 : Int32) (x1 : Int32) (x2 : Int32) (x3 : Int32) (x4 : Int32) (w0 : Int32) (h0 : Heap) (n0 : Nat) (Z0 : n0 ≤ h0.size) (pr0 : Sta Z h0 "java/lang/String" "COMPACT_STRINGS" "Z" (.int w0)) (hw0 : ¬ (w0 = (0 : Int32))) (hkp : ∀ (b : Addr) (cl : Cell), Z.heap[b]? = some cl → h0[b]? = some cl) (hcon : Jvm.Lit.constHeld Z "java/lang/String" 7) (hcw : Jvm.Lit.compactW.before a0 Z = true) :
    MetFree l x (head1 (Jvm.Cond.code x code maxLocals ret :: ws) room_1) (fun a U => a = #[(.int x0), (.int x1), (.int x2), (.int x3), (.int x4)] ∧ Z.Warmed39 U.vm ∧ U.heap = h0 ∧ U.vm.interned = Z.vm.interned) (fun _ _ _ _ _ => True) (fun _ U o U' => ∃ v L, o = .returned v ∧ own_law_Q Z x0 x1 x2 x3 x4 w0 h0 n0 v U'.heap L ∧ ReturnedEndW U o U' L room_1.cells room_1.slots) := by
  refine MetFree.of_bodySF (plainFor_of_name pn_SettingsRequireAtLeastOnePinLaw) hisR ?_
  intro p e s m args below meth c s₁ Bd hml0 hP hK
  obtain ⟨rfl, hZ, hh, hI⟩ := hP
  have hx := Bd.exec
  have hby := Bd.bytes
  have hml : c.maxLocals = 7 := hml0
  have hown : s.vm.findClass "com/example/breakwater/breakwater/SettingsRequireAtLeastOnePinLaw" = some m.cls := findClass_of_methodNamed Bd.named
  have hnm := (name_of_methodNamed Bd.named Bd.method).1
  have hlk : meth.locks = false := BodyLoose.notSynchronized Bd
  have hrt := Bd.returns
  have X0 : Stand p l e room_1 (s.setVm s.vm) m #[(.int x0), (.int x1), (.int x2), (.int x3), (.int x4)] below meth c s₁ [] 0 0 := Stand.of_body Bd
  have e0 : s₁.heap = h0 := by rw [← hh, Bd.state]; rfl
  have N0 := Fr.nil n0
  have hS0 := since0 s
  have hk0 : s.heap.size ≤ h0.size := by rw [hh]; exact Nat.le_refl _
  refine GoesW.enter (kc := room_1.cells) (kn := room_1.slots) (Q := own_law_Q Z x0 x1 x2 x3 x4 w0 h0 n0) (own_law_ef m x0 x1 x2 x3 x4) ?_
  refine GoesW.step (B := (s₁.setTop (mkF m 1 #[.val (.int x0), .val (.int x1), .val (.int x2), .val (.int x3), .val (.int x4), .unset, .unset] [(.int x0)]))) (fun _ k => XS.iloadN X0.here hx rfl (hb hby at_0) rfl k) ?_
  refine GoesW.step (B := (s₁.setTop (mkF m 3 #[.val (.int x0), .val (.int x1), .val (.int x2), .val (.int x3), .val (.int x4), .unset, .unset] [(.int (2147483647 : Int32)), (.int x0)]))) (fun _ k => X0.ldcInt hx hown (mvT hZ (hw _ (List.mem_of_getElem? (i := 0) rfl))) (g := (mkF m 1 #[.val (.int x0), .val (.int x1), .val (.int x2), .val (.int x3), .val (.int x4), .unset, .unset] [(.int x0)])) rfl (hb hby at_1) _ k) ?_
  refine GoesW.step (B := (s₁.setTop (mkF m 4 #[.val (.int x0), .val (.int x1), .val (.int x2), .val (.int x3), .val (.int x4), .unset, .unset] [(.int (x0 &&& (2147483647 : Int32)))]))) (fun _ k => XS.iand X0.here hx rfl (hb hby at_3) rfl k) ?_
  refine GoesW.step (B := (s₁.setTop (mkF m 6 #[.val (.int x0), .val (.int x1), .val (.int x2), .val (.int x3), .val (.int x4), .val (.int (own_v0 x0)), .unset] []))) (fun _ k => XS.istore X0.here hx rfl (hb hby at_4) rfl (l' := #[.val (.int x0), .val (.int x1), .val (.int x2), .val (.int x3), .val (.int x4), .val (.int (own_v0 x0)), .unset]) rfl k) ?_
  refine GoesW.step (B := (s₁.setTop (mkF m 8 #[.val (.int x0), .val (.int x1), .val (.int x2), .val (.int x3), .val (.int x4), .val (.int (own_v0 x0)), .unset] [(.int (own_v0 x0))]))) (fun _ k => XS.iload X0.here hx rfl (hb hby at_6) rfl k) ?_
  have J101 : GoesW p e below s room_1.cells room_1.slots (own_law_Q Z x0 x1 x2 x3 x4 w0 h0 n0) (s₁.setTop (mkF m 14 #[.val (.int x0), .val (.int x1), .val (.int x2), .val (.int x3), .val (.int x4), .val (.int (own_law_j8 x0)), .unset] [])) := by
    refine GoesW.step (B := (s₁.setTop (mkF m 15 #[.val (.int x0), .val (.int x1), .val (.int x2), .val (.int x3), .val (.int x4), .val (.int (own_law_j8 x0)), .unset] [(.int x1)]))) (fun _ k => XS.iloadN X0.here hx rfl (hb hby at_14) rfl k) ?_
    refine GoesW.step (B := (s₁.setTop (mkF m 16 #[.val (.int x0), .val (.int x1), .val (.int x2), .val (.int x3), .val (.int x4), .val (.int (own_law_j8 x0)), .unset] [(.int (3 : Int32)), (.int x1)]))) (fun _ k => XS.iconst X0.here hx rfl (hb hby at_15) k) ?_
    refine GoesW.step (B := (s₁.setTop (mkF m 17 #[.val (.int x0), .val (.int x1), .val (.int x2), .val (.int x3), .val (.int x4), .val (.int (own_law_j8 x0)), .unset] [(.int (x1 &&& (3 : Int32)))]))) (fun _ k => XS.iand X0.here hx rfl (hb hby at_16) rfl k) ?_
    rcases own_n4 x1 with hl | hl | hl | hl
    · rw [hl]
      refine GoesW.step (B := (s₁.setTop (mkF m 18 #[.val (.int x0), .val (.int x1), .val (.int x2), .val (.int x3), .val (.int x4), .val (.int (own_law_j8 x0)), .unset] [(.int x2), (.int (0 : Int32))]))) (fun _ k => XS.iloadN X0.here hx rfl (hb hby at_17) rfl k) ?_
      refine GoesW.step (B := (s₁.setTop (mkF m 19 #[.val (.int x0), .val (.int x1), .val (.int x2), .val (.int x3), .val (.int x4), .val (.int (own_law_j8 x0)), .unset] [(.int x3), (.int x2), (.int (0 : Int32))]))) (fun _ k => XS.iloadN X0.here hx rfl (hb hby at_18) rfl k) ?_
      refine GoesW.step (B := (s₁.setTop (mkF m 21 #[.val (.int x0), .val (.int x1), .val (.int x2), .val (.int x3), .val (.int x4), .val (.int (own_law_j8 x0)), .unset] [(.int x4), (.int x3), (.int x2), (.int (0 : Int32))]))) (fun _ k => XS.iload X0.here hx rfl (hb hby at_19) rfl k) ?_
      obtain ⟨_, _, ⟨T102, L102, k102, n102⟩, -, X102, hSq102, hgr102, ⟨Lc102, hQ102, l102, y102, z102⟩, st102⟩ := callSS X0 hx (y := (⟨"com/example/breakwater/breakwater/SettingsRequireAtLeastOnePinLaw", "name", "(IIII)Ljava/lang/String;"⟩ : MethodName)) hown (mvT hZ (hw _ (List.mem_of_getElem? (i := 1) rfl))) (mvT hZ (hw _ (List.mem_of_getElem? (i := 2) rfl))) (mvT hZ (hw _ (List.mem_of_getElem? (i := 3) rfl))) (mvT hZ (hw _ (List.mem_of_getElem? (i := 4) rfl))) (by decide) (backOfI (W := 0) (own_nm0_rm l Z a0 hw [] x2 x3 x4  h0 n0 Z0 hkp hcon hcw) hZ hI (hw _ (List.mem_of_getElem? (i := 4) rfl)) (hw _ (List.mem_of_getElem? (i := 3) rfl)) (by decide) (by decide)) (g := (mkF m 21 #[.val (.int x0), .val (.int x1), .val (.int x2), .val (.int x3), .val (.int x4), .val (.int (own_law_j8 x0)), .unset] [(.int x4), (.int x3), (.int x2), (.int (0 : Int32))])) rfl (by rw [hml]; rfl) (argsL := [(.int (0 : Int32)), (.int x2), (.int x3), (.int x4)]) (rest := []) (lenOf pd__IIII_Ljava_lang_String_ rfl) rfl (by show 2 * 0 + _ ≤ _; exact Nat.le_of_eq rfl) (hb hby at_21) (fun _ _ => ⟨rfl, e0, (by decide : 0 + 4 ≤ _), (by decide : 0 + 8 ≤ _)⟩)
      dsimp only [Pt.U, Pt.locs, Pt.cells, Pt.slots] at X102 l102 y102 z102 st102 hQ102 hSq102 hgr102
      subst l102 y102 z102
      have hk102 := Nat.le_trans (by rw [e0]; exact hk0) hgr102
      have hS102 := hS0.trans hSq102 hk102
      have hZ102 : Z.Warmed39 T102.vm := State.Warmed39.trans hZ hSq102.1
      have hown102 : T102.vm.findClass "com/example/breakwater/breakwater/SettingsRequireAtLeastOnePinLaw" = some m.cls := by rw [hSq102.1.alike.findClass]; exact hown
      obtain ⟨b_102, rfl, N102q, K102q, gn102_b, sz102_b, p102_0⟩ := hQ102
      have N102 := Fr.app N0 N102q
      have f103 := pr0.keepN K102q (fun _ q => nomatch q)
      have K102 : Keep h0 T102.heap [] := Keep.trans (Keep.refl h0 []) K102q (fun _ q => nomatch q)
      have Z102 : n0 ≤ T102.heap.size := Nat.le_trans Z0 K102q.1
      have szz102_b : h0.size ≤ b_102 := Nat.le_trans (Keep.refl h0 []).1 sz102_b
      refine GoesW.to (B := (T102.setTop (mkF m 24 #[.val (.int x0), .val (.int x1), .val (.int x2), .val (.int x3), .val (.int x4), .val (.int (own_law_j8 x0)), .unset] [(.ref b_102)]))) st102 ?_
      refine GoesW.step (B := (T102.setTop (mkF m 26 #[.val (.int x0), .val (.int x1), .val (.int x2), .val (.int x3), .val (.int x4), .val (.int (own_law_j8 x0)), .val (.ref b_102)] []))) (fun _ k => XS.astore X102.here hx rfl (hb hby at_24) rfl rfl (l' := #[.val (.int x0), .val (.int x1), .val (.int x2), .val (.int x3), .val (.int x4), .val (.int (own_law_j8 x0)), .val (.ref b_102)]) rfl k) ?_
      refine GoesW.step (B := (T102.setTop (mkF m 28 #[.val (.int x0), .val (.int x1), .val (.int x2), .val (.int x3), .val (.int x4), .val (.int (own_law_j8 x0)), .val (.ref b_102)] [(.int (own_law_j8 x0))]))) (fun _ k => XS.iload X102.here hx rfl (hb hby at_26) rfl k) ?_
      refine GoesW.step (B := (T102.setTop (mkF m 30 #[.val (.int x0), .val (.int x1), .val (.int x2), .val (.int x3), .val (.int x4), .val (.int (own_law_j8 x0)), .val (.ref b_102)] [(.ref b_102), (.int (own_law_j8 x0))]))) (fun _ k => XS.aload X102.here hx rfl (hb hby at_28) rfl rfl k) ?_
      obtain ⟨_, _, ⟨T104, L104, k104, n104⟩, -, X104, ⟨Lc104, hQ104, l104, y104, z104⟩, st104⟩ := Jvm.LawKit.callS X102 hx (y := (⟨"com/example/breakwater/breakwater/Settings", "requireAtLeastOne", "(ILjava/lang/String;)V"⟩ : MethodName)) hown102 (mvT hZ102 (hw _ (List.mem_of_getElem? (i := 35) rfl))) (mvT hZ102 (hw _ (List.mem_of_getElem? (i := 36) rfl))) (mvT hZ102 (hw _ (List.mem_of_getElem? (i := 37) rfl))) (mvT hZ102 (hw _ (List.mem_of_getElem? (i := 38) rfl))) (by decide) (backOf (W := 0) (own_rq_rm l Z a0 hw [] (own_law_j8 x0) b_102  T102.heap n0 Z102 (own_v1 x0)) hZ102 (hw _ (List.mem_of_getElem? (i := 38) rfl)) (hw _ (List.mem_of_getElem? (i := 37) rfl)) (by decide) (by decide)) (g := (mkF m 30 #[.val (.int x0), .val (.int x1), .val (.int x2), .val (.int x3), .val (.int x4), .val (.int (own_law_j8 x0)), .val (.ref b_102)] [(.ref b_102), (.int (own_law_j8 x0))])) rfl (by rw [hml]; rfl) (argsL := [(.int (own_law_j8 x0)), (.ref b_102)]) (rest := []) (lenOf pd__ILjava_lang_String__V rfl) rfl (by show 2 * 0 + _ ≤ _; exact Nat.le_of_eq rfl) (hb hby at_30) (fun _ _ => ⟨rfl, rfl, (by decide : 4 + 0 ≤ _), (by decide : 8 + 0 ≤ _)⟩)
      dsimp only [Pt.U, Pt.locs, Pt.cells, Pt.slots] at X104 l104 y104 z104 st104 hQ104
      subst l104 y104 z104
      obtain ⟨rfl, N104q, e104⟩ := hQ104
      have N104 := Fr.app N102 N104q
      refine GoesW.step (B := (T104.setTop (mkF m 33 #[.val (.int x0), .val (.int x1), .val (.int x2), .val (.int x3), .val (.int x4), .val (.int (own_law_j8 x0)), .val (.ref b_102)] []))) (fun _ k => st104 _ k) ?_
      refine GoesW.step (B := (T104.setTop (mkF m 34 #[.val (.int x0), .val (.int x1), .val (.int x2), .val (.int x3), .val (.int x4), .val (.int (own_law_j8 x0)), .val (.ref b_102)] [(.int (1 : Int32))]))) (fun _ k => XS.iconst X104.here hx rfl (hb hby at_33) k) ?_
      refine GoesW.retN X104 hS102 (by rw [e104]; exact (Nat.le_refl T102.heap.size)) hx hlk (t := .boolean) hrt (by simp) (hb hby at_34) ?_ (by decide) (by decide)
      rw [e104]
      exact ⟨rfl, N104⟩
    · rw [hl]
      refine GoesW.step (B := (s₁.setTop (mkF m 18 #[.val (.int x0), .val (.int x1), .val (.int x2), .val (.int x3), .val (.int x4), .val (.int (own_law_j8 x0)), .unset] [(.int x2), (.int (1 : Int32))]))) (fun _ k => XS.iloadN X0.here hx rfl (hb hby at_17) rfl k) ?_
      refine GoesW.step (B := (s₁.setTop (mkF m 19 #[.val (.int x0), .val (.int x1), .val (.int x2), .val (.int x3), .val (.int x4), .val (.int (own_law_j8 x0)), .unset] [(.int x3), (.int x2), (.int (1 : Int32))]))) (fun _ k => XS.iloadN X0.here hx rfl (hb hby at_18) rfl k) ?_
      refine GoesW.step (B := (s₁.setTop (mkF m 21 #[.val (.int x0), .val (.int x1), .val (.int x2), .val (.int x3), .val (.int x4), .val (.int (own_law_j8 x0)), .unset] [(.int x4), (.int x3), (.int x2), (.int (1 : Int32))]))) (fun _ k => XS.iload X0.here hx rfl (hb hby at_19) rfl k) ?_
      obtain ⟨_, _, ⟨T105, L105, k105, n105⟩, -, X105, ⟨Lc105, hQ105, l105, y105, z105⟩, st105⟩ := Jvm.LawKit.callS X0 hx (y := (⟨"com/example/breakwater/breakwater/SettingsRequireAtLeastOnePinLaw", "name", "(IIII)Ljava/lang/String;"⟩ : MethodName)) hown (mvT hZ (hw _ (List.mem_of_getElem? (i := 1) rfl))) (mvT hZ (hw _ (List.mem_of_getElem? (i := 2) rfl))) (mvT hZ (hw _ (List.mem_of_getElem? (i := 3) rfl))) (mvT hZ (hw _ (List.mem_of_getElem? (i := 4) rfl))) (by decide) (backOf (W := 0) (own_nm1_rm l Z a0 hw [] x2 x3 x4 w0 h0 n0 Z0 pr0 hw0) hZ (hw _ (List.mem_of_getElem? (i := 4) rfl)) (hw _ (List.mem_of_getElem? (i := 3) rfl)) (by decide) (by decide)) (g := (mkF m 21 #[.val (.int x0), .val (.int x1), .val (.int x2), .val (.int x3), .val (.int x4), .val (.int (own_law_j8 x0)), .unset] [(.int x4), (.int x3), (.int x2), (.int (1 : Int32))])) rfl (by rw [hml]; rfl) (argsL := [(.int (1 : Int32)), (.int x2), (.int x3), (.int x4)]) (rest := []) (lenOf pd__IIII_Ljava_lang_String_ rfl) rfl (by show 2 * 0 + _ ≤ _; exact Nat.le_of_eq rfl) (hb hby at_21) (fun _ _ => ⟨rfl, e0, (by decide : 0 + 2 ≤ _), (by decide : 0 + 5 ≤ _)⟩)
      dsimp only [Pt.U, Pt.locs, Pt.cells, Pt.slots] at X105 l105 y105 z105 st105 hQ105
      subst l105 y105 z105
      obtain ⟨b_105, rfl, N105q, K105q, gn105_b, sz105_b, p105_0⟩ := hQ105
      have N105 := Fr.app N0 N105q
      have f106 := pr0.keepN K105q (fun _ q => nomatch q)
      have K105 : Keep h0 T105.heap [] := Keep.trans (Keep.refl h0 []) K105q (fun _ q => nomatch q)
      have Z105 : n0 ≤ T105.heap.size := Nat.le_trans Z0 K105q.1
      have hk105 := Nat.le_trans hk0 K105q.1
      have szz105_b : h0.size ≤ b_105 := Nat.le_trans (Keep.refl h0 []).1 sz105_b
      refine GoesW.step (B := (T105.setTop (mkF m 24 #[.val (.int x0), .val (.int x1), .val (.int x2), .val (.int x3), .val (.int x4), .val (.int (own_law_j8 x0)), .unset] [(.ref b_105)]))) (fun _ k => st105 _ k) ?_
      refine GoesW.step (B := (T105.setTop (mkF m 26 #[.val (.int x0), .val (.int x1), .val (.int x2), .val (.int x3), .val (.int x4), .val (.int (own_law_j8 x0)), .val (.ref b_105)] []))) (fun _ k => XS.astore X105.here hx rfl (hb hby at_24) rfl rfl (l' := #[.val (.int x0), .val (.int x1), .val (.int x2), .val (.int x3), .val (.int x4), .val (.int (own_law_j8 x0)), .val (.ref b_105)]) rfl k) ?_
      refine GoesW.step (B := (T105.setTop (mkF m 28 #[.val (.int x0), .val (.int x1), .val (.int x2), .val (.int x3), .val (.int x4), .val (.int (own_law_j8 x0)), .val (.ref b_105)] [(.int (own_law_j8 x0))]))) (fun _ k => XS.iload X105.here hx rfl (hb hby at_26) rfl k) ?_
      refine GoesW.step (B := (T105.setTop (mkF m 30 #[.val (.int x0), .val (.int x1), .val (.int x2), .val (.int x3), .val (.int x4), .val (.int (own_law_j8 x0)), .val (.ref b_105)] [(.ref b_105), (.int (own_law_j8 x0))]))) (fun _ k => XS.aload X105.here hx rfl (hb hby at_28) rfl rfl k) ?_
      obtain ⟨_, _, ⟨T107, L107, k107, n107⟩, -, X107, ⟨Lc107, hQ107, l107, y107, z107⟩, st107⟩ := Jvm.LawKit.callS X105 hx (y := (⟨"com/example/breakwater/breakwater/Settings", "requireAtLeastOne", "(ILjava/lang/String;)V"⟩ : MethodName)) hown (mvT hZ (hw _ (List.mem_of_getElem? (i := 35) rfl))) (mvT hZ (hw _ (List.mem_of_getElem? (i := 36) rfl))) (mvT hZ (hw _ (List.mem_of_getElem? (i := 37) rfl))) (mvT hZ (hw _ (List.mem_of_getElem? (i := 38) rfl))) (by decide) (backOf (W := 0) (own_rq_rm l Z a0 hw [] (own_law_j8 x0) b_105  T105.heap n0 Z105 (own_v1 x0)) hZ (hw _ (List.mem_of_getElem? (i := 38) rfl)) (hw _ (List.mem_of_getElem? (i := 37) rfl)) (by decide) (by decide)) (g := (mkF m 30 #[.val (.int x0), .val (.int x1), .val (.int x2), .val (.int x3), .val (.int x4), .val (.int (own_law_j8 x0)), .val (.ref b_105)] [(.ref b_105), (.int (own_law_j8 x0))])) rfl (by rw [hml]; rfl) (argsL := [(.int (own_law_j8 x0)), (.ref b_105)]) (rest := []) (lenOf pd__ILjava_lang_String__V rfl) rfl (by show 2 * 0 + _ ≤ _; exact Nat.le_of_eq rfl) (hb hby at_30) (fun _ _ => ⟨rfl, rfl, (by decide : 2 + 0 ≤ _), (by decide : 5 + 0 ≤ _)⟩)
      dsimp only [Pt.U, Pt.locs, Pt.cells, Pt.slots] at X107 l107 y107 z107 st107 hQ107
      subst l107 y107 z107
      obtain ⟨rfl, N107q, e107⟩ := hQ107
      have N107 := Fr.app N105 N107q
      refine GoesW.step (B := (T107.setTop (mkF m 33 #[.val (.int x0), .val (.int x1), .val (.int x2), .val (.int x3), .val (.int x4), .val (.int (own_law_j8 x0)), .val (.ref b_105)] []))) (fun _ k => st107 _ k) ?_
      refine GoesW.step (B := (T107.setTop (mkF m 34 #[.val (.int x0), .val (.int x1), .val (.int x2), .val (.int x3), .val (.int x4), .val (.int (own_law_j8 x0)), .val (.ref b_105)] [(.int (1 : Int32))]))) (fun _ k => XS.iconst X107.here hx rfl (hb hby at_33) k) ?_
      refine GoesW.retN X107 hS0 (by rw [e107]; exact hk105) hx hlk (t := .boolean) hrt (by simp) (hb hby at_34) ?_ (by decide) (by decide)
      rw [e107]
      exact ⟨rfl, N107⟩
    · rw [hl]
      refine GoesW.step (B := (s₁.setTop (mkF m 18 #[.val (.int x0), .val (.int x1), .val (.int x2), .val (.int x3), .val (.int x4), .val (.int (own_law_j8 x0)), .unset] [(.int x2), (.int (2 : Int32))]))) (fun _ k => XS.iloadN X0.here hx rfl (hb hby at_17) rfl k) ?_
      refine GoesW.step (B := (s₁.setTop (mkF m 19 #[.val (.int x0), .val (.int x1), .val (.int x2), .val (.int x3), .val (.int x4), .val (.int (own_law_j8 x0)), .unset] [(.int x3), (.int x2), (.int (2 : Int32))]))) (fun _ k => XS.iloadN X0.here hx rfl (hb hby at_18) rfl k) ?_
      refine GoesW.step (B := (s₁.setTop (mkF m 21 #[.val (.int x0), .val (.int x1), .val (.int x2), .val (.int x3), .val (.int x4), .val (.int (own_law_j8 x0)), .unset] [(.int x4), (.int x3), (.int x2), (.int (2 : Int32))]))) (fun _ k => XS.iload X0.here hx rfl (hb hby at_19) rfl k) ?_
      obtain ⟨_, _, ⟨T108, L108, k108, n108⟩, -, X108, ⟨Lc108, hQ108, l108, y108, z108⟩, st108⟩ := Jvm.LawKit.callS X0 hx (y := (⟨"com/example/breakwater/breakwater/SettingsRequireAtLeastOnePinLaw", "name", "(IIII)Ljava/lang/String;"⟩ : MethodName)) hown (mvT hZ (hw _ (List.mem_of_getElem? (i := 1) rfl))) (mvT hZ (hw _ (List.mem_of_getElem? (i := 2) rfl))) (mvT hZ (hw _ (List.mem_of_getElem? (i := 3) rfl))) (mvT hZ (hw _ (List.mem_of_getElem? (i := 4) rfl))) (by decide) (backOf (W := 0) (own_nm2_rm l Z a0 hw [] x2 x3 x4 w0 h0 n0 Z0 pr0 hw0) hZ (hw _ (List.mem_of_getElem? (i := 4) rfl)) (hw _ (List.mem_of_getElem? (i := 3) rfl)) (by decide) (by decide)) (g := (mkF m 21 #[.val (.int x0), .val (.int x1), .val (.int x2), .val (.int x3), .val (.int x4), .val (.int (own_law_j8 x0)), .unset] [(.int x4), (.int x3), (.int x2), (.int (2 : Int32))])) rfl (by rw [hml]; rfl) (argsL := [(.int (2 : Int32)), (.int x2), (.int x3), (.int x4)]) (rest := []) (lenOf pd__IIII_Ljava_lang_String_ rfl) rfl (by show 2 * 0 + _ ≤ _; exact Nat.le_of_eq rfl) (hb hby at_21) (fun _ _ => ⟨rfl, e0, (by decide : 0 + 3 ≤ _), (by decide : 0 + 8 ≤ _)⟩)
      dsimp only [Pt.U, Pt.locs, Pt.cells, Pt.slots] at X108 l108 y108 z108 st108 hQ108
      subst l108 y108 z108
      obtain ⟨b_108, rfl, N108q, K108q, gn108_b, sz108_b, p108_0⟩ := hQ108
      have N108 := Fr.app N0 N108q
      have f109 := pr0.keepN K108q (fun _ q => nomatch q)
      have K108 : Keep h0 T108.heap [] := Keep.trans (Keep.refl h0 []) K108q (fun _ q => nomatch q)
      have Z108 : n0 ≤ T108.heap.size := Nat.le_trans Z0 K108q.1
      have hk108 := Nat.le_trans hk0 K108q.1
      have szz108_b : h0.size ≤ b_108 := Nat.le_trans (Keep.refl h0 []).1 sz108_b
      refine GoesW.step (B := (T108.setTop (mkF m 24 #[.val (.int x0), .val (.int x1), .val (.int x2), .val (.int x3), .val (.int x4), .val (.int (own_law_j8 x0)), .unset] [(.ref b_108)]))) (fun _ k => st108 _ k) ?_
      refine GoesW.step (B := (T108.setTop (mkF m 26 #[.val (.int x0), .val (.int x1), .val (.int x2), .val (.int x3), .val (.int x4), .val (.int (own_law_j8 x0)), .val (.ref b_108)] []))) (fun _ k => XS.astore X108.here hx rfl (hb hby at_24) rfl rfl (l' := #[.val (.int x0), .val (.int x1), .val (.int x2), .val (.int x3), .val (.int x4), .val (.int (own_law_j8 x0)), .val (.ref b_108)]) rfl k) ?_
      refine GoesW.step (B := (T108.setTop (mkF m 28 #[.val (.int x0), .val (.int x1), .val (.int x2), .val (.int x3), .val (.int x4), .val (.int (own_law_j8 x0)), .val (.ref b_108)] [(.int (own_law_j8 x0))]))) (fun _ k => XS.iload X108.here hx rfl (hb hby at_26) rfl k) ?_
      refine GoesW.step (B := (T108.setTop (mkF m 30 #[.val (.int x0), .val (.int x1), .val (.int x2), .val (.int x3), .val (.int x4), .val (.int (own_law_j8 x0)), .val (.ref b_108)] [(.ref b_108), (.int (own_law_j8 x0))]))) (fun _ k => XS.aload X108.here hx rfl (hb hby at_28) rfl rfl k) ?_
      obtain ⟨_, _, ⟨T110, L110, k110, n110⟩, -, X110, ⟨Lc110, hQ110, l110, y110, z110⟩, st110⟩ := Jvm.LawKit.callS X108 hx (y := (⟨"com/example/breakwater/breakwater/Settings", "requireAtLeastOne", "(ILjava/lang/String;)V"⟩ : MethodName)) hown (mvT hZ (hw _ (List.mem_of_getElem? (i := 35) rfl))) (mvT hZ (hw _ (List.mem_of_getElem? (i := 36) rfl))) (mvT hZ (hw _ (List.mem_of_getElem? (i := 37) rfl))) (mvT hZ (hw _ (List.mem_of_getElem? (i := 38) rfl))) (by decide) (backOf (W := 0) (own_rq_rm l Z a0 hw [] (own_law_j8 x0) b_108  T108.heap n0 Z108 (own_v1 x0)) hZ (hw _ (List.mem_of_getElem? (i := 38) rfl)) (hw _ (List.mem_of_getElem? (i := 37) rfl)) (by decide) (by decide)) (g := (mkF m 30 #[.val (.int x0), .val (.int x1), .val (.int x2), .val (.int x3), .val (.int x4), .val (.int (own_law_j8 x0)), .val (.ref b_108)] [(.ref b_108), (.int (own_law_j8 x0))])) rfl (by rw [hml]; rfl) (argsL := [(.int (own_law_j8 x0)), (.ref b_108)]) (rest := []) (lenOf pd__ILjava_lang_String__V rfl) rfl (by show 2 * 0 + _ ≤ _; exact Nat.le_of_eq rfl) (hb hby at_30) (fun _ _ => ⟨rfl, rfl, (by decide : 3 + 0 ≤ _), (by decide : 8 + 0 ≤ _)⟩)
      dsimp only [Pt.U, Pt.locs, Pt.cells, Pt.slots] at X110 l110 y110 z110 st110 hQ110
      subst l110 y110 z110
      obtain ⟨rfl, N110q, e110⟩ := hQ110
      have N110 := Fr.app N108 N110q
      refine GoesW.step (B := (T110.setTop (mkF m 33 #[.val (.int x0), .val (.int x1), .val (.int x2), .val (.int x3), .val (.int x4), .val (.int (own_law_j8 x0)), .val (.ref b_108)] []))) (fun _ k => st110 _ k) ?_
      refine GoesW.step (B := (T110.setTop (mkF m 34 #[.val (.int x0), .val (.int x1), .val (.int x2), .val (.int x3), .val (.int x4), .val (.int (own_law_j8 x0)), .val (.ref b_108)] [(.int (1 : Int32))]))) (fun _ k => XS.iconst X110.here hx rfl (hb hby at_33) k) ?_
      refine GoesW.retN X110 hS0 (by rw [e110]; exact hk108) hx hlk (t := .boolean) hrt (by simp) (hb hby at_34) ?_ (by decide) (by decide)
      rw [e110]
      exact ⟨rfl, N110⟩
    · rw [hl]
      refine GoesW.step (B := (s₁.setTop (mkF m 18 #[.val (.int x0), .val (.int x1), .val (.int x2), .val (.int x3), .val (.int x4), .val (.int (own_law_j8 x0)), .unset] [(.int x2), (.int (3 : Int32))]))) (fun _ k => XS.iloadN X0.here hx rfl (hb hby at_17) rfl k) ?_
      refine GoesW.step (B := (s₁.setTop (mkF m 19 #[.val (.int x0), .val (.int x1), .val (.int x2), .val (.int x3), .val (.int x4), .val (.int (own_law_j8 x0)), .unset] [(.int x3), (.int x2), (.int (3 : Int32))]))) (fun _ k => XS.iloadN X0.here hx rfl (hb hby at_18) rfl k) ?_
      refine GoesW.step (B := (s₁.setTop (mkF m 21 #[.val (.int x0), .val (.int x1), .val (.int x2), .val (.int x3), .val (.int x4), .val (.int (own_law_j8 x0)), .unset] [(.int x4), (.int x3), (.int x2), (.int (3 : Int32))]))) (fun _ k => XS.iload X0.here hx rfl (hb hby at_19) rfl k) ?_
      obtain ⟨_, _, ⟨T111, L111, k111, n111⟩, -, X111, ⟨Lc111, hQ111, l111, y111, z111⟩, st111⟩ := Jvm.LawKit.callS X0 hx (y := (⟨"com/example/breakwater/breakwater/SettingsRequireAtLeastOnePinLaw", "name", "(IIII)Ljava/lang/String;"⟩ : MethodName)) hown (mvT hZ (hw _ (List.mem_of_getElem? (i := 1) rfl))) (mvT hZ (hw _ (List.mem_of_getElem? (i := 2) rfl))) (mvT hZ (hw _ (List.mem_of_getElem? (i := 3) rfl))) (mvT hZ (hw _ (List.mem_of_getElem? (i := 4) rfl))) (by decide) (backOf (W := 0) (own_nm3_rm l Z a0 hw [] x2 x3 x4 w0 h0 n0 Z0 pr0 hw0) hZ (hw _ (List.mem_of_getElem? (i := 4) rfl)) (hw _ (List.mem_of_getElem? (i := 3) rfl)) (by decide) (by decide)) (g := (mkF m 21 #[.val (.int x0), .val (.int x1), .val (.int x2), .val (.int x3), .val (.int x4), .val (.int (own_law_j8 x0)), .unset] [(.int x4), (.int x3), (.int x2), (.int (3 : Int32))])) rfl (by rw [hml]; rfl) (argsL := [(.int (3 : Int32)), (.int x2), (.int x3), (.int x4)]) (rest := []) (lenOf pd__IIII_Ljava_lang_String_ rfl) rfl (by show 2 * 0 + _ ≤ _; exact Nat.le_of_eq rfl) (hb hby at_21) (fun _ _ => ⟨rfl, e0, (by decide : 0 + 3 ≤ _), (by decide : 0 + 10 ≤ _)⟩)
      dsimp only [Pt.U, Pt.locs, Pt.cells, Pt.slots] at X111 l111 y111 z111 st111 hQ111
      subst l111 y111 z111
      obtain ⟨b_111, rfl, N111q, K111q, gn111_b, sz111_b, p111_0⟩ := hQ111
      have N111 := Fr.app N0 N111q
      have f112 := pr0.keepN K111q (fun _ q => nomatch q)
      have K111 : Keep h0 T111.heap [] := Keep.trans (Keep.refl h0 []) K111q (fun _ q => nomatch q)
      have Z111 : n0 ≤ T111.heap.size := Nat.le_trans Z0 K111q.1
      have hk111 := Nat.le_trans hk0 K111q.1
      have szz111_b : h0.size ≤ b_111 := Nat.le_trans (Keep.refl h0 []).1 sz111_b
      refine GoesW.step (B := (T111.setTop (mkF m 24 #[.val (.int x0), .val (.int x1), .val (.int x2), .val (.int x3), .val (.int x4), .val (.int (own_law_j8 x0)), .unset] [(.ref b_111)]))) (fun _ k => st111 _ k) ?_
      refine GoesW.step (B := (T111.setTop (mkF m 26 #[.val (.int x0), .val (.int x1), .val (.int x2), .val (.int x3), .val (.int x4), .val (.int (own_law_j8 x0)), .val (.ref b_111)] []))) (fun _ k => XS.astore X111.here hx rfl (hb hby at_24) rfl rfl (l' := #[.val (.int x0), .val (.int x1), .val (.int x2), .val (.int x3), .val (.int x4), .val (.int (own_law_j8 x0)), .val (.ref b_111)]) rfl k) ?_
      refine GoesW.step (B := (T111.setTop (mkF m 28 #[.val (.int x0), .val (.int x1), .val (.int x2), .val (.int x3), .val (.int x4), .val (.int (own_law_j8 x0)), .val (.ref b_111)] [(.int (own_law_j8 x0))]))) (fun _ k => XS.iload X111.here hx rfl (hb hby at_26) rfl k) ?_
      refine GoesW.step (B := (T111.setTop (mkF m 30 #[.val (.int x0), .val (.int x1), .val (.int x2), .val (.int x3), .val (.int x4), .val (.int (own_law_j8 x0)), .val (.ref b_111)] [(.ref b_111), (.int (own_law_j8 x0))]))) (fun _ k => XS.aload X111.here hx rfl (hb hby at_28) rfl rfl k) ?_
      obtain ⟨_, _, ⟨T113, L113, k113, n113⟩, -, X113, ⟨Lc113, hQ113, l113, y113, z113⟩, st113⟩ := Jvm.LawKit.callS X111 hx (y := (⟨"com/example/breakwater/breakwater/Settings", "requireAtLeastOne", "(ILjava/lang/String;)V"⟩ : MethodName)) hown (mvT hZ (hw _ (List.mem_of_getElem? (i := 35) rfl))) (mvT hZ (hw _ (List.mem_of_getElem? (i := 36) rfl))) (mvT hZ (hw _ (List.mem_of_getElem? (i := 37) rfl))) (mvT hZ (hw _ (List.mem_of_getElem? (i := 38) rfl))) (by decide) (backOf (W := 0) (own_rq_rm l Z a0 hw [] (own_law_j8 x0) b_111  T111.heap n0 Z111 (own_v1 x0)) hZ (hw _ (List.mem_of_getElem? (i := 38) rfl)) (hw _ (List.mem_of_getElem? (i := 37) rfl)) (by decide) (by decide)) (g := (mkF m 30 #[.val (.int x0), .val (.int x1), .val (.int x2), .val (.int x3), .val (.int x4), .val (.int (own_law_j8 x0)), .val (.ref b_111)] [(.ref b_111), (.int (own_law_j8 x0))])) rfl (by rw [hml]; rfl) (argsL := [(.int (own_law_j8 x0)), (.ref b_111)]) (rest := []) (lenOf pd__ILjava_lang_String__V rfl) rfl (by show 2 * 0 + _ ≤ _; exact Nat.le_of_eq rfl) (hb hby at_30) (fun _ _ => ⟨rfl, rfl, (by decide : 3 + 0 ≤ _), (by decide : 10 + 0 ≤ _)⟩)
      dsimp only [Pt.U, Pt.locs, Pt.cells, Pt.slots] at X113 l113 y113 z113 st113 hQ113
      subst l113 y113 z113
      obtain ⟨rfl, N113q, e113⟩ := hQ113
      have N113 := Fr.app N111 N113q
      refine GoesW.step (B := (T113.setTop (mkF m 33 #[.val (.int x0), .val (.int x1), .val (.int x2), .val (.int x3), .val (.int x4), .val (.int (own_law_j8 x0)), .val (.ref b_111)] []))) (fun _ k => st113 _ k) ?_
      refine GoesW.step (B := (T113.setTop (mkF m 34 #[.val (.int x0), .val (.int x1), .val (.int x2), .val (.int x3), .val (.int x4), .val (.int (own_law_j8 x0)), .val (.ref b_111)] [(.int (1 : Int32))]))) (fun _ k => XS.iconst X113.here hx rfl (hb hby at_33) k) ?_
      refine GoesW.retN X113 hS0 (by rw [e113]; exact hk111) hx hlk (t := .boolean) hrt (by simp) (hb hby at_34) ?_ (by decide) (by decide)
      rw [e113]
      exact ⟨rfl, N113⟩
  by_cases hc114 : (own_v0 x0) = (0 : Int32)
  · refine GoesW.step (B := (s₁.setTop (mkF m 11 #[.val (.int x0), .val (.int x1), .val (.int x2), .val (.int x3), .val (.int x4), .val (.int (own_v0 x0)), .unset] []))) (fun _ k => XS.ifNo X0.here hx rfl (hb hby at_8) rfl ((if0 _ _).trans (teq hc114).2) k) ?_
    refine GoesW.step (B := (s₁.setTop (mkF m 12 #[.val (.int x0), .val (.int x1), .val (.int x2), .val (.int x3), .val (.int x4), .val (.int (own_v0 x0)), .unset] [(.int (1 : Int32))]))) (fun _ k => XS.iconst X0.here hx rfl (hb hby at_11) k) ?_
    refine GoesW.step (B := (s₁.setTop (mkF m 14 #[.val (.int x0), .val (.int x1), .val (.int x2), .val (.int x3), .val (.int x4), .val (.int (1 : Int32)), .unset] []))) (fun _ k => XS.istore X0.here hx rfl (hb hby at_12) rfl (l' := #[.val (.int x0), .val (.int x1), .val (.int x2), .val (.int x3), .val (.int x4), .val (.int (1 : Int32)), .unset]) rfl k) ?_
    rw [show own_law_j8 x0 = (1 : Int32) from by simp only [own_law_j8, if_pos hc114]] at J101
    exact J101
  · refine GoesW.step (B := (s₁.setTop (mkF m 14 #[.val (.int x0), .val (.int x1), .val (.int x2), .val (.int x3), .val (.int x4), .val (.int (own_v0 x0)), .unset] []))) (fun _ k => XS.ifYes X0.here hx rfl (pc0 := 8) (pc' := 14) rfl (hb hby at_8) rfl ((if0 _ _).trans (feq hc114).2) (by decide) (by decide) k) ?_
    rw [show own_law_j8 x0 = (own_v0 x0) from by simp only [own_law_j8, if_neg hc114]] at J101
    exact J101
set_option maxRecDepth 65536 in
set_option maxHeartbeats 40000000 in
theorem comes_1 {Post : Tables → Env → Array Value → State → Outcome → State → Prop} (hpost : ∀ tb e args s v u, (limb_1_1.after args s (.returned v) u = true ∧ limb_1_2.after args s (.returned v) u = true ∧ True) → ReturnedEndW s (.returned v) u (Jvm.fieldLocs frame_1_writes args s ++ Jvm.arrayLocs frame_1_arrays args s ++ Jvm.staticLocs frame_1_statics s) 16 1152 → Post tb e args s (.returned v) u) :
    ArmFor flags0 classFile x code maxLocals ret World_1 tables_1 room_1 Calls_1 rest_1 Pre_1 Post := by
  intro l hfl _ _ p e ha hc hk s m args below hf hA hF happ hP
  obtain ⟨hcalls, hrest, hpre⟩ := hP
  obtain ⟨-, -, -, hnamed, -, -, -, hat⟩ := (Spec.applies_iff hf).mp happ
  obtain ⟨hg, hn⟩ := and_e (Cond.before_iff.mp (show (Jvm.Cond.and given_1 narrow_1).before args s = true from hpre))
  obtain ⟨hg1, hg2⟩ := and_e hg
  obtain ⟨hg3, hg4⟩ := and_e hg2
  obtain ⟨hg5, hg6⟩ := and_e hg4
  obtain ⟨hg7, hg8⟩ := and_e hg6
  obtain ⟨hg9, hg10⟩ := and_e hg8
  obtain ⟨w0, w1, w2, w3, w4, rfl⟩ : ∃ w0 w1 w2 w3 w4 : Value, args = #[w0, w1, w2, w3, w4] := by
    have hs : args.size = 5 := by simpa [Cond.value, given_1] using hg1
    obtain ⟨L⟩ := args
    match L, hs with
    | [w0, w1, w2, w3, w4], _ => exact ⟨w0, w1, w2, w3, w4, rfl⟩
  have hw := fun d (hd : d ∈ tables_1) => atoms_spec (ws := Jvm.Cond.code x code maxLocals ret :: tables_1) hat d (List.mem_cons_of_mem _ hd)
  have hfit : Fit s := fun {y c} hc i hi => by
    obtain ⟨ha, rfl⟩ := Array.getElem?_eq_some_iff.mp hc
    have q := List.all_eq_true.mp ((Array.all_eq_true_iff_forall_mem.mp hF) _ (Array.getElem_mem ha)) i (List.mem_range.mpr hi)
    simpa [Array.getElem?_eq_getElem hi] using q
  obtain ⟨hsets, hown0⟩ := atoms_of _ (rest_1_c_eq ▸ (show rest_1_c.before _ s = true from hrest))
  obtain ⟨i0, ei0⟩ := is_v hg3
  obtain rfl : w0 = (.int i0) := Option.some.inj ei0
  obtain ⟨i1, ei1⟩ := is_v hg5
  obtain rfl : w1 = (.int i1) := Option.some.inj ei1
  obtain ⟨i2, ei2⟩ := is_v hg7
  obtain rfl : w2 = (.int i2) := Option.some.inj ei2
  obtain ⟨i3, ei3⟩ := is_v hg9
  obtain rfl : w3 = (.int i3) := Option.some.inj ei3
  obtain ⟨i4, ei4⟩ := is_v hg10
  obtain rfl : w4 = (.int i4) := Option.some.inj ei4
  obtain ⟨cw, ecw⟩ := is_v (Cond.before_iff.mp (hsets _ (List.mem_of_getElem? (i := 1) rfl)))
  have SC := Sta.start ecw (Or.inl (hsets _ (List.mem_of_getElem? (i := 0) rfl)))
  have hcw : ¬ (cw = (0 : Int32)) := own_nz0 ecw (Cond.before_iff.mp (hsets _ (List.mem_of_getElem? (i := 2) rfl)))
  obtain ⟨n, o, h1, h2, h3, _, L, rfl, ⟨hv, N⟩, hq⟩ := own_law_rm l s _ hw tables_1 i0 i1 i2 i3 i4 cw s.heap s.heap.size (Nat.le_refl _) SC hcw (fun _ _ q => q) (hcalls.1 ("java/lang/String", 7) (List.mem_of_getElem? (i := 0) rfl)) (hsets _ (List.mem_of_getElem? (i := 2) rfl)) p e ha hc hk s m _ below hf ((Spec.applies_iff_loose hf).mp happ).1 ⟨rfl, State.Warmed39.refl s, rfl, rfl⟩ trivial
  subst hv
  refine ⟨n, _, h1, h2, h3, hpost _ _ _ _ _ _ ⟨Cond.after_iff.mpr rfl, Cond.after_iff.mpr (eq_i res_at (Term.int_eval (1)) rfl), trivial⟩ ⟨hq.1, hq.2.1, hq.2.2.1, (hq.2.2.2.sift fun y hy => Or.inr (N y hy)).mono (by decide) (by decide)⟩⟩
theorem main_1_1 : Claimed_1_1 := comes_1 fun _ _ _ _ _ _ h hF => ⟨h.1, hF⟩
theorem main_1_2 : Claimed_1_2 := comes_1 fun _ _ _ _ _ _ h hF => ⟨h.2.1, hF⟩
end Jvm.Pilot.@@N@@
namespace Jvm.Pilot.@@N@@
open Jvm Jvm.ClassFile Sem Op Lib Jvm.Free Jvm.Stand Jvm.Pilot.@@N@@.Jvm.D
/-! MADE BY PROGRAM (witnessworld.py) out of the Statement's table words and the real class files: 20 classes; the members and pool entries that the words name. The judged class is class 1, her method 1. -/
namespace start1
open Jvm.ClassFile
def u (s : String) : CpInfo := .utf8 (stringToUtf16 s)
/-- a pool by its gaps: so many unusable entries, then the entry; so many at the end -/
def gap : Nat → List CpInfo → List CpInfo
  | 0, r => r
  | n + 1, r => .unusable :: gap n r
def poolList (es : List (Nat × CpInfo)) (last : Nat) : List CpInfo := es.foldr (fun e r => gap e.1 (e.2 :: r)) (gap last [])
def pool (es : List (Nat × CpInfo)) (last : Nat) : Array CpInfo := ⟨poolList es last⟩
def fileOf (pool : Array CpInfo) (this : Nat) (attrs : Array Attribute := #[]) (ms : Array MethodInfo := #[]) (fl : Nat := 33) (sup : Nat := 0) (ifs : Array Nat := #[]) (fds : Array FieldInfo := #[]) : ClassFile where
  minorVersion := 0
  majorVersion := 65
  constantPool := pool
  accessFlags := fl
  thisClass := this
  superClass := sup
  interfaces := ifs
  fields := fds
  methods := ms
  attributes := attrs
def plain (name : String) (sup : Option ClassId) : Class where
  name := name
  kind := .ordinary
  loader := none
  accessFlags := 33
  super := sup
  interfaces := #[]
  cf := none
  fields := #[]
  methods := #[]
  instanceTypes := #[]
  staticTypes := #[]
  resolved := #[]
  callSites := []
  init := .initialized
  statics := none
  mirror := none

def pool0 : Array CpInfo := pool [(5, u "<init>"), (0, u "()V"), (1, .class_ 10), (1, u "java/lang/Object")] 113

def k0c0 : Code := { maxStack := 0, maxLocals := 1, code := object_method_1_code, exceptionTable := #[], attributes := #[] }
def k0m0 : Method := { name := "<init>", desc := "()V", sig := { parameters := [], returnType := none }, accessFlags := 1, code := some k0c0 }
/-- java/lang/Object -/
def k0 : Class := { plain "java/lang/Object" none with
  accessFlags := 33
  interfaces := #[]
  cf := some (fileOf pool0 8 #[] #[{ accessFlags := 1, nameIndex := 5, descriptorIndex := 6, attributes := #[] }] 33 0 #[] #[])
  fields := #[]
  methods := #[k0m0]
  instanceTypes := #[]
  staticTypes := #[]
  resolved := Array.replicate 124 none
  statics := none }

def pool1 : Array CpInfo := pool [(2, .class_ 4), (1, u "java/lang/Object"), (0, u "<init>"), (0, u "()V"), (0, .integer 2147483647), (0, .methodref 9 10), (0, .class_ 11), (0, .nameAndType 12 13), (0, u "com/example/breakwater/breakwater/SettingsRequireAtLeastOnePinLaw"), (0, u "name"), (0, u "(IIII)Ljava/lang/String;"), (0, .methodref 15 16), (0, .class_ 17), (0, .nameAndType 18 19), (0, u "com/example/breakwater/breakwater/Settings"), (0, u "requireAtLeastOne"), (0, u "(ILjava/lang/String;)V"), (0, .class_ 21), (0, u "java/lang/String"), (0, .methodref 20 23), (0, .nameAndType 5 24), (0, u "([C)V"), (0, .methodref 20 26), (0, .nameAndType 27 28), (0, u "valueOf"), (0, u "(C)Ljava/lang/String;"), (2, u "law"), (0, u "(IIIII)Z")] 3

def k1m0 : Method := { name := "<init>", desc := "()V", sig := { parameters := [], returnType := none }, accessFlags := 1, code := none }
def k1c1 : Code := { maxStack := 4, maxLocals := 7, code := code, exceptionTable := #[], attributes := #[] }
def k1m1 : Method := { name := "law", desc := "(IIIII)Z", sig := { parameters := [.int, .int, .int, .int, .int], returnType := some .boolean }, accessFlags := 9, code := some k1c1 }
def k1c2 : Code := { maxStack := 6, maxLocals := 7, code := method_3_code, exceptionTable := #[], attributes := #[] }
def k1m2 : Method := { name := "name", desc := "(IIII)Ljava/lang/String;", sig := { parameters := [.int, .int, .int, .int], returnType := some (.object "java/lang/String") }, accessFlags := 10, code := some k1c2 }
/-- com/example/breakwater/breakwater/SettingsRequireAtLeastOnePinLaw -/
def k1 : Class := { plain "com/example/breakwater/breakwater/SettingsRequireAtLeastOnePinLaw" (some 0) with
  accessFlags := 49
  interfaces := #[]
  cf := some (fileOf pool1 9 #[] #[{ accessFlags := 1, nameIndex := 5, descriptorIndex := 6, attributes := #[] }, { accessFlags := 9, nameIndex := 31, descriptorIndex := 32, attributes := #[] }, { accessFlags := 10, nameIndex := 12, descriptorIndex := 13, attributes := #[] }] 49 2 #[] #[])
  fields := #[]
  methods := #[k1m0, k1m1, k1m2]
  instanceTypes := #[]
  staticTypes := #[]
  resolved := Array.replicate 36 none
  statics := none }

def pool2 : Array CpInfo := pool [(1, .class_ 2), (0, u "java/io/Serializable"), (0, .class_ 4), (0, u "java/lang/Object")] 2

/-- java/io/Serializable -/
def k2 : Class := { plain "java/io/Serializable" (some 0) with
  accessFlags := 1537
  interfaces := #[]
  cf := some (fileOf pool2 1 #[] #[] 1537 3 #[] #[])
  fields := #[]
  methods := #[]
  instanceTypes := #[]
  staticTypes := #[]
  resolved := Array.replicate 7 none
  statics := none }

def pool3 : Array CpInfo := pool [(1, .class_ 2), (0, u "java/lang/Comparable"), (0, .class_ 4), (0, u "java/lang/Object")] 7

/-- java/lang/Comparable -/
def k3 : Class := { plain "java/lang/Comparable" (some 0) with
  accessFlags := 1537
  interfaces := #[]
  cf := some (fileOf pool3 1 #[] #[] 1537 3 #[] #[])
  fields := #[]
  methods := #[]
  instanceTypes := #[]
  staticTypes := #[]
  resolved := Array.replicate 12 none
  statics := none }

def pool4 : Array CpInfo := pool [(2, .class_ 4), (1, u "java/lang/CharSequence"), (42, .class_ 48), (0, u "java/lang/CharSequence$1CodePointIterator"), (10, .class_ 60), (0, u "java/lang/CharSequence$1CharIterator"), (5, .class_ 67), (0, u "java/lang/Object")] 63

/-- java/lang/CharSequence -/
def k4 : Class := { plain "java/lang/CharSequence" (some 0) with
  accessFlags := 1537
  interfaces := #[]
  cf := some (fileOf pool4 2 #[.nestMembers #[47, 59]] #[] 1537 66 #[] #[])
  fields := #[]
  methods := #[]
  instanceTypes := #[]
  staticTypes := #[]
  resolved := Array.replicate 131 none
  statics := none }

def pool5 : Array CpInfo := pool [(1, .class_ 2), (0, u "java/lang/constant/Constable"), (0, .class_ 4), (0, u "java/lang/Object")] 6

/-- java/lang/constant/Constable -/
def k5 : Class := { plain "java/lang/constant/Constable" (some 0) with
  accessFlags := 1537
  interfaces := #[]
  cf := some (fileOf pool5 1 #[] #[] 1537 3 #[] #[])
  fields := #[]
  methods := #[]
  instanceTypes := #[]
  staticTypes := #[]
  resolved := Array.replicate 11 none
  statics := none }

def pool6 : Array CpInfo := pool [(1, .class_ 2), (0, u "java/lang/constant/ConstantDesc"), (0, .class_ 4), (0, u "java/lang/Object")] 32

/-- java/lang/constant/ConstantDesc -/
def k6 : Class := { plain "java/lang/constant/ConstantDesc" (some 0) with
  accessFlags := 1537
  interfaces := #[]
  cf := some (fileOf pool6 1 #[] #[] 1537 3 #[] #[])
  fields := #[]
  methods := #[]
  instanceTypes := #[]
  staticTypes := #[]
  resolved := Array.replicate 37 none
  statics := none }

def pool7 : Array CpInfo := pool [(1, .methodref 2 3), (0, .class_ 4), (0, .nameAndType 5 6), (0, u "java/lang/Object"), (0, u "<init>"), (0, u "()V"), (0, .string 8), (0, u ""), (0, .fieldref 10 11), (0, .class_ 12), (0, .nameAndType 13 14), (0, u "java/lang/String"), (0, u "value"), (0, u "[B"), (0, .fieldref 10 16), (0, .nameAndType 17 18), (0, u "coder"), (0, u "B"), (2, u "hash"), (0, u "I"), (2, u "hashIsZero"), (0, u "Z"), (0, .methodref 10 28), (0, .nameAndType 5 29), (0, u "([CIILjava/lang/Void;)V"), (8, .fieldref 10 39), (0, .nameAndType 40 26), (0, u "COMPACT_STRINGS"), (1, .class_ 44), (1, u "java/lang/StringUTF16"), (0, u "compress"), (1, .methodref 42 48), (0, .nameAndType 49 50), (0, u "coderFromArrayLen"), (0, u "([BI)B"), (2, u "toBytes"), (53, .class_ 109), (1, u "java/lang/StringLatin1"), (67, .methodref 42 178), (0, .nameAndType 45 179), (0, u "([CII)[B"), (29, .methodref 10 210), (0, .nameAndType 5 211), (0, u "([BB)V"), (157, u "(C)Z"), (205, .class_ 576), (0, u "java/lang/CharSequence"), (22, u "CASE_INSENSITIVE_ORDER"), (0, u "Ljava/util/Comparator;"), (181, u "valueOf"), (0, u "(C)Ljava/lang/String;"), (226, u "([C)V"), (4, .methodref 107 1016), (0, .nameAndType 1017 369), (0, u "canEncode"), (0, .methodref 107 1019), (0, .nameAndType 53 1020), (0, u "(C)[B"), (80, u "serialPersistentFields"), (0, u "[Ljava/io/ObjectStreamField;"), (0, .class_ 1104), (0, u "java/lang/String$CaseInsensitiveComparator"), (1, .class_ 1107), (0, u "java/io/Serializable"), (0, .class_ 1109), (0, u "java/lang/Comparable"), (0, .class_ 1111), (0, u "java/lang/constant/Constable"), (0, .class_ 1113), (0, u "java/lang/constant/ConstantDesc"), (2, u "serialVersionUID"), (0, u "J"), (3, u "REPL"), (0, u "C"), (2, u "LATIN1"), (1, u "UTF16")] 323

def k7m0 : Method := { name := "<init>", desc := "()V", sig := { parameters := [], returnType := none }, accessFlags := 1, code := none }
def k7c1 : Code := { maxStack := 5, maxLocals := 2, code := jdk_42_method_3_code, exceptionTable := #[], attributes := #[] }
def k7m1 : Method := { name := "<init>", desc := "([C)V", sig := { parameters := [(.array .char)], returnType := none }, accessFlags := 1, code := some k7c1 }
def k7c2 : Code := { maxStack := 4, maxLocals := 1, code := jdk_42_method_139_code, exceptionTable := #[], attributes := #[] }
def k7m2 : Method := { name := "valueOf", desc := "(C)Ljava/lang/String;", sig := { parameters := [.char], returnType := some (.object "java/lang/String") }, accessFlags := 9, code := some k7c2 }
def k7c3 : Code := { maxStack := 4, maxLocals := 6, code := jdk_42_method_149_code, exceptionTable := #[], attributes := #[] }
def k7m3 : Method := { name := "<init>", desc := "([CIILjava/lang/Void;)V", sig := { parameters := [(.array .char), .int, .int, (.object "java/lang/Void")], returnType := none }, accessFlags := 2, code := some k7c3 }
def k7c4 : Code := { maxStack := 2, maxLocals := 3, code := jdk_42_method_151_code, exceptionTable := #[], attributes := #[] }
def k7m4 : Method := { name := "<init>", desc := "([BB)V", sig := { parameters := [(.array .byte), .byte], returnType := none }, accessFlags := 0, code := some k7c4 }
/-- java/lang/String -/
def k7 : Class := { plain "java/lang/String" (some 0) with
  accessFlags := 49
  interfaces := #[2, 3, 4, 5, 6]
  cf := some (fileOf pool7 10 #[.nestMembers #[1103]] #[{ accessFlags := 1, nameIndex := 5, descriptorIndex := 6, attributes := #[] }, { accessFlags := 1, nameIndex := 5, descriptorIndex := 1010, attributes := #[] }, { accessFlags := 9, nameIndex := 782, descriptorIndex := 783, attributes := #[] }, { accessFlags := 2, nameIndex := 5, descriptorIndex := 29, attributes := #[] }, { accessFlags := 0, nameIndex := 5, descriptorIndex := 211, attributes := #[] }] 49 2 #[1106, 1108, 575, 1110, 1112] #[{ accessFlags := 18, nameIndex := 13, descriptorIndex := 14, attributes := #[] }, { accessFlags := 18, nameIndex := 17, descriptorIndex := 18, attributes := #[] }, { accessFlags := 2, nameIndex := 21, descriptorIndex := 22, attributes := #[] }, { accessFlags := 2, nameIndex := 25, descriptorIndex := 26, attributes := #[] }, { accessFlags := 26, nameIndex := 1116, descriptorIndex := 1117, attributes := #[] }, { accessFlags := 24, nameIndex := 40, descriptorIndex := 26, attributes := #[] }, { accessFlags := 26, nameIndex := 1101, descriptorIndex := 1102, attributes := #[] }, { accessFlags := 26, nameIndex := 1121, descriptorIndex := 1122, attributes := #[] }, { accessFlags := 25, nameIndex := 599, descriptorIndex := 600, attributes := #[] }, { accessFlags := 24, nameIndex := 1125, descriptorIndex := 18, attributes := #[] }, { accessFlags := 24, nameIndex := 1127, descriptorIndex := 18, attributes := #[] }])
  fields := #[{ name := "value", type := (.array .byte), accessFlags := 18, slot := 0, constantValue := 0 }, { name := "coder", type := .byte, accessFlags := 18, slot := 1, constantValue := 0 }, { name := "hash", type := .int, accessFlags := 2, slot := 2, constantValue := 0 }, { name := "hashIsZero", type := .boolean, accessFlags := 2, slot := 3, constantValue := 0 }, { name := "serialVersionUID", type := .long, accessFlags := 26, slot := 0, constantValue := 0 }, { name := "COMPACT_STRINGS", type := .boolean, accessFlags := 24, slot := 1, constantValue := 0 }, { name := "serialPersistentFields", type := (.array (.object "java/io/ObjectStreamField")), accessFlags := 26, slot := 2, constantValue := 0 }, { name := "REPL", type := .char, accessFlags := 26, slot := 3, constantValue := 0 }, { name := "CASE_INSENSITIVE_ORDER", type := (.object "java/util/Comparator"), accessFlags := 25, slot := 4, constantValue := 0 }, { name := "LATIN1", type := .byte, accessFlags := 24, slot := 5, constantValue := 0 }, { name := "UTF16", type := .byte, accessFlags := 24, slot := 6, constantValue := 0 }]
  methods := #[k7m0, k7m1, k7m2, k7m3, k7m4]
  instanceTypes := #[(.array .byte), .byte, .int, .boolean]
  staticTypes := #[.long, .boolean, (.array (.object "java/io/ObjectStreamField")), .char, (.object "java/util/Comparator"), .byte, .byte]
  resolved := Array.replicate 1451 none
  statics := some 0 }

def pool8 : Array CpInfo := pool [(6, .class_ 8), (1, u "java/lang/Object"), (0, u "<init>"), (0, u "()V"), (1, .class_ 14), (1, u "java/lang/StringUTF16"), (31, u "$assertionsDisabled"), (0, u "Z"), (13, u "HI_BYTE_SHIFT"), (0, u "I"), (2, u "LO_BYTE_SHIFT"), (49, .methodref 12 116), (0, .nameAndType 117 118), (0, u "compress"), (0, u "([CI[BII)I"), (3, u "([CII)[B"), (138, u "coderFromArrayLen"), (0, u "([BI)B"), (106, .class_ 371), (1, u "java/lang/StringUTF16$LinesSpliterator"), (58, u "MAX_LENGTH"), (196, .class_ 628), (0, u "java/lang/StringUTF16$CodePointsSpliterator"), (0, .class_ 630), (0, u "java/lang/StringUTF16$CharsSpliterator")] 4

def k8m0 : Method := { name := "<init>", desc := "()V", sig := { parameters := [], returnType := none }, accessFlags := 0, code := none }
def k8c1 : Code := { maxStack := 2, maxLocals := 2, code := jdk_52_method_15_code, exceptionTable := #[], attributes := #[] }
def k8m1 : Method := { name := "coderFromArrayLen", desc := "([BI)B", sig := { parameters := [(.array .byte), .int], returnType := some .byte }, accessFlags := 8, code := some k8c1 }
def k8c2 : Code := { maxStack := 5, maxLocals := 6, code := jdk_52_method_16_code, exceptionTable := #[], attributes := #[] }
def k8m2 : Method := { name := "compress", desc := "([CII)[B", sig := { parameters := [(.array .char), .int, .int], returnType := some (.array .byte) }, accessFlags := 9, code := some k8c2 }
def k8c3 : Code := { maxStack := 3, maxLocals := 7, code := jdk_52_method_21_code, exceptionTable := #[], attributes := #[] }
def k8m3 : Method := { name := "compress", desc := "([CI[BII)I", sig := { parameters := [(.array .char), .int, (.array .byte), .int, .int], returnType := some .int }, accessFlags := 9, code := some k8c3 }
/-- java/lang/StringUTF16 -/
def k8 : Class := { plain "java/lang/StringUTF16" (some 0) with
  accessFlags := 48
  interfaces := #[]
  cf := some (fileOf pool8 12 #[.nestMembers #[627, 629, 369]] #[{ accessFlags := 0, nameIndex := 9, descriptorIndex := 10, attributes := #[] }, { accessFlags := 8, nameIndex := 261, descriptorIndex := 262, attributes := #[] }, { accessFlags := 9, nameIndex := 117, descriptorIndex := 122, attributes := #[] }, { accessFlags := 9, nameIndex := 117, descriptorIndex := 118, attributes := #[] }] 48 6 #[] #[{ accessFlags := 26, nameIndex := 61, descriptorIndex := 62, attributes := #[] }, { accessFlags := 26, nameIndex := 65, descriptorIndex := 62, attributes := #[] }, { accessFlags := 24, nameIndex := 430, descriptorIndex := 62, attributes := #[] }, { accessFlags := 4120, nameIndex := 46, descriptorIndex := 47, attributes := #[] }])
  fields := #[{ name := "HI_BYTE_SHIFT", type := .int, accessFlags := 26, slot := 0, constantValue := 0 }, { name := "LO_BYTE_SHIFT", type := .int, accessFlags := 26, slot := 1, constantValue := 0 }, { name := "MAX_LENGTH", type := .int, accessFlags := 24, slot := 2, constantValue := 0 }, { name := "$assertionsDisabled", type := .boolean, accessFlags := 4120, slot := 3, constantValue := 0 }]
  methods := #[k8m0, k8m1, k8m2, k8m3]
  instanceTypes := #[]
  staticTypes := #[.int, .int, .int, .boolean]
  resolved := Array.replicate 635 none
  statics := none }

def pool9 : Array CpInfo := pool [(2, .class_ 4), (1, u "java/lang/Object"), (3, .class_ 10), (1, u "com/example/breakwater/breakwater/Settings$Values"), (4, .class_ 17), (1, u "com/example/breakwater/breakwater/Settings"), (0, u "requireAtLeastOne"), (0, u "(ILjava/lang/String;)V"), (66, u "circuitRule"), (0, u "Lcom/example/breakwater/breakwater/core/CircuitRule;"), (2, u "values"), (0, u "Lcom/example/breakwater/breakwater/Settings$Values;"), (2, u "DEFAULTS"), (0, u "Lcom/example/breakwater/breakwater/Settings;")] 198

def k9c0 : Code := { maxStack := 4, maxLocals := 2, code := prog_27_method_35_code, exceptionTable := #[], attributes := #[] }
def k9m0 : Method := { name := "requireAtLeastOne", desc := "(ILjava/lang/String;)V", sig := { parameters := [.int, (.object "java/lang/String")], returnType := none }, accessFlags := 8, code := some k9c0 }
/-- com/example/breakwater/breakwater/Settings -/
def k9 : Class := { plain "com/example/breakwater/breakwater/Settings" (some 0) with
  accessFlags := 49
  interfaces := #[]
  cf := some (fileOf pool9 15 #[.nestMembers #[8]] #[{ accessFlags := 8, nameIndex := 18, descriptorIndex := 19, attributes := #[] }] 49 2 #[] #[{ accessFlags := 26, nameIndex := 94, descriptorIndex := 95, attributes := #[] }, { accessFlags := 18, nameIndex := 90, descriptorIndex := 91, attributes := #[] }, { accessFlags := 18, nameIndex := 86, descriptorIndex := 87, attributes := #[] }])
  fields := #[{ name := "DEFAULTS", type := (.object "com/example/breakwater/breakwater/Settings"), accessFlags := 26, slot := 0, constantValue := 0 }, { name := "values", type := (.object "com/example/breakwater/breakwater/Settings$Values"), accessFlags := 18, slot := 0, constantValue := 0 }, { name := "circuitRule", type := (.object "com/example/breakwater/breakwater/core/CircuitRule"), accessFlags := 18, slot := 1, constantValue := 0 }]
  methods := #[k9m0]
  instanceTypes := #[(.object "com/example/breakwater/breakwater/Settings$Values"), (.object "com/example/breakwater/breakwater/core/CircuitRule")]
  staticTypes := #[(.object "com/example/breakwater/breakwater/Settings")]
  resolved := Array.replicate 294 none
  statics := none }

def pool10 : Array CpInfo := pool [(4, .class_ 6), (1, u "java/lang/Object"), (0, u "<init>"), (0, u "()V"), (5, .class_ 16), (1, u "java/lang/StringLatin1"), (73, u "canEncode"), (14, u "(C)Z"), (15, u "$assertionsDisabled"), (0, u "Z"), (98, .class_ 223), (1, u "java/lang/StringLatin1$LinesSpliterator"), (156, u "toBytes"), (1, u "(C)[B"), (7, .class_ 391), (0, u "java/lang/StringLatin1$CharsSpliterator")] 3

def k10m0 : Method := { name := "<init>", desc := "()V", sig := { parameters := [], returnType := none }, accessFlags := 0, code := none }
def k10c1 : Code := { maxStack := 2, maxLocals := 1, code := jdk_43_method_3_code, exceptionTable := #[], attributes := #[] }
def k10m1 : Method := { name := "canEncode", desc := "(C)Z", sig := { parameters := [.char], returnType := some .boolean }, accessFlags := 9, code := some k10c1 }
def k10c2 : Code := { maxStack := 4, maxLocals := 1, code := jdk_43_method_46_code, exceptionTable := #[], attributes := #[] }
def k10m2 : Method := { name := "toBytes", desc := "(C)[B", sig := { parameters := [.char], returnType := some (.array .byte) }, accessFlags := 9, code := some k10c2 }
/-- java/lang/StringLatin1 -/
def k10 : Class := { plain "java/lang/StringLatin1" (some 0) with
  accessFlags := 48
  interfaces := #[]
  cf := some (fileOf pool10 14 #[.nestMembers #[390, 221]] #[{ accessFlags := 0, nameIndex := 7, descriptorIndex := 8, attributes := #[] }, { accessFlags := 9, nameIndex := 90, descriptorIndex := 105, attributes := #[] }, { accessFlags := 9, nameIndex := 380, descriptorIndex := 382, attributes := #[] }] 48 4 #[] #[{ accessFlags := 4120, nameIndex := 121, descriptorIndex := 122, attributes := #[] }])
  fields := #[{ name := "$assertionsDisabled", type := .boolean, accessFlags := 4120, slot := 0, constantValue := 0 }]
  methods := #[k10m0, k10m1, k10m2]
  instanceTypes := #[]
  staticTypes := #[.boolean]
  resolved := Array.replicate 395 none
  statics := none }

def pool11 : Array CpInfo := pool [(2, .class_ 4), (1, u "java/lang/Object"), (0, u "<init>"), (0, u "()V"), (17, .class_ 26), (1, u "jdk/internal/util/Preconditions"), (28, .class_ 56), (0, u "jdk/internal/util/Preconditions$4"), (57, .class_ 115), (0, u "jdk/internal/util/Preconditions$1"), (7, u "SIOOBE_FORMATTER"), (0, u "Ljava/util/function/BiFunction;"), (0, .class_ 126), (0, u "jdk/internal/util/Preconditions$2"), (3, u "AIOOBE_FORMATTER"), (0, .class_ 132), (0, u "jdk/internal/util/Preconditions$3"), (3, u "IOOBE_FORMATTER")] 57

def k11m0 : Method := { name := "<init>", desc := "()V", sig := { parameters := [], returnType := none }, accessFlags := 1, code := none }
/-- jdk/internal/util/Preconditions -/
def k11 : Class := { plain "jdk/internal/util/Preconditions" (some 0) with
  accessFlags := 33
  interfaces := #[]
  cf := some (fileOf pool11 24 #[.nestMembers #[55, 131, 125, 114]] #[{ accessFlags := 1, nameIndex := 5, descriptorIndex := 6, attributes := #[] }] 33 2 #[] #[{ accessFlags := 25, nameIndex := 123, descriptorIndex := 124, attributes := #[] }, { accessFlags := 25, nameIndex := 130, descriptorIndex := 124, attributes := #[] }, { accessFlags := 25, nameIndex := 136, descriptorIndex := 124, attributes := #[] }])
  fields := #[{ name := "SIOOBE_FORMATTER", type := (.object "java/util/function/BiFunction"), accessFlags := 25, slot := 0, constantValue := 0 }, { name := "AIOOBE_FORMATTER", type := (.object "java/util/function/BiFunction"), accessFlags := 25, slot := 1, constantValue := 0 }, { name := "IOOBE_FORMATTER", type := (.object "java/util/function/BiFunction"), accessFlags := 25, slot := 2, constantValue := 0 }]
  methods := #[k11m0]
  instanceTypes := #[]
  staticTypes := #[(.object "java/util/function/BiFunction"), (.object "java/util/function/BiFunction"), (.object "java/util/function/BiFunction")]
  resolved := Array.replicate 194 none
  statics := some 1 }

def pool12 : Array CpInfo := pool [(9, u "<init>"), (6, .class_ 18), (1, u "java/lang/Object"), (0, u "()V"), (1, .class_ 23), (1, u "jdk/internal/util/ArraysSupport"), (0, u "LOG2_ARRAY_LONG_INDEX_SCALE"), (0, u "I"), (2, u "U"), (0, u "Ljdk/internal/misc/Unsafe;"), (8, u "BIG_ENDIAN"), (0, u "Z"), (8, u "LOG2_BYTE_BIT_SIZE"), (4, u "LOG2_ARRAY_INT_INDEX_SCALE"), (54, u "JLA"), (0, u "Ljdk/internal/access/JavaLangAccess;"), (11, u "LOG2_ARRAY_BOOLEAN_INDEX_SCALE"), (9, u "LOG2_ARRAY_BYTE_INDEX_SCALE"), (5, u "LOG2_ARRAY_CHAR_INDEX_SCALE"), (5, u "LOG2_ARRAY_SHORT_INDEX_SCALE"), (18, u "LOG2_ARRAY_FLOAT_INDEX_SCALE"), (24, u "LOG2_ARRAY_DOUBLE_INDEX_SCALE"), (89, u "T_BOOLEAN"), (2, u "T_CHAR"), (1, u "T_FLOAT"), (1, u "T_DOUBLE"), (1, u "T_BYTE"), (1, u "T_SHORT"), (1, u "T_INT"), (1, u "T_LONG"), (1, u "SOFT_MAX_ARRAY_LENGTH")] 83

def k12m0 : Method := { name := "<init>", desc := "()V", sig := { parameters := [], returnType := none }, accessFlags := 2, code := none }
/-- jdk/internal/util/ArraysSupport -/
def k12 : Class := { plain "jdk/internal/util/ArraysSupport" (some 0) with
  accessFlags := 33
  interfaces := #[]
  cf := some (fileOf pool12 21 #[] #[{ accessFlags := 2, nameIndex := 9, descriptorIndex := 19, attributes := #[] }] 33 16 #[] #[{ accessFlags := 24, nameIndex := 28, descriptorIndex := 29, attributes := #[] }, { accessFlags := 26, nameIndex := 38, descriptorIndex := 39, attributes := #[] }, { accessFlags := 25, nameIndex := 121, descriptorIndex := 25, attributes := #[] }, { accessFlags := 25, nameIndex := 131, descriptorIndex := 25, attributes := #[] }, { accessFlags := 25, nameIndex := 137, descriptorIndex := 25, attributes := #[] }, { accessFlags := 25, nameIndex := 143, descriptorIndex := 25, attributes := #[] }, { accessFlags := 25, nameIndex := 53, descriptorIndex := 25, attributes := #[] }, { accessFlags := 25, nameIndex := 24, descriptorIndex := 25, attributes := #[] }, { accessFlags := 25, nameIndex := 162, descriptorIndex := 25, attributes := #[] }, { accessFlags := 25, nameIndex := 187, descriptorIndex := 25, attributes := #[] }, { accessFlags := 26, nameIndex := 48, descriptorIndex := 25, attributes := #[] }, { accessFlags := 25, nameIndex := 277, descriptorIndex := 25, attributes := #[] }, { accessFlags := 25, nameIndex := 280, descriptorIndex := 25, attributes := #[] }, { accessFlags := 25, nameIndex := 282, descriptorIndex := 25, attributes := #[] }, { accessFlags := 25, nameIndex := 284, descriptorIndex := 25, attributes := #[] }, { accessFlags := 25, nameIndex := 286, descriptorIndex := 25, attributes := #[] }, { accessFlags := 25, nameIndex := 288, descriptorIndex := 25, attributes := #[] }, { accessFlags := 25, nameIndex := 290, descriptorIndex := 25, attributes := #[] }, { accessFlags := 25, nameIndex := 292, descriptorIndex := 25, attributes := #[] }, { accessFlags := 26, nameIndex := 108, descriptorIndex := 109, attributes := #[] }, { accessFlags := 25, nameIndex := 294, descriptorIndex := 25, attributes := #[] }])
  fields := #[{ name := "U", type := (.object "jdk/internal/misc/Unsafe"), accessFlags := 24, slot := 0, constantValue := 0 }, { name := "BIG_ENDIAN", type := .boolean, accessFlags := 26, slot := 1, constantValue := 0 }, { name := "LOG2_ARRAY_BOOLEAN_INDEX_SCALE", type := .int, accessFlags := 25, slot := 2, constantValue := 0 }, { name := "LOG2_ARRAY_BYTE_INDEX_SCALE", type := .int, accessFlags := 25, slot := 3, constantValue := 0 }, { name := "LOG2_ARRAY_CHAR_INDEX_SCALE", type := .int, accessFlags := 25, slot := 4, constantValue := 0 }, { name := "LOG2_ARRAY_SHORT_INDEX_SCALE", type := .int, accessFlags := 25, slot := 5, constantValue := 0 }, { name := "LOG2_ARRAY_INT_INDEX_SCALE", type := .int, accessFlags := 25, slot := 6, constantValue := 0 }, { name := "LOG2_ARRAY_LONG_INDEX_SCALE", type := .int, accessFlags := 25, slot := 7, constantValue := 0 }, { name := "LOG2_ARRAY_FLOAT_INDEX_SCALE", type := .int, accessFlags := 25, slot := 8, constantValue := 0 }, { name := "LOG2_ARRAY_DOUBLE_INDEX_SCALE", type := .int, accessFlags := 25, slot := 9, constantValue := 0 }, { name := "LOG2_BYTE_BIT_SIZE", type := .int, accessFlags := 26, slot := 10, constantValue := 0 }, { name := "T_BOOLEAN", type := .int, accessFlags := 25, slot := 11, constantValue := 0 }, { name := "T_CHAR", type := .int, accessFlags := 25, slot := 12, constantValue := 0 }, { name := "T_FLOAT", type := .int, accessFlags := 25, slot := 13, constantValue := 0 }, { name := "T_DOUBLE", type := .int, accessFlags := 25, slot := 14, constantValue := 0 }, { name := "T_BYTE", type := .int, accessFlags := 25, slot := 15, constantValue := 0 }, { name := "T_SHORT", type := .int, accessFlags := 25, slot := 16, constantValue := 0 }, { name := "T_INT", type := .int, accessFlags := 25, slot := 17, constantValue := 0 }, { name := "T_LONG", type := .int, accessFlags := 25, slot := 18, constantValue := 0 }, { name := "JLA", type := (.object "jdk/internal/access/JavaLangAccess"), accessFlags := 26, slot := 19, constantValue := 0 }, { name := "SOFT_MAX_ARRAY_LENGTH", type := .int, accessFlags := 25, slot := 20, constantValue := 0 }]
  methods := #[k12m0]
  instanceTypes := #[]
  staticTypes := #[(.object "jdk/internal/misc/Unsafe"), .boolean, .int, .int, .int, .int, .int, .int, .int, .int, .int, .int, .int, .int, .int, .int, .int, .int, .int, (.object "jdk/internal/access/JavaLangAccess"), .int]
  resolved := Array.replicate 378 none
  statics := none }

def pool13 : Array CpInfo := pool [(1, u "java/lang/Cloneable"), (0, .class_ 1), (0, u "java/lang/Object"), (0, .class_ 3)] 3

/-- java/lang/Cloneable -/
def k13 : Class := { plain "java/lang/Cloneable" (some 0) with
  accessFlags := 1537
  interfaces := #[]
  cf := some (fileOf pool13 2 #[] #[] 1537 4 #[] #[])
  fields := #[]
  methods := #[]
  instanceTypes := #[]
  staticTypes := #[]
  resolved := Array.replicate 8 none
  statics := none }

/-- the primitive byte -/
def k14 : Class := { plain "byte" none with kind := .primitive 'B', accessFlags := 0x411 }
/-- [B -/
def k15 : Class := { plain "[B" (some 0) with kind := .array 14 .byte, interfaces := #[13, 2], accessFlags := 1041 }

/-- the primitive char -/
def k16 : Class := { plain "char" none with kind := .primitive 'C', accessFlags := 0x411 }
/-- [C -/
def k17 : Class := { plain "[C" (some 0) with kind := .array 16 .char, interfaces := #[13, 2], accessFlags := 1041 }

/-- the primitive int -/
def k18 : Class := { plain "int" none with kind := .primitive 'I', accessFlags := 0x411 }
/-- [I -/
def k19 : Class := { plain "[I" (some 0) with kind := .array 18 .int, interfaces := #[13, 2], accessFlags := 1041 }

def heap : Heap := #[{ cls := 7, slots := #[.long 0, .int 1, .null, .int 0, .null, .int 0, .int 0], vm := .statics 7 },
  { cls := 11, slots := #[.null, .null, .null], vm := .statics 11 }]
def classes : Array Class := #[k0, k1, k2, k3, k4, k5, k6, k7, k8, k9, k10, k11, k12, k13, k14, k15, k16, k17, k18, k19]
def interned : List (Array UInt16 × Addr) := []
def slotsUsed : Nat := 10
def theMethod : MethodId := ⟨1, 1⟩
def args0 : Array Value := #[.int 65, .int 65, .int 65, .int 65, .int 65]
def aboutOver (below : List Frame) : State where
  vm := { classes := classes, interned := interned.toArray }
  heap := heap
  slotsUsed := slotsUsed
  threads := #[{ frames := .invoking theMethod args0 :: below }]
def below0 : List Frame := [.native { method := ⟨0, 0⟩, args := #[] }]
def about1 : State := aboutOver below0
def p0 : Program := .bare "" "" ""
def e0 : Env := launch0.env 0 0 0
theorem w_frames : about1.frames = Frame.invoking theMethod args0 :: below0 := rfl
set_option maxRecDepth 65536 in
theorem w_args : argsFit about1.vm theMethod args0 = true := by decide +kernel
set_option maxRecDepth 65536 in
theorem w_heap : heapFits about1 = true := by decide +kernel
set_option maxRecDepth 65536 in
theorem w_runnable : about1.curStatus? = some .runnable := by decide +kernel
set_option maxRecDepth 65536 in
theorem w_alone : about1.alone = true := by decide +kernel
set_option maxRecDepth 65536 in
theorem w_named : about1.methodNamed? x = some theMethod := by decide +kernel
set_option maxRecDepth 65536 in
theorem w_hears : about1.hears theMethod below0 = true := by decide +kernel
set_option maxRecDepth 65536 in
theorem w_ripe : about1.ripe theMethod args0 below0 = true := by decide +kernel
theorem w_running : about1.status = .running := rfl
set_option maxRecDepth 65536 in
theorem w_room : about1.hasRoom e0.platform room_1 = true :=
  launch0.hasRoom_least _ room_1 (by decide +kernel) (by decide +kernel) (by decide +kernel) (by decide +kernel) (by decide +kernel) (by decide +kernel)
theorem allAtoms_all (ts : List Jvm.Cond) (a : Array Jvm.Value) (st : Jvm.State) : (allAtoms ts).before a st = ts.all (fun c => c.before a st) := by
  induction ts with
  | nil => rfl
  | cons c t ih =>
    show (Jvm.Cond.and c (allAtoms t)).before a st = _
    rw [Jvm.Cond.before_and, ih, List.all_cons]
def words1 : List Jvm.Cond := Jvm.Cond.code x code maxLocals ret :: tables_1
/-- a 'code' word, met by the world's own term for the bytes: nothing is compared byte by byte -/
theorem code_word {y : MethodName} {bytes : ByteArray} {mx : Nat} {rt : Option FieldType} {a : Array Value} {s : State} {m : MethodId} {meth : Method} {c : Code} (h1 : s.methodNamed? y = some m) (h2 : s.vm.method? m = some meth) (h3 : meth.code = some c) (h4 : c.code = bytes)
    (h5 : (c.maxLocals == mx && c.exceptionTable.isEmpty && decide (c.maxStack ≤ mostOperands) && decide (meth.sig.returnType = rt) && !meth.locks && decide (parseMethodDescriptor y.desc = some meth.sig)) = true) : (Jvm.Cond.code y bytes mx rt).before a s = true := by
  simp only [Bool.and_eq_true, beq_iff_eq, Bool.not_eq_true', decide_eq_true_eq] at h5
  obtain ⟨⟨⟨⟨⟨g1, g2⟩, g3⟩, g4⟩, g5⟩, g6⟩ := h5
  simp [Cond.before, Cond.holds, Cond.value, h1, h2, h3, h4, g1, g2, g3, g4, g5, g6]
def isCode : Jvm.Cond → Bool
  | .code _ _ _ _ => true
  | _ => false
theorem all_split {L : List Jvm.Cond} {P : Jvm.Cond → Bool} (h1 : L.all (fun c => isCode c || P c) = true) (h2 : ∀ c ∈ L.filter isCode, P c = true) : L.all P = true := by
  refine List.all_eq_true.mpr fun c hc => ?_
  have h := List.all_eq_true.mp h1 c hc
  rcases Bool.eq_false_or_eq_true (isCode c) with hi | hi
  · exact h2 c (List.mem_filter.mpr ⟨hc, hi⟩)
  · simpa [hi] using h
set_option maxRecDepth 65536 in
theorem w_c0 : (Jvm.Cond.code x code maxLocals ret).before args0 about1 = true := code_word (m := ⟨1, 1⟩) (meth := k1m1) (c := k1c1) (by decide +kernel) rfl rfl rfl (by decide +kernel)
set_option maxRecDepth 65536 in
theorem w_c1 : (Jvm.Cond.code ({ cls := "com/example/breakwater/breakwater/SettingsRequireAtLeastOnePinLaw", name := "name", desc := "(IIII)Ljava/lang/String;" } : Jvm.MethodName) method_3_code (7 : Nat) (Option.some (Jvm.ClassFile.FieldType.object "java/lang/String"))).before args0 about1 = true := code_word (m := ⟨1, 2⟩) (meth := k1m2) (c := k1c2) (by decide +kernel) rfl rfl rfl (by decide +kernel)
set_option maxRecDepth 65536 in
theorem w_c2 : (Jvm.Cond.code ({ cls := "java/lang/String", name := "<init>", desc := "([C)V" } : Jvm.MethodName) jdk_42_method_3_code (2 : Nat) (Option.none : Option Jvm.ClassFile.FieldType)).before args0 about1 = true := code_word (m := ⟨7, 1⟩) (meth := k7m1) (c := k7c1) (by decide +kernel) rfl rfl rfl (by decide +kernel)
set_option maxRecDepth 65536 in
theorem w_c3 : (Jvm.Cond.code ({ cls := "java/lang/String", name := "<init>", desc := "([CIILjava/lang/Void;)V" } : Jvm.MethodName) jdk_42_method_149_code (6 : Nat) (Option.none : Option Jvm.ClassFile.FieldType)).before args0 about1 = true := code_word (m := ⟨7, 3⟩) (meth := k7m3) (c := k7c3) (by decide +kernel) rfl rfl rfl (by decide +kernel)
set_option maxRecDepth 65536 in
theorem w_c4 : (Jvm.Cond.code ({ cls := "java/lang/Object", name := "<init>", desc := "()V" } : Jvm.MethodName) object_method_1_code (1 : Nat) (Option.none : Option Jvm.ClassFile.FieldType)).before args0 about1 = true := code_word (m := ⟨0, 0⟩) (meth := k0m0) (c := k0c0) (by decide +kernel) rfl rfl rfl (by decide +kernel)
set_option maxRecDepth 65536 in
theorem w_c5 : (Jvm.Cond.code ({ cls := "java/lang/StringUTF16", name := "compress", desc := "([CII)[B" } : Jvm.MethodName) jdk_52_method_16_code (6 : Nat) (Option.some (Jvm.ClassFile.FieldType.array Jvm.ClassFile.FieldType.byte))).before args0 about1 = true := code_word (m := ⟨8, 2⟩) (meth := k8m2) (c := k8c2) (by decide +kernel) rfl rfl rfl (by decide +kernel)
set_option maxRecDepth 65536 in
theorem w_c6 : (Jvm.Cond.code ({ cls := "java/lang/StringUTF16", name := "compress", desc := "([CI[BII)I" } : Jvm.MethodName) jdk_52_method_21_code (7 : Nat) (Option.some Jvm.ClassFile.FieldType.int)).before args0 about1 = true := code_word (m := ⟨8, 3⟩) (meth := k8m3) (c := k8c3) (by decide +kernel) rfl rfl rfl (by decide +kernel)
set_option maxRecDepth 65536 in
theorem w_c7 : (Jvm.Cond.code ({ cls := "java/lang/StringUTF16", name := "coderFromArrayLen", desc := "([BI)B" } : Jvm.MethodName) jdk_52_method_15_code (2 : Nat) (Option.some Jvm.ClassFile.FieldType.byte)).before args0 about1 = true := code_word (m := ⟨8, 1⟩) (meth := k8m1) (c := k8c1) (by decide +kernel) rfl rfl rfl (by decide +kernel)
set_option maxRecDepth 65536 in
theorem w_c8 : (Jvm.Cond.code ({ cls := "com/example/breakwater/breakwater/Settings", name := "requireAtLeastOne", desc := "(ILjava/lang/String;)V" } : Jvm.MethodName) prog_27_method_35_code (2 : Nat) (Option.none : Option Jvm.ClassFile.FieldType)).before args0 about1 = true := code_word (m := ⟨9, 0⟩) (meth := k9m0) (c := k9c0) (by decide +kernel) rfl rfl rfl (by decide +kernel)
set_option maxRecDepth 65536 in
theorem w_c9 : (Jvm.Cond.code ({ cls := "java/lang/String", name := "valueOf", desc := "(C)Ljava/lang/String;" } : Jvm.MethodName) jdk_42_method_139_code (1 : Nat) (Option.some (Jvm.ClassFile.FieldType.object "java/lang/String"))).before args0 about1 = true := code_word (m := ⟨7, 2⟩) (meth := k7m2) (c := k7c2) (by decide +kernel) rfl rfl rfl (by decide +kernel)
set_option maxRecDepth 65536 in
theorem w_c10 : (Jvm.Cond.code ({ cls := "java/lang/StringLatin1", name := "canEncode", desc := "(C)Z" } : Jvm.MethodName) jdk_43_method_3_code (1 : Nat) (Option.some Jvm.ClassFile.FieldType.boolean)).before args0 about1 = true := code_word (m := ⟨10, 1⟩) (meth := k10m1) (c := k10c1) (by decide +kernel) rfl rfl rfl (by decide +kernel)
set_option maxRecDepth 65536 in
theorem w_c11 : (Jvm.Cond.code ({ cls := "java/lang/StringLatin1", name := "toBytes", desc := "(C)[B" } : Jvm.MethodName) jdk_43_method_46_code (1 : Nat) (Option.some (Jvm.ClassFile.FieldType.array Jvm.ClassFile.FieldType.byte))).before args0 about1 = true := code_word (m := ⟨10, 2⟩) (meth := k10m2) (c := k10c2) (by decide +kernel) rfl rfl rfl (by decide +kernel)
set_option maxRecDepth 65536 in
theorem w_c12 : (Jvm.Cond.code ({ cls := "java/lang/String", name := "<init>", desc := "([BB)V" } : Jvm.MethodName) jdk_42_method_151_code (3 : Nat) (Option.none : Option Jvm.ClassFile.FieldType)).before args0 about1 = true := code_word (m := ⟨7, 4⟩) (meth := k7m4) (c := k7c4) (by decide +kernel) rfl rfl rfl (by decide +kernel)
def codes1 : List Jvm.Cond := [Jvm.Cond.code x code maxLocals ret, Jvm.Cond.code ({ cls := "com/example/breakwater/breakwater/SettingsRequireAtLeastOnePinLaw", name := "name", desc := "(IIII)Ljava/lang/String;" } : Jvm.MethodName) method_3_code (7 : Nat) (Option.some (Jvm.ClassFile.FieldType.object "java/lang/String")), Jvm.Cond.code ({ cls := "java/lang/String", name := "<init>", desc := "([C)V" } : Jvm.MethodName) jdk_42_method_3_code (2 : Nat) (Option.none : Option Jvm.ClassFile.FieldType), Jvm.Cond.code ({ cls := "java/lang/String", name := "<init>", desc := "([CIILjava/lang/Void;)V" } : Jvm.MethodName) jdk_42_method_149_code (6 : Nat) (Option.none : Option Jvm.ClassFile.FieldType), Jvm.Cond.code ({ cls := "java/lang/Object", name := "<init>", desc := "()V" } : Jvm.MethodName) object_method_1_code (1 : Nat) (Option.none : Option Jvm.ClassFile.FieldType), Jvm.Cond.code ({ cls := "java/lang/StringUTF16", name := "compress", desc := "([CII)[B" } : Jvm.MethodName) jdk_52_method_16_code (6 : Nat) (Option.some (Jvm.ClassFile.FieldType.array Jvm.ClassFile.FieldType.byte)), Jvm.Cond.code ({ cls := "java/lang/StringUTF16", name := "compress", desc := "([CI[BII)I" } : Jvm.MethodName) jdk_52_method_21_code (7 : Nat) (Option.some Jvm.ClassFile.FieldType.int), Jvm.Cond.code ({ cls := "java/lang/StringUTF16", name := "coderFromArrayLen", desc := "([BI)B" } : Jvm.MethodName) jdk_52_method_15_code (2 : Nat) (Option.some Jvm.ClassFile.FieldType.byte), Jvm.Cond.code ({ cls := "com/example/breakwater/breakwater/Settings", name := "requireAtLeastOne", desc := "(ILjava/lang/String;)V" } : Jvm.MethodName) prog_27_method_35_code (2 : Nat) (Option.none : Option Jvm.ClassFile.FieldType), Jvm.Cond.code ({ cls := "java/lang/String", name := "valueOf", desc := "(C)Ljava/lang/String;" } : Jvm.MethodName) jdk_42_method_139_code (1 : Nat) (Option.some (Jvm.ClassFile.FieldType.object "java/lang/String")), Jvm.Cond.code ({ cls := "java/lang/StringLatin1", name := "canEncode", desc := "(C)Z" } : Jvm.MethodName) jdk_43_method_3_code (1 : Nat) (Option.some Jvm.ClassFile.FieldType.boolean), Jvm.Cond.code ({ cls := "java/lang/StringLatin1", name := "toBytes", desc := "(C)[B" } : Jvm.MethodName) jdk_43_method_46_code (1 : Nat) (Option.some (Jvm.ClassFile.FieldType.array Jvm.ClassFile.FieldType.byte)), Jvm.Cond.code ({ cls := "java/lang/String", name := "<init>", desc := "([BB)V" } : Jvm.MethodName) jdk_42_method_151_code (3 : Nat) (Option.none : Option Jvm.ClassFile.FieldType)]
set_option maxRecDepth 65536 in
theorem codes_eq : words1.filter isCode = codes1 := rfl
theorem w_codes : ∀ c ∈ words1.filter isCode, c.before args0 about1 = true := by
  rw [codes_eq]
  intro c hc
  simp only [codes1, List.mem_cons, List.not_mem_nil, or_false] at hc
  rcases hc with rfl | rfl | rfl | rfl | rfl | rfl | rfl | rfl | rfl | rfl | rfl | rfl | rfl
  · exact w_c0
  · exact w_c1
  · exact w_c2
  · exact w_c3
  · exact w_c4
  · exact w_c5
  · exact w_c6
  · exact w_c7
  · exact w_c8
  · exact w_c9
  · exact w_c10
  · exact w_c11
  · exact w_c12
set_option maxRecDepth 65536 in
theorem w_t1 : (words1.take 24).all (fun c => isCode c || c.before args0 about1) = true := by decide +kernel
set_option maxRecDepth 65536 in
theorem w_t2 : ((words1.drop 24).take 24).all (fun c => isCode c || c.before args0 about1) = true := by decide +kernel
set_option maxRecDepth 65536 in
theorem w_t3 : ((words1.drop 24).drop 24).all (fun c => isCode c || c.before args0 about1) = true := by decide +kernel
theorem w_tables : (allAtoms (Jvm.Cond.code x code maxLocals ret :: tables_1)).before args0 about1 = true := by
  rw [allAtoms_all]
  show words1.all (fun c => c.before args0 about1) = true
  refine all_split ?_ w_codes
  rw [← List.take_append_drop 24 words1, List.all_append, w_t1, ← List.take_append_drop 24 (words1.drop 24), List.all_append, w_t2, w_t3]
  rfl
set_option maxRecDepth 65536 in
theorem w_rest : rest_1_c.before args0 about1 = true := by decide +kernel
set_option maxRecDepth 65536 in
theorem w_case : (Jvm.Cond.and given_1 narrow_1).before args0 about1 = true := by decide +kernel
set_option maxRecDepth 65536 in
theorem w_consts : constsHeld consts_1 about1 := Jvm.Lit.constsHeldB_iff.mp (by decide +kernel)
theorem w_applies : (headSpec (Jvm.Cond.code x code maxLocals ret :: tables_1) room_1).applies x e0.platform about1 = true :=
  (Spec.applies_iff w_frames).mpr ⟨w_running, w_runnable, w_alone, w_named, w_hears, w_ripe, w_room, w_tables⟩
theorem atStart : AtStart classFile x code maxLocals ret World_1 tables_1 room_1 Calls_1 rest_1 Pre_1 launch0 p0 e0 about1 theMethod args0 below0 :=
  ⟨lists_1, trivial, launch0.admits_env _ _ _, launch0.least_env, fairChoices_fair.cas, fairChoices_fair.clock, w_frames, w_args, w_heap, w_applies, ⟨w_consts, trivial⟩, w_rest, w_case⟩
end start1
theorem witness_1 : WitnessClaimed_1 := ⟨start1.p0, start1.e0, start1.about1, start1.theMethod, start1.args0, start1.below0, start1.atStart⟩
end Jvm.Pilot.@@N@@
