import JvmDerived
import JvmDerived.Pilot.@@N@@Statement
import JvmDerived.Pilot.@@N@@Code
set_option linter.unusedVariables false
set_option linter.unusedSimpArgs false
namespace Jvm.RoadKit
open Sem ClassFile Op Lib Jvm.Stand Jvm.Free Jvm.LawKit
section Own
variable {p : Program} {l : Launch} {e : Env} {R : Room} {s : State} {m : MethodId} {args : Array Value} {below : List Frame} {meth : Method} {c : Code} {T : State} {locs : List Loc} {cells slots : Nat}
theorem retI (X : Stand p l e R s m args below meth c T locs cells slots) (hx : p.tables.exec = Jvm.exec) {pc : Nat} {Ls : Array Slot} {z : Int32} {rest : List Value} (hret : meth.sig.returnType = some .int) (hd : decode c.code pc = .ok (.ireturn, 1)) {fs : List Frame}
    (hl : ∀ (f : JFrame) (acts : List Action), f.method = m → f.locked = none → f.entered = [] → (doReturn e (T.setTop f) acts (some (.int z))).1 = T.setFrames fs) : Steps p.tables e below (T.setTop (mkF m pc Ls (.int z :: rest))) (T.setFrames fs) :=
  retOut X hx hret rfl (Or.inl ⟨rfl, Or.inl rfl, z, rfl⟩) hd hl
theorem lremM {g : JFrame} {target : State} (X : Stand p l e R s m args below meth c T locs cells slots) (hx : p.tables.exec = Jvm.exec) (hg : g.method = m) {x y : Int64} {rest : List Value} (hd : decode c.code g.pc = .ok (.lrem, 1)) (hs : g.stack = .long y :: .long x :: rest) (hy : y ≠ 0)
    (hr : Steps p.tables e below (T.setTop { g with pc := g.pc + 1, stack := .long (x % y) :: rest }) target) : Steps p.tables e below (T.setTop g) target :=
  XS.lrem X.here hx hg hd hs hy (by rw [lrem_mod]; exact hr)
/-- the walk from S on ends in a return of which Q holds -/
def Goes (p : Program) (e : Env) (below : List Frame) (s : State) (k n : Nat) (Q : Option Value → Heap → List Loc → Prop) (S : State) : Prop :=
  ∃ t o, Steps p.tables e below S t ∧ t.status = .running ∧ Ended t below o ∧ ∃ v L, o = .returned v ∧ Q v t.heap L ∧ FrameEnd s o t L k n
variable {kc kn : Nat} {Q : Option Value → Heap → List Loc → Prop}
theorem Goes.step {A B : State} (h : ∀ t, Steps p.tables e below B t → Steps p.tables e below A t) (g : Goes p e below s kc kn Q B) : Goes p e below s kc kn Q A := by
  obtain ⟨t, o, h1, h2⟩ := g; exact ⟨t, o, h t h1, h2⟩
theorem Goes.to {A B : State} (h : Steps p.tables e below A B) (g : Goes p e below s kc kn Q B) : Goes p e below s kc kn Q A := by
  obtain ⟨t, o, h1, h2⟩ := g; exact ⟨t, o, h.trans h1, h2⟩
theorem Goes.out (X : Stand p l e R s m args below meth c T locs cells slots) {g : JFrame} {v : Option Value} (hlk : meth.locks = false) (hv : meth.sig.returnType = none → v = none)
    (hs : ∀ fs : List Frame, (∀ (f : JFrame) (acts : List Action), f.method = m → f.locked = none → f.entered = [] → (doReturn e (T.setTop f) acts v).1 = T.setFrames fs) → Steps p.tables e below (T.setTop g) (T.setFrames fs))
    (hq : Q v T.heap locs) (hk : cells ≤ kc) (hn : slots ≤ kn) : Goes p e below s kc kn Q (T.setTop g) := by
  obtain ⟨fs, hr, hrun, hended, hW, hsame⟩ := X.leave (v := v) hv hlk
  exact ⟨_, _, hs fs hr, hrun, hended, v, locs, rfl, hq, ⟨_, rfl⟩, hW, hsame.mono hk hn⟩
theorem Goes.retI (X : Stand p l e R s m args below meth c T locs cells slots) (hx : p.tables.exec = Jvm.exec) (hlk : meth.locks = false) {pc : Nat} {Ls : Array Slot} {z : Int32} {rest : List Value} (hret : meth.sig.returnType = some .int) (hd : decode c.code pc = .ok (.ireturn, 1))
    (hq : Q (some (.int z)) T.heap locs) (hk : cells ≤ kc) (hn : slots ≤ kn) : Goes p e below s kc kn Q (T.setTop (mkF m pc Ls (.int z :: rest))) :=
  Goes.out X hlk (fun h => by rw [hret] at h; cases h) (fun fs hr => Jvm.RoadKit.retI X hx hret hd hr) hq hk hn
theorem Goes.retN (X : Stand p l e R s m args below meth c T locs cells slots) (hx : p.tables.exec = Jvm.exec) (hlk : meth.locks = false) {pc : Nat} {Ls : Array Slot} {z : Int32} {t : FieldType} {rest : List Value} (hret : meth.sig.returnType = some t) (ht : t = .boolean ∨ t = .byte ∨ t = .char ∨ t = .short) (hd : decode c.code pc = .ok (.ireturn, 1))
    (hq : Q (some (.int (nar t z))) T.heap locs) (hk : cells ≤ kc) (hn : slots ≤ kn) : Goes p e below s kc kn Q (T.setTop (mkF m pc Ls (.int z :: rest))) :=
  Goes.out X hlk (fun h => by rw [hret] at h; cases h) (fun fs hr => Jvm.RoadKit.retN X hx hret ht hd hr) hq hk hn
theorem Goes.retJ (X : Stand p l e R s m args below meth c T locs cells slots) (hx : p.tables.exec = Jvm.exec) (hlk : meth.locks = false) {pc : Nat} {Ls : Array Slot} {z : Int64} {rest : List Value} (hret : meth.sig.returnType = some .long) (hd : decode c.code pc = .ok (.lreturn, 1))
    (hq : Q (some (.long z)) T.heap locs) (hk : cells ≤ kc) (hn : slots ≤ kn) : Goes p e below s kc kn Q (T.setTop (mkF m pc Ls (.long z :: rest))) :=
  Goes.out X hlk (fun h => by rw [hret] at h; cases h) (fun fs hr => retOut X hx hret rfl (Or.inr (Or.inl ⟨rfl, rfl, z, rfl⟩)) hd hr) hq hk hn
theorem Goes.retR (X : Stand p l e R s m args below meth c T locs cells slots) (hx : p.tables.exec = Jvm.exec) (hlk : meth.locks = false) {pc : Nat} {Ls : Array Slot} {w : Value} {t : FieldType} {rest : List Value} (hret : meth.sig.returnType = some t) (ht : t.isReference = true) (hw : w.isRef = true) (hn' : narrow t w = w) (hd : decode c.code pc = .ok (.areturn, 1))
    (hq : Q (some w) T.heap locs) (hk : cells ≤ kc) (hn : slots ≤ kn) : Goes p e below s kc kn Q (T.setTop (mkF m pc Ls (w :: rest))) :=
  Goes.out X hlk (fun h => by rw [hret] at h; cases h) (fun fs hr => retOut X hx hret hn' (Or.inr (Or.inr (Or.inr (Or.inr ⟨rfl, ht, hw⟩)))) hd hr) hq hk hn
theorem Goes.retV (X : Stand p l e R s m args below meth c T locs cells slots) (hx : p.tables.exec = Jvm.exec) (hlk : meth.locks = false) {pc : Nat} {Ls : Array Slot} (hret : meth.sig.returnType = none) (hd : decode c.code pc = .ok (.return_, 1))
    (hq : Q none T.heap locs) (hk : cells ≤ kc) (hn : slots ≤ kn) : Goes p e below s kc kn Q (T.setTop (mkF m pc Ls [])) :=
  Goes.out X hlk (fun _ => rfl) (fun fs hr => X.returnOut hx hret hd hr) hq hk hn
theorem Goes.enter {s₁ : State} {maxL : Nat} {g : JFrame} (h : entryFrame m args maxL = g) (k : Goes p e below s kc kn Q (s₁.setTop g)) :
    ∃ t o, Steps p.tables e below (s₁.setTop (entryFrame m args maxL)) t ∧ t.status = .running ∧ Ended t below o ∧ ∃ v L, o = .returned v ∧ Q v t.heap L ∧ FrameEnd s o t L kc kn := by rw [h]; exact k
theorem nm0 {b : Addr} : b ∉ ([] : List Addr) := List.not_mem_nil
theorem nm1 {b a : Addr} (h : b ≠ a) : b ∉ [a] := fun q => h (List.mem_singleton.mp q)
theorem nm2 {b a a' : Addr} (h : b ≠ a) (h' : b ≠ a') : b ∉ [a, a'] := fun q => (List.mem_cons.mp q).elim h (fun q => h' (List.mem_singleton.mp q))
theorem nm3 {b a a' a'' : Addr} (h : b ≠ a) (h' : b ≠ a') (h'' : b ≠ a'') : b ∉ [a, a', a''] := fun q => (List.mem_cons.mp q).elim h (fun q => nm2 h' h'' q)
theorem Sta.keepN {Z : State} {h h' : Heap} {C n d : String} {v : Value} {ws : List Addr} (F : Sta Z h C n d v) (K : Keep h h' ws) (hn : ∀ a ∈ ws, ∀ cell : Cell, h[a]? = some cell → cell.vm.isStatics = false) : Sta Z h' C n d v := by
  obtain ⟨cf, i, k, f, st, cell, h1, h2, h3, h4, h5, h6, r⟩ := F
  exact ⟨cf, i, k, f, st, cell, h1, h2, h3, h4, K.2.1 st cell h5 (fun q => by have := hn st q cell h5; rw [h6] at this; cases this), h6, r⟩
theorem Exa.plainN {Z : State} {h : Heap} {a : Addr} {C : String} (E : Exa Z h a C) : ∀ cell : Cell, h[a]? = some cell → cell.vm.isStatics = false := fun cell q => by
  obtain ⟨c, k, h1, h2, h3, h4, h5⟩ := E; cases h1.symm.trans q; exact h4
theorem Arv.plainN {Z : State} {h : Heap} {a : Addr} {k : ClassId} {ty : FieldType} {z : Int32} {vs : List Value} {d : Value} (A : Arv Z h a k ty z vs d) : ∀ cell : Cell, h[a]? = some cell → cell.vm.isStatics = false := fun cell q => by
  obtain ⟨c, A, r⟩ := A; cases A.1.symm.trans q; exact A.plain
end Own
end Jvm.RoadKit
namespace Jvm.Pilot.@@N@@
open Jvm Jvm.ClassFile Sem Op Lib Jvm.Free Jvm.Stand Jvm.LawKit Jvm.RoadKit Bundle Jvm.Pilot.@@N@@.Jvm.D
theorem d_jdk_30_method_1_code_0 : decode jdk_30_method_1_code 0 = .ok (.aload_n 0, 1) := by decide +kernel
theorem d_jdk_30_method_1_code_1 : decode jdk_30_method_1_code 1 = .ok (.invokespecial 1, 3) := by decide +kernel
theorem d_jdk_30_method_1_code_4 : decode jdk_30_method_1_code 4 = .ok (.return_, 1) := by decide +kernel
def own_rec_Q (Z : State) (o0 : Addr)  (h0 : Heap) (n0 : Nat) (v : Option Value) (h : Heap) (L : List Loc) : Prop := v = none ∧ Fr n0 L ∧ h = h0
theorem own_rec_ef (m : MethodId) (o0 : Addr) : entryFrame m #[(.ref o0)] 1 = mkF m 0 #[.val (.ref o0)] [] := by first | (simp [entryFrame, mkF, argsToLocals, Value.category]; done) | rfl
theorem pn_Record : plainName "java/lang/Record" = true := by first | (simp [plainName, overriddenIn]; done) | decide +kernel
set_option maxRecDepth 65536 in
set_option maxHeartbeats 40000000 in
theorem own_rec_rm (l : Launch) (Z : State) (a0 : Array Value) (hw : ∀ d ∈ tables_1, d.before a0 Z = true) (ws : List Jvm.Cond) (o0 : Addr)  (h0 : Heap) (n0 : Nat) (Z0 : n0 ≤ h0.size)  :
    MetFree l (⟨"java/lang/Record", "<init>", "()V"⟩ : MethodName) (head1 (Jvm.Cond.code (⟨"java/lang/Record", "<init>", "()V"⟩ : MethodName) jdk_30_method_1_code 1 none :: ws) ({ frames := 1, cells := 0, slots := 0, locals := 12 } : Room)) (fun a U => a = #[(.ref o0)] ∧ Z.Warmed39 U.vm ∧ U.heap = h0) (fun _ _ _ _ _ => True) (fun _ U o U' => ∃ v L, o = .returned v ∧ own_rec_Q Z o0 h0 n0 v U'.heap L ∧ FrameEnd U o U' L ({ frames := 1, cells := 0, slots := 0, locals := 12 } : Room).cells ({ frames := 1, cells := 0, slots := 0, locals := 12 } : Room).slots) := by
  refine MetFree.of_bodySF (plainFor_of_name pn_Record) hisR ?_
  intro p e s m args below meth c s₁ Bd hml0 hP hK
  obtain ⟨rfl, hZ, hh⟩ := hP
  have hx := Bd.exec
  have hby := Bd.bytes
  have hml : c.maxLocals = 1 := hml0
  have hown : s.vm.findClass "java/lang/Record" = some m.cls := findClass_of_methodNamed Bd.named
  have hnm := (name_of_methodNamed Bd.named Bd.method).1
  have hlk : meth.locks = false := BodyLoose.notSynchronized Bd
  have hrt := Bd.returns
  have X0 : Stand p l e ({ frames := 1, cells := 0, slots := 0, locals := 12 } : Room) s m #[(.ref o0)] below meth c s₁ [] 0 0 := Stand.of_body Bd
  have e0 : s₁.heap = h0 := by rw [← hh, Bd.state]; rfl
  have N0 := Fr.nil n0
  refine Goes.enter (kc := ({ frames := 1, cells := 0, slots := 0, locals := 12 } : Room).cells) (kn := ({ frames := 1, cells := 0, slots := 0, locals := 12 } : Room).slots) (Q := own_rec_Q Z o0 h0 n0) (own_rec_ef m o0) ?_
  refine Goes.step (B := (s₁.setTop (mkF m 1 #[.val (.ref o0)] [(.ref o0)]))) (fun _ k => XS.aloadN X0.here hx rfl (hb hby d_jdk_30_method_1_code_0) rfl rfl k) ?_
  obtain ⟨T101, X101, e101, st101⟩ := initO X0 hx hZ hown (hw _ (List.mem_of_getElem? (i := 16) rfl)) (hw _ (List.mem_of_getElem? (i := 17) rfl)) (hw _ (List.mem_of_getElem? (i := 18) rfl)) e0 (g := (mkF m 1 #[.val (.ref o0)] [(.ref o0)])) rfl (by rw [hml]; rfl) rfl (hb hby d_jdk_30_method_1_code_1) (by decide) (W := 0) (by show 2 * 0 + _ ≤ _; exact Nat.le_of_eq rfl) (by decide)
  refine Goes.step (B := (T101.setTop (mkF m 4 #[.val (.ref o0)] []))) (fun _ k => st101 _ k) ?_
  refine Goes.retV X101 hx hlk hrt (hb hby d_jdk_30_method_1_code_4) ?_ (by decide) (by decide)
  rw [e101]
  exact ⟨rfl, N0, rfl⟩
theorem d_method_3_code_0 : decode method_3_code 0 = .ok (.lload_n 0, 1) := by decide +kernel
theorem d_method_3_code_1 : decode method_3_code 1 = .ok (.lconst 0, 1) := by decide +kernel
theorem d_method_3_code_2 : decode method_3_code 2 = .ok (.lcmp, 1) := by decide +kernel
theorem d_method_3_code_3 : decode method_3_code 3 = .ok (.ifCond .le 7, 3) := by decide +kernel
theorem d_method_3_code_6 : decode method_3_code 6 = .ok (.iconst 1, 1) := by decide +kernel
theorem d_method_3_code_7 : decode method_3_code 7 = .ok (.goto 4, 3) := by decide +kernel
theorem d_method_3_code_11 : decode method_3_code 11 = .ok (.ireturn, 1) := by decide +kernel
theorem d_method_3_code_10 : decode method_3_code 10 = .ok (.iconst 0, 1) := by decide +kernel
def own_pos_fn (u0 : Int64) : Int32 := (if (0 : Int64) < u0 then (1 : Int32) else (0 : Int32))
def own_pos_Q (Z : State) (u0 : Int64)  (h0 : Heap) (n0 : Nat) (v : Option Value) (h : Heap) (L : List Loc) : Prop := v = some (.int (own_pos_fn u0)) ∧ Fr n0 L ∧ h = h0
theorem own_pos_ef (m : MethodId) (u0 : Int64) : entryFrame m #[(.long u0)] 2 = mkF m 0 #[.val (.long u0), .second] [] := by first | (simp [entryFrame, mkF, argsToLocals, Value.category]; done) | rfl
theorem pn_FocusedTopicRelevantRetrievedPinLaw : plainName "com/example/focustat/focustat/FocusedTopicRelevantRetrievedPinLaw" = true := by first | (simp [plainName, overriddenIn]; done) | decide +kernel
set_option maxRecDepth 65536 in
set_option maxHeartbeats 40000000 in
theorem own_pos_rm (l : Launch) (Z : State) (a0 : Array Value) (hw : ∀ d ∈ tables_1, d.before a0 Z = true) (ws : List Jvm.Cond) (u0 : Int64)  (h0 : Heap) (n0 : Nat) (Z0 : n0 ≤ h0.size)  :
    MetFree l (⟨"com/example/focustat/focustat/FocusedTopicRelevantRetrievedPinLaw", "pos", "(J)I"⟩ : MethodName) (head1 (Jvm.Cond.code (⟨"com/example/focustat/focustat/FocusedTopicRelevantRetrievedPinLaw", "pos", "(J)I"⟩ : MethodName) method_3_code 2 (some .int) :: ws) ({ frames := 0, cells := 0, slots := 0, locals := 0 } : Room)) (fun a U => a = #[(.long u0)] ∧ Z.Warmed39 U.vm ∧ U.heap = h0) (fun _ _ _ _ _ => True) (fun _ U o U' => ∃ v L, o = .returned v ∧ own_pos_Q Z u0 h0 n0 v U'.heap L ∧ FrameEnd U o U' L ({ frames := 0, cells := 0, slots := 0, locals := 0 } : Room).cells ({ frames := 0, cells := 0, slots := 0, locals := 0 } : Room).slots) := by
  refine MetFree.of_bodySF (plainFor_of_name pn_FocusedTopicRelevantRetrievedPinLaw) hisR ?_
  intro p e s m args below meth c s₁ Bd hml0 hP hK
  obtain ⟨rfl, hZ, hh⟩ := hP
  have hx := Bd.exec
  have hby := Bd.bytes
  have hml : c.maxLocals = 2 := hml0
  have hown : s.vm.findClass "com/example/focustat/focustat/FocusedTopicRelevantRetrievedPinLaw" = some m.cls := findClass_of_methodNamed Bd.named
  have hnm := (name_of_methodNamed Bd.named Bd.method).1
  have hlk : meth.locks = false := BodyLoose.notSynchronized Bd
  have hrt := Bd.returns
  have X0 : Stand p l e ({ frames := 0, cells := 0, slots := 0, locals := 0 } : Room) s m #[(.long u0)] below meth c s₁ [] 0 0 := Stand.of_body Bd
  have e0 : s₁.heap = h0 := by rw [← hh, Bd.state]; rfl
  have N0 := Fr.nil n0
  refine Goes.enter (kc := ({ frames := 0, cells := 0, slots := 0, locals := 0 } : Room).cells) (kn := ({ frames := 0, cells := 0, slots := 0, locals := 0 } : Room).slots) (Q := own_pos_Q Z u0 h0 n0) (own_pos_ef m u0) ?_
  refine Goes.step (B := (s₁.setTop (mkF m 1 #[.val (.long u0), .second] [(.long u0)]))) (fun _ k => XS.lloadN X0.here hx rfl (hb hby d_method_3_code_0) rfl k) ?_
  refine Goes.step (B := (s₁.setTop (mkF m 2 #[.val (.long u0), .second] [(.long (0 : Int64)), (.long u0)]))) (fun _ k => XS.lconst X0.here hx rfl (hb hby d_method_3_code_1) k) ?_
  refine Goes.step (B := (s₁.setTop (mkF m 3 #[.val (.long u0), .second] [(.int (lcmpW u0 (0 : Int64)))]))) (fun _ k => XS.lcmp X0.here hx rfl (hb hby d_method_3_code_2) rfl k) ?_
  by_cases hc101 : (0 : Int64) < u0
  · refine Goes.step (B := (s₁.setTop (mkF m 6 #[.val (.long u0), .second] []))) (fun _ k => XS.ifNo X0.here hx rfl (hb hby d_method_3_code_3) rfl ((if0 _ _).trans (tlt ((lw_gt _ _).mpr hc101)).2.2.2) k) ?_
    refine Goes.step (B := (s₁.setTop (mkF m 7 #[.val (.long u0), .second] [(.int (1 : Int32))]))) (fun _ k => XS.iconst X0.here hx rfl (hb hby d_method_3_code_6) k) ?_
    refine Goes.step (B := (s₁.setTop (mkF m 11 #[.val (.long u0), .second] [(.int (1 : Int32))]))) (fun _ k => XS.goto X0.here hx rfl (pc0 := 7) (pc' := 11) rfl (hb hby d_method_3_code_7) (by decide) (by decide) k) ?_
    refine Goes.retI X0 hx hlk hrt (hb hby d_method_3_code_11) ?_ (by decide) (by decide)
    rw [e0]
    exact ⟨congrArg (fun z => some (Value.int z)) (show (1 : Int32) = (own_pos_fn u0) from (show (1 : Int32) = (1 : Int32) from rfl).trans (by simp only [own_pos_fn, if_pos hc101])), N0, rfl⟩
  · refine Goes.step (B := (s₁.setTop (mkF m 10 #[.val (.long u0), .second] []))) (fun _ k => XS.ifYes X0.here hx rfl (pc0 := 3) (pc' := 10) rfl (hb hby d_method_3_code_3) rfl ((if0 _ _).trans (flt (mt (lw_gt _ _).mp hc101)).2.2.2) (by decide) (by decide) k) ?_
    refine Goes.step (B := (s₁.setTop (mkF m 11 #[.val (.long u0), .second] [(.int (0 : Int32))]))) (fun _ k => XS.iconst X0.here hx rfl (hb hby d_method_3_code_10) k) ?_
    refine Goes.retI X0 hx hlk hrt (hb hby d_method_3_code_11) ?_ (by decide) (by decide)
    rw [e0]
    exact ⟨congrArg (fun z => some (Value.int z)) (show (0 : Int32) = (own_pos_fn u0) from (show (0 : Int32) = (0 : Int32) from rfl).trans (by simp only [own_pos_fn, if_neg hc101])), N0, rfl⟩
theorem d_method_2_code_0 : decode method_2_code 0 = .ok (.iload_n 0, 1) := by decide +kernel
theorem d_method_2_code_1 : decode method_2_code 1 = .ok (.ifCond .ne 7, 3) := by decide +kernel
theorem d_method_2_code_4 : decode method_2_code 4 = .ok (.iconst 0, 1) := by decide +kernel
theorem d_method_2_code_5 : decode method_2_code 5 = .ok (.newarray .long, 2) := by decide +kernel
theorem d_method_2_code_7 : decode method_2_code 7 = .ok (.areturn, 1) := by decide +kernel
def own_bl0_Q (Z : State) (q0 : Int64) (q1 : Int64) (q2 : Int64) (q3 : Int64)  (h0 : Heap) (n0 : Nat) (v : Option Value) (h : Heap) (L : List Loc) : Prop := ∃ (b : Addr), ∃ (k1 : ClassId), (v = some (.ref b)) ∧ (Fr n0 L) ∧ (Keep h0 h []) ∧ (n0 ≤ b) ∧ (h0.size ≤ b) ∧ (Arv Z h b k1 .long (0 : Int32) [] (.long (0 : Int64)))
theorem own_bl0_ef (m : MethodId) (q0 : Int64) (q1 : Int64) (q2 : Int64) (q3 : Int64) : entryFrame m #[(.int (0 : Int32)), (.long q0), (.long q1), (.long q2), (.long q3)] 9 = mkF m 0 #[.val (.int (0 : Int32)), .val (.long q0), .second, .val (.long q1), .second, .val (.long q2), .second, .val (.long q3), .second] [] := by first | (simp [entryFrame, mkF, argsToLocals, Value.category]; done) | rfl
set_option maxRecDepth 65536 in
set_option maxHeartbeats 40000000 in
theorem own_bl0_rm (l : Launch) (Z : State) (a0 : Array Value) (hw : ∀ d ∈ tables_1, d.before a0 Z = true) (ws : List Jvm.Cond) (q0 : Int64) (q1 : Int64) (q2 : Int64) (q3 : Int64)  (h0 : Heap) (n0 : Nat) (Z0 : n0 ≤ h0.size)  :
    MetFree l (⟨"com/example/focustat/focustat/FocusedTopicRelevantRetrievedPinLaw", "build", "(IJJJJ)[J"⟩ : MethodName) (head1 (Jvm.Cond.code (⟨"com/example/focustat/focustat/FocusedTopicRelevantRetrievedPinLaw", "build", "(IJJJJ)[J"⟩ : MethodName) method_2_code 9 (some (.array .long)) :: ws) ({ frames := 0, cells := 1, slots := 0, locals := 0 } : Room)) (fun a U => a = #[(.int (0 : Int32)), (.long q0), (.long q1), (.long q2), (.long q3)] ∧ Z.Warmed39 U.vm ∧ U.heap = h0) (fun _ _ _ _ _ => True) (fun _ U o U' => ∃ v L, o = .returned v ∧ own_bl0_Q Z q0 q1 q2 q3 h0 n0 v U'.heap L ∧ FrameEnd U o U' L ({ frames := 0, cells := 1, slots := 0, locals := 0 } : Room).cells ({ frames := 0, cells := 1, slots := 0, locals := 0 } : Room).slots) := by
  refine MetFree.of_bodySF (plainFor_of_name pn_FocusedTopicRelevantRetrievedPinLaw) hisR ?_
  intro p e s m args below meth c s₁ Bd hml0 hP hK
  obtain ⟨rfl, hZ, hh⟩ := hP
  have hx := Bd.exec
  have hby := Bd.bytes
  have hml : c.maxLocals = 9 := hml0
  have hown : s.vm.findClass "com/example/focustat/focustat/FocusedTopicRelevantRetrievedPinLaw" = some m.cls := findClass_of_methodNamed Bd.named
  have hnm := (name_of_methodNamed Bd.named Bd.method).1
  have hlk : meth.locks = false := BodyLoose.notSynchronized Bd
  have hrt := Bd.returns
  have X0 : Stand p l e ({ frames := 0, cells := 1, slots := 0, locals := 0 } : Room) s m #[(.int (0 : Int32)), (.long q0), (.long q1), (.long q2), (.long q3)] below meth c s₁ [] 0 0 := Stand.of_body Bd
  have e0 : s₁.heap = h0 := by rw [← hh, Bd.state]; rfl
  have N0 := Fr.nil n0
  refine Goes.enter (kc := ({ frames := 0, cells := 1, slots := 0, locals := 0 } : Room).cells) (kn := ({ frames := 0, cells := 1, slots := 0, locals := 0 } : Room).slots) (Q := own_bl0_Q Z q0 q1 q2 q3 h0 n0) (own_bl0_ef m q0 q1 q2 q3) ?_
  refine Goes.step (B := (s₁.setTop (mkF m 1 #[.val (.int (0 : Int32)), .val (.long q0), .second, .val (.long q1), .second, .val (.long q2), .second, .val (.long q3), .second] [(.int (0 : Int32))]))) (fun _ k => XS.iloadN X0.here hx rfl (hb hby d_method_2_code_0) rfl k) ?_
  have hc101 : (0 : Int32) = (0 : Int32) := by decide
  refine Goes.step (B := (s₁.setTop (mkF m 4 #[.val (.int (0 : Int32)), .val (.long q0), .second, .val (.long q1), .second, .val (.long q2), .second, .val (.long q3), .second] []))) (fun _ k => XS.ifNo X0.here hx rfl (hb hby d_method_2_code_1) rfl ((if0 _ _).trans (teq hc101).2) k) ?_
  refine Goes.step (B := (s₁.setTop (mkF m 5 #[.val (.int (0 : Int32)), .val (.long q0), .second, .val (.long q1), .second, .val (.long q2), .second, .val (.long q3), .second] [(.int (0 : Int32))]))) (fun _ k => XS.iconst X0.here hx rfl (hb hby d_method_2_code_4) k) ?_
  obtain ⟨T102, h102, k102, X102, e102, E102, A102, st102⟩ := newP X0 hx hZ (hw _ (List.mem_of_getElem? (i := 4) rfl)) e0 (g := (mkF m 5 #[.val (.int (0 : Int32)), .val (.long q0), .second, .val (.long q1), .second, .val (.long q2), .second, .val (.long q3), .second] [(.int (0 : Int32))])) rfl (hb hby d_method_2_code_5) rfl (by decide) (cap := 0) (by decide) (by decide) (by decide) (by decide)
  obtain ⟨b102, g102⟩ : ∃ z, z = h0.size := ⟨_, rfl⟩
  rw [← g102] at A102 st102
  have gn102 : n0 ≤ b102 := Nat.le_trans Z0 (Nat.le_of_eq g102.symm)
  have sz102 : h0.size ≤ b102 := Nat.le_trans (Keep.refl h0 []).1 (Nat.le_of_eq g102.symm)
  have V102 : Arv Z h102 b102 k102 .long (0 : Int32) [] (.long (0 : Int64)) := Arv.new A102 (by decide)
  have Z102 : n0 ≤ h102.size := Nat.le_trans Z0 E102.1
  have K102 : Keep h0 h102 [] := (Keep.refl h0 []).ext E102
  refine Goes.step (B := (T102.setTop (mkF m 7 #[.val (.int (0 : Int32)), .val (.long q0), .second, .val (.long q1), .second, .val (.long q2), .second, .val (.long q3), .second] [(.ref b102)]))) (fun _ k => st102 _ k) ?_
  refine Goes.retR X102 hx hlk hrt rfl rfl rfl (hb hby d_method_2_code_7) ?_ (by decide) (by decide)
  rw [e102]
  exact ⟨b102, k102, rfl, N0, K102, gn102, sz102, V102⟩
theorem d_prog_13_method_3_code_0 : decode prog_13_method_3_code 0 = .ok (.iconst 0, 1) := by decide +kernel
theorem d_prog_13_method_3_code_1 : decode prog_13_method_3_code 1 = .ok (.istore_n 1, 1) := by decide +kernel
theorem d_prog_13_method_3_code_2 : decode prog_13_method_3_code 2 = .ok (.aload_n 0, 1) := by decide +kernel
theorem d_prog_13_method_3_code_3 : decode prog_13_method_3_code 3 = .ok (.getfield 7, 3) := by decide +kernel
theorem d_prog_13_method_3_code_6 : decode prog_13_method_3_code 6 = .ok (.astore_n 2, 1) := by decide +kernel
theorem d_prog_13_method_3_code_7 : decode prog_13_method_3_code 7 = .ok (.aload_n 2, 1) := by decide +kernel
theorem d_prog_13_method_3_code_8 : decode prog_13_method_3_code 8 = .ok (.arraylength, 1) := by decide +kernel
theorem d_prog_13_method_3_code_9 : decode prog_13_method_3_code 9 = .ok (.istore_n 3, 1) := by decide +kernel
theorem d_prog_13_method_3_code_10 : decode prog_13_method_3_code 10 = .ok (.iconst 0, 1) := by decide +kernel
theorem d_prog_13_method_3_code_11 : decode prog_13_method_3_code 11 = .ok (.istore 4, 2) := by decide +kernel
theorem d_prog_13_method_3_code_13 : decode prog_13_method_3_code 13 = .ok (.iload 4, 2) := by decide +kernel
theorem d_prog_13_method_3_code_15 : decode prog_13_method_3_code 15 = .ok (.iload_n 3, 1) := by decide +kernel
theorem d_prog_13_method_3_code_16 : decode prog_13_method_3_code 16 = .ok (.if_icmp .ge 25, 3) := by decide +kernel
theorem d_prog_13_method_3_code_41 : decode prog_13_method_3_code 41 = .ok (.iload_n 1, 1) := by decide +kernel
theorem d_prog_13_method_3_code_42 : decode prog_13_method_3_code 42 = .ok (.ireturn, 1) := by decide +kernel
def own_rr0_fn  : Int32 := (0 : Int32)
def own_rr0_Q (Z : State) (o0 : Addr) (c0 : Addr) (k1 : ClassId) (h0 : Heap) (n0 : Nat) (v : Option Value) (h : Heap) (L : List Loc) : Prop := v = some (.int (own_rr0_fn)) ∧ Fr n0 L ∧ h = h0
theorem own_rr0_ef (m : MethodId) (o0 : Addr) : entryFrame m #[(.ref o0)] 7 = mkF m 0 #[.val (.ref o0), .unset, .unset, .unset, .unset, .unset, .unset] [] := by first | (simp [entryFrame, mkF, argsToLocals, Value.category]; done) | rfl
theorem pn_FocusedTopic : plainName "com/example/focustat/focustat/FocusedTopic" = true := by first | (simp [plainName, overriddenIn]; done) | decide +kernel
set_option maxRecDepth 65536 in
set_option maxHeartbeats 40000000 in
theorem own_rr0_rm (l : Launch) (Z : State) (a0 : Array Value) (hw : ∀ d ∈ tables_1, d.before a0 Z = true) (ws : List Jvm.Cond) (o0 : Addr) (c0 : Addr) (k1 : ClassId) (h0 : Heap) (n0 : Nat) (Z0 : n0 ≤ h0.size) (pr0 : Fld Z h0 o0 "com/example/focustat/focustat/FocusedTopic" "covered" "[J" (.ref c0)) (pr1 : Arv Z h0 c0 k1 .long (0 : Int32) [] (.long (0 : Int64))) :
    MetFree l (⟨"com/example/focustat/focustat/FocusedTopic", "relevantRetrieved", "()I"⟩ : MethodName) (head1 (Jvm.Cond.code (⟨"com/example/focustat/focustat/FocusedTopic", "relevantRetrieved", "()I"⟩ : MethodName) prog_13_method_3_code 7 (some .int) :: ws) ({ frames := 0, cells := 0, slots := 0, locals := 0 } : Room)) (fun a U => a = #[(.ref o0)] ∧ Z.Warmed39 U.vm ∧ U.heap = h0) (fun _ _ _ _ _ => True) (fun _ U o U' => ∃ v L, o = .returned v ∧ own_rr0_Q Z o0 c0 k1 h0 n0 v U'.heap L ∧ FrameEnd U o U' L ({ frames := 0, cells := 0, slots := 0, locals := 0 } : Room).cells ({ frames := 0, cells := 0, slots := 0, locals := 0 } : Room).slots) := by
  refine MetFree.of_bodySF (plainFor_of_name pn_FocusedTopic) hisR ?_
  intro p e s m args below meth c s₁ Bd hml0 hP hK
  obtain ⟨rfl, hZ, hh⟩ := hP
  have hx := Bd.exec
  have hby := Bd.bytes
  have hml : c.maxLocals = 7 := hml0
  have hown : s.vm.findClass "com/example/focustat/focustat/FocusedTopic" = some m.cls := findClass_of_methodNamed Bd.named
  have hnm := (name_of_methodNamed Bd.named Bd.method).1
  have hlk : meth.locks = false := BodyLoose.notSynchronized Bd
  have hrt := Bd.returns
  have X0 : Stand p l e ({ frames := 0, cells := 0, slots := 0, locals := 0 } : Room) s m #[(.ref o0)] below meth c s₁ [] 0 0 := Stand.of_body Bd
  have e0 : s₁.heap = h0 := by rw [← hh, Bd.state]; rfl
  have N0 := Fr.nil n0
  refine Goes.enter (kc := ({ frames := 0, cells := 0, slots := 0, locals := 0 } : Room).cells) (kn := ({ frames := 0, cells := 0, slots := 0, locals := 0 } : Room).slots) (Q := own_rr0_Q Z o0 c0 k1 h0 n0) (own_rr0_ef m o0) ?_
  refine Goes.step (B := (s₁.setTop (mkF m 1 #[.val (.ref o0), .unset, .unset, .unset, .unset, .unset, .unset] [(.int (0 : Int32))]))) (fun _ k => XS.iconst X0.here hx rfl (hb hby d_prog_13_method_3_code_0) k) ?_
  refine Goes.step (B := (s₁.setTop (mkF m 2 #[.val (.ref o0), .val (.int (0 : Int32)), .unset, .unset, .unset, .unset, .unset] []))) (fun _ k => XS.istoreN X0.here hx rfl (hb hby d_prog_13_method_3_code_1) rfl (l' := #[.val (.ref o0), .val (.int (0 : Int32)), .unset, .unset, .unset, .unset, .unset]) rfl k) ?_
  refine Goes.step (B := (s₁.setTop (mkF m 3 #[.val (.ref o0), .val (.int (0 : Int32)), .unset, .unset, .unset, .unset, .unset] [(.ref o0)]))) (fun _ k => XS.aloadN X0.here hx rfl (hb hby d_prog_13_method_3_code_2) rfl rfl k) ?_
  obtain ⟨T101, X101, e101, st101⟩ := getF X0 hx hZ hown (host := "") (Or.inl (hw _ (List.mem_of_getElem? (i := 19) rfl))) Via.refl e0 pr0 (g := (mkF m 3 #[.val (.ref o0), .val (.int (0 : Int32)), .unset, .unset, .unset, .unset, .unset] [(.ref o0)])) rfl rfl (hb hby d_prog_13_method_3_code_3)
  refine Goes.step (B := (T101.setTop (mkF m 6 #[.val (.ref o0), .val (.int (0 : Int32)), .unset, .unset, .unset, .unset, .unset] [(.ref c0)]))) (fun _ k => st101 _ k) ?_
  refine Goes.step (B := (T101.setTop (mkF m 7 #[.val (.ref o0), .val (.int (0 : Int32)), .val (.ref c0), .unset, .unset, .unset, .unset] []))) (fun _ k => XS.astoreN X101.here hx rfl (hb hby d_prog_13_method_3_code_6) rfl rfl (l' := #[.val (.ref o0), .val (.int (0 : Int32)), .val (.ref c0), .unset, .unset, .unset, .unset]) rfl k) ?_
  refine Goes.step (B := (T101.setTop (mkF m 8 #[.val (.ref o0), .val (.int (0 : Int32)), .val (.ref c0), .unset, .unset, .unset, .unset] [(.ref c0)]))) (fun _ k => XS.aloadN X101.here hx rfl (hb hby d_prog_13_method_3_code_7) rfl rfl k) ?_
  obtain ⟨cl102, Ar102, q102, S102, M102, H102, G102⟩ := id pr1
  refine Goes.step (B := (T101.setTop (mkF m 9 #[.val (.ref o0), .val (.int (0 : Int32)), .val (.ref c0), .unset, .unset, .unset, .unset] [(.int (0 : Int32))]))) (fun _ k => X101.arraylength hx (by rw [e101]; exact Ar102.1) (State.isArrayOf_alike hZ.alike Ar102.2.1) (g := (mkF m 8 #[.val (.ref o0), .val (.int (0 : Int32)), .val (.ref c0), .unset, .unset, .unset, .unset] [(.ref c0)])) rfl rfl (hb hby d_prog_13_method_3_code_8) _ (by rw [len_of S102 M102]; exact k)) ?_
  refine Goes.step (B := (T101.setTop (mkF m 10 #[.val (.ref o0), .val (.int (0 : Int32)), .val (.ref c0), .val (.int (0 : Int32)), .unset, .unset, .unset] []))) (fun _ k => XS.istoreN X101.here hx rfl (hb hby d_prog_13_method_3_code_9) rfl (l' := #[.val (.ref o0), .val (.int (0 : Int32)), .val (.ref c0), .val (.int (0 : Int32)), .unset, .unset, .unset]) rfl k) ?_
  refine Goes.step (B := (T101.setTop (mkF m 11 #[.val (.ref o0), .val (.int (0 : Int32)), .val (.ref c0), .val (.int (0 : Int32)), .unset, .unset, .unset] [(.int (0 : Int32))]))) (fun _ k => XS.iconst X101.here hx rfl (hb hby d_prog_13_method_3_code_10) k) ?_
  refine Goes.step (B := (T101.setTop (mkF m 13 #[.val (.ref o0), .val (.int (0 : Int32)), .val (.ref c0), .val (.int (0 : Int32)), .val (.int (0 : Int32)), .unset, .unset] []))) (fun _ k => XS.istore X101.here hx rfl (hb hby d_prog_13_method_3_code_11) rfl (l' := #[.val (.ref o0), .val (.int (0 : Int32)), .val (.ref c0), .val (.int (0 : Int32)), .val (.int (0 : Int32)), .unset, .unset]) rfl k) ?_
  refine Goes.step (B := (T101.setTop (mkF m 15 #[.val (.ref o0), .val (.int (0 : Int32)), .val (.ref c0), .val (.int (0 : Int32)), .val (.int (0 : Int32)), .unset, .unset] [(.int (0 : Int32))]))) (fun _ k => XS.iload X101.here hx rfl (hb hby d_prog_13_method_3_code_13) rfl k) ?_
  refine Goes.step (B := (T101.setTop (mkF m 16 #[.val (.ref o0), .val (.int (0 : Int32)), .val (.ref c0), .val (.int (0 : Int32)), .val (.int (0 : Int32)), .unset, .unset] [(.int (0 : Int32)), (.int (0 : Int32))]))) (fun _ k => XS.iloadN X101.here hx rfl (hb hby d_prog_13_method_3_code_15) rfl k) ?_
  have hc103 : ¬ ((0 : Int32) < (0 : Int32)) := by decide
  refine Goes.step (B := (T101.setTop (mkF m 41 #[.val (.ref o0), .val (.int (0 : Int32)), .val (.ref c0), .val (.int (0 : Int32)), .val (.int (0 : Int32)), .unset, .unset] []))) (fun _ k => XS.icmpYes X101.here hx rfl (pc0 := 16) (pc' := 41) rfl (hb hby d_prog_13_method_3_code_16) rfl (flt hc103).2.1 (by decide) (by decide) k) ?_
  refine Goes.step (B := (T101.setTop (mkF m 42 #[.val (.ref o0), .val (.int (0 : Int32)), .val (.ref c0), .val (.int (0 : Int32)), .val (.int (0 : Int32)), .unset, .unset] [(.int (0 : Int32))]))) (fun _ k => XS.iloadN X101.here hx rfl (hb hby d_prog_13_method_3_code_41) rfl k) ?_
  refine Goes.retI X101 hx hlk hrt (hb hby d_prog_13_method_3_code_42) ?_ (by decide) (by decide)
  rw [e101]
  exact ⟨congrArg (fun z => some (Value.int z)) (show (0 : Int32) = (own_rr0_fn) from (show (0 : Int32) = (0 : Int32) from rfl).trans (by simp only [own_rr0_fn])), N0, rfl⟩
theorem d_method_2_code_8 : decode method_2_code 8 = .ok (.iload_n 0, 1) := by decide +kernel
theorem d_method_2_code_9 : decode method_2_code 9 = .ok (.iconst 1, 1) := by decide +kernel
theorem d_method_2_code_10 : decode method_2_code 10 = .ok (.if_icmp .ne 11, 3) := by decide +kernel
theorem d_method_2_code_13 : decode method_2_code 13 = .ok (.iconst 1, 1) := by decide +kernel
theorem d_method_2_code_14 : decode method_2_code 14 = .ok (.newarray .long, 2) := by decide +kernel
theorem d_method_2_code_16 : decode method_2_code 16 = .ok (.dup, 1) := by decide +kernel
theorem d_method_2_code_17 : decode method_2_code 17 = .ok (.iconst 0, 1) := by decide +kernel
theorem d_method_2_code_18 : decode method_2_code 18 = .ok (.lload_n 1, 1) := by decide +kernel
theorem d_method_2_code_19 : decode method_2_code 19 = .ok (.lastore, 1) := by decide +kernel
theorem d_method_2_code_20 : decode method_2_code 20 = .ok (.areturn, 1) := by decide +kernel
def own_bl1_Q (Z : State) (q0 : Int64) (q1 : Int64) (q2 : Int64) (q3 : Int64)  (h0 : Heap) (n0 : Nat) (v : Option Value) (h : Heap) (L : List Loc) : Prop := ∃ (b : Addr), ∃ (k1 : ClassId), (v = some (.ref b)) ∧ (Fr n0 L) ∧ (Keep h0 h []) ∧ (n0 ≤ b) ∧ (h0.size ≤ b) ∧ (Arv Z h b k1 .long (1 : Int32) [(.long q0)] (.long (0 : Int64)))
theorem own_bl1_ef (m : MethodId) (q0 : Int64) (q1 : Int64) (q2 : Int64) (q3 : Int64) : entryFrame m #[(.int (1 : Int32)), (.long q0), (.long q1), (.long q2), (.long q3)] 9 = mkF m 0 #[.val (.int (1 : Int32)), .val (.long q0), .second, .val (.long q1), .second, .val (.long q2), .second, .val (.long q3), .second] [] := by first | (simp [entryFrame, mkF, argsToLocals, Value.category]; done) | rfl
set_option maxRecDepth 65536 in
set_option maxHeartbeats 40000000 in
theorem own_bl1_rm (l : Launch) (Z : State) (a0 : Array Value) (hw : ∀ d ∈ tables_1, d.before a0 Z = true) (ws : List Jvm.Cond) (q0 : Int64) (q1 : Int64) (q2 : Int64) (q3 : Int64)  (h0 : Heap) (n0 : Nat) (Z0 : n0 ≤ h0.size)  :
    MetFree l (⟨"com/example/focustat/focustat/FocusedTopicRelevantRetrievedPinLaw", "build", "(IJJJJ)[J"⟩ : MethodName) (head1 (Jvm.Cond.code (⟨"com/example/focustat/focustat/FocusedTopicRelevantRetrievedPinLaw", "build", "(IJJJJ)[J"⟩ : MethodName) method_2_code 9 (some (.array .long)) :: ws) ({ frames := 0, cells := 1, slots := 1, locals := 0 } : Room)) (fun a U => a = #[(.int (1 : Int32)), (.long q0), (.long q1), (.long q2), (.long q3)] ∧ Z.Warmed39 U.vm ∧ U.heap = h0) (fun _ _ _ _ _ => True) (fun _ U o U' => ∃ v L, o = .returned v ∧ own_bl1_Q Z q0 q1 q2 q3 h0 n0 v U'.heap L ∧ FrameEnd U o U' L ({ frames := 0, cells := 1, slots := 1, locals := 0 } : Room).cells ({ frames := 0, cells := 1, slots := 1, locals := 0 } : Room).slots) := by
  refine MetFree.of_bodySF (plainFor_of_name pn_FocusedTopicRelevantRetrievedPinLaw) hisR ?_
  intro p e s m args below meth c s₁ Bd hml0 hP hK
  obtain ⟨rfl, hZ, hh⟩ := hP
  have hx := Bd.exec
  have hby := Bd.bytes
  have hml : c.maxLocals = 9 := hml0
  have hown : s.vm.findClass "com/example/focustat/focustat/FocusedTopicRelevantRetrievedPinLaw" = some m.cls := findClass_of_methodNamed Bd.named
  have hnm := (name_of_methodNamed Bd.named Bd.method).1
  have hlk : meth.locks = false := BodyLoose.notSynchronized Bd
  have hrt := Bd.returns
  have X0 : Stand p l e ({ frames := 0, cells := 1, slots := 1, locals := 0 } : Room) s m #[(.int (1 : Int32)), (.long q0), (.long q1), (.long q2), (.long q3)] below meth c s₁ [] 0 0 := Stand.of_body Bd
  have e0 : s₁.heap = h0 := by rw [← hh, Bd.state]; rfl
  have N0 := Fr.nil n0
  refine Goes.enter (kc := ({ frames := 0, cells := 1, slots := 1, locals := 0 } : Room).cells) (kn := ({ frames := 0, cells := 1, slots := 1, locals := 0 } : Room).slots) (Q := own_bl1_Q Z q0 q1 q2 q3 h0 n0) (own_bl1_ef m q0 q1 q2 q3) ?_
  refine Goes.step (B := (s₁.setTop (mkF m 1 #[.val (.int (1 : Int32)), .val (.long q0), .second, .val (.long q1), .second, .val (.long q2), .second, .val (.long q3), .second] [(.int (1 : Int32))]))) (fun _ k => XS.iloadN X0.here hx rfl (hb hby d_method_2_code_0) rfl k) ?_
  have hc101 : ¬ ((1 : Int32) = (0 : Int32)) := by decide
  refine Goes.step (B := (s₁.setTop (mkF m 8 #[.val (.int (1 : Int32)), .val (.long q0), .second, .val (.long q1), .second, .val (.long q2), .second, .val (.long q3), .second] []))) (fun _ k => XS.ifYes X0.here hx rfl (pc0 := 1) (pc' := 8) rfl (hb hby d_method_2_code_1) rfl ((if0 _ _).trans (feq hc101).2) (by decide) (by decide) k) ?_
  refine Goes.step (B := (s₁.setTop (mkF m 9 #[.val (.int (1 : Int32)), .val (.long q0), .second, .val (.long q1), .second, .val (.long q2), .second, .val (.long q3), .second] [(.int (1 : Int32))]))) (fun _ k => XS.iloadN X0.here hx rfl (hb hby d_method_2_code_8) rfl k) ?_
  refine Goes.step (B := (s₁.setTop (mkF m 10 #[.val (.int (1 : Int32)), .val (.long q0), .second, .val (.long q1), .second, .val (.long q2), .second, .val (.long q3), .second] [(.int (1 : Int32)), (.int (1 : Int32))]))) (fun _ k => XS.iconst X0.here hx rfl (hb hby d_method_2_code_9) k) ?_
  have hc102 : (1 : Int32) = (1 : Int32) := by decide
  refine Goes.step (B := (s₁.setTop (mkF m 13 #[.val (.int (1 : Int32)), .val (.long q0), .second, .val (.long q1), .second, .val (.long q2), .second, .val (.long q3), .second] []))) (fun _ k => XS.icmpNo X0.here hx rfl (hb hby d_method_2_code_10) rfl (teq hc102).2 k) ?_
  refine Goes.step (B := (s₁.setTop (mkF m 14 #[.val (.int (1 : Int32)), .val (.long q0), .second, .val (.long q1), .second, .val (.long q2), .second, .val (.long q3), .second] [(.int (1 : Int32))]))) (fun _ k => XS.iconst X0.here hx rfl (hb hby d_method_2_code_13) k) ?_
  obtain ⟨T103, h103, k103, X103, e103, E103, A103, st103⟩ := newP X0 hx hZ (hw _ (List.mem_of_getElem? (i := 4) rfl)) e0 (g := (mkF m 14 #[.val (.int (1 : Int32)), .val (.long q0), .second, .val (.long q1), .second, .val (.long q2), .second, .val (.long q3), .second] [(.int (1 : Int32))])) rfl (hb hby d_method_2_code_14) rfl (by decide) (cap := 1) (by decide) (by decide) (by decide) (by decide)
  obtain ⟨b103, g103⟩ : ∃ z, z = h0.size := ⟨_, rfl⟩
  rw [← g103] at A103 st103
  have gn103 : n0 ≤ b103 := Nat.le_trans Z0 (Nat.le_of_eq g103.symm)
  have sz103 : h0.size ≤ b103 := Nat.le_trans (Keep.refl h0 []).1 (Nat.le_of_eq g103.symm)
  have V103 : Arv Z h103 b103 k103 .long (1 : Int32) [(.long (0 : Int64))] (.long (0 : Int64)) := (Arv.new A103 (by decide)).pad (pad_rep [] (.long (0 : Int64)) 1)
  have Z103 : n0 ≤ h103.size := Nat.le_trans Z0 E103.1
  have K103 : Keep h0 h103 [] := (Keep.refl h0 []).ext E103
  refine Goes.step (B := (T103.setTop (mkF m 16 #[.val (.int (1 : Int32)), .val (.long q0), .second, .val (.long q1), .second, .val (.long q2), .second, .val (.long q3), .second] [(.ref b103)]))) (fun _ k => st103 _ k) ?_
  refine Goes.step (B := (T103.setTop (mkF m 17 #[.val (.int (1 : Int32)), .val (.long q0), .second, .val (.long q1), .second, .val (.long q2), .second, .val (.long q3), .second] [(.ref b103), (.ref b103)]))) (fun _ k => XS.dup X103.here hx rfl (hb hby d_method_2_code_16) rfl rfl k) ?_
  refine Goes.step (B := (T103.setTop (mkF m 18 #[.val (.int (1 : Int32)), .val (.long q0), .second, .val (.long q1), .second, .val (.long q2), .second, .val (.long q3), .second] [(.int (0 : Int32)), (.ref b103), (.ref b103)]))) (fun _ k => XS.iconst X103.here hx rfl (hb hby d_method_2_code_17) k) ?_
  refine Goes.step (B := (T103.setTop (mkF m 19 #[.val (.int (1 : Int32)), .val (.long q0), .second, .val (.long q1), .second, .val (.long q2), .second, .val (.long q3), .second] [(.long q0), (.int (0 : Int32)), (.ref b103), (.ref b103)]))) (fun _ k => XS.lloadN X103.here hx rfl (hb hby d_method_2_code_18) rfl k) ?_
  obtain ⟨cl104, Ar104, q104, S104, M104, H104, G104⟩ := id V103
  have hin104 : ¬ ((0 : Int32) < 0 ∨ cl104.slots.size ≤ ((0 : Int32)).toNatClampNeg) := inb_of S104 ⟨by decide, by decide⟩
  obtain ⟨T104, h104, X104, e104, W104, st104⟩ := stJ X103 hx hZ e103 Ar104 (j := (0 : Int32)) hin104 (g := (mkF m 19 #[.val (.int (1 : Int32)), .val (.long q0), .second, .val (.long q1), .second, .val (.long q2), .second, .val (.long q3), .second] [(.long q0), (.int (0 : Int32)), (.ref b103), (.ref b103)])) rfl rfl (hb hby d_method_2_code_19)
  have N104 := Fr.snoc X104 N0 gn103
  have K104 : Keep h0 h104 [] := K103.wr W104 (Or.inr sz103)
  have Z104 : n0 ≤ h104.size := Nat.le_trans Z103 (Nat.le_of_eq W104.size.symm)
  have V104 : Arv Z h104 b103 k103 .long (1 : Int32) [(.long q0)] (.long (0 : Int64)) := Arv.set Ar104 q104 S104 M104 H104 G104 rfl W104 0 rfl (Nat.le_of_ble_eq_true rfl)
  refine Goes.step (B := (T104.setTop (mkF m 20 #[.val (.int (1 : Int32)), .val (.long q0), .second, .val (.long q1), .second, .val (.long q2), .second, .val (.long q3), .second] [(.ref b103)]))) (fun _ k => st104 _ k) ?_
  refine Goes.retR X104 hx hlk hrt rfl rfl rfl (hb hby d_method_2_code_20) ?_ (by decide) (by decide)
  rw [e104]
  exact ⟨b103, k103, rfl, N104, K104, gn103, sz103, V104⟩
theorem d_prog_13_method_3_code_19 : decode prog_13_method_3_code 19 = .ok (.aload_n 2, 1) := by decide +kernel
theorem d_prog_13_method_3_code_20 : decode prog_13_method_3_code 20 = .ok (.iload 4, 2) := by decide +kernel
theorem d_prog_13_method_3_code_22 : decode prog_13_method_3_code 22 = .ok (.laload, 1) := by decide +kernel
theorem d_prog_13_method_3_code_23 : decode prog_13_method_3_code 23 = .ok (.lstore 5, 2) := by decide +kernel
theorem d_prog_13_method_3_code_25 : decode prog_13_method_3_code 25 = .ok (.lload 5, 2) := by decide +kernel
theorem d_prog_13_method_3_code_27 : decode prog_13_method_3_code 27 = .ok (.lconst 0, 1) := by decide +kernel
theorem d_prog_13_method_3_code_28 : decode prog_13_method_3_code 28 = .ok (.lcmp, 1) := by decide +kernel
theorem d_prog_13_method_3_code_29 : decode prog_13_method_3_code 29 = .ok (.ifCond .le 6, 3) := by decide +kernel
theorem d_prog_13_method_3_code_32 : decode prog_13_method_3_code 32 = .ok (.iinc 1 1, 3) := by decide +kernel
theorem d_prog_13_method_3_code_35 : decode prog_13_method_3_code 35 = .ok (.iinc 4 1, 3) := by decide +kernel
theorem d_prog_13_method_3_code_38 : decode prog_13_method_3_code 38 = .ok (.goto (-25), 3) := by decide +kernel
def own_rr1_j29 (q0 : Int64) : Int32 := (if (0 : Int64) < q0 then (1 : Int32) else (0 : Int32))
def own_rr1_fn (q0 : Int64) : Int32 := (own_rr1_j29 q0)
def own_rr1_Q (Z : State) (o0 : Addr) (c0 : Addr) (k1 : ClassId) (q0 : Int64) (h0 : Heap) (n0 : Nat) (v : Option Value) (h : Heap) (L : List Loc) : Prop := v = some (.int (own_rr1_fn q0)) ∧ Fr n0 L ∧ h = h0
theorem own_rr1_ef (m : MethodId) (o0 : Addr) : entryFrame m #[(.ref o0)] 7 = mkF m 0 #[.val (.ref o0), .unset, .unset, .unset, .unset, .unset, .unset] [] := by first | (simp [entryFrame, mkF, argsToLocals, Value.category]; done) | rfl
set_option maxRecDepth 65536 in
set_option maxHeartbeats 40000000 in
theorem own_rr1_rm (l : Launch) (Z : State) (a0 : Array Value) (hw : ∀ d ∈ tables_1, d.before a0 Z = true) (ws : List Jvm.Cond) (o0 : Addr) (c0 : Addr) (k1 : ClassId) (q0 : Int64) (h0 : Heap) (n0 : Nat) (Z0 : n0 ≤ h0.size) (pr0 : Fld Z h0 o0 "com/example/focustat/focustat/FocusedTopic" "covered" "[J" (.ref c0)) (pr1 : Arv Z h0 c0 k1 .long (1 : Int32) [(.long q0)] (.long (0 : Int64))) :
    MetFree l (⟨"com/example/focustat/focustat/FocusedTopic", "relevantRetrieved", "()I"⟩ : MethodName) (head1 (Jvm.Cond.code (⟨"com/example/focustat/focustat/FocusedTopic", "relevantRetrieved", "()I"⟩ : MethodName) prog_13_method_3_code 7 (some .int) :: ws) ({ frames := 0, cells := 0, slots := 0, locals := 0 } : Room)) (fun a U => a = #[(.ref o0)] ∧ Z.Warmed39 U.vm ∧ U.heap = h0) (fun _ _ _ _ _ => True) (fun _ U o U' => ∃ v L, o = .returned v ∧ own_rr1_Q Z o0 c0 k1 q0 h0 n0 v U'.heap L ∧ FrameEnd U o U' L ({ frames := 0, cells := 0, slots := 0, locals := 0 } : Room).cells ({ frames := 0, cells := 0, slots := 0, locals := 0 } : Room).slots) := by
  refine MetFree.of_bodySF (plainFor_of_name pn_FocusedTopic) hisR ?_
  intro p e s m args below meth c s₁ Bd hml0 hP hK
  obtain ⟨rfl, hZ, hh⟩ := hP
  have hx := Bd.exec
  have hby := Bd.bytes
  have hml : c.maxLocals = 7 := hml0
  have hown : s.vm.findClass "com/example/focustat/focustat/FocusedTopic" = some m.cls := findClass_of_methodNamed Bd.named
  have hnm := (name_of_methodNamed Bd.named Bd.method).1
  have hlk : meth.locks = false := BodyLoose.notSynchronized Bd
  have hrt := Bd.returns
  have X0 : Stand p l e ({ frames := 0, cells := 0, slots := 0, locals := 0 } : Room) s m #[(.ref o0)] below meth c s₁ [] 0 0 := Stand.of_body Bd
  have e0 : s₁.heap = h0 := by rw [← hh, Bd.state]; rfl
  have N0 := Fr.nil n0
  refine Goes.enter (kc := ({ frames := 0, cells := 0, slots := 0, locals := 0 } : Room).cells) (kn := ({ frames := 0, cells := 0, slots := 0, locals := 0 } : Room).slots) (Q := own_rr1_Q Z o0 c0 k1 q0 h0 n0) (own_rr1_ef m o0) ?_
  refine Goes.step (B := (s₁.setTop (mkF m 1 #[.val (.ref o0), .unset, .unset, .unset, .unset, .unset, .unset] [(.int (0 : Int32))]))) (fun _ k => XS.iconst X0.here hx rfl (hb hby d_prog_13_method_3_code_0) k) ?_
  refine Goes.step (B := (s₁.setTop (mkF m 2 #[.val (.ref o0), .val (.int (0 : Int32)), .unset, .unset, .unset, .unset, .unset] []))) (fun _ k => XS.istoreN X0.here hx rfl (hb hby d_prog_13_method_3_code_1) rfl (l' := #[.val (.ref o0), .val (.int (0 : Int32)), .unset, .unset, .unset, .unset, .unset]) rfl k) ?_
  refine Goes.step (B := (s₁.setTop (mkF m 3 #[.val (.ref o0), .val (.int (0 : Int32)), .unset, .unset, .unset, .unset, .unset] [(.ref o0)]))) (fun _ k => XS.aloadN X0.here hx rfl (hb hby d_prog_13_method_3_code_2) rfl rfl k) ?_
  obtain ⟨T101, X101, e101, st101⟩ := getF X0 hx hZ hown (host := "") (Or.inl (hw _ (List.mem_of_getElem? (i := 19) rfl))) Via.refl e0 pr0 (g := (mkF m 3 #[.val (.ref o0), .val (.int (0 : Int32)), .unset, .unset, .unset, .unset, .unset] [(.ref o0)])) rfl rfl (hb hby d_prog_13_method_3_code_3)
  refine Goes.step (B := (T101.setTop (mkF m 6 #[.val (.ref o0), .val (.int (0 : Int32)), .unset, .unset, .unset, .unset, .unset] [(.ref c0)]))) (fun _ k => st101 _ k) ?_
  refine Goes.step (B := (T101.setTop (mkF m 7 #[.val (.ref o0), .val (.int (0 : Int32)), .val (.ref c0), .unset, .unset, .unset, .unset] []))) (fun _ k => XS.astoreN X101.here hx rfl (hb hby d_prog_13_method_3_code_6) rfl rfl (l' := #[.val (.ref o0), .val (.int (0 : Int32)), .val (.ref c0), .unset, .unset, .unset, .unset]) rfl k) ?_
  refine Goes.step (B := (T101.setTop (mkF m 8 #[.val (.ref o0), .val (.int (0 : Int32)), .val (.ref c0), .unset, .unset, .unset, .unset] [(.ref c0)]))) (fun _ k => XS.aloadN X101.here hx rfl (hb hby d_prog_13_method_3_code_7) rfl rfl k) ?_
  obtain ⟨cl102, Ar102, q102, S102, M102, H102, G102⟩ := id pr1
  refine Goes.step (B := (T101.setTop (mkF m 9 #[.val (.ref o0), .val (.int (0 : Int32)), .val (.ref c0), .unset, .unset, .unset, .unset] [(.int (1 : Int32))]))) (fun _ k => X101.arraylength hx (by rw [e101]; exact Ar102.1) (State.isArrayOf_alike hZ.alike Ar102.2.1) (g := (mkF m 8 #[.val (.ref o0), .val (.int (0 : Int32)), .val (.ref c0), .unset, .unset, .unset, .unset] [(.ref c0)])) rfl rfl (hb hby d_prog_13_method_3_code_8) _ (by rw [len_of S102 M102]; exact k)) ?_
  refine Goes.step (B := (T101.setTop (mkF m 10 #[.val (.ref o0), .val (.int (0 : Int32)), .val (.ref c0), .val (.int (1 : Int32)), .unset, .unset, .unset] []))) (fun _ k => XS.istoreN X101.here hx rfl (hb hby d_prog_13_method_3_code_9) rfl (l' := #[.val (.ref o0), .val (.int (0 : Int32)), .val (.ref c0), .val (.int (1 : Int32)), .unset, .unset, .unset]) rfl k) ?_
  refine Goes.step (B := (T101.setTop (mkF m 11 #[.val (.ref o0), .val (.int (0 : Int32)), .val (.ref c0), .val (.int (1 : Int32)), .unset, .unset, .unset] [(.int (0 : Int32))]))) (fun _ k => XS.iconst X101.here hx rfl (hb hby d_prog_13_method_3_code_10) k) ?_
  refine Goes.step (B := (T101.setTop (mkF m 13 #[.val (.ref o0), .val (.int (0 : Int32)), .val (.ref c0), .val (.int (1 : Int32)), .val (.int (0 : Int32)), .unset, .unset] []))) (fun _ k => XS.istore X101.here hx rfl (hb hby d_prog_13_method_3_code_11) rfl (l' := #[.val (.ref o0), .val (.int (0 : Int32)), .val (.ref c0), .val (.int (1 : Int32)), .val (.int (0 : Int32)), .unset, .unset]) rfl k) ?_
  refine Goes.step (B := (T101.setTop (mkF m 15 #[.val (.ref o0), .val (.int (0 : Int32)), .val (.ref c0), .val (.int (1 : Int32)), .val (.int (0 : Int32)), .unset, .unset] [(.int (0 : Int32))]))) (fun _ k => XS.iload X101.here hx rfl (hb hby d_prog_13_method_3_code_13) rfl k) ?_
  refine Goes.step (B := (T101.setTop (mkF m 16 #[.val (.ref o0), .val (.int (0 : Int32)), .val (.ref c0), .val (.int (1 : Int32)), .val (.int (0 : Int32)), .unset, .unset] [(.int (1 : Int32)), (.int (0 : Int32))]))) (fun _ k => XS.iloadN X101.here hx rfl (hb hby d_prog_13_method_3_code_15) rfl k) ?_
  have hc103 : (0 : Int32) < (1 : Int32) := by decide
  refine Goes.step (B := (T101.setTop (mkF m 19 #[.val (.ref o0), .val (.int (0 : Int32)), .val (.ref c0), .val (.int (1 : Int32)), .val (.int (0 : Int32)), .unset, .unset] []))) (fun _ k => XS.icmpNo X101.here hx rfl (hb hby d_prog_13_method_3_code_16) rfl (tlt hc103).2.1 k) ?_
  refine Goes.step (B := (T101.setTop (mkF m 20 #[.val (.ref o0), .val (.int (0 : Int32)), .val (.ref c0), .val (.int (1 : Int32)), .val (.int (0 : Int32)), .unset, .unset] [(.ref c0)]))) (fun _ k => XS.aloadN X101.here hx rfl (hb hby d_prog_13_method_3_code_19) rfl rfl k) ?_
  refine Goes.step (B := (T101.setTop (mkF m 22 #[.val (.ref o0), .val (.int (0 : Int32)), .val (.ref c0), .val (.int (1 : Int32)), .val (.int (0 : Int32)), .unset, .unset] [(.int (0 : Int32)), (.ref c0)]))) (fun _ k => XS.iload X101.here hx rfl (hb hby d_prog_13_method_3_code_20) rfl k) ?_
  obtain ⟨cl104, Ar104, q104, S104, M104, H104, G104⟩ := id pr1
  have hin104 : ¬ ((0 : Int32) < 0 ∨ cl104.slots.size ≤ ((0 : Int32)).toNatClampNeg) := inb_of S104 ⟨by decide, by decide⟩
  have hat104 : cl104.slots[((0 : Int32)).toNatClampNeg]? = some (.long q0) := H104 0 (by rw [S104]; decide)
  refine Goes.step (B := (T101.setTop (mkF m 23 #[.val (.ref o0), .val (.int (0 : Int32)), .val (.ref c0), .val (.int (1 : Int32)), .val (.int (0 : Int32)), .unset, .unset] [(.long q0)]))) (fun _ k => X101.laload hx (j := (0 : Int32)) (v := (.long q0)) (by rw [e101]; exact Ar104.1) (State.isArrayOf_alike hZ.alike Ar104.2.1) Ar104.2.2 hin104 hat104 (g := (mkF m 22 #[.val (.ref o0), .val (.int (0 : Int32)), .val (.ref c0), .val (.int (1 : Int32)), .val (.int (0 : Int32)), .unset, .unset] [(.int (0 : Int32)), (.ref c0)])) rfl rfl (hb hby d_prog_13_method_3_code_22) _ k) ?_
  refine Goes.step (B := (T101.setTop (mkF m 25 #[.val (.ref o0), .val (.int (0 : Int32)), .val (.ref c0), .val (.int (1 : Int32)), .val (.int (0 : Int32)), .val (.long q0), .second] []))) (fun _ k => XS.lstore X101.here hx rfl (hb hby d_prog_13_method_3_code_23) rfl (l' := #[.val (.ref o0), .val (.int (0 : Int32)), .val (.ref c0), .val (.int (1 : Int32)), .val (.int (0 : Int32)), .val (.long q0), .second]) rfl k) ?_
  refine Goes.step (B := (T101.setTop (mkF m 27 #[.val (.ref o0), .val (.int (0 : Int32)), .val (.ref c0), .val (.int (1 : Int32)), .val (.int (0 : Int32)), .val (.long q0), .second] [(.long q0)]))) (fun _ k => XS.lload X101.here hx rfl (hb hby d_prog_13_method_3_code_25) rfl k) ?_
  refine Goes.step (B := (T101.setTop (mkF m 28 #[.val (.ref o0), .val (.int (0 : Int32)), .val (.ref c0), .val (.int (1 : Int32)), .val (.int (0 : Int32)), .val (.long q0), .second] [(.long (0 : Int64)), (.long q0)]))) (fun _ k => XS.lconst X101.here hx rfl (hb hby d_prog_13_method_3_code_27) k) ?_
  refine Goes.step (B := (T101.setTop (mkF m 29 #[.val (.ref o0), .val (.int (0 : Int32)), .val (.ref c0), .val (.int (1 : Int32)), .val (.int (0 : Int32)), .val (.long q0), .second] [(.int (lcmpW q0 (0 : Int64)))]))) (fun _ k => XS.lcmp X101.here hx rfl (hb hby d_prog_13_method_3_code_28) rfl k) ?_
  have J105 : Goes p e below s ({ frames := 0, cells := 0, slots := 0, locals := 0 } : Room).cells ({ frames := 0, cells := 0, slots := 0, locals := 0 } : Room).slots (own_rr1_Q Z o0 c0 k1 q0 h0 n0) (T101.setTop (mkF m 35 #[.val (.ref o0), .val (.int (own_rr1_j29 q0)), .val (.ref c0), .val (.int (1 : Int32)), .val (.int (0 : Int32)), .val (.long q0), .second] [])) := by
    refine Goes.step (B := (T101.setTop (mkF m 38 #[.val (.ref o0), .val (.int (own_rr1_j29 q0)), .val (.ref c0), .val (.int (1 : Int32)), .val (.int (1 : Int32)), .val (.long q0), .second] []))) (fun _ k => XS.iinc X101.here hx rfl (hb hby d_prog_13_method_3_code_35) rfl (l' := #[.val (.ref o0), .val (.int (own_rr1_j29 q0)), .val (.ref c0), .val (.int (1 : Int32)), .val (.int (1 : Int32)), .val (.long q0), .second]) rfl k) ?_
    refine Goes.step (B := (T101.setTop (mkF m 13 #[.val (.ref o0), .val (.int (own_rr1_j29 q0)), .val (.ref c0), .val (.int (1 : Int32)), .val (.int (1 : Int32)), .val (.long q0), .second] []))) (fun _ k => XS.goto X101.here hx rfl (pc0 := 38) (pc' := 13) rfl (hb hby d_prog_13_method_3_code_38) (by decide) (by decide) k) ?_
    refine Goes.step (B := (T101.setTop (mkF m 15 #[.val (.ref o0), .val (.int (own_rr1_j29 q0)), .val (.ref c0), .val (.int (1 : Int32)), .val (.int (1 : Int32)), .val (.long q0), .second] [(.int (1 : Int32))]))) (fun _ k => XS.iload X101.here hx rfl (hb hby d_prog_13_method_3_code_13) rfl k) ?_
    refine Goes.step (B := (T101.setTop (mkF m 16 #[.val (.ref o0), .val (.int (own_rr1_j29 q0)), .val (.ref c0), .val (.int (1 : Int32)), .val (.int (1 : Int32)), .val (.long q0), .second] [(.int (1 : Int32)), (.int (1 : Int32))]))) (fun _ k => XS.iloadN X101.here hx rfl (hb hby d_prog_13_method_3_code_15) rfl k) ?_
    have hc106 : ¬ ((1 : Int32) < (1 : Int32)) := by decide
    refine Goes.step (B := (T101.setTop (mkF m 41 #[.val (.ref o0), .val (.int (own_rr1_j29 q0)), .val (.ref c0), .val (.int (1 : Int32)), .val (.int (1 : Int32)), .val (.long q0), .second] []))) (fun _ k => XS.icmpYes X101.here hx rfl (pc0 := 16) (pc' := 41) rfl (hb hby d_prog_13_method_3_code_16) rfl (flt hc106).2.1 (by decide) (by decide) k) ?_
    refine Goes.step (B := (T101.setTop (mkF m 42 #[.val (.ref o0), .val (.int (own_rr1_j29 q0)), .val (.ref c0), .val (.int (1 : Int32)), .val (.int (1 : Int32)), .val (.long q0), .second] [(.int (own_rr1_j29 q0))]))) (fun _ k => XS.iloadN X101.here hx rfl (hb hby d_prog_13_method_3_code_41) rfl k) ?_
    refine Goes.retI X101 hx hlk hrt (hb hby d_prog_13_method_3_code_42) ?_ (by decide) (by decide)
    rw [e101]
    exact ⟨congrArg (fun z => some (Value.int z)) (show (own_rr1_j29 q0) = (own_rr1_fn q0) from (show (own_rr1_j29 q0) = (own_rr1_j29 q0) from rfl).trans (by simp only [own_rr1_fn])), N0, rfl⟩
  by_cases hc107 : (0 : Int64) < q0
  · refine Goes.step (B := (T101.setTop (mkF m 32 #[.val (.ref o0), .val (.int (0 : Int32)), .val (.ref c0), .val (.int (1 : Int32)), .val (.int (0 : Int32)), .val (.long q0), .second] []))) (fun _ k => XS.ifNo X101.here hx rfl (hb hby d_prog_13_method_3_code_29) rfl ((if0 _ _).trans (tlt ((lw_gt _ _).mpr hc107)).2.2.2) k) ?_
    refine Goes.step (B := (T101.setTop (mkF m 35 #[.val (.ref o0), .val (.int (1 : Int32)), .val (.ref c0), .val (.int (1 : Int32)), .val (.int (0 : Int32)), .val (.long q0), .second] []))) (fun _ k => XS.iinc X101.here hx rfl (hb hby d_prog_13_method_3_code_32) rfl (l' := #[.val (.ref o0), .val (.int (1 : Int32)), .val (.ref c0), .val (.int (1 : Int32)), .val (.int (0 : Int32)), .val (.long q0), .second]) rfl k) ?_
    rw [show own_rr1_j29 q0 = (1 : Int32) from by simp only [own_rr1_j29, if_pos hc107]] at J105
    exact J105
  · refine Goes.step (B := (T101.setTop (mkF m 35 #[.val (.ref o0), .val (.int (0 : Int32)), .val (.ref c0), .val (.int (1 : Int32)), .val (.int (0 : Int32)), .val (.long q0), .second] []))) (fun _ k => XS.ifYes X101.here hx rfl (pc0 := 29) (pc' := 35) rfl (hb hby d_prog_13_method_3_code_29) rfl ((if0 _ _).trans (flt (mt (lw_gt _ _).mp hc107)).2.2.2) (by decide) (by decide) k) ?_
    rw [show own_rr1_j29 q0 = (0 : Int32) from by simp only [own_rr1_j29, if_neg hc107]] at J105
    exact J105
theorem d_method_2_code_21 : decode method_2_code 21 = .ok (.iload_n 0, 1) := by decide +kernel
theorem d_method_2_code_22 : decode method_2_code 22 = .ok (.iconst 2, 1) := by decide +kernel
theorem d_method_2_code_23 : decode method_2_code 23 = .ok (.if_icmp .ne 15, 3) := by decide +kernel
theorem d_method_2_code_26 : decode method_2_code 26 = .ok (.iconst 2, 1) := by decide +kernel
theorem d_method_2_code_27 : decode method_2_code 27 = .ok (.newarray .long, 2) := by decide +kernel
theorem d_method_2_code_29 : decode method_2_code 29 = .ok (.dup, 1) := by decide +kernel
theorem d_method_2_code_30 : decode method_2_code 30 = .ok (.iconst 0, 1) := by decide +kernel
theorem d_method_2_code_31 : decode method_2_code 31 = .ok (.lload_n 1, 1) := by decide +kernel
theorem d_method_2_code_32 : decode method_2_code 32 = .ok (.lastore, 1) := by decide +kernel
theorem d_method_2_code_33 : decode method_2_code 33 = .ok (.dup, 1) := by decide +kernel
theorem d_method_2_code_34 : decode method_2_code 34 = .ok (.iconst 1, 1) := by decide +kernel
theorem d_method_2_code_35 : decode method_2_code 35 = .ok (.lload_n 3, 1) := by decide +kernel
theorem d_method_2_code_36 : decode method_2_code 36 = .ok (.lastore, 1) := by decide +kernel
theorem d_method_2_code_37 : decode method_2_code 37 = .ok (.areturn, 1) := by decide +kernel
def own_bl2_Q (Z : State) (q0 : Int64) (q1 : Int64) (q2 : Int64) (q3 : Int64)  (h0 : Heap) (n0 : Nat) (v : Option Value) (h : Heap) (L : List Loc) : Prop := ∃ (b : Addr), ∃ (k1 : ClassId), (v = some (.ref b)) ∧ (Fr n0 L) ∧ (Keep h0 h []) ∧ (n0 ≤ b) ∧ (h0.size ≤ b) ∧ (Arv Z h b k1 .long (2 : Int32) [(.long q0), (.long q1)] (.long (0 : Int64)))
theorem own_bl2_ef (m : MethodId) (q0 : Int64) (q1 : Int64) (q2 : Int64) (q3 : Int64) : entryFrame m #[(.int (2 : Int32)), (.long q0), (.long q1), (.long q2), (.long q3)] 9 = mkF m 0 #[.val (.int (2 : Int32)), .val (.long q0), .second, .val (.long q1), .second, .val (.long q2), .second, .val (.long q3), .second] [] := by first | (simp [entryFrame, mkF, argsToLocals, Value.category]; done) | rfl
set_option maxRecDepth 65536 in
set_option maxHeartbeats 40000000 in
theorem own_bl2_rm (l : Launch) (Z : State) (a0 : Array Value) (hw : ∀ d ∈ tables_1, d.before a0 Z = true) (ws : List Jvm.Cond) (q0 : Int64) (q1 : Int64) (q2 : Int64) (q3 : Int64)  (h0 : Heap) (n0 : Nat) (Z0 : n0 ≤ h0.size)  :
    MetFree l (⟨"com/example/focustat/focustat/FocusedTopicRelevantRetrievedPinLaw", "build", "(IJJJJ)[J"⟩ : MethodName) (head1 (Jvm.Cond.code (⟨"com/example/focustat/focustat/FocusedTopicRelevantRetrievedPinLaw", "build", "(IJJJJ)[J"⟩ : MethodName) method_2_code 9 (some (.array .long)) :: ws) ({ frames := 0, cells := 1, slots := 2, locals := 0 } : Room)) (fun a U => a = #[(.int (2 : Int32)), (.long q0), (.long q1), (.long q2), (.long q3)] ∧ Z.Warmed39 U.vm ∧ U.heap = h0) (fun _ _ _ _ _ => True) (fun _ U o U' => ∃ v L, o = .returned v ∧ own_bl2_Q Z q0 q1 q2 q3 h0 n0 v U'.heap L ∧ FrameEnd U o U' L ({ frames := 0, cells := 1, slots := 2, locals := 0 } : Room).cells ({ frames := 0, cells := 1, slots := 2, locals := 0 } : Room).slots) := by
  refine MetFree.of_bodySF (plainFor_of_name pn_FocusedTopicRelevantRetrievedPinLaw) hisR ?_
  intro p e s m args below meth c s₁ Bd hml0 hP hK
  obtain ⟨rfl, hZ, hh⟩ := hP
  have hx := Bd.exec
  have hby := Bd.bytes
  have hml : c.maxLocals = 9 := hml0
  have hown : s.vm.findClass "com/example/focustat/focustat/FocusedTopicRelevantRetrievedPinLaw" = some m.cls := findClass_of_methodNamed Bd.named
  have hnm := (name_of_methodNamed Bd.named Bd.method).1
  have hlk : meth.locks = false := BodyLoose.notSynchronized Bd
  have hrt := Bd.returns
  have X0 : Stand p l e ({ frames := 0, cells := 1, slots := 2, locals := 0 } : Room) s m #[(.int (2 : Int32)), (.long q0), (.long q1), (.long q2), (.long q3)] below meth c s₁ [] 0 0 := Stand.of_body Bd
  have e0 : s₁.heap = h0 := by rw [← hh, Bd.state]; rfl
  have N0 := Fr.nil n0
  refine Goes.enter (kc := ({ frames := 0, cells := 1, slots := 2, locals := 0 } : Room).cells) (kn := ({ frames := 0, cells := 1, slots := 2, locals := 0 } : Room).slots) (Q := own_bl2_Q Z q0 q1 q2 q3 h0 n0) (own_bl2_ef m q0 q1 q2 q3) ?_
  refine Goes.step (B := (s₁.setTop (mkF m 1 #[.val (.int (2 : Int32)), .val (.long q0), .second, .val (.long q1), .second, .val (.long q2), .second, .val (.long q3), .second] [(.int (2 : Int32))]))) (fun _ k => XS.iloadN X0.here hx rfl (hb hby d_method_2_code_0) rfl k) ?_
  have hc101 : ¬ ((2 : Int32) = (0 : Int32)) := by decide
  refine Goes.step (B := (s₁.setTop (mkF m 8 #[.val (.int (2 : Int32)), .val (.long q0), .second, .val (.long q1), .second, .val (.long q2), .second, .val (.long q3), .second] []))) (fun _ k => XS.ifYes X0.here hx rfl (pc0 := 1) (pc' := 8) rfl (hb hby d_method_2_code_1) rfl ((if0 _ _).trans (feq hc101).2) (by decide) (by decide) k) ?_
  refine Goes.step (B := (s₁.setTop (mkF m 9 #[.val (.int (2 : Int32)), .val (.long q0), .second, .val (.long q1), .second, .val (.long q2), .second, .val (.long q3), .second] [(.int (2 : Int32))]))) (fun _ k => XS.iloadN X0.here hx rfl (hb hby d_method_2_code_8) rfl k) ?_
  refine Goes.step (B := (s₁.setTop (mkF m 10 #[.val (.int (2 : Int32)), .val (.long q0), .second, .val (.long q1), .second, .val (.long q2), .second, .val (.long q3), .second] [(.int (1 : Int32)), (.int (2 : Int32))]))) (fun _ k => XS.iconst X0.here hx rfl (hb hby d_method_2_code_9) k) ?_
  have hc102 : ¬ ((2 : Int32) = (1 : Int32)) := by decide
  refine Goes.step (B := (s₁.setTop (mkF m 21 #[.val (.int (2 : Int32)), .val (.long q0), .second, .val (.long q1), .second, .val (.long q2), .second, .val (.long q3), .second] []))) (fun _ k => XS.icmpYes X0.here hx rfl (pc0 := 10) (pc' := 21) rfl (hb hby d_method_2_code_10) rfl (feq hc102).2 (by decide) (by decide) k) ?_
  refine Goes.step (B := (s₁.setTop (mkF m 22 #[.val (.int (2 : Int32)), .val (.long q0), .second, .val (.long q1), .second, .val (.long q2), .second, .val (.long q3), .second] [(.int (2 : Int32))]))) (fun _ k => XS.iloadN X0.here hx rfl (hb hby d_method_2_code_21) rfl k) ?_
  refine Goes.step (B := (s₁.setTop (mkF m 23 #[.val (.int (2 : Int32)), .val (.long q0), .second, .val (.long q1), .second, .val (.long q2), .second, .val (.long q3), .second] [(.int (2 : Int32)), (.int (2 : Int32))]))) (fun _ k => XS.iconst X0.here hx rfl (hb hby d_method_2_code_22) k) ?_
  have hc103 : (2 : Int32) = (2 : Int32) := by decide
  refine Goes.step (B := (s₁.setTop (mkF m 26 #[.val (.int (2 : Int32)), .val (.long q0), .second, .val (.long q1), .second, .val (.long q2), .second, .val (.long q3), .second] []))) (fun _ k => XS.icmpNo X0.here hx rfl (hb hby d_method_2_code_23) rfl (teq hc103).2 k) ?_
  refine Goes.step (B := (s₁.setTop (mkF m 27 #[.val (.int (2 : Int32)), .val (.long q0), .second, .val (.long q1), .second, .val (.long q2), .second, .val (.long q3), .second] [(.int (2 : Int32))]))) (fun _ k => XS.iconst X0.here hx rfl (hb hby d_method_2_code_26) k) ?_
  obtain ⟨T104, h104, k104, X104, e104, E104, A104, st104⟩ := newP X0 hx hZ (hw _ (List.mem_of_getElem? (i := 4) rfl)) e0 (g := (mkF m 27 #[.val (.int (2 : Int32)), .val (.long q0), .second, .val (.long q1), .second, .val (.long q2), .second, .val (.long q3), .second] [(.int (2 : Int32))])) rfl (hb hby d_method_2_code_27) rfl (by decide) (cap := 2) (by decide) (by decide) (by decide) (by decide)
  obtain ⟨b104, g104⟩ : ∃ z, z = h0.size := ⟨_, rfl⟩
  rw [← g104] at A104 st104
  have gn104 : n0 ≤ b104 := Nat.le_trans Z0 (Nat.le_of_eq g104.symm)
  have sz104 : h0.size ≤ b104 := Nat.le_trans (Keep.refl h0 []).1 (Nat.le_of_eq g104.symm)
  have V104 : Arv Z h104 b104 k104 .long (2 : Int32) [(.long (0 : Int64)), (.long (0 : Int64))] (.long (0 : Int64)) := (Arv.new A104 (by decide)).pad (pad_rep [] (.long (0 : Int64)) 2)
  have Z104 : n0 ≤ h104.size := Nat.le_trans Z0 E104.1
  have K104 : Keep h0 h104 [] := (Keep.refl h0 []).ext E104
  refine Goes.step (B := (T104.setTop (mkF m 29 #[.val (.int (2 : Int32)), .val (.long q0), .second, .val (.long q1), .second, .val (.long q2), .second, .val (.long q3), .second] [(.ref b104)]))) (fun _ k => st104 _ k) ?_
  refine Goes.step (B := (T104.setTop (mkF m 30 #[.val (.int (2 : Int32)), .val (.long q0), .second, .val (.long q1), .second, .val (.long q2), .second, .val (.long q3), .second] [(.ref b104), (.ref b104)]))) (fun _ k => XS.dup X104.here hx rfl (hb hby d_method_2_code_29) rfl rfl k) ?_
  refine Goes.step (B := (T104.setTop (mkF m 31 #[.val (.int (2 : Int32)), .val (.long q0), .second, .val (.long q1), .second, .val (.long q2), .second, .val (.long q3), .second] [(.int (0 : Int32)), (.ref b104), (.ref b104)]))) (fun _ k => XS.iconst X104.here hx rfl (hb hby d_method_2_code_30) k) ?_
  refine Goes.step (B := (T104.setTop (mkF m 32 #[.val (.int (2 : Int32)), .val (.long q0), .second, .val (.long q1), .second, .val (.long q2), .second, .val (.long q3), .second] [(.long q0), (.int (0 : Int32)), (.ref b104), (.ref b104)]))) (fun _ k => XS.lloadN X104.here hx rfl (hb hby d_method_2_code_31) rfl k) ?_
  obtain ⟨cl105, Ar105, q105, S105, M105, H105, G105⟩ := id V104
  have hin105 : ¬ ((0 : Int32) < 0 ∨ cl105.slots.size ≤ ((0 : Int32)).toNatClampNeg) := inb_of S105 ⟨by decide, by decide⟩
  obtain ⟨T105, h105, X105, e105, W105, st105⟩ := stJ X104 hx hZ e104 Ar105 (j := (0 : Int32)) hin105 (g := (mkF m 32 #[.val (.int (2 : Int32)), .val (.long q0), .second, .val (.long q1), .second, .val (.long q2), .second, .val (.long q3), .second] [(.long q0), (.int (0 : Int32)), (.ref b104), (.ref b104)])) rfl rfl (hb hby d_method_2_code_32)
  have N105 := Fr.snoc X105 N0 gn104
  have K105 : Keep h0 h105 [] := K104.wr W105 (Or.inr sz104)
  have Z105 : n0 ≤ h105.size := Nat.le_trans Z104 (Nat.le_of_eq W105.size.symm)
  have V105 : Arv Z h105 b104 k104 .long (2 : Int32) [(.long q0), (.long (0 : Int64))] (.long (0 : Int64)) := Arv.set Ar105 q105 S105 M105 H105 G105 rfl W105 0 rfl (Nat.le_of_ble_eq_true rfl)
  refine Goes.step (B := (T105.setTop (mkF m 33 #[.val (.int (2 : Int32)), .val (.long q0), .second, .val (.long q1), .second, .val (.long q2), .second, .val (.long q3), .second] [(.ref b104)]))) (fun _ k => st105 _ k) ?_
  refine Goes.step (B := (T105.setTop (mkF m 34 #[.val (.int (2 : Int32)), .val (.long q0), .second, .val (.long q1), .second, .val (.long q2), .second, .val (.long q3), .second] [(.ref b104), (.ref b104)]))) (fun _ k => XS.dup X105.here hx rfl (hb hby d_method_2_code_33) rfl rfl k) ?_
  refine Goes.step (B := (T105.setTop (mkF m 35 #[.val (.int (2 : Int32)), .val (.long q0), .second, .val (.long q1), .second, .val (.long q2), .second, .val (.long q3), .second] [(.int (1 : Int32)), (.ref b104), (.ref b104)]))) (fun _ k => XS.iconst X105.here hx rfl (hb hby d_method_2_code_34) k) ?_
  refine Goes.step (B := (T105.setTop (mkF m 36 #[.val (.int (2 : Int32)), .val (.long q0), .second, .val (.long q1), .second, .val (.long q2), .second, .val (.long q3), .second] [(.long q1), (.int (1 : Int32)), (.ref b104), (.ref b104)]))) (fun _ k => XS.lloadN X105.here hx rfl (hb hby d_method_2_code_35) rfl k) ?_
  obtain ⟨cl106, Ar106, q106, S106, M106, H106, G106⟩ := id V105
  have hin106 : ¬ ((1 : Int32) < 0 ∨ cl106.slots.size ≤ ((1 : Int32)).toNatClampNeg) := inb_of S106 ⟨by decide, by decide⟩
  obtain ⟨T106, h106, X106, e106, W106, st106⟩ := stJ X105 hx hZ e105 Ar106 (j := (1 : Int32)) hin106 (g := (mkF m 36 #[.val (.int (2 : Int32)), .val (.long q0), .second, .val (.long q1), .second, .val (.long q2), .second, .val (.long q3), .second] [(.long q1), (.int (1 : Int32)), (.ref b104), (.ref b104)])) rfl rfl (hb hby d_method_2_code_36)
  have N106 := Fr.snoc X106 N105 gn104
  have K106 : Keep h0 h106 [] := K105.wr W106 (Or.inr sz104)
  have Z106 : n0 ≤ h106.size := Nat.le_trans Z105 (Nat.le_of_eq W106.size.symm)
  have V106 : Arv Z h106 b104 k104 .long (2 : Int32) [(.long q0), (.long q1)] (.long (0 : Int64)) := Arv.set Ar106 q106 S106 M106 H106 G106 rfl W106 1 rfl (Nat.le_of_ble_eq_true rfl)
  refine Goes.step (B := (T106.setTop (mkF m 37 #[.val (.int (2 : Int32)), .val (.long q0), .second, .val (.long q1), .second, .val (.long q2), .second, .val (.long q3), .second] [(.ref b104)]))) (fun _ k => st106 _ k) ?_
  refine Goes.retR X106 hx hlk hrt rfl rfl rfl (hb hby d_method_2_code_37) ?_ (by decide) (by decide)
  rw [e106]
  exact ⟨b104, k104, rfl, N106, K106, gn104, sz104, V106⟩
def own_rr2_j29 (q0 : Int64) : Int32 := (if (0 : Int64) < q0 then (1 : Int32) else (0 : Int32))
def own_rr2_j29_t2 (q0 : Int64) (q1 : Int64) : Int32 := (if (0 : Int64) < q1 then ((own_rr2_j29 q0) + (1 : Int32)) else (own_rr2_j29 q0))
def own_rr2_fn (q0 : Int64) (q1 : Int64) : Int32 := (own_rr2_j29_t2 q0 q1)
def own_rr2_Q (Z : State) (o0 : Addr) (c0 : Addr) (k1 : ClassId) (q0 : Int64) (q1 : Int64) (h0 : Heap) (n0 : Nat) (v : Option Value) (h : Heap) (L : List Loc) : Prop := v = some (.int (own_rr2_fn q0 q1)) ∧ Fr n0 L ∧ h = h0
theorem own_rr2_ef (m : MethodId) (o0 : Addr) : entryFrame m #[(.ref o0)] 7 = mkF m 0 #[.val (.ref o0), .unset, .unset, .unset, .unset, .unset, .unset] [] := by first | (simp [entryFrame, mkF, argsToLocals, Value.category]; done) | rfl
set_option maxRecDepth 65536 in
set_option maxHeartbeats 40000000 in
theorem own_rr2_rm (l : Launch) (Z : State) (a0 : Array Value) (hw : ∀ d ∈ tables_1, d.before a0 Z = true) (ws : List Jvm.Cond) (o0 : Addr) (c0 : Addr) (k1 : ClassId) (q0 : Int64) (q1 : Int64) (h0 : Heap) (n0 : Nat) (Z0 : n0 ≤ h0.size) (pr0 : Fld Z h0 o0 "com/example/focustat/focustat/FocusedTopic" "covered" "[J" (.ref c0)) (pr1 : Arv Z h0 c0 k1 .long (2 : Int32) [(.long q0), (.long q1)] (.long (0 : Int64))) :
    MetFree l (⟨"com/example/focustat/focustat/FocusedTopic", "relevantRetrieved", "()I"⟩ : MethodName) (head1 (Jvm.Cond.code (⟨"com/example/focustat/focustat/FocusedTopic", "relevantRetrieved", "()I"⟩ : MethodName) prog_13_method_3_code 7 (some .int) :: ws) ({ frames := 0, cells := 0, slots := 0, locals := 0 } : Room)) (fun a U => a = #[(.ref o0)] ∧ Z.Warmed39 U.vm ∧ U.heap = h0) (fun _ _ _ _ _ => True) (fun _ U o U' => ∃ v L, o = .returned v ∧ own_rr2_Q Z o0 c0 k1 q0 q1 h0 n0 v U'.heap L ∧ FrameEnd U o U' L ({ frames := 0, cells := 0, slots := 0, locals := 0 } : Room).cells ({ frames := 0, cells := 0, slots := 0, locals := 0 } : Room).slots) := by
  refine MetFree.of_bodySF (plainFor_of_name pn_FocusedTopic) hisR ?_
  intro p e s m args below meth c s₁ Bd hml0 hP hK
  obtain ⟨rfl, hZ, hh⟩ := hP
  have hx := Bd.exec
  have hby := Bd.bytes
  have hml : c.maxLocals = 7 := hml0
  have hown : s.vm.findClass "com/example/focustat/focustat/FocusedTopic" = some m.cls := findClass_of_methodNamed Bd.named
  have hnm := (name_of_methodNamed Bd.named Bd.method).1
  have hlk : meth.locks = false := BodyLoose.notSynchronized Bd
  have hrt := Bd.returns
  have X0 : Stand p l e ({ frames := 0, cells := 0, slots := 0, locals := 0 } : Room) s m #[(.ref o0)] below meth c s₁ [] 0 0 := Stand.of_body Bd
  have e0 : s₁.heap = h0 := by rw [← hh, Bd.state]; rfl
  have N0 := Fr.nil n0
  refine Goes.enter (kc := ({ frames := 0, cells := 0, slots := 0, locals := 0 } : Room).cells) (kn := ({ frames := 0, cells := 0, slots := 0, locals := 0 } : Room).slots) (Q := own_rr2_Q Z o0 c0 k1 q0 q1 h0 n0) (own_rr2_ef m o0) ?_
  refine Goes.step (B := (s₁.setTop (mkF m 1 #[.val (.ref o0), .unset, .unset, .unset, .unset, .unset, .unset] [(.int (0 : Int32))]))) (fun _ k => XS.iconst X0.here hx rfl (hb hby d_prog_13_method_3_code_0) k) ?_
  refine Goes.step (B := (s₁.setTop (mkF m 2 #[.val (.ref o0), .val (.int (0 : Int32)), .unset, .unset, .unset, .unset, .unset] []))) (fun _ k => XS.istoreN X0.here hx rfl (hb hby d_prog_13_method_3_code_1) rfl (l' := #[.val (.ref o0), .val (.int (0 : Int32)), .unset, .unset, .unset, .unset, .unset]) rfl k) ?_
  refine Goes.step (B := (s₁.setTop (mkF m 3 #[.val (.ref o0), .val (.int (0 : Int32)), .unset, .unset, .unset, .unset, .unset] [(.ref o0)]))) (fun _ k => XS.aloadN X0.here hx rfl (hb hby d_prog_13_method_3_code_2) rfl rfl k) ?_
  obtain ⟨T101, X101, e101, st101⟩ := getF X0 hx hZ hown (host := "") (Or.inl (hw _ (List.mem_of_getElem? (i := 19) rfl))) Via.refl e0 pr0 (g := (mkF m 3 #[.val (.ref o0), .val (.int (0 : Int32)), .unset, .unset, .unset, .unset, .unset] [(.ref o0)])) rfl rfl (hb hby d_prog_13_method_3_code_3)
  refine Goes.step (B := (T101.setTop (mkF m 6 #[.val (.ref o0), .val (.int (0 : Int32)), .unset, .unset, .unset, .unset, .unset] [(.ref c0)]))) (fun _ k => st101 _ k) ?_
  refine Goes.step (B := (T101.setTop (mkF m 7 #[.val (.ref o0), .val (.int (0 : Int32)), .val (.ref c0), .unset, .unset, .unset, .unset] []))) (fun _ k => XS.astoreN X101.here hx rfl (hb hby d_prog_13_method_3_code_6) rfl rfl (l' := #[.val (.ref o0), .val (.int (0 : Int32)), .val (.ref c0), .unset, .unset, .unset, .unset]) rfl k) ?_
  refine Goes.step (B := (T101.setTop (mkF m 8 #[.val (.ref o0), .val (.int (0 : Int32)), .val (.ref c0), .unset, .unset, .unset, .unset] [(.ref c0)]))) (fun _ k => XS.aloadN X101.here hx rfl (hb hby d_prog_13_method_3_code_7) rfl rfl k) ?_
  obtain ⟨cl102, Ar102, q102, S102, M102, H102, G102⟩ := id pr1
  refine Goes.step (B := (T101.setTop (mkF m 9 #[.val (.ref o0), .val (.int (0 : Int32)), .val (.ref c0), .unset, .unset, .unset, .unset] [(.int (2 : Int32))]))) (fun _ k => X101.arraylength hx (by rw [e101]; exact Ar102.1) (State.isArrayOf_alike hZ.alike Ar102.2.1) (g := (mkF m 8 #[.val (.ref o0), .val (.int (0 : Int32)), .val (.ref c0), .unset, .unset, .unset, .unset] [(.ref c0)])) rfl rfl (hb hby d_prog_13_method_3_code_8) _ (by rw [len_of S102 M102]; exact k)) ?_
  refine Goes.step (B := (T101.setTop (mkF m 10 #[.val (.ref o0), .val (.int (0 : Int32)), .val (.ref c0), .val (.int (2 : Int32)), .unset, .unset, .unset] []))) (fun _ k => XS.istoreN X101.here hx rfl (hb hby d_prog_13_method_3_code_9) rfl (l' := #[.val (.ref o0), .val (.int (0 : Int32)), .val (.ref c0), .val (.int (2 : Int32)), .unset, .unset, .unset]) rfl k) ?_
  refine Goes.step (B := (T101.setTop (mkF m 11 #[.val (.ref o0), .val (.int (0 : Int32)), .val (.ref c0), .val (.int (2 : Int32)), .unset, .unset, .unset] [(.int (0 : Int32))]))) (fun _ k => XS.iconst X101.here hx rfl (hb hby d_prog_13_method_3_code_10) k) ?_
  refine Goes.step (B := (T101.setTop (mkF m 13 #[.val (.ref o0), .val (.int (0 : Int32)), .val (.ref c0), .val (.int (2 : Int32)), .val (.int (0 : Int32)), .unset, .unset] []))) (fun _ k => XS.istore X101.here hx rfl (hb hby d_prog_13_method_3_code_11) rfl (l' := #[.val (.ref o0), .val (.int (0 : Int32)), .val (.ref c0), .val (.int (2 : Int32)), .val (.int (0 : Int32)), .unset, .unset]) rfl k) ?_
  refine Goes.step (B := (T101.setTop (mkF m 15 #[.val (.ref o0), .val (.int (0 : Int32)), .val (.ref c0), .val (.int (2 : Int32)), .val (.int (0 : Int32)), .unset, .unset] [(.int (0 : Int32))]))) (fun _ k => XS.iload X101.here hx rfl (hb hby d_prog_13_method_3_code_13) rfl k) ?_
  refine Goes.step (B := (T101.setTop (mkF m 16 #[.val (.ref o0), .val (.int (0 : Int32)), .val (.ref c0), .val (.int (2 : Int32)), .val (.int (0 : Int32)), .unset, .unset] [(.int (2 : Int32)), (.int (0 : Int32))]))) (fun _ k => XS.iloadN X101.here hx rfl (hb hby d_prog_13_method_3_code_15) rfl k) ?_
  have hc103 : (0 : Int32) < (2 : Int32) := by decide
  refine Goes.step (B := (T101.setTop (mkF m 19 #[.val (.ref o0), .val (.int (0 : Int32)), .val (.ref c0), .val (.int (2 : Int32)), .val (.int (0 : Int32)), .unset, .unset] []))) (fun _ k => XS.icmpNo X101.here hx rfl (hb hby d_prog_13_method_3_code_16) rfl (tlt hc103).2.1 k) ?_
  refine Goes.step (B := (T101.setTop (mkF m 20 #[.val (.ref o0), .val (.int (0 : Int32)), .val (.ref c0), .val (.int (2 : Int32)), .val (.int (0 : Int32)), .unset, .unset] [(.ref c0)]))) (fun _ k => XS.aloadN X101.here hx rfl (hb hby d_prog_13_method_3_code_19) rfl rfl k) ?_
  refine Goes.step (B := (T101.setTop (mkF m 22 #[.val (.ref o0), .val (.int (0 : Int32)), .val (.ref c0), .val (.int (2 : Int32)), .val (.int (0 : Int32)), .unset, .unset] [(.int (0 : Int32)), (.ref c0)]))) (fun _ k => XS.iload X101.here hx rfl (hb hby d_prog_13_method_3_code_20) rfl k) ?_
  obtain ⟨cl104, Ar104, q104, S104, M104, H104, G104⟩ := id pr1
  have hin104 : ¬ ((0 : Int32) < 0 ∨ cl104.slots.size ≤ ((0 : Int32)).toNatClampNeg) := inb_of S104 ⟨by decide, by decide⟩
  have hat104 : cl104.slots[((0 : Int32)).toNatClampNeg]? = some (.long q0) := H104 0 (by rw [S104]; decide)
  refine Goes.step (B := (T101.setTop (mkF m 23 #[.val (.ref o0), .val (.int (0 : Int32)), .val (.ref c0), .val (.int (2 : Int32)), .val (.int (0 : Int32)), .unset, .unset] [(.long q0)]))) (fun _ k => X101.laload hx (j := (0 : Int32)) (v := (.long q0)) (by rw [e101]; exact Ar104.1) (State.isArrayOf_alike hZ.alike Ar104.2.1) Ar104.2.2 hin104 hat104 (g := (mkF m 22 #[.val (.ref o0), .val (.int (0 : Int32)), .val (.ref c0), .val (.int (2 : Int32)), .val (.int (0 : Int32)), .unset, .unset] [(.int (0 : Int32)), (.ref c0)])) rfl rfl (hb hby d_prog_13_method_3_code_22) _ k) ?_
  refine Goes.step (B := (T101.setTop (mkF m 25 #[.val (.ref o0), .val (.int (0 : Int32)), .val (.ref c0), .val (.int (2 : Int32)), .val (.int (0 : Int32)), .val (.long q0), .second] []))) (fun _ k => XS.lstore X101.here hx rfl (hb hby d_prog_13_method_3_code_23) rfl (l' := #[.val (.ref o0), .val (.int (0 : Int32)), .val (.ref c0), .val (.int (2 : Int32)), .val (.int (0 : Int32)), .val (.long q0), .second]) rfl k) ?_
  refine Goes.step (B := (T101.setTop (mkF m 27 #[.val (.ref o0), .val (.int (0 : Int32)), .val (.ref c0), .val (.int (2 : Int32)), .val (.int (0 : Int32)), .val (.long q0), .second] [(.long q0)]))) (fun _ k => XS.lload X101.here hx rfl (hb hby d_prog_13_method_3_code_25) rfl k) ?_
  refine Goes.step (B := (T101.setTop (mkF m 28 #[.val (.ref o0), .val (.int (0 : Int32)), .val (.ref c0), .val (.int (2 : Int32)), .val (.int (0 : Int32)), .val (.long q0), .second] [(.long (0 : Int64)), (.long q0)]))) (fun _ k => XS.lconst X101.here hx rfl (hb hby d_prog_13_method_3_code_27) k) ?_
  refine Goes.step (B := (T101.setTop (mkF m 29 #[.val (.ref o0), .val (.int (0 : Int32)), .val (.ref c0), .val (.int (2 : Int32)), .val (.int (0 : Int32)), .val (.long q0), .second] [(.int (lcmpW q0 (0 : Int64)))]))) (fun _ k => XS.lcmp X101.here hx rfl (hb hby d_prog_13_method_3_code_28) rfl k) ?_
  have J105 : Goes p e below s ({ frames := 0, cells := 0, slots := 0, locals := 0 } : Room).cells ({ frames := 0, cells := 0, slots := 0, locals := 0 } : Room).slots (own_rr2_Q Z o0 c0 k1 q0 q1 h0 n0) (T101.setTop (mkF m 35 #[.val (.ref o0), .val (.int (own_rr2_j29 q0)), .val (.ref c0), .val (.int (2 : Int32)), .val (.int (0 : Int32)), .val (.long q0), .second] [])) := by
    refine Goes.step (B := (T101.setTop (mkF m 38 #[.val (.ref o0), .val (.int (own_rr2_j29 q0)), .val (.ref c0), .val (.int (2 : Int32)), .val (.int (1 : Int32)), .val (.long q0), .second] []))) (fun _ k => XS.iinc X101.here hx rfl (hb hby d_prog_13_method_3_code_35) rfl (l' := #[.val (.ref o0), .val (.int (own_rr2_j29 q0)), .val (.ref c0), .val (.int (2 : Int32)), .val (.int (1 : Int32)), .val (.long q0), .second]) rfl k) ?_
    refine Goes.step (B := (T101.setTop (mkF m 13 #[.val (.ref o0), .val (.int (own_rr2_j29 q0)), .val (.ref c0), .val (.int (2 : Int32)), .val (.int (1 : Int32)), .val (.long q0), .second] []))) (fun _ k => XS.goto X101.here hx rfl (pc0 := 38) (pc' := 13) rfl (hb hby d_prog_13_method_3_code_38) (by decide) (by decide) k) ?_
    refine Goes.step (B := (T101.setTop (mkF m 15 #[.val (.ref o0), .val (.int (own_rr2_j29 q0)), .val (.ref c0), .val (.int (2 : Int32)), .val (.int (1 : Int32)), .val (.long q0), .second] [(.int (1 : Int32))]))) (fun _ k => XS.iload X101.here hx rfl (hb hby d_prog_13_method_3_code_13) rfl k) ?_
    refine Goes.step (B := (T101.setTop (mkF m 16 #[.val (.ref o0), .val (.int (own_rr2_j29 q0)), .val (.ref c0), .val (.int (2 : Int32)), .val (.int (1 : Int32)), .val (.long q0), .second] [(.int (2 : Int32)), (.int (1 : Int32))]))) (fun _ k => XS.iloadN X101.here hx rfl (hb hby d_prog_13_method_3_code_15) rfl k) ?_
    have hc106 : (1 : Int32) < (2 : Int32) := by decide
    refine Goes.step (B := (T101.setTop (mkF m 19 #[.val (.ref o0), .val (.int (own_rr2_j29 q0)), .val (.ref c0), .val (.int (2 : Int32)), .val (.int (1 : Int32)), .val (.long q0), .second] []))) (fun _ k => XS.icmpNo X101.here hx rfl (hb hby d_prog_13_method_3_code_16) rfl (tlt hc106).2.1 k) ?_
    refine Goes.step (B := (T101.setTop (mkF m 20 #[.val (.ref o0), .val (.int (own_rr2_j29 q0)), .val (.ref c0), .val (.int (2 : Int32)), .val (.int (1 : Int32)), .val (.long q0), .second] [(.ref c0)]))) (fun _ k => XS.aloadN X101.here hx rfl (hb hby d_prog_13_method_3_code_19) rfl rfl k) ?_
    refine Goes.step (B := (T101.setTop (mkF m 22 #[.val (.ref o0), .val (.int (own_rr2_j29 q0)), .val (.ref c0), .val (.int (2 : Int32)), .val (.int (1 : Int32)), .val (.long q0), .second] [(.int (1 : Int32)), (.ref c0)]))) (fun _ k => XS.iload X101.here hx rfl (hb hby d_prog_13_method_3_code_20) rfl k) ?_
    obtain ⟨cl107, Ar107, q107, S107, M107, H107, G107⟩ := id pr1
    have hin107 : ¬ ((1 : Int32) < 0 ∨ cl107.slots.size ≤ ((1 : Int32)).toNatClampNeg) := inb_of S107 ⟨by decide, by decide⟩
    have hat107 : cl107.slots[((1 : Int32)).toNatClampNeg]? = some (.long q1) := H107 1 (by rw [S107]; decide)
    refine Goes.step (B := (T101.setTop (mkF m 23 #[.val (.ref o0), .val (.int (own_rr2_j29 q0)), .val (.ref c0), .val (.int (2 : Int32)), .val (.int (1 : Int32)), .val (.long q0), .second] [(.long q1)]))) (fun _ k => X101.laload hx (j := (1 : Int32)) (v := (.long q1)) (by rw [e101]; exact Ar107.1) (State.isArrayOf_alike hZ.alike Ar107.2.1) Ar107.2.2 hin107 hat107 (g := (mkF m 22 #[.val (.ref o0), .val (.int (own_rr2_j29 q0)), .val (.ref c0), .val (.int (2 : Int32)), .val (.int (1 : Int32)), .val (.long q0), .second] [(.int (1 : Int32)), (.ref c0)])) rfl rfl (hb hby d_prog_13_method_3_code_22) _ k) ?_
    refine Goes.step (B := (T101.setTop (mkF m 25 #[.val (.ref o0), .val (.int (own_rr2_j29 q0)), .val (.ref c0), .val (.int (2 : Int32)), .val (.int (1 : Int32)), .val (.long q1), .second] []))) (fun _ k => XS.lstore X101.here hx rfl (hb hby d_prog_13_method_3_code_23) rfl (l' := #[.val (.ref o0), .val (.int (own_rr2_j29 q0)), .val (.ref c0), .val (.int (2 : Int32)), .val (.int (1 : Int32)), .val (.long q1), .second]) rfl k) ?_
    refine Goes.step (B := (T101.setTop (mkF m 27 #[.val (.ref o0), .val (.int (own_rr2_j29 q0)), .val (.ref c0), .val (.int (2 : Int32)), .val (.int (1 : Int32)), .val (.long q1), .second] [(.long q1)]))) (fun _ k => XS.lload X101.here hx rfl (hb hby d_prog_13_method_3_code_25) rfl k) ?_
    refine Goes.step (B := (T101.setTop (mkF m 28 #[.val (.ref o0), .val (.int (own_rr2_j29 q0)), .val (.ref c0), .val (.int (2 : Int32)), .val (.int (1 : Int32)), .val (.long q1), .second] [(.long (0 : Int64)), (.long q1)]))) (fun _ k => XS.lconst X101.here hx rfl (hb hby d_prog_13_method_3_code_27) k) ?_
    refine Goes.step (B := (T101.setTop (mkF m 29 #[.val (.ref o0), .val (.int (own_rr2_j29 q0)), .val (.ref c0), .val (.int (2 : Int32)), .val (.int (1 : Int32)), .val (.long q1), .second] [(.int (lcmpW q1 (0 : Int64)))]))) (fun _ k => XS.lcmp X101.here hx rfl (hb hby d_prog_13_method_3_code_28) rfl k) ?_
    have J108 : Goes p e below s ({ frames := 0, cells := 0, slots := 0, locals := 0 } : Room).cells ({ frames := 0, cells := 0, slots := 0, locals := 0 } : Room).slots (own_rr2_Q Z o0 c0 k1 q0 q1 h0 n0) (T101.setTop (mkF m 35 #[.val (.ref o0), .val (.int (own_rr2_j29_t2 q0 q1)), .val (.ref c0), .val (.int (2 : Int32)), .val (.int (1 : Int32)), .val (.long q1), .second] [])) := by
      refine Goes.step (B := (T101.setTop (mkF m 38 #[.val (.ref o0), .val (.int (own_rr2_j29_t2 q0 q1)), .val (.ref c0), .val (.int (2 : Int32)), .val (.int (2 : Int32)), .val (.long q1), .second] []))) (fun _ k => XS.iinc X101.here hx rfl (hb hby d_prog_13_method_3_code_35) rfl (l' := #[.val (.ref o0), .val (.int (own_rr2_j29_t2 q0 q1)), .val (.ref c0), .val (.int (2 : Int32)), .val (.int (2 : Int32)), .val (.long q1), .second]) rfl k) ?_
      refine Goes.step (B := (T101.setTop (mkF m 13 #[.val (.ref o0), .val (.int (own_rr2_j29_t2 q0 q1)), .val (.ref c0), .val (.int (2 : Int32)), .val (.int (2 : Int32)), .val (.long q1), .second] []))) (fun _ k => XS.goto X101.here hx rfl (pc0 := 38) (pc' := 13) rfl (hb hby d_prog_13_method_3_code_38) (by decide) (by decide) k) ?_
      refine Goes.step (B := (T101.setTop (mkF m 15 #[.val (.ref o0), .val (.int (own_rr2_j29_t2 q0 q1)), .val (.ref c0), .val (.int (2 : Int32)), .val (.int (2 : Int32)), .val (.long q1), .second] [(.int (2 : Int32))]))) (fun _ k => XS.iload X101.here hx rfl (hb hby d_prog_13_method_3_code_13) rfl k) ?_
      refine Goes.step (B := (T101.setTop (mkF m 16 #[.val (.ref o0), .val (.int (own_rr2_j29_t2 q0 q1)), .val (.ref c0), .val (.int (2 : Int32)), .val (.int (2 : Int32)), .val (.long q1), .second] [(.int (2 : Int32)), (.int (2 : Int32))]))) (fun _ k => XS.iloadN X101.here hx rfl (hb hby d_prog_13_method_3_code_15) rfl k) ?_
      have hc109 : ¬ ((2 : Int32) < (2 : Int32)) := by decide
      refine Goes.step (B := (T101.setTop (mkF m 41 #[.val (.ref o0), .val (.int (own_rr2_j29_t2 q0 q1)), .val (.ref c0), .val (.int (2 : Int32)), .val (.int (2 : Int32)), .val (.long q1), .second] []))) (fun _ k => XS.icmpYes X101.here hx rfl (pc0 := 16) (pc' := 41) rfl (hb hby d_prog_13_method_3_code_16) rfl (flt hc109).2.1 (by decide) (by decide) k) ?_
      refine Goes.step (B := (T101.setTop (mkF m 42 #[.val (.ref o0), .val (.int (own_rr2_j29_t2 q0 q1)), .val (.ref c0), .val (.int (2 : Int32)), .val (.int (2 : Int32)), .val (.long q1), .second] [(.int (own_rr2_j29_t2 q0 q1))]))) (fun _ k => XS.iloadN X101.here hx rfl (hb hby d_prog_13_method_3_code_41) rfl k) ?_
      refine Goes.retI X101 hx hlk hrt (hb hby d_prog_13_method_3_code_42) ?_ (by decide) (by decide)
      rw [e101]
      exact ⟨congrArg (fun z => some (Value.int z)) (show (own_rr2_j29_t2 q0 q1) = (own_rr2_fn q0 q1) from (show (own_rr2_j29_t2 q0 q1) = (own_rr2_j29_t2 q0 q1) from rfl).trans (by simp only [own_rr2_fn])), N0, rfl⟩
    by_cases hc110 : (0 : Int64) < q1
    · refine Goes.step (B := (T101.setTop (mkF m 32 #[.val (.ref o0), .val (.int (own_rr2_j29 q0)), .val (.ref c0), .val (.int (2 : Int32)), .val (.int (1 : Int32)), .val (.long q1), .second] []))) (fun _ k => XS.ifNo X101.here hx rfl (hb hby d_prog_13_method_3_code_29) rfl ((if0 _ _).trans (tlt ((lw_gt _ _).mpr hc110)).2.2.2) k) ?_
      refine Goes.step (B := (T101.setTop (mkF m 35 #[.val (.ref o0), .val (.int ((own_rr2_j29 q0) + (1 : Int32))), .val (.ref c0), .val (.int (2 : Int32)), .val (.int (1 : Int32)), .val (.long q1), .second] []))) (fun _ k => XS.iinc X101.here hx rfl (hb hby d_prog_13_method_3_code_32) rfl (l' := #[.val (.ref o0), .val (.int ((own_rr2_j29 q0) + (1 : Int32))), .val (.ref c0), .val (.int (2 : Int32)), .val (.int (1 : Int32)), .val (.long q1), .second]) rfl k) ?_
      rw [show own_rr2_j29_t2 q0 q1 = ((own_rr2_j29 q0) + (1 : Int32)) from by simp only [own_rr2_j29_t2, if_pos hc110]] at J108
      exact J108
    · refine Goes.step (B := (T101.setTop (mkF m 35 #[.val (.ref o0), .val (.int (own_rr2_j29 q0)), .val (.ref c0), .val (.int (2 : Int32)), .val (.int (1 : Int32)), .val (.long q1), .second] []))) (fun _ k => XS.ifYes X101.here hx rfl (pc0 := 29) (pc' := 35) rfl (hb hby d_prog_13_method_3_code_29) rfl ((if0 _ _).trans (flt (mt (lw_gt _ _).mp hc110)).2.2.2) (by decide) (by decide) k) ?_
      rw [show own_rr2_j29_t2 q0 q1 = (own_rr2_j29 q0) from by simp only [own_rr2_j29_t2, if_neg hc110]] at J108
      exact J108
  by_cases hc111 : (0 : Int64) < q0
  · refine Goes.step (B := (T101.setTop (mkF m 32 #[.val (.ref o0), .val (.int (0 : Int32)), .val (.ref c0), .val (.int (2 : Int32)), .val (.int (0 : Int32)), .val (.long q0), .second] []))) (fun _ k => XS.ifNo X101.here hx rfl (hb hby d_prog_13_method_3_code_29) rfl ((if0 _ _).trans (tlt ((lw_gt _ _).mpr hc111)).2.2.2) k) ?_
    refine Goes.step (B := (T101.setTop (mkF m 35 #[.val (.ref o0), .val (.int (1 : Int32)), .val (.ref c0), .val (.int (2 : Int32)), .val (.int (0 : Int32)), .val (.long q0), .second] []))) (fun _ k => XS.iinc X101.here hx rfl (hb hby d_prog_13_method_3_code_32) rfl (l' := #[.val (.ref o0), .val (.int (1 : Int32)), .val (.ref c0), .val (.int (2 : Int32)), .val (.int (0 : Int32)), .val (.long q0), .second]) rfl k) ?_
    rw [show own_rr2_j29 q0 = (1 : Int32) from by simp only [own_rr2_j29, if_pos hc111]] at J105
    exact J105
  · refine Goes.step (B := (T101.setTop (mkF m 35 #[.val (.ref o0), .val (.int (0 : Int32)), .val (.ref c0), .val (.int (2 : Int32)), .val (.int (0 : Int32)), .val (.long q0), .second] []))) (fun _ k => XS.ifYes X101.here hx rfl (pc0 := 29) (pc' := 35) rfl (hb hby d_prog_13_method_3_code_29) rfl ((if0 _ _).trans (flt (mt (lw_gt _ _).mp hc111)).2.2.2) (by decide) (by decide) k) ?_
    rw [show own_rr2_j29 q0 = (0 : Int32) from by simp only [own_rr2_j29, if_neg hc111]] at J105
    exact J105
theorem d_method_2_code_38 : decode method_2_code 38 = .ok (.iload_n 0, 1) := by decide +kernel
theorem d_method_2_code_39 : decode method_2_code 39 = .ok (.iconst 3, 1) := by decide +kernel
theorem d_method_2_code_40 : decode method_2_code 40 = .ok (.if_icmp .ne 20, 3) := by decide +kernel
theorem d_method_2_code_43 : decode method_2_code 43 = .ok (.iconst 3, 1) := by decide +kernel
theorem d_method_2_code_44 : decode method_2_code 44 = .ok (.newarray .long, 2) := by decide +kernel
theorem d_method_2_code_46 : decode method_2_code 46 = .ok (.dup, 1) := by decide +kernel
theorem d_method_2_code_47 : decode method_2_code 47 = .ok (.iconst 0, 1) := by decide +kernel
theorem d_method_2_code_48 : decode method_2_code 48 = .ok (.lload_n 1, 1) := by decide +kernel
theorem d_method_2_code_49 : decode method_2_code 49 = .ok (.lastore, 1) := by decide +kernel
theorem d_method_2_code_50 : decode method_2_code 50 = .ok (.dup, 1) := by decide +kernel
theorem d_method_2_code_51 : decode method_2_code 51 = .ok (.iconst 1, 1) := by decide +kernel
theorem d_method_2_code_52 : decode method_2_code 52 = .ok (.lload_n 3, 1) := by decide +kernel
theorem d_method_2_code_53 : decode method_2_code 53 = .ok (.lastore, 1) := by decide +kernel
theorem d_method_2_code_54 : decode method_2_code 54 = .ok (.dup, 1) := by decide +kernel
theorem d_method_2_code_55 : decode method_2_code 55 = .ok (.iconst 2, 1) := by decide +kernel
theorem d_method_2_code_56 : decode method_2_code 56 = .ok (.lload 5, 2) := by decide +kernel
theorem d_method_2_code_58 : decode method_2_code 58 = .ok (.lastore, 1) := by decide +kernel
theorem d_method_2_code_59 : decode method_2_code 59 = .ok (.areturn, 1) := by decide +kernel
def own_bl3_Q (Z : State) (q0 : Int64) (q1 : Int64) (q2 : Int64) (q3 : Int64)  (h0 : Heap) (n0 : Nat) (v : Option Value) (h : Heap) (L : List Loc) : Prop := ∃ (b : Addr), ∃ (k1 : ClassId), (v = some (.ref b)) ∧ (Fr n0 L) ∧ (Keep h0 h []) ∧ (n0 ≤ b) ∧ (h0.size ≤ b) ∧ (Arv Z h b k1 .long (3 : Int32) [(.long q0), (.long q1), (.long q2)] (.long (0 : Int64)))
theorem own_bl3_ef (m : MethodId) (q0 : Int64) (q1 : Int64) (q2 : Int64) (q3 : Int64) : entryFrame m #[(.int (3 : Int32)), (.long q0), (.long q1), (.long q2), (.long q3)] 9 = mkF m 0 #[.val (.int (3 : Int32)), .val (.long q0), .second, .val (.long q1), .second, .val (.long q2), .second, .val (.long q3), .second] [] := by first | (simp [entryFrame, mkF, argsToLocals, Value.category]; done) | rfl
set_option maxRecDepth 65536 in
set_option maxHeartbeats 40000000 in
theorem own_bl3_rm (l : Launch) (Z : State) (a0 : Array Value) (hw : ∀ d ∈ tables_1, d.before a0 Z = true) (ws : List Jvm.Cond) (q0 : Int64) (q1 : Int64) (q2 : Int64) (q3 : Int64)  (h0 : Heap) (n0 : Nat) (Z0 : n0 ≤ h0.size)  :
    MetFree l (⟨"com/example/focustat/focustat/FocusedTopicRelevantRetrievedPinLaw", "build", "(IJJJJ)[J"⟩ : MethodName) (head1 (Jvm.Cond.code (⟨"com/example/focustat/focustat/FocusedTopicRelevantRetrievedPinLaw", "build", "(IJJJJ)[J"⟩ : MethodName) method_2_code 9 (some (.array .long)) :: ws) ({ frames := 0, cells := 1, slots := 3, locals := 0 } : Room)) (fun a U => a = #[(.int (3 : Int32)), (.long q0), (.long q1), (.long q2), (.long q3)] ∧ Z.Warmed39 U.vm ∧ U.heap = h0) (fun _ _ _ _ _ => True) (fun _ U o U' => ∃ v L, o = .returned v ∧ own_bl3_Q Z q0 q1 q2 q3 h0 n0 v U'.heap L ∧ FrameEnd U o U' L ({ frames := 0, cells := 1, slots := 3, locals := 0 } : Room).cells ({ frames := 0, cells := 1, slots := 3, locals := 0 } : Room).slots) := by
  refine MetFree.of_bodySF (plainFor_of_name pn_FocusedTopicRelevantRetrievedPinLaw) hisR ?_
  intro p e s m args below meth c s₁ Bd hml0 hP hK
  obtain ⟨rfl, hZ, hh⟩ := hP
  have hx := Bd.exec
  have hby := Bd.bytes
  have hml : c.maxLocals = 9 := hml0
  have hown : s.vm.findClass "com/example/focustat/focustat/FocusedTopicRelevantRetrievedPinLaw" = some m.cls := findClass_of_methodNamed Bd.named
  have hnm := (name_of_methodNamed Bd.named Bd.method).1
  have hlk : meth.locks = false := BodyLoose.notSynchronized Bd
  have hrt := Bd.returns
  have X0 : Stand p l e ({ frames := 0, cells := 1, slots := 3, locals := 0 } : Room) s m #[(.int (3 : Int32)), (.long q0), (.long q1), (.long q2), (.long q3)] below meth c s₁ [] 0 0 := Stand.of_body Bd
  have e0 : s₁.heap = h0 := by rw [← hh, Bd.state]; rfl
  have N0 := Fr.nil n0
  refine Goes.enter (kc := ({ frames := 0, cells := 1, slots := 3, locals := 0 } : Room).cells) (kn := ({ frames := 0, cells := 1, slots := 3, locals := 0 } : Room).slots) (Q := own_bl3_Q Z q0 q1 q2 q3 h0 n0) (own_bl3_ef m q0 q1 q2 q3) ?_
  refine Goes.step (B := (s₁.setTop (mkF m 1 #[.val (.int (3 : Int32)), .val (.long q0), .second, .val (.long q1), .second, .val (.long q2), .second, .val (.long q3), .second] [(.int (3 : Int32))]))) (fun _ k => XS.iloadN X0.here hx rfl (hb hby d_method_2_code_0) rfl k) ?_
  have hc101 : ¬ ((3 : Int32) = (0 : Int32)) := by decide
  refine Goes.step (B := (s₁.setTop (mkF m 8 #[.val (.int (3 : Int32)), .val (.long q0), .second, .val (.long q1), .second, .val (.long q2), .second, .val (.long q3), .second] []))) (fun _ k => XS.ifYes X0.here hx rfl (pc0 := 1) (pc' := 8) rfl (hb hby d_method_2_code_1) rfl ((if0 _ _).trans (feq hc101).2) (by decide) (by decide) k) ?_
  refine Goes.step (B := (s₁.setTop (mkF m 9 #[.val (.int (3 : Int32)), .val (.long q0), .second, .val (.long q1), .second, .val (.long q2), .second, .val (.long q3), .second] [(.int (3 : Int32))]))) (fun _ k => XS.iloadN X0.here hx rfl (hb hby d_method_2_code_8) rfl k) ?_
  refine Goes.step (B := (s₁.setTop (mkF m 10 #[.val (.int (3 : Int32)), .val (.long q0), .second, .val (.long q1), .second, .val (.long q2), .second, .val (.long q3), .second] [(.int (1 : Int32)), (.int (3 : Int32))]))) (fun _ k => XS.iconst X0.here hx rfl (hb hby d_method_2_code_9) k) ?_
  have hc102 : ¬ ((3 : Int32) = (1 : Int32)) := by decide
  refine Goes.step (B := (s₁.setTop (mkF m 21 #[.val (.int (3 : Int32)), .val (.long q0), .second, .val (.long q1), .second, .val (.long q2), .second, .val (.long q3), .second] []))) (fun _ k => XS.icmpYes X0.here hx rfl (pc0 := 10) (pc' := 21) rfl (hb hby d_method_2_code_10) rfl (feq hc102).2 (by decide) (by decide) k) ?_
  refine Goes.step (B := (s₁.setTop (mkF m 22 #[.val (.int (3 : Int32)), .val (.long q0), .second, .val (.long q1), .second, .val (.long q2), .second, .val (.long q3), .second] [(.int (3 : Int32))]))) (fun _ k => XS.iloadN X0.here hx rfl (hb hby d_method_2_code_21) rfl k) ?_
  refine Goes.step (B := (s₁.setTop (mkF m 23 #[.val (.int (3 : Int32)), .val (.long q0), .second, .val (.long q1), .second, .val (.long q2), .second, .val (.long q3), .second] [(.int (2 : Int32)), (.int (3 : Int32))]))) (fun _ k => XS.iconst X0.here hx rfl (hb hby d_method_2_code_22) k) ?_
  have hc103 : ¬ ((3 : Int32) = (2 : Int32)) := by decide
  refine Goes.step (B := (s₁.setTop (mkF m 38 #[.val (.int (3 : Int32)), .val (.long q0), .second, .val (.long q1), .second, .val (.long q2), .second, .val (.long q3), .second] []))) (fun _ k => XS.icmpYes X0.here hx rfl (pc0 := 23) (pc' := 38) rfl (hb hby d_method_2_code_23) rfl (feq hc103).2 (by decide) (by decide) k) ?_
  refine Goes.step (B := (s₁.setTop (mkF m 39 #[.val (.int (3 : Int32)), .val (.long q0), .second, .val (.long q1), .second, .val (.long q2), .second, .val (.long q3), .second] [(.int (3 : Int32))]))) (fun _ k => XS.iloadN X0.here hx rfl (hb hby d_method_2_code_38) rfl k) ?_
  refine Goes.step (B := (s₁.setTop (mkF m 40 #[.val (.int (3 : Int32)), .val (.long q0), .second, .val (.long q1), .second, .val (.long q2), .second, .val (.long q3), .second] [(.int (3 : Int32)), (.int (3 : Int32))]))) (fun _ k => XS.iconst X0.here hx rfl (hb hby d_method_2_code_39) k) ?_
  have hc104 : (3 : Int32) = (3 : Int32) := by decide
  refine Goes.step (B := (s₁.setTop (mkF m 43 #[.val (.int (3 : Int32)), .val (.long q0), .second, .val (.long q1), .second, .val (.long q2), .second, .val (.long q3), .second] []))) (fun _ k => XS.icmpNo X0.here hx rfl (hb hby d_method_2_code_40) rfl (teq hc104).2 k) ?_
  refine Goes.step (B := (s₁.setTop (mkF m 44 #[.val (.int (3 : Int32)), .val (.long q0), .second, .val (.long q1), .second, .val (.long q2), .second, .val (.long q3), .second] [(.int (3 : Int32))]))) (fun _ k => XS.iconst X0.here hx rfl (hb hby d_method_2_code_43) k) ?_
  obtain ⟨T105, h105, k105, X105, e105, E105, A105, st105⟩ := newP X0 hx hZ (hw _ (List.mem_of_getElem? (i := 4) rfl)) e0 (g := (mkF m 44 #[.val (.int (3 : Int32)), .val (.long q0), .second, .val (.long q1), .second, .val (.long q2), .second, .val (.long q3), .second] [(.int (3 : Int32))])) rfl (hb hby d_method_2_code_44) rfl (by decide) (cap := 3) (by decide) (by decide) (by decide) (by decide)
  obtain ⟨b105, g105⟩ : ∃ z, z = h0.size := ⟨_, rfl⟩
  rw [← g105] at A105 st105
  have gn105 : n0 ≤ b105 := Nat.le_trans Z0 (Nat.le_of_eq g105.symm)
  have sz105 : h0.size ≤ b105 := Nat.le_trans (Keep.refl h0 []).1 (Nat.le_of_eq g105.symm)
  have V105 : Arv Z h105 b105 k105 .long (3 : Int32) [(.long (0 : Int64)), (.long (0 : Int64)), (.long (0 : Int64))] (.long (0 : Int64)) := (Arv.new A105 (by decide)).pad (pad_rep [] (.long (0 : Int64)) 3)
  have Z105 : n0 ≤ h105.size := Nat.le_trans Z0 E105.1
  have K105 : Keep h0 h105 [] := (Keep.refl h0 []).ext E105
  refine Goes.step (B := (T105.setTop (mkF m 46 #[.val (.int (3 : Int32)), .val (.long q0), .second, .val (.long q1), .second, .val (.long q2), .second, .val (.long q3), .second] [(.ref b105)]))) (fun _ k => st105 _ k) ?_
  refine Goes.step (B := (T105.setTop (mkF m 47 #[.val (.int (3 : Int32)), .val (.long q0), .second, .val (.long q1), .second, .val (.long q2), .second, .val (.long q3), .second] [(.ref b105), (.ref b105)]))) (fun _ k => XS.dup X105.here hx rfl (hb hby d_method_2_code_46) rfl rfl k) ?_
  refine Goes.step (B := (T105.setTop (mkF m 48 #[.val (.int (3 : Int32)), .val (.long q0), .second, .val (.long q1), .second, .val (.long q2), .second, .val (.long q3), .second] [(.int (0 : Int32)), (.ref b105), (.ref b105)]))) (fun _ k => XS.iconst X105.here hx rfl (hb hby d_method_2_code_47) k) ?_
  refine Goes.step (B := (T105.setTop (mkF m 49 #[.val (.int (3 : Int32)), .val (.long q0), .second, .val (.long q1), .second, .val (.long q2), .second, .val (.long q3), .second] [(.long q0), (.int (0 : Int32)), (.ref b105), (.ref b105)]))) (fun _ k => XS.lloadN X105.here hx rfl (hb hby d_method_2_code_48) rfl k) ?_
  obtain ⟨cl106, Ar106, q106, S106, M106, H106, G106⟩ := id V105
  have hin106 : ¬ ((0 : Int32) < 0 ∨ cl106.slots.size ≤ ((0 : Int32)).toNatClampNeg) := inb_of S106 ⟨by decide, by decide⟩
  obtain ⟨T106, h106, X106, e106, W106, st106⟩ := stJ X105 hx hZ e105 Ar106 (j := (0 : Int32)) hin106 (g := (mkF m 49 #[.val (.int (3 : Int32)), .val (.long q0), .second, .val (.long q1), .second, .val (.long q2), .second, .val (.long q3), .second] [(.long q0), (.int (0 : Int32)), (.ref b105), (.ref b105)])) rfl rfl (hb hby d_method_2_code_49)
  have N106 := Fr.snoc X106 N0 gn105
  have K106 : Keep h0 h106 [] := K105.wr W106 (Or.inr sz105)
  have Z106 : n0 ≤ h106.size := Nat.le_trans Z105 (Nat.le_of_eq W106.size.symm)
  have V106 : Arv Z h106 b105 k105 .long (3 : Int32) [(.long q0), (.long (0 : Int64)), (.long (0 : Int64))] (.long (0 : Int64)) := Arv.set Ar106 q106 S106 M106 H106 G106 rfl W106 0 rfl (Nat.le_of_ble_eq_true rfl)
  refine Goes.step (B := (T106.setTop (mkF m 50 #[.val (.int (3 : Int32)), .val (.long q0), .second, .val (.long q1), .second, .val (.long q2), .second, .val (.long q3), .second] [(.ref b105)]))) (fun _ k => st106 _ k) ?_
  refine Goes.step (B := (T106.setTop (mkF m 51 #[.val (.int (3 : Int32)), .val (.long q0), .second, .val (.long q1), .second, .val (.long q2), .second, .val (.long q3), .second] [(.ref b105), (.ref b105)]))) (fun _ k => XS.dup X106.here hx rfl (hb hby d_method_2_code_50) rfl rfl k) ?_
  refine Goes.step (B := (T106.setTop (mkF m 52 #[.val (.int (3 : Int32)), .val (.long q0), .second, .val (.long q1), .second, .val (.long q2), .second, .val (.long q3), .second] [(.int (1 : Int32)), (.ref b105), (.ref b105)]))) (fun _ k => XS.iconst X106.here hx rfl (hb hby d_method_2_code_51) k) ?_
  refine Goes.step (B := (T106.setTop (mkF m 53 #[.val (.int (3 : Int32)), .val (.long q0), .second, .val (.long q1), .second, .val (.long q2), .second, .val (.long q3), .second] [(.long q1), (.int (1 : Int32)), (.ref b105), (.ref b105)]))) (fun _ k => XS.lloadN X106.here hx rfl (hb hby d_method_2_code_52) rfl k) ?_
  obtain ⟨cl107, Ar107, q107, S107, M107, H107, G107⟩ := id V106
  have hin107 : ¬ ((1 : Int32) < 0 ∨ cl107.slots.size ≤ ((1 : Int32)).toNatClampNeg) := inb_of S107 ⟨by decide, by decide⟩
  obtain ⟨T107, h107, X107, e107, W107, st107⟩ := stJ X106 hx hZ e106 Ar107 (j := (1 : Int32)) hin107 (g := (mkF m 53 #[.val (.int (3 : Int32)), .val (.long q0), .second, .val (.long q1), .second, .val (.long q2), .second, .val (.long q3), .second] [(.long q1), (.int (1 : Int32)), (.ref b105), (.ref b105)])) rfl rfl (hb hby d_method_2_code_53)
  have N107 := Fr.snoc X107 N106 gn105
  have K107 : Keep h0 h107 [] := K106.wr W107 (Or.inr sz105)
  have Z107 : n0 ≤ h107.size := Nat.le_trans Z106 (Nat.le_of_eq W107.size.symm)
  have V107 : Arv Z h107 b105 k105 .long (3 : Int32) [(.long q0), (.long q1), (.long (0 : Int64))] (.long (0 : Int64)) := Arv.set Ar107 q107 S107 M107 H107 G107 rfl W107 1 rfl (Nat.le_of_ble_eq_true rfl)
  refine Goes.step (B := (T107.setTop (mkF m 54 #[.val (.int (3 : Int32)), .val (.long q0), .second, .val (.long q1), .second, .val (.long q2), .second, .val (.long q3), .second] [(.ref b105)]))) (fun _ k => st107 _ k) ?_
  refine Goes.step (B := (T107.setTop (mkF m 55 #[.val (.int (3 : Int32)), .val (.long q0), .second, .val (.long q1), .second, .val (.long q2), .second, .val (.long q3), .second] [(.ref b105), (.ref b105)]))) (fun _ k => XS.dup X107.here hx rfl (hb hby d_method_2_code_54) rfl rfl k) ?_
  refine Goes.step (B := (T107.setTop (mkF m 56 #[.val (.int (3 : Int32)), .val (.long q0), .second, .val (.long q1), .second, .val (.long q2), .second, .val (.long q3), .second] [(.int (2 : Int32)), (.ref b105), (.ref b105)]))) (fun _ k => XS.iconst X107.here hx rfl (hb hby d_method_2_code_55) k) ?_
  refine Goes.step (B := (T107.setTop (mkF m 58 #[.val (.int (3 : Int32)), .val (.long q0), .second, .val (.long q1), .second, .val (.long q2), .second, .val (.long q3), .second] [(.long q2), (.int (2 : Int32)), (.ref b105), (.ref b105)]))) (fun _ k => XS.lload X107.here hx rfl (hb hby d_method_2_code_56) rfl k) ?_
  obtain ⟨cl108, Ar108, q108, S108, M108, H108, G108⟩ := id V107
  have hin108 : ¬ ((2 : Int32) < 0 ∨ cl108.slots.size ≤ ((2 : Int32)).toNatClampNeg) := inb_of S108 ⟨by decide, by decide⟩
  obtain ⟨T108, h108, X108, e108, W108, st108⟩ := stJ X107 hx hZ e107 Ar108 (j := (2 : Int32)) hin108 (g := (mkF m 58 #[.val (.int (3 : Int32)), .val (.long q0), .second, .val (.long q1), .second, .val (.long q2), .second, .val (.long q3), .second] [(.long q2), (.int (2 : Int32)), (.ref b105), (.ref b105)])) rfl rfl (hb hby d_method_2_code_58)
  have N108 := Fr.snoc X108 N107 gn105
  have K108 : Keep h0 h108 [] := K107.wr W108 (Or.inr sz105)
  have Z108 : n0 ≤ h108.size := Nat.le_trans Z107 (Nat.le_of_eq W108.size.symm)
  have V108 : Arv Z h108 b105 k105 .long (3 : Int32) [(.long q0), (.long q1), (.long q2)] (.long (0 : Int64)) := Arv.set Ar108 q108 S108 M108 H108 G108 rfl W108 2 rfl (Nat.le_of_ble_eq_true rfl)
  refine Goes.step (B := (T108.setTop (mkF m 59 #[.val (.int (3 : Int32)), .val (.long q0), .second, .val (.long q1), .second, .val (.long q2), .second, .val (.long q3), .second] [(.ref b105)]))) (fun _ k => st108 _ k) ?_
  refine Goes.retR X108 hx hlk hrt rfl rfl rfl (hb hby d_method_2_code_59) ?_ (by decide) (by decide)
  rw [e108]
  exact ⟨b105, k105, rfl, N108, K108, gn105, sz105, V108⟩
def own_rr3_j29 (q0 : Int64) : Int32 := (if (0 : Int64) < q0 then (1 : Int32) else (0 : Int32))
def own_rr3_j29_t2 (q0 : Int64) (q1 : Int64) : Int32 := (if (0 : Int64) < q1 then ((own_rr3_j29 q0) + (1 : Int32)) else (own_rr3_j29 q0))
def own_rr3_j29_t3 (q0 : Int64) (q1 : Int64) (q2 : Int64) : Int32 := (if (0 : Int64) < q2 then ((own_rr3_j29_t2 q0 q1) + (1 : Int32)) else (own_rr3_j29_t2 q0 q1))
def own_rr3_fn (q0 : Int64) (q1 : Int64) (q2 : Int64) : Int32 := (own_rr3_j29_t3 q0 q1 q2)
def own_rr3_Q (Z : State) (o0 : Addr) (c0 : Addr) (k1 : ClassId) (q0 : Int64) (q1 : Int64) (q2 : Int64) (h0 : Heap) (n0 : Nat) (v : Option Value) (h : Heap) (L : List Loc) : Prop := v = some (.int (own_rr3_fn q0 q1 q2)) ∧ Fr n0 L ∧ h = h0
theorem own_rr3_ef (m : MethodId) (o0 : Addr) : entryFrame m #[(.ref o0)] 7 = mkF m 0 #[.val (.ref o0), .unset, .unset, .unset, .unset, .unset, .unset] [] := by first | (simp [entryFrame, mkF, argsToLocals, Value.category]; done) | rfl
set_option maxRecDepth 65536 in
set_option maxHeartbeats 40000000 in
theorem own_rr3_rm (l : Launch) (Z : State) (a0 : Array Value) (hw : ∀ d ∈ tables_1, d.before a0 Z = true) (ws : List Jvm.Cond) (o0 : Addr) (c0 : Addr) (k1 : ClassId) (q0 : Int64) (q1 : Int64) (q2 : Int64) (h0 : Heap) (n0 : Nat) (Z0 : n0 ≤ h0.size) (pr0 : Fld Z h0 o0 "com/example/focustat/focustat/FocusedTopic" "covered" "[J" (.ref c0)) (pr1 : Arv Z h0 c0 k1 .long (3 : Int32) [(.long q0), (.long q1), (.long q2)] (.long (0 : Int64))) :
    MetFree l (⟨"com/example/focustat/focustat/FocusedTopic", "relevantRetrieved", "()I"⟩ : MethodName) (head1 (Jvm.Cond.code (⟨"com/example/focustat/focustat/FocusedTopic", "relevantRetrieved", "()I"⟩ : MethodName) prog_13_method_3_code 7 (some .int) :: ws) ({ frames := 0, cells := 0, slots := 0, locals := 0 } : Room)) (fun a U => a = #[(.ref o0)] ∧ Z.Warmed39 U.vm ∧ U.heap = h0) (fun _ _ _ _ _ => True) (fun _ U o U' => ∃ v L, o = .returned v ∧ own_rr3_Q Z o0 c0 k1 q0 q1 q2 h0 n0 v U'.heap L ∧ FrameEnd U o U' L ({ frames := 0, cells := 0, slots := 0, locals := 0 } : Room).cells ({ frames := 0, cells := 0, slots := 0, locals := 0 } : Room).slots) := by
  refine MetFree.of_bodySF (plainFor_of_name pn_FocusedTopic) hisR ?_
  intro p e s m args below meth c s₁ Bd hml0 hP hK
  obtain ⟨rfl, hZ, hh⟩ := hP
  have hx := Bd.exec
  have hby := Bd.bytes
  have hml : c.maxLocals = 7 := hml0
  have hown : s.vm.findClass "com/example/focustat/focustat/FocusedTopic" = some m.cls := findClass_of_methodNamed Bd.named
  have hnm := (name_of_methodNamed Bd.named Bd.method).1
  have hlk : meth.locks = false := BodyLoose.notSynchronized Bd
  have hrt := Bd.returns
  have X0 : Stand p l e ({ frames := 0, cells := 0, slots := 0, locals := 0 } : Room) s m #[(.ref o0)] below meth c s₁ [] 0 0 := Stand.of_body Bd
  have e0 : s₁.heap = h0 := by rw [← hh, Bd.state]; rfl
  have N0 := Fr.nil n0
  refine Goes.enter (kc := ({ frames := 0, cells := 0, slots := 0, locals := 0 } : Room).cells) (kn := ({ frames := 0, cells := 0, slots := 0, locals := 0 } : Room).slots) (Q := own_rr3_Q Z o0 c0 k1 q0 q1 q2 h0 n0) (own_rr3_ef m o0) ?_
  refine Goes.step (B := (s₁.setTop (mkF m 1 #[.val (.ref o0), .unset, .unset, .unset, .unset, .unset, .unset] [(.int (0 : Int32))]))) (fun _ k => XS.iconst X0.here hx rfl (hb hby d_prog_13_method_3_code_0) k) ?_
  refine Goes.step (B := (s₁.setTop (mkF m 2 #[.val (.ref o0), .val (.int (0 : Int32)), .unset, .unset, .unset, .unset, .unset] []))) (fun _ k => XS.istoreN X0.here hx rfl (hb hby d_prog_13_method_3_code_1) rfl (l' := #[.val (.ref o0), .val (.int (0 : Int32)), .unset, .unset, .unset, .unset, .unset]) rfl k) ?_
  refine Goes.step (B := (s₁.setTop (mkF m 3 #[.val (.ref o0), .val (.int (0 : Int32)), .unset, .unset, .unset, .unset, .unset] [(.ref o0)]))) (fun _ k => XS.aloadN X0.here hx rfl (hb hby d_prog_13_method_3_code_2) rfl rfl k) ?_
  obtain ⟨T101, X101, e101, st101⟩ := getF X0 hx hZ hown (host := "") (Or.inl (hw _ (List.mem_of_getElem? (i := 19) rfl))) Via.refl e0 pr0 (g := (mkF m 3 #[.val (.ref o0), .val (.int (0 : Int32)), .unset, .unset, .unset, .unset, .unset] [(.ref o0)])) rfl rfl (hb hby d_prog_13_method_3_code_3)
  refine Goes.step (B := (T101.setTop (mkF m 6 #[.val (.ref o0), .val (.int (0 : Int32)), .unset, .unset, .unset, .unset, .unset] [(.ref c0)]))) (fun _ k => st101 _ k) ?_
  refine Goes.step (B := (T101.setTop (mkF m 7 #[.val (.ref o0), .val (.int (0 : Int32)), .val (.ref c0), .unset, .unset, .unset, .unset] []))) (fun _ k => XS.astoreN X101.here hx rfl (hb hby d_prog_13_method_3_code_6) rfl rfl (l' := #[.val (.ref o0), .val (.int (0 : Int32)), .val (.ref c0), .unset, .unset, .unset, .unset]) rfl k) ?_
  refine Goes.step (B := (T101.setTop (mkF m 8 #[.val (.ref o0), .val (.int (0 : Int32)), .val (.ref c0), .unset, .unset, .unset, .unset] [(.ref c0)]))) (fun _ k => XS.aloadN X101.here hx rfl (hb hby d_prog_13_method_3_code_7) rfl rfl k) ?_
  obtain ⟨cl102, Ar102, q102, S102, M102, H102, G102⟩ := id pr1
  refine Goes.step (B := (T101.setTop (mkF m 9 #[.val (.ref o0), .val (.int (0 : Int32)), .val (.ref c0), .unset, .unset, .unset, .unset] [(.int (3 : Int32))]))) (fun _ k => X101.arraylength hx (by rw [e101]; exact Ar102.1) (State.isArrayOf_alike hZ.alike Ar102.2.1) (g := (mkF m 8 #[.val (.ref o0), .val (.int (0 : Int32)), .val (.ref c0), .unset, .unset, .unset, .unset] [(.ref c0)])) rfl rfl (hb hby d_prog_13_method_3_code_8) _ (by rw [len_of S102 M102]; exact k)) ?_
  refine Goes.step (B := (T101.setTop (mkF m 10 #[.val (.ref o0), .val (.int (0 : Int32)), .val (.ref c0), .val (.int (3 : Int32)), .unset, .unset, .unset] []))) (fun _ k => XS.istoreN X101.here hx rfl (hb hby d_prog_13_method_3_code_9) rfl (l' := #[.val (.ref o0), .val (.int (0 : Int32)), .val (.ref c0), .val (.int (3 : Int32)), .unset, .unset, .unset]) rfl k) ?_
  refine Goes.step (B := (T101.setTop (mkF m 11 #[.val (.ref o0), .val (.int (0 : Int32)), .val (.ref c0), .val (.int (3 : Int32)), .unset, .unset, .unset] [(.int (0 : Int32))]))) (fun _ k => XS.iconst X101.here hx rfl (hb hby d_prog_13_method_3_code_10) k) ?_
  refine Goes.step (B := (T101.setTop (mkF m 13 #[.val (.ref o0), .val (.int (0 : Int32)), .val (.ref c0), .val (.int (3 : Int32)), .val (.int (0 : Int32)), .unset, .unset] []))) (fun _ k => XS.istore X101.here hx rfl (hb hby d_prog_13_method_3_code_11) rfl (l' := #[.val (.ref o0), .val (.int (0 : Int32)), .val (.ref c0), .val (.int (3 : Int32)), .val (.int (0 : Int32)), .unset, .unset]) rfl k) ?_
  refine Goes.step (B := (T101.setTop (mkF m 15 #[.val (.ref o0), .val (.int (0 : Int32)), .val (.ref c0), .val (.int (3 : Int32)), .val (.int (0 : Int32)), .unset, .unset] [(.int (0 : Int32))]))) (fun _ k => XS.iload X101.here hx rfl (hb hby d_prog_13_method_3_code_13) rfl k) ?_
  refine Goes.step (B := (T101.setTop (mkF m 16 #[.val (.ref o0), .val (.int (0 : Int32)), .val (.ref c0), .val (.int (3 : Int32)), .val (.int (0 : Int32)), .unset, .unset] [(.int (3 : Int32)), (.int (0 : Int32))]))) (fun _ k => XS.iloadN X101.here hx rfl (hb hby d_prog_13_method_3_code_15) rfl k) ?_
  have hc103 : (0 : Int32) < (3 : Int32) := by decide
  refine Goes.step (B := (T101.setTop (mkF m 19 #[.val (.ref o0), .val (.int (0 : Int32)), .val (.ref c0), .val (.int (3 : Int32)), .val (.int (0 : Int32)), .unset, .unset] []))) (fun _ k => XS.icmpNo X101.here hx rfl (hb hby d_prog_13_method_3_code_16) rfl (tlt hc103).2.1 k) ?_
  refine Goes.step (B := (T101.setTop (mkF m 20 #[.val (.ref o0), .val (.int (0 : Int32)), .val (.ref c0), .val (.int (3 : Int32)), .val (.int (0 : Int32)), .unset, .unset] [(.ref c0)]))) (fun _ k => XS.aloadN X101.here hx rfl (hb hby d_prog_13_method_3_code_19) rfl rfl k) ?_
  refine Goes.step (B := (T101.setTop (mkF m 22 #[.val (.ref o0), .val (.int (0 : Int32)), .val (.ref c0), .val (.int (3 : Int32)), .val (.int (0 : Int32)), .unset, .unset] [(.int (0 : Int32)), (.ref c0)]))) (fun _ k => XS.iload X101.here hx rfl (hb hby d_prog_13_method_3_code_20) rfl k) ?_
  obtain ⟨cl104, Ar104, q104, S104, M104, H104, G104⟩ := id pr1
  have hin104 : ¬ ((0 : Int32) < 0 ∨ cl104.slots.size ≤ ((0 : Int32)).toNatClampNeg) := inb_of S104 ⟨by decide, by decide⟩
  have hat104 : cl104.slots[((0 : Int32)).toNatClampNeg]? = some (.long q0) := H104 0 (by rw [S104]; decide)
  refine Goes.step (B := (T101.setTop (mkF m 23 #[.val (.ref o0), .val (.int (0 : Int32)), .val (.ref c0), .val (.int (3 : Int32)), .val (.int (0 : Int32)), .unset, .unset] [(.long q0)]))) (fun _ k => X101.laload hx (j := (0 : Int32)) (v := (.long q0)) (by rw [e101]; exact Ar104.1) (State.isArrayOf_alike hZ.alike Ar104.2.1) Ar104.2.2 hin104 hat104 (g := (mkF m 22 #[.val (.ref o0), .val (.int (0 : Int32)), .val (.ref c0), .val (.int (3 : Int32)), .val (.int (0 : Int32)), .unset, .unset] [(.int (0 : Int32)), (.ref c0)])) rfl rfl (hb hby d_prog_13_method_3_code_22) _ k) ?_
  refine Goes.step (B := (T101.setTop (mkF m 25 #[.val (.ref o0), .val (.int (0 : Int32)), .val (.ref c0), .val (.int (3 : Int32)), .val (.int (0 : Int32)), .val (.long q0), .second] []))) (fun _ k => XS.lstore X101.here hx rfl (hb hby d_prog_13_method_3_code_23) rfl (l' := #[.val (.ref o0), .val (.int (0 : Int32)), .val (.ref c0), .val (.int (3 : Int32)), .val (.int (0 : Int32)), .val (.long q0), .second]) rfl k) ?_
  refine Goes.step (B := (T101.setTop (mkF m 27 #[.val (.ref o0), .val (.int (0 : Int32)), .val (.ref c0), .val (.int (3 : Int32)), .val (.int (0 : Int32)), .val (.long q0), .second] [(.long q0)]))) (fun _ k => XS.lload X101.here hx rfl (hb hby d_prog_13_method_3_code_25) rfl k) ?_
  refine Goes.step (B := (T101.setTop (mkF m 28 #[.val (.ref o0), .val (.int (0 : Int32)), .val (.ref c0), .val (.int (3 : Int32)), .val (.int (0 : Int32)), .val (.long q0), .second] [(.long (0 : Int64)), (.long q0)]))) (fun _ k => XS.lconst X101.here hx rfl (hb hby d_prog_13_method_3_code_27) k) ?_
  refine Goes.step (B := (T101.setTop (mkF m 29 #[.val (.ref o0), .val (.int (0 : Int32)), .val (.ref c0), .val (.int (3 : Int32)), .val (.int (0 : Int32)), .val (.long q0), .second] [(.int (lcmpW q0 (0 : Int64)))]))) (fun _ k => XS.lcmp X101.here hx rfl (hb hby d_prog_13_method_3_code_28) rfl k) ?_
  have J105 : Goes p e below s ({ frames := 0, cells := 0, slots := 0, locals := 0 } : Room).cells ({ frames := 0, cells := 0, slots := 0, locals := 0 } : Room).slots (own_rr3_Q Z o0 c0 k1 q0 q1 q2 h0 n0) (T101.setTop (mkF m 35 #[.val (.ref o0), .val (.int (own_rr3_j29 q0)), .val (.ref c0), .val (.int (3 : Int32)), .val (.int (0 : Int32)), .val (.long q0), .second] [])) := by
    refine Goes.step (B := (T101.setTop (mkF m 38 #[.val (.ref o0), .val (.int (own_rr3_j29 q0)), .val (.ref c0), .val (.int (3 : Int32)), .val (.int (1 : Int32)), .val (.long q0), .second] []))) (fun _ k => XS.iinc X101.here hx rfl (hb hby d_prog_13_method_3_code_35) rfl (l' := #[.val (.ref o0), .val (.int (own_rr3_j29 q0)), .val (.ref c0), .val (.int (3 : Int32)), .val (.int (1 : Int32)), .val (.long q0), .second]) rfl k) ?_
    refine Goes.step (B := (T101.setTop (mkF m 13 #[.val (.ref o0), .val (.int (own_rr3_j29 q0)), .val (.ref c0), .val (.int (3 : Int32)), .val (.int (1 : Int32)), .val (.long q0), .second] []))) (fun _ k => XS.goto X101.here hx rfl (pc0 := 38) (pc' := 13) rfl (hb hby d_prog_13_method_3_code_38) (by decide) (by decide) k) ?_
    refine Goes.step (B := (T101.setTop (mkF m 15 #[.val (.ref o0), .val (.int (own_rr3_j29 q0)), .val (.ref c0), .val (.int (3 : Int32)), .val (.int (1 : Int32)), .val (.long q0), .second] [(.int (1 : Int32))]))) (fun _ k => XS.iload X101.here hx rfl (hb hby d_prog_13_method_3_code_13) rfl k) ?_
    refine Goes.step (B := (T101.setTop (mkF m 16 #[.val (.ref o0), .val (.int (own_rr3_j29 q0)), .val (.ref c0), .val (.int (3 : Int32)), .val (.int (1 : Int32)), .val (.long q0), .second] [(.int (3 : Int32)), (.int (1 : Int32))]))) (fun _ k => XS.iloadN X101.here hx rfl (hb hby d_prog_13_method_3_code_15) rfl k) ?_
    have hc106 : (1 : Int32) < (3 : Int32) := by decide
    refine Goes.step (B := (T101.setTop (mkF m 19 #[.val (.ref o0), .val (.int (own_rr3_j29 q0)), .val (.ref c0), .val (.int (3 : Int32)), .val (.int (1 : Int32)), .val (.long q0), .second] []))) (fun _ k => XS.icmpNo X101.here hx rfl (hb hby d_prog_13_method_3_code_16) rfl (tlt hc106).2.1 k) ?_
    refine Goes.step (B := (T101.setTop (mkF m 20 #[.val (.ref o0), .val (.int (own_rr3_j29 q0)), .val (.ref c0), .val (.int (3 : Int32)), .val (.int (1 : Int32)), .val (.long q0), .second] [(.ref c0)]))) (fun _ k => XS.aloadN X101.here hx rfl (hb hby d_prog_13_method_3_code_19) rfl rfl k) ?_
    refine Goes.step (B := (T101.setTop (mkF m 22 #[.val (.ref o0), .val (.int (own_rr3_j29 q0)), .val (.ref c0), .val (.int (3 : Int32)), .val (.int (1 : Int32)), .val (.long q0), .second] [(.int (1 : Int32)), (.ref c0)]))) (fun _ k => XS.iload X101.here hx rfl (hb hby d_prog_13_method_3_code_20) rfl k) ?_
    obtain ⟨cl107, Ar107, q107, S107, M107, H107, G107⟩ := id pr1
    have hin107 : ¬ ((1 : Int32) < 0 ∨ cl107.slots.size ≤ ((1 : Int32)).toNatClampNeg) := inb_of S107 ⟨by decide, by decide⟩
    have hat107 : cl107.slots[((1 : Int32)).toNatClampNeg]? = some (.long q1) := H107 1 (by rw [S107]; decide)
    refine Goes.step (B := (T101.setTop (mkF m 23 #[.val (.ref o0), .val (.int (own_rr3_j29 q0)), .val (.ref c0), .val (.int (3 : Int32)), .val (.int (1 : Int32)), .val (.long q0), .second] [(.long q1)]))) (fun _ k => X101.laload hx (j := (1 : Int32)) (v := (.long q1)) (by rw [e101]; exact Ar107.1) (State.isArrayOf_alike hZ.alike Ar107.2.1) Ar107.2.2 hin107 hat107 (g := (mkF m 22 #[.val (.ref o0), .val (.int (own_rr3_j29 q0)), .val (.ref c0), .val (.int (3 : Int32)), .val (.int (1 : Int32)), .val (.long q0), .second] [(.int (1 : Int32)), (.ref c0)])) rfl rfl (hb hby d_prog_13_method_3_code_22) _ k) ?_
    refine Goes.step (B := (T101.setTop (mkF m 25 #[.val (.ref o0), .val (.int (own_rr3_j29 q0)), .val (.ref c0), .val (.int (3 : Int32)), .val (.int (1 : Int32)), .val (.long q1), .second] []))) (fun _ k => XS.lstore X101.here hx rfl (hb hby d_prog_13_method_3_code_23) rfl (l' := #[.val (.ref o0), .val (.int (own_rr3_j29 q0)), .val (.ref c0), .val (.int (3 : Int32)), .val (.int (1 : Int32)), .val (.long q1), .second]) rfl k) ?_
    refine Goes.step (B := (T101.setTop (mkF m 27 #[.val (.ref o0), .val (.int (own_rr3_j29 q0)), .val (.ref c0), .val (.int (3 : Int32)), .val (.int (1 : Int32)), .val (.long q1), .second] [(.long q1)]))) (fun _ k => XS.lload X101.here hx rfl (hb hby d_prog_13_method_3_code_25) rfl k) ?_
    refine Goes.step (B := (T101.setTop (mkF m 28 #[.val (.ref o0), .val (.int (own_rr3_j29 q0)), .val (.ref c0), .val (.int (3 : Int32)), .val (.int (1 : Int32)), .val (.long q1), .second] [(.long (0 : Int64)), (.long q1)]))) (fun _ k => XS.lconst X101.here hx rfl (hb hby d_prog_13_method_3_code_27) k) ?_
    refine Goes.step (B := (T101.setTop (mkF m 29 #[.val (.ref o0), .val (.int (own_rr3_j29 q0)), .val (.ref c0), .val (.int (3 : Int32)), .val (.int (1 : Int32)), .val (.long q1), .second] [(.int (lcmpW q1 (0 : Int64)))]))) (fun _ k => XS.lcmp X101.here hx rfl (hb hby d_prog_13_method_3_code_28) rfl k) ?_
    have J108 : Goes p e below s ({ frames := 0, cells := 0, slots := 0, locals := 0 } : Room).cells ({ frames := 0, cells := 0, slots := 0, locals := 0 } : Room).slots (own_rr3_Q Z o0 c0 k1 q0 q1 q2 h0 n0) (T101.setTop (mkF m 35 #[.val (.ref o0), .val (.int (own_rr3_j29_t2 q0 q1)), .val (.ref c0), .val (.int (3 : Int32)), .val (.int (1 : Int32)), .val (.long q1), .second] [])) := by
      refine Goes.step (B := (T101.setTop (mkF m 38 #[.val (.ref o0), .val (.int (own_rr3_j29_t2 q0 q1)), .val (.ref c0), .val (.int (3 : Int32)), .val (.int (2 : Int32)), .val (.long q1), .second] []))) (fun _ k => XS.iinc X101.here hx rfl (hb hby d_prog_13_method_3_code_35) rfl (l' := #[.val (.ref o0), .val (.int (own_rr3_j29_t2 q0 q1)), .val (.ref c0), .val (.int (3 : Int32)), .val (.int (2 : Int32)), .val (.long q1), .second]) rfl k) ?_
      refine Goes.step (B := (T101.setTop (mkF m 13 #[.val (.ref o0), .val (.int (own_rr3_j29_t2 q0 q1)), .val (.ref c0), .val (.int (3 : Int32)), .val (.int (2 : Int32)), .val (.long q1), .second] []))) (fun _ k => XS.goto X101.here hx rfl (pc0 := 38) (pc' := 13) rfl (hb hby d_prog_13_method_3_code_38) (by decide) (by decide) k) ?_
      refine Goes.step (B := (T101.setTop (mkF m 15 #[.val (.ref o0), .val (.int (own_rr3_j29_t2 q0 q1)), .val (.ref c0), .val (.int (3 : Int32)), .val (.int (2 : Int32)), .val (.long q1), .second] [(.int (2 : Int32))]))) (fun _ k => XS.iload X101.here hx rfl (hb hby d_prog_13_method_3_code_13) rfl k) ?_
      refine Goes.step (B := (T101.setTop (mkF m 16 #[.val (.ref o0), .val (.int (own_rr3_j29_t2 q0 q1)), .val (.ref c0), .val (.int (3 : Int32)), .val (.int (2 : Int32)), .val (.long q1), .second] [(.int (3 : Int32)), (.int (2 : Int32))]))) (fun _ k => XS.iloadN X101.here hx rfl (hb hby d_prog_13_method_3_code_15) rfl k) ?_
      have hc109 : (2 : Int32) < (3 : Int32) := by decide
      refine Goes.step (B := (T101.setTop (mkF m 19 #[.val (.ref o0), .val (.int (own_rr3_j29_t2 q0 q1)), .val (.ref c0), .val (.int (3 : Int32)), .val (.int (2 : Int32)), .val (.long q1), .second] []))) (fun _ k => XS.icmpNo X101.here hx rfl (hb hby d_prog_13_method_3_code_16) rfl (tlt hc109).2.1 k) ?_
      refine Goes.step (B := (T101.setTop (mkF m 20 #[.val (.ref o0), .val (.int (own_rr3_j29_t2 q0 q1)), .val (.ref c0), .val (.int (3 : Int32)), .val (.int (2 : Int32)), .val (.long q1), .second] [(.ref c0)]))) (fun _ k => XS.aloadN X101.here hx rfl (hb hby d_prog_13_method_3_code_19) rfl rfl k) ?_
      refine Goes.step (B := (T101.setTop (mkF m 22 #[.val (.ref o0), .val (.int (own_rr3_j29_t2 q0 q1)), .val (.ref c0), .val (.int (3 : Int32)), .val (.int (2 : Int32)), .val (.long q1), .second] [(.int (2 : Int32)), (.ref c0)]))) (fun _ k => XS.iload X101.here hx rfl (hb hby d_prog_13_method_3_code_20) rfl k) ?_
      obtain ⟨cl110, Ar110, q110, S110, M110, H110, G110⟩ := id pr1
      have hin110 : ¬ ((2 : Int32) < 0 ∨ cl110.slots.size ≤ ((2 : Int32)).toNatClampNeg) := inb_of S110 ⟨by decide, by decide⟩
      have hat110 : cl110.slots[((2 : Int32)).toNatClampNeg]? = some (.long q2) := H110 2 (by rw [S110]; decide)
      refine Goes.step (B := (T101.setTop (mkF m 23 #[.val (.ref o0), .val (.int (own_rr3_j29_t2 q0 q1)), .val (.ref c0), .val (.int (3 : Int32)), .val (.int (2 : Int32)), .val (.long q1), .second] [(.long q2)]))) (fun _ k => X101.laload hx (j := (2 : Int32)) (v := (.long q2)) (by rw [e101]; exact Ar110.1) (State.isArrayOf_alike hZ.alike Ar110.2.1) Ar110.2.2 hin110 hat110 (g := (mkF m 22 #[.val (.ref o0), .val (.int (own_rr3_j29_t2 q0 q1)), .val (.ref c0), .val (.int (3 : Int32)), .val (.int (2 : Int32)), .val (.long q1), .second] [(.int (2 : Int32)), (.ref c0)])) rfl rfl (hb hby d_prog_13_method_3_code_22) _ k) ?_
      refine Goes.step (B := (T101.setTop (mkF m 25 #[.val (.ref o0), .val (.int (own_rr3_j29_t2 q0 q1)), .val (.ref c0), .val (.int (3 : Int32)), .val (.int (2 : Int32)), .val (.long q2), .second] []))) (fun _ k => XS.lstore X101.here hx rfl (hb hby d_prog_13_method_3_code_23) rfl (l' := #[.val (.ref o0), .val (.int (own_rr3_j29_t2 q0 q1)), .val (.ref c0), .val (.int (3 : Int32)), .val (.int (2 : Int32)), .val (.long q2), .second]) rfl k) ?_
      refine Goes.step (B := (T101.setTop (mkF m 27 #[.val (.ref o0), .val (.int (own_rr3_j29_t2 q0 q1)), .val (.ref c0), .val (.int (3 : Int32)), .val (.int (2 : Int32)), .val (.long q2), .second] [(.long q2)]))) (fun _ k => XS.lload X101.here hx rfl (hb hby d_prog_13_method_3_code_25) rfl k) ?_
      refine Goes.step (B := (T101.setTop (mkF m 28 #[.val (.ref o0), .val (.int (own_rr3_j29_t2 q0 q1)), .val (.ref c0), .val (.int (3 : Int32)), .val (.int (2 : Int32)), .val (.long q2), .second] [(.long (0 : Int64)), (.long q2)]))) (fun _ k => XS.lconst X101.here hx rfl (hb hby d_prog_13_method_3_code_27) k) ?_
      refine Goes.step (B := (T101.setTop (mkF m 29 #[.val (.ref o0), .val (.int (own_rr3_j29_t2 q0 q1)), .val (.ref c0), .val (.int (3 : Int32)), .val (.int (2 : Int32)), .val (.long q2), .second] [(.int (lcmpW q2 (0 : Int64)))]))) (fun _ k => XS.lcmp X101.here hx rfl (hb hby d_prog_13_method_3_code_28) rfl k) ?_
      have J111 : Goes p e below s ({ frames := 0, cells := 0, slots := 0, locals := 0 } : Room).cells ({ frames := 0, cells := 0, slots := 0, locals := 0 } : Room).slots (own_rr3_Q Z o0 c0 k1 q0 q1 q2 h0 n0) (T101.setTop (mkF m 35 #[.val (.ref o0), .val (.int (own_rr3_j29_t3 q0 q1 q2)), .val (.ref c0), .val (.int (3 : Int32)), .val (.int (2 : Int32)), .val (.long q2), .second] [])) := by
        refine Goes.step (B := (T101.setTop (mkF m 38 #[.val (.ref o0), .val (.int (own_rr3_j29_t3 q0 q1 q2)), .val (.ref c0), .val (.int (3 : Int32)), .val (.int (3 : Int32)), .val (.long q2), .second] []))) (fun _ k => XS.iinc X101.here hx rfl (hb hby d_prog_13_method_3_code_35) rfl (l' := #[.val (.ref o0), .val (.int (own_rr3_j29_t3 q0 q1 q2)), .val (.ref c0), .val (.int (3 : Int32)), .val (.int (3 : Int32)), .val (.long q2), .second]) rfl k) ?_
        refine Goes.step (B := (T101.setTop (mkF m 13 #[.val (.ref o0), .val (.int (own_rr3_j29_t3 q0 q1 q2)), .val (.ref c0), .val (.int (3 : Int32)), .val (.int (3 : Int32)), .val (.long q2), .second] []))) (fun _ k => XS.goto X101.here hx rfl (pc0 := 38) (pc' := 13) rfl (hb hby d_prog_13_method_3_code_38) (by decide) (by decide) k) ?_
        refine Goes.step (B := (T101.setTop (mkF m 15 #[.val (.ref o0), .val (.int (own_rr3_j29_t3 q0 q1 q2)), .val (.ref c0), .val (.int (3 : Int32)), .val (.int (3 : Int32)), .val (.long q2), .second] [(.int (3 : Int32))]))) (fun _ k => XS.iload X101.here hx rfl (hb hby d_prog_13_method_3_code_13) rfl k) ?_
        refine Goes.step (B := (T101.setTop (mkF m 16 #[.val (.ref o0), .val (.int (own_rr3_j29_t3 q0 q1 q2)), .val (.ref c0), .val (.int (3 : Int32)), .val (.int (3 : Int32)), .val (.long q2), .second] [(.int (3 : Int32)), (.int (3 : Int32))]))) (fun _ k => XS.iloadN X101.here hx rfl (hb hby d_prog_13_method_3_code_15) rfl k) ?_
        have hc112 : ¬ ((3 : Int32) < (3 : Int32)) := by decide
        refine Goes.step (B := (T101.setTop (mkF m 41 #[.val (.ref o0), .val (.int (own_rr3_j29_t3 q0 q1 q2)), .val (.ref c0), .val (.int (3 : Int32)), .val (.int (3 : Int32)), .val (.long q2), .second] []))) (fun _ k => XS.icmpYes X101.here hx rfl (pc0 := 16) (pc' := 41) rfl (hb hby d_prog_13_method_3_code_16) rfl (flt hc112).2.1 (by decide) (by decide) k) ?_
        refine Goes.step (B := (T101.setTop (mkF m 42 #[.val (.ref o0), .val (.int (own_rr3_j29_t3 q0 q1 q2)), .val (.ref c0), .val (.int (3 : Int32)), .val (.int (3 : Int32)), .val (.long q2), .second] [(.int (own_rr3_j29_t3 q0 q1 q2))]))) (fun _ k => XS.iloadN X101.here hx rfl (hb hby d_prog_13_method_3_code_41) rfl k) ?_
        refine Goes.retI X101 hx hlk hrt (hb hby d_prog_13_method_3_code_42) ?_ (by decide) (by decide)
        rw [e101]
        exact ⟨congrArg (fun z => some (Value.int z)) (show (own_rr3_j29_t3 q0 q1 q2) = (own_rr3_fn q0 q1 q2) from (show (own_rr3_j29_t3 q0 q1 q2) = (own_rr3_j29_t3 q0 q1 q2) from rfl).trans (by simp only [own_rr3_fn])), N0, rfl⟩
      by_cases hc113 : (0 : Int64) < q2
      · refine Goes.step (B := (T101.setTop (mkF m 32 #[.val (.ref o0), .val (.int (own_rr3_j29_t2 q0 q1)), .val (.ref c0), .val (.int (3 : Int32)), .val (.int (2 : Int32)), .val (.long q2), .second] []))) (fun _ k => XS.ifNo X101.here hx rfl (hb hby d_prog_13_method_3_code_29) rfl ((if0 _ _).trans (tlt ((lw_gt _ _).mpr hc113)).2.2.2) k) ?_
        refine Goes.step (B := (T101.setTop (mkF m 35 #[.val (.ref o0), .val (.int ((own_rr3_j29_t2 q0 q1) + (1 : Int32))), .val (.ref c0), .val (.int (3 : Int32)), .val (.int (2 : Int32)), .val (.long q2), .second] []))) (fun _ k => XS.iinc X101.here hx rfl (hb hby d_prog_13_method_3_code_32) rfl (l' := #[.val (.ref o0), .val (.int ((own_rr3_j29_t2 q0 q1) + (1 : Int32))), .val (.ref c0), .val (.int (3 : Int32)), .val (.int (2 : Int32)), .val (.long q2), .second]) rfl k) ?_
        rw [show own_rr3_j29_t3 q0 q1 q2 = ((own_rr3_j29_t2 q0 q1) + (1 : Int32)) from by simp only [own_rr3_j29_t3, if_pos hc113]] at J111
        exact J111
      · refine Goes.step (B := (T101.setTop (mkF m 35 #[.val (.ref o0), .val (.int (own_rr3_j29_t2 q0 q1)), .val (.ref c0), .val (.int (3 : Int32)), .val (.int (2 : Int32)), .val (.long q2), .second] []))) (fun _ k => XS.ifYes X101.here hx rfl (pc0 := 29) (pc' := 35) rfl (hb hby d_prog_13_method_3_code_29) rfl ((if0 _ _).trans (flt (mt (lw_gt _ _).mp hc113)).2.2.2) (by decide) (by decide) k) ?_
        rw [show own_rr3_j29_t3 q0 q1 q2 = (own_rr3_j29_t2 q0 q1) from by simp only [own_rr3_j29_t3, if_neg hc113]] at J111
        exact J111
    by_cases hc114 : (0 : Int64) < q1
    · refine Goes.step (B := (T101.setTop (mkF m 32 #[.val (.ref o0), .val (.int (own_rr3_j29 q0)), .val (.ref c0), .val (.int (3 : Int32)), .val (.int (1 : Int32)), .val (.long q1), .second] []))) (fun _ k => XS.ifNo X101.here hx rfl (hb hby d_prog_13_method_3_code_29) rfl ((if0 _ _).trans (tlt ((lw_gt _ _).mpr hc114)).2.2.2) k) ?_
      refine Goes.step (B := (T101.setTop (mkF m 35 #[.val (.ref o0), .val (.int ((own_rr3_j29 q0) + (1 : Int32))), .val (.ref c0), .val (.int (3 : Int32)), .val (.int (1 : Int32)), .val (.long q1), .second] []))) (fun _ k => XS.iinc X101.here hx rfl (hb hby d_prog_13_method_3_code_32) rfl (l' := #[.val (.ref o0), .val (.int ((own_rr3_j29 q0) + (1 : Int32))), .val (.ref c0), .val (.int (3 : Int32)), .val (.int (1 : Int32)), .val (.long q1), .second]) rfl k) ?_
      rw [show own_rr3_j29_t2 q0 q1 = ((own_rr3_j29 q0) + (1 : Int32)) from by simp only [own_rr3_j29_t2, if_pos hc114]] at J108
      exact J108
    · refine Goes.step (B := (T101.setTop (mkF m 35 #[.val (.ref o0), .val (.int (own_rr3_j29 q0)), .val (.ref c0), .val (.int (3 : Int32)), .val (.int (1 : Int32)), .val (.long q1), .second] []))) (fun _ k => XS.ifYes X101.here hx rfl (pc0 := 29) (pc' := 35) rfl (hb hby d_prog_13_method_3_code_29) rfl ((if0 _ _).trans (flt (mt (lw_gt _ _).mp hc114)).2.2.2) (by decide) (by decide) k) ?_
      rw [show own_rr3_j29_t2 q0 q1 = (own_rr3_j29 q0) from by simp only [own_rr3_j29_t2, if_neg hc114]] at J108
      exact J108
  by_cases hc115 : (0 : Int64) < q0
  · refine Goes.step (B := (T101.setTop (mkF m 32 #[.val (.ref o0), .val (.int (0 : Int32)), .val (.ref c0), .val (.int (3 : Int32)), .val (.int (0 : Int32)), .val (.long q0), .second] []))) (fun _ k => XS.ifNo X101.here hx rfl (hb hby d_prog_13_method_3_code_29) rfl ((if0 _ _).trans (tlt ((lw_gt _ _).mpr hc115)).2.2.2) k) ?_
    refine Goes.step (B := (T101.setTop (mkF m 35 #[.val (.ref o0), .val (.int (1 : Int32)), .val (.ref c0), .val (.int (3 : Int32)), .val (.int (0 : Int32)), .val (.long q0), .second] []))) (fun _ k => XS.iinc X101.here hx rfl (hb hby d_prog_13_method_3_code_32) rfl (l' := #[.val (.ref o0), .val (.int (1 : Int32)), .val (.ref c0), .val (.int (3 : Int32)), .val (.int (0 : Int32)), .val (.long q0), .second]) rfl k) ?_
    rw [show own_rr3_j29 q0 = (1 : Int32) from by simp only [own_rr3_j29, if_pos hc115]] at J105
    exact J105
  · refine Goes.step (B := (T101.setTop (mkF m 35 #[.val (.ref o0), .val (.int (0 : Int32)), .val (.ref c0), .val (.int (3 : Int32)), .val (.int (0 : Int32)), .val (.long q0), .second] []))) (fun _ k => XS.ifYes X101.here hx rfl (pc0 := 29) (pc' := 35) rfl (hb hby d_prog_13_method_3_code_29) rfl ((if0 _ _).trans (flt (mt (lw_gt _ _).mp hc115)).2.2.2) (by decide) (by decide) k) ?_
    rw [show own_rr3_j29 q0 = (0 : Int32) from by simp only [own_rr3_j29, if_neg hc115]] at J105
    exact J105
theorem d_method_2_code_60 : decode method_2_code 60 = .ok (.iconst 4, 1) := by decide +kernel
theorem d_method_2_code_61 : decode method_2_code 61 = .ok (.newarray .long, 2) := by decide +kernel
theorem d_method_2_code_63 : decode method_2_code 63 = .ok (.dup, 1) := by decide +kernel
theorem d_method_2_code_64 : decode method_2_code 64 = .ok (.iconst 0, 1) := by decide +kernel
theorem d_method_2_code_65 : decode method_2_code 65 = .ok (.lload_n 1, 1) := by decide +kernel
theorem d_method_2_code_66 : decode method_2_code 66 = .ok (.lastore, 1) := by decide +kernel
theorem d_method_2_code_67 : decode method_2_code 67 = .ok (.dup, 1) := by decide +kernel
theorem d_method_2_code_68 : decode method_2_code 68 = .ok (.iconst 1, 1) := by decide +kernel
theorem d_method_2_code_69 : decode method_2_code 69 = .ok (.lload_n 3, 1) := by decide +kernel
theorem d_method_2_code_70 : decode method_2_code 70 = .ok (.lastore, 1) := by decide +kernel
theorem d_method_2_code_71 : decode method_2_code 71 = .ok (.dup, 1) := by decide +kernel
theorem d_method_2_code_72 : decode method_2_code 72 = .ok (.iconst 2, 1) := by decide +kernel
theorem d_method_2_code_73 : decode method_2_code 73 = .ok (.lload 5, 2) := by decide +kernel
theorem d_method_2_code_75 : decode method_2_code 75 = .ok (.lastore, 1) := by decide +kernel
theorem d_method_2_code_76 : decode method_2_code 76 = .ok (.dup, 1) := by decide +kernel
theorem d_method_2_code_77 : decode method_2_code 77 = .ok (.iconst 3, 1) := by decide +kernel
theorem d_method_2_code_78 : decode method_2_code 78 = .ok (.lload 7, 2) := by decide +kernel
theorem d_method_2_code_80 : decode method_2_code 80 = .ok (.lastore, 1) := by decide +kernel
theorem d_method_2_code_81 : decode method_2_code 81 = .ok (.areturn, 1) := by decide +kernel
def own_bl4_Q (Z : State) (q0 : Int64) (q1 : Int64) (q2 : Int64) (q3 : Int64)  (h0 : Heap) (n0 : Nat) (v : Option Value) (h : Heap) (L : List Loc) : Prop := ∃ (b : Addr), ∃ (k1 : ClassId), (v = some (.ref b)) ∧ (Fr n0 L) ∧ (Keep h0 h []) ∧ (n0 ≤ b) ∧ (h0.size ≤ b) ∧ (Arv Z h b k1 .long (4 : Int32) [(.long q0), (.long q1), (.long q2), (.long q3)] (.long (0 : Int64)))
theorem own_bl4_ef (m : MethodId) (q0 : Int64) (q1 : Int64) (q2 : Int64) (q3 : Int64) : entryFrame m #[(.int (4 : Int32)), (.long q0), (.long q1), (.long q2), (.long q3)] 9 = mkF m 0 #[.val (.int (4 : Int32)), .val (.long q0), .second, .val (.long q1), .second, .val (.long q2), .second, .val (.long q3), .second] [] := by first | (simp [entryFrame, mkF, argsToLocals, Value.category]; done) | rfl
set_option maxRecDepth 65536 in
set_option maxHeartbeats 40000000 in
theorem own_bl4_rm (l : Launch) (Z : State) (a0 : Array Value) (hw : ∀ d ∈ tables_1, d.before a0 Z = true) (ws : List Jvm.Cond) (q0 : Int64) (q1 : Int64) (q2 : Int64) (q3 : Int64)  (h0 : Heap) (n0 : Nat) (Z0 : n0 ≤ h0.size)  :
    MetFree l (⟨"com/example/focustat/focustat/FocusedTopicRelevantRetrievedPinLaw", "build", "(IJJJJ)[J"⟩ : MethodName) (head1 (Jvm.Cond.code (⟨"com/example/focustat/focustat/FocusedTopicRelevantRetrievedPinLaw", "build", "(IJJJJ)[J"⟩ : MethodName) method_2_code 9 (some (.array .long)) :: ws) ({ frames := 0, cells := 1, slots := 4, locals := 0 } : Room)) (fun a U => a = #[(.int (4 : Int32)), (.long q0), (.long q1), (.long q2), (.long q3)] ∧ Z.Warmed39 U.vm ∧ U.heap = h0) (fun _ _ _ _ _ => True) (fun _ U o U' => ∃ v L, o = .returned v ∧ own_bl4_Q Z q0 q1 q2 q3 h0 n0 v U'.heap L ∧ FrameEnd U o U' L ({ frames := 0, cells := 1, slots := 4, locals := 0 } : Room).cells ({ frames := 0, cells := 1, slots := 4, locals := 0 } : Room).slots) := by
  refine MetFree.of_bodySF (plainFor_of_name pn_FocusedTopicRelevantRetrievedPinLaw) hisR ?_
  intro p e s m args below meth c s₁ Bd hml0 hP hK
  obtain ⟨rfl, hZ, hh⟩ := hP
  have hx := Bd.exec
  have hby := Bd.bytes
  have hml : c.maxLocals = 9 := hml0
  have hown : s.vm.findClass "com/example/focustat/focustat/FocusedTopicRelevantRetrievedPinLaw" = some m.cls := findClass_of_methodNamed Bd.named
  have hnm := (name_of_methodNamed Bd.named Bd.method).1
  have hlk : meth.locks = false := BodyLoose.notSynchronized Bd
  have hrt := Bd.returns
  have X0 : Stand p l e ({ frames := 0, cells := 1, slots := 4, locals := 0 } : Room) s m #[(.int (4 : Int32)), (.long q0), (.long q1), (.long q2), (.long q3)] below meth c s₁ [] 0 0 := Stand.of_body Bd
  have e0 : s₁.heap = h0 := by rw [← hh, Bd.state]; rfl
  have N0 := Fr.nil n0
  refine Goes.enter (kc := ({ frames := 0, cells := 1, slots := 4, locals := 0 } : Room).cells) (kn := ({ frames := 0, cells := 1, slots := 4, locals := 0 } : Room).slots) (Q := own_bl4_Q Z q0 q1 q2 q3 h0 n0) (own_bl4_ef m q0 q1 q2 q3) ?_
  refine Goes.step (B := (s₁.setTop (mkF m 1 #[.val (.int (4 : Int32)), .val (.long q0), .second, .val (.long q1), .second, .val (.long q2), .second, .val (.long q3), .second] [(.int (4 : Int32))]))) (fun _ k => XS.iloadN X0.here hx rfl (hb hby d_method_2_code_0) rfl k) ?_
  have hc101 : ¬ ((4 : Int32) = (0 : Int32)) := by decide
  refine Goes.step (B := (s₁.setTop (mkF m 8 #[.val (.int (4 : Int32)), .val (.long q0), .second, .val (.long q1), .second, .val (.long q2), .second, .val (.long q3), .second] []))) (fun _ k => XS.ifYes X0.here hx rfl (pc0 := 1) (pc' := 8) rfl (hb hby d_method_2_code_1) rfl ((if0 _ _).trans (feq hc101).2) (by decide) (by decide) k) ?_
  refine Goes.step (B := (s₁.setTop (mkF m 9 #[.val (.int (4 : Int32)), .val (.long q0), .second, .val (.long q1), .second, .val (.long q2), .second, .val (.long q3), .second] [(.int (4 : Int32))]))) (fun _ k => XS.iloadN X0.here hx rfl (hb hby d_method_2_code_8) rfl k) ?_
  refine Goes.step (B := (s₁.setTop (mkF m 10 #[.val (.int (4 : Int32)), .val (.long q0), .second, .val (.long q1), .second, .val (.long q2), .second, .val (.long q3), .second] [(.int (1 : Int32)), (.int (4 : Int32))]))) (fun _ k => XS.iconst X0.here hx rfl (hb hby d_method_2_code_9) k) ?_
  have hc102 : ¬ ((4 : Int32) = (1 : Int32)) := by decide
  refine Goes.step (B := (s₁.setTop (mkF m 21 #[.val (.int (4 : Int32)), .val (.long q0), .second, .val (.long q1), .second, .val (.long q2), .second, .val (.long q3), .second] []))) (fun _ k => XS.icmpYes X0.here hx rfl (pc0 := 10) (pc' := 21) rfl (hb hby d_method_2_code_10) rfl (feq hc102).2 (by decide) (by decide) k) ?_
  refine Goes.step (B := (s₁.setTop (mkF m 22 #[.val (.int (4 : Int32)), .val (.long q0), .second, .val (.long q1), .second, .val (.long q2), .second, .val (.long q3), .second] [(.int (4 : Int32))]))) (fun _ k => XS.iloadN X0.here hx rfl (hb hby d_method_2_code_21) rfl k) ?_
  refine Goes.step (B := (s₁.setTop (mkF m 23 #[.val (.int (4 : Int32)), .val (.long q0), .second, .val (.long q1), .second, .val (.long q2), .second, .val (.long q3), .second] [(.int (2 : Int32)), (.int (4 : Int32))]))) (fun _ k => XS.iconst X0.here hx rfl (hb hby d_method_2_code_22) k) ?_
  have hc103 : ¬ ((4 : Int32) = (2 : Int32)) := by decide
  refine Goes.step (B := (s₁.setTop (mkF m 38 #[.val (.int (4 : Int32)), .val (.long q0), .second, .val (.long q1), .second, .val (.long q2), .second, .val (.long q3), .second] []))) (fun _ k => XS.icmpYes X0.here hx rfl (pc0 := 23) (pc' := 38) rfl (hb hby d_method_2_code_23) rfl (feq hc103).2 (by decide) (by decide) k) ?_
  refine Goes.step (B := (s₁.setTop (mkF m 39 #[.val (.int (4 : Int32)), .val (.long q0), .second, .val (.long q1), .second, .val (.long q2), .second, .val (.long q3), .second] [(.int (4 : Int32))]))) (fun _ k => XS.iloadN X0.here hx rfl (hb hby d_method_2_code_38) rfl k) ?_
  refine Goes.step (B := (s₁.setTop (mkF m 40 #[.val (.int (4 : Int32)), .val (.long q0), .second, .val (.long q1), .second, .val (.long q2), .second, .val (.long q3), .second] [(.int (3 : Int32)), (.int (4 : Int32))]))) (fun _ k => XS.iconst X0.here hx rfl (hb hby d_method_2_code_39) k) ?_
  have hc104 : ¬ ((4 : Int32) = (3 : Int32)) := by decide
  refine Goes.step (B := (s₁.setTop (mkF m 60 #[.val (.int (4 : Int32)), .val (.long q0), .second, .val (.long q1), .second, .val (.long q2), .second, .val (.long q3), .second] []))) (fun _ k => XS.icmpYes X0.here hx rfl (pc0 := 40) (pc' := 60) rfl (hb hby d_method_2_code_40) rfl (feq hc104).2 (by decide) (by decide) k) ?_
  refine Goes.step (B := (s₁.setTop (mkF m 61 #[.val (.int (4 : Int32)), .val (.long q0), .second, .val (.long q1), .second, .val (.long q2), .second, .val (.long q3), .second] [(.int (4 : Int32))]))) (fun _ k => XS.iconst X0.here hx rfl (hb hby d_method_2_code_60) k) ?_
  obtain ⟨T105, h105, k105, X105, e105, E105, A105, st105⟩ := newP X0 hx hZ (hw _ (List.mem_of_getElem? (i := 4) rfl)) e0 (g := (mkF m 61 #[.val (.int (4 : Int32)), .val (.long q0), .second, .val (.long q1), .second, .val (.long q2), .second, .val (.long q3), .second] [(.int (4 : Int32))])) rfl (hb hby d_method_2_code_61) rfl (by decide) (cap := 4) (by decide) (by decide) (by decide) (by decide)
  obtain ⟨b105, g105⟩ : ∃ z, z = h0.size := ⟨_, rfl⟩
  rw [← g105] at A105 st105
  have gn105 : n0 ≤ b105 := Nat.le_trans Z0 (Nat.le_of_eq g105.symm)
  have sz105 : h0.size ≤ b105 := Nat.le_trans (Keep.refl h0 []).1 (Nat.le_of_eq g105.symm)
  have V105 : Arv Z h105 b105 k105 .long (4 : Int32) [(.long (0 : Int64)), (.long (0 : Int64)), (.long (0 : Int64)), (.long (0 : Int64))] (.long (0 : Int64)) := (Arv.new A105 (by decide)).pad (pad_rep [] (.long (0 : Int64)) 4)
  have Z105 : n0 ≤ h105.size := Nat.le_trans Z0 E105.1
  have K105 : Keep h0 h105 [] := (Keep.refl h0 []).ext E105
  refine Goes.step (B := (T105.setTop (mkF m 63 #[.val (.int (4 : Int32)), .val (.long q0), .second, .val (.long q1), .second, .val (.long q2), .second, .val (.long q3), .second] [(.ref b105)]))) (fun _ k => st105 _ k) ?_
  refine Goes.step (B := (T105.setTop (mkF m 64 #[.val (.int (4 : Int32)), .val (.long q0), .second, .val (.long q1), .second, .val (.long q2), .second, .val (.long q3), .second] [(.ref b105), (.ref b105)]))) (fun _ k => XS.dup X105.here hx rfl (hb hby d_method_2_code_63) rfl rfl k) ?_
  refine Goes.step (B := (T105.setTop (mkF m 65 #[.val (.int (4 : Int32)), .val (.long q0), .second, .val (.long q1), .second, .val (.long q2), .second, .val (.long q3), .second] [(.int (0 : Int32)), (.ref b105), (.ref b105)]))) (fun _ k => XS.iconst X105.here hx rfl (hb hby d_method_2_code_64) k) ?_
  refine Goes.step (B := (T105.setTop (mkF m 66 #[.val (.int (4 : Int32)), .val (.long q0), .second, .val (.long q1), .second, .val (.long q2), .second, .val (.long q3), .second] [(.long q0), (.int (0 : Int32)), (.ref b105), (.ref b105)]))) (fun _ k => XS.lloadN X105.here hx rfl (hb hby d_method_2_code_65) rfl k) ?_
  obtain ⟨cl106, Ar106, q106, S106, M106, H106, G106⟩ := id V105
  have hin106 : ¬ ((0 : Int32) < 0 ∨ cl106.slots.size ≤ ((0 : Int32)).toNatClampNeg) := inb_of S106 ⟨by decide, by decide⟩
  obtain ⟨T106, h106, X106, e106, W106, st106⟩ := stJ X105 hx hZ e105 Ar106 (j := (0 : Int32)) hin106 (g := (mkF m 66 #[.val (.int (4 : Int32)), .val (.long q0), .second, .val (.long q1), .second, .val (.long q2), .second, .val (.long q3), .second] [(.long q0), (.int (0 : Int32)), (.ref b105), (.ref b105)])) rfl rfl (hb hby d_method_2_code_66)
  have N106 := Fr.snoc X106 N0 gn105
  have K106 : Keep h0 h106 [] := K105.wr W106 (Or.inr sz105)
  have Z106 : n0 ≤ h106.size := Nat.le_trans Z105 (Nat.le_of_eq W106.size.symm)
  have V106 : Arv Z h106 b105 k105 .long (4 : Int32) [(.long q0), (.long (0 : Int64)), (.long (0 : Int64)), (.long (0 : Int64))] (.long (0 : Int64)) := Arv.set Ar106 q106 S106 M106 H106 G106 rfl W106 0 rfl (Nat.le_of_ble_eq_true rfl)
  refine Goes.step (B := (T106.setTop (mkF m 67 #[.val (.int (4 : Int32)), .val (.long q0), .second, .val (.long q1), .second, .val (.long q2), .second, .val (.long q3), .second] [(.ref b105)]))) (fun _ k => st106 _ k) ?_
  refine Goes.step (B := (T106.setTop (mkF m 68 #[.val (.int (4 : Int32)), .val (.long q0), .second, .val (.long q1), .second, .val (.long q2), .second, .val (.long q3), .second] [(.ref b105), (.ref b105)]))) (fun _ k => XS.dup X106.here hx rfl (hb hby d_method_2_code_67) rfl rfl k) ?_
  refine Goes.step (B := (T106.setTop (mkF m 69 #[.val (.int (4 : Int32)), .val (.long q0), .second, .val (.long q1), .second, .val (.long q2), .second, .val (.long q3), .second] [(.int (1 : Int32)), (.ref b105), (.ref b105)]))) (fun _ k => XS.iconst X106.here hx rfl (hb hby d_method_2_code_68) k) ?_
  refine Goes.step (B := (T106.setTop (mkF m 70 #[.val (.int (4 : Int32)), .val (.long q0), .second, .val (.long q1), .second, .val (.long q2), .second, .val (.long q3), .second] [(.long q1), (.int (1 : Int32)), (.ref b105), (.ref b105)]))) (fun _ k => XS.lloadN X106.here hx rfl (hb hby d_method_2_code_69) rfl k) ?_
  obtain ⟨cl107, Ar107, q107, S107, M107, H107, G107⟩ := id V106
  have hin107 : ¬ ((1 : Int32) < 0 ∨ cl107.slots.size ≤ ((1 : Int32)).toNatClampNeg) := inb_of S107 ⟨by decide, by decide⟩
  obtain ⟨T107, h107, X107, e107, W107, st107⟩ := stJ X106 hx hZ e106 Ar107 (j := (1 : Int32)) hin107 (g := (mkF m 70 #[.val (.int (4 : Int32)), .val (.long q0), .second, .val (.long q1), .second, .val (.long q2), .second, .val (.long q3), .second] [(.long q1), (.int (1 : Int32)), (.ref b105), (.ref b105)])) rfl rfl (hb hby d_method_2_code_70)
  have N107 := Fr.snoc X107 N106 gn105
  have K107 : Keep h0 h107 [] := K106.wr W107 (Or.inr sz105)
  have Z107 : n0 ≤ h107.size := Nat.le_trans Z106 (Nat.le_of_eq W107.size.symm)
  have V107 : Arv Z h107 b105 k105 .long (4 : Int32) [(.long q0), (.long q1), (.long (0 : Int64)), (.long (0 : Int64))] (.long (0 : Int64)) := Arv.set Ar107 q107 S107 M107 H107 G107 rfl W107 1 rfl (Nat.le_of_ble_eq_true rfl)
  refine Goes.step (B := (T107.setTop (mkF m 71 #[.val (.int (4 : Int32)), .val (.long q0), .second, .val (.long q1), .second, .val (.long q2), .second, .val (.long q3), .second] [(.ref b105)]))) (fun _ k => st107 _ k) ?_
  refine Goes.step (B := (T107.setTop (mkF m 72 #[.val (.int (4 : Int32)), .val (.long q0), .second, .val (.long q1), .second, .val (.long q2), .second, .val (.long q3), .second] [(.ref b105), (.ref b105)]))) (fun _ k => XS.dup X107.here hx rfl (hb hby d_method_2_code_71) rfl rfl k) ?_
  refine Goes.step (B := (T107.setTop (mkF m 73 #[.val (.int (4 : Int32)), .val (.long q0), .second, .val (.long q1), .second, .val (.long q2), .second, .val (.long q3), .second] [(.int (2 : Int32)), (.ref b105), (.ref b105)]))) (fun _ k => XS.iconst X107.here hx rfl (hb hby d_method_2_code_72) k) ?_
  refine Goes.step (B := (T107.setTop (mkF m 75 #[.val (.int (4 : Int32)), .val (.long q0), .second, .val (.long q1), .second, .val (.long q2), .second, .val (.long q3), .second] [(.long q2), (.int (2 : Int32)), (.ref b105), (.ref b105)]))) (fun _ k => XS.lload X107.here hx rfl (hb hby d_method_2_code_73) rfl k) ?_
  obtain ⟨cl108, Ar108, q108, S108, M108, H108, G108⟩ := id V107
  have hin108 : ¬ ((2 : Int32) < 0 ∨ cl108.slots.size ≤ ((2 : Int32)).toNatClampNeg) := inb_of S108 ⟨by decide, by decide⟩
  obtain ⟨T108, h108, X108, e108, W108, st108⟩ := stJ X107 hx hZ e107 Ar108 (j := (2 : Int32)) hin108 (g := (mkF m 75 #[.val (.int (4 : Int32)), .val (.long q0), .second, .val (.long q1), .second, .val (.long q2), .second, .val (.long q3), .second] [(.long q2), (.int (2 : Int32)), (.ref b105), (.ref b105)])) rfl rfl (hb hby d_method_2_code_75)
  have N108 := Fr.snoc X108 N107 gn105
  have K108 : Keep h0 h108 [] := K107.wr W108 (Or.inr sz105)
  have Z108 : n0 ≤ h108.size := Nat.le_trans Z107 (Nat.le_of_eq W108.size.symm)
  have V108 : Arv Z h108 b105 k105 .long (4 : Int32) [(.long q0), (.long q1), (.long q2), (.long (0 : Int64))] (.long (0 : Int64)) := Arv.set Ar108 q108 S108 M108 H108 G108 rfl W108 2 rfl (Nat.le_of_ble_eq_true rfl)
  refine Goes.step (B := (T108.setTop (mkF m 76 #[.val (.int (4 : Int32)), .val (.long q0), .second, .val (.long q1), .second, .val (.long q2), .second, .val (.long q3), .second] [(.ref b105)]))) (fun _ k => st108 _ k) ?_
  refine Goes.step (B := (T108.setTop (mkF m 77 #[.val (.int (4 : Int32)), .val (.long q0), .second, .val (.long q1), .second, .val (.long q2), .second, .val (.long q3), .second] [(.ref b105), (.ref b105)]))) (fun _ k => XS.dup X108.here hx rfl (hb hby d_method_2_code_76) rfl rfl k) ?_
  refine Goes.step (B := (T108.setTop (mkF m 78 #[.val (.int (4 : Int32)), .val (.long q0), .second, .val (.long q1), .second, .val (.long q2), .second, .val (.long q3), .second] [(.int (3 : Int32)), (.ref b105), (.ref b105)]))) (fun _ k => XS.iconst X108.here hx rfl (hb hby d_method_2_code_77) k) ?_
  refine Goes.step (B := (T108.setTop (mkF m 80 #[.val (.int (4 : Int32)), .val (.long q0), .second, .val (.long q1), .second, .val (.long q2), .second, .val (.long q3), .second] [(.long q3), (.int (3 : Int32)), (.ref b105), (.ref b105)]))) (fun _ k => XS.lload X108.here hx rfl (hb hby d_method_2_code_78) rfl k) ?_
  obtain ⟨cl109, Ar109, q109, S109, M109, H109, G109⟩ := id V108
  have hin109 : ¬ ((3 : Int32) < 0 ∨ cl109.slots.size ≤ ((3 : Int32)).toNatClampNeg) := inb_of S109 ⟨by decide, by decide⟩
  obtain ⟨T109, h109, X109, e109, W109, st109⟩ := stJ X108 hx hZ e108 Ar109 (j := (3 : Int32)) hin109 (g := (mkF m 80 #[.val (.int (4 : Int32)), .val (.long q0), .second, .val (.long q1), .second, .val (.long q2), .second, .val (.long q3), .second] [(.long q3), (.int (3 : Int32)), (.ref b105), (.ref b105)])) rfl rfl (hb hby d_method_2_code_80)
  have N109 := Fr.snoc X109 N108 gn105
  have K109 : Keep h0 h109 [] := K108.wr W109 (Or.inr sz105)
  have Z109 : n0 ≤ h109.size := Nat.le_trans Z108 (Nat.le_of_eq W109.size.symm)
  have V109 : Arv Z h109 b105 k105 .long (4 : Int32) [(.long q0), (.long q1), (.long q2), (.long q3)] (.long (0 : Int64)) := Arv.set Ar109 q109 S109 M109 H109 G109 rfl W109 3 rfl (Nat.le_of_ble_eq_true rfl)
  refine Goes.step (B := (T109.setTop (mkF m 81 #[.val (.int (4 : Int32)), .val (.long q0), .second, .val (.long q1), .second, .val (.long q2), .second, .val (.long q3), .second] [(.ref b105)]))) (fun _ k => st109 _ k) ?_
  refine Goes.retR X109 hx hlk hrt rfl rfl rfl (hb hby d_method_2_code_81) ?_ (by decide) (by decide)
  rw [e109]
  exact ⟨b105, k105, rfl, N109, K109, gn105, sz105, V109⟩
def own_rr4_j29 (q0 : Int64) : Int32 := (if (0 : Int64) < q0 then (1 : Int32) else (0 : Int32))
def own_rr4_j29_t2 (q0 : Int64) (q1 : Int64) : Int32 := (if (0 : Int64) < q1 then ((own_rr4_j29 q0) + (1 : Int32)) else (own_rr4_j29 q0))
def own_rr4_j29_t3 (q0 : Int64) (q1 : Int64) (q2 : Int64) : Int32 := (if (0 : Int64) < q2 then ((own_rr4_j29_t2 q0 q1) + (1 : Int32)) else (own_rr4_j29_t2 q0 q1))
def own_rr4_j29_t4 (q0 : Int64) (q1 : Int64) (q2 : Int64) (q3 : Int64) : Int32 := (if (0 : Int64) < q3 then ((own_rr4_j29_t3 q0 q1 q2) + (1 : Int32)) else (own_rr4_j29_t3 q0 q1 q2))
def own_rr4_fn (q0 : Int64) (q1 : Int64) (q2 : Int64) (q3 : Int64) : Int32 := (own_rr4_j29_t4 q0 q1 q2 q3)
def own_rr4_Q (Z : State) (o0 : Addr) (c0 : Addr) (k1 : ClassId) (q0 : Int64) (q1 : Int64) (q2 : Int64) (q3 : Int64) (h0 : Heap) (n0 : Nat) (v : Option Value) (h : Heap) (L : List Loc) : Prop := v = some (.int (own_rr4_fn q0 q1 q2 q3)) ∧ Fr n0 L ∧ h = h0
theorem own_rr4_ef (m : MethodId) (o0 : Addr) : entryFrame m #[(.ref o0)] 7 = mkF m 0 #[.val (.ref o0), .unset, .unset, .unset, .unset, .unset, .unset] [] := by first | (simp [entryFrame, mkF, argsToLocals, Value.category]; done) | rfl
set_option maxRecDepth 65536 in
set_option maxHeartbeats 40000000 in
theorem own_rr4_rm (l : Launch) (Z : State) (a0 : Array Value) (hw : ∀ d ∈ tables_1, d.before a0 Z = true) (ws : List Jvm.Cond) (o0 : Addr) (c0 : Addr) (k1 : ClassId) (q0 : Int64) (q1 : Int64) (q2 : Int64) (q3 : Int64) (h0 : Heap) (n0 : Nat) (Z0 : n0 ≤ h0.size) (pr0 : Fld Z h0 o0 "com/example/focustat/focustat/FocusedTopic" "covered" "[J" (.ref c0)) (pr1 : Arv Z h0 c0 k1 .long (4 : Int32) [(.long q0), (.long q1), (.long q2), (.long q3)] (.long (0 : Int64))) :
    MetFree l (⟨"com/example/focustat/focustat/FocusedTopic", "relevantRetrieved", "()I"⟩ : MethodName) (head1 (Jvm.Cond.code (⟨"com/example/focustat/focustat/FocusedTopic", "relevantRetrieved", "()I"⟩ : MethodName) prog_13_method_3_code 7 (some .int) :: ws) ({ frames := 0, cells := 0, slots := 0, locals := 0 } : Room)) (fun a U => a = #[(.ref o0)] ∧ Z.Warmed39 U.vm ∧ U.heap = h0) (fun _ _ _ _ _ => True) (fun _ U o U' => ∃ v L, o = .returned v ∧ own_rr4_Q Z o0 c0 k1 q0 q1 q2 q3 h0 n0 v U'.heap L ∧ FrameEnd U o U' L ({ frames := 0, cells := 0, slots := 0, locals := 0 } : Room).cells ({ frames := 0, cells := 0, slots := 0, locals := 0 } : Room).slots) := by
  refine MetFree.of_bodySF (plainFor_of_name pn_FocusedTopic) hisR ?_
  intro p e s m args below meth c s₁ Bd hml0 hP hK
  obtain ⟨rfl, hZ, hh⟩ := hP
  have hx := Bd.exec
  have hby := Bd.bytes
  have hml : c.maxLocals = 7 := hml0
  have hown : s.vm.findClass "com/example/focustat/focustat/FocusedTopic" = some m.cls := findClass_of_methodNamed Bd.named
  have hnm := (name_of_methodNamed Bd.named Bd.method).1
  have hlk : meth.locks = false := BodyLoose.notSynchronized Bd
  have hrt := Bd.returns
  have X0 : Stand p l e ({ frames := 0, cells := 0, slots := 0, locals := 0 } : Room) s m #[(.ref o0)] below meth c s₁ [] 0 0 := Stand.of_body Bd
  have e0 : s₁.heap = h0 := by rw [← hh, Bd.state]; rfl
  have N0 := Fr.nil n0
  refine Goes.enter (kc := ({ frames := 0, cells := 0, slots := 0, locals := 0 } : Room).cells) (kn := ({ frames := 0, cells := 0, slots := 0, locals := 0 } : Room).slots) (Q := own_rr4_Q Z o0 c0 k1 q0 q1 q2 q3 h0 n0) (own_rr4_ef m o0) ?_
  refine Goes.step (B := (s₁.setTop (mkF m 1 #[.val (.ref o0), .unset, .unset, .unset, .unset, .unset, .unset] [(.int (0 : Int32))]))) (fun _ k => XS.iconst X0.here hx rfl (hb hby d_prog_13_method_3_code_0) k) ?_
  refine Goes.step (B := (s₁.setTop (mkF m 2 #[.val (.ref o0), .val (.int (0 : Int32)), .unset, .unset, .unset, .unset, .unset] []))) (fun _ k => XS.istoreN X0.here hx rfl (hb hby d_prog_13_method_3_code_1) rfl (l' := #[.val (.ref o0), .val (.int (0 : Int32)), .unset, .unset, .unset, .unset, .unset]) rfl k) ?_
  refine Goes.step (B := (s₁.setTop (mkF m 3 #[.val (.ref o0), .val (.int (0 : Int32)), .unset, .unset, .unset, .unset, .unset] [(.ref o0)]))) (fun _ k => XS.aloadN X0.here hx rfl (hb hby d_prog_13_method_3_code_2) rfl rfl k) ?_
  obtain ⟨T101, X101, e101, st101⟩ := getF X0 hx hZ hown (host := "") (Or.inl (hw _ (List.mem_of_getElem? (i := 19) rfl))) Via.refl e0 pr0 (g := (mkF m 3 #[.val (.ref o0), .val (.int (0 : Int32)), .unset, .unset, .unset, .unset, .unset] [(.ref o0)])) rfl rfl (hb hby d_prog_13_method_3_code_3)
  refine Goes.step (B := (T101.setTop (mkF m 6 #[.val (.ref o0), .val (.int (0 : Int32)), .unset, .unset, .unset, .unset, .unset] [(.ref c0)]))) (fun _ k => st101 _ k) ?_
  refine Goes.step (B := (T101.setTop (mkF m 7 #[.val (.ref o0), .val (.int (0 : Int32)), .val (.ref c0), .unset, .unset, .unset, .unset] []))) (fun _ k => XS.astoreN X101.here hx rfl (hb hby d_prog_13_method_3_code_6) rfl rfl (l' := #[.val (.ref o0), .val (.int (0 : Int32)), .val (.ref c0), .unset, .unset, .unset, .unset]) rfl k) ?_
  refine Goes.step (B := (T101.setTop (mkF m 8 #[.val (.ref o0), .val (.int (0 : Int32)), .val (.ref c0), .unset, .unset, .unset, .unset] [(.ref c0)]))) (fun _ k => XS.aloadN X101.here hx rfl (hb hby d_prog_13_method_3_code_7) rfl rfl k) ?_
  obtain ⟨cl102, Ar102, q102, S102, M102, H102, G102⟩ := id pr1
  refine Goes.step (B := (T101.setTop (mkF m 9 #[.val (.ref o0), .val (.int (0 : Int32)), .val (.ref c0), .unset, .unset, .unset, .unset] [(.int (4 : Int32))]))) (fun _ k => X101.arraylength hx (by rw [e101]; exact Ar102.1) (State.isArrayOf_alike hZ.alike Ar102.2.1) (g := (mkF m 8 #[.val (.ref o0), .val (.int (0 : Int32)), .val (.ref c0), .unset, .unset, .unset, .unset] [(.ref c0)])) rfl rfl (hb hby d_prog_13_method_3_code_8) _ (by rw [len_of S102 M102]; exact k)) ?_
  refine Goes.step (B := (T101.setTop (mkF m 10 #[.val (.ref o0), .val (.int (0 : Int32)), .val (.ref c0), .val (.int (4 : Int32)), .unset, .unset, .unset] []))) (fun _ k => XS.istoreN X101.here hx rfl (hb hby d_prog_13_method_3_code_9) rfl (l' := #[.val (.ref o0), .val (.int (0 : Int32)), .val (.ref c0), .val (.int (4 : Int32)), .unset, .unset, .unset]) rfl k) ?_
  refine Goes.step (B := (T101.setTop (mkF m 11 #[.val (.ref o0), .val (.int (0 : Int32)), .val (.ref c0), .val (.int (4 : Int32)), .unset, .unset, .unset] [(.int (0 : Int32))]))) (fun _ k => XS.iconst X101.here hx rfl (hb hby d_prog_13_method_3_code_10) k) ?_
  refine Goes.step (B := (T101.setTop (mkF m 13 #[.val (.ref o0), .val (.int (0 : Int32)), .val (.ref c0), .val (.int (4 : Int32)), .val (.int (0 : Int32)), .unset, .unset] []))) (fun _ k => XS.istore X101.here hx rfl (hb hby d_prog_13_method_3_code_11) rfl (l' := #[.val (.ref o0), .val (.int (0 : Int32)), .val (.ref c0), .val (.int (4 : Int32)), .val (.int (0 : Int32)), .unset, .unset]) rfl k) ?_
  refine Goes.step (B := (T101.setTop (mkF m 15 #[.val (.ref o0), .val (.int (0 : Int32)), .val (.ref c0), .val (.int (4 : Int32)), .val (.int (0 : Int32)), .unset, .unset] [(.int (0 : Int32))]))) (fun _ k => XS.iload X101.here hx rfl (hb hby d_prog_13_method_3_code_13) rfl k) ?_
  refine Goes.step (B := (T101.setTop (mkF m 16 #[.val (.ref o0), .val (.int (0 : Int32)), .val (.ref c0), .val (.int (4 : Int32)), .val (.int (0 : Int32)), .unset, .unset] [(.int (4 : Int32)), (.int (0 : Int32))]))) (fun _ k => XS.iloadN X101.here hx rfl (hb hby d_prog_13_method_3_code_15) rfl k) ?_
  have hc103 : (0 : Int32) < (4 : Int32) := by decide
  refine Goes.step (B := (T101.setTop (mkF m 19 #[.val (.ref o0), .val (.int (0 : Int32)), .val (.ref c0), .val (.int (4 : Int32)), .val (.int (0 : Int32)), .unset, .unset] []))) (fun _ k => XS.icmpNo X101.here hx rfl (hb hby d_prog_13_method_3_code_16) rfl (tlt hc103).2.1 k) ?_
  refine Goes.step (B := (T101.setTop (mkF m 20 #[.val (.ref o0), .val (.int (0 : Int32)), .val (.ref c0), .val (.int (4 : Int32)), .val (.int (0 : Int32)), .unset, .unset] [(.ref c0)]))) (fun _ k => XS.aloadN X101.here hx rfl (hb hby d_prog_13_method_3_code_19) rfl rfl k) ?_
  refine Goes.step (B := (T101.setTop (mkF m 22 #[.val (.ref o0), .val (.int (0 : Int32)), .val (.ref c0), .val (.int (4 : Int32)), .val (.int (0 : Int32)), .unset, .unset] [(.int (0 : Int32)), (.ref c0)]))) (fun _ k => XS.iload X101.here hx rfl (hb hby d_prog_13_method_3_code_20) rfl k) ?_
  obtain ⟨cl104, Ar104, q104, S104, M104, H104, G104⟩ := id pr1
  have hin104 : ¬ ((0 : Int32) < 0 ∨ cl104.slots.size ≤ ((0 : Int32)).toNatClampNeg) := inb_of S104 ⟨by decide, by decide⟩
  have hat104 : cl104.slots[((0 : Int32)).toNatClampNeg]? = some (.long q0) := H104 0 (by rw [S104]; decide)
  refine Goes.step (B := (T101.setTop (mkF m 23 #[.val (.ref o0), .val (.int (0 : Int32)), .val (.ref c0), .val (.int (4 : Int32)), .val (.int (0 : Int32)), .unset, .unset] [(.long q0)]))) (fun _ k => X101.laload hx (j := (0 : Int32)) (v := (.long q0)) (by rw [e101]; exact Ar104.1) (State.isArrayOf_alike hZ.alike Ar104.2.1) Ar104.2.2 hin104 hat104 (g := (mkF m 22 #[.val (.ref o0), .val (.int (0 : Int32)), .val (.ref c0), .val (.int (4 : Int32)), .val (.int (0 : Int32)), .unset, .unset] [(.int (0 : Int32)), (.ref c0)])) rfl rfl (hb hby d_prog_13_method_3_code_22) _ k) ?_
  refine Goes.step (B := (T101.setTop (mkF m 25 #[.val (.ref o0), .val (.int (0 : Int32)), .val (.ref c0), .val (.int (4 : Int32)), .val (.int (0 : Int32)), .val (.long q0), .second] []))) (fun _ k => XS.lstore X101.here hx rfl (hb hby d_prog_13_method_3_code_23) rfl (l' := #[.val (.ref o0), .val (.int (0 : Int32)), .val (.ref c0), .val (.int (4 : Int32)), .val (.int (0 : Int32)), .val (.long q0), .second]) rfl k) ?_
  refine Goes.step (B := (T101.setTop (mkF m 27 #[.val (.ref o0), .val (.int (0 : Int32)), .val (.ref c0), .val (.int (4 : Int32)), .val (.int (0 : Int32)), .val (.long q0), .second] [(.long q0)]))) (fun _ k => XS.lload X101.here hx rfl (hb hby d_prog_13_method_3_code_25) rfl k) ?_
  refine Goes.step (B := (T101.setTop (mkF m 28 #[.val (.ref o0), .val (.int (0 : Int32)), .val (.ref c0), .val (.int (4 : Int32)), .val (.int (0 : Int32)), .val (.long q0), .second] [(.long (0 : Int64)), (.long q0)]))) (fun _ k => XS.lconst X101.here hx rfl (hb hby d_prog_13_method_3_code_27) k) ?_
  refine Goes.step (B := (T101.setTop (mkF m 29 #[.val (.ref o0), .val (.int (0 : Int32)), .val (.ref c0), .val (.int (4 : Int32)), .val (.int (0 : Int32)), .val (.long q0), .second] [(.int (lcmpW q0 (0 : Int64)))]))) (fun _ k => XS.lcmp X101.here hx rfl (hb hby d_prog_13_method_3_code_28) rfl k) ?_
  have J105 : Goes p e below s ({ frames := 0, cells := 0, slots := 0, locals := 0 } : Room).cells ({ frames := 0, cells := 0, slots := 0, locals := 0 } : Room).slots (own_rr4_Q Z o0 c0 k1 q0 q1 q2 q3 h0 n0) (T101.setTop (mkF m 35 #[.val (.ref o0), .val (.int (own_rr4_j29 q0)), .val (.ref c0), .val (.int (4 : Int32)), .val (.int (0 : Int32)), .val (.long q0), .second] [])) := by
    refine Goes.step (B := (T101.setTop (mkF m 38 #[.val (.ref o0), .val (.int (own_rr4_j29 q0)), .val (.ref c0), .val (.int (4 : Int32)), .val (.int (1 : Int32)), .val (.long q0), .second] []))) (fun _ k => XS.iinc X101.here hx rfl (hb hby d_prog_13_method_3_code_35) rfl (l' := #[.val (.ref o0), .val (.int (own_rr4_j29 q0)), .val (.ref c0), .val (.int (4 : Int32)), .val (.int (1 : Int32)), .val (.long q0), .second]) rfl k) ?_
    refine Goes.step (B := (T101.setTop (mkF m 13 #[.val (.ref o0), .val (.int (own_rr4_j29 q0)), .val (.ref c0), .val (.int (4 : Int32)), .val (.int (1 : Int32)), .val (.long q0), .second] []))) (fun _ k => XS.goto X101.here hx rfl (pc0 := 38) (pc' := 13) rfl (hb hby d_prog_13_method_3_code_38) (by decide) (by decide) k) ?_
    refine Goes.step (B := (T101.setTop (mkF m 15 #[.val (.ref o0), .val (.int (own_rr4_j29 q0)), .val (.ref c0), .val (.int (4 : Int32)), .val (.int (1 : Int32)), .val (.long q0), .second] [(.int (1 : Int32))]))) (fun _ k => XS.iload X101.here hx rfl (hb hby d_prog_13_method_3_code_13) rfl k) ?_
    refine Goes.step (B := (T101.setTop (mkF m 16 #[.val (.ref o0), .val (.int (own_rr4_j29 q0)), .val (.ref c0), .val (.int (4 : Int32)), .val (.int (1 : Int32)), .val (.long q0), .second] [(.int (4 : Int32)), (.int (1 : Int32))]))) (fun _ k => XS.iloadN X101.here hx rfl (hb hby d_prog_13_method_3_code_15) rfl k) ?_
    have hc106 : (1 : Int32) < (4 : Int32) := by decide
    refine Goes.step (B := (T101.setTop (mkF m 19 #[.val (.ref o0), .val (.int (own_rr4_j29 q0)), .val (.ref c0), .val (.int (4 : Int32)), .val (.int (1 : Int32)), .val (.long q0), .second] []))) (fun _ k => XS.icmpNo X101.here hx rfl (hb hby d_prog_13_method_3_code_16) rfl (tlt hc106).2.1 k) ?_
    refine Goes.step (B := (T101.setTop (mkF m 20 #[.val (.ref o0), .val (.int (own_rr4_j29 q0)), .val (.ref c0), .val (.int (4 : Int32)), .val (.int (1 : Int32)), .val (.long q0), .second] [(.ref c0)]))) (fun _ k => XS.aloadN X101.here hx rfl (hb hby d_prog_13_method_3_code_19) rfl rfl k) ?_
    refine Goes.step (B := (T101.setTop (mkF m 22 #[.val (.ref o0), .val (.int (own_rr4_j29 q0)), .val (.ref c0), .val (.int (4 : Int32)), .val (.int (1 : Int32)), .val (.long q0), .second] [(.int (1 : Int32)), (.ref c0)]))) (fun _ k => XS.iload X101.here hx rfl (hb hby d_prog_13_method_3_code_20) rfl k) ?_
    obtain ⟨cl107, Ar107, q107, S107, M107, H107, G107⟩ := id pr1
    have hin107 : ¬ ((1 : Int32) < 0 ∨ cl107.slots.size ≤ ((1 : Int32)).toNatClampNeg) := inb_of S107 ⟨by decide, by decide⟩
    have hat107 : cl107.slots[((1 : Int32)).toNatClampNeg]? = some (.long q1) := H107 1 (by rw [S107]; decide)
    refine Goes.step (B := (T101.setTop (mkF m 23 #[.val (.ref o0), .val (.int (own_rr4_j29 q0)), .val (.ref c0), .val (.int (4 : Int32)), .val (.int (1 : Int32)), .val (.long q0), .second] [(.long q1)]))) (fun _ k => X101.laload hx (j := (1 : Int32)) (v := (.long q1)) (by rw [e101]; exact Ar107.1) (State.isArrayOf_alike hZ.alike Ar107.2.1) Ar107.2.2 hin107 hat107 (g := (mkF m 22 #[.val (.ref o0), .val (.int (own_rr4_j29 q0)), .val (.ref c0), .val (.int (4 : Int32)), .val (.int (1 : Int32)), .val (.long q0), .second] [(.int (1 : Int32)), (.ref c0)])) rfl rfl (hb hby d_prog_13_method_3_code_22) _ k) ?_
    refine Goes.step (B := (T101.setTop (mkF m 25 #[.val (.ref o0), .val (.int (own_rr4_j29 q0)), .val (.ref c0), .val (.int (4 : Int32)), .val (.int (1 : Int32)), .val (.long q1), .second] []))) (fun _ k => XS.lstore X101.here hx rfl (hb hby d_prog_13_method_3_code_23) rfl (l' := #[.val (.ref o0), .val (.int (own_rr4_j29 q0)), .val (.ref c0), .val (.int (4 : Int32)), .val (.int (1 : Int32)), .val (.long q1), .second]) rfl k) ?_
    refine Goes.step (B := (T101.setTop (mkF m 27 #[.val (.ref o0), .val (.int (own_rr4_j29 q0)), .val (.ref c0), .val (.int (4 : Int32)), .val (.int (1 : Int32)), .val (.long q1), .second] [(.long q1)]))) (fun _ k => XS.lload X101.here hx rfl (hb hby d_prog_13_method_3_code_25) rfl k) ?_
    refine Goes.step (B := (T101.setTop (mkF m 28 #[.val (.ref o0), .val (.int (own_rr4_j29 q0)), .val (.ref c0), .val (.int (4 : Int32)), .val (.int (1 : Int32)), .val (.long q1), .second] [(.long (0 : Int64)), (.long q1)]))) (fun _ k => XS.lconst X101.here hx rfl (hb hby d_prog_13_method_3_code_27) k) ?_
    refine Goes.step (B := (T101.setTop (mkF m 29 #[.val (.ref o0), .val (.int (own_rr4_j29 q0)), .val (.ref c0), .val (.int (4 : Int32)), .val (.int (1 : Int32)), .val (.long q1), .second] [(.int (lcmpW q1 (0 : Int64)))]))) (fun _ k => XS.lcmp X101.here hx rfl (hb hby d_prog_13_method_3_code_28) rfl k) ?_
    have J108 : Goes p e below s ({ frames := 0, cells := 0, slots := 0, locals := 0 } : Room).cells ({ frames := 0, cells := 0, slots := 0, locals := 0 } : Room).slots (own_rr4_Q Z o0 c0 k1 q0 q1 q2 q3 h0 n0) (T101.setTop (mkF m 35 #[.val (.ref o0), .val (.int (own_rr4_j29_t2 q0 q1)), .val (.ref c0), .val (.int (4 : Int32)), .val (.int (1 : Int32)), .val (.long q1), .second] [])) := by
      refine Goes.step (B := (T101.setTop (mkF m 38 #[.val (.ref o0), .val (.int (own_rr4_j29_t2 q0 q1)), .val (.ref c0), .val (.int (4 : Int32)), .val (.int (2 : Int32)), .val (.long q1), .second] []))) (fun _ k => XS.iinc X101.here hx rfl (hb hby d_prog_13_method_3_code_35) rfl (l' := #[.val (.ref o0), .val (.int (own_rr4_j29_t2 q0 q1)), .val (.ref c0), .val (.int (4 : Int32)), .val (.int (2 : Int32)), .val (.long q1), .second]) rfl k) ?_
      refine Goes.step (B := (T101.setTop (mkF m 13 #[.val (.ref o0), .val (.int (own_rr4_j29_t2 q0 q1)), .val (.ref c0), .val (.int (4 : Int32)), .val (.int (2 : Int32)), .val (.long q1), .second] []))) (fun _ k => XS.goto X101.here hx rfl (pc0 := 38) (pc' := 13) rfl (hb hby d_prog_13_method_3_code_38) (by decide) (by decide) k) ?_
      refine Goes.step (B := (T101.setTop (mkF m 15 #[.val (.ref o0), .val (.int (own_rr4_j29_t2 q0 q1)), .val (.ref c0), .val (.int (4 : Int32)), .val (.int (2 : Int32)), .val (.long q1), .second] [(.int (2 : Int32))]))) (fun _ k => XS.iload X101.here hx rfl (hb hby d_prog_13_method_3_code_13) rfl k) ?_
      refine Goes.step (B := (T101.setTop (mkF m 16 #[.val (.ref o0), .val (.int (own_rr4_j29_t2 q0 q1)), .val (.ref c0), .val (.int (4 : Int32)), .val (.int (2 : Int32)), .val (.long q1), .second] [(.int (4 : Int32)), (.int (2 : Int32))]))) (fun _ k => XS.iloadN X101.here hx rfl (hb hby d_prog_13_method_3_code_15) rfl k) ?_
      have hc109 : (2 : Int32) < (4 : Int32) := by decide
      refine Goes.step (B := (T101.setTop (mkF m 19 #[.val (.ref o0), .val (.int (own_rr4_j29_t2 q0 q1)), .val (.ref c0), .val (.int (4 : Int32)), .val (.int (2 : Int32)), .val (.long q1), .second] []))) (fun _ k => XS.icmpNo X101.here hx rfl (hb hby d_prog_13_method_3_code_16) rfl (tlt hc109).2.1 k) ?_
      refine Goes.step (B := (T101.setTop (mkF m 20 #[.val (.ref o0), .val (.int (own_rr4_j29_t2 q0 q1)), .val (.ref c0), .val (.int (4 : Int32)), .val (.int (2 : Int32)), .val (.long q1), .second] [(.ref c0)]))) (fun _ k => XS.aloadN X101.here hx rfl (hb hby d_prog_13_method_3_code_19) rfl rfl k) ?_
      refine Goes.step (B := (T101.setTop (mkF m 22 #[.val (.ref o0), .val (.int (own_rr4_j29_t2 q0 q1)), .val (.ref c0), .val (.int (4 : Int32)), .val (.int (2 : Int32)), .val (.long q1), .second] [(.int (2 : Int32)), (.ref c0)]))) (fun _ k => XS.iload X101.here hx rfl (hb hby d_prog_13_method_3_code_20) rfl k) ?_
      obtain ⟨cl110, Ar110, q110, S110, M110, H110, G110⟩ := id pr1
      have hin110 : ¬ ((2 : Int32) < 0 ∨ cl110.slots.size ≤ ((2 : Int32)).toNatClampNeg) := inb_of S110 ⟨by decide, by decide⟩
      have hat110 : cl110.slots[((2 : Int32)).toNatClampNeg]? = some (.long q2) := H110 2 (by rw [S110]; decide)
      refine Goes.step (B := (T101.setTop (mkF m 23 #[.val (.ref o0), .val (.int (own_rr4_j29_t2 q0 q1)), .val (.ref c0), .val (.int (4 : Int32)), .val (.int (2 : Int32)), .val (.long q1), .second] [(.long q2)]))) (fun _ k => X101.laload hx (j := (2 : Int32)) (v := (.long q2)) (by rw [e101]; exact Ar110.1) (State.isArrayOf_alike hZ.alike Ar110.2.1) Ar110.2.2 hin110 hat110 (g := (mkF m 22 #[.val (.ref o0), .val (.int (own_rr4_j29_t2 q0 q1)), .val (.ref c0), .val (.int (4 : Int32)), .val (.int (2 : Int32)), .val (.long q1), .second] [(.int (2 : Int32)), (.ref c0)])) rfl rfl (hb hby d_prog_13_method_3_code_22) _ k) ?_
      refine Goes.step (B := (T101.setTop (mkF m 25 #[.val (.ref o0), .val (.int (own_rr4_j29_t2 q0 q1)), .val (.ref c0), .val (.int (4 : Int32)), .val (.int (2 : Int32)), .val (.long q2), .second] []))) (fun _ k => XS.lstore X101.here hx rfl (hb hby d_prog_13_method_3_code_23) rfl (l' := #[.val (.ref o0), .val (.int (own_rr4_j29_t2 q0 q1)), .val (.ref c0), .val (.int (4 : Int32)), .val (.int (2 : Int32)), .val (.long q2), .second]) rfl k) ?_
      refine Goes.step (B := (T101.setTop (mkF m 27 #[.val (.ref o0), .val (.int (own_rr4_j29_t2 q0 q1)), .val (.ref c0), .val (.int (4 : Int32)), .val (.int (2 : Int32)), .val (.long q2), .second] [(.long q2)]))) (fun _ k => XS.lload X101.here hx rfl (hb hby d_prog_13_method_3_code_25) rfl k) ?_
      refine Goes.step (B := (T101.setTop (mkF m 28 #[.val (.ref o0), .val (.int (own_rr4_j29_t2 q0 q1)), .val (.ref c0), .val (.int (4 : Int32)), .val (.int (2 : Int32)), .val (.long q2), .second] [(.long (0 : Int64)), (.long q2)]))) (fun _ k => XS.lconst X101.here hx rfl (hb hby d_prog_13_method_3_code_27) k) ?_
      refine Goes.step (B := (T101.setTop (mkF m 29 #[.val (.ref o0), .val (.int (own_rr4_j29_t2 q0 q1)), .val (.ref c0), .val (.int (4 : Int32)), .val (.int (2 : Int32)), .val (.long q2), .second] [(.int (lcmpW q2 (0 : Int64)))]))) (fun _ k => XS.lcmp X101.here hx rfl (hb hby d_prog_13_method_3_code_28) rfl k) ?_
      have J111 : Goes p e below s ({ frames := 0, cells := 0, slots := 0, locals := 0 } : Room).cells ({ frames := 0, cells := 0, slots := 0, locals := 0 } : Room).slots (own_rr4_Q Z o0 c0 k1 q0 q1 q2 q3 h0 n0) (T101.setTop (mkF m 35 #[.val (.ref o0), .val (.int (own_rr4_j29_t3 q0 q1 q2)), .val (.ref c0), .val (.int (4 : Int32)), .val (.int (2 : Int32)), .val (.long q2), .second] [])) := by
        refine Goes.step (B := (T101.setTop (mkF m 38 #[.val (.ref o0), .val (.int (own_rr4_j29_t3 q0 q1 q2)), .val (.ref c0), .val (.int (4 : Int32)), .val (.int (3 : Int32)), .val (.long q2), .second] []))) (fun _ k => XS.iinc X101.here hx rfl (hb hby d_prog_13_method_3_code_35) rfl (l' := #[.val (.ref o0), .val (.int (own_rr4_j29_t3 q0 q1 q2)), .val (.ref c0), .val (.int (4 : Int32)), .val (.int (3 : Int32)), .val (.long q2), .second]) rfl k) ?_
        refine Goes.step (B := (T101.setTop (mkF m 13 #[.val (.ref o0), .val (.int (own_rr4_j29_t3 q0 q1 q2)), .val (.ref c0), .val (.int (4 : Int32)), .val (.int (3 : Int32)), .val (.long q2), .second] []))) (fun _ k => XS.goto X101.here hx rfl (pc0 := 38) (pc' := 13) rfl (hb hby d_prog_13_method_3_code_38) (by decide) (by decide) k) ?_
        refine Goes.step (B := (T101.setTop (mkF m 15 #[.val (.ref o0), .val (.int (own_rr4_j29_t3 q0 q1 q2)), .val (.ref c0), .val (.int (4 : Int32)), .val (.int (3 : Int32)), .val (.long q2), .second] [(.int (3 : Int32))]))) (fun _ k => XS.iload X101.here hx rfl (hb hby d_prog_13_method_3_code_13) rfl k) ?_
        refine Goes.step (B := (T101.setTop (mkF m 16 #[.val (.ref o0), .val (.int (own_rr4_j29_t3 q0 q1 q2)), .val (.ref c0), .val (.int (4 : Int32)), .val (.int (3 : Int32)), .val (.long q2), .second] [(.int (4 : Int32)), (.int (3 : Int32))]))) (fun _ k => XS.iloadN X101.here hx rfl (hb hby d_prog_13_method_3_code_15) rfl k) ?_
        have hc112 : (3 : Int32) < (4 : Int32) := by decide
        refine Goes.step (B := (T101.setTop (mkF m 19 #[.val (.ref o0), .val (.int (own_rr4_j29_t3 q0 q1 q2)), .val (.ref c0), .val (.int (4 : Int32)), .val (.int (3 : Int32)), .val (.long q2), .second] []))) (fun _ k => XS.icmpNo X101.here hx rfl (hb hby d_prog_13_method_3_code_16) rfl (tlt hc112).2.1 k) ?_
        refine Goes.step (B := (T101.setTop (mkF m 20 #[.val (.ref o0), .val (.int (own_rr4_j29_t3 q0 q1 q2)), .val (.ref c0), .val (.int (4 : Int32)), .val (.int (3 : Int32)), .val (.long q2), .second] [(.ref c0)]))) (fun _ k => XS.aloadN X101.here hx rfl (hb hby d_prog_13_method_3_code_19) rfl rfl k) ?_
        refine Goes.step (B := (T101.setTop (mkF m 22 #[.val (.ref o0), .val (.int (own_rr4_j29_t3 q0 q1 q2)), .val (.ref c0), .val (.int (4 : Int32)), .val (.int (3 : Int32)), .val (.long q2), .second] [(.int (3 : Int32)), (.ref c0)]))) (fun _ k => XS.iload X101.here hx rfl (hb hby d_prog_13_method_3_code_20) rfl k) ?_
        obtain ⟨cl113, Ar113, q113, S113, M113, H113, G113⟩ := id pr1
        have hin113 : ¬ ((3 : Int32) < 0 ∨ cl113.slots.size ≤ ((3 : Int32)).toNatClampNeg) := inb_of S113 ⟨by decide, by decide⟩
        have hat113 : cl113.slots[((3 : Int32)).toNatClampNeg]? = some (.long q3) := H113 3 (by rw [S113]; decide)
        refine Goes.step (B := (T101.setTop (mkF m 23 #[.val (.ref o0), .val (.int (own_rr4_j29_t3 q0 q1 q2)), .val (.ref c0), .val (.int (4 : Int32)), .val (.int (3 : Int32)), .val (.long q2), .second] [(.long q3)]))) (fun _ k => X101.laload hx (j := (3 : Int32)) (v := (.long q3)) (by rw [e101]; exact Ar113.1) (State.isArrayOf_alike hZ.alike Ar113.2.1) Ar113.2.2 hin113 hat113 (g := (mkF m 22 #[.val (.ref o0), .val (.int (own_rr4_j29_t3 q0 q1 q2)), .val (.ref c0), .val (.int (4 : Int32)), .val (.int (3 : Int32)), .val (.long q2), .second] [(.int (3 : Int32)), (.ref c0)])) rfl rfl (hb hby d_prog_13_method_3_code_22) _ k) ?_
        refine Goes.step (B := (T101.setTop (mkF m 25 #[.val (.ref o0), .val (.int (own_rr4_j29_t3 q0 q1 q2)), .val (.ref c0), .val (.int (4 : Int32)), .val (.int (3 : Int32)), .val (.long q3), .second] []))) (fun _ k => XS.lstore X101.here hx rfl (hb hby d_prog_13_method_3_code_23) rfl (l' := #[.val (.ref o0), .val (.int (own_rr4_j29_t3 q0 q1 q2)), .val (.ref c0), .val (.int (4 : Int32)), .val (.int (3 : Int32)), .val (.long q3), .second]) rfl k) ?_
        refine Goes.step (B := (T101.setTop (mkF m 27 #[.val (.ref o0), .val (.int (own_rr4_j29_t3 q0 q1 q2)), .val (.ref c0), .val (.int (4 : Int32)), .val (.int (3 : Int32)), .val (.long q3), .second] [(.long q3)]))) (fun _ k => XS.lload X101.here hx rfl (hb hby d_prog_13_method_3_code_25) rfl k) ?_
        refine Goes.step (B := (T101.setTop (mkF m 28 #[.val (.ref o0), .val (.int (own_rr4_j29_t3 q0 q1 q2)), .val (.ref c0), .val (.int (4 : Int32)), .val (.int (3 : Int32)), .val (.long q3), .second] [(.long (0 : Int64)), (.long q3)]))) (fun _ k => XS.lconst X101.here hx rfl (hb hby d_prog_13_method_3_code_27) k) ?_
        refine Goes.step (B := (T101.setTop (mkF m 29 #[.val (.ref o0), .val (.int (own_rr4_j29_t3 q0 q1 q2)), .val (.ref c0), .val (.int (4 : Int32)), .val (.int (3 : Int32)), .val (.long q3), .second] [(.int (lcmpW q3 (0 : Int64)))]))) (fun _ k => XS.lcmp X101.here hx rfl (hb hby d_prog_13_method_3_code_28) rfl k) ?_
        have J114 : Goes p e below s ({ frames := 0, cells := 0, slots := 0, locals := 0 } : Room).cells ({ frames := 0, cells := 0, slots := 0, locals := 0 } : Room).slots (own_rr4_Q Z o0 c0 k1 q0 q1 q2 q3 h0 n0) (T101.setTop (mkF m 35 #[.val (.ref o0), .val (.int (own_rr4_j29_t4 q0 q1 q2 q3)), .val (.ref c0), .val (.int (4 : Int32)), .val (.int (3 : Int32)), .val (.long q3), .second] [])) := by
          refine Goes.step (B := (T101.setTop (mkF m 38 #[.val (.ref o0), .val (.int (own_rr4_j29_t4 q0 q1 q2 q3)), .val (.ref c0), .val (.int (4 : Int32)), .val (.int (4 : Int32)), .val (.long q3), .second] []))) (fun _ k => XS.iinc X101.here hx rfl (hb hby d_prog_13_method_3_code_35) rfl (l' := #[.val (.ref o0), .val (.int (own_rr4_j29_t4 q0 q1 q2 q3)), .val (.ref c0), .val (.int (4 : Int32)), .val (.int (4 : Int32)), .val (.long q3), .second]) rfl k) ?_
          refine Goes.step (B := (T101.setTop (mkF m 13 #[.val (.ref o0), .val (.int (own_rr4_j29_t4 q0 q1 q2 q3)), .val (.ref c0), .val (.int (4 : Int32)), .val (.int (4 : Int32)), .val (.long q3), .second] []))) (fun _ k => XS.goto X101.here hx rfl (pc0 := 38) (pc' := 13) rfl (hb hby d_prog_13_method_3_code_38) (by decide) (by decide) k) ?_
          refine Goes.step (B := (T101.setTop (mkF m 15 #[.val (.ref o0), .val (.int (own_rr4_j29_t4 q0 q1 q2 q3)), .val (.ref c0), .val (.int (4 : Int32)), .val (.int (4 : Int32)), .val (.long q3), .second] [(.int (4 : Int32))]))) (fun _ k => XS.iload X101.here hx rfl (hb hby d_prog_13_method_3_code_13) rfl k) ?_
          refine Goes.step (B := (T101.setTop (mkF m 16 #[.val (.ref o0), .val (.int (own_rr4_j29_t4 q0 q1 q2 q3)), .val (.ref c0), .val (.int (4 : Int32)), .val (.int (4 : Int32)), .val (.long q3), .second] [(.int (4 : Int32)), (.int (4 : Int32))]))) (fun _ k => XS.iloadN X101.here hx rfl (hb hby d_prog_13_method_3_code_15) rfl k) ?_
          have hc115 : ¬ ((4 : Int32) < (4 : Int32)) := by decide
          refine Goes.step (B := (T101.setTop (mkF m 41 #[.val (.ref o0), .val (.int (own_rr4_j29_t4 q0 q1 q2 q3)), .val (.ref c0), .val (.int (4 : Int32)), .val (.int (4 : Int32)), .val (.long q3), .second] []))) (fun _ k => XS.icmpYes X101.here hx rfl (pc0 := 16) (pc' := 41) rfl (hb hby d_prog_13_method_3_code_16) rfl (flt hc115).2.1 (by decide) (by decide) k) ?_
          refine Goes.step (B := (T101.setTop (mkF m 42 #[.val (.ref o0), .val (.int (own_rr4_j29_t4 q0 q1 q2 q3)), .val (.ref c0), .val (.int (4 : Int32)), .val (.int (4 : Int32)), .val (.long q3), .second] [(.int (own_rr4_j29_t4 q0 q1 q2 q3))]))) (fun _ k => XS.iloadN X101.here hx rfl (hb hby d_prog_13_method_3_code_41) rfl k) ?_
          refine Goes.retI X101 hx hlk hrt (hb hby d_prog_13_method_3_code_42) ?_ (by decide) (by decide)
          rw [e101]
          exact ⟨congrArg (fun z => some (Value.int z)) (show (own_rr4_j29_t4 q0 q1 q2 q3) = (own_rr4_fn q0 q1 q2 q3) from (show (own_rr4_j29_t4 q0 q1 q2 q3) = (own_rr4_j29_t4 q0 q1 q2 q3) from rfl).trans (by simp only [own_rr4_fn])), N0, rfl⟩
        by_cases hc116 : (0 : Int64) < q3
        · refine Goes.step (B := (T101.setTop (mkF m 32 #[.val (.ref o0), .val (.int (own_rr4_j29_t3 q0 q1 q2)), .val (.ref c0), .val (.int (4 : Int32)), .val (.int (3 : Int32)), .val (.long q3), .second] []))) (fun _ k => XS.ifNo X101.here hx rfl (hb hby d_prog_13_method_3_code_29) rfl ((if0 _ _).trans (tlt ((lw_gt _ _).mpr hc116)).2.2.2) k) ?_
          refine Goes.step (B := (T101.setTop (mkF m 35 #[.val (.ref o0), .val (.int ((own_rr4_j29_t3 q0 q1 q2) + (1 : Int32))), .val (.ref c0), .val (.int (4 : Int32)), .val (.int (3 : Int32)), .val (.long q3), .second] []))) (fun _ k => XS.iinc X101.here hx rfl (hb hby d_prog_13_method_3_code_32) rfl (l' := #[.val (.ref o0), .val (.int ((own_rr4_j29_t3 q0 q1 q2) + (1 : Int32))), .val (.ref c0), .val (.int (4 : Int32)), .val (.int (3 : Int32)), .val (.long q3), .second]) rfl k) ?_
          rw [show own_rr4_j29_t4 q0 q1 q2 q3 = ((own_rr4_j29_t3 q0 q1 q2) + (1 : Int32)) from by simp only [own_rr4_j29_t4, if_pos hc116]] at J114
          exact J114
        · refine Goes.step (B := (T101.setTop (mkF m 35 #[.val (.ref o0), .val (.int (own_rr4_j29_t3 q0 q1 q2)), .val (.ref c0), .val (.int (4 : Int32)), .val (.int (3 : Int32)), .val (.long q3), .second] []))) (fun _ k => XS.ifYes X101.here hx rfl (pc0 := 29) (pc' := 35) rfl (hb hby d_prog_13_method_3_code_29) rfl ((if0 _ _).trans (flt (mt (lw_gt _ _).mp hc116)).2.2.2) (by decide) (by decide) k) ?_
          rw [show own_rr4_j29_t4 q0 q1 q2 q3 = (own_rr4_j29_t3 q0 q1 q2) from by simp only [own_rr4_j29_t4, if_neg hc116]] at J114
          exact J114
      by_cases hc117 : (0 : Int64) < q2
      · refine Goes.step (B := (T101.setTop (mkF m 32 #[.val (.ref o0), .val (.int (own_rr4_j29_t2 q0 q1)), .val (.ref c0), .val (.int (4 : Int32)), .val (.int (2 : Int32)), .val (.long q2), .second] []))) (fun _ k => XS.ifNo X101.here hx rfl (hb hby d_prog_13_method_3_code_29) rfl ((if0 _ _).trans (tlt ((lw_gt _ _).mpr hc117)).2.2.2) k) ?_
        refine Goes.step (B := (T101.setTop (mkF m 35 #[.val (.ref o0), .val (.int ((own_rr4_j29_t2 q0 q1) + (1 : Int32))), .val (.ref c0), .val (.int (4 : Int32)), .val (.int (2 : Int32)), .val (.long q2), .second] []))) (fun _ k => XS.iinc X101.here hx rfl (hb hby d_prog_13_method_3_code_32) rfl (l' := #[.val (.ref o0), .val (.int ((own_rr4_j29_t2 q0 q1) + (1 : Int32))), .val (.ref c0), .val (.int (4 : Int32)), .val (.int (2 : Int32)), .val (.long q2), .second]) rfl k) ?_
        rw [show own_rr4_j29_t3 q0 q1 q2 = ((own_rr4_j29_t2 q0 q1) + (1 : Int32)) from by simp only [own_rr4_j29_t3, if_pos hc117]] at J111
        exact J111
      · refine Goes.step (B := (T101.setTop (mkF m 35 #[.val (.ref o0), .val (.int (own_rr4_j29_t2 q0 q1)), .val (.ref c0), .val (.int (4 : Int32)), .val (.int (2 : Int32)), .val (.long q2), .second] []))) (fun _ k => XS.ifYes X101.here hx rfl (pc0 := 29) (pc' := 35) rfl (hb hby d_prog_13_method_3_code_29) rfl ((if0 _ _).trans (flt (mt (lw_gt _ _).mp hc117)).2.2.2) (by decide) (by decide) k) ?_
        rw [show own_rr4_j29_t3 q0 q1 q2 = (own_rr4_j29_t2 q0 q1) from by simp only [own_rr4_j29_t3, if_neg hc117]] at J111
        exact J111
    by_cases hc118 : (0 : Int64) < q1
    · refine Goes.step (B := (T101.setTop (mkF m 32 #[.val (.ref o0), .val (.int (own_rr4_j29 q0)), .val (.ref c0), .val (.int (4 : Int32)), .val (.int (1 : Int32)), .val (.long q1), .second] []))) (fun _ k => XS.ifNo X101.here hx rfl (hb hby d_prog_13_method_3_code_29) rfl ((if0 _ _).trans (tlt ((lw_gt _ _).mpr hc118)).2.2.2) k) ?_
      refine Goes.step (B := (T101.setTop (mkF m 35 #[.val (.ref o0), .val (.int ((own_rr4_j29 q0) + (1 : Int32))), .val (.ref c0), .val (.int (4 : Int32)), .val (.int (1 : Int32)), .val (.long q1), .second] []))) (fun _ k => XS.iinc X101.here hx rfl (hb hby d_prog_13_method_3_code_32) rfl (l' := #[.val (.ref o0), .val (.int ((own_rr4_j29 q0) + (1 : Int32))), .val (.ref c0), .val (.int (4 : Int32)), .val (.int (1 : Int32)), .val (.long q1), .second]) rfl k) ?_
      rw [show own_rr4_j29_t2 q0 q1 = ((own_rr4_j29 q0) + (1 : Int32)) from by simp only [own_rr4_j29_t2, if_pos hc118]] at J108
      exact J108
    · refine Goes.step (B := (T101.setTop (mkF m 35 #[.val (.ref o0), .val (.int (own_rr4_j29 q0)), .val (.ref c0), .val (.int (4 : Int32)), .val (.int (1 : Int32)), .val (.long q1), .second] []))) (fun _ k => XS.ifYes X101.here hx rfl (pc0 := 29) (pc' := 35) rfl (hb hby d_prog_13_method_3_code_29) rfl ((if0 _ _).trans (flt (mt (lw_gt _ _).mp hc118)).2.2.2) (by decide) (by decide) k) ?_
      rw [show own_rr4_j29_t2 q0 q1 = (own_rr4_j29 q0) from by simp only [own_rr4_j29_t2, if_neg hc118]] at J108
      exact J108
  by_cases hc119 : (0 : Int64) < q0
  · refine Goes.step (B := (T101.setTop (mkF m 32 #[.val (.ref o0), .val (.int (0 : Int32)), .val (.ref c0), .val (.int (4 : Int32)), .val (.int (0 : Int32)), .val (.long q0), .second] []))) (fun _ k => XS.ifNo X101.here hx rfl (hb hby d_prog_13_method_3_code_29) rfl ((if0 _ _).trans (tlt ((lw_gt _ _).mpr hc119)).2.2.2) k) ?_
    refine Goes.step (B := (T101.setTop (mkF m 35 #[.val (.ref o0), .val (.int (1 : Int32)), .val (.ref c0), .val (.int (4 : Int32)), .val (.int (0 : Int32)), .val (.long q0), .second] []))) (fun _ k => XS.iinc X101.here hx rfl (hb hby d_prog_13_method_3_code_32) rfl (l' := #[.val (.ref o0), .val (.int (1 : Int32)), .val (.ref c0), .val (.int (4 : Int32)), .val (.int (0 : Int32)), .val (.long q0), .second]) rfl k) ?_
    rw [show own_rr4_j29 q0 = (1 : Int32) from by simp only [own_rr4_j29, if_pos hc119]] at J105
    exact J105
  · refine Goes.step (B := (T101.setTop (mkF m 35 #[.val (.ref o0), .val (.int (0 : Int32)), .val (.ref c0), .val (.int (4 : Int32)), .val (.int (0 : Int32)), .val (.long q0), .second] []))) (fun _ k => XS.ifYes X101.here hx rfl (pc0 := 29) (pc' := 35) rfl (hb hby d_prog_13_method_3_code_29) rfl ((if0 _ _).trans (flt (mt (lw_gt _ _).mp hc119)).2.2.2) (by decide) (by decide) k) ?_
    rw [show own_rr4_j29 q0 = (0 : Int32) from by simp only [own_rr4_j29, if_neg hc119]] at J105
    exact J105
theorem d_prog_13_method_1_code_0 : decode prog_13_method_1_code 0 = .ok (.aload_n 0, 1) := by decide +kernel
theorem d_prog_13_method_1_code_1 : decode prog_13_method_1_code 1 = .ok (.invokespecial 1, 3) := by decide +kernel
theorem pd___V : parseMethodDescriptor "()V" = some ⟨[], none⟩ := by decide +kernel
theorem d_prog_13_method_1_code_4 : decode prog_13_method_1_code 4 = .ok (.aload_n 0, 1) := by decide +kernel
theorem d_prog_13_method_1_code_5 : decode prog_13_method_1_code 5 = .ok (.aload_n 1, 1) := by decide +kernel
theorem d_prog_13_method_1_code_6 : decode prog_13_method_1_code 6 = .ok (.putfield 7, 3) := by decide +kernel
theorem d_prog_13_method_1_code_9 : decode prog_13_method_1_code 9 = .ok (.aload_n 0, 1) := by decide +kernel
theorem d_prog_13_method_1_code_10 : decode prog_13_method_1_code 10 = .ok (.aload_n 2, 1) := by decide +kernel
theorem d_prog_13_method_1_code_11 : decode prog_13_method_1_code 11 = .ok (.putfield 13, 3) := by decide +kernel
theorem d_prog_13_method_1_code_14 : decode prog_13_method_1_code 14 = .ok (.aload_n 0, 1) := by decide +kernel
theorem d_prog_13_method_1_code_15 : decode prog_13_method_1_code 15 = .ok (.lload_n 3, 1) := by decide +kernel
theorem d_prog_13_method_1_code_16 : decode prog_13_method_1_code 16 = .ok (.putfield 16, 3) := by decide +kernel
theorem d_prog_13_method_1_code_19 : decode prog_13_method_1_code 19 = .ok (.aload_n 0, 1) := by decide +kernel
theorem d_prog_13_method_1_code_20 : decode prog_13_method_1_code 20 = .ok (.iload 5, 2) := by decide +kernel
theorem d_prog_13_method_1_code_22 : decode prog_13_method_1_code 22 = .ok (.putfield 20, 3) := by decide +kernel
theorem d_prog_13_method_1_code_25 : decode prog_13_method_1_code 25 = .ok (.return_, 1) := by decide +kernel
def own_in_Q (Z : State) (o0 : Addr) (c0 : Addr) (l0 : Addr) (r0 : Int64) (i0 : Int32)  (h0 : Heap) (n0 : Nat) (v : Option Value) (h : Heap) (L : List Loc) : Prop := (v = none) ∧ (Fr n0 L) ∧ (Keep h0 h [o0]) ∧ (Exa Z h o0 "com/example/focustat/focustat/FocusedTopic") ∧ (Fld Z h o0 "com/example/focustat/focustat/FocusedTopic" "covered" "[J" (.ref c0))
theorem own_in_ef (m : MethodId) (o0 : Addr) (c0 : Addr) (l0 : Addr) (r0 : Int64) (i0 : Int32) : entryFrame m #[(.ref o0), (.ref c0), (.ref l0), (.long r0), (.int i0)] 6 = mkF m 0 #[.val (.ref o0), .val (.ref c0), .val (.ref l0), .val (.long r0), .second, .val (.int i0)] [] := by first | (simp [entryFrame, mkF, argsToLocals, Value.category]; done) | rfl
set_option maxRecDepth 65536 in
set_option maxHeartbeats 40000000 in
theorem own_in_rm (l : Launch) (Z : State) (a0 : Array Value) (hw : ∀ d ∈ tables_1, d.before a0 Z = true) (ws : List Jvm.Cond) (o0 : Addr) (c0 : Addr) (l0 : Addr) (r0 : Int64) (i0 : Int32)  (h0 : Heap) (n0 : Nat) (Z0 : n0 ≤ h0.size) (pr0 : Exa Z h0 o0 "com/example/focustat/focustat/FocusedTopic") (pr1 : Fld Z h0 o0 "com/example/focustat/focustat/FocusedTopic" "covered" "[J" .null) (pr2 : Fld Z h0 o0 "com/example/focustat/focustat/FocusedTopic" "lengths" "[J" .null) (pr3 : Fld Z h0 o0 "com/example/focustat/focustat/FocusedTopic" "highlighted" "J" (.long (0 : Int64))) (pr4 : Fld Z h0 o0 "com/example/focustat/focustat/FocusedTopic" "relevantCount" "I" (.int (0 : Int32))) (pr5 : n0 ≤ o0) :
    MetFree l (⟨"com/example/focustat/focustat/FocusedTopic", "<init>", "([J[JJI)V"⟩ : MethodName) (head1 (Jvm.Cond.code (⟨"com/example/focustat/focustat/FocusedTopic", "<init>", "([J[JJI)V"⟩ : MethodName) prog_13_method_1_code 6 none :: ws) ({ frames := 2, cells := 0, slots := 0, locals := 24 } : Room)) (fun a U => a = #[(.ref o0), (.ref c0), (.ref l0), (.long r0), (.int i0)] ∧ Z.Warmed39 U.vm ∧ U.heap = h0) (fun _ _ _ _ _ => True) (fun _ U o U' => ∃ v L, o = .returned v ∧ own_in_Q Z o0 c0 l0 r0 i0 h0 n0 v U'.heap L ∧ FrameEnd U o U' L ({ frames := 2, cells := 0, slots := 0, locals := 24 } : Room).cells ({ frames := 2, cells := 0, slots := 0, locals := 24 } : Room).slots) := by
  refine MetFree.of_bodySF (plainFor_of_name pn_FocusedTopic) hisR ?_
  intro p e s m args below meth c s₁ Bd hml0 hP hK
  obtain ⟨rfl, hZ, hh⟩ := hP
  have hx := Bd.exec
  have hby := Bd.bytes
  have hml : c.maxLocals = 6 := hml0
  have hown : s.vm.findClass "com/example/focustat/focustat/FocusedTopic" = some m.cls := findClass_of_methodNamed Bd.named
  have hnm := (name_of_methodNamed Bd.named Bd.method).1
  have hlk : meth.locks = false := BodyLoose.notSynchronized Bd
  have hrt := Bd.returns
  have X0 : Stand p l e ({ frames := 2, cells := 0, slots := 0, locals := 24 } : Room) s m #[(.ref o0), (.ref c0), (.ref l0), (.long r0), (.int i0)] below meth c s₁ [] 0 0 := Stand.of_body Bd
  have e0 : s₁.heap = h0 := by rw [← hh, Bd.state]; rfl
  have N0 := Fr.nil n0
  refine Goes.enter (kc := ({ frames := 2, cells := 0, slots := 0, locals := 24 } : Room).cells) (kn := ({ frames := 2, cells := 0, slots := 0, locals := 24 } : Room).slots) (Q := own_in_Q Z o0 c0 l0 r0 i0 h0 n0) (own_in_ef m o0 c0 l0 r0 i0) ?_
  refine Goes.step (B := (s₁.setTop (mkF m 1 #[.val (.ref o0), .val (.ref c0), .val (.ref l0), .val (.long r0), .second, .val (.int i0)] [(.ref o0)]))) (fun _ k => XS.aloadN X0.here hx rfl (hb hby d_prog_13_method_1_code_0) rfl rfl k) ?_
  obtain ⟨_, _, ⟨T101, L101, k101, n101⟩, -, X101, ⟨Lc101, hQ101, l101, y101, z101⟩, st101⟩ := X0.specialBack hx (y := (⟨"java/lang/Record", "<init>", "()V"⟩ : MethodName)) rfl hown (mvT hZ (hw _ (List.mem_of_getElem? (i := 11) rfl))) (mvT hZ (hw _ (List.mem_of_getElem? (i := 12) rfl))) (mvT hZ (hw _ (List.mem_of_getElem? (i := 15) rfl))) (by decide) (backOf (W := 0) (own_rec_rm l Z a0 hw [] o0  h0 n0 Z0 ) hZ (hw _ (List.mem_of_getElem? (i := 15) rfl)) (hw _ (List.mem_of_getElem? (i := 14) rfl)) (by decide) (by decide)) (g := (mkF m 1 #[.val (.ref o0), .val (.ref c0), .val (.ref l0), .val (.long r0), .second, .val (.int i0)] [(.ref o0)])) rfl (by rw [hml]; rfl) (Steps.refl _) (a := o0) (argsL := []) (rest := []) (lenOf pd___V rfl) rfl (by show 2 * 0 + _ ≤ _; exact Nat.le_of_eq rfl) (hb hby d_prog_13_method_1_code_1) (fun _ _ => ⟨rfl, e0, (by decide : 0 + 0 ≤ _), (by decide : 0 + 0 ≤ _)⟩)
  dsimp only [Pt.U, Pt.locs, Pt.cells, Pt.slots] at X101 l101 y101 z101 st101 hQ101
  subst l101 y101 z101
  obtain ⟨rfl, N101q, e101⟩ := hQ101
  have N101 := Fr.app N0 N101q
  refine Goes.to (B := (T101.setTop (mkF m 4 #[.val (.ref o0), .val (.ref c0), .val (.ref l0), .val (.long r0), .second, .val (.int i0)] []))) st101 ?_
  refine Goes.step (B := (T101.setTop (mkF m 5 #[.val (.ref o0), .val (.ref c0), .val (.ref l0), .val (.long r0), .second, .val (.int i0)] [(.ref o0)]))) (fun _ k => XS.aloadN X101.here hx rfl (hb hby d_prog_13_method_1_code_4) rfl rfl k) ?_
  refine Goes.step (B := (T101.setTop (mkF m 6 #[.val (.ref o0), .val (.ref c0), .val (.ref l0), .val (.long r0), .second, .val (.int i0)] [(.ref c0), (.ref o0)]))) (fun _ k => XS.aloadN X101.here hx rfl (hb hby d_prog_13_method_1_code_5) rfl rfl k) ?_
  obtain ⟨T102, h102, X102, e102, W102, st102⟩ := putF X101 hx hZ hown (host := "") (Or.inl (hw _ (List.mem_of_getElem? (i := 19) rfl))) Via.refl e101 pr1 pr0 (Or.inr ⟨(hw _ (List.mem_of_getElem? (i := 20) rfl)), rfl, hnm⟩) (hw _ (List.mem_of_getElem? (i := 6) rfl)) (ty := (.array .long)) (by decide) rfl rfl (g := (mkF m 6 #[.val (.ref o0), .val (.ref c0), .val (.ref l0), .val (.long r0), .second, .val (.int i0)] [(.ref c0), (.ref o0)])) rfl rfl (hb hby d_prog_13_method_1_code_6)
  have f103 := pr0.wr W102
  have f104 := pr2.other W102 (Or.inr (slot_ne (Or.inr (hw _ (List.mem_of_getElem? (i := 22) rfl))) (Or.inr (hw _ (List.mem_of_getElem? (i := 20) rfl))) (by decide) (t := (.array .long)) (t' := (.array .long)) (by decide) (by decide)))
  have f105 := pr3.other W102 (Or.inr (slot_ne (Or.inr (hw _ (List.mem_of_getElem? (i := 24) rfl))) (Or.inr (hw _ (List.mem_of_getElem? (i := 20) rfl))) (by decide) (t := .long) (t' := (.array .long)) (by decide) (by decide)))
  have f106 := pr4.other W102 (Or.inr (slot_ne (Or.inr (hw _ (List.mem_of_getElem? (i := 26) rfl))) (Or.inr (hw _ (List.mem_of_getElem? (i := 20) rfl))) (by decide) (t := .int) (t' := (.array .long)) (by decide) (by decide)))
  have N102 := Fr.snoc X102 N101 pr5
  have K102 : Keep h0 h102 [o0] := (Keep.refl h0 [o0]).wr W102 (Or.inl (List.mem_of_getElem? (i := 0) rfl))
  have Z102 : n0 ≤ h102.size := Nat.le_trans Z0 (Nat.le_of_eq W102.size.symm)
  have f107 : Fld Z h102 o0 "com/example/focustat/focustat/FocusedTopic" "covered" "[J" (.ref c0) := pr1.same W102
  refine Goes.step (B := (T102.setTop (mkF m 9 #[.val (.ref o0), .val (.ref c0), .val (.ref l0), .val (.long r0), .second, .val (.int i0)] []))) (fun _ k => st102 _ k) ?_
  refine Goes.step (B := (T102.setTop (mkF m 10 #[.val (.ref o0), .val (.ref c0), .val (.ref l0), .val (.long r0), .second, .val (.int i0)] [(.ref o0)]))) (fun _ k => XS.aloadN X102.here hx rfl (hb hby d_prog_13_method_1_code_9) rfl rfl k) ?_
  refine Goes.step (B := (T102.setTop (mkF m 11 #[.val (.ref o0), .val (.ref c0), .val (.ref l0), .val (.long r0), .second, .val (.int i0)] [(.ref l0), (.ref o0)]))) (fun _ k => XS.aloadN X102.here hx rfl (hb hby d_prog_13_method_1_code_10) rfl rfl k) ?_
  obtain ⟨T108, h108, X108, e108, W108, st108⟩ := putF X102 hx hZ hown (host := "") (Or.inl (hw _ (List.mem_of_getElem? (i := 21) rfl))) Via.refl e102 f104 f103 (Or.inr ⟨(hw _ (List.mem_of_getElem? (i := 22) rfl)), rfl, hnm⟩) (hw _ (List.mem_of_getElem? (i := 6) rfl)) (ty := (.array .long)) (by decide) rfl rfl (g := (mkF m 11 #[.val (.ref o0), .val (.ref c0), .val (.ref l0), .val (.long r0), .second, .val (.int i0)] [(.ref l0), (.ref o0)])) rfl rfl (hb hby d_prog_13_method_1_code_11)
  have f109 := f103.wr W108
  have f110 := f107.other W108 (Or.inr (slot_ne (Or.inr (hw _ (List.mem_of_getElem? (i := 20) rfl))) (Or.inr (hw _ (List.mem_of_getElem? (i := 22) rfl))) (by decide) (t := (.array .long)) (t' := (.array .long)) (by decide) (by decide)))
  have f111 := f105.other W108 (Or.inr (slot_ne (Or.inr (hw _ (List.mem_of_getElem? (i := 24) rfl))) (Or.inr (hw _ (List.mem_of_getElem? (i := 22) rfl))) (by decide) (t := .long) (t' := (.array .long)) (by decide) (by decide)))
  have f112 := f106.other W108 (Or.inr (slot_ne (Or.inr (hw _ (List.mem_of_getElem? (i := 26) rfl))) (Or.inr (hw _ (List.mem_of_getElem? (i := 22) rfl))) (by decide) (t := .int) (t' := (.array .long)) (by decide) (by decide)))
  have N108 := Fr.snoc X108 N102 pr5
  have K108 : Keep h0 h108 [o0] := K102.wr W108 (Or.inl (List.mem_of_getElem? (i := 0) rfl))
  have Z108 : n0 ≤ h108.size := Nat.le_trans Z102 (Nat.le_of_eq W108.size.symm)
  have f113 : Fld Z h108 o0 "com/example/focustat/focustat/FocusedTopic" "lengths" "[J" (.ref l0) := f104.same W108
  refine Goes.step (B := (T108.setTop (mkF m 14 #[.val (.ref o0), .val (.ref c0), .val (.ref l0), .val (.long r0), .second, .val (.int i0)] []))) (fun _ k => st108 _ k) ?_
  refine Goes.step (B := (T108.setTop (mkF m 15 #[.val (.ref o0), .val (.ref c0), .val (.ref l0), .val (.long r0), .second, .val (.int i0)] [(.ref o0)]))) (fun _ k => XS.aloadN X108.here hx rfl (hb hby d_prog_13_method_1_code_14) rfl rfl k) ?_
  refine Goes.step (B := (T108.setTop (mkF m 16 #[.val (.ref o0), .val (.ref c0), .val (.ref l0), .val (.long r0), .second, .val (.int i0)] [(.long r0), (.ref o0)]))) (fun _ k => XS.lloadN X108.here hx rfl (hb hby d_prog_13_method_1_code_15) rfl k) ?_
  obtain ⟨T114, h114, X114, e114, W114, st114⟩ := putF X108 hx hZ hown (host := "") (Or.inl (hw _ (List.mem_of_getElem? (i := 23) rfl))) Via.refl e108 f111 f109 (Or.inr ⟨(hw _ (List.mem_of_getElem? (i := 24) rfl)), rfl, hnm⟩) (hw _ (List.mem_of_getElem? (i := 6) rfl)) (ty := .long) (by decide) rfl rfl (g := (mkF m 16 #[.val (.ref o0), .val (.ref c0), .val (.ref l0), .val (.long r0), .second, .val (.int i0)] [(.long r0), (.ref o0)])) rfl rfl (hb hby d_prog_13_method_1_code_16)
  have f115 := f109.wr W114
  have f116 := f110.other W114 (Or.inr (slot_ne (Or.inr (hw _ (List.mem_of_getElem? (i := 20) rfl))) (Or.inr (hw _ (List.mem_of_getElem? (i := 24) rfl))) (by decide) (t := (.array .long)) (t' := .long) (by decide) (by decide)))
  have f117 := f113.other W114 (Or.inr (slot_ne (Or.inr (hw _ (List.mem_of_getElem? (i := 22) rfl))) (Or.inr (hw _ (List.mem_of_getElem? (i := 24) rfl))) (by decide) (t := (.array .long)) (t' := .long) (by decide) (by decide)))
  have f118 := f112.other W114 (Or.inr (slot_ne (Or.inr (hw _ (List.mem_of_getElem? (i := 26) rfl))) (Or.inr (hw _ (List.mem_of_getElem? (i := 24) rfl))) (by decide) (t := .int) (t' := .long) (by decide) (by decide)))
  have N114 := Fr.snoc X114 N108 pr5
  have K114 : Keep h0 h114 [o0] := K108.wr W114 (Or.inl (List.mem_of_getElem? (i := 0) rfl))
  have Z114 : n0 ≤ h114.size := Nat.le_trans Z108 (Nat.le_of_eq W114.size.symm)
  have f119 : Fld Z h114 o0 "com/example/focustat/focustat/FocusedTopic" "highlighted" "J" (.long r0) := f111.same W114
  refine Goes.step (B := (T114.setTop (mkF m 19 #[.val (.ref o0), .val (.ref c0), .val (.ref l0), .val (.long r0), .second, .val (.int i0)] []))) (fun _ k => st114 _ k) ?_
  refine Goes.step (B := (T114.setTop (mkF m 20 #[.val (.ref o0), .val (.ref c0), .val (.ref l0), .val (.long r0), .second, .val (.int i0)] [(.ref o0)]))) (fun _ k => XS.aloadN X114.here hx rfl (hb hby d_prog_13_method_1_code_19) rfl rfl k) ?_
  refine Goes.step (B := (T114.setTop (mkF m 22 #[.val (.ref o0), .val (.ref c0), .val (.ref l0), .val (.long r0), .second, .val (.int i0)] [(.int i0), (.ref o0)]))) (fun _ k => XS.iload X114.here hx rfl (hb hby d_prog_13_method_1_code_20) rfl k) ?_
  obtain ⟨T120, h120, X120, e120, W120, st120⟩ := putF X114 hx hZ hown (host := "") (Or.inl (hw _ (List.mem_of_getElem? (i := 25) rfl))) Via.refl e114 f118 f115 (Or.inr ⟨(hw _ (List.mem_of_getElem? (i := 26) rfl)), rfl, hnm⟩) (hw _ (List.mem_of_getElem? (i := 6) rfl)) (ty := .int) (by decide) rfl rfl (g := (mkF m 22 #[.val (.ref o0), .val (.ref c0), .val (.ref l0), .val (.long r0), .second, .val (.int i0)] [(.int i0), (.ref o0)])) rfl rfl (hb hby d_prog_13_method_1_code_22)
  have f121 := f115.wr W120
  have f122 := f116.other W120 (Or.inr (slot_ne (Or.inr (hw _ (List.mem_of_getElem? (i := 20) rfl))) (Or.inr (hw _ (List.mem_of_getElem? (i := 26) rfl))) (by decide) (t := (.array .long)) (t' := .int) (by decide) (by decide)))
  have f123 := f117.other W120 (Or.inr (slot_ne (Or.inr (hw _ (List.mem_of_getElem? (i := 22) rfl))) (Or.inr (hw _ (List.mem_of_getElem? (i := 26) rfl))) (by decide) (t := (.array .long)) (t' := .int) (by decide) (by decide)))
  have f124 := f119.other W120 (Or.inr (slot_ne (Or.inr (hw _ (List.mem_of_getElem? (i := 24) rfl))) (Or.inr (hw _ (List.mem_of_getElem? (i := 26) rfl))) (by decide) (t := .long) (t' := .int) (by decide) (by decide)))
  have N120 := Fr.snoc X120 N114 pr5
  have K120 : Keep h0 h120 [o0] := K114.wr W120 (Or.inl (List.mem_of_getElem? (i := 0) rfl))
  have Z120 : n0 ≤ h120.size := Nat.le_trans Z114 (Nat.le_of_eq W120.size.symm)
  have f125 : Fld Z h120 o0 "com/example/focustat/focustat/FocusedTopic" "relevantCount" "I" (.int i0) := f118.same W120
  refine Goes.step (B := (T120.setTop (mkF m 25 #[.val (.ref o0), .val (.ref c0), .val (.ref l0), .val (.long r0), .second, .val (.int i0)] []))) (fun _ k => st120 _ k) ?_
  refine Goes.retV X120 hx hlk hrt (hb hby d_prog_13_method_1_code_25) ?_ (by decide) (by decide)
  rw [e120]
  exact ⟨rfl, N120, K120, f121, f122⟩
def own_len (x4 : Int32) : Int32 := ((x4 &&& (7 : Int32)) % (5 : Int32))
theorem own_len5 (x4 : Int32) : own_len x4 = 0 ∨ own_len x4 = 1 ∨ own_len x4 = 2 ∨ own_len x4 = 3 ∨ own_len x4 = 4 := by
  have h1 := c_mask x4 7 3 (by decide) (by decide)
  have h2 := (c_irem (x4 &&& 7) 5 5 (by decide)).1 (by omega)
  have h3 : (own_len x4).toInt = 0 ∨ (own_len x4).toInt = 1 ∨ (own_len x4).toInt = 2 ∨ (own_len x4).toInt = 3 ∨ (own_len x4).toInt = 4 := by
    show ((x4 &&& 7) % 5 : Int32).toInt = 0 ∨ ((x4 &&& 7) % 5 : Int32).toInt = 1 ∨ ((x4 &&& 7) % 5 : Int32).toInt = 2 ∨ ((x4 &&& 7) % 5 : Int32).toInt = 3 ∨ ((x4 &&& 7) % 5 : Int32).toInt = 4
    omega
  rcases h3 with h | h | h | h | h
  · exact Or.inl (Int32.toInt_inj.mp (by rw [h]; decide))
  · exact Or.inr (Or.inl (Int32.toInt_inj.mp (by rw [h]; decide)))
  · exact Or.inr (Or.inr (Or.inl (Int32.toInt_inj.mp (by rw [h]; decide))))
  · exact Or.inr (Or.inr (Or.inr (Or.inl (Int32.toInt_inj.mp (by rw [h]; decide)))))
  · exact Or.inr (Or.inr (Or.inr (Or.inr (Int32.toInt_inj.mp (by rw [h]; decide)))))
theorem own_t0 : own_rr0_fn = (0 : Int32) := rfl
theorem own_t1 (x0 : Int64) : (own_rr1_fn x0) = ((0 : Int32) + (own_pos_fn x0)) := by
  simp only [own_rr1_fn, own_rr1_j29, own_pos_fn]
  by_cases h0 : (0 : Int64) < x0 <;> simp only [h0, if_true, if_false] <;> rfl
theorem own_t2 (x0 x1 : Int64) : (own_rr2_fn x0 x1) = (((0 : Int32) + (own_pos_fn x0)) + (own_pos_fn x1)) := by
  simp only [own_rr2_fn, own_rr2_j29, own_rr2_j29_t2, own_pos_fn]
  by_cases h0 : (0 : Int64) < x0 <;> by_cases h1 : (0 : Int64) < x1 <;> simp only [h0, h1, if_true, if_false] <;> rfl
theorem own_t3 (x0 x1 x2 : Int64) : (own_rr3_fn x0 x1 x2) = ((((0 : Int32) + (own_pos_fn x0)) + (own_pos_fn x1)) + (own_pos_fn x2)) := by
  simp only [own_rr3_fn, own_rr3_j29, own_rr3_j29_t2, own_rr3_j29_t3, own_pos_fn]
  by_cases h0 : (0 : Int64) < x0 <;> by_cases h1 : (0 : Int64) < x1 <;> by_cases h2 : (0 : Int64) < x2 <;> simp only [h0, h1, h2, if_true, if_false] <;> rfl
theorem own_t4 (x0 x1 x2 x3 : Int64) : (own_rr4_fn x0 x1 x2 x3) = (((((0 : Int32) + (own_pos_fn x0)) + (own_pos_fn x1)) + (own_pos_fn x2)) + (own_pos_fn x3)) := by
  simp only [own_rr4_fn, own_rr4_j29, own_rr4_j29_t2, own_rr4_j29_t3, own_rr4_j29_t4, own_pos_fn]
  by_cases h0 : (0 : Int64) < x0 <;> by_cases h1 : (0 : Int64) < x1 <;> by_cases h2 : (0 : Int64) < x2 <;> by_cases h3 : (0 : Int64) < x3 <;> simp only [h0, h1, h2, h3, if_true, if_false] <;> rfl

theorem pd__IJJJJ_AJ : parseMethodDescriptor "(IJJJJ)[J" = some ⟨[.int, .long, .long, .long, .long], some (.array .long)⟩ := by decide +kernel
theorem pd__AJAJJI_V : parseMethodDescriptor "([J[JJI)V" = some ⟨[(.array .long), (.array .long), .long, .int], none⟩ := by decide +kernel
theorem pd___I : parseMethodDescriptor "()I" = some ⟨[], some .int⟩ := by decide +kernel
theorem pd__J_I : parseMethodDescriptor "(J)I" = some ⟨[.long], some .int⟩ := by decide +kernel
def own_law_Q (Z : State) (x0 : Int64) (x1 : Int64) (x2 : Int64) (x3 : Int64) (x4 : Int32) (x5 : Int32)  (h0 : Heap) (n0 : Nat) (v : Option Value) (h : Heap) (L : List Loc) : Prop := v = some (.int 1) ∧ Fr n0 L
theorem own_law_ef (m : MethodId) (x0 : Int64) (x1 : Int64) (x2 : Int64) (x3 : Int64) (x4 : Int32) (x5 : Int32) : entryFrame m #[(.long x0), (.long x1), (.long x2), (.long x3), (.int x4), (.int x5)] maxLocals = mkF m 0 #[.val (.long x0), .second, .val (.long x1), .second, .val (.long x2), .second, .val (.long x3), .second, .val (.int x4), .val (.int x5), .unset, .unset, .unset, .unset, .unset] [] := by first | (simp [entryFrame, mkF, argsToLocals, Value.category, maxLocals]; done) | rfl
set_option maxRecDepth 65536 in
set_option maxHeartbeats 40000000 in
theorem own_law_rm (l : Launch) (Z : State) (a0 : Array Value) (hw : ∀ d ∈ tables_1, d.before a0 Z = true) (ws : List Jvm.Cond) (x0 : Int64) (x1 : Int64) (x2 : Int64) (x3 : Int64) (x4 : Int32) (x5 : Int32)  (h0 : Heap) (n0 : Nat) (Z0 : n0 ≤ h0.size)  :
    MetFree l x (head1 (Jvm.Cond.code x code maxLocals ret :: ws) room_1) (fun a U => a = #[(.long x0), (.long x1), (.long x2), (.long x3), (.int x4), (.int x5)] ∧ Z.Warmed39 U.vm ∧ U.heap = h0) (fun _ _ _ _ _ => True) (fun _ U o U' => ∃ v L, o = .returned v ∧ own_law_Q Z x0 x1 x2 x3 x4 x5 h0 n0 v U'.heap L ∧ FrameEnd U o U' L room_1.cells room_1.slots) := by
  refine MetFree.of_bodySF (plainFor_of_name pn_FocusedTopicRelevantRetrievedPinLaw) hisR ?_
  intro p e s m args below meth c s₁ Bd hml0 hP hK
  obtain ⟨rfl, hZ, hh⟩ := hP
  have hx := Bd.exec
  have hby := Bd.bytes
  have hml : c.maxLocals = 15 := hml0
  have hown : s.vm.findClass "com/example/focustat/focustat/FocusedTopicRelevantRetrievedPinLaw" = some m.cls := findClass_of_methodNamed Bd.named
  have hnm := (name_of_methodNamed Bd.named Bd.method).1
  have hlk : meth.locks = false := BodyLoose.notSynchronized Bd
  have hrt := Bd.returns
  have X0 : Stand p l e room_1 s m #[(.long x0), (.long x1), (.long x2), (.long x3), (.int x4), (.int x5)] below meth c s₁ [] 0 0 := Stand.of_body Bd
  have e0 : s₁.heap = h0 := by rw [← hh, Bd.state]; rfl
  have N0 := Fr.nil n0
  refine Goes.enter (kc := room_1.cells) (kn := room_1.slots) (Q := own_law_Q Z x0 x1 x2 x3 x4 x5 h0 n0) (own_law_ef m x0 x1 x2 x3 x4 x5) ?_
  refine Goes.step (B := (s₁.setTop (mkF m 2 #[.val (.long x0), .second, .val (.long x1), .second, .val (.long x2), .second, .val (.long x3), .second, .val (.int x4), .val (.int x5), .unset, .unset, .unset, .unset, .unset] [(.int x4)]))) (fun _ k => XS.iload X0.here hx rfl (hb hby at_0) rfl k) ?_
  refine Goes.step (B := (s₁.setTop (mkF m 4 #[.val (.long x0), .second, .val (.long x1), .second, .val (.long x2), .second, .val (.long x3), .second, .val (.int x4), .val (.int x5), .unset, .unset, .unset, .unset, .unset] [(.int (7 : Int32)), (.int x4)]))) (fun _ k => XS.bipush X0.here hx rfl (hb hby at_2) k) ?_
  refine Goes.step (B := (s₁.setTop (mkF m 5 #[.val (.long x0), .second, .val (.long x1), .second, .val (.long x2), .second, .val (.long x3), .second, .val (.int x4), .val (.int x5), .unset, .unset, .unset, .unset, .unset] [(.int (x4 &&& (7 : Int32)))]))) (fun _ k => XS.iand X0.here hx rfl (hb hby at_4) rfl k) ?_
  refine Goes.step (B := (s₁.setTop (mkF m 6 #[.val (.long x0), .second, .val (.long x1), .second, .val (.long x2), .second, .val (.long x3), .second, .val (.int x4), .val (.int x5), .unset, .unset, .unset, .unset, .unset] [(.int (5 : Int32)), (.int (x4 &&& (7 : Int32)))]))) (fun _ k => XS.iconst X0.here hx rfl (hb hby at_5) k) ?_
  refine Goes.step (B := (s₁.setTop (mkF m 7 #[.val (.long x0), .second, .val (.long x1), .second, .val (.long x2), .second, .val (.long x3), .second, .val (.int x4), .val (.int x5), .unset, .unset, .unset, .unset, .unset] [(.int ((x4 &&& (7 : Int32)) % (5 : Int32)))]))) (fun _ k => iremM X0 hx rfl (hb hby at_6) rfl (by decide) k) ?_
  refine Goes.step (B := (s₁.setTop (mkF m 9 #[.val (.long x0), .second, .val (.long x1), .second, .val (.long x2), .second, .val (.long x3), .second, .val (.int x4), .val (.int x5), .val (.int (own_len x4)), .unset, .unset, .unset, .unset] []))) (fun _ k => XS.istore X0.here hx rfl (hb hby at_7) rfl (l' := #[.val (.long x0), .second, .val (.long x1), .second, .val (.long x2), .second, .val (.long x3), .second, .val (.int x4), .val (.int x5), .val (.int (own_len x4)), .unset, .unset, .unset, .unset]) rfl k) ?_
  rcases own_len5 x4 with hl | hl | hl | hl | hl
  · rw [hl]
    refine Goes.step (B := (s₁.setTop (mkF m 11 #[.val (.long x0), .second, .val (.long x1), .second, .val (.long x2), .second, .val (.long x3), .second, .val (.int x4), .val (.int x5), .val (.int (0 : Int32)), .unset, .unset, .unset, .unset] [(.int (0 : Int32))]))) (fun _ k => XS.iload X0.here hx rfl (hb hby at_9) rfl k) ?_
    refine Goes.step (B := (s₁.setTop (mkF m 12 #[.val (.long x0), .second, .val (.long x1), .second, .val (.long x2), .second, .val (.long x3), .second, .val (.int x4), .val (.int x5), .val (.int (0 : Int32)), .unset, .unset, .unset, .unset] [(.long x0), (.int (0 : Int32))]))) (fun _ k => XS.lloadN X0.here hx rfl (hb hby at_11) rfl k) ?_
    refine Goes.step (B := (s₁.setTop (mkF m 13 #[.val (.long x0), .second, .val (.long x1), .second, .val (.long x2), .second, .val (.long x3), .second, .val (.int x4), .val (.int x5), .val (.int (0 : Int32)), .unset, .unset, .unset, .unset] [(.long x1), (.long x0), (.int (0 : Int32))]))) (fun _ k => XS.lloadN X0.here hx rfl (hb hby at_12) rfl k) ?_
    refine Goes.step (B := (s₁.setTop (mkF m 15 #[.val (.long x0), .second, .val (.long x1), .second, .val (.long x2), .second, .val (.long x3), .second, .val (.int x4), .val (.int x5), .val (.int (0 : Int32)), .unset, .unset, .unset, .unset] [(.long x2), (.long x1), (.long x0), (.int (0 : Int32))]))) (fun _ k => XS.lload X0.here hx rfl (hb hby at_13) rfl k) ?_
    refine Goes.step (B := (s₁.setTop (mkF m 17 #[.val (.long x0), .second, .val (.long x1), .second, .val (.long x2), .second, .val (.long x3), .second, .val (.int x4), .val (.int x5), .val (.int (0 : Int32)), .unset, .unset, .unset, .unset] [(.long x3), (.long x2), (.long x1), (.long x0), (.int (0 : Int32))]))) (fun _ k => XS.lload X0.here hx rfl (hb hby at_15) rfl k) ?_
    obtain ⟨_, _, ⟨T101, L101, k101, n101⟩, -, X101, ⟨Lc101, hQ101, l101, y101, z101⟩, st101⟩ := Jvm.LawKit.callS X0 hx (y := (⟨"com/example/focustat/focustat/FocusedTopicRelevantRetrievedPinLaw", "build", "(IJJJJ)[J"⟩ : MethodName)) hown (mvT hZ (hw _ (List.mem_of_getElem? (i := 0) rfl))) (mvT hZ (hw _ (List.mem_of_getElem? (i := 1) rfl))) (mvT hZ (hw _ (List.mem_of_getElem? (i := 2) rfl))) (mvT hZ (hw _ (List.mem_of_getElem? (i := 3) rfl))) (by decide) (backOf (W := 0) (own_bl0_rm l Z a0 hw [] x0 x1 x2 x3  h0 n0 Z0 ) hZ (hw _ (List.mem_of_getElem? (i := 3) rfl)) (hw _ (List.mem_of_getElem? (i := 2) rfl)) (by decide) (by decide)) (g := (mkF m 17 #[.val (.long x0), .second, .val (.long x1), .second, .val (.long x2), .second, .val (.long x3), .second, .val (.int x4), .val (.int x5), .val (.int (0 : Int32)), .unset, .unset, .unset, .unset] [(.long x3), (.long x2), (.long x1), (.long x0), (.int (0 : Int32))])) rfl (by rw [hml]; rfl) (argsL := [(.int (0 : Int32)), (.long x0), (.long x1), (.long x2), (.long x3)]) (rest := []) (lenOf pd__IJJJJ_AJ rfl) rfl (by show 2 * 0 + _ ≤ _; exact Nat.le_of_eq rfl) (hb hby at_17) (fun _ _ => ⟨rfl, e0, (by decide : 0 + 1 ≤ _), (by decide : 0 + 0 ≤ _)⟩)
    dsimp only [Pt.U, Pt.locs, Pt.cells, Pt.slots] at X101 l101 y101 z101 st101 hQ101
    subst l101 y101 z101
    obtain ⟨b_101, k1_101, rfl, N101q, K101q, gn101_b, sz101_b, p101_0⟩ := hQ101
    have N101 := Fr.app N0 N101q
    have K101 : Keep h0 T101.heap [] := Keep.trans (Keep.refl h0 []) K101q (fun _ q => nomatch q)
    have Z101 : n0 ≤ T101.heap.size := Nat.le_trans Z0 K101q.1
    have szz101_b : h0.size ≤ b_101 := Nat.le_trans (Keep.refl h0 []).1 sz101_b
    refine Goes.step (B := (T101.setTop (mkF m 20 #[.val (.long x0), .second, .val (.long x1), .second, .val (.long x2), .second, .val (.long x3), .second, .val (.int x4), .val (.int x5), .val (.int (0 : Int32)), .unset, .unset, .unset, .unset] [(.ref b_101)]))) (fun _ k => st101 _ k) ?_
    refine Goes.step (B := (T101.setTop (mkF m 22 #[.val (.long x0), .second, .val (.long x1), .second, .val (.long x2), .second, .val (.long x3), .second, .val (.int x4), .val (.int x5), .val (.int (0 : Int32)), .val (.ref b_101), .unset, .unset, .unset] []))) (fun _ k => XS.astore X101.here hx rfl (hb hby at_20) rfl rfl (l' := #[.val (.long x0), .second, .val (.long x1), .second, .val (.long x2), .second, .val (.long x3), .second, .val (.int x4), .val (.int x5), .val (.int (0 : Int32)), .val (.ref b_101), .unset, .unset, .unset]) rfl k) ?_
    refine Goes.step (B := (T101.setTop (mkF m 24 #[.val (.long x0), .second, .val (.long x1), .second, .val (.long x2), .second, .val (.long x3), .second, .val (.int x4), .val (.int x5), .val (.int (0 : Int32)), .val (.ref b_101), .unset, .unset, .unset] [(.int (0 : Int32))]))) (fun _ k => XS.iload X101.here hx rfl (hb hby at_22) rfl k) ?_
    refine Goes.step (B := (T101.setTop (mkF m 25 #[.val (.long x0), .second, .val (.long x1), .second, .val (.long x2), .second, .val (.long x3), .second, .val (.int x4), .val (.int x5), .val (.int (0 : Int32)), .val (.ref b_101), .unset, .unset, .unset] [(.long x0), (.int (0 : Int32))]))) (fun _ k => XS.lloadN X101.here hx rfl (hb hby at_24) rfl k) ?_
    refine Goes.step (B := (T101.setTop (mkF m 26 #[.val (.long x0), .second, .val (.long x1), .second, .val (.long x2), .second, .val (.long x3), .second, .val (.int x4), .val (.int x5), .val (.int (0 : Int32)), .val (.ref b_101), .unset, .unset, .unset] [(.long x1), (.long x0), (.int (0 : Int32))]))) (fun _ k => XS.lloadN X101.here hx rfl (hb hby at_25) rfl k) ?_
    refine Goes.step (B := (T101.setTop (mkF m 28 #[.val (.long x0), .second, .val (.long x1), .second, .val (.long x2), .second, .val (.long x3), .second, .val (.int x4), .val (.int x5), .val (.int (0 : Int32)), .val (.ref b_101), .unset, .unset, .unset] [(.long x2), (.long x1), (.long x0), (.int (0 : Int32))]))) (fun _ k => XS.lload X101.here hx rfl (hb hby at_26) rfl k) ?_
    refine Goes.step (B := (T101.setTop (mkF m 30 #[.val (.long x0), .second, .val (.long x1), .second, .val (.long x2), .second, .val (.long x3), .second, .val (.int x4), .val (.int x5), .val (.int (0 : Int32)), .val (.ref b_101), .unset, .unset, .unset] [(.long x3), (.long x2), (.long x1), (.long x0), (.int (0 : Int32))]))) (fun _ k => XS.lload X101.here hx rfl (hb hby at_28) rfl k) ?_
    obtain ⟨_, _, ⟨T102, L102, k102, n102⟩, -, X102, ⟨Lc102, hQ102, l102, y102, z102⟩, st102⟩ := Jvm.LawKit.callS X101 hx (y := (⟨"com/example/focustat/focustat/FocusedTopicRelevantRetrievedPinLaw", "build", "(IJJJJ)[J"⟩ : MethodName)) hown (mvT hZ (hw _ (List.mem_of_getElem? (i := 0) rfl))) (mvT hZ (hw _ (List.mem_of_getElem? (i := 1) rfl))) (mvT hZ (hw _ (List.mem_of_getElem? (i := 2) rfl))) (mvT hZ (hw _ (List.mem_of_getElem? (i := 3) rfl))) (by decide) (backOf (W := 0) (own_bl0_rm l Z a0 hw [] x0 x1 x2 x3  T101.heap n0 Z101 ) hZ (hw _ (List.mem_of_getElem? (i := 3) rfl)) (hw _ (List.mem_of_getElem? (i := 2) rfl)) (by decide) (by decide)) (g := (mkF m 30 #[.val (.long x0), .second, .val (.long x1), .second, .val (.long x2), .second, .val (.long x3), .second, .val (.int x4), .val (.int x5), .val (.int (0 : Int32)), .val (.ref b_101), .unset, .unset, .unset] [(.long x3), (.long x2), (.long x1), (.long x0), (.int (0 : Int32))])) rfl (by rw [hml]; rfl) (argsL := [(.int (0 : Int32)), (.long x0), (.long x1), (.long x2), (.long x3)]) (rest := []) (lenOf pd__IJJJJ_AJ rfl) rfl (by show 2 * 0 + _ ≤ _; exact Nat.le_of_eq rfl) (hb hby at_30) (fun _ _ => ⟨rfl, rfl, (by decide : 1 + 1 ≤ _), (by decide : 0 + 0 ≤ _)⟩)
    dsimp only [Pt.U, Pt.locs, Pt.cells, Pt.slots] at X102 l102 y102 z102 st102 hQ102
    subst l102 y102 z102
    obtain ⟨b_102, k1_102, rfl, N102q, K102q, gn102_b, sz102_b, p102_0⟩ := hQ102
    have N102 := Fr.app N101 N102q
    have ne103 : b_101 ≠ b_102 := Nat.ne_of_lt (Nat.lt_of_lt_of_le p101_0.lt sz102_b)
    have f104 := p101_0.keep K102q nm0
    have K102 : Keep h0 T102.heap [] := Keep.trans K101 K102q (fun _ q => nomatch q)
    have Z102 : n0 ≤ T102.heap.size := Nat.le_trans Z101 K102q.1
    have szz102_b : h0.size ≤ b_102 := Nat.le_trans K101.1 sz102_b
    refine Goes.step (B := (T102.setTop (mkF m 33 #[.val (.long x0), .second, .val (.long x1), .second, .val (.long x2), .second, .val (.long x3), .second, .val (.int x4), .val (.int x5), .val (.int (0 : Int32)), .val (.ref b_101), .unset, .unset, .unset] [(.ref b_102)]))) (fun _ k => st102 _ k) ?_
    refine Goes.step (B := (T102.setTop (mkF m 35 #[.val (.long x0), .second, .val (.long x1), .second, .val (.long x2), .second, .val (.long x3), .second, .val (.int x4), .val (.int x5), .val (.int (0 : Int32)), .val (.ref b_101), .val (.ref b_102), .unset, .unset] []))) (fun _ k => XS.astore X102.here hx rfl (hb hby at_33) rfl rfl (l' := #[.val (.long x0), .second, .val (.long x1), .second, .val (.long x2), .second, .val (.long x3), .second, .val (.int x4), .val (.int x5), .val (.int (0 : Int32)), .val (.ref b_101), .val (.ref b_102), .unset, .unset]) rfl k) ?_
    obtain ⟨T105, h105, X105, e105, E105, A105, D105, -, st105⟩ := newO X102 hx hZ hown (hw _ (List.mem_of_getElem? (i := 5) rfl)) (hw _ (List.mem_of_getElem? (i := 6) rfl)) (hw _ (List.mem_of_getElem? (i := 7) rfl)) rfl (g := (mkF m 35 #[.val (.long x0), .second, .val (.long x1), .second, .val (.long x2), .second, .val (.long x3), .second, .val (.int x4), .val (.int x5), .val (.int (0 : Int32)), .val (.ref b_101), .val (.ref b_102), .unset, .unset] [])) rfl (hb hby at_35) (by decide) (by decide)
    obtain ⟨b105, g105⟩ : ∃ z, z = T102.heap.size := ⟨_, rfl⟩
    rw [← g105] at A105 D105 st105
    have gn105 : n0 ≤ b105 := Nat.le_trans Z102 (Nat.le_of_eq g105.symm)
    have sz105 : h0.size ≤ b105 := Nat.le_trans K102.1 (Nat.le_of_eq g105.symm)
    have ne106 : b_101 ≠ b105 := Nat.ne_of_lt (Nat.lt_of_lt_of_le f104.lt (Nat.le_of_eq g105.symm))
    have ne107 : b_102 ≠ b105 := Nat.ne_of_lt (Nat.lt_of_lt_of_le p102_0.lt (Nat.le_of_eq g105.symm))
    have f108 := f104.ext E105
    have f109 := p102_0.ext E105
    have f110 : Fld Z h105 b105 "com/example/focustat/focustat/FocusedTopic" "covered" "[J" .null := D105 (Or.inr (hw _ (List.mem_of_getElem? (i := 20) rfl))) (ty := (.array .long)) (by decide)
    have f111 : Fld Z h105 b105 "com/example/focustat/focustat/FocusedTopic" "lengths" "[J" .null := D105 (Or.inr (hw _ (List.mem_of_getElem? (i := 22) rfl))) (ty := (.array .long)) (by decide)
    have f112 : Fld Z h105 b105 "com/example/focustat/focustat/FocusedTopic" "highlighted" "J" (.long (0 : Int64)) := D105 (Or.inr (hw _ (List.mem_of_getElem? (i := 24) rfl))) (ty := .long) (by decide)
    have f113 : Fld Z h105 b105 "com/example/focustat/focustat/FocusedTopic" "relevantCount" "I" (.int (0 : Int32)) := D105 (Or.inr (hw _ (List.mem_of_getElem? (i := 26) rfl))) (ty := .int) (by decide)
    have Z105 : n0 ≤ h105.size := Nat.le_trans Z102 E105.1
    have K105 : Keep h0 h105 [] := K102.ext E105
    refine Goes.step (B := (T105.setTop (mkF m 38 #[.val (.long x0), .second, .val (.long x1), .second, .val (.long x2), .second, .val (.long x3), .second, .val (.int x4), .val (.int x5), .val (.int (0 : Int32)), .val (.ref b_101), .val (.ref b_102), .unset, .unset] [(.ref b105)]))) (fun _ k => st105 _ k) ?_
    refine Goes.step (B := (T105.setTop (mkF m 39 #[.val (.long x0), .second, .val (.long x1), .second, .val (.long x2), .second, .val (.long x3), .second, .val (.int x4), .val (.int x5), .val (.int (0 : Int32)), .val (.ref b_101), .val (.ref b_102), .unset, .unset] [(.ref b105), (.ref b105)]))) (fun _ k => XS.dup X105.here hx rfl (hb hby at_38) rfl rfl k) ?_
    refine Goes.step (B := (T105.setTop (mkF m 41 #[.val (.long x0), .second, .val (.long x1), .second, .val (.long x2), .second, .val (.long x3), .second, .val (.int x4), .val (.int x5), .val (.int (0 : Int32)), .val (.ref b_101), .val (.ref b_102), .unset, .unset] [(.ref b_101), (.ref b105), (.ref b105)]))) (fun _ k => XS.aload X105.here hx rfl (hb hby at_39) rfl rfl k) ?_
    refine Goes.step (B := (T105.setTop (mkF m 43 #[.val (.long x0), .second, .val (.long x1), .second, .val (.long x2), .second, .val (.long x3), .second, .val (.int x4), .val (.int x5), .val (.int (0 : Int32)), .val (.ref b_101), .val (.ref b_102), .unset, .unset] [(.ref b_102), (.ref b_101), (.ref b105), (.ref b105)]))) (fun _ k => XS.aload X105.here hx rfl (hb hby at_41) rfl rfl k) ?_
    refine Goes.step (B := (T105.setTop (mkF m 44 #[.val (.long x0), .second, .val (.long x1), .second, .val (.long x2), .second, .val (.long x3), .second, .val (.int x4), .val (.int x5), .val (.int (0 : Int32)), .val (.ref b_101), .val (.ref b_102), .unset, .unset] [(.long (1 : Int64)), (.ref b_102), (.ref b_101), (.ref b105), (.ref b105)]))) (fun _ k => XS.lconst X105.here hx rfl (hb hby at_43) k) ?_
    refine Goes.step (B := (T105.setTop (mkF m 46 #[.val (.long x0), .second, .val (.long x1), .second, .val (.long x2), .second, .val (.long x3), .second, .val (.int x4), .val (.int x5), .val (.int (0 : Int32)), .val (.ref b_101), .val (.ref b_102), .unset, .unset] [(.int x5), (.long (1 : Int64)), (.ref b_102), (.ref b_101), (.ref b105), (.ref b105)]))) (fun _ k => XS.iload X105.here hx rfl (hb hby at_44) rfl k) ?_
    obtain ⟨_, _, ⟨T114, L114, k114, n114⟩, -, X114, ⟨Lc114, hQ114, l114, y114, z114⟩, st114⟩ := X105.specialBack hx (y := (⟨"com/example/focustat/focustat/FocusedTopic", "<init>", "([J[JJI)V"⟩ : MethodName)) rfl hown (mvT hZ (hw _ (List.mem_of_getElem? (i := 8) rfl))) (mvT hZ (hw _ (List.mem_of_getElem? (i := 9) rfl))) (mvT hZ (hw _ (List.mem_of_getElem? (i := 10) rfl))) (by decide) (backOf (W := 1) (own_in_rm l Z a0 hw [] b105 b_101 b_102 (1 : Int64) x5  h105 n0 Z105 A105 f110 f111 f112 f113 gn105) hZ (hw _ (List.mem_of_getElem? (i := 10) rfl)) (hw _ (List.mem_of_getElem? (i := 7) rfl)) (by decide) (by decide)) (g := (mkF m 46 #[.val (.long x0), .second, .val (.long x1), .second, .val (.long x2), .second, .val (.long x3), .second, .val (.int x4), .val (.int x5), .val (.int (0 : Int32)), .val (.ref b_101), .val (.ref b_102), .unset, .unset] [(.int x5), (.long (1 : Int64)), (.ref b_102), (.ref b_101), (.ref b105), (.ref b105)])) rfl (by rw [hml]; rfl) (Steps.refl _) (a := b105) (argsL := [(.ref b_101), (.ref b_102), (.long (1 : Int64)), (.int x5)]) (rest := [(.ref b105)]) (lenOf pd__AJAJJI_V rfl) rfl (by show 2 * 0 + _ ≤ _; exact Nat.le_of_eq rfl) (hb hby at_46) (fun _ _ => ⟨rfl, e105, (by decide : 3 + 0 ≤ _), (by decide : 4 + 0 ≤ _)⟩)
    dsimp only [Pt.U, Pt.locs, Pt.cells, Pt.slots] at X114 l114 y114 z114 st114 hQ114
    subst l114 y114 z114
    obtain ⟨rfl, N114q, K114q, p114_0, p114_1⟩ := hQ114
    have N114 := Fr.app N102 N114q
    have f115 := f108.keep K114q (nm1 ne106)
    have f116 := f109.keep K114q (nm1 ne107)
    have f117 := A105.keep K114q
    have K114 : Keep h0 T114.heap [] := Keep.trans K105 K114q (fun y q => by cases List.mem_singleton.mp q; exact (Or.inr sz105))
    have Z114 : n0 ≤ T114.heap.size := Nat.le_trans Z105 K114q.1
    refine Goes.to (B := (T114.setTop (mkF m 49 #[.val (.long x0), .second, .val (.long x1), .second, .val (.long x2), .second, .val (.long x3), .second, .val (.int x4), .val (.int x5), .val (.int (0 : Int32)), .val (.ref b_101), .val (.ref b_102), .unset, .unset] [(.ref b105)]))) st114 ?_
    refine Goes.step (B := (T114.setTop (mkF m 51 #[.val (.long x0), .second, .val (.long x1), .second, .val (.long x2), .second, .val (.long x3), .second, .val (.int x4), .val (.int x5), .val (.int (0 : Int32)), .val (.ref b_101), .val (.ref b_102), .val (.ref b105), .unset] []))) (fun _ k => XS.astore X114.here hx rfl (hb hby at_49) rfl rfl (l' := #[.val (.long x0), .second, .val (.long x1), .second, .val (.long x2), .second, .val (.long x3), .second, .val (.int x4), .val (.int x5), .val (.int (0 : Int32)), .val (.ref b_101), .val (.ref b_102), .val (.ref b105), .unset]) rfl k) ?_
    refine Goes.step (B := (T114.setTop (mkF m 52 #[.val (.long x0), .second, .val (.long x1), .second, .val (.long x2), .second, .val (.long x3), .second, .val (.int x4), .val (.int x5), .val (.int (0 : Int32)), .val (.ref b_101), .val (.ref b_102), .val (.ref b105), .unset] [(.int (0 : Int32))]))) (fun _ k => XS.iconst X114.here hx rfl (hb hby at_51) k) ?_
    refine Goes.step (B := (T114.setTop (mkF m 54 #[.val (.long x0), .second, .val (.long x1), .second, .val (.long x2), .second, .val (.long x3), .second, .val (.int x4), .val (.int x5), .val (.int (0 : Int32)), .val (.ref b_101), .val (.ref b_102), .val (.ref b105), .val (.int (0 : Int32))] []))) (fun _ k => XS.istore X114.here hx rfl (hb hby at_52) rfl (l' := #[.val (.long x0), .second, .val (.long x1), .second, .val (.long x2), .second, .val (.long x3), .second, .val (.int x4), .val (.int x5), .val (.int (0 : Int32)), .val (.ref b_101), .val (.ref b_102), .val (.ref b105), .val (.int (0 : Int32))]) rfl k) ?_
    refine Goes.step (B := (T114.setTop (mkF m 56 #[.val (.long x0), .second, .val (.long x1), .second, .val (.long x2), .second, .val (.long x3), .second, .val (.int x4), .val (.int x5), .val (.int (0 : Int32)), .val (.ref b_101), .val (.ref b_102), .val (.ref b105), .val (.int (0 : Int32))] [(.int (0 : Int32))]))) (fun _ k => XS.iload X114.here hx rfl (hb hby at_54) rfl k) ?_
    refine Goes.step (B := (T114.setTop (mkF m 57 #[.val (.long x0), .second, .val (.long x1), .second, .val (.long x2), .second, .val (.long x3), .second, .val (.int x4), .val (.int x5), .val (.int (0 : Int32)), .val (.ref b_101), .val (.ref b_102), .val (.ref b105), .val (.int (0 : Int32))] [(.int (1 : Int32)), (.int (0 : Int32))]))) (fun _ k => XS.iconst X114.here hx rfl (hb hby at_56) k) ?_
    have hc118 : (0 : Int32) < (1 : Int32) := by decide
    refine Goes.step (B := (T114.setTop (mkF m 69 #[.val (.long x0), .second, .val (.long x1), .second, .val (.long x2), .second, .val (.long x3), .second, .val (.int x4), .val (.int x5), .val (.int (0 : Int32)), .val (.ref b_101), .val (.ref b_102), .val (.ref b105), .val (.int (0 : Int32))] []))) (fun _ k => XS.icmpYes X114.here hx rfl (pc0 := 57) (pc' := 69) rfl (hb hby at_57) rfl (tlt hc118).1 (by decide) (by decide) k) ?_
    refine Goes.step (B := (T114.setTop (mkF m 71 #[.val (.long x0), .second, .val (.long x1), .second, .val (.long x2), .second, .val (.long x3), .second, .val (.int x4), .val (.int x5), .val (.int (0 : Int32)), .val (.ref b_101), .val (.ref b_102), .val (.ref b105), .val (.int (0 : Int32))] [(.int (0 : Int32))]))) (fun _ k => XS.iload X114.here hx rfl (hb hby at_69) rfl k) ?_
    refine Goes.step (B := (T114.setTop (mkF m 72 #[.val (.long x0), .second, .val (.long x1), .second, .val (.long x2), .second, .val (.long x3), .second, .val (.int x4), .val (.int x5), .val (.int (0 : Int32)), .val (.ref b_101), .val (.ref b_102), .val (.ref b105), .val (.int (0 : Int32))] [(.int (2 : Int32)), (.int (0 : Int32))]))) (fun _ k => XS.iconst X114.here hx rfl (hb hby at_71) k) ?_
    have hc119 : (0 : Int32) < (2 : Int32) := by decide
    refine Goes.step (B := (T114.setTop (mkF m 84 #[.val (.long x0), .second, .val (.long x1), .second, .val (.long x2), .second, .val (.long x3), .second, .val (.int x4), .val (.int x5), .val (.int (0 : Int32)), .val (.ref b_101), .val (.ref b_102), .val (.ref b105), .val (.int (0 : Int32))] []))) (fun _ k => XS.icmpYes X114.here hx rfl (pc0 := 72) (pc' := 84) rfl (hb hby at_72) rfl (tlt hc119).1 (by decide) (by decide) k) ?_
    refine Goes.step (B := (T114.setTop (mkF m 86 #[.val (.long x0), .second, .val (.long x1), .second, .val (.long x2), .second, .val (.long x3), .second, .val (.int x4), .val (.int x5), .val (.int (0 : Int32)), .val (.ref b_101), .val (.ref b_102), .val (.ref b105), .val (.int (0 : Int32))] [(.int (0 : Int32))]))) (fun _ k => XS.iload X114.here hx rfl (hb hby at_84) rfl k) ?_
    refine Goes.step (B := (T114.setTop (mkF m 87 #[.val (.long x0), .second, .val (.long x1), .second, .val (.long x2), .second, .val (.long x3), .second, .val (.int x4), .val (.int x5), .val (.int (0 : Int32)), .val (.ref b_101), .val (.ref b_102), .val (.ref b105), .val (.int (0 : Int32))] [(.int (3 : Int32)), (.int (0 : Int32))]))) (fun _ k => XS.iconst X114.here hx rfl (hb hby at_86) k) ?_
    have hc120 : (0 : Int32) < (3 : Int32) := by decide
    refine Goes.step (B := (T114.setTop (mkF m 100 #[.val (.long x0), .second, .val (.long x1), .second, .val (.long x2), .second, .val (.long x3), .second, .val (.int x4), .val (.int x5), .val (.int (0 : Int32)), .val (.ref b_101), .val (.ref b_102), .val (.ref b105), .val (.int (0 : Int32))] []))) (fun _ k => XS.icmpYes X114.here hx rfl (pc0 := 87) (pc' := 100) rfl (hb hby at_87) rfl (tlt hc120).1 (by decide) (by decide) k) ?_
    refine Goes.step (B := (T114.setTop (mkF m 102 #[.val (.long x0), .second, .val (.long x1), .second, .val (.long x2), .second, .val (.long x3), .second, .val (.int x4), .val (.int x5), .val (.int (0 : Int32)), .val (.ref b_101), .val (.ref b_102), .val (.ref b105), .val (.int (0 : Int32))] [(.int (0 : Int32))]))) (fun _ k => XS.iload X114.here hx rfl (hb hby at_100) rfl k) ?_
    refine Goes.step (B := (T114.setTop (mkF m 103 #[.val (.long x0), .second, .val (.long x1), .second, .val (.long x2), .second, .val (.long x3), .second, .val (.int x4), .val (.int x5), .val (.int (0 : Int32)), .val (.ref b_101), .val (.ref b_102), .val (.ref b105), .val (.int (0 : Int32))] [(.int (4 : Int32)), (.int (0 : Int32))]))) (fun _ k => XS.iconst X114.here hx rfl (hb hby at_102) k) ?_
    have hc121 : (0 : Int32) < (4 : Int32) := by decide
    refine Goes.step (B := (T114.setTop (mkF m 116 #[.val (.long x0), .second, .val (.long x1), .second, .val (.long x2), .second, .val (.long x3), .second, .val (.int x4), .val (.int x5), .val (.int (0 : Int32)), .val (.ref b_101), .val (.ref b_102), .val (.ref b105), .val (.int (0 : Int32))] []))) (fun _ k => XS.icmpYes X114.here hx rfl (pc0 := 103) (pc' := 116) rfl (hb hby at_103) rfl (tlt hc121).1 (by decide) (by decide) k) ?_
    refine Goes.step (B := (T114.setTop (mkF m 118 #[.val (.long x0), .second, .val (.long x1), .second, .val (.long x2), .second, .val (.long x3), .second, .val (.int x4), .val (.int x5), .val (.int (0 : Int32)), .val (.ref b_101), .val (.ref b_102), .val (.ref b105), .val (.int (0 : Int32))] [(.ref b105)]))) (fun _ k => XS.aload X114.here hx rfl (hb hby at_116) rfl rfl k) ?_
    obtain ⟨cq122, kq122, q122a, q122b, q122c⟩ := isOf hZ rfl p114_0
    obtain ⟨_, _, ⟨T122, L122, k122, n122⟩, -, X122, ⟨Lc122, hQ122, l122, y122, z122⟩, st122⟩ := X114.virtualBack hx (y := (⟨"com/example/focustat/focustat/FocusedTopic", "relevantRetrieved", "()I"⟩ : MethodName)) (z := (⟨"com/example/focustat/focustat/FocusedTopic", "relevantRetrieved", "()I"⟩ : MethodName)) hown (mvT hZ (hw _ (List.mem_of_getElem? (i := 30) rfl))) (mvT hZ (hw _ (List.mem_of_getElem? (i := 31) rfl))) (notFace_of_selects (args := #[]) (mvT hZ (hw _ (List.mem_of_getElem? (i := 33) rfl)))) (mvT hZ (hw _ (List.mem_of_getElem? (i := 33) rfl))) (mvT hZ (hw _ (List.mem_of_getElem? (i := 32) rfl))) (by decide) (backOf (W := 0) (own_rr0_rm l Z a0 hw [] b105 b_101 k1_101 T114.heap n0 Z114 p114_1 f115) hZ (hw _ (List.mem_of_getElem? (i := 34) rfl)) (hw _ (List.mem_of_getElem? (i := 7) rfl)) (by decide) (by decide)) q122a q122c (g := (mkF m 118 #[.val (.long x0), .second, .val (.long x1), .second, .val (.long x2), .second, .val (.long x3), .second, .val (.int x4), .val (.int x5), .val (.int (0 : Int32)), .val (.ref b_101), .val (.ref b_102), .val (.ref b105), .val (.int (0 : Int32))] [(.ref b105)])) rfl (by rw [hml]; rfl) (Steps.refl _) (argsL := []) (rest := []) (lenOf pd___I rfl) rfl (by show 2 * 0 + _ ≤ _; exact Nat.le_of_eq rfl) (hb hby at_118) (fun _ _ => ⟨rfl, rfl, (by decide : 3 + 0 ≤ _), (by decide : 4 + 0 ≤ _)⟩)
    dsimp only [Pt.U, Pt.locs, Pt.cells, Pt.slots] at X122 l122 y122 z122 st122 hQ122
    subst l122 y122 z122
    obtain ⟨rfl, N122q, e122⟩ := hQ122
    have N122 := Fr.app N114 N122q
    refine Goes.to (B := (T122.setTop (mkF m 121 #[.val (.long x0), .second, .val (.long x1), .second, .val (.long x2), .second, .val (.long x3), .second, .val (.int x4), .val (.int x5), .val (.int (0 : Int32)), .val (.ref b_101), .val (.ref b_102), .val (.ref b105), .val (.int (0 : Int32))] [(.int (own_rr0_fn))]))) st122 ?_
    refine Goes.step (B := (T122.setTop (mkF m 123 #[.val (.long x0), .second, .val (.long x1), .second, .val (.long x2), .second, .val (.long x3), .second, .val (.int x4), .val (.int x5), .val (.int (0 : Int32)), .val (.ref b_101), .val (.ref b_102), .val (.ref b105), .val (.int (0 : Int32))] [(.int (0 : Int32)), (.int (own_rr0_fn))]))) (fun _ k => XS.iload X122.here hx rfl (hb hby at_121) rfl k) ?_
    have hc123 : (own_rr0_fn) = (0 : Int32) := own_t0 
    refine Goes.step (B := (T122.setTop (mkF m 126 #[.val (.long x0), .second, .val (.long x1), .second, .val (.long x2), .second, .val (.long x3), .second, .val (.int x4), .val (.int x5), .val (.int (0 : Int32)), .val (.ref b_101), .val (.ref b_102), .val (.ref b105), .val (.int (0 : Int32))] []))) (fun _ k => XS.icmpNo X122.here hx rfl (hb hby at_123) rfl (teq hc123).2 k) ?_
    refine Goes.step (B := (T122.setTop (mkF m 127 #[.val (.long x0), .second, .val (.long x1), .second, .val (.long x2), .second, .val (.long x3), .second, .val (.int x4), .val (.int x5), .val (.int (0 : Int32)), .val (.ref b_101), .val (.ref b_102), .val (.ref b105), .val (.int (0 : Int32))] [(.int (1 : Int32))]))) (fun _ k => XS.iconst X122.here hx rfl (hb hby at_126) k) ?_
    refine Goes.step (B := (T122.setTop (mkF m 131 #[.val (.long x0), .second, .val (.long x1), .second, .val (.long x2), .second, .val (.long x3), .second, .val (.int x4), .val (.int x5), .val (.int (0 : Int32)), .val (.ref b_101), .val (.ref b_102), .val (.ref b105), .val (.int (0 : Int32))] [(.int (1 : Int32))]))) (fun _ k => XS.goto X122.here hx rfl (pc0 := 127) (pc' := 131) rfl (hb hby at_127) (by decide) (by decide) k) ?_
    refine Goes.retN X122 hx hlk (t := .boolean) hrt (by simp) (hb hby at_131) ?_ (by decide) (by decide)
    rw [e122]
    exact ⟨rfl, N122⟩
  · rw [hl]
    refine Goes.step (B := (s₁.setTop (mkF m 11 #[.val (.long x0), .second, .val (.long x1), .second, .val (.long x2), .second, .val (.long x3), .second, .val (.int x4), .val (.int x5), .val (.int (1 : Int32)), .unset, .unset, .unset, .unset] [(.int (1 : Int32))]))) (fun _ k => XS.iload X0.here hx rfl (hb hby at_9) rfl k) ?_
    refine Goes.step (B := (s₁.setTop (mkF m 12 #[.val (.long x0), .second, .val (.long x1), .second, .val (.long x2), .second, .val (.long x3), .second, .val (.int x4), .val (.int x5), .val (.int (1 : Int32)), .unset, .unset, .unset, .unset] [(.long x0), (.int (1 : Int32))]))) (fun _ k => XS.lloadN X0.here hx rfl (hb hby at_11) rfl k) ?_
    refine Goes.step (B := (s₁.setTop (mkF m 13 #[.val (.long x0), .second, .val (.long x1), .second, .val (.long x2), .second, .val (.long x3), .second, .val (.int x4), .val (.int x5), .val (.int (1 : Int32)), .unset, .unset, .unset, .unset] [(.long x1), (.long x0), (.int (1 : Int32))]))) (fun _ k => XS.lloadN X0.here hx rfl (hb hby at_12) rfl k) ?_
    refine Goes.step (B := (s₁.setTop (mkF m 15 #[.val (.long x0), .second, .val (.long x1), .second, .val (.long x2), .second, .val (.long x3), .second, .val (.int x4), .val (.int x5), .val (.int (1 : Int32)), .unset, .unset, .unset, .unset] [(.long x2), (.long x1), (.long x0), (.int (1 : Int32))]))) (fun _ k => XS.lload X0.here hx rfl (hb hby at_13) rfl k) ?_
    refine Goes.step (B := (s₁.setTop (mkF m 17 #[.val (.long x0), .second, .val (.long x1), .second, .val (.long x2), .second, .val (.long x3), .second, .val (.int x4), .val (.int x5), .val (.int (1 : Int32)), .unset, .unset, .unset, .unset] [(.long x3), (.long x2), (.long x1), (.long x0), (.int (1 : Int32))]))) (fun _ k => XS.lload X0.here hx rfl (hb hby at_15) rfl k) ?_
    obtain ⟨_, _, ⟨T124, L124, k124, n124⟩, -, X124, ⟨Lc124, hQ124, l124, y124, z124⟩, st124⟩ := Jvm.LawKit.callS X0 hx (y := (⟨"com/example/focustat/focustat/FocusedTopicRelevantRetrievedPinLaw", "build", "(IJJJJ)[J"⟩ : MethodName)) hown (mvT hZ (hw _ (List.mem_of_getElem? (i := 0) rfl))) (mvT hZ (hw _ (List.mem_of_getElem? (i := 1) rfl))) (mvT hZ (hw _ (List.mem_of_getElem? (i := 2) rfl))) (mvT hZ (hw _ (List.mem_of_getElem? (i := 3) rfl))) (by decide) (backOf (W := 0) (own_bl1_rm l Z a0 hw [] x0 x1 x2 x3  h0 n0 Z0 ) hZ (hw _ (List.mem_of_getElem? (i := 3) rfl)) (hw _ (List.mem_of_getElem? (i := 2) rfl)) (by decide) (by decide)) (g := (mkF m 17 #[.val (.long x0), .second, .val (.long x1), .second, .val (.long x2), .second, .val (.long x3), .second, .val (.int x4), .val (.int x5), .val (.int (1 : Int32)), .unset, .unset, .unset, .unset] [(.long x3), (.long x2), (.long x1), (.long x0), (.int (1 : Int32))])) rfl (by rw [hml]; rfl) (argsL := [(.int (1 : Int32)), (.long x0), (.long x1), (.long x2), (.long x3)]) (rest := []) (lenOf pd__IJJJJ_AJ rfl) rfl (by show 2 * 0 + _ ≤ _; exact Nat.le_of_eq rfl) (hb hby at_17) (fun _ _ => ⟨rfl, e0, (by decide : 0 + 1 ≤ _), (by decide : 0 + 1 ≤ _)⟩)
    dsimp only [Pt.U, Pt.locs, Pt.cells, Pt.slots] at X124 l124 y124 z124 st124 hQ124
    subst l124 y124 z124
    obtain ⟨b_124, k1_124, rfl, N124q, K124q, gn124_b, sz124_b, p124_0⟩ := hQ124
    have N124 := Fr.app N0 N124q
    have K124 : Keep h0 T124.heap [] := Keep.trans (Keep.refl h0 []) K124q (fun _ q => nomatch q)
    have Z124 : n0 ≤ T124.heap.size := Nat.le_trans Z0 K124q.1
    have szz124_b : h0.size ≤ b_124 := Nat.le_trans (Keep.refl h0 []).1 sz124_b
    refine Goes.step (B := (T124.setTop (mkF m 20 #[.val (.long x0), .second, .val (.long x1), .second, .val (.long x2), .second, .val (.long x3), .second, .val (.int x4), .val (.int x5), .val (.int (1 : Int32)), .unset, .unset, .unset, .unset] [(.ref b_124)]))) (fun _ k => st124 _ k) ?_
    refine Goes.step (B := (T124.setTop (mkF m 22 #[.val (.long x0), .second, .val (.long x1), .second, .val (.long x2), .second, .val (.long x3), .second, .val (.int x4), .val (.int x5), .val (.int (1 : Int32)), .val (.ref b_124), .unset, .unset, .unset] []))) (fun _ k => XS.astore X124.here hx rfl (hb hby at_20) rfl rfl (l' := #[.val (.long x0), .second, .val (.long x1), .second, .val (.long x2), .second, .val (.long x3), .second, .val (.int x4), .val (.int x5), .val (.int (1 : Int32)), .val (.ref b_124), .unset, .unset, .unset]) rfl k) ?_
    refine Goes.step (B := (T124.setTop (mkF m 24 #[.val (.long x0), .second, .val (.long x1), .second, .val (.long x2), .second, .val (.long x3), .second, .val (.int x4), .val (.int x5), .val (.int (1 : Int32)), .val (.ref b_124), .unset, .unset, .unset] [(.int (1 : Int32))]))) (fun _ k => XS.iload X124.here hx rfl (hb hby at_22) rfl k) ?_
    refine Goes.step (B := (T124.setTop (mkF m 25 #[.val (.long x0), .second, .val (.long x1), .second, .val (.long x2), .second, .val (.long x3), .second, .val (.int x4), .val (.int x5), .val (.int (1 : Int32)), .val (.ref b_124), .unset, .unset, .unset] [(.long x0), (.int (1 : Int32))]))) (fun _ k => XS.lloadN X124.here hx rfl (hb hby at_24) rfl k) ?_
    refine Goes.step (B := (T124.setTop (mkF m 26 #[.val (.long x0), .second, .val (.long x1), .second, .val (.long x2), .second, .val (.long x3), .second, .val (.int x4), .val (.int x5), .val (.int (1 : Int32)), .val (.ref b_124), .unset, .unset, .unset] [(.long x1), (.long x0), (.int (1 : Int32))]))) (fun _ k => XS.lloadN X124.here hx rfl (hb hby at_25) rfl k) ?_
    refine Goes.step (B := (T124.setTop (mkF m 28 #[.val (.long x0), .second, .val (.long x1), .second, .val (.long x2), .second, .val (.long x3), .second, .val (.int x4), .val (.int x5), .val (.int (1 : Int32)), .val (.ref b_124), .unset, .unset, .unset] [(.long x2), (.long x1), (.long x0), (.int (1 : Int32))]))) (fun _ k => XS.lload X124.here hx rfl (hb hby at_26) rfl k) ?_
    refine Goes.step (B := (T124.setTop (mkF m 30 #[.val (.long x0), .second, .val (.long x1), .second, .val (.long x2), .second, .val (.long x3), .second, .val (.int x4), .val (.int x5), .val (.int (1 : Int32)), .val (.ref b_124), .unset, .unset, .unset] [(.long x3), (.long x2), (.long x1), (.long x0), (.int (1 : Int32))]))) (fun _ k => XS.lload X124.here hx rfl (hb hby at_28) rfl k) ?_
    obtain ⟨_, _, ⟨T125, L125, k125, n125⟩, -, X125, ⟨Lc125, hQ125, l125, y125, z125⟩, st125⟩ := Jvm.LawKit.callS X124 hx (y := (⟨"com/example/focustat/focustat/FocusedTopicRelevantRetrievedPinLaw", "build", "(IJJJJ)[J"⟩ : MethodName)) hown (mvT hZ (hw _ (List.mem_of_getElem? (i := 0) rfl))) (mvT hZ (hw _ (List.mem_of_getElem? (i := 1) rfl))) (mvT hZ (hw _ (List.mem_of_getElem? (i := 2) rfl))) (mvT hZ (hw _ (List.mem_of_getElem? (i := 3) rfl))) (by decide) (backOf (W := 0) (own_bl1_rm l Z a0 hw [] x0 x1 x2 x3  T124.heap n0 Z124 ) hZ (hw _ (List.mem_of_getElem? (i := 3) rfl)) (hw _ (List.mem_of_getElem? (i := 2) rfl)) (by decide) (by decide)) (g := (mkF m 30 #[.val (.long x0), .second, .val (.long x1), .second, .val (.long x2), .second, .val (.long x3), .second, .val (.int x4), .val (.int x5), .val (.int (1 : Int32)), .val (.ref b_124), .unset, .unset, .unset] [(.long x3), (.long x2), (.long x1), (.long x0), (.int (1 : Int32))])) rfl (by rw [hml]; rfl) (argsL := [(.int (1 : Int32)), (.long x0), (.long x1), (.long x2), (.long x3)]) (rest := []) (lenOf pd__IJJJJ_AJ rfl) rfl (by show 2 * 0 + _ ≤ _; exact Nat.le_of_eq rfl) (hb hby at_30) (fun _ _ => ⟨rfl, rfl, (by decide : 1 + 1 ≤ _), (by decide : 1 + 1 ≤ _)⟩)
    dsimp only [Pt.U, Pt.locs, Pt.cells, Pt.slots] at X125 l125 y125 z125 st125 hQ125
    subst l125 y125 z125
    obtain ⟨b_125, k1_125, rfl, N125q, K125q, gn125_b, sz125_b, p125_0⟩ := hQ125
    have N125 := Fr.app N124 N125q
    have ne126 : b_124 ≠ b_125 := Nat.ne_of_lt (Nat.lt_of_lt_of_le p124_0.lt sz125_b)
    have f127 := p124_0.keep K125q nm0
    have K125 : Keep h0 T125.heap [] := Keep.trans K124 K125q (fun _ q => nomatch q)
    have Z125 : n0 ≤ T125.heap.size := Nat.le_trans Z124 K125q.1
    have szz125_b : h0.size ≤ b_125 := Nat.le_trans K124.1 sz125_b
    refine Goes.step (B := (T125.setTop (mkF m 33 #[.val (.long x0), .second, .val (.long x1), .second, .val (.long x2), .second, .val (.long x3), .second, .val (.int x4), .val (.int x5), .val (.int (1 : Int32)), .val (.ref b_124), .unset, .unset, .unset] [(.ref b_125)]))) (fun _ k => st125 _ k) ?_
    refine Goes.step (B := (T125.setTop (mkF m 35 #[.val (.long x0), .second, .val (.long x1), .second, .val (.long x2), .second, .val (.long x3), .second, .val (.int x4), .val (.int x5), .val (.int (1 : Int32)), .val (.ref b_124), .val (.ref b_125), .unset, .unset] []))) (fun _ k => XS.astore X125.here hx rfl (hb hby at_33) rfl rfl (l' := #[.val (.long x0), .second, .val (.long x1), .second, .val (.long x2), .second, .val (.long x3), .second, .val (.int x4), .val (.int x5), .val (.int (1 : Int32)), .val (.ref b_124), .val (.ref b_125), .unset, .unset]) rfl k) ?_
    obtain ⟨T128, h128, X128, e128, E128, A128, D128, -, st128⟩ := newO X125 hx hZ hown (hw _ (List.mem_of_getElem? (i := 5) rfl)) (hw _ (List.mem_of_getElem? (i := 6) rfl)) (hw _ (List.mem_of_getElem? (i := 7) rfl)) rfl (g := (mkF m 35 #[.val (.long x0), .second, .val (.long x1), .second, .val (.long x2), .second, .val (.long x3), .second, .val (.int x4), .val (.int x5), .val (.int (1 : Int32)), .val (.ref b_124), .val (.ref b_125), .unset, .unset] [])) rfl (hb hby at_35) (by decide) (by decide)
    obtain ⟨b128, g128⟩ : ∃ z, z = T125.heap.size := ⟨_, rfl⟩
    rw [← g128] at A128 D128 st128
    have gn128 : n0 ≤ b128 := Nat.le_trans Z125 (Nat.le_of_eq g128.symm)
    have sz128 : h0.size ≤ b128 := Nat.le_trans K125.1 (Nat.le_of_eq g128.symm)
    have ne129 : b_124 ≠ b128 := Nat.ne_of_lt (Nat.lt_of_lt_of_le f127.lt (Nat.le_of_eq g128.symm))
    have ne130 : b_125 ≠ b128 := Nat.ne_of_lt (Nat.lt_of_lt_of_le p125_0.lt (Nat.le_of_eq g128.symm))
    have f131 := f127.ext E128
    have f132 := p125_0.ext E128
    have f133 : Fld Z h128 b128 "com/example/focustat/focustat/FocusedTopic" "covered" "[J" .null := D128 (Or.inr (hw _ (List.mem_of_getElem? (i := 20) rfl))) (ty := (.array .long)) (by decide)
    have f134 : Fld Z h128 b128 "com/example/focustat/focustat/FocusedTopic" "lengths" "[J" .null := D128 (Or.inr (hw _ (List.mem_of_getElem? (i := 22) rfl))) (ty := (.array .long)) (by decide)
    have f135 : Fld Z h128 b128 "com/example/focustat/focustat/FocusedTopic" "highlighted" "J" (.long (0 : Int64)) := D128 (Or.inr (hw _ (List.mem_of_getElem? (i := 24) rfl))) (ty := .long) (by decide)
    have f136 : Fld Z h128 b128 "com/example/focustat/focustat/FocusedTopic" "relevantCount" "I" (.int (0 : Int32)) := D128 (Or.inr (hw _ (List.mem_of_getElem? (i := 26) rfl))) (ty := .int) (by decide)
    have Z128 : n0 ≤ h128.size := Nat.le_trans Z125 E128.1
    have K128 : Keep h0 h128 [] := K125.ext E128
    refine Goes.step (B := (T128.setTop (mkF m 38 #[.val (.long x0), .second, .val (.long x1), .second, .val (.long x2), .second, .val (.long x3), .second, .val (.int x4), .val (.int x5), .val (.int (1 : Int32)), .val (.ref b_124), .val (.ref b_125), .unset, .unset] [(.ref b128)]))) (fun _ k => st128 _ k) ?_
    refine Goes.step (B := (T128.setTop (mkF m 39 #[.val (.long x0), .second, .val (.long x1), .second, .val (.long x2), .second, .val (.long x3), .second, .val (.int x4), .val (.int x5), .val (.int (1 : Int32)), .val (.ref b_124), .val (.ref b_125), .unset, .unset] [(.ref b128), (.ref b128)]))) (fun _ k => XS.dup X128.here hx rfl (hb hby at_38) rfl rfl k) ?_
    refine Goes.step (B := (T128.setTop (mkF m 41 #[.val (.long x0), .second, .val (.long x1), .second, .val (.long x2), .second, .val (.long x3), .second, .val (.int x4), .val (.int x5), .val (.int (1 : Int32)), .val (.ref b_124), .val (.ref b_125), .unset, .unset] [(.ref b_124), (.ref b128), (.ref b128)]))) (fun _ k => XS.aload X128.here hx rfl (hb hby at_39) rfl rfl k) ?_
    refine Goes.step (B := (T128.setTop (mkF m 43 #[.val (.long x0), .second, .val (.long x1), .second, .val (.long x2), .second, .val (.long x3), .second, .val (.int x4), .val (.int x5), .val (.int (1 : Int32)), .val (.ref b_124), .val (.ref b_125), .unset, .unset] [(.ref b_125), (.ref b_124), (.ref b128), (.ref b128)]))) (fun _ k => XS.aload X128.here hx rfl (hb hby at_41) rfl rfl k) ?_
    refine Goes.step (B := (T128.setTop (mkF m 44 #[.val (.long x0), .second, .val (.long x1), .second, .val (.long x2), .second, .val (.long x3), .second, .val (.int x4), .val (.int x5), .val (.int (1 : Int32)), .val (.ref b_124), .val (.ref b_125), .unset, .unset] [(.long (1 : Int64)), (.ref b_125), (.ref b_124), (.ref b128), (.ref b128)]))) (fun _ k => XS.lconst X128.here hx rfl (hb hby at_43) k) ?_
    refine Goes.step (B := (T128.setTop (mkF m 46 #[.val (.long x0), .second, .val (.long x1), .second, .val (.long x2), .second, .val (.long x3), .second, .val (.int x4), .val (.int x5), .val (.int (1 : Int32)), .val (.ref b_124), .val (.ref b_125), .unset, .unset] [(.int x5), (.long (1 : Int64)), (.ref b_125), (.ref b_124), (.ref b128), (.ref b128)]))) (fun _ k => XS.iload X128.here hx rfl (hb hby at_44) rfl k) ?_
    obtain ⟨_, _, ⟨T137, L137, k137, n137⟩, -, X137, ⟨Lc137, hQ137, l137, y137, z137⟩, st137⟩ := X128.specialBack hx (y := (⟨"com/example/focustat/focustat/FocusedTopic", "<init>", "([J[JJI)V"⟩ : MethodName)) rfl hown (mvT hZ (hw _ (List.mem_of_getElem? (i := 8) rfl))) (mvT hZ (hw _ (List.mem_of_getElem? (i := 9) rfl))) (mvT hZ (hw _ (List.mem_of_getElem? (i := 10) rfl))) (by decide) (backOf (W := 1) (own_in_rm l Z a0 hw [] b128 b_124 b_125 (1 : Int64) x5  h128 n0 Z128 A128 f133 f134 f135 f136 gn128) hZ (hw _ (List.mem_of_getElem? (i := 10) rfl)) (hw _ (List.mem_of_getElem? (i := 7) rfl)) (by decide) (by decide)) (g := (mkF m 46 #[.val (.long x0), .second, .val (.long x1), .second, .val (.long x2), .second, .val (.long x3), .second, .val (.int x4), .val (.int x5), .val (.int (1 : Int32)), .val (.ref b_124), .val (.ref b_125), .unset, .unset] [(.int x5), (.long (1 : Int64)), (.ref b_125), (.ref b_124), (.ref b128), (.ref b128)])) rfl (by rw [hml]; rfl) (Steps.refl _) (a := b128) (argsL := [(.ref b_124), (.ref b_125), (.long (1 : Int64)), (.int x5)]) (rest := [(.ref b128)]) (lenOf pd__AJAJJI_V rfl) rfl (by show 2 * 0 + _ ≤ _; exact Nat.le_of_eq rfl) (hb hby at_46) (fun _ _ => ⟨rfl, e128, (by decide : 3 + 0 ≤ _), (by decide : 6 + 0 ≤ _)⟩)
    dsimp only [Pt.U, Pt.locs, Pt.cells, Pt.slots] at X137 l137 y137 z137 st137 hQ137
    subst l137 y137 z137
    obtain ⟨rfl, N137q, K137q, p137_0, p137_1⟩ := hQ137
    have N137 := Fr.app N125 N137q
    have f138 := f131.keep K137q (nm1 ne129)
    have f139 := f132.keep K137q (nm1 ne130)
    have f140 := A128.keep K137q
    have K137 : Keep h0 T137.heap [] := Keep.trans K128 K137q (fun y q => by cases List.mem_singleton.mp q; exact (Or.inr sz128))
    have Z137 : n0 ≤ T137.heap.size := Nat.le_trans Z128 K137q.1
    refine Goes.to (B := (T137.setTop (mkF m 49 #[.val (.long x0), .second, .val (.long x1), .second, .val (.long x2), .second, .val (.long x3), .second, .val (.int x4), .val (.int x5), .val (.int (1 : Int32)), .val (.ref b_124), .val (.ref b_125), .unset, .unset] [(.ref b128)]))) st137 ?_
    refine Goes.step (B := (T137.setTop (mkF m 51 #[.val (.long x0), .second, .val (.long x1), .second, .val (.long x2), .second, .val (.long x3), .second, .val (.int x4), .val (.int x5), .val (.int (1 : Int32)), .val (.ref b_124), .val (.ref b_125), .val (.ref b128), .unset] []))) (fun _ k => XS.astore X137.here hx rfl (hb hby at_49) rfl rfl (l' := #[.val (.long x0), .second, .val (.long x1), .second, .val (.long x2), .second, .val (.long x3), .second, .val (.int x4), .val (.int x5), .val (.int (1 : Int32)), .val (.ref b_124), .val (.ref b_125), .val (.ref b128), .unset]) rfl k) ?_
    refine Goes.step (B := (T137.setTop (mkF m 52 #[.val (.long x0), .second, .val (.long x1), .second, .val (.long x2), .second, .val (.long x3), .second, .val (.int x4), .val (.int x5), .val (.int (1 : Int32)), .val (.ref b_124), .val (.ref b_125), .val (.ref b128), .unset] [(.int (0 : Int32))]))) (fun _ k => XS.iconst X137.here hx rfl (hb hby at_51) k) ?_
    refine Goes.step (B := (T137.setTop (mkF m 54 #[.val (.long x0), .second, .val (.long x1), .second, .val (.long x2), .second, .val (.long x3), .second, .val (.int x4), .val (.int x5), .val (.int (1 : Int32)), .val (.ref b_124), .val (.ref b_125), .val (.ref b128), .val (.int (0 : Int32))] []))) (fun _ k => XS.istore X137.here hx rfl (hb hby at_52) rfl (l' := #[.val (.long x0), .second, .val (.long x1), .second, .val (.long x2), .second, .val (.long x3), .second, .val (.int x4), .val (.int x5), .val (.int (1 : Int32)), .val (.ref b_124), .val (.ref b_125), .val (.ref b128), .val (.int (0 : Int32))]) rfl k) ?_
    refine Goes.step (B := (T137.setTop (mkF m 56 #[.val (.long x0), .second, .val (.long x1), .second, .val (.long x2), .second, .val (.long x3), .second, .val (.int x4), .val (.int x5), .val (.int (1 : Int32)), .val (.ref b_124), .val (.ref b_125), .val (.ref b128), .val (.int (0 : Int32))] [(.int (1 : Int32))]))) (fun _ k => XS.iload X137.here hx rfl (hb hby at_54) rfl k) ?_
    refine Goes.step (B := (T137.setTop (mkF m 57 #[.val (.long x0), .second, .val (.long x1), .second, .val (.long x2), .second, .val (.long x3), .second, .val (.int x4), .val (.int x5), .val (.int (1 : Int32)), .val (.ref b_124), .val (.ref b_125), .val (.ref b128), .val (.int (0 : Int32))] [(.int (1 : Int32)), (.int (1 : Int32))]))) (fun _ k => XS.iconst X137.here hx rfl (hb hby at_56) k) ?_
    have hc141 : ¬ ((1 : Int32) < (1 : Int32)) := by decide
    refine Goes.step (B := (T137.setTop (mkF m 60 #[.val (.long x0), .second, .val (.long x1), .second, .val (.long x2), .second, .val (.long x3), .second, .val (.int x4), .val (.int x5), .val (.int (1 : Int32)), .val (.ref b_124), .val (.ref b_125), .val (.ref b128), .val (.int (0 : Int32))] []))) (fun _ k => XS.icmpNo X137.here hx rfl (hb hby at_57) rfl (flt hc141).1 k) ?_
    refine Goes.step (B := (T137.setTop (mkF m 62 #[.val (.long x0), .second, .val (.long x1), .second, .val (.long x2), .second, .val (.long x3), .second, .val (.int x4), .val (.int x5), .val (.int (1 : Int32)), .val (.ref b_124), .val (.ref b_125), .val (.ref b128), .val (.int (0 : Int32))] [(.int (0 : Int32))]))) (fun _ k => XS.iload X137.here hx rfl (hb hby at_60) rfl k) ?_
    refine Goes.step (B := (T137.setTop (mkF m 63 #[.val (.long x0), .second, .val (.long x1), .second, .val (.long x2), .second, .val (.long x3), .second, .val (.int x4), .val (.int x5), .val (.int (1 : Int32)), .val (.ref b_124), .val (.ref b_125), .val (.ref b128), .val (.int (0 : Int32))] [(.long x0), (.int (0 : Int32))]))) (fun _ k => XS.lloadN X137.here hx rfl (hb hby at_62) rfl k) ?_
    obtain ⟨_, _, ⟨T142, L142, k142, n142⟩, -, X142, ⟨Lc142, hQ142, l142, y142, z142⟩, st142⟩ := Jvm.LawKit.callS X137 hx (y := (⟨"com/example/focustat/focustat/FocusedTopicRelevantRetrievedPinLaw", "pos", "(J)I"⟩ : MethodName)) hown (mvT hZ (hw _ (List.mem_of_getElem? (i := 27) rfl))) (mvT hZ (hw _ (List.mem_of_getElem? (i := 28) rfl))) (mvT hZ (hw _ (List.mem_of_getElem? (i := 2) rfl))) (mvT hZ (hw _ (List.mem_of_getElem? (i := 29) rfl))) (by decide) (backOf (W := 1) (own_pos_rm l Z a0 hw [] x0  T137.heap n0 Z137 ) hZ (hw _ (List.mem_of_getElem? (i := 29) rfl)) (hw _ (List.mem_of_getElem? (i := 2) rfl)) (by decide) (by decide)) (g := (mkF m 63 #[.val (.long x0), .second, .val (.long x1), .second, .val (.long x2), .second, .val (.long x3), .second, .val (.int x4), .val (.int x5), .val (.int (1 : Int32)), .val (.ref b_124), .val (.ref b_125), .val (.ref b128), .val (.int (0 : Int32))] [(.long x0), (.int (0 : Int32))])) rfl (by rw [hml]; rfl) (argsL := [(.long x0)]) (rest := [(.int (0 : Int32))]) (lenOf pd__J_I rfl) rfl (by show 2 * 0 + _ ≤ _; exact Nat.le_of_eq rfl) (hb hby at_63) (fun _ _ => ⟨rfl, rfl, (by decide : 3 + 0 ≤ _), (by decide : 6 + 0 ≤ _)⟩)
    dsimp only [Pt.U, Pt.locs, Pt.cells, Pt.slots] at X142 l142 y142 z142 st142 hQ142
    subst l142 y142 z142
    obtain ⟨rfl, N142q, e142⟩ := hQ142
    have N142 := Fr.app N137 N142q
    refine Goes.step (B := (T142.setTop (mkF m 66 #[.val (.long x0), .second, .val (.long x1), .second, .val (.long x2), .second, .val (.long x3), .second, .val (.int x4), .val (.int x5), .val (.int (1 : Int32)), .val (.ref b_124), .val (.ref b_125), .val (.ref b128), .val (.int (0 : Int32))] [(.int (own_pos_fn x0)), (.int (0 : Int32))]))) (fun _ k => st142 _ k) ?_
    refine Goes.step (B := (T142.setTop (mkF m 67 #[.val (.long x0), .second, .val (.long x1), .second, .val (.long x2), .second, .val (.long x3), .second, .val (.int x4), .val (.int x5), .val (.int (1 : Int32)), .val (.ref b_124), .val (.ref b_125), .val (.ref b128), .val (.int (0 : Int32))] [(.int ((0 : Int32) + (own_pos_fn x0)))]))) (fun _ k => XS.iadd X142.here hx rfl (hb hby at_66) rfl k) ?_
    refine Goes.step (B := (T142.setTop (mkF m 69 #[.val (.long x0), .second, .val (.long x1), .second, .val (.long x2), .second, .val (.long x3), .second, .val (.int x4), .val (.int x5), .val (.int (1 : Int32)), .val (.ref b_124), .val (.ref b_125), .val (.ref b128), .val (.int ((0 : Int32) + (own_pos_fn x0)))] []))) (fun _ k => XS.istore X142.here hx rfl (hb hby at_67) rfl (l' := #[.val (.long x0), .second, .val (.long x1), .second, .val (.long x2), .second, .val (.long x3), .second, .val (.int x4), .val (.int x5), .val (.int (1 : Int32)), .val (.ref b_124), .val (.ref b_125), .val (.ref b128), .val (.int ((0 : Int32) + (own_pos_fn x0)))]) rfl k) ?_
    refine Goes.step (B := (T142.setTop (mkF m 71 #[.val (.long x0), .second, .val (.long x1), .second, .val (.long x2), .second, .val (.long x3), .second, .val (.int x4), .val (.int x5), .val (.int (1 : Int32)), .val (.ref b_124), .val (.ref b_125), .val (.ref b128), .val (.int ((0 : Int32) + (own_pos_fn x0)))] [(.int (1 : Int32))]))) (fun _ k => XS.iload X142.here hx rfl (hb hby at_69) rfl k) ?_
    refine Goes.step (B := (T142.setTop (mkF m 72 #[.val (.long x0), .second, .val (.long x1), .second, .val (.long x2), .second, .val (.long x3), .second, .val (.int x4), .val (.int x5), .val (.int (1 : Int32)), .val (.ref b_124), .val (.ref b_125), .val (.ref b128), .val (.int ((0 : Int32) + (own_pos_fn x0)))] [(.int (2 : Int32)), (.int (1 : Int32))]))) (fun _ k => XS.iconst X142.here hx rfl (hb hby at_71) k) ?_
    have hc143 : (1 : Int32) < (2 : Int32) := by decide
    refine Goes.step (B := (T142.setTop (mkF m 84 #[.val (.long x0), .second, .val (.long x1), .second, .val (.long x2), .second, .val (.long x3), .second, .val (.int x4), .val (.int x5), .val (.int (1 : Int32)), .val (.ref b_124), .val (.ref b_125), .val (.ref b128), .val (.int ((0 : Int32) + (own_pos_fn x0)))] []))) (fun _ k => XS.icmpYes X142.here hx rfl (pc0 := 72) (pc' := 84) rfl (hb hby at_72) rfl (tlt hc143).1 (by decide) (by decide) k) ?_
    refine Goes.step (B := (T142.setTop (mkF m 86 #[.val (.long x0), .second, .val (.long x1), .second, .val (.long x2), .second, .val (.long x3), .second, .val (.int x4), .val (.int x5), .val (.int (1 : Int32)), .val (.ref b_124), .val (.ref b_125), .val (.ref b128), .val (.int ((0 : Int32) + (own_pos_fn x0)))] [(.int (1 : Int32))]))) (fun _ k => XS.iload X142.here hx rfl (hb hby at_84) rfl k) ?_
    refine Goes.step (B := (T142.setTop (mkF m 87 #[.val (.long x0), .second, .val (.long x1), .second, .val (.long x2), .second, .val (.long x3), .second, .val (.int x4), .val (.int x5), .val (.int (1 : Int32)), .val (.ref b_124), .val (.ref b_125), .val (.ref b128), .val (.int ((0 : Int32) + (own_pos_fn x0)))] [(.int (3 : Int32)), (.int (1 : Int32))]))) (fun _ k => XS.iconst X142.here hx rfl (hb hby at_86) k) ?_
    have hc144 : (1 : Int32) < (3 : Int32) := by decide
    refine Goes.step (B := (T142.setTop (mkF m 100 #[.val (.long x0), .second, .val (.long x1), .second, .val (.long x2), .second, .val (.long x3), .second, .val (.int x4), .val (.int x5), .val (.int (1 : Int32)), .val (.ref b_124), .val (.ref b_125), .val (.ref b128), .val (.int ((0 : Int32) + (own_pos_fn x0)))] []))) (fun _ k => XS.icmpYes X142.here hx rfl (pc0 := 87) (pc' := 100) rfl (hb hby at_87) rfl (tlt hc144).1 (by decide) (by decide) k) ?_
    refine Goes.step (B := (T142.setTop (mkF m 102 #[.val (.long x0), .second, .val (.long x1), .second, .val (.long x2), .second, .val (.long x3), .second, .val (.int x4), .val (.int x5), .val (.int (1 : Int32)), .val (.ref b_124), .val (.ref b_125), .val (.ref b128), .val (.int ((0 : Int32) + (own_pos_fn x0)))] [(.int (1 : Int32))]))) (fun _ k => XS.iload X142.here hx rfl (hb hby at_100) rfl k) ?_
    refine Goes.step (B := (T142.setTop (mkF m 103 #[.val (.long x0), .second, .val (.long x1), .second, .val (.long x2), .second, .val (.long x3), .second, .val (.int x4), .val (.int x5), .val (.int (1 : Int32)), .val (.ref b_124), .val (.ref b_125), .val (.ref b128), .val (.int ((0 : Int32) + (own_pos_fn x0)))] [(.int (4 : Int32)), (.int (1 : Int32))]))) (fun _ k => XS.iconst X142.here hx rfl (hb hby at_102) k) ?_
    have hc145 : (1 : Int32) < (4 : Int32) := by decide
    refine Goes.step (B := (T142.setTop (mkF m 116 #[.val (.long x0), .second, .val (.long x1), .second, .val (.long x2), .second, .val (.long x3), .second, .val (.int x4), .val (.int x5), .val (.int (1 : Int32)), .val (.ref b_124), .val (.ref b_125), .val (.ref b128), .val (.int ((0 : Int32) + (own_pos_fn x0)))] []))) (fun _ k => XS.icmpYes X142.here hx rfl (pc0 := 103) (pc' := 116) rfl (hb hby at_103) rfl (tlt hc145).1 (by decide) (by decide) k) ?_
    refine Goes.step (B := (T142.setTop (mkF m 118 #[.val (.long x0), .second, .val (.long x1), .second, .val (.long x2), .second, .val (.long x3), .second, .val (.int x4), .val (.int x5), .val (.int (1 : Int32)), .val (.ref b_124), .val (.ref b_125), .val (.ref b128), .val (.int ((0 : Int32) + (own_pos_fn x0)))] [(.ref b128)]))) (fun _ k => XS.aload X142.here hx rfl (hb hby at_116) rfl rfl k) ?_
    obtain ⟨cq146, kq146, q146a, q146b, q146c⟩ := isOf hZ e142 p137_0
    obtain ⟨_, _, ⟨T146, L146, k146, n146⟩, -, X146, ⟨Lc146, hQ146, l146, y146, z146⟩, st146⟩ := X142.virtualBack hx (y := (⟨"com/example/focustat/focustat/FocusedTopic", "relevantRetrieved", "()I"⟩ : MethodName)) (z := (⟨"com/example/focustat/focustat/FocusedTopic", "relevantRetrieved", "()I"⟩ : MethodName)) hown (mvT hZ (hw _ (List.mem_of_getElem? (i := 30) rfl))) (mvT hZ (hw _ (List.mem_of_getElem? (i := 31) rfl))) (notFace_of_selects (args := #[]) (mvT hZ (hw _ (List.mem_of_getElem? (i := 33) rfl)))) (mvT hZ (hw _ (List.mem_of_getElem? (i := 33) rfl))) (mvT hZ (hw _ (List.mem_of_getElem? (i := 32) rfl))) (by decide) (backOf (W := 0) (own_rr1_rm l Z a0 hw [] b128 b_124 k1_124 x0 T137.heap n0 Z137 p137_1 f138) hZ (hw _ (List.mem_of_getElem? (i := 34) rfl)) (hw _ (List.mem_of_getElem? (i := 7) rfl)) (by decide) (by decide)) q146a q146c (g := (mkF m 118 #[.val (.long x0), .second, .val (.long x1), .second, .val (.long x2), .second, .val (.long x3), .second, .val (.int x4), .val (.int x5), .val (.int (1 : Int32)), .val (.ref b_124), .val (.ref b_125), .val (.ref b128), .val (.int ((0 : Int32) + (own_pos_fn x0)))] [(.ref b128)])) rfl (by rw [hml]; rfl) (Steps.refl _) (argsL := []) (rest := []) (lenOf pd___I rfl) rfl (by show 2 * 0 + _ ≤ _; exact Nat.le_of_eq rfl) (hb hby at_118) (fun _ _ => ⟨rfl, e142, (by decide : 3 + 0 ≤ _), (by decide : 6 + 0 ≤ _)⟩)
    dsimp only [Pt.U, Pt.locs, Pt.cells, Pt.slots] at X146 l146 y146 z146 st146 hQ146
    subst l146 y146 z146
    obtain ⟨rfl, N146q, e146⟩ := hQ146
    have N146 := Fr.app N142 N146q
    refine Goes.to (B := (T146.setTop (mkF m 121 #[.val (.long x0), .second, .val (.long x1), .second, .val (.long x2), .second, .val (.long x3), .second, .val (.int x4), .val (.int x5), .val (.int (1 : Int32)), .val (.ref b_124), .val (.ref b_125), .val (.ref b128), .val (.int ((0 : Int32) + (own_pos_fn x0)))] [(.int (own_rr1_fn x0))]))) st146 ?_
    refine Goes.step (B := (T146.setTop (mkF m 123 #[.val (.long x0), .second, .val (.long x1), .second, .val (.long x2), .second, .val (.long x3), .second, .val (.int x4), .val (.int x5), .val (.int (1 : Int32)), .val (.ref b_124), .val (.ref b_125), .val (.ref b128), .val (.int ((0 : Int32) + (own_pos_fn x0)))] [(.int ((0 : Int32) + (own_pos_fn x0))), (.int (own_rr1_fn x0))]))) (fun _ k => XS.iload X146.here hx rfl (hb hby at_121) rfl k) ?_
    have hc147 : (own_rr1_fn x0) = ((0 : Int32) + (own_pos_fn x0)) := own_t1 x0
    refine Goes.step (B := (T146.setTop (mkF m 126 #[.val (.long x0), .second, .val (.long x1), .second, .val (.long x2), .second, .val (.long x3), .second, .val (.int x4), .val (.int x5), .val (.int (1 : Int32)), .val (.ref b_124), .val (.ref b_125), .val (.ref b128), .val (.int ((0 : Int32) + (own_pos_fn x0)))] []))) (fun _ k => XS.icmpNo X146.here hx rfl (hb hby at_123) rfl (teq hc147).2 k) ?_
    refine Goes.step (B := (T146.setTop (mkF m 127 #[.val (.long x0), .second, .val (.long x1), .second, .val (.long x2), .second, .val (.long x3), .second, .val (.int x4), .val (.int x5), .val (.int (1 : Int32)), .val (.ref b_124), .val (.ref b_125), .val (.ref b128), .val (.int ((0 : Int32) + (own_pos_fn x0)))] [(.int (1 : Int32))]))) (fun _ k => XS.iconst X146.here hx rfl (hb hby at_126) k) ?_
    refine Goes.step (B := (T146.setTop (mkF m 131 #[.val (.long x0), .second, .val (.long x1), .second, .val (.long x2), .second, .val (.long x3), .second, .val (.int x4), .val (.int x5), .val (.int (1 : Int32)), .val (.ref b_124), .val (.ref b_125), .val (.ref b128), .val (.int ((0 : Int32) + (own_pos_fn x0)))] [(.int (1 : Int32))]))) (fun _ k => XS.goto X146.here hx rfl (pc0 := 127) (pc' := 131) rfl (hb hby at_127) (by decide) (by decide) k) ?_
    refine Goes.retN X146 hx hlk (t := .boolean) hrt (by simp) (hb hby at_131) ?_ (by decide) (by decide)
    rw [e146]
    exact ⟨rfl, N146⟩
  · rw [hl]
    refine Goes.step (B := (s₁.setTop (mkF m 11 #[.val (.long x0), .second, .val (.long x1), .second, .val (.long x2), .second, .val (.long x3), .second, .val (.int x4), .val (.int x5), .val (.int (2 : Int32)), .unset, .unset, .unset, .unset] [(.int (2 : Int32))]))) (fun _ k => XS.iload X0.here hx rfl (hb hby at_9) rfl k) ?_
    refine Goes.step (B := (s₁.setTop (mkF m 12 #[.val (.long x0), .second, .val (.long x1), .second, .val (.long x2), .second, .val (.long x3), .second, .val (.int x4), .val (.int x5), .val (.int (2 : Int32)), .unset, .unset, .unset, .unset] [(.long x0), (.int (2 : Int32))]))) (fun _ k => XS.lloadN X0.here hx rfl (hb hby at_11) rfl k) ?_
    refine Goes.step (B := (s₁.setTop (mkF m 13 #[.val (.long x0), .second, .val (.long x1), .second, .val (.long x2), .second, .val (.long x3), .second, .val (.int x4), .val (.int x5), .val (.int (2 : Int32)), .unset, .unset, .unset, .unset] [(.long x1), (.long x0), (.int (2 : Int32))]))) (fun _ k => XS.lloadN X0.here hx rfl (hb hby at_12) rfl k) ?_
    refine Goes.step (B := (s₁.setTop (mkF m 15 #[.val (.long x0), .second, .val (.long x1), .second, .val (.long x2), .second, .val (.long x3), .second, .val (.int x4), .val (.int x5), .val (.int (2 : Int32)), .unset, .unset, .unset, .unset] [(.long x2), (.long x1), (.long x0), (.int (2 : Int32))]))) (fun _ k => XS.lload X0.here hx rfl (hb hby at_13) rfl k) ?_
    refine Goes.step (B := (s₁.setTop (mkF m 17 #[.val (.long x0), .second, .val (.long x1), .second, .val (.long x2), .second, .val (.long x3), .second, .val (.int x4), .val (.int x5), .val (.int (2 : Int32)), .unset, .unset, .unset, .unset] [(.long x3), (.long x2), (.long x1), (.long x0), (.int (2 : Int32))]))) (fun _ k => XS.lload X0.here hx rfl (hb hby at_15) rfl k) ?_
    obtain ⟨_, _, ⟨T148, L148, k148, n148⟩, -, X148, ⟨Lc148, hQ148, l148, y148, z148⟩, st148⟩ := Jvm.LawKit.callS X0 hx (y := (⟨"com/example/focustat/focustat/FocusedTopicRelevantRetrievedPinLaw", "build", "(IJJJJ)[J"⟩ : MethodName)) hown (mvT hZ (hw _ (List.mem_of_getElem? (i := 0) rfl))) (mvT hZ (hw _ (List.mem_of_getElem? (i := 1) rfl))) (mvT hZ (hw _ (List.mem_of_getElem? (i := 2) rfl))) (mvT hZ (hw _ (List.mem_of_getElem? (i := 3) rfl))) (by decide) (backOf (W := 0) (own_bl2_rm l Z a0 hw [] x0 x1 x2 x3  h0 n0 Z0 ) hZ (hw _ (List.mem_of_getElem? (i := 3) rfl)) (hw _ (List.mem_of_getElem? (i := 2) rfl)) (by decide) (by decide)) (g := (mkF m 17 #[.val (.long x0), .second, .val (.long x1), .second, .val (.long x2), .second, .val (.long x3), .second, .val (.int x4), .val (.int x5), .val (.int (2 : Int32)), .unset, .unset, .unset, .unset] [(.long x3), (.long x2), (.long x1), (.long x0), (.int (2 : Int32))])) rfl (by rw [hml]; rfl) (argsL := [(.int (2 : Int32)), (.long x0), (.long x1), (.long x2), (.long x3)]) (rest := []) (lenOf pd__IJJJJ_AJ rfl) rfl (by show 2 * 0 + _ ≤ _; exact Nat.le_of_eq rfl) (hb hby at_17) (fun _ _ => ⟨rfl, e0, (by decide : 0 + 1 ≤ _), (by decide : 0 + 2 ≤ _)⟩)
    dsimp only [Pt.U, Pt.locs, Pt.cells, Pt.slots] at X148 l148 y148 z148 st148 hQ148
    subst l148 y148 z148
    obtain ⟨b_148, k1_148, rfl, N148q, K148q, gn148_b, sz148_b, p148_0⟩ := hQ148
    have N148 := Fr.app N0 N148q
    have K148 : Keep h0 T148.heap [] := Keep.trans (Keep.refl h0 []) K148q (fun _ q => nomatch q)
    have Z148 : n0 ≤ T148.heap.size := Nat.le_trans Z0 K148q.1
    have szz148_b : h0.size ≤ b_148 := Nat.le_trans (Keep.refl h0 []).1 sz148_b
    refine Goes.step (B := (T148.setTop (mkF m 20 #[.val (.long x0), .second, .val (.long x1), .second, .val (.long x2), .second, .val (.long x3), .second, .val (.int x4), .val (.int x5), .val (.int (2 : Int32)), .unset, .unset, .unset, .unset] [(.ref b_148)]))) (fun _ k => st148 _ k) ?_
    refine Goes.step (B := (T148.setTop (mkF m 22 #[.val (.long x0), .second, .val (.long x1), .second, .val (.long x2), .second, .val (.long x3), .second, .val (.int x4), .val (.int x5), .val (.int (2 : Int32)), .val (.ref b_148), .unset, .unset, .unset] []))) (fun _ k => XS.astore X148.here hx rfl (hb hby at_20) rfl rfl (l' := #[.val (.long x0), .second, .val (.long x1), .second, .val (.long x2), .second, .val (.long x3), .second, .val (.int x4), .val (.int x5), .val (.int (2 : Int32)), .val (.ref b_148), .unset, .unset, .unset]) rfl k) ?_
    refine Goes.step (B := (T148.setTop (mkF m 24 #[.val (.long x0), .second, .val (.long x1), .second, .val (.long x2), .second, .val (.long x3), .second, .val (.int x4), .val (.int x5), .val (.int (2 : Int32)), .val (.ref b_148), .unset, .unset, .unset] [(.int (2 : Int32))]))) (fun _ k => XS.iload X148.here hx rfl (hb hby at_22) rfl k) ?_
    refine Goes.step (B := (T148.setTop (mkF m 25 #[.val (.long x0), .second, .val (.long x1), .second, .val (.long x2), .second, .val (.long x3), .second, .val (.int x4), .val (.int x5), .val (.int (2 : Int32)), .val (.ref b_148), .unset, .unset, .unset] [(.long x0), (.int (2 : Int32))]))) (fun _ k => XS.lloadN X148.here hx rfl (hb hby at_24) rfl k) ?_
    refine Goes.step (B := (T148.setTop (mkF m 26 #[.val (.long x0), .second, .val (.long x1), .second, .val (.long x2), .second, .val (.long x3), .second, .val (.int x4), .val (.int x5), .val (.int (2 : Int32)), .val (.ref b_148), .unset, .unset, .unset] [(.long x1), (.long x0), (.int (2 : Int32))]))) (fun _ k => XS.lloadN X148.here hx rfl (hb hby at_25) rfl k) ?_
    refine Goes.step (B := (T148.setTop (mkF m 28 #[.val (.long x0), .second, .val (.long x1), .second, .val (.long x2), .second, .val (.long x3), .second, .val (.int x4), .val (.int x5), .val (.int (2 : Int32)), .val (.ref b_148), .unset, .unset, .unset] [(.long x2), (.long x1), (.long x0), (.int (2 : Int32))]))) (fun _ k => XS.lload X148.here hx rfl (hb hby at_26) rfl k) ?_
    refine Goes.step (B := (T148.setTop (mkF m 30 #[.val (.long x0), .second, .val (.long x1), .second, .val (.long x2), .second, .val (.long x3), .second, .val (.int x4), .val (.int x5), .val (.int (2 : Int32)), .val (.ref b_148), .unset, .unset, .unset] [(.long x3), (.long x2), (.long x1), (.long x0), (.int (2 : Int32))]))) (fun _ k => XS.lload X148.here hx rfl (hb hby at_28) rfl k) ?_
    obtain ⟨_, _, ⟨T149, L149, k149, n149⟩, -, X149, ⟨Lc149, hQ149, l149, y149, z149⟩, st149⟩ := Jvm.LawKit.callS X148 hx (y := (⟨"com/example/focustat/focustat/FocusedTopicRelevantRetrievedPinLaw", "build", "(IJJJJ)[J"⟩ : MethodName)) hown (mvT hZ (hw _ (List.mem_of_getElem? (i := 0) rfl))) (mvT hZ (hw _ (List.mem_of_getElem? (i := 1) rfl))) (mvT hZ (hw _ (List.mem_of_getElem? (i := 2) rfl))) (mvT hZ (hw _ (List.mem_of_getElem? (i := 3) rfl))) (by decide) (backOf (W := 0) (own_bl2_rm l Z a0 hw [] x0 x1 x2 x3  T148.heap n0 Z148 ) hZ (hw _ (List.mem_of_getElem? (i := 3) rfl)) (hw _ (List.mem_of_getElem? (i := 2) rfl)) (by decide) (by decide)) (g := (mkF m 30 #[.val (.long x0), .second, .val (.long x1), .second, .val (.long x2), .second, .val (.long x3), .second, .val (.int x4), .val (.int x5), .val (.int (2 : Int32)), .val (.ref b_148), .unset, .unset, .unset] [(.long x3), (.long x2), (.long x1), (.long x0), (.int (2 : Int32))])) rfl (by rw [hml]; rfl) (argsL := [(.int (2 : Int32)), (.long x0), (.long x1), (.long x2), (.long x3)]) (rest := []) (lenOf pd__IJJJJ_AJ rfl) rfl (by show 2 * 0 + _ ≤ _; exact Nat.le_of_eq rfl) (hb hby at_30) (fun _ _ => ⟨rfl, rfl, (by decide : 1 + 1 ≤ _), (by decide : 2 + 2 ≤ _)⟩)
    dsimp only [Pt.U, Pt.locs, Pt.cells, Pt.slots] at X149 l149 y149 z149 st149 hQ149
    subst l149 y149 z149
    obtain ⟨b_149, k1_149, rfl, N149q, K149q, gn149_b, sz149_b, p149_0⟩ := hQ149
    have N149 := Fr.app N148 N149q
    have ne150 : b_148 ≠ b_149 := Nat.ne_of_lt (Nat.lt_of_lt_of_le p148_0.lt sz149_b)
    have f151 := p148_0.keep K149q nm0
    have K149 : Keep h0 T149.heap [] := Keep.trans K148 K149q (fun _ q => nomatch q)
    have Z149 : n0 ≤ T149.heap.size := Nat.le_trans Z148 K149q.1
    have szz149_b : h0.size ≤ b_149 := Nat.le_trans K148.1 sz149_b
    refine Goes.step (B := (T149.setTop (mkF m 33 #[.val (.long x0), .second, .val (.long x1), .second, .val (.long x2), .second, .val (.long x3), .second, .val (.int x4), .val (.int x5), .val (.int (2 : Int32)), .val (.ref b_148), .unset, .unset, .unset] [(.ref b_149)]))) (fun _ k => st149 _ k) ?_
    refine Goes.step (B := (T149.setTop (mkF m 35 #[.val (.long x0), .second, .val (.long x1), .second, .val (.long x2), .second, .val (.long x3), .second, .val (.int x4), .val (.int x5), .val (.int (2 : Int32)), .val (.ref b_148), .val (.ref b_149), .unset, .unset] []))) (fun _ k => XS.astore X149.here hx rfl (hb hby at_33) rfl rfl (l' := #[.val (.long x0), .second, .val (.long x1), .second, .val (.long x2), .second, .val (.long x3), .second, .val (.int x4), .val (.int x5), .val (.int (2 : Int32)), .val (.ref b_148), .val (.ref b_149), .unset, .unset]) rfl k) ?_
    obtain ⟨T152, h152, X152, e152, E152, A152, D152, -, st152⟩ := newO X149 hx hZ hown (hw _ (List.mem_of_getElem? (i := 5) rfl)) (hw _ (List.mem_of_getElem? (i := 6) rfl)) (hw _ (List.mem_of_getElem? (i := 7) rfl)) rfl (g := (mkF m 35 #[.val (.long x0), .second, .val (.long x1), .second, .val (.long x2), .second, .val (.long x3), .second, .val (.int x4), .val (.int x5), .val (.int (2 : Int32)), .val (.ref b_148), .val (.ref b_149), .unset, .unset] [])) rfl (hb hby at_35) (by decide) (by decide)
    obtain ⟨b152, g152⟩ : ∃ z, z = T149.heap.size := ⟨_, rfl⟩
    rw [← g152] at A152 D152 st152
    have gn152 : n0 ≤ b152 := Nat.le_trans Z149 (Nat.le_of_eq g152.symm)
    have sz152 : h0.size ≤ b152 := Nat.le_trans K149.1 (Nat.le_of_eq g152.symm)
    have ne153 : b_148 ≠ b152 := Nat.ne_of_lt (Nat.lt_of_lt_of_le f151.lt (Nat.le_of_eq g152.symm))
    have ne154 : b_149 ≠ b152 := Nat.ne_of_lt (Nat.lt_of_lt_of_le p149_0.lt (Nat.le_of_eq g152.symm))
    have f155 := f151.ext E152
    have f156 := p149_0.ext E152
    have f157 : Fld Z h152 b152 "com/example/focustat/focustat/FocusedTopic" "covered" "[J" .null := D152 (Or.inr (hw _ (List.mem_of_getElem? (i := 20) rfl))) (ty := (.array .long)) (by decide)
    have f158 : Fld Z h152 b152 "com/example/focustat/focustat/FocusedTopic" "lengths" "[J" .null := D152 (Or.inr (hw _ (List.mem_of_getElem? (i := 22) rfl))) (ty := (.array .long)) (by decide)
    have f159 : Fld Z h152 b152 "com/example/focustat/focustat/FocusedTopic" "highlighted" "J" (.long (0 : Int64)) := D152 (Or.inr (hw _ (List.mem_of_getElem? (i := 24) rfl))) (ty := .long) (by decide)
    have f160 : Fld Z h152 b152 "com/example/focustat/focustat/FocusedTopic" "relevantCount" "I" (.int (0 : Int32)) := D152 (Or.inr (hw _ (List.mem_of_getElem? (i := 26) rfl))) (ty := .int) (by decide)
    have Z152 : n0 ≤ h152.size := Nat.le_trans Z149 E152.1
    have K152 : Keep h0 h152 [] := K149.ext E152
    refine Goes.step (B := (T152.setTop (mkF m 38 #[.val (.long x0), .second, .val (.long x1), .second, .val (.long x2), .second, .val (.long x3), .second, .val (.int x4), .val (.int x5), .val (.int (2 : Int32)), .val (.ref b_148), .val (.ref b_149), .unset, .unset] [(.ref b152)]))) (fun _ k => st152 _ k) ?_
    refine Goes.step (B := (T152.setTop (mkF m 39 #[.val (.long x0), .second, .val (.long x1), .second, .val (.long x2), .second, .val (.long x3), .second, .val (.int x4), .val (.int x5), .val (.int (2 : Int32)), .val (.ref b_148), .val (.ref b_149), .unset, .unset] [(.ref b152), (.ref b152)]))) (fun _ k => XS.dup X152.here hx rfl (hb hby at_38) rfl rfl k) ?_
    refine Goes.step (B := (T152.setTop (mkF m 41 #[.val (.long x0), .second, .val (.long x1), .second, .val (.long x2), .second, .val (.long x3), .second, .val (.int x4), .val (.int x5), .val (.int (2 : Int32)), .val (.ref b_148), .val (.ref b_149), .unset, .unset] [(.ref b_148), (.ref b152), (.ref b152)]))) (fun _ k => XS.aload X152.here hx rfl (hb hby at_39) rfl rfl k) ?_
    refine Goes.step (B := (T152.setTop (mkF m 43 #[.val (.long x0), .second, .val (.long x1), .second, .val (.long x2), .second, .val (.long x3), .second, .val (.int x4), .val (.int x5), .val (.int (2 : Int32)), .val (.ref b_148), .val (.ref b_149), .unset, .unset] [(.ref b_149), (.ref b_148), (.ref b152), (.ref b152)]))) (fun _ k => XS.aload X152.here hx rfl (hb hby at_41) rfl rfl k) ?_
    refine Goes.step (B := (T152.setTop (mkF m 44 #[.val (.long x0), .second, .val (.long x1), .second, .val (.long x2), .second, .val (.long x3), .second, .val (.int x4), .val (.int x5), .val (.int (2 : Int32)), .val (.ref b_148), .val (.ref b_149), .unset, .unset] [(.long (1 : Int64)), (.ref b_149), (.ref b_148), (.ref b152), (.ref b152)]))) (fun _ k => XS.lconst X152.here hx rfl (hb hby at_43) k) ?_
    refine Goes.step (B := (T152.setTop (mkF m 46 #[.val (.long x0), .second, .val (.long x1), .second, .val (.long x2), .second, .val (.long x3), .second, .val (.int x4), .val (.int x5), .val (.int (2 : Int32)), .val (.ref b_148), .val (.ref b_149), .unset, .unset] [(.int x5), (.long (1 : Int64)), (.ref b_149), (.ref b_148), (.ref b152), (.ref b152)]))) (fun _ k => XS.iload X152.here hx rfl (hb hby at_44) rfl k) ?_
    obtain ⟨_, _, ⟨T161, L161, k161, n161⟩, -, X161, ⟨Lc161, hQ161, l161, y161, z161⟩, st161⟩ := X152.specialBack hx (y := (⟨"com/example/focustat/focustat/FocusedTopic", "<init>", "([J[JJI)V"⟩ : MethodName)) rfl hown (mvT hZ (hw _ (List.mem_of_getElem? (i := 8) rfl))) (mvT hZ (hw _ (List.mem_of_getElem? (i := 9) rfl))) (mvT hZ (hw _ (List.mem_of_getElem? (i := 10) rfl))) (by decide) (backOf (W := 1) (own_in_rm l Z a0 hw [] b152 b_148 b_149 (1 : Int64) x5  h152 n0 Z152 A152 f157 f158 f159 f160 gn152) hZ (hw _ (List.mem_of_getElem? (i := 10) rfl)) (hw _ (List.mem_of_getElem? (i := 7) rfl)) (by decide) (by decide)) (g := (mkF m 46 #[.val (.long x0), .second, .val (.long x1), .second, .val (.long x2), .second, .val (.long x3), .second, .val (.int x4), .val (.int x5), .val (.int (2 : Int32)), .val (.ref b_148), .val (.ref b_149), .unset, .unset] [(.int x5), (.long (1 : Int64)), (.ref b_149), (.ref b_148), (.ref b152), (.ref b152)])) rfl (by rw [hml]; rfl) (Steps.refl _) (a := b152) (argsL := [(.ref b_148), (.ref b_149), (.long (1 : Int64)), (.int x5)]) (rest := [(.ref b152)]) (lenOf pd__AJAJJI_V rfl) rfl (by show 2 * 0 + _ ≤ _; exact Nat.le_of_eq rfl) (hb hby at_46) (fun _ _ => ⟨rfl, e152, (by decide : 3 + 0 ≤ _), (by decide : 8 + 0 ≤ _)⟩)
    dsimp only [Pt.U, Pt.locs, Pt.cells, Pt.slots] at X161 l161 y161 z161 st161 hQ161
    subst l161 y161 z161
    obtain ⟨rfl, N161q, K161q, p161_0, p161_1⟩ := hQ161
    have N161 := Fr.app N149 N161q
    have f162 := f155.keep K161q (nm1 ne153)
    have f163 := f156.keep K161q (nm1 ne154)
    have f164 := A152.keep K161q
    have K161 : Keep h0 T161.heap [] := Keep.trans K152 K161q (fun y q => by cases List.mem_singleton.mp q; exact (Or.inr sz152))
    have Z161 : n0 ≤ T161.heap.size := Nat.le_trans Z152 K161q.1
    refine Goes.to (B := (T161.setTop (mkF m 49 #[.val (.long x0), .second, .val (.long x1), .second, .val (.long x2), .second, .val (.long x3), .second, .val (.int x4), .val (.int x5), .val (.int (2 : Int32)), .val (.ref b_148), .val (.ref b_149), .unset, .unset] [(.ref b152)]))) st161 ?_
    refine Goes.step (B := (T161.setTop (mkF m 51 #[.val (.long x0), .second, .val (.long x1), .second, .val (.long x2), .second, .val (.long x3), .second, .val (.int x4), .val (.int x5), .val (.int (2 : Int32)), .val (.ref b_148), .val (.ref b_149), .val (.ref b152), .unset] []))) (fun _ k => XS.astore X161.here hx rfl (hb hby at_49) rfl rfl (l' := #[.val (.long x0), .second, .val (.long x1), .second, .val (.long x2), .second, .val (.long x3), .second, .val (.int x4), .val (.int x5), .val (.int (2 : Int32)), .val (.ref b_148), .val (.ref b_149), .val (.ref b152), .unset]) rfl k) ?_
    refine Goes.step (B := (T161.setTop (mkF m 52 #[.val (.long x0), .second, .val (.long x1), .second, .val (.long x2), .second, .val (.long x3), .second, .val (.int x4), .val (.int x5), .val (.int (2 : Int32)), .val (.ref b_148), .val (.ref b_149), .val (.ref b152), .unset] [(.int (0 : Int32))]))) (fun _ k => XS.iconst X161.here hx rfl (hb hby at_51) k) ?_
    refine Goes.step (B := (T161.setTop (mkF m 54 #[.val (.long x0), .second, .val (.long x1), .second, .val (.long x2), .second, .val (.long x3), .second, .val (.int x4), .val (.int x5), .val (.int (2 : Int32)), .val (.ref b_148), .val (.ref b_149), .val (.ref b152), .val (.int (0 : Int32))] []))) (fun _ k => XS.istore X161.here hx rfl (hb hby at_52) rfl (l' := #[.val (.long x0), .second, .val (.long x1), .second, .val (.long x2), .second, .val (.long x3), .second, .val (.int x4), .val (.int x5), .val (.int (2 : Int32)), .val (.ref b_148), .val (.ref b_149), .val (.ref b152), .val (.int (0 : Int32))]) rfl k) ?_
    refine Goes.step (B := (T161.setTop (mkF m 56 #[.val (.long x0), .second, .val (.long x1), .second, .val (.long x2), .second, .val (.long x3), .second, .val (.int x4), .val (.int x5), .val (.int (2 : Int32)), .val (.ref b_148), .val (.ref b_149), .val (.ref b152), .val (.int (0 : Int32))] [(.int (2 : Int32))]))) (fun _ k => XS.iload X161.here hx rfl (hb hby at_54) rfl k) ?_
    refine Goes.step (B := (T161.setTop (mkF m 57 #[.val (.long x0), .second, .val (.long x1), .second, .val (.long x2), .second, .val (.long x3), .second, .val (.int x4), .val (.int x5), .val (.int (2 : Int32)), .val (.ref b_148), .val (.ref b_149), .val (.ref b152), .val (.int (0 : Int32))] [(.int (1 : Int32)), (.int (2 : Int32))]))) (fun _ k => XS.iconst X161.here hx rfl (hb hby at_56) k) ?_
    have hc165 : ¬ ((2 : Int32) < (1 : Int32)) := by decide
    refine Goes.step (B := (T161.setTop (mkF m 60 #[.val (.long x0), .second, .val (.long x1), .second, .val (.long x2), .second, .val (.long x3), .second, .val (.int x4), .val (.int x5), .val (.int (2 : Int32)), .val (.ref b_148), .val (.ref b_149), .val (.ref b152), .val (.int (0 : Int32))] []))) (fun _ k => XS.icmpNo X161.here hx rfl (hb hby at_57) rfl (flt hc165).1 k) ?_
    refine Goes.step (B := (T161.setTop (mkF m 62 #[.val (.long x0), .second, .val (.long x1), .second, .val (.long x2), .second, .val (.long x3), .second, .val (.int x4), .val (.int x5), .val (.int (2 : Int32)), .val (.ref b_148), .val (.ref b_149), .val (.ref b152), .val (.int (0 : Int32))] [(.int (0 : Int32))]))) (fun _ k => XS.iload X161.here hx rfl (hb hby at_60) rfl k) ?_
    refine Goes.step (B := (T161.setTop (mkF m 63 #[.val (.long x0), .second, .val (.long x1), .second, .val (.long x2), .second, .val (.long x3), .second, .val (.int x4), .val (.int x5), .val (.int (2 : Int32)), .val (.ref b_148), .val (.ref b_149), .val (.ref b152), .val (.int (0 : Int32))] [(.long x0), (.int (0 : Int32))]))) (fun _ k => XS.lloadN X161.here hx rfl (hb hby at_62) rfl k) ?_
    obtain ⟨_, _, ⟨T166, L166, k166, n166⟩, -, X166, ⟨Lc166, hQ166, l166, y166, z166⟩, st166⟩ := Jvm.LawKit.callS X161 hx (y := (⟨"com/example/focustat/focustat/FocusedTopicRelevantRetrievedPinLaw", "pos", "(J)I"⟩ : MethodName)) hown (mvT hZ (hw _ (List.mem_of_getElem? (i := 27) rfl))) (mvT hZ (hw _ (List.mem_of_getElem? (i := 28) rfl))) (mvT hZ (hw _ (List.mem_of_getElem? (i := 2) rfl))) (mvT hZ (hw _ (List.mem_of_getElem? (i := 29) rfl))) (by decide) (backOf (W := 1) (own_pos_rm l Z a0 hw [] x0  T161.heap n0 Z161 ) hZ (hw _ (List.mem_of_getElem? (i := 29) rfl)) (hw _ (List.mem_of_getElem? (i := 2) rfl)) (by decide) (by decide)) (g := (mkF m 63 #[.val (.long x0), .second, .val (.long x1), .second, .val (.long x2), .second, .val (.long x3), .second, .val (.int x4), .val (.int x5), .val (.int (2 : Int32)), .val (.ref b_148), .val (.ref b_149), .val (.ref b152), .val (.int (0 : Int32))] [(.long x0), (.int (0 : Int32))])) rfl (by rw [hml]; rfl) (argsL := [(.long x0)]) (rest := [(.int (0 : Int32))]) (lenOf pd__J_I rfl) rfl (by show 2 * 0 + _ ≤ _; exact Nat.le_of_eq rfl) (hb hby at_63) (fun _ _ => ⟨rfl, rfl, (by decide : 3 + 0 ≤ _), (by decide : 8 + 0 ≤ _)⟩)
    dsimp only [Pt.U, Pt.locs, Pt.cells, Pt.slots] at X166 l166 y166 z166 st166 hQ166
    subst l166 y166 z166
    obtain ⟨rfl, N166q, e166⟩ := hQ166
    have N166 := Fr.app N161 N166q
    refine Goes.step (B := (T166.setTop (mkF m 66 #[.val (.long x0), .second, .val (.long x1), .second, .val (.long x2), .second, .val (.long x3), .second, .val (.int x4), .val (.int x5), .val (.int (2 : Int32)), .val (.ref b_148), .val (.ref b_149), .val (.ref b152), .val (.int (0 : Int32))] [(.int (own_pos_fn x0)), (.int (0 : Int32))]))) (fun _ k => st166 _ k) ?_
    refine Goes.step (B := (T166.setTop (mkF m 67 #[.val (.long x0), .second, .val (.long x1), .second, .val (.long x2), .second, .val (.long x3), .second, .val (.int x4), .val (.int x5), .val (.int (2 : Int32)), .val (.ref b_148), .val (.ref b_149), .val (.ref b152), .val (.int (0 : Int32))] [(.int ((0 : Int32) + (own_pos_fn x0)))]))) (fun _ k => XS.iadd X166.here hx rfl (hb hby at_66) rfl k) ?_
    refine Goes.step (B := (T166.setTop (mkF m 69 #[.val (.long x0), .second, .val (.long x1), .second, .val (.long x2), .second, .val (.long x3), .second, .val (.int x4), .val (.int x5), .val (.int (2 : Int32)), .val (.ref b_148), .val (.ref b_149), .val (.ref b152), .val (.int ((0 : Int32) + (own_pos_fn x0)))] []))) (fun _ k => XS.istore X166.here hx rfl (hb hby at_67) rfl (l' := #[.val (.long x0), .second, .val (.long x1), .second, .val (.long x2), .second, .val (.long x3), .second, .val (.int x4), .val (.int x5), .val (.int (2 : Int32)), .val (.ref b_148), .val (.ref b_149), .val (.ref b152), .val (.int ((0 : Int32) + (own_pos_fn x0)))]) rfl k) ?_
    refine Goes.step (B := (T166.setTop (mkF m 71 #[.val (.long x0), .second, .val (.long x1), .second, .val (.long x2), .second, .val (.long x3), .second, .val (.int x4), .val (.int x5), .val (.int (2 : Int32)), .val (.ref b_148), .val (.ref b_149), .val (.ref b152), .val (.int ((0 : Int32) + (own_pos_fn x0)))] [(.int (2 : Int32))]))) (fun _ k => XS.iload X166.here hx rfl (hb hby at_69) rfl k) ?_
    refine Goes.step (B := (T166.setTop (mkF m 72 #[.val (.long x0), .second, .val (.long x1), .second, .val (.long x2), .second, .val (.long x3), .second, .val (.int x4), .val (.int x5), .val (.int (2 : Int32)), .val (.ref b_148), .val (.ref b_149), .val (.ref b152), .val (.int ((0 : Int32) + (own_pos_fn x0)))] [(.int (2 : Int32)), (.int (2 : Int32))]))) (fun _ k => XS.iconst X166.here hx rfl (hb hby at_71) k) ?_
    have hc167 : ¬ ((2 : Int32) < (2 : Int32)) := by decide
    refine Goes.step (B := (T166.setTop (mkF m 75 #[.val (.long x0), .second, .val (.long x1), .second, .val (.long x2), .second, .val (.long x3), .second, .val (.int x4), .val (.int x5), .val (.int (2 : Int32)), .val (.ref b_148), .val (.ref b_149), .val (.ref b152), .val (.int ((0 : Int32) + (own_pos_fn x0)))] []))) (fun _ k => XS.icmpNo X166.here hx rfl (hb hby at_72) rfl (flt hc167).1 k) ?_
    refine Goes.step (B := (T166.setTop (mkF m 77 #[.val (.long x0), .second, .val (.long x1), .second, .val (.long x2), .second, .val (.long x3), .second, .val (.int x4), .val (.int x5), .val (.int (2 : Int32)), .val (.ref b_148), .val (.ref b_149), .val (.ref b152), .val (.int ((0 : Int32) + (own_pos_fn x0)))] [(.int ((0 : Int32) + (own_pos_fn x0)))]))) (fun _ k => XS.iload X166.here hx rfl (hb hby at_75) rfl k) ?_
    refine Goes.step (B := (T166.setTop (mkF m 78 #[.val (.long x0), .second, .val (.long x1), .second, .val (.long x2), .second, .val (.long x3), .second, .val (.int x4), .val (.int x5), .val (.int (2 : Int32)), .val (.ref b_148), .val (.ref b_149), .val (.ref b152), .val (.int ((0 : Int32) + (own_pos_fn x0)))] [(.long x1), (.int ((0 : Int32) + (own_pos_fn x0)))]))) (fun _ k => XS.lloadN X166.here hx rfl (hb hby at_77) rfl k) ?_
    obtain ⟨_, _, ⟨T168, L168, k168, n168⟩, -, X168, ⟨Lc168, hQ168, l168, y168, z168⟩, st168⟩ := Jvm.LawKit.callS X166 hx (y := (⟨"com/example/focustat/focustat/FocusedTopicRelevantRetrievedPinLaw", "pos", "(J)I"⟩ : MethodName)) hown (mvT hZ (hw _ (List.mem_of_getElem? (i := 27) rfl))) (mvT hZ (hw _ (List.mem_of_getElem? (i := 28) rfl))) (mvT hZ (hw _ (List.mem_of_getElem? (i := 2) rfl))) (mvT hZ (hw _ (List.mem_of_getElem? (i := 29) rfl))) (by decide) (backOf (W := 1) (own_pos_rm l Z a0 hw [] x1  T161.heap n0 Z161 ) hZ (hw _ (List.mem_of_getElem? (i := 29) rfl)) (hw _ (List.mem_of_getElem? (i := 2) rfl)) (by decide) (by decide)) (g := (mkF m 78 #[.val (.long x0), .second, .val (.long x1), .second, .val (.long x2), .second, .val (.long x3), .second, .val (.int x4), .val (.int x5), .val (.int (2 : Int32)), .val (.ref b_148), .val (.ref b_149), .val (.ref b152), .val (.int ((0 : Int32) + (own_pos_fn x0)))] [(.long x1), (.int ((0 : Int32) + (own_pos_fn x0)))])) rfl (by rw [hml]; rfl) (argsL := [(.long x1)]) (rest := [(.int ((0 : Int32) + (own_pos_fn x0)))]) (lenOf pd__J_I rfl) rfl (by show 2 * 0 + _ ≤ _; exact Nat.le_of_eq rfl) (hb hby at_78) (fun _ _ => ⟨rfl, e166, (by decide : 3 + 0 ≤ _), (by decide : 8 + 0 ≤ _)⟩)
    dsimp only [Pt.U, Pt.locs, Pt.cells, Pt.slots] at X168 l168 y168 z168 st168 hQ168
    subst l168 y168 z168
    obtain ⟨rfl, N168q, e168⟩ := hQ168
    have N168 := Fr.app N166 N168q
    refine Goes.step (B := (T168.setTop (mkF m 81 #[.val (.long x0), .second, .val (.long x1), .second, .val (.long x2), .second, .val (.long x3), .second, .val (.int x4), .val (.int x5), .val (.int (2 : Int32)), .val (.ref b_148), .val (.ref b_149), .val (.ref b152), .val (.int ((0 : Int32) + (own_pos_fn x0)))] [(.int (own_pos_fn x1)), (.int ((0 : Int32) + (own_pos_fn x0)))]))) (fun _ k => st168 _ k) ?_
    refine Goes.step (B := (T168.setTop (mkF m 82 #[.val (.long x0), .second, .val (.long x1), .second, .val (.long x2), .second, .val (.long x3), .second, .val (.int x4), .val (.int x5), .val (.int (2 : Int32)), .val (.ref b_148), .val (.ref b_149), .val (.ref b152), .val (.int ((0 : Int32) + (own_pos_fn x0)))] [(.int (((0 : Int32) + (own_pos_fn x0)) + (own_pos_fn x1)))]))) (fun _ k => XS.iadd X168.here hx rfl (hb hby at_81) rfl k) ?_
    refine Goes.step (B := (T168.setTop (mkF m 84 #[.val (.long x0), .second, .val (.long x1), .second, .val (.long x2), .second, .val (.long x3), .second, .val (.int x4), .val (.int x5), .val (.int (2 : Int32)), .val (.ref b_148), .val (.ref b_149), .val (.ref b152), .val (.int (((0 : Int32) + (own_pos_fn x0)) + (own_pos_fn x1)))] []))) (fun _ k => XS.istore X168.here hx rfl (hb hby at_82) rfl (l' := #[.val (.long x0), .second, .val (.long x1), .second, .val (.long x2), .second, .val (.long x3), .second, .val (.int x4), .val (.int x5), .val (.int (2 : Int32)), .val (.ref b_148), .val (.ref b_149), .val (.ref b152), .val (.int (((0 : Int32) + (own_pos_fn x0)) + (own_pos_fn x1)))]) rfl k) ?_
    refine Goes.step (B := (T168.setTop (mkF m 86 #[.val (.long x0), .second, .val (.long x1), .second, .val (.long x2), .second, .val (.long x3), .second, .val (.int x4), .val (.int x5), .val (.int (2 : Int32)), .val (.ref b_148), .val (.ref b_149), .val (.ref b152), .val (.int (((0 : Int32) + (own_pos_fn x0)) + (own_pos_fn x1)))] [(.int (2 : Int32))]))) (fun _ k => XS.iload X168.here hx rfl (hb hby at_84) rfl k) ?_
    refine Goes.step (B := (T168.setTop (mkF m 87 #[.val (.long x0), .second, .val (.long x1), .second, .val (.long x2), .second, .val (.long x3), .second, .val (.int x4), .val (.int x5), .val (.int (2 : Int32)), .val (.ref b_148), .val (.ref b_149), .val (.ref b152), .val (.int (((0 : Int32) + (own_pos_fn x0)) + (own_pos_fn x1)))] [(.int (3 : Int32)), (.int (2 : Int32))]))) (fun _ k => XS.iconst X168.here hx rfl (hb hby at_86) k) ?_
    have hc169 : (2 : Int32) < (3 : Int32) := by decide
    refine Goes.step (B := (T168.setTop (mkF m 100 #[.val (.long x0), .second, .val (.long x1), .second, .val (.long x2), .second, .val (.long x3), .second, .val (.int x4), .val (.int x5), .val (.int (2 : Int32)), .val (.ref b_148), .val (.ref b_149), .val (.ref b152), .val (.int (((0 : Int32) + (own_pos_fn x0)) + (own_pos_fn x1)))] []))) (fun _ k => XS.icmpYes X168.here hx rfl (pc0 := 87) (pc' := 100) rfl (hb hby at_87) rfl (tlt hc169).1 (by decide) (by decide) k) ?_
    refine Goes.step (B := (T168.setTop (mkF m 102 #[.val (.long x0), .second, .val (.long x1), .second, .val (.long x2), .second, .val (.long x3), .second, .val (.int x4), .val (.int x5), .val (.int (2 : Int32)), .val (.ref b_148), .val (.ref b_149), .val (.ref b152), .val (.int (((0 : Int32) + (own_pos_fn x0)) + (own_pos_fn x1)))] [(.int (2 : Int32))]))) (fun _ k => XS.iload X168.here hx rfl (hb hby at_100) rfl k) ?_
    refine Goes.step (B := (T168.setTop (mkF m 103 #[.val (.long x0), .second, .val (.long x1), .second, .val (.long x2), .second, .val (.long x3), .second, .val (.int x4), .val (.int x5), .val (.int (2 : Int32)), .val (.ref b_148), .val (.ref b_149), .val (.ref b152), .val (.int (((0 : Int32) + (own_pos_fn x0)) + (own_pos_fn x1)))] [(.int (4 : Int32)), (.int (2 : Int32))]))) (fun _ k => XS.iconst X168.here hx rfl (hb hby at_102) k) ?_
    have hc170 : (2 : Int32) < (4 : Int32) := by decide
    refine Goes.step (B := (T168.setTop (mkF m 116 #[.val (.long x0), .second, .val (.long x1), .second, .val (.long x2), .second, .val (.long x3), .second, .val (.int x4), .val (.int x5), .val (.int (2 : Int32)), .val (.ref b_148), .val (.ref b_149), .val (.ref b152), .val (.int (((0 : Int32) + (own_pos_fn x0)) + (own_pos_fn x1)))] []))) (fun _ k => XS.icmpYes X168.here hx rfl (pc0 := 103) (pc' := 116) rfl (hb hby at_103) rfl (tlt hc170).1 (by decide) (by decide) k) ?_
    refine Goes.step (B := (T168.setTop (mkF m 118 #[.val (.long x0), .second, .val (.long x1), .second, .val (.long x2), .second, .val (.long x3), .second, .val (.int x4), .val (.int x5), .val (.int (2 : Int32)), .val (.ref b_148), .val (.ref b_149), .val (.ref b152), .val (.int (((0 : Int32) + (own_pos_fn x0)) + (own_pos_fn x1)))] [(.ref b152)]))) (fun _ k => XS.aload X168.here hx rfl (hb hby at_116) rfl rfl k) ?_
    obtain ⟨cq171, kq171, q171a, q171b, q171c⟩ := isOf hZ e168 p161_0
    obtain ⟨_, _, ⟨T171, L171, k171, n171⟩, -, X171, ⟨Lc171, hQ171, l171, y171, z171⟩, st171⟩ := X168.virtualBack hx (y := (⟨"com/example/focustat/focustat/FocusedTopic", "relevantRetrieved", "()I"⟩ : MethodName)) (z := (⟨"com/example/focustat/focustat/FocusedTopic", "relevantRetrieved", "()I"⟩ : MethodName)) hown (mvT hZ (hw _ (List.mem_of_getElem? (i := 30) rfl))) (mvT hZ (hw _ (List.mem_of_getElem? (i := 31) rfl))) (notFace_of_selects (args := #[]) (mvT hZ (hw _ (List.mem_of_getElem? (i := 33) rfl)))) (mvT hZ (hw _ (List.mem_of_getElem? (i := 33) rfl))) (mvT hZ (hw _ (List.mem_of_getElem? (i := 32) rfl))) (by decide) (backOf (W := 0) (own_rr2_rm l Z a0 hw [] b152 b_148 k1_148 x0 x1 T161.heap n0 Z161 p161_1 f162) hZ (hw _ (List.mem_of_getElem? (i := 34) rfl)) (hw _ (List.mem_of_getElem? (i := 7) rfl)) (by decide) (by decide)) q171a q171c (g := (mkF m 118 #[.val (.long x0), .second, .val (.long x1), .second, .val (.long x2), .second, .val (.long x3), .second, .val (.int x4), .val (.int x5), .val (.int (2 : Int32)), .val (.ref b_148), .val (.ref b_149), .val (.ref b152), .val (.int (((0 : Int32) + (own_pos_fn x0)) + (own_pos_fn x1)))] [(.ref b152)])) rfl (by rw [hml]; rfl) (Steps.refl _) (argsL := []) (rest := []) (lenOf pd___I rfl) rfl (by show 2 * 0 + _ ≤ _; exact Nat.le_of_eq rfl) (hb hby at_118) (fun _ _ => ⟨rfl, e168, (by decide : 3 + 0 ≤ _), (by decide : 8 + 0 ≤ _)⟩)
    dsimp only [Pt.U, Pt.locs, Pt.cells, Pt.slots] at X171 l171 y171 z171 st171 hQ171
    subst l171 y171 z171
    obtain ⟨rfl, N171q, e171⟩ := hQ171
    have N171 := Fr.app N168 N171q
    refine Goes.to (B := (T171.setTop (mkF m 121 #[.val (.long x0), .second, .val (.long x1), .second, .val (.long x2), .second, .val (.long x3), .second, .val (.int x4), .val (.int x5), .val (.int (2 : Int32)), .val (.ref b_148), .val (.ref b_149), .val (.ref b152), .val (.int (((0 : Int32) + (own_pos_fn x0)) + (own_pos_fn x1)))] [(.int (own_rr2_fn x0 x1))]))) st171 ?_
    refine Goes.step (B := (T171.setTop (mkF m 123 #[.val (.long x0), .second, .val (.long x1), .second, .val (.long x2), .second, .val (.long x3), .second, .val (.int x4), .val (.int x5), .val (.int (2 : Int32)), .val (.ref b_148), .val (.ref b_149), .val (.ref b152), .val (.int (((0 : Int32) + (own_pos_fn x0)) + (own_pos_fn x1)))] [(.int (((0 : Int32) + (own_pos_fn x0)) + (own_pos_fn x1))), (.int (own_rr2_fn x0 x1))]))) (fun _ k => XS.iload X171.here hx rfl (hb hby at_121) rfl k) ?_
    have hc172 : (own_rr2_fn x0 x1) = (((0 : Int32) + (own_pos_fn x0)) + (own_pos_fn x1)) := own_t2 x0 x1
    refine Goes.step (B := (T171.setTop (mkF m 126 #[.val (.long x0), .second, .val (.long x1), .second, .val (.long x2), .second, .val (.long x3), .second, .val (.int x4), .val (.int x5), .val (.int (2 : Int32)), .val (.ref b_148), .val (.ref b_149), .val (.ref b152), .val (.int (((0 : Int32) + (own_pos_fn x0)) + (own_pos_fn x1)))] []))) (fun _ k => XS.icmpNo X171.here hx rfl (hb hby at_123) rfl (teq hc172).2 k) ?_
    refine Goes.step (B := (T171.setTop (mkF m 127 #[.val (.long x0), .second, .val (.long x1), .second, .val (.long x2), .second, .val (.long x3), .second, .val (.int x4), .val (.int x5), .val (.int (2 : Int32)), .val (.ref b_148), .val (.ref b_149), .val (.ref b152), .val (.int (((0 : Int32) + (own_pos_fn x0)) + (own_pos_fn x1)))] [(.int (1 : Int32))]))) (fun _ k => XS.iconst X171.here hx rfl (hb hby at_126) k) ?_
    refine Goes.step (B := (T171.setTop (mkF m 131 #[.val (.long x0), .second, .val (.long x1), .second, .val (.long x2), .second, .val (.long x3), .second, .val (.int x4), .val (.int x5), .val (.int (2 : Int32)), .val (.ref b_148), .val (.ref b_149), .val (.ref b152), .val (.int (((0 : Int32) + (own_pos_fn x0)) + (own_pos_fn x1)))] [(.int (1 : Int32))]))) (fun _ k => XS.goto X171.here hx rfl (pc0 := 127) (pc' := 131) rfl (hb hby at_127) (by decide) (by decide) k) ?_
    refine Goes.retN X171 hx hlk (t := .boolean) hrt (by simp) (hb hby at_131) ?_ (by decide) (by decide)
    rw [e171]
    exact ⟨rfl, N171⟩
  · rw [hl]
    refine Goes.step (B := (s₁.setTop (mkF m 11 #[.val (.long x0), .second, .val (.long x1), .second, .val (.long x2), .second, .val (.long x3), .second, .val (.int x4), .val (.int x5), .val (.int (3 : Int32)), .unset, .unset, .unset, .unset] [(.int (3 : Int32))]))) (fun _ k => XS.iload X0.here hx rfl (hb hby at_9) rfl k) ?_
    refine Goes.step (B := (s₁.setTop (mkF m 12 #[.val (.long x0), .second, .val (.long x1), .second, .val (.long x2), .second, .val (.long x3), .second, .val (.int x4), .val (.int x5), .val (.int (3 : Int32)), .unset, .unset, .unset, .unset] [(.long x0), (.int (3 : Int32))]))) (fun _ k => XS.lloadN X0.here hx rfl (hb hby at_11) rfl k) ?_
    refine Goes.step (B := (s₁.setTop (mkF m 13 #[.val (.long x0), .second, .val (.long x1), .second, .val (.long x2), .second, .val (.long x3), .second, .val (.int x4), .val (.int x5), .val (.int (3 : Int32)), .unset, .unset, .unset, .unset] [(.long x1), (.long x0), (.int (3 : Int32))]))) (fun _ k => XS.lloadN X0.here hx rfl (hb hby at_12) rfl k) ?_
    refine Goes.step (B := (s₁.setTop (mkF m 15 #[.val (.long x0), .second, .val (.long x1), .second, .val (.long x2), .second, .val (.long x3), .second, .val (.int x4), .val (.int x5), .val (.int (3 : Int32)), .unset, .unset, .unset, .unset] [(.long x2), (.long x1), (.long x0), (.int (3 : Int32))]))) (fun _ k => XS.lload X0.here hx rfl (hb hby at_13) rfl k) ?_
    refine Goes.step (B := (s₁.setTop (mkF m 17 #[.val (.long x0), .second, .val (.long x1), .second, .val (.long x2), .second, .val (.long x3), .second, .val (.int x4), .val (.int x5), .val (.int (3 : Int32)), .unset, .unset, .unset, .unset] [(.long x3), (.long x2), (.long x1), (.long x0), (.int (3 : Int32))]))) (fun _ k => XS.lload X0.here hx rfl (hb hby at_15) rfl k) ?_
    obtain ⟨_, _, ⟨T173, L173, k173, n173⟩, -, X173, ⟨Lc173, hQ173, l173, y173, z173⟩, st173⟩ := Jvm.LawKit.callS X0 hx (y := (⟨"com/example/focustat/focustat/FocusedTopicRelevantRetrievedPinLaw", "build", "(IJJJJ)[J"⟩ : MethodName)) hown (mvT hZ (hw _ (List.mem_of_getElem? (i := 0) rfl))) (mvT hZ (hw _ (List.mem_of_getElem? (i := 1) rfl))) (mvT hZ (hw _ (List.mem_of_getElem? (i := 2) rfl))) (mvT hZ (hw _ (List.mem_of_getElem? (i := 3) rfl))) (by decide) (backOf (W := 0) (own_bl3_rm l Z a0 hw [] x0 x1 x2 x3  h0 n0 Z0 ) hZ (hw _ (List.mem_of_getElem? (i := 3) rfl)) (hw _ (List.mem_of_getElem? (i := 2) rfl)) (by decide) (by decide)) (g := (mkF m 17 #[.val (.long x0), .second, .val (.long x1), .second, .val (.long x2), .second, .val (.long x3), .second, .val (.int x4), .val (.int x5), .val (.int (3 : Int32)), .unset, .unset, .unset, .unset] [(.long x3), (.long x2), (.long x1), (.long x0), (.int (3 : Int32))])) rfl (by rw [hml]; rfl) (argsL := [(.int (3 : Int32)), (.long x0), (.long x1), (.long x2), (.long x3)]) (rest := []) (lenOf pd__IJJJJ_AJ rfl) rfl (by show 2 * 0 + _ ≤ _; exact Nat.le_of_eq rfl) (hb hby at_17) (fun _ _ => ⟨rfl, e0, (by decide : 0 + 1 ≤ _), (by decide : 0 + 3 ≤ _)⟩)
    dsimp only [Pt.U, Pt.locs, Pt.cells, Pt.slots] at X173 l173 y173 z173 st173 hQ173
    subst l173 y173 z173
    obtain ⟨b_173, k1_173, rfl, N173q, K173q, gn173_b, sz173_b, p173_0⟩ := hQ173
    have N173 := Fr.app N0 N173q
    have K173 : Keep h0 T173.heap [] := Keep.trans (Keep.refl h0 []) K173q (fun _ q => nomatch q)
    have Z173 : n0 ≤ T173.heap.size := Nat.le_trans Z0 K173q.1
    have szz173_b : h0.size ≤ b_173 := Nat.le_trans (Keep.refl h0 []).1 sz173_b
    refine Goes.step (B := (T173.setTop (mkF m 20 #[.val (.long x0), .second, .val (.long x1), .second, .val (.long x2), .second, .val (.long x3), .second, .val (.int x4), .val (.int x5), .val (.int (3 : Int32)), .unset, .unset, .unset, .unset] [(.ref b_173)]))) (fun _ k => st173 _ k) ?_
    refine Goes.step (B := (T173.setTop (mkF m 22 #[.val (.long x0), .second, .val (.long x1), .second, .val (.long x2), .second, .val (.long x3), .second, .val (.int x4), .val (.int x5), .val (.int (3 : Int32)), .val (.ref b_173), .unset, .unset, .unset] []))) (fun _ k => XS.astore X173.here hx rfl (hb hby at_20) rfl rfl (l' := #[.val (.long x0), .second, .val (.long x1), .second, .val (.long x2), .second, .val (.long x3), .second, .val (.int x4), .val (.int x5), .val (.int (3 : Int32)), .val (.ref b_173), .unset, .unset, .unset]) rfl k) ?_
    refine Goes.step (B := (T173.setTop (mkF m 24 #[.val (.long x0), .second, .val (.long x1), .second, .val (.long x2), .second, .val (.long x3), .second, .val (.int x4), .val (.int x5), .val (.int (3 : Int32)), .val (.ref b_173), .unset, .unset, .unset] [(.int (3 : Int32))]))) (fun _ k => XS.iload X173.here hx rfl (hb hby at_22) rfl k) ?_
    refine Goes.step (B := (T173.setTop (mkF m 25 #[.val (.long x0), .second, .val (.long x1), .second, .val (.long x2), .second, .val (.long x3), .second, .val (.int x4), .val (.int x5), .val (.int (3 : Int32)), .val (.ref b_173), .unset, .unset, .unset] [(.long x0), (.int (3 : Int32))]))) (fun _ k => XS.lloadN X173.here hx rfl (hb hby at_24) rfl k) ?_
    refine Goes.step (B := (T173.setTop (mkF m 26 #[.val (.long x0), .second, .val (.long x1), .second, .val (.long x2), .second, .val (.long x3), .second, .val (.int x4), .val (.int x5), .val (.int (3 : Int32)), .val (.ref b_173), .unset, .unset, .unset] [(.long x1), (.long x0), (.int (3 : Int32))]))) (fun _ k => XS.lloadN X173.here hx rfl (hb hby at_25) rfl k) ?_
    refine Goes.step (B := (T173.setTop (mkF m 28 #[.val (.long x0), .second, .val (.long x1), .second, .val (.long x2), .second, .val (.long x3), .second, .val (.int x4), .val (.int x5), .val (.int (3 : Int32)), .val (.ref b_173), .unset, .unset, .unset] [(.long x2), (.long x1), (.long x0), (.int (3 : Int32))]))) (fun _ k => XS.lload X173.here hx rfl (hb hby at_26) rfl k) ?_
    refine Goes.step (B := (T173.setTop (mkF m 30 #[.val (.long x0), .second, .val (.long x1), .second, .val (.long x2), .second, .val (.long x3), .second, .val (.int x4), .val (.int x5), .val (.int (3 : Int32)), .val (.ref b_173), .unset, .unset, .unset] [(.long x3), (.long x2), (.long x1), (.long x0), (.int (3 : Int32))]))) (fun _ k => XS.lload X173.here hx rfl (hb hby at_28) rfl k) ?_
    obtain ⟨_, _, ⟨T174, L174, k174, n174⟩, -, X174, ⟨Lc174, hQ174, l174, y174, z174⟩, st174⟩ := Jvm.LawKit.callS X173 hx (y := (⟨"com/example/focustat/focustat/FocusedTopicRelevantRetrievedPinLaw", "build", "(IJJJJ)[J"⟩ : MethodName)) hown (mvT hZ (hw _ (List.mem_of_getElem? (i := 0) rfl))) (mvT hZ (hw _ (List.mem_of_getElem? (i := 1) rfl))) (mvT hZ (hw _ (List.mem_of_getElem? (i := 2) rfl))) (mvT hZ (hw _ (List.mem_of_getElem? (i := 3) rfl))) (by decide) (backOf (W := 0) (own_bl3_rm l Z a0 hw [] x0 x1 x2 x3  T173.heap n0 Z173 ) hZ (hw _ (List.mem_of_getElem? (i := 3) rfl)) (hw _ (List.mem_of_getElem? (i := 2) rfl)) (by decide) (by decide)) (g := (mkF m 30 #[.val (.long x0), .second, .val (.long x1), .second, .val (.long x2), .second, .val (.long x3), .second, .val (.int x4), .val (.int x5), .val (.int (3 : Int32)), .val (.ref b_173), .unset, .unset, .unset] [(.long x3), (.long x2), (.long x1), (.long x0), (.int (3 : Int32))])) rfl (by rw [hml]; rfl) (argsL := [(.int (3 : Int32)), (.long x0), (.long x1), (.long x2), (.long x3)]) (rest := []) (lenOf pd__IJJJJ_AJ rfl) rfl (by show 2 * 0 + _ ≤ _; exact Nat.le_of_eq rfl) (hb hby at_30) (fun _ _ => ⟨rfl, rfl, (by decide : 1 + 1 ≤ _), (by decide : 3 + 3 ≤ _)⟩)
    dsimp only [Pt.U, Pt.locs, Pt.cells, Pt.slots] at X174 l174 y174 z174 st174 hQ174
    subst l174 y174 z174
    obtain ⟨b_174, k1_174, rfl, N174q, K174q, gn174_b, sz174_b, p174_0⟩ := hQ174
    have N174 := Fr.app N173 N174q
    have ne175 : b_173 ≠ b_174 := Nat.ne_of_lt (Nat.lt_of_lt_of_le p173_0.lt sz174_b)
    have f176 := p173_0.keep K174q nm0
    have K174 : Keep h0 T174.heap [] := Keep.trans K173 K174q (fun _ q => nomatch q)
    have Z174 : n0 ≤ T174.heap.size := Nat.le_trans Z173 K174q.1
    have szz174_b : h0.size ≤ b_174 := Nat.le_trans K173.1 sz174_b
    refine Goes.step (B := (T174.setTop (mkF m 33 #[.val (.long x0), .second, .val (.long x1), .second, .val (.long x2), .second, .val (.long x3), .second, .val (.int x4), .val (.int x5), .val (.int (3 : Int32)), .val (.ref b_173), .unset, .unset, .unset] [(.ref b_174)]))) (fun _ k => st174 _ k) ?_
    refine Goes.step (B := (T174.setTop (mkF m 35 #[.val (.long x0), .second, .val (.long x1), .second, .val (.long x2), .second, .val (.long x3), .second, .val (.int x4), .val (.int x5), .val (.int (3 : Int32)), .val (.ref b_173), .val (.ref b_174), .unset, .unset] []))) (fun _ k => XS.astore X174.here hx rfl (hb hby at_33) rfl rfl (l' := #[.val (.long x0), .second, .val (.long x1), .second, .val (.long x2), .second, .val (.long x3), .second, .val (.int x4), .val (.int x5), .val (.int (3 : Int32)), .val (.ref b_173), .val (.ref b_174), .unset, .unset]) rfl k) ?_
    obtain ⟨T177, h177, X177, e177, E177, A177, D177, -, st177⟩ := newO X174 hx hZ hown (hw _ (List.mem_of_getElem? (i := 5) rfl)) (hw _ (List.mem_of_getElem? (i := 6) rfl)) (hw _ (List.mem_of_getElem? (i := 7) rfl)) rfl (g := (mkF m 35 #[.val (.long x0), .second, .val (.long x1), .second, .val (.long x2), .second, .val (.long x3), .second, .val (.int x4), .val (.int x5), .val (.int (3 : Int32)), .val (.ref b_173), .val (.ref b_174), .unset, .unset] [])) rfl (hb hby at_35) (by decide) (by decide)
    obtain ⟨b177, g177⟩ : ∃ z, z = T174.heap.size := ⟨_, rfl⟩
    rw [← g177] at A177 D177 st177
    have gn177 : n0 ≤ b177 := Nat.le_trans Z174 (Nat.le_of_eq g177.symm)
    have sz177 : h0.size ≤ b177 := Nat.le_trans K174.1 (Nat.le_of_eq g177.symm)
    have ne178 : b_173 ≠ b177 := Nat.ne_of_lt (Nat.lt_of_lt_of_le f176.lt (Nat.le_of_eq g177.symm))
    have ne179 : b_174 ≠ b177 := Nat.ne_of_lt (Nat.lt_of_lt_of_le p174_0.lt (Nat.le_of_eq g177.symm))
    have f180 := f176.ext E177
    have f181 := p174_0.ext E177
    have f182 : Fld Z h177 b177 "com/example/focustat/focustat/FocusedTopic" "covered" "[J" .null := D177 (Or.inr (hw _ (List.mem_of_getElem? (i := 20) rfl))) (ty := (.array .long)) (by decide)
    have f183 : Fld Z h177 b177 "com/example/focustat/focustat/FocusedTopic" "lengths" "[J" .null := D177 (Or.inr (hw _ (List.mem_of_getElem? (i := 22) rfl))) (ty := (.array .long)) (by decide)
    have f184 : Fld Z h177 b177 "com/example/focustat/focustat/FocusedTopic" "highlighted" "J" (.long (0 : Int64)) := D177 (Or.inr (hw _ (List.mem_of_getElem? (i := 24) rfl))) (ty := .long) (by decide)
    have f185 : Fld Z h177 b177 "com/example/focustat/focustat/FocusedTopic" "relevantCount" "I" (.int (0 : Int32)) := D177 (Or.inr (hw _ (List.mem_of_getElem? (i := 26) rfl))) (ty := .int) (by decide)
    have Z177 : n0 ≤ h177.size := Nat.le_trans Z174 E177.1
    have K177 : Keep h0 h177 [] := K174.ext E177
    refine Goes.step (B := (T177.setTop (mkF m 38 #[.val (.long x0), .second, .val (.long x1), .second, .val (.long x2), .second, .val (.long x3), .second, .val (.int x4), .val (.int x5), .val (.int (3 : Int32)), .val (.ref b_173), .val (.ref b_174), .unset, .unset] [(.ref b177)]))) (fun _ k => st177 _ k) ?_
    refine Goes.step (B := (T177.setTop (mkF m 39 #[.val (.long x0), .second, .val (.long x1), .second, .val (.long x2), .second, .val (.long x3), .second, .val (.int x4), .val (.int x5), .val (.int (3 : Int32)), .val (.ref b_173), .val (.ref b_174), .unset, .unset] [(.ref b177), (.ref b177)]))) (fun _ k => XS.dup X177.here hx rfl (hb hby at_38) rfl rfl k) ?_
    refine Goes.step (B := (T177.setTop (mkF m 41 #[.val (.long x0), .second, .val (.long x1), .second, .val (.long x2), .second, .val (.long x3), .second, .val (.int x4), .val (.int x5), .val (.int (3 : Int32)), .val (.ref b_173), .val (.ref b_174), .unset, .unset] [(.ref b_173), (.ref b177), (.ref b177)]))) (fun _ k => XS.aload X177.here hx rfl (hb hby at_39) rfl rfl k) ?_
    refine Goes.step (B := (T177.setTop (mkF m 43 #[.val (.long x0), .second, .val (.long x1), .second, .val (.long x2), .second, .val (.long x3), .second, .val (.int x4), .val (.int x5), .val (.int (3 : Int32)), .val (.ref b_173), .val (.ref b_174), .unset, .unset] [(.ref b_174), (.ref b_173), (.ref b177), (.ref b177)]))) (fun _ k => XS.aload X177.here hx rfl (hb hby at_41) rfl rfl k) ?_
    refine Goes.step (B := (T177.setTop (mkF m 44 #[.val (.long x0), .second, .val (.long x1), .second, .val (.long x2), .second, .val (.long x3), .second, .val (.int x4), .val (.int x5), .val (.int (3 : Int32)), .val (.ref b_173), .val (.ref b_174), .unset, .unset] [(.long (1 : Int64)), (.ref b_174), (.ref b_173), (.ref b177), (.ref b177)]))) (fun _ k => XS.lconst X177.here hx rfl (hb hby at_43) k) ?_
    refine Goes.step (B := (T177.setTop (mkF m 46 #[.val (.long x0), .second, .val (.long x1), .second, .val (.long x2), .second, .val (.long x3), .second, .val (.int x4), .val (.int x5), .val (.int (3 : Int32)), .val (.ref b_173), .val (.ref b_174), .unset, .unset] [(.int x5), (.long (1 : Int64)), (.ref b_174), (.ref b_173), (.ref b177), (.ref b177)]))) (fun _ k => XS.iload X177.here hx rfl (hb hby at_44) rfl k) ?_
    obtain ⟨_, _, ⟨T186, L186, k186, n186⟩, -, X186, ⟨Lc186, hQ186, l186, y186, z186⟩, st186⟩ := X177.specialBack hx (y := (⟨"com/example/focustat/focustat/FocusedTopic", "<init>", "([J[JJI)V"⟩ : MethodName)) rfl hown (mvT hZ (hw _ (List.mem_of_getElem? (i := 8) rfl))) (mvT hZ (hw _ (List.mem_of_getElem? (i := 9) rfl))) (mvT hZ (hw _ (List.mem_of_getElem? (i := 10) rfl))) (by decide) (backOf (W := 1) (own_in_rm l Z a0 hw [] b177 b_173 b_174 (1 : Int64) x5  h177 n0 Z177 A177 f182 f183 f184 f185 gn177) hZ (hw _ (List.mem_of_getElem? (i := 10) rfl)) (hw _ (List.mem_of_getElem? (i := 7) rfl)) (by decide) (by decide)) (g := (mkF m 46 #[.val (.long x0), .second, .val (.long x1), .second, .val (.long x2), .second, .val (.long x3), .second, .val (.int x4), .val (.int x5), .val (.int (3 : Int32)), .val (.ref b_173), .val (.ref b_174), .unset, .unset] [(.int x5), (.long (1 : Int64)), (.ref b_174), (.ref b_173), (.ref b177), (.ref b177)])) rfl (by rw [hml]; rfl) (Steps.refl _) (a := b177) (argsL := [(.ref b_173), (.ref b_174), (.long (1 : Int64)), (.int x5)]) (rest := [(.ref b177)]) (lenOf pd__AJAJJI_V rfl) rfl (by show 2 * 0 + _ ≤ _; exact Nat.le_of_eq rfl) (hb hby at_46) (fun _ _ => ⟨rfl, e177, (by decide : 3 + 0 ≤ _), (by decide : 10 + 0 ≤ _)⟩)
    dsimp only [Pt.U, Pt.locs, Pt.cells, Pt.slots] at X186 l186 y186 z186 st186 hQ186
    subst l186 y186 z186
    obtain ⟨rfl, N186q, K186q, p186_0, p186_1⟩ := hQ186
    have N186 := Fr.app N174 N186q
    have f187 := f180.keep K186q (nm1 ne178)
    have f188 := f181.keep K186q (nm1 ne179)
    have f189 := A177.keep K186q
    have K186 : Keep h0 T186.heap [] := Keep.trans K177 K186q (fun y q => by cases List.mem_singleton.mp q; exact (Or.inr sz177))
    have Z186 : n0 ≤ T186.heap.size := Nat.le_trans Z177 K186q.1
    refine Goes.to (B := (T186.setTop (mkF m 49 #[.val (.long x0), .second, .val (.long x1), .second, .val (.long x2), .second, .val (.long x3), .second, .val (.int x4), .val (.int x5), .val (.int (3 : Int32)), .val (.ref b_173), .val (.ref b_174), .unset, .unset] [(.ref b177)]))) st186 ?_
    refine Goes.step (B := (T186.setTop (mkF m 51 #[.val (.long x0), .second, .val (.long x1), .second, .val (.long x2), .second, .val (.long x3), .second, .val (.int x4), .val (.int x5), .val (.int (3 : Int32)), .val (.ref b_173), .val (.ref b_174), .val (.ref b177), .unset] []))) (fun _ k => XS.astore X186.here hx rfl (hb hby at_49) rfl rfl (l' := #[.val (.long x0), .second, .val (.long x1), .second, .val (.long x2), .second, .val (.long x3), .second, .val (.int x4), .val (.int x5), .val (.int (3 : Int32)), .val (.ref b_173), .val (.ref b_174), .val (.ref b177), .unset]) rfl k) ?_
    refine Goes.step (B := (T186.setTop (mkF m 52 #[.val (.long x0), .second, .val (.long x1), .second, .val (.long x2), .second, .val (.long x3), .second, .val (.int x4), .val (.int x5), .val (.int (3 : Int32)), .val (.ref b_173), .val (.ref b_174), .val (.ref b177), .unset] [(.int (0 : Int32))]))) (fun _ k => XS.iconst X186.here hx rfl (hb hby at_51) k) ?_
    refine Goes.step (B := (T186.setTop (mkF m 54 #[.val (.long x0), .second, .val (.long x1), .second, .val (.long x2), .second, .val (.long x3), .second, .val (.int x4), .val (.int x5), .val (.int (3 : Int32)), .val (.ref b_173), .val (.ref b_174), .val (.ref b177), .val (.int (0 : Int32))] []))) (fun _ k => XS.istore X186.here hx rfl (hb hby at_52) rfl (l' := #[.val (.long x0), .second, .val (.long x1), .second, .val (.long x2), .second, .val (.long x3), .second, .val (.int x4), .val (.int x5), .val (.int (3 : Int32)), .val (.ref b_173), .val (.ref b_174), .val (.ref b177), .val (.int (0 : Int32))]) rfl k) ?_
    refine Goes.step (B := (T186.setTop (mkF m 56 #[.val (.long x0), .second, .val (.long x1), .second, .val (.long x2), .second, .val (.long x3), .second, .val (.int x4), .val (.int x5), .val (.int (3 : Int32)), .val (.ref b_173), .val (.ref b_174), .val (.ref b177), .val (.int (0 : Int32))] [(.int (3 : Int32))]))) (fun _ k => XS.iload X186.here hx rfl (hb hby at_54) rfl k) ?_
    refine Goes.step (B := (T186.setTop (mkF m 57 #[.val (.long x0), .second, .val (.long x1), .second, .val (.long x2), .second, .val (.long x3), .second, .val (.int x4), .val (.int x5), .val (.int (3 : Int32)), .val (.ref b_173), .val (.ref b_174), .val (.ref b177), .val (.int (0 : Int32))] [(.int (1 : Int32)), (.int (3 : Int32))]))) (fun _ k => XS.iconst X186.here hx rfl (hb hby at_56) k) ?_
    have hc190 : ¬ ((3 : Int32) < (1 : Int32)) := by decide
    refine Goes.step (B := (T186.setTop (mkF m 60 #[.val (.long x0), .second, .val (.long x1), .second, .val (.long x2), .second, .val (.long x3), .second, .val (.int x4), .val (.int x5), .val (.int (3 : Int32)), .val (.ref b_173), .val (.ref b_174), .val (.ref b177), .val (.int (0 : Int32))] []))) (fun _ k => XS.icmpNo X186.here hx rfl (hb hby at_57) rfl (flt hc190).1 k) ?_
    refine Goes.step (B := (T186.setTop (mkF m 62 #[.val (.long x0), .second, .val (.long x1), .second, .val (.long x2), .second, .val (.long x3), .second, .val (.int x4), .val (.int x5), .val (.int (3 : Int32)), .val (.ref b_173), .val (.ref b_174), .val (.ref b177), .val (.int (0 : Int32))] [(.int (0 : Int32))]))) (fun _ k => XS.iload X186.here hx rfl (hb hby at_60) rfl k) ?_
    refine Goes.step (B := (T186.setTop (mkF m 63 #[.val (.long x0), .second, .val (.long x1), .second, .val (.long x2), .second, .val (.long x3), .second, .val (.int x4), .val (.int x5), .val (.int (3 : Int32)), .val (.ref b_173), .val (.ref b_174), .val (.ref b177), .val (.int (0 : Int32))] [(.long x0), (.int (0 : Int32))]))) (fun _ k => XS.lloadN X186.here hx rfl (hb hby at_62) rfl k) ?_
    obtain ⟨_, _, ⟨T191, L191, k191, n191⟩, -, X191, ⟨Lc191, hQ191, l191, y191, z191⟩, st191⟩ := Jvm.LawKit.callS X186 hx (y := (⟨"com/example/focustat/focustat/FocusedTopicRelevantRetrievedPinLaw", "pos", "(J)I"⟩ : MethodName)) hown (mvT hZ (hw _ (List.mem_of_getElem? (i := 27) rfl))) (mvT hZ (hw _ (List.mem_of_getElem? (i := 28) rfl))) (mvT hZ (hw _ (List.mem_of_getElem? (i := 2) rfl))) (mvT hZ (hw _ (List.mem_of_getElem? (i := 29) rfl))) (by decide) (backOf (W := 1) (own_pos_rm l Z a0 hw [] x0  T186.heap n0 Z186 ) hZ (hw _ (List.mem_of_getElem? (i := 29) rfl)) (hw _ (List.mem_of_getElem? (i := 2) rfl)) (by decide) (by decide)) (g := (mkF m 63 #[.val (.long x0), .second, .val (.long x1), .second, .val (.long x2), .second, .val (.long x3), .second, .val (.int x4), .val (.int x5), .val (.int (3 : Int32)), .val (.ref b_173), .val (.ref b_174), .val (.ref b177), .val (.int (0 : Int32))] [(.long x0), (.int (0 : Int32))])) rfl (by rw [hml]; rfl) (argsL := [(.long x0)]) (rest := [(.int (0 : Int32))]) (lenOf pd__J_I rfl) rfl (by show 2 * 0 + _ ≤ _; exact Nat.le_of_eq rfl) (hb hby at_63) (fun _ _ => ⟨rfl, rfl, (by decide : 3 + 0 ≤ _), (by decide : 10 + 0 ≤ _)⟩)
    dsimp only [Pt.U, Pt.locs, Pt.cells, Pt.slots] at X191 l191 y191 z191 st191 hQ191
    subst l191 y191 z191
    obtain ⟨rfl, N191q, e191⟩ := hQ191
    have N191 := Fr.app N186 N191q
    refine Goes.step (B := (T191.setTop (mkF m 66 #[.val (.long x0), .second, .val (.long x1), .second, .val (.long x2), .second, .val (.long x3), .second, .val (.int x4), .val (.int x5), .val (.int (3 : Int32)), .val (.ref b_173), .val (.ref b_174), .val (.ref b177), .val (.int (0 : Int32))] [(.int (own_pos_fn x0)), (.int (0 : Int32))]))) (fun _ k => st191 _ k) ?_
    refine Goes.step (B := (T191.setTop (mkF m 67 #[.val (.long x0), .second, .val (.long x1), .second, .val (.long x2), .second, .val (.long x3), .second, .val (.int x4), .val (.int x5), .val (.int (3 : Int32)), .val (.ref b_173), .val (.ref b_174), .val (.ref b177), .val (.int (0 : Int32))] [(.int ((0 : Int32) + (own_pos_fn x0)))]))) (fun _ k => XS.iadd X191.here hx rfl (hb hby at_66) rfl k) ?_
    refine Goes.step (B := (T191.setTop (mkF m 69 #[.val (.long x0), .second, .val (.long x1), .second, .val (.long x2), .second, .val (.long x3), .second, .val (.int x4), .val (.int x5), .val (.int (3 : Int32)), .val (.ref b_173), .val (.ref b_174), .val (.ref b177), .val (.int ((0 : Int32) + (own_pos_fn x0)))] []))) (fun _ k => XS.istore X191.here hx rfl (hb hby at_67) rfl (l' := #[.val (.long x0), .second, .val (.long x1), .second, .val (.long x2), .second, .val (.long x3), .second, .val (.int x4), .val (.int x5), .val (.int (3 : Int32)), .val (.ref b_173), .val (.ref b_174), .val (.ref b177), .val (.int ((0 : Int32) + (own_pos_fn x0)))]) rfl k) ?_
    refine Goes.step (B := (T191.setTop (mkF m 71 #[.val (.long x0), .second, .val (.long x1), .second, .val (.long x2), .second, .val (.long x3), .second, .val (.int x4), .val (.int x5), .val (.int (3 : Int32)), .val (.ref b_173), .val (.ref b_174), .val (.ref b177), .val (.int ((0 : Int32) + (own_pos_fn x0)))] [(.int (3 : Int32))]))) (fun _ k => XS.iload X191.here hx rfl (hb hby at_69) rfl k) ?_
    refine Goes.step (B := (T191.setTop (mkF m 72 #[.val (.long x0), .second, .val (.long x1), .second, .val (.long x2), .second, .val (.long x3), .second, .val (.int x4), .val (.int x5), .val (.int (3 : Int32)), .val (.ref b_173), .val (.ref b_174), .val (.ref b177), .val (.int ((0 : Int32) + (own_pos_fn x0)))] [(.int (2 : Int32)), (.int (3 : Int32))]))) (fun _ k => XS.iconst X191.here hx rfl (hb hby at_71) k) ?_
    have hc192 : ¬ ((3 : Int32) < (2 : Int32)) := by decide
    refine Goes.step (B := (T191.setTop (mkF m 75 #[.val (.long x0), .second, .val (.long x1), .second, .val (.long x2), .second, .val (.long x3), .second, .val (.int x4), .val (.int x5), .val (.int (3 : Int32)), .val (.ref b_173), .val (.ref b_174), .val (.ref b177), .val (.int ((0 : Int32) + (own_pos_fn x0)))] []))) (fun _ k => XS.icmpNo X191.here hx rfl (hb hby at_72) rfl (flt hc192).1 k) ?_
    refine Goes.step (B := (T191.setTop (mkF m 77 #[.val (.long x0), .second, .val (.long x1), .second, .val (.long x2), .second, .val (.long x3), .second, .val (.int x4), .val (.int x5), .val (.int (3 : Int32)), .val (.ref b_173), .val (.ref b_174), .val (.ref b177), .val (.int ((0 : Int32) + (own_pos_fn x0)))] [(.int ((0 : Int32) + (own_pos_fn x0)))]))) (fun _ k => XS.iload X191.here hx rfl (hb hby at_75) rfl k) ?_
    refine Goes.step (B := (T191.setTop (mkF m 78 #[.val (.long x0), .second, .val (.long x1), .second, .val (.long x2), .second, .val (.long x3), .second, .val (.int x4), .val (.int x5), .val (.int (3 : Int32)), .val (.ref b_173), .val (.ref b_174), .val (.ref b177), .val (.int ((0 : Int32) + (own_pos_fn x0)))] [(.long x1), (.int ((0 : Int32) + (own_pos_fn x0)))]))) (fun _ k => XS.lloadN X191.here hx rfl (hb hby at_77) rfl k) ?_
    obtain ⟨_, _, ⟨T193, L193, k193, n193⟩, -, X193, ⟨Lc193, hQ193, l193, y193, z193⟩, st193⟩ := Jvm.LawKit.callS X191 hx (y := (⟨"com/example/focustat/focustat/FocusedTopicRelevantRetrievedPinLaw", "pos", "(J)I"⟩ : MethodName)) hown (mvT hZ (hw _ (List.mem_of_getElem? (i := 27) rfl))) (mvT hZ (hw _ (List.mem_of_getElem? (i := 28) rfl))) (mvT hZ (hw _ (List.mem_of_getElem? (i := 2) rfl))) (mvT hZ (hw _ (List.mem_of_getElem? (i := 29) rfl))) (by decide) (backOf (W := 1) (own_pos_rm l Z a0 hw [] x1  T186.heap n0 Z186 ) hZ (hw _ (List.mem_of_getElem? (i := 29) rfl)) (hw _ (List.mem_of_getElem? (i := 2) rfl)) (by decide) (by decide)) (g := (mkF m 78 #[.val (.long x0), .second, .val (.long x1), .second, .val (.long x2), .second, .val (.long x3), .second, .val (.int x4), .val (.int x5), .val (.int (3 : Int32)), .val (.ref b_173), .val (.ref b_174), .val (.ref b177), .val (.int ((0 : Int32) + (own_pos_fn x0)))] [(.long x1), (.int ((0 : Int32) + (own_pos_fn x0)))])) rfl (by rw [hml]; rfl) (argsL := [(.long x1)]) (rest := [(.int ((0 : Int32) + (own_pos_fn x0)))]) (lenOf pd__J_I rfl) rfl (by show 2 * 0 + _ ≤ _; exact Nat.le_of_eq rfl) (hb hby at_78) (fun _ _ => ⟨rfl, e191, (by decide : 3 + 0 ≤ _), (by decide : 10 + 0 ≤ _)⟩)
    dsimp only [Pt.U, Pt.locs, Pt.cells, Pt.slots] at X193 l193 y193 z193 st193 hQ193
    subst l193 y193 z193
    obtain ⟨rfl, N193q, e193⟩ := hQ193
    have N193 := Fr.app N191 N193q
    refine Goes.step (B := (T193.setTop (mkF m 81 #[.val (.long x0), .second, .val (.long x1), .second, .val (.long x2), .second, .val (.long x3), .second, .val (.int x4), .val (.int x5), .val (.int (3 : Int32)), .val (.ref b_173), .val (.ref b_174), .val (.ref b177), .val (.int ((0 : Int32) + (own_pos_fn x0)))] [(.int (own_pos_fn x1)), (.int ((0 : Int32) + (own_pos_fn x0)))]))) (fun _ k => st193 _ k) ?_
    refine Goes.step (B := (T193.setTop (mkF m 82 #[.val (.long x0), .second, .val (.long x1), .second, .val (.long x2), .second, .val (.long x3), .second, .val (.int x4), .val (.int x5), .val (.int (3 : Int32)), .val (.ref b_173), .val (.ref b_174), .val (.ref b177), .val (.int ((0 : Int32) + (own_pos_fn x0)))] [(.int (((0 : Int32) + (own_pos_fn x0)) + (own_pos_fn x1)))]))) (fun _ k => XS.iadd X193.here hx rfl (hb hby at_81) rfl k) ?_
    refine Goes.step (B := (T193.setTop (mkF m 84 #[.val (.long x0), .second, .val (.long x1), .second, .val (.long x2), .second, .val (.long x3), .second, .val (.int x4), .val (.int x5), .val (.int (3 : Int32)), .val (.ref b_173), .val (.ref b_174), .val (.ref b177), .val (.int (((0 : Int32) + (own_pos_fn x0)) + (own_pos_fn x1)))] []))) (fun _ k => XS.istore X193.here hx rfl (hb hby at_82) rfl (l' := #[.val (.long x0), .second, .val (.long x1), .second, .val (.long x2), .second, .val (.long x3), .second, .val (.int x4), .val (.int x5), .val (.int (3 : Int32)), .val (.ref b_173), .val (.ref b_174), .val (.ref b177), .val (.int (((0 : Int32) + (own_pos_fn x0)) + (own_pos_fn x1)))]) rfl k) ?_
    refine Goes.step (B := (T193.setTop (mkF m 86 #[.val (.long x0), .second, .val (.long x1), .second, .val (.long x2), .second, .val (.long x3), .second, .val (.int x4), .val (.int x5), .val (.int (3 : Int32)), .val (.ref b_173), .val (.ref b_174), .val (.ref b177), .val (.int (((0 : Int32) + (own_pos_fn x0)) + (own_pos_fn x1)))] [(.int (3 : Int32))]))) (fun _ k => XS.iload X193.here hx rfl (hb hby at_84) rfl k) ?_
    refine Goes.step (B := (T193.setTop (mkF m 87 #[.val (.long x0), .second, .val (.long x1), .second, .val (.long x2), .second, .val (.long x3), .second, .val (.int x4), .val (.int x5), .val (.int (3 : Int32)), .val (.ref b_173), .val (.ref b_174), .val (.ref b177), .val (.int (((0 : Int32) + (own_pos_fn x0)) + (own_pos_fn x1)))] [(.int (3 : Int32)), (.int (3 : Int32))]))) (fun _ k => XS.iconst X193.here hx rfl (hb hby at_86) k) ?_
    have hc194 : ¬ ((3 : Int32) < (3 : Int32)) := by decide
    refine Goes.step (B := (T193.setTop (mkF m 90 #[.val (.long x0), .second, .val (.long x1), .second, .val (.long x2), .second, .val (.long x3), .second, .val (.int x4), .val (.int x5), .val (.int (3 : Int32)), .val (.ref b_173), .val (.ref b_174), .val (.ref b177), .val (.int (((0 : Int32) + (own_pos_fn x0)) + (own_pos_fn x1)))] []))) (fun _ k => XS.icmpNo X193.here hx rfl (hb hby at_87) rfl (flt hc194).1 k) ?_
    refine Goes.step (B := (T193.setTop (mkF m 92 #[.val (.long x0), .second, .val (.long x1), .second, .val (.long x2), .second, .val (.long x3), .second, .val (.int x4), .val (.int x5), .val (.int (3 : Int32)), .val (.ref b_173), .val (.ref b_174), .val (.ref b177), .val (.int (((0 : Int32) + (own_pos_fn x0)) + (own_pos_fn x1)))] [(.int (((0 : Int32) + (own_pos_fn x0)) + (own_pos_fn x1)))]))) (fun _ k => XS.iload X193.here hx rfl (hb hby at_90) rfl k) ?_
    refine Goes.step (B := (T193.setTop (mkF m 94 #[.val (.long x0), .second, .val (.long x1), .second, .val (.long x2), .second, .val (.long x3), .second, .val (.int x4), .val (.int x5), .val (.int (3 : Int32)), .val (.ref b_173), .val (.ref b_174), .val (.ref b177), .val (.int (((0 : Int32) + (own_pos_fn x0)) + (own_pos_fn x1)))] [(.long x2), (.int (((0 : Int32) + (own_pos_fn x0)) + (own_pos_fn x1)))]))) (fun _ k => XS.lload X193.here hx rfl (hb hby at_92) rfl k) ?_
    obtain ⟨_, _, ⟨T195, L195, k195, n195⟩, -, X195, ⟨Lc195, hQ195, l195, y195, z195⟩, st195⟩ := Jvm.LawKit.callS X193 hx (y := (⟨"com/example/focustat/focustat/FocusedTopicRelevantRetrievedPinLaw", "pos", "(J)I"⟩ : MethodName)) hown (mvT hZ (hw _ (List.mem_of_getElem? (i := 27) rfl))) (mvT hZ (hw _ (List.mem_of_getElem? (i := 28) rfl))) (mvT hZ (hw _ (List.mem_of_getElem? (i := 2) rfl))) (mvT hZ (hw _ (List.mem_of_getElem? (i := 29) rfl))) (by decide) (backOf (W := 1) (own_pos_rm l Z a0 hw [] x2  T186.heap n0 Z186 ) hZ (hw _ (List.mem_of_getElem? (i := 29) rfl)) (hw _ (List.mem_of_getElem? (i := 2) rfl)) (by decide) (by decide)) (g := (mkF m 94 #[.val (.long x0), .second, .val (.long x1), .second, .val (.long x2), .second, .val (.long x3), .second, .val (.int x4), .val (.int x5), .val (.int (3 : Int32)), .val (.ref b_173), .val (.ref b_174), .val (.ref b177), .val (.int (((0 : Int32) + (own_pos_fn x0)) + (own_pos_fn x1)))] [(.long x2), (.int (((0 : Int32) + (own_pos_fn x0)) + (own_pos_fn x1)))])) rfl (by rw [hml]; rfl) (argsL := [(.long x2)]) (rest := [(.int (((0 : Int32) + (own_pos_fn x0)) + (own_pos_fn x1)))]) (lenOf pd__J_I rfl) rfl (by show 2 * 0 + _ ≤ _; exact Nat.le_of_eq rfl) (hb hby at_94) (fun _ _ => ⟨rfl, e193, (by decide : 3 + 0 ≤ _), (by decide : 10 + 0 ≤ _)⟩)
    dsimp only [Pt.U, Pt.locs, Pt.cells, Pt.slots] at X195 l195 y195 z195 st195 hQ195
    subst l195 y195 z195
    obtain ⟨rfl, N195q, e195⟩ := hQ195
    have N195 := Fr.app N193 N195q
    refine Goes.step (B := (T195.setTop (mkF m 97 #[.val (.long x0), .second, .val (.long x1), .second, .val (.long x2), .second, .val (.long x3), .second, .val (.int x4), .val (.int x5), .val (.int (3 : Int32)), .val (.ref b_173), .val (.ref b_174), .val (.ref b177), .val (.int (((0 : Int32) + (own_pos_fn x0)) + (own_pos_fn x1)))] [(.int (own_pos_fn x2)), (.int (((0 : Int32) + (own_pos_fn x0)) + (own_pos_fn x1)))]))) (fun _ k => st195 _ k) ?_
    refine Goes.step (B := (T195.setTop (mkF m 98 #[.val (.long x0), .second, .val (.long x1), .second, .val (.long x2), .second, .val (.long x3), .second, .val (.int x4), .val (.int x5), .val (.int (3 : Int32)), .val (.ref b_173), .val (.ref b_174), .val (.ref b177), .val (.int (((0 : Int32) + (own_pos_fn x0)) + (own_pos_fn x1)))] [(.int ((((0 : Int32) + (own_pos_fn x0)) + (own_pos_fn x1)) + (own_pos_fn x2)))]))) (fun _ k => XS.iadd X195.here hx rfl (hb hby at_97) rfl k) ?_
    refine Goes.step (B := (T195.setTop (mkF m 100 #[.val (.long x0), .second, .val (.long x1), .second, .val (.long x2), .second, .val (.long x3), .second, .val (.int x4), .val (.int x5), .val (.int (3 : Int32)), .val (.ref b_173), .val (.ref b_174), .val (.ref b177), .val (.int ((((0 : Int32) + (own_pos_fn x0)) + (own_pos_fn x1)) + (own_pos_fn x2)))] []))) (fun _ k => XS.istore X195.here hx rfl (hb hby at_98) rfl (l' := #[.val (.long x0), .second, .val (.long x1), .second, .val (.long x2), .second, .val (.long x3), .second, .val (.int x4), .val (.int x5), .val (.int (3 : Int32)), .val (.ref b_173), .val (.ref b_174), .val (.ref b177), .val (.int ((((0 : Int32) + (own_pos_fn x0)) + (own_pos_fn x1)) + (own_pos_fn x2)))]) rfl k) ?_
    refine Goes.step (B := (T195.setTop (mkF m 102 #[.val (.long x0), .second, .val (.long x1), .second, .val (.long x2), .second, .val (.long x3), .second, .val (.int x4), .val (.int x5), .val (.int (3 : Int32)), .val (.ref b_173), .val (.ref b_174), .val (.ref b177), .val (.int ((((0 : Int32) + (own_pos_fn x0)) + (own_pos_fn x1)) + (own_pos_fn x2)))] [(.int (3 : Int32))]))) (fun _ k => XS.iload X195.here hx rfl (hb hby at_100) rfl k) ?_
    refine Goes.step (B := (T195.setTop (mkF m 103 #[.val (.long x0), .second, .val (.long x1), .second, .val (.long x2), .second, .val (.long x3), .second, .val (.int x4), .val (.int x5), .val (.int (3 : Int32)), .val (.ref b_173), .val (.ref b_174), .val (.ref b177), .val (.int ((((0 : Int32) + (own_pos_fn x0)) + (own_pos_fn x1)) + (own_pos_fn x2)))] [(.int (4 : Int32)), (.int (3 : Int32))]))) (fun _ k => XS.iconst X195.here hx rfl (hb hby at_102) k) ?_
    have hc196 : (3 : Int32) < (4 : Int32) := by decide
    refine Goes.step (B := (T195.setTop (mkF m 116 #[.val (.long x0), .second, .val (.long x1), .second, .val (.long x2), .second, .val (.long x3), .second, .val (.int x4), .val (.int x5), .val (.int (3 : Int32)), .val (.ref b_173), .val (.ref b_174), .val (.ref b177), .val (.int ((((0 : Int32) + (own_pos_fn x0)) + (own_pos_fn x1)) + (own_pos_fn x2)))] []))) (fun _ k => XS.icmpYes X195.here hx rfl (pc0 := 103) (pc' := 116) rfl (hb hby at_103) rfl (tlt hc196).1 (by decide) (by decide) k) ?_
    refine Goes.step (B := (T195.setTop (mkF m 118 #[.val (.long x0), .second, .val (.long x1), .second, .val (.long x2), .second, .val (.long x3), .second, .val (.int x4), .val (.int x5), .val (.int (3 : Int32)), .val (.ref b_173), .val (.ref b_174), .val (.ref b177), .val (.int ((((0 : Int32) + (own_pos_fn x0)) + (own_pos_fn x1)) + (own_pos_fn x2)))] [(.ref b177)]))) (fun _ k => XS.aload X195.here hx rfl (hb hby at_116) rfl rfl k) ?_
    obtain ⟨cq197, kq197, q197a, q197b, q197c⟩ := isOf hZ e195 p186_0
    obtain ⟨_, _, ⟨T197, L197, k197, n197⟩, -, X197, ⟨Lc197, hQ197, l197, y197, z197⟩, st197⟩ := X195.virtualBack hx (y := (⟨"com/example/focustat/focustat/FocusedTopic", "relevantRetrieved", "()I"⟩ : MethodName)) (z := (⟨"com/example/focustat/focustat/FocusedTopic", "relevantRetrieved", "()I"⟩ : MethodName)) hown (mvT hZ (hw _ (List.mem_of_getElem? (i := 30) rfl))) (mvT hZ (hw _ (List.mem_of_getElem? (i := 31) rfl))) (notFace_of_selects (args := #[]) (mvT hZ (hw _ (List.mem_of_getElem? (i := 33) rfl)))) (mvT hZ (hw _ (List.mem_of_getElem? (i := 33) rfl))) (mvT hZ (hw _ (List.mem_of_getElem? (i := 32) rfl))) (by decide) (backOf (W := 0) (own_rr3_rm l Z a0 hw [] b177 b_173 k1_173 x0 x1 x2 T186.heap n0 Z186 p186_1 f187) hZ (hw _ (List.mem_of_getElem? (i := 34) rfl)) (hw _ (List.mem_of_getElem? (i := 7) rfl)) (by decide) (by decide)) q197a q197c (g := (mkF m 118 #[.val (.long x0), .second, .val (.long x1), .second, .val (.long x2), .second, .val (.long x3), .second, .val (.int x4), .val (.int x5), .val (.int (3 : Int32)), .val (.ref b_173), .val (.ref b_174), .val (.ref b177), .val (.int ((((0 : Int32) + (own_pos_fn x0)) + (own_pos_fn x1)) + (own_pos_fn x2)))] [(.ref b177)])) rfl (by rw [hml]; rfl) (Steps.refl _) (argsL := []) (rest := []) (lenOf pd___I rfl) rfl (by show 2 * 0 + _ ≤ _; exact Nat.le_of_eq rfl) (hb hby at_118) (fun _ _ => ⟨rfl, e195, (by decide : 3 + 0 ≤ _), (by decide : 10 + 0 ≤ _)⟩)
    dsimp only [Pt.U, Pt.locs, Pt.cells, Pt.slots] at X197 l197 y197 z197 st197 hQ197
    subst l197 y197 z197
    obtain ⟨rfl, N197q, e197⟩ := hQ197
    have N197 := Fr.app N195 N197q
    refine Goes.to (B := (T197.setTop (mkF m 121 #[.val (.long x0), .second, .val (.long x1), .second, .val (.long x2), .second, .val (.long x3), .second, .val (.int x4), .val (.int x5), .val (.int (3 : Int32)), .val (.ref b_173), .val (.ref b_174), .val (.ref b177), .val (.int ((((0 : Int32) + (own_pos_fn x0)) + (own_pos_fn x1)) + (own_pos_fn x2)))] [(.int (own_rr3_fn x0 x1 x2))]))) st197 ?_
    refine Goes.step (B := (T197.setTop (mkF m 123 #[.val (.long x0), .second, .val (.long x1), .second, .val (.long x2), .second, .val (.long x3), .second, .val (.int x4), .val (.int x5), .val (.int (3 : Int32)), .val (.ref b_173), .val (.ref b_174), .val (.ref b177), .val (.int ((((0 : Int32) + (own_pos_fn x0)) + (own_pos_fn x1)) + (own_pos_fn x2)))] [(.int ((((0 : Int32) + (own_pos_fn x0)) + (own_pos_fn x1)) + (own_pos_fn x2))), (.int (own_rr3_fn x0 x1 x2))]))) (fun _ k => XS.iload X197.here hx rfl (hb hby at_121) rfl k) ?_
    have hc198 : (own_rr3_fn x0 x1 x2) = ((((0 : Int32) + (own_pos_fn x0)) + (own_pos_fn x1)) + (own_pos_fn x2)) := own_t3 x0 x1 x2
    refine Goes.step (B := (T197.setTop (mkF m 126 #[.val (.long x0), .second, .val (.long x1), .second, .val (.long x2), .second, .val (.long x3), .second, .val (.int x4), .val (.int x5), .val (.int (3 : Int32)), .val (.ref b_173), .val (.ref b_174), .val (.ref b177), .val (.int ((((0 : Int32) + (own_pos_fn x0)) + (own_pos_fn x1)) + (own_pos_fn x2)))] []))) (fun _ k => XS.icmpNo X197.here hx rfl (hb hby at_123) rfl (teq hc198).2 k) ?_
    refine Goes.step (B := (T197.setTop (mkF m 127 #[.val (.long x0), .second, .val (.long x1), .second, .val (.long x2), .second, .val (.long x3), .second, .val (.int x4), .val (.int x5), .val (.int (3 : Int32)), .val (.ref b_173), .val (.ref b_174), .val (.ref b177), .val (.int ((((0 : Int32) + (own_pos_fn x0)) + (own_pos_fn x1)) + (own_pos_fn x2)))] [(.int (1 : Int32))]))) (fun _ k => XS.iconst X197.here hx rfl (hb hby at_126) k) ?_
    refine Goes.step (B := (T197.setTop (mkF m 131 #[.val (.long x0), .second, .val (.long x1), .second, .val (.long x2), .second, .val (.long x3), .second, .val (.int x4), .val (.int x5), .val (.int (3 : Int32)), .val (.ref b_173), .val (.ref b_174), .val (.ref b177), .val (.int ((((0 : Int32) + (own_pos_fn x0)) + (own_pos_fn x1)) + (own_pos_fn x2)))] [(.int (1 : Int32))]))) (fun _ k => XS.goto X197.here hx rfl (pc0 := 127) (pc' := 131) rfl (hb hby at_127) (by decide) (by decide) k) ?_
    refine Goes.retN X197 hx hlk (t := .boolean) hrt (by simp) (hb hby at_131) ?_ (by decide) (by decide)
    rw [e197]
    exact ⟨rfl, N197⟩
  · rw [hl]
    refine Goes.step (B := (s₁.setTop (mkF m 11 #[.val (.long x0), .second, .val (.long x1), .second, .val (.long x2), .second, .val (.long x3), .second, .val (.int x4), .val (.int x5), .val (.int (4 : Int32)), .unset, .unset, .unset, .unset] [(.int (4 : Int32))]))) (fun _ k => XS.iload X0.here hx rfl (hb hby at_9) rfl k) ?_
    refine Goes.step (B := (s₁.setTop (mkF m 12 #[.val (.long x0), .second, .val (.long x1), .second, .val (.long x2), .second, .val (.long x3), .second, .val (.int x4), .val (.int x5), .val (.int (4 : Int32)), .unset, .unset, .unset, .unset] [(.long x0), (.int (4 : Int32))]))) (fun _ k => XS.lloadN X0.here hx rfl (hb hby at_11) rfl k) ?_
    refine Goes.step (B := (s₁.setTop (mkF m 13 #[.val (.long x0), .second, .val (.long x1), .second, .val (.long x2), .second, .val (.long x3), .second, .val (.int x4), .val (.int x5), .val (.int (4 : Int32)), .unset, .unset, .unset, .unset] [(.long x1), (.long x0), (.int (4 : Int32))]))) (fun _ k => XS.lloadN X0.here hx rfl (hb hby at_12) rfl k) ?_
    refine Goes.step (B := (s₁.setTop (mkF m 15 #[.val (.long x0), .second, .val (.long x1), .second, .val (.long x2), .second, .val (.long x3), .second, .val (.int x4), .val (.int x5), .val (.int (4 : Int32)), .unset, .unset, .unset, .unset] [(.long x2), (.long x1), (.long x0), (.int (4 : Int32))]))) (fun _ k => XS.lload X0.here hx rfl (hb hby at_13) rfl k) ?_
    refine Goes.step (B := (s₁.setTop (mkF m 17 #[.val (.long x0), .second, .val (.long x1), .second, .val (.long x2), .second, .val (.long x3), .second, .val (.int x4), .val (.int x5), .val (.int (4 : Int32)), .unset, .unset, .unset, .unset] [(.long x3), (.long x2), (.long x1), (.long x0), (.int (4 : Int32))]))) (fun _ k => XS.lload X0.here hx rfl (hb hby at_15) rfl k) ?_
    obtain ⟨_, _, ⟨T199, L199, k199, n199⟩, -, X199, ⟨Lc199, hQ199, l199, y199, z199⟩, st199⟩ := Jvm.LawKit.callS X0 hx (y := (⟨"com/example/focustat/focustat/FocusedTopicRelevantRetrievedPinLaw", "build", "(IJJJJ)[J"⟩ : MethodName)) hown (mvT hZ (hw _ (List.mem_of_getElem? (i := 0) rfl))) (mvT hZ (hw _ (List.mem_of_getElem? (i := 1) rfl))) (mvT hZ (hw _ (List.mem_of_getElem? (i := 2) rfl))) (mvT hZ (hw _ (List.mem_of_getElem? (i := 3) rfl))) (by decide) (backOf (W := 0) (own_bl4_rm l Z a0 hw [] x0 x1 x2 x3  h0 n0 Z0 ) hZ (hw _ (List.mem_of_getElem? (i := 3) rfl)) (hw _ (List.mem_of_getElem? (i := 2) rfl)) (by decide) (by decide)) (g := (mkF m 17 #[.val (.long x0), .second, .val (.long x1), .second, .val (.long x2), .second, .val (.long x3), .second, .val (.int x4), .val (.int x5), .val (.int (4 : Int32)), .unset, .unset, .unset, .unset] [(.long x3), (.long x2), (.long x1), (.long x0), (.int (4 : Int32))])) rfl (by rw [hml]; rfl) (argsL := [(.int (4 : Int32)), (.long x0), (.long x1), (.long x2), (.long x3)]) (rest := []) (lenOf pd__IJJJJ_AJ rfl) rfl (by show 2 * 0 + _ ≤ _; exact Nat.le_of_eq rfl) (hb hby at_17) (fun _ _ => ⟨rfl, e0, (by decide : 0 + 1 ≤ _), (by decide : 0 + 4 ≤ _)⟩)
    dsimp only [Pt.U, Pt.locs, Pt.cells, Pt.slots] at X199 l199 y199 z199 st199 hQ199
    subst l199 y199 z199
    obtain ⟨b_199, k1_199, rfl, N199q, K199q, gn199_b, sz199_b, p199_0⟩ := hQ199
    have N199 := Fr.app N0 N199q
    have K199 : Keep h0 T199.heap [] := Keep.trans (Keep.refl h0 []) K199q (fun _ q => nomatch q)
    have Z199 : n0 ≤ T199.heap.size := Nat.le_trans Z0 K199q.1
    have szz199_b : h0.size ≤ b_199 := Nat.le_trans (Keep.refl h0 []).1 sz199_b
    refine Goes.step (B := (T199.setTop (mkF m 20 #[.val (.long x0), .second, .val (.long x1), .second, .val (.long x2), .second, .val (.long x3), .second, .val (.int x4), .val (.int x5), .val (.int (4 : Int32)), .unset, .unset, .unset, .unset] [(.ref b_199)]))) (fun _ k => st199 _ k) ?_
    refine Goes.step (B := (T199.setTop (mkF m 22 #[.val (.long x0), .second, .val (.long x1), .second, .val (.long x2), .second, .val (.long x3), .second, .val (.int x4), .val (.int x5), .val (.int (4 : Int32)), .val (.ref b_199), .unset, .unset, .unset] []))) (fun _ k => XS.astore X199.here hx rfl (hb hby at_20) rfl rfl (l' := #[.val (.long x0), .second, .val (.long x1), .second, .val (.long x2), .second, .val (.long x3), .second, .val (.int x4), .val (.int x5), .val (.int (4 : Int32)), .val (.ref b_199), .unset, .unset, .unset]) rfl k) ?_
    refine Goes.step (B := (T199.setTop (mkF m 24 #[.val (.long x0), .second, .val (.long x1), .second, .val (.long x2), .second, .val (.long x3), .second, .val (.int x4), .val (.int x5), .val (.int (4 : Int32)), .val (.ref b_199), .unset, .unset, .unset] [(.int (4 : Int32))]))) (fun _ k => XS.iload X199.here hx rfl (hb hby at_22) rfl k) ?_
    refine Goes.step (B := (T199.setTop (mkF m 25 #[.val (.long x0), .second, .val (.long x1), .second, .val (.long x2), .second, .val (.long x3), .second, .val (.int x4), .val (.int x5), .val (.int (4 : Int32)), .val (.ref b_199), .unset, .unset, .unset] [(.long x0), (.int (4 : Int32))]))) (fun _ k => XS.lloadN X199.here hx rfl (hb hby at_24) rfl k) ?_
    refine Goes.step (B := (T199.setTop (mkF m 26 #[.val (.long x0), .second, .val (.long x1), .second, .val (.long x2), .second, .val (.long x3), .second, .val (.int x4), .val (.int x5), .val (.int (4 : Int32)), .val (.ref b_199), .unset, .unset, .unset] [(.long x1), (.long x0), (.int (4 : Int32))]))) (fun _ k => XS.lloadN X199.here hx rfl (hb hby at_25) rfl k) ?_
    refine Goes.step (B := (T199.setTop (mkF m 28 #[.val (.long x0), .second, .val (.long x1), .second, .val (.long x2), .second, .val (.long x3), .second, .val (.int x4), .val (.int x5), .val (.int (4 : Int32)), .val (.ref b_199), .unset, .unset, .unset] [(.long x2), (.long x1), (.long x0), (.int (4 : Int32))]))) (fun _ k => XS.lload X199.here hx rfl (hb hby at_26) rfl k) ?_
    refine Goes.step (B := (T199.setTop (mkF m 30 #[.val (.long x0), .second, .val (.long x1), .second, .val (.long x2), .second, .val (.long x3), .second, .val (.int x4), .val (.int x5), .val (.int (4 : Int32)), .val (.ref b_199), .unset, .unset, .unset] [(.long x3), (.long x2), (.long x1), (.long x0), (.int (4 : Int32))]))) (fun _ k => XS.lload X199.here hx rfl (hb hby at_28) rfl k) ?_
    obtain ⟨_, _, ⟨T200, L200, k200, n200⟩, -, X200, ⟨Lc200, hQ200, l200, y200, z200⟩, st200⟩ := Jvm.LawKit.callS X199 hx (y := (⟨"com/example/focustat/focustat/FocusedTopicRelevantRetrievedPinLaw", "build", "(IJJJJ)[J"⟩ : MethodName)) hown (mvT hZ (hw _ (List.mem_of_getElem? (i := 0) rfl))) (mvT hZ (hw _ (List.mem_of_getElem? (i := 1) rfl))) (mvT hZ (hw _ (List.mem_of_getElem? (i := 2) rfl))) (mvT hZ (hw _ (List.mem_of_getElem? (i := 3) rfl))) (by decide) (backOf (W := 0) (own_bl4_rm l Z a0 hw [] x0 x1 x2 x3  T199.heap n0 Z199 ) hZ (hw _ (List.mem_of_getElem? (i := 3) rfl)) (hw _ (List.mem_of_getElem? (i := 2) rfl)) (by decide) (by decide)) (g := (mkF m 30 #[.val (.long x0), .second, .val (.long x1), .second, .val (.long x2), .second, .val (.long x3), .second, .val (.int x4), .val (.int x5), .val (.int (4 : Int32)), .val (.ref b_199), .unset, .unset, .unset] [(.long x3), (.long x2), (.long x1), (.long x0), (.int (4 : Int32))])) rfl (by rw [hml]; rfl) (argsL := [(.int (4 : Int32)), (.long x0), (.long x1), (.long x2), (.long x3)]) (rest := []) (lenOf pd__IJJJJ_AJ rfl) rfl (by show 2 * 0 + _ ≤ _; exact Nat.le_of_eq rfl) (hb hby at_30) (fun _ _ => ⟨rfl, rfl, (by decide : 1 + 1 ≤ _), (by decide : 4 + 4 ≤ _)⟩)
    dsimp only [Pt.U, Pt.locs, Pt.cells, Pt.slots] at X200 l200 y200 z200 st200 hQ200
    subst l200 y200 z200
    obtain ⟨b_200, k1_200, rfl, N200q, K200q, gn200_b, sz200_b, p200_0⟩ := hQ200
    have N200 := Fr.app N199 N200q
    have ne201 : b_199 ≠ b_200 := Nat.ne_of_lt (Nat.lt_of_lt_of_le p199_0.lt sz200_b)
    have f202 := p199_0.keep K200q nm0
    have K200 : Keep h0 T200.heap [] := Keep.trans K199 K200q (fun _ q => nomatch q)
    have Z200 : n0 ≤ T200.heap.size := Nat.le_trans Z199 K200q.1
    have szz200_b : h0.size ≤ b_200 := Nat.le_trans K199.1 sz200_b
    refine Goes.step (B := (T200.setTop (mkF m 33 #[.val (.long x0), .second, .val (.long x1), .second, .val (.long x2), .second, .val (.long x3), .second, .val (.int x4), .val (.int x5), .val (.int (4 : Int32)), .val (.ref b_199), .unset, .unset, .unset] [(.ref b_200)]))) (fun _ k => st200 _ k) ?_
    refine Goes.step (B := (T200.setTop (mkF m 35 #[.val (.long x0), .second, .val (.long x1), .second, .val (.long x2), .second, .val (.long x3), .second, .val (.int x4), .val (.int x5), .val (.int (4 : Int32)), .val (.ref b_199), .val (.ref b_200), .unset, .unset] []))) (fun _ k => XS.astore X200.here hx rfl (hb hby at_33) rfl rfl (l' := #[.val (.long x0), .second, .val (.long x1), .second, .val (.long x2), .second, .val (.long x3), .second, .val (.int x4), .val (.int x5), .val (.int (4 : Int32)), .val (.ref b_199), .val (.ref b_200), .unset, .unset]) rfl k) ?_
    obtain ⟨T203, h203, X203, e203, E203, A203, D203, -, st203⟩ := newO X200 hx hZ hown (hw _ (List.mem_of_getElem? (i := 5) rfl)) (hw _ (List.mem_of_getElem? (i := 6) rfl)) (hw _ (List.mem_of_getElem? (i := 7) rfl)) rfl (g := (mkF m 35 #[.val (.long x0), .second, .val (.long x1), .second, .val (.long x2), .second, .val (.long x3), .second, .val (.int x4), .val (.int x5), .val (.int (4 : Int32)), .val (.ref b_199), .val (.ref b_200), .unset, .unset] [])) rfl (hb hby at_35) (by decide) (by decide)
    obtain ⟨b203, g203⟩ : ∃ z, z = T200.heap.size := ⟨_, rfl⟩
    rw [← g203] at A203 D203 st203
    have gn203 : n0 ≤ b203 := Nat.le_trans Z200 (Nat.le_of_eq g203.symm)
    have sz203 : h0.size ≤ b203 := Nat.le_trans K200.1 (Nat.le_of_eq g203.symm)
    have ne204 : b_199 ≠ b203 := Nat.ne_of_lt (Nat.lt_of_lt_of_le f202.lt (Nat.le_of_eq g203.symm))
    have ne205 : b_200 ≠ b203 := Nat.ne_of_lt (Nat.lt_of_lt_of_le p200_0.lt (Nat.le_of_eq g203.symm))
    have f206 := f202.ext E203
    have f207 := p200_0.ext E203
    have f208 : Fld Z h203 b203 "com/example/focustat/focustat/FocusedTopic" "covered" "[J" .null := D203 (Or.inr (hw _ (List.mem_of_getElem? (i := 20) rfl))) (ty := (.array .long)) (by decide)
    have f209 : Fld Z h203 b203 "com/example/focustat/focustat/FocusedTopic" "lengths" "[J" .null := D203 (Or.inr (hw _ (List.mem_of_getElem? (i := 22) rfl))) (ty := (.array .long)) (by decide)
    have f210 : Fld Z h203 b203 "com/example/focustat/focustat/FocusedTopic" "highlighted" "J" (.long (0 : Int64)) := D203 (Or.inr (hw _ (List.mem_of_getElem? (i := 24) rfl))) (ty := .long) (by decide)
    have f211 : Fld Z h203 b203 "com/example/focustat/focustat/FocusedTopic" "relevantCount" "I" (.int (0 : Int32)) := D203 (Or.inr (hw _ (List.mem_of_getElem? (i := 26) rfl))) (ty := .int) (by decide)
    have Z203 : n0 ≤ h203.size := Nat.le_trans Z200 E203.1
    have K203 : Keep h0 h203 [] := K200.ext E203
    refine Goes.step (B := (T203.setTop (mkF m 38 #[.val (.long x0), .second, .val (.long x1), .second, .val (.long x2), .second, .val (.long x3), .second, .val (.int x4), .val (.int x5), .val (.int (4 : Int32)), .val (.ref b_199), .val (.ref b_200), .unset, .unset] [(.ref b203)]))) (fun _ k => st203 _ k) ?_
    refine Goes.step (B := (T203.setTop (mkF m 39 #[.val (.long x0), .second, .val (.long x1), .second, .val (.long x2), .second, .val (.long x3), .second, .val (.int x4), .val (.int x5), .val (.int (4 : Int32)), .val (.ref b_199), .val (.ref b_200), .unset, .unset] [(.ref b203), (.ref b203)]))) (fun _ k => XS.dup X203.here hx rfl (hb hby at_38) rfl rfl k) ?_
    refine Goes.step (B := (T203.setTop (mkF m 41 #[.val (.long x0), .second, .val (.long x1), .second, .val (.long x2), .second, .val (.long x3), .second, .val (.int x4), .val (.int x5), .val (.int (4 : Int32)), .val (.ref b_199), .val (.ref b_200), .unset, .unset] [(.ref b_199), (.ref b203), (.ref b203)]))) (fun _ k => XS.aload X203.here hx rfl (hb hby at_39) rfl rfl k) ?_
    refine Goes.step (B := (T203.setTop (mkF m 43 #[.val (.long x0), .second, .val (.long x1), .second, .val (.long x2), .second, .val (.long x3), .second, .val (.int x4), .val (.int x5), .val (.int (4 : Int32)), .val (.ref b_199), .val (.ref b_200), .unset, .unset] [(.ref b_200), (.ref b_199), (.ref b203), (.ref b203)]))) (fun _ k => XS.aload X203.here hx rfl (hb hby at_41) rfl rfl k) ?_
    refine Goes.step (B := (T203.setTop (mkF m 44 #[.val (.long x0), .second, .val (.long x1), .second, .val (.long x2), .second, .val (.long x3), .second, .val (.int x4), .val (.int x5), .val (.int (4 : Int32)), .val (.ref b_199), .val (.ref b_200), .unset, .unset] [(.long (1 : Int64)), (.ref b_200), (.ref b_199), (.ref b203), (.ref b203)]))) (fun _ k => XS.lconst X203.here hx rfl (hb hby at_43) k) ?_
    refine Goes.step (B := (T203.setTop (mkF m 46 #[.val (.long x0), .second, .val (.long x1), .second, .val (.long x2), .second, .val (.long x3), .second, .val (.int x4), .val (.int x5), .val (.int (4 : Int32)), .val (.ref b_199), .val (.ref b_200), .unset, .unset] [(.int x5), (.long (1 : Int64)), (.ref b_200), (.ref b_199), (.ref b203), (.ref b203)]))) (fun _ k => XS.iload X203.here hx rfl (hb hby at_44) rfl k) ?_
    obtain ⟨_, _, ⟨T212, L212, k212, n212⟩, -, X212, ⟨Lc212, hQ212, l212, y212, z212⟩, st212⟩ := X203.specialBack hx (y := (⟨"com/example/focustat/focustat/FocusedTopic", "<init>", "([J[JJI)V"⟩ : MethodName)) rfl hown (mvT hZ (hw _ (List.mem_of_getElem? (i := 8) rfl))) (mvT hZ (hw _ (List.mem_of_getElem? (i := 9) rfl))) (mvT hZ (hw _ (List.mem_of_getElem? (i := 10) rfl))) (by decide) (backOf (W := 1) (own_in_rm l Z a0 hw [] b203 b_199 b_200 (1 : Int64) x5  h203 n0 Z203 A203 f208 f209 f210 f211 gn203) hZ (hw _ (List.mem_of_getElem? (i := 10) rfl)) (hw _ (List.mem_of_getElem? (i := 7) rfl)) (by decide) (by decide)) (g := (mkF m 46 #[.val (.long x0), .second, .val (.long x1), .second, .val (.long x2), .second, .val (.long x3), .second, .val (.int x4), .val (.int x5), .val (.int (4 : Int32)), .val (.ref b_199), .val (.ref b_200), .unset, .unset] [(.int x5), (.long (1 : Int64)), (.ref b_200), (.ref b_199), (.ref b203), (.ref b203)])) rfl (by rw [hml]; rfl) (Steps.refl _) (a := b203) (argsL := [(.ref b_199), (.ref b_200), (.long (1 : Int64)), (.int x5)]) (rest := [(.ref b203)]) (lenOf pd__AJAJJI_V rfl) rfl (by show 2 * 0 + _ ≤ _; exact Nat.le_of_eq rfl) (hb hby at_46) (fun _ _ => ⟨rfl, e203, (by decide : 3 + 0 ≤ _), (by decide : 12 + 0 ≤ _)⟩)
    dsimp only [Pt.U, Pt.locs, Pt.cells, Pt.slots] at X212 l212 y212 z212 st212 hQ212
    subst l212 y212 z212
    obtain ⟨rfl, N212q, K212q, p212_0, p212_1⟩ := hQ212
    have N212 := Fr.app N200 N212q
    have f213 := f206.keep K212q (nm1 ne204)
    have f214 := f207.keep K212q (nm1 ne205)
    have f215 := A203.keep K212q
    have K212 : Keep h0 T212.heap [] := Keep.trans K203 K212q (fun y q => by cases List.mem_singleton.mp q; exact (Or.inr sz203))
    have Z212 : n0 ≤ T212.heap.size := Nat.le_trans Z203 K212q.1
    refine Goes.to (B := (T212.setTop (mkF m 49 #[.val (.long x0), .second, .val (.long x1), .second, .val (.long x2), .second, .val (.long x3), .second, .val (.int x4), .val (.int x5), .val (.int (4 : Int32)), .val (.ref b_199), .val (.ref b_200), .unset, .unset] [(.ref b203)]))) st212 ?_
    refine Goes.step (B := (T212.setTop (mkF m 51 #[.val (.long x0), .second, .val (.long x1), .second, .val (.long x2), .second, .val (.long x3), .second, .val (.int x4), .val (.int x5), .val (.int (4 : Int32)), .val (.ref b_199), .val (.ref b_200), .val (.ref b203), .unset] []))) (fun _ k => XS.astore X212.here hx rfl (hb hby at_49) rfl rfl (l' := #[.val (.long x0), .second, .val (.long x1), .second, .val (.long x2), .second, .val (.long x3), .second, .val (.int x4), .val (.int x5), .val (.int (4 : Int32)), .val (.ref b_199), .val (.ref b_200), .val (.ref b203), .unset]) rfl k) ?_
    refine Goes.step (B := (T212.setTop (mkF m 52 #[.val (.long x0), .second, .val (.long x1), .second, .val (.long x2), .second, .val (.long x3), .second, .val (.int x4), .val (.int x5), .val (.int (4 : Int32)), .val (.ref b_199), .val (.ref b_200), .val (.ref b203), .unset] [(.int (0 : Int32))]))) (fun _ k => XS.iconst X212.here hx rfl (hb hby at_51) k) ?_
    refine Goes.step (B := (T212.setTop (mkF m 54 #[.val (.long x0), .second, .val (.long x1), .second, .val (.long x2), .second, .val (.long x3), .second, .val (.int x4), .val (.int x5), .val (.int (4 : Int32)), .val (.ref b_199), .val (.ref b_200), .val (.ref b203), .val (.int (0 : Int32))] []))) (fun _ k => XS.istore X212.here hx rfl (hb hby at_52) rfl (l' := #[.val (.long x0), .second, .val (.long x1), .second, .val (.long x2), .second, .val (.long x3), .second, .val (.int x4), .val (.int x5), .val (.int (4 : Int32)), .val (.ref b_199), .val (.ref b_200), .val (.ref b203), .val (.int (0 : Int32))]) rfl k) ?_
    refine Goes.step (B := (T212.setTop (mkF m 56 #[.val (.long x0), .second, .val (.long x1), .second, .val (.long x2), .second, .val (.long x3), .second, .val (.int x4), .val (.int x5), .val (.int (4 : Int32)), .val (.ref b_199), .val (.ref b_200), .val (.ref b203), .val (.int (0 : Int32))] [(.int (4 : Int32))]))) (fun _ k => XS.iload X212.here hx rfl (hb hby at_54) rfl k) ?_
    refine Goes.step (B := (T212.setTop (mkF m 57 #[.val (.long x0), .second, .val (.long x1), .second, .val (.long x2), .second, .val (.long x3), .second, .val (.int x4), .val (.int x5), .val (.int (4 : Int32)), .val (.ref b_199), .val (.ref b_200), .val (.ref b203), .val (.int (0 : Int32))] [(.int (1 : Int32)), (.int (4 : Int32))]))) (fun _ k => XS.iconst X212.here hx rfl (hb hby at_56) k) ?_
    have hc216 : ¬ ((4 : Int32) < (1 : Int32)) := by decide
    refine Goes.step (B := (T212.setTop (mkF m 60 #[.val (.long x0), .second, .val (.long x1), .second, .val (.long x2), .second, .val (.long x3), .second, .val (.int x4), .val (.int x5), .val (.int (4 : Int32)), .val (.ref b_199), .val (.ref b_200), .val (.ref b203), .val (.int (0 : Int32))] []))) (fun _ k => XS.icmpNo X212.here hx rfl (hb hby at_57) rfl (flt hc216).1 k) ?_
    refine Goes.step (B := (T212.setTop (mkF m 62 #[.val (.long x0), .second, .val (.long x1), .second, .val (.long x2), .second, .val (.long x3), .second, .val (.int x4), .val (.int x5), .val (.int (4 : Int32)), .val (.ref b_199), .val (.ref b_200), .val (.ref b203), .val (.int (0 : Int32))] [(.int (0 : Int32))]))) (fun _ k => XS.iload X212.here hx rfl (hb hby at_60) rfl k) ?_
    refine Goes.step (B := (T212.setTop (mkF m 63 #[.val (.long x0), .second, .val (.long x1), .second, .val (.long x2), .second, .val (.long x3), .second, .val (.int x4), .val (.int x5), .val (.int (4 : Int32)), .val (.ref b_199), .val (.ref b_200), .val (.ref b203), .val (.int (0 : Int32))] [(.long x0), (.int (0 : Int32))]))) (fun _ k => XS.lloadN X212.here hx rfl (hb hby at_62) rfl k) ?_
    obtain ⟨_, _, ⟨T217, L217, k217, n217⟩, -, X217, ⟨Lc217, hQ217, l217, y217, z217⟩, st217⟩ := Jvm.LawKit.callS X212 hx (y := (⟨"com/example/focustat/focustat/FocusedTopicRelevantRetrievedPinLaw", "pos", "(J)I"⟩ : MethodName)) hown (mvT hZ (hw _ (List.mem_of_getElem? (i := 27) rfl))) (mvT hZ (hw _ (List.mem_of_getElem? (i := 28) rfl))) (mvT hZ (hw _ (List.mem_of_getElem? (i := 2) rfl))) (mvT hZ (hw _ (List.mem_of_getElem? (i := 29) rfl))) (by decide) (backOf (W := 1) (own_pos_rm l Z a0 hw [] x0  T212.heap n0 Z212 ) hZ (hw _ (List.mem_of_getElem? (i := 29) rfl)) (hw _ (List.mem_of_getElem? (i := 2) rfl)) (by decide) (by decide)) (g := (mkF m 63 #[.val (.long x0), .second, .val (.long x1), .second, .val (.long x2), .second, .val (.long x3), .second, .val (.int x4), .val (.int x5), .val (.int (4 : Int32)), .val (.ref b_199), .val (.ref b_200), .val (.ref b203), .val (.int (0 : Int32))] [(.long x0), (.int (0 : Int32))])) rfl (by rw [hml]; rfl) (argsL := [(.long x0)]) (rest := [(.int (0 : Int32))]) (lenOf pd__J_I rfl) rfl (by show 2 * 0 + _ ≤ _; exact Nat.le_of_eq rfl) (hb hby at_63) (fun _ _ => ⟨rfl, rfl, (by decide : 3 + 0 ≤ _), (by decide : 12 + 0 ≤ _)⟩)
    dsimp only [Pt.U, Pt.locs, Pt.cells, Pt.slots] at X217 l217 y217 z217 st217 hQ217
    subst l217 y217 z217
    obtain ⟨rfl, N217q, e217⟩ := hQ217
    have N217 := Fr.app N212 N217q
    refine Goes.step (B := (T217.setTop (mkF m 66 #[.val (.long x0), .second, .val (.long x1), .second, .val (.long x2), .second, .val (.long x3), .second, .val (.int x4), .val (.int x5), .val (.int (4 : Int32)), .val (.ref b_199), .val (.ref b_200), .val (.ref b203), .val (.int (0 : Int32))] [(.int (own_pos_fn x0)), (.int (0 : Int32))]))) (fun _ k => st217 _ k) ?_
    refine Goes.step (B := (T217.setTop (mkF m 67 #[.val (.long x0), .second, .val (.long x1), .second, .val (.long x2), .second, .val (.long x3), .second, .val (.int x4), .val (.int x5), .val (.int (4 : Int32)), .val (.ref b_199), .val (.ref b_200), .val (.ref b203), .val (.int (0 : Int32))] [(.int ((0 : Int32) + (own_pos_fn x0)))]))) (fun _ k => XS.iadd X217.here hx rfl (hb hby at_66) rfl k) ?_
    refine Goes.step (B := (T217.setTop (mkF m 69 #[.val (.long x0), .second, .val (.long x1), .second, .val (.long x2), .second, .val (.long x3), .second, .val (.int x4), .val (.int x5), .val (.int (4 : Int32)), .val (.ref b_199), .val (.ref b_200), .val (.ref b203), .val (.int ((0 : Int32) + (own_pos_fn x0)))] []))) (fun _ k => XS.istore X217.here hx rfl (hb hby at_67) rfl (l' := #[.val (.long x0), .second, .val (.long x1), .second, .val (.long x2), .second, .val (.long x3), .second, .val (.int x4), .val (.int x5), .val (.int (4 : Int32)), .val (.ref b_199), .val (.ref b_200), .val (.ref b203), .val (.int ((0 : Int32) + (own_pos_fn x0)))]) rfl k) ?_
    refine Goes.step (B := (T217.setTop (mkF m 71 #[.val (.long x0), .second, .val (.long x1), .second, .val (.long x2), .second, .val (.long x3), .second, .val (.int x4), .val (.int x5), .val (.int (4 : Int32)), .val (.ref b_199), .val (.ref b_200), .val (.ref b203), .val (.int ((0 : Int32) + (own_pos_fn x0)))] [(.int (4 : Int32))]))) (fun _ k => XS.iload X217.here hx rfl (hb hby at_69) rfl k) ?_
    refine Goes.step (B := (T217.setTop (mkF m 72 #[.val (.long x0), .second, .val (.long x1), .second, .val (.long x2), .second, .val (.long x3), .second, .val (.int x4), .val (.int x5), .val (.int (4 : Int32)), .val (.ref b_199), .val (.ref b_200), .val (.ref b203), .val (.int ((0 : Int32) + (own_pos_fn x0)))] [(.int (2 : Int32)), (.int (4 : Int32))]))) (fun _ k => XS.iconst X217.here hx rfl (hb hby at_71) k) ?_
    have hc218 : ¬ ((4 : Int32) < (2 : Int32)) := by decide
    refine Goes.step (B := (T217.setTop (mkF m 75 #[.val (.long x0), .second, .val (.long x1), .second, .val (.long x2), .second, .val (.long x3), .second, .val (.int x4), .val (.int x5), .val (.int (4 : Int32)), .val (.ref b_199), .val (.ref b_200), .val (.ref b203), .val (.int ((0 : Int32) + (own_pos_fn x0)))] []))) (fun _ k => XS.icmpNo X217.here hx rfl (hb hby at_72) rfl (flt hc218).1 k) ?_
    refine Goes.step (B := (T217.setTop (mkF m 77 #[.val (.long x0), .second, .val (.long x1), .second, .val (.long x2), .second, .val (.long x3), .second, .val (.int x4), .val (.int x5), .val (.int (4 : Int32)), .val (.ref b_199), .val (.ref b_200), .val (.ref b203), .val (.int ((0 : Int32) + (own_pos_fn x0)))] [(.int ((0 : Int32) + (own_pos_fn x0)))]))) (fun _ k => XS.iload X217.here hx rfl (hb hby at_75) rfl k) ?_
    refine Goes.step (B := (T217.setTop (mkF m 78 #[.val (.long x0), .second, .val (.long x1), .second, .val (.long x2), .second, .val (.long x3), .second, .val (.int x4), .val (.int x5), .val (.int (4 : Int32)), .val (.ref b_199), .val (.ref b_200), .val (.ref b203), .val (.int ((0 : Int32) + (own_pos_fn x0)))] [(.long x1), (.int ((0 : Int32) + (own_pos_fn x0)))]))) (fun _ k => XS.lloadN X217.here hx rfl (hb hby at_77) rfl k) ?_
    obtain ⟨_, _, ⟨T219, L219, k219, n219⟩, -, X219, ⟨Lc219, hQ219, l219, y219, z219⟩, st219⟩ := Jvm.LawKit.callS X217 hx (y := (⟨"com/example/focustat/focustat/FocusedTopicRelevantRetrievedPinLaw", "pos", "(J)I"⟩ : MethodName)) hown (mvT hZ (hw _ (List.mem_of_getElem? (i := 27) rfl))) (mvT hZ (hw _ (List.mem_of_getElem? (i := 28) rfl))) (mvT hZ (hw _ (List.mem_of_getElem? (i := 2) rfl))) (mvT hZ (hw _ (List.mem_of_getElem? (i := 29) rfl))) (by decide) (backOf (W := 1) (own_pos_rm l Z a0 hw [] x1  T212.heap n0 Z212 ) hZ (hw _ (List.mem_of_getElem? (i := 29) rfl)) (hw _ (List.mem_of_getElem? (i := 2) rfl)) (by decide) (by decide)) (g := (mkF m 78 #[.val (.long x0), .second, .val (.long x1), .second, .val (.long x2), .second, .val (.long x3), .second, .val (.int x4), .val (.int x5), .val (.int (4 : Int32)), .val (.ref b_199), .val (.ref b_200), .val (.ref b203), .val (.int ((0 : Int32) + (own_pos_fn x0)))] [(.long x1), (.int ((0 : Int32) + (own_pos_fn x0)))])) rfl (by rw [hml]; rfl) (argsL := [(.long x1)]) (rest := [(.int ((0 : Int32) + (own_pos_fn x0)))]) (lenOf pd__J_I rfl) rfl (by show 2 * 0 + _ ≤ _; exact Nat.le_of_eq rfl) (hb hby at_78) (fun _ _ => ⟨rfl, e217, (by decide : 3 + 0 ≤ _), (by decide : 12 + 0 ≤ _)⟩)
    dsimp only [Pt.U, Pt.locs, Pt.cells, Pt.slots] at X219 l219 y219 z219 st219 hQ219
    subst l219 y219 z219
    obtain ⟨rfl, N219q, e219⟩ := hQ219
    have N219 := Fr.app N217 N219q
    refine Goes.step (B := (T219.setTop (mkF m 81 #[.val (.long x0), .second, .val (.long x1), .second, .val (.long x2), .second, .val (.long x3), .second, .val (.int x4), .val (.int x5), .val (.int (4 : Int32)), .val (.ref b_199), .val (.ref b_200), .val (.ref b203), .val (.int ((0 : Int32) + (own_pos_fn x0)))] [(.int (own_pos_fn x1)), (.int ((0 : Int32) + (own_pos_fn x0)))]))) (fun _ k => st219 _ k) ?_
    refine Goes.step (B := (T219.setTop (mkF m 82 #[.val (.long x0), .second, .val (.long x1), .second, .val (.long x2), .second, .val (.long x3), .second, .val (.int x4), .val (.int x5), .val (.int (4 : Int32)), .val (.ref b_199), .val (.ref b_200), .val (.ref b203), .val (.int ((0 : Int32) + (own_pos_fn x0)))] [(.int (((0 : Int32) + (own_pos_fn x0)) + (own_pos_fn x1)))]))) (fun _ k => XS.iadd X219.here hx rfl (hb hby at_81) rfl k) ?_
    refine Goes.step (B := (T219.setTop (mkF m 84 #[.val (.long x0), .second, .val (.long x1), .second, .val (.long x2), .second, .val (.long x3), .second, .val (.int x4), .val (.int x5), .val (.int (4 : Int32)), .val (.ref b_199), .val (.ref b_200), .val (.ref b203), .val (.int (((0 : Int32) + (own_pos_fn x0)) + (own_pos_fn x1)))] []))) (fun _ k => XS.istore X219.here hx rfl (hb hby at_82) rfl (l' := #[.val (.long x0), .second, .val (.long x1), .second, .val (.long x2), .second, .val (.long x3), .second, .val (.int x4), .val (.int x5), .val (.int (4 : Int32)), .val (.ref b_199), .val (.ref b_200), .val (.ref b203), .val (.int (((0 : Int32) + (own_pos_fn x0)) + (own_pos_fn x1)))]) rfl k) ?_
    refine Goes.step (B := (T219.setTop (mkF m 86 #[.val (.long x0), .second, .val (.long x1), .second, .val (.long x2), .second, .val (.long x3), .second, .val (.int x4), .val (.int x5), .val (.int (4 : Int32)), .val (.ref b_199), .val (.ref b_200), .val (.ref b203), .val (.int (((0 : Int32) + (own_pos_fn x0)) + (own_pos_fn x1)))] [(.int (4 : Int32))]))) (fun _ k => XS.iload X219.here hx rfl (hb hby at_84) rfl k) ?_
    refine Goes.step (B := (T219.setTop (mkF m 87 #[.val (.long x0), .second, .val (.long x1), .second, .val (.long x2), .second, .val (.long x3), .second, .val (.int x4), .val (.int x5), .val (.int (4 : Int32)), .val (.ref b_199), .val (.ref b_200), .val (.ref b203), .val (.int (((0 : Int32) + (own_pos_fn x0)) + (own_pos_fn x1)))] [(.int (3 : Int32)), (.int (4 : Int32))]))) (fun _ k => XS.iconst X219.here hx rfl (hb hby at_86) k) ?_
    have hc220 : ¬ ((4 : Int32) < (3 : Int32)) := by decide
    refine Goes.step (B := (T219.setTop (mkF m 90 #[.val (.long x0), .second, .val (.long x1), .second, .val (.long x2), .second, .val (.long x3), .second, .val (.int x4), .val (.int x5), .val (.int (4 : Int32)), .val (.ref b_199), .val (.ref b_200), .val (.ref b203), .val (.int (((0 : Int32) + (own_pos_fn x0)) + (own_pos_fn x1)))] []))) (fun _ k => XS.icmpNo X219.here hx rfl (hb hby at_87) rfl (flt hc220).1 k) ?_
    refine Goes.step (B := (T219.setTop (mkF m 92 #[.val (.long x0), .second, .val (.long x1), .second, .val (.long x2), .second, .val (.long x3), .second, .val (.int x4), .val (.int x5), .val (.int (4 : Int32)), .val (.ref b_199), .val (.ref b_200), .val (.ref b203), .val (.int (((0 : Int32) + (own_pos_fn x0)) + (own_pos_fn x1)))] [(.int (((0 : Int32) + (own_pos_fn x0)) + (own_pos_fn x1)))]))) (fun _ k => XS.iload X219.here hx rfl (hb hby at_90) rfl k) ?_
    refine Goes.step (B := (T219.setTop (mkF m 94 #[.val (.long x0), .second, .val (.long x1), .second, .val (.long x2), .second, .val (.long x3), .second, .val (.int x4), .val (.int x5), .val (.int (4 : Int32)), .val (.ref b_199), .val (.ref b_200), .val (.ref b203), .val (.int (((0 : Int32) + (own_pos_fn x0)) + (own_pos_fn x1)))] [(.long x2), (.int (((0 : Int32) + (own_pos_fn x0)) + (own_pos_fn x1)))]))) (fun _ k => XS.lload X219.here hx rfl (hb hby at_92) rfl k) ?_
    obtain ⟨_, _, ⟨T221, L221, k221, n221⟩, -, X221, ⟨Lc221, hQ221, l221, y221, z221⟩, st221⟩ := Jvm.LawKit.callS X219 hx (y := (⟨"com/example/focustat/focustat/FocusedTopicRelevantRetrievedPinLaw", "pos", "(J)I"⟩ : MethodName)) hown (mvT hZ (hw _ (List.mem_of_getElem? (i := 27) rfl))) (mvT hZ (hw _ (List.mem_of_getElem? (i := 28) rfl))) (mvT hZ (hw _ (List.mem_of_getElem? (i := 2) rfl))) (mvT hZ (hw _ (List.mem_of_getElem? (i := 29) rfl))) (by decide) (backOf (W := 1) (own_pos_rm l Z a0 hw [] x2  T212.heap n0 Z212 ) hZ (hw _ (List.mem_of_getElem? (i := 29) rfl)) (hw _ (List.mem_of_getElem? (i := 2) rfl)) (by decide) (by decide)) (g := (mkF m 94 #[.val (.long x0), .second, .val (.long x1), .second, .val (.long x2), .second, .val (.long x3), .second, .val (.int x4), .val (.int x5), .val (.int (4 : Int32)), .val (.ref b_199), .val (.ref b_200), .val (.ref b203), .val (.int (((0 : Int32) + (own_pos_fn x0)) + (own_pos_fn x1)))] [(.long x2), (.int (((0 : Int32) + (own_pos_fn x0)) + (own_pos_fn x1)))])) rfl (by rw [hml]; rfl) (argsL := [(.long x2)]) (rest := [(.int (((0 : Int32) + (own_pos_fn x0)) + (own_pos_fn x1)))]) (lenOf pd__J_I rfl) rfl (by show 2 * 0 + _ ≤ _; exact Nat.le_of_eq rfl) (hb hby at_94) (fun _ _ => ⟨rfl, e219, (by decide : 3 + 0 ≤ _), (by decide : 12 + 0 ≤ _)⟩)
    dsimp only [Pt.U, Pt.locs, Pt.cells, Pt.slots] at X221 l221 y221 z221 st221 hQ221
    subst l221 y221 z221
    obtain ⟨rfl, N221q, e221⟩ := hQ221
    have N221 := Fr.app N219 N221q
    refine Goes.step (B := (T221.setTop (mkF m 97 #[.val (.long x0), .second, .val (.long x1), .second, .val (.long x2), .second, .val (.long x3), .second, .val (.int x4), .val (.int x5), .val (.int (4 : Int32)), .val (.ref b_199), .val (.ref b_200), .val (.ref b203), .val (.int (((0 : Int32) + (own_pos_fn x0)) + (own_pos_fn x1)))] [(.int (own_pos_fn x2)), (.int (((0 : Int32) + (own_pos_fn x0)) + (own_pos_fn x1)))]))) (fun _ k => st221 _ k) ?_
    refine Goes.step (B := (T221.setTop (mkF m 98 #[.val (.long x0), .second, .val (.long x1), .second, .val (.long x2), .second, .val (.long x3), .second, .val (.int x4), .val (.int x5), .val (.int (4 : Int32)), .val (.ref b_199), .val (.ref b_200), .val (.ref b203), .val (.int (((0 : Int32) + (own_pos_fn x0)) + (own_pos_fn x1)))] [(.int ((((0 : Int32) + (own_pos_fn x0)) + (own_pos_fn x1)) + (own_pos_fn x2)))]))) (fun _ k => XS.iadd X221.here hx rfl (hb hby at_97) rfl k) ?_
    refine Goes.step (B := (T221.setTop (mkF m 100 #[.val (.long x0), .second, .val (.long x1), .second, .val (.long x2), .second, .val (.long x3), .second, .val (.int x4), .val (.int x5), .val (.int (4 : Int32)), .val (.ref b_199), .val (.ref b_200), .val (.ref b203), .val (.int ((((0 : Int32) + (own_pos_fn x0)) + (own_pos_fn x1)) + (own_pos_fn x2)))] []))) (fun _ k => XS.istore X221.here hx rfl (hb hby at_98) rfl (l' := #[.val (.long x0), .second, .val (.long x1), .second, .val (.long x2), .second, .val (.long x3), .second, .val (.int x4), .val (.int x5), .val (.int (4 : Int32)), .val (.ref b_199), .val (.ref b_200), .val (.ref b203), .val (.int ((((0 : Int32) + (own_pos_fn x0)) + (own_pos_fn x1)) + (own_pos_fn x2)))]) rfl k) ?_
    refine Goes.step (B := (T221.setTop (mkF m 102 #[.val (.long x0), .second, .val (.long x1), .second, .val (.long x2), .second, .val (.long x3), .second, .val (.int x4), .val (.int x5), .val (.int (4 : Int32)), .val (.ref b_199), .val (.ref b_200), .val (.ref b203), .val (.int ((((0 : Int32) + (own_pos_fn x0)) + (own_pos_fn x1)) + (own_pos_fn x2)))] [(.int (4 : Int32))]))) (fun _ k => XS.iload X221.here hx rfl (hb hby at_100) rfl k) ?_
    refine Goes.step (B := (T221.setTop (mkF m 103 #[.val (.long x0), .second, .val (.long x1), .second, .val (.long x2), .second, .val (.long x3), .second, .val (.int x4), .val (.int x5), .val (.int (4 : Int32)), .val (.ref b_199), .val (.ref b_200), .val (.ref b203), .val (.int ((((0 : Int32) + (own_pos_fn x0)) + (own_pos_fn x1)) + (own_pos_fn x2)))] [(.int (4 : Int32)), (.int (4 : Int32))]))) (fun _ k => XS.iconst X221.here hx rfl (hb hby at_102) k) ?_
    have hc222 : ¬ ((4 : Int32) < (4 : Int32)) := by decide
    refine Goes.step (B := (T221.setTop (mkF m 106 #[.val (.long x0), .second, .val (.long x1), .second, .val (.long x2), .second, .val (.long x3), .second, .val (.int x4), .val (.int x5), .val (.int (4 : Int32)), .val (.ref b_199), .val (.ref b_200), .val (.ref b203), .val (.int ((((0 : Int32) + (own_pos_fn x0)) + (own_pos_fn x1)) + (own_pos_fn x2)))] []))) (fun _ k => XS.icmpNo X221.here hx rfl (hb hby at_103) rfl (flt hc222).1 k) ?_
    refine Goes.step (B := (T221.setTop (mkF m 108 #[.val (.long x0), .second, .val (.long x1), .second, .val (.long x2), .second, .val (.long x3), .second, .val (.int x4), .val (.int x5), .val (.int (4 : Int32)), .val (.ref b_199), .val (.ref b_200), .val (.ref b203), .val (.int ((((0 : Int32) + (own_pos_fn x0)) + (own_pos_fn x1)) + (own_pos_fn x2)))] [(.int ((((0 : Int32) + (own_pos_fn x0)) + (own_pos_fn x1)) + (own_pos_fn x2)))]))) (fun _ k => XS.iload X221.here hx rfl (hb hby at_106) rfl k) ?_
    refine Goes.step (B := (T221.setTop (mkF m 110 #[.val (.long x0), .second, .val (.long x1), .second, .val (.long x2), .second, .val (.long x3), .second, .val (.int x4), .val (.int x5), .val (.int (4 : Int32)), .val (.ref b_199), .val (.ref b_200), .val (.ref b203), .val (.int ((((0 : Int32) + (own_pos_fn x0)) + (own_pos_fn x1)) + (own_pos_fn x2)))] [(.long x3), (.int ((((0 : Int32) + (own_pos_fn x0)) + (own_pos_fn x1)) + (own_pos_fn x2)))]))) (fun _ k => XS.lload X221.here hx rfl (hb hby at_108) rfl k) ?_
    obtain ⟨_, _, ⟨T223, L223, k223, n223⟩, -, X223, ⟨Lc223, hQ223, l223, y223, z223⟩, st223⟩ := Jvm.LawKit.callS X221 hx (y := (⟨"com/example/focustat/focustat/FocusedTopicRelevantRetrievedPinLaw", "pos", "(J)I"⟩ : MethodName)) hown (mvT hZ (hw _ (List.mem_of_getElem? (i := 27) rfl))) (mvT hZ (hw _ (List.mem_of_getElem? (i := 28) rfl))) (mvT hZ (hw _ (List.mem_of_getElem? (i := 2) rfl))) (mvT hZ (hw _ (List.mem_of_getElem? (i := 29) rfl))) (by decide) (backOf (W := 1) (own_pos_rm l Z a0 hw [] x3  T212.heap n0 Z212 ) hZ (hw _ (List.mem_of_getElem? (i := 29) rfl)) (hw _ (List.mem_of_getElem? (i := 2) rfl)) (by decide) (by decide)) (g := (mkF m 110 #[.val (.long x0), .second, .val (.long x1), .second, .val (.long x2), .second, .val (.long x3), .second, .val (.int x4), .val (.int x5), .val (.int (4 : Int32)), .val (.ref b_199), .val (.ref b_200), .val (.ref b203), .val (.int ((((0 : Int32) + (own_pos_fn x0)) + (own_pos_fn x1)) + (own_pos_fn x2)))] [(.long x3), (.int ((((0 : Int32) + (own_pos_fn x0)) + (own_pos_fn x1)) + (own_pos_fn x2)))])) rfl (by rw [hml]; rfl) (argsL := [(.long x3)]) (rest := [(.int ((((0 : Int32) + (own_pos_fn x0)) + (own_pos_fn x1)) + (own_pos_fn x2)))]) (lenOf pd__J_I rfl) rfl (by show 2 * 0 + _ ≤ _; exact Nat.le_of_eq rfl) (hb hby at_110) (fun _ _ => ⟨rfl, e221, (by decide : 3 + 0 ≤ _), (by decide : 12 + 0 ≤ _)⟩)
    dsimp only [Pt.U, Pt.locs, Pt.cells, Pt.slots] at X223 l223 y223 z223 st223 hQ223
    subst l223 y223 z223
    obtain ⟨rfl, N223q, e223⟩ := hQ223
    have N223 := Fr.app N221 N223q
    refine Goes.step (B := (T223.setTop (mkF m 113 #[.val (.long x0), .second, .val (.long x1), .second, .val (.long x2), .second, .val (.long x3), .second, .val (.int x4), .val (.int x5), .val (.int (4 : Int32)), .val (.ref b_199), .val (.ref b_200), .val (.ref b203), .val (.int ((((0 : Int32) + (own_pos_fn x0)) + (own_pos_fn x1)) + (own_pos_fn x2)))] [(.int (own_pos_fn x3)), (.int ((((0 : Int32) + (own_pos_fn x0)) + (own_pos_fn x1)) + (own_pos_fn x2)))]))) (fun _ k => st223 _ k) ?_
    refine Goes.step (B := (T223.setTop (mkF m 114 #[.val (.long x0), .second, .val (.long x1), .second, .val (.long x2), .second, .val (.long x3), .second, .val (.int x4), .val (.int x5), .val (.int (4 : Int32)), .val (.ref b_199), .val (.ref b_200), .val (.ref b203), .val (.int ((((0 : Int32) + (own_pos_fn x0)) + (own_pos_fn x1)) + (own_pos_fn x2)))] [(.int (((((0 : Int32) + (own_pos_fn x0)) + (own_pos_fn x1)) + (own_pos_fn x2)) + (own_pos_fn x3)))]))) (fun _ k => XS.iadd X223.here hx rfl (hb hby at_113) rfl k) ?_
    refine Goes.step (B := (T223.setTop (mkF m 116 #[.val (.long x0), .second, .val (.long x1), .second, .val (.long x2), .second, .val (.long x3), .second, .val (.int x4), .val (.int x5), .val (.int (4 : Int32)), .val (.ref b_199), .val (.ref b_200), .val (.ref b203), .val (.int (((((0 : Int32) + (own_pos_fn x0)) + (own_pos_fn x1)) + (own_pos_fn x2)) + (own_pos_fn x3)))] []))) (fun _ k => XS.istore X223.here hx rfl (hb hby at_114) rfl (l' := #[.val (.long x0), .second, .val (.long x1), .second, .val (.long x2), .second, .val (.long x3), .second, .val (.int x4), .val (.int x5), .val (.int (4 : Int32)), .val (.ref b_199), .val (.ref b_200), .val (.ref b203), .val (.int (((((0 : Int32) + (own_pos_fn x0)) + (own_pos_fn x1)) + (own_pos_fn x2)) + (own_pos_fn x3)))]) rfl k) ?_
    refine Goes.step (B := (T223.setTop (mkF m 118 #[.val (.long x0), .second, .val (.long x1), .second, .val (.long x2), .second, .val (.long x3), .second, .val (.int x4), .val (.int x5), .val (.int (4 : Int32)), .val (.ref b_199), .val (.ref b_200), .val (.ref b203), .val (.int (((((0 : Int32) + (own_pos_fn x0)) + (own_pos_fn x1)) + (own_pos_fn x2)) + (own_pos_fn x3)))] [(.ref b203)]))) (fun _ k => XS.aload X223.here hx rfl (hb hby at_116) rfl rfl k) ?_
    obtain ⟨cq224, kq224, q224a, q224b, q224c⟩ := isOf hZ e223 p212_0
    obtain ⟨_, _, ⟨T224, L224, k224, n224⟩, -, X224, ⟨Lc224, hQ224, l224, y224, z224⟩, st224⟩ := X223.virtualBack hx (y := (⟨"com/example/focustat/focustat/FocusedTopic", "relevantRetrieved", "()I"⟩ : MethodName)) (z := (⟨"com/example/focustat/focustat/FocusedTopic", "relevantRetrieved", "()I"⟩ : MethodName)) hown (mvT hZ (hw _ (List.mem_of_getElem? (i := 30) rfl))) (mvT hZ (hw _ (List.mem_of_getElem? (i := 31) rfl))) (notFace_of_selects (args := #[]) (mvT hZ (hw _ (List.mem_of_getElem? (i := 33) rfl)))) (mvT hZ (hw _ (List.mem_of_getElem? (i := 33) rfl))) (mvT hZ (hw _ (List.mem_of_getElem? (i := 32) rfl))) (by decide) (backOf (W := 0) (own_rr4_rm l Z a0 hw [] b203 b_199 k1_199 x0 x1 x2 x3 T212.heap n0 Z212 p212_1 f213) hZ (hw _ (List.mem_of_getElem? (i := 34) rfl)) (hw _ (List.mem_of_getElem? (i := 7) rfl)) (by decide) (by decide)) q224a q224c (g := (mkF m 118 #[.val (.long x0), .second, .val (.long x1), .second, .val (.long x2), .second, .val (.long x3), .second, .val (.int x4), .val (.int x5), .val (.int (4 : Int32)), .val (.ref b_199), .val (.ref b_200), .val (.ref b203), .val (.int (((((0 : Int32) + (own_pos_fn x0)) + (own_pos_fn x1)) + (own_pos_fn x2)) + (own_pos_fn x3)))] [(.ref b203)])) rfl (by rw [hml]; rfl) (Steps.refl _) (argsL := []) (rest := []) (lenOf pd___I rfl) rfl (by show 2 * 0 + _ ≤ _; exact Nat.le_of_eq rfl) (hb hby at_118) (fun _ _ => ⟨rfl, e223, (by decide : 3 + 0 ≤ _), (by decide : 12 + 0 ≤ _)⟩)
    dsimp only [Pt.U, Pt.locs, Pt.cells, Pt.slots] at X224 l224 y224 z224 st224 hQ224
    subst l224 y224 z224
    obtain ⟨rfl, N224q, e224⟩ := hQ224
    have N224 := Fr.app N223 N224q
    refine Goes.to (B := (T224.setTop (mkF m 121 #[.val (.long x0), .second, .val (.long x1), .second, .val (.long x2), .second, .val (.long x3), .second, .val (.int x4), .val (.int x5), .val (.int (4 : Int32)), .val (.ref b_199), .val (.ref b_200), .val (.ref b203), .val (.int (((((0 : Int32) + (own_pos_fn x0)) + (own_pos_fn x1)) + (own_pos_fn x2)) + (own_pos_fn x3)))] [(.int (own_rr4_fn x0 x1 x2 x3))]))) st224 ?_
    refine Goes.step (B := (T224.setTop (mkF m 123 #[.val (.long x0), .second, .val (.long x1), .second, .val (.long x2), .second, .val (.long x3), .second, .val (.int x4), .val (.int x5), .val (.int (4 : Int32)), .val (.ref b_199), .val (.ref b_200), .val (.ref b203), .val (.int (((((0 : Int32) + (own_pos_fn x0)) + (own_pos_fn x1)) + (own_pos_fn x2)) + (own_pos_fn x3)))] [(.int (((((0 : Int32) + (own_pos_fn x0)) + (own_pos_fn x1)) + (own_pos_fn x2)) + (own_pos_fn x3))), (.int (own_rr4_fn x0 x1 x2 x3))]))) (fun _ k => XS.iload X224.here hx rfl (hb hby at_121) rfl k) ?_
    have hc225 : (own_rr4_fn x0 x1 x2 x3) = (((((0 : Int32) + (own_pos_fn x0)) + (own_pos_fn x1)) + (own_pos_fn x2)) + (own_pos_fn x3)) := own_t4 x0 x1 x2 x3
    refine Goes.step (B := (T224.setTop (mkF m 126 #[.val (.long x0), .second, .val (.long x1), .second, .val (.long x2), .second, .val (.long x3), .second, .val (.int x4), .val (.int x5), .val (.int (4 : Int32)), .val (.ref b_199), .val (.ref b_200), .val (.ref b203), .val (.int (((((0 : Int32) + (own_pos_fn x0)) + (own_pos_fn x1)) + (own_pos_fn x2)) + (own_pos_fn x3)))] []))) (fun _ k => XS.icmpNo X224.here hx rfl (hb hby at_123) rfl (teq hc225).2 k) ?_
    refine Goes.step (B := (T224.setTop (mkF m 127 #[.val (.long x0), .second, .val (.long x1), .second, .val (.long x2), .second, .val (.long x3), .second, .val (.int x4), .val (.int x5), .val (.int (4 : Int32)), .val (.ref b_199), .val (.ref b_200), .val (.ref b203), .val (.int (((((0 : Int32) + (own_pos_fn x0)) + (own_pos_fn x1)) + (own_pos_fn x2)) + (own_pos_fn x3)))] [(.int (1 : Int32))]))) (fun _ k => XS.iconst X224.here hx rfl (hb hby at_126) k) ?_
    refine Goes.step (B := (T224.setTop (mkF m 131 #[.val (.long x0), .second, .val (.long x1), .second, .val (.long x2), .second, .val (.long x3), .second, .val (.int x4), .val (.int x5), .val (.int (4 : Int32)), .val (.ref b_199), .val (.ref b_200), .val (.ref b203), .val (.int (((((0 : Int32) + (own_pos_fn x0)) + (own_pos_fn x1)) + (own_pos_fn x2)) + (own_pos_fn x3)))] [(.int (1 : Int32))]))) (fun _ k => XS.goto X224.here hx rfl (pc0 := 127) (pc' := 131) rfl (hb hby at_127) (by decide) (by decide) k) ?_
    refine Goes.retN X224 hx hlk (t := .boolean) hrt (by simp) (hb hby at_131) ?_ (by decide) (by decide)
    rw [e224]
    exact ⟨rfl, N224⟩
set_option maxRecDepth 65536 in
set_option maxHeartbeats 40000000 in
theorem comes_1 {Post : Tables → Env → Array Value → State → Outcome → State → Prop} (hpost : ∀ tb e args s v u, (limb_1_1.after args s (.returned v) u = true ∧ limb_1_2.after args s (.returned v) u = true ∧ True) → FrameEnd s (.returned v) u (Jvm.fieldLocs frame_1_writes args s ++ Jvm.arrayLocs frame_1_arrays args s ++ Jvm.staticLocs frame_1_statics s) 16 128 → Post tb e args s (.returned v) u) :
    ArmFor flags0 classFile x code maxLocals ret World_1 tables_1 room_1 Calls_1 rest_1 Pre_1 Post := by
  intro l hfl _ _ p e ha hc hk s m args below hf hA hF happ hP
  obtain ⟨hcalls, hrest, hpre⟩ := hP
  obtain ⟨-, -, -, hnamed, -, -, -, hat⟩ := (Spec.applies_iff hf).mp happ
  obtain ⟨hg, hn⟩ := and_e (Cond.before_iff.mp (show (Jvm.Cond.and given_1 narrow_1).before args s = true from hpre))
  obtain ⟨hg1, hg2⟩ := and_e hg
  obtain ⟨hg3, hg4⟩ := and_e hg2
  obtain ⟨hg5, hg6⟩ := and_e hg4
  obtain ⟨hg7, hg8⟩ := and_e hg6
  obtain ⟨hg9, hg10⟩ := and_e hg8
  obtain ⟨hg11, hg12⟩ := and_e hg10
  obtain ⟨w0, w1, w2, w3, w4, w5, rfl⟩ : ∃ w0 w1 w2 w3 w4 w5 : Value, args = #[w0, w1, w2, w3, w4, w5] := by
    have hs : args.size = 6 := by simpa [Cond.value, given_1] using hg1
    obtain ⟨L⟩ := args
    match L, hs with
    | [w0, w1, w2, w3, w4, w5], _ => exact ⟨w0, w1, w2, w3, w4, w5, rfl⟩
  have hw := fun d (hd : d ∈ tables_1) => atoms_spec (ws := Jvm.Cond.code x code maxLocals ret :: tables_1) hat d (List.mem_cons_of_mem _ hd)
  have hfit : Fit s := fun {y c} hc i hi => by
    obtain ⟨ha, rfl⟩ := Array.getElem?_eq_some_iff.mp hc
    have q := List.all_eq_true.mp ((Array.all_eq_true_iff_forall_mem.mp hF) _ (Array.getElem_mem ha)) i (List.mem_range.mpr hi)
    simpa [Array.getElem?_eq_getElem hi] using q
  obtain ⟨i0, ei0⟩ := isL_v hg3
  obtain rfl : w0 = (.long i0) := Option.some.inj ei0
  obtain ⟨i1, ei1⟩ := isL_v hg5
  obtain rfl : w1 = (.long i1) := Option.some.inj ei1
  obtain ⟨i2, ei2⟩ := isL_v hg7
  obtain rfl : w2 = (.long i2) := Option.some.inj ei2
  obtain ⟨i3, ei3⟩ := isL_v hg9
  obtain rfl : w3 = (.long i3) := Option.some.inj ei3
  obtain ⟨i4, ei4⟩ := is_v hg11
  obtain rfl : w4 = (.int i4) := Option.some.inj ei4
  obtain ⟨i5, ei5⟩ := is_v hg12
  obtain rfl : w5 = (.int i5) := Option.some.inj ei5
  obtain ⟨n, o, h1, h2, h3, _, L, rfl, ⟨hv, N⟩, hq⟩ := own_law_rm l s _ hw tables_1 i0 i1 i2 i3 i4 i5  s.heap s.heap.size (Nat.le_refl _)  p e ha hc hk s m _ below hf ((Spec.applies_iff_loose hf).mp happ).1 ⟨rfl, State.Warmed39.refl s, rfl⟩ trivial
  subst hv
  refine ⟨n, _, h1, h2, h3, hpost _ _ _ _ _ _ ⟨Cond.after_iff.mpr rfl, Cond.after_iff.mpr (eq_i res_at (Term.int_eval (1)) rfl), trivial⟩ ⟨hq.1, hq.2.1, (hq.2.2.sift fun y hy => Or.inr (N y hy)).mono (by decide) (by decide)⟩⟩
theorem main_1_1 : Claimed_1_1 := comes_1 fun _ _ _ _ _ _ h hF => ⟨h.1, hF⟩
theorem main_1_2 : Claimed_1_2 := comes_1 fun _ _ _ _ _ _ h hF => ⟨h.2.1, hF⟩
end Jvm.Pilot.@@N@@
namespace Jvm.Pilot.@@N@@
open Jvm Jvm.ClassFile Sem Op Lib Jvm.Free Jvm.Stand Jvm.Pilot.@@N@@.Jvm.D
/-! MADE BY PROGRAM (witnessworld.py) out of the Statement's table words and the real class files: 12 classes; the members and pool entries that the words name. The judged class is class 1, her method 3. -/
namespace start1
open Jvm.ClassFile
def u (s : String) : CpInfo := .utf8 (stringToUtf16 s)
/-- a pool by its gaps: so many unusable entries, then the entry; so many at the end -/
def gap : Nat → List CpInfo → List CpInfo
  | 0, r => r
  | n + 1, r => .unusable :: gap n r
def poolList (es : List (Nat × CpInfo)) (last : Nat) : List CpInfo := es.foldr (fun e r => gap e.1 (e.2 :: r)) (gap last [])
def pool (es : List (Nat × CpInfo)) (last : Nat) : Array CpInfo := ⟨poolList es last⟩
def fileOf (pool : Array CpInfo) (this : Nat) (attrs : Array Attribute := #[]) (ms : Array MethodInfo := #[]) (fl : Nat := 33) (sup : Nat := 0) (ifs : Array Nat := #[]) (fds : Array FieldInfo := #[]) : ClassFile where
  minorVersion := 0
  majorVersion := 65
  constantPool := pool
  accessFlags := fl
  thisClass := this
  superClass := sup
  interfaces := ifs
  fields := fds
  methods := ms
  attributes := attrs
def plain (name : String) (sup : Option ClassId) : Class where
  name := name
  kind := .ordinary
  loader := none
  accessFlags := 33
  super := sup
  interfaces := #[]
  cf := none
  fields := #[]
  methods := #[]
  instanceTypes := #[]
  staticTypes := #[]
  resolved := #[]
  callSites := []
  init := .initialized
  statics := none
  mirror := none

def pool0 : Array CpInfo := pool [(5, u "<init>"), (0, u "()V"), (1, .class_ 10), (1, u "java/lang/Object")] 113

def k0c0 : Code := { maxStack := 0, maxLocals := 1, code := object_method_1_code, exceptionTable := #[], attributes := #[] }
def k0m0 : Method := { name := "<init>", desc := "()V", sig := { parameters := [], returnType := none }, accessFlags := 1, code := some k0c0 }
/-- java/lang/Object -/
def k0 : Class := { plain "java/lang/Object" none with
  accessFlags := 33
  interfaces := #[]
  cf := some (fileOf pool0 8 #[] #[{ accessFlags := 1, nameIndex := 5, descriptorIndex := 6, attributes := #[] }] 33 0 #[] #[])
  fields := #[]
  methods := #[k0m0]
  instanceTypes := #[]
  staticTypes := #[]
  resolved := Array.replicate 124 none
  statics := none }

def pool1 : Array CpInfo := pool [(2, .class_ 4), (1, u "java/lang/Object"), (0, u "<init>"), (0, u "()V"), (0, .methodref 8 9), (0, .class_ 10), (0, .nameAndType 11 12), (0, u "com/example/focustat/focustat/FocusedTopicRelevantRetrievedPinLaw"), (0, u "build"), (0, u "(IJJJJ)[J"), (0, .class_ 14), (0, u "com/example/focustat/focustat/FocusedTopic"), (0, .methodref 13 16), (0, .nameAndType 5 17), (0, u "([J[JJI)V"), (0, .methodref 8 19), (0, .nameAndType 20 21), (0, u "pos"), (0, u "(J)I"), (0, .methodref 13 23), (0, .nameAndType 24 25), (0, u "relevantRetrieved"), (0, u "()I"), (3, u "law"), (0, u "(JJJJII)Z")] 4

def k1m0 : Method := { name := "<init>", desc := "()V", sig := { parameters := [], returnType := none }, accessFlags := 1, code := none }
def k1c1 : Code := { maxStack := 5, maxLocals := 9, code := method_2_code, exceptionTable := #[], attributes := #[] }
def k1m1 : Method := { name := "build", desc := "(IJJJJ)[J", sig := { parameters := [.int, .long, .long, .long, .long], returnType := some (.array .long) }, accessFlags := 10, code := some k1c1 }
def k1c2 : Code := { maxStack := 4, maxLocals := 2, code := method_3_code, exceptionTable := #[], attributes := #[] }
def k1m2 : Method := { name := "pos", desc := "(J)I", sig := { parameters := [.long], returnType := some .int }, accessFlags := 10, code := some k1c2 }
def k1c3 : Code := { maxStack := 9, maxLocals := 15, code := code, exceptionTable := #[], attributes := #[] }
def k1m3 : Method := { name := "law", desc := "(JJJJII)Z", sig := { parameters := [.long, .long, .long, .long, .int, .int], returnType := some .boolean }, accessFlags := 9, code := some k1c3 }
/-- com/example/focustat/focustat/FocusedTopicRelevantRetrievedPinLaw -/
def k1 : Class := { plain "com/example/focustat/focustat/FocusedTopicRelevantRetrievedPinLaw" (some 0) with
  accessFlags := 49
  interfaces := #[]
  cf := some (fileOf pool1 8 #[] #[{ accessFlags := 1, nameIndex := 5, descriptorIndex := 6, attributes := #[] }, { accessFlags := 10, nameIndex := 11, descriptorIndex := 12, attributes := #[] }, { accessFlags := 10, nameIndex := 20, descriptorIndex := 21, attributes := #[] }, { accessFlags := 9, nameIndex := 29, descriptorIndex := 30, attributes := #[] }] 49 2 #[] #[])
  fields := #[]
  methods := #[k1m0, k1m1, k1m2, k1m3]
  instanceTypes := #[]
  staticTypes := #[]
  resolved := Array.replicate 35 none
  statics := none }

def pool2 : Array CpInfo := pool [(1, .methodref 2 3), (0, .class_ 4), (0, .nameAndType 5 6), (0, u "java/lang/Object"), (0, u "<init>"), (0, u "()V"), (0, .class_ 8), (0, u "java/lang/Record")] 13

def k2c0 : Code := { maxStack := 1, maxLocals := 1, code := jdk_30_method_1_code, exceptionTable := #[], attributes := #[] }
def k2m0 : Method := { name := "<init>", desc := "()V", sig := { parameters := [], returnType := none }, accessFlags := 4, code := some k2c0 }
/-- java/lang/Record -/
def k2 : Class := { plain "java/lang/Record" (some 0) with
  accessFlags := 1057
  interfaces := #[]
  cf := some (fileOf pool2 7 #[] #[{ accessFlags := 4, nameIndex := 5, descriptorIndex := 6, attributes := #[] }] 1057 2 #[] #[])
  fields := #[]
  methods := #[k2m0]
  instanceTypes := #[]
  staticTypes := #[]
  resolved := Array.replicate 22 none
  statics := none }

def pool3 : Array CpInfo := pool [(1, .methodref 2 3), (0, .class_ 4), (0, .nameAndType 5 6), (0, u "java/lang/Record"), (0, u "<init>"), (0, u "()V"), (0, .fieldref 8 9), (0, .class_ 10), (0, .nameAndType 11 12), (0, u "com/example/focustat/focustat/FocusedTopic"), (0, u "covered"), (0, u "[J"), (0, .fieldref 8 14), (0, .nameAndType 15 12), (0, u "lengths"), (0, .fieldref 8 17), (0, .nameAndType 18 19), (0, u "highlighted"), (0, u "J"), (0, .fieldref 8 21), (0, .nameAndType 22 23), (0, u "relevantCount"), (0, u "I"), (30, u "([J[JJI)V"), (4, u "()I"), (0, u "relevantRetrieved")] 36

def k3c0 : Code := { maxStack := 3, maxLocals := 6, code := prog_13_method_1_code, exceptionTable := #[], attributes := #[] }
def k3m0 : Method := { name := "<init>", desc := "([J[JJI)V", sig := { parameters := [(.array .long), (.array .long), .long, .int], returnType := none }, accessFlags := 0, code := some k3c0 }
def k3c1 : Code := { maxStack := 4, maxLocals := 7, code := prog_13_method_3_code, exceptionTable := #[], attributes := #[] }
def k3m1 : Method := { name := "relevantRetrieved", desc := "()I", sig := { parameters := [], returnType := some .int }, accessFlags := 0, code := some k3c1 }
/-- com/example/focustat/focustat/FocusedTopic -/
def k3 : Class := { plain "com/example/focustat/focustat/FocusedTopic" (some 2) with
  accessFlags := 48
  interfaces := #[]
  cf := some (fileOf pool3 8 #[] #[{ accessFlags := 0, nameIndex := 5, descriptorIndex := 54, attributes := #[] }, { accessFlags := 0, nameIndex := 60, descriptorIndex := 59, attributes := #[] }] 48 2 #[] #[{ accessFlags := 18, nameIndex := 11, descriptorIndex := 12, attributes := #[] }, { accessFlags := 18, nameIndex := 15, descriptorIndex := 12, attributes := #[] }, { accessFlags := 18, nameIndex := 18, descriptorIndex := 19, attributes := #[] }, { accessFlags := 18, nameIndex := 22, descriptorIndex := 23, attributes := #[] }])
  fields := #[{ name := "covered", type := (.array .long), accessFlags := 18, slot := 0, constantValue := 0 }, { name := "lengths", type := (.array .long), accessFlags := 18, slot := 1, constantValue := 0 }, { name := "highlighted", type := .long, accessFlags := 18, slot := 2, constantValue := 0 }, { name := "relevantCount", type := .int, accessFlags := 18, slot := 3, constantValue := 0 }]
  methods := #[k3m0, k3m1]
  instanceTypes := #[(.array .long), (.array .long), .long, .int]
  staticTypes := #[]
  resolved := Array.replicate 97 none
  statics := none }

def pool4 : Array CpInfo := pool [(1, u "java/lang/Cloneable"), (0, .class_ 1), (0, u "java/lang/Object"), (0, .class_ 3)] 3

/-- java/lang/Cloneable -/
def k4 : Class := { plain "java/lang/Cloneable" (some 0) with
  accessFlags := 1537
  interfaces := #[]
  cf := some (fileOf pool4 2 #[] #[] 1537 4 #[] #[])
  fields := #[]
  methods := #[]
  instanceTypes := #[]
  staticTypes := #[]
  resolved := Array.replicate 8 none
  statics := none }

def pool5 : Array CpInfo := pool [(1, u "java/io/Serializable"), (0, .class_ 1), (0, u "java/lang/Object"), (0, .class_ 3)] 3

/-- java/io/Serializable -/
def k5 : Class := { plain "java/io/Serializable" (some 0) with
  accessFlags := 1537
  interfaces := #[]
  cf := some (fileOf pool5 2 #[] #[] 1537 4 #[] #[])
  fields := #[]
  methods := #[]
  instanceTypes := #[]
  staticTypes := #[]
  resolved := Array.replicate 8 none
  statics := none }

/-- the primitive byte -/
def k6 : Class := { plain "byte" none with kind := .primitive 'B', accessFlags := 0x411 }
/-- [B -/
def k7 : Class := { plain "[B" (some 0) with kind := .array 6 .byte, interfaces := #[4, 5], accessFlags := 1041 }

/-- the primitive int -/
def k8 : Class := { plain "int" none with kind := .primitive 'I', accessFlags := 0x411 }
/-- [I -/
def k9 : Class := { plain "[I" (some 0) with kind := .array 8 .int, interfaces := #[4, 5], accessFlags := 1041 }

/-- the primitive long -/
def k10 : Class := { plain "long" none with kind := .primitive 'J', accessFlags := 0x411 }
/-- [J -/
def k11 : Class := { plain "[J" (some 0) with kind := .array 10 .long, interfaces := #[4, 5], accessFlags := 1041 }

def heap : Heap := #[]
def classes : Array Class := #[k0, k1, k2, k3, k4, k5, k6, k7, k8, k9, k10, k11]
def interned : List (Array UInt16 × Addr) := []
def slotsUsed : Nat := 0
def theMethod : MethodId := ⟨1, 3⟩
def args0 : Array Value := #[.long 65, .long 3, .long 2, .long 1, .int 3, .int 7]
def aboutOver (below : List Frame) : State where
  vm := { classes := classes, interned := interned.toArray }
  heap := heap
  slotsUsed := slotsUsed
  threads := #[{ frames := .invoking theMethod args0 :: below }]
def below0 : List Frame := [.native { method := ⟨0, 0⟩, args := #[] }]
def about1 : State := aboutOver below0
def p0 : Program := .bare "" "" ""
def e0 : Env := launch0.env 0 0 0
theorem w_frames : about1.frames = Frame.invoking theMethod args0 :: below0 := rfl
set_option maxRecDepth 65536 in
theorem w_args : argsFit about1.vm theMethod args0 = true := by decide +kernel
set_option maxRecDepth 65536 in
theorem w_heap : heapFits about1 = true := by decide +kernel
set_option maxRecDepth 65536 in
theorem w_runnable : about1.curStatus? = some .runnable := by decide +kernel
set_option maxRecDepth 65536 in
theorem w_alone : about1.alone = true := by decide +kernel
set_option maxRecDepth 65536 in
theorem w_named : about1.methodNamed? x = some theMethod := by decide +kernel
set_option maxRecDepth 65536 in
theorem w_hears : about1.hears theMethod below0 = true := by decide +kernel
set_option maxRecDepth 65536 in
theorem w_ripe : about1.ripe theMethod args0 below0 = true := by decide +kernel
theorem w_running : about1.status = .running := rfl
set_option maxRecDepth 65536 in
theorem w_room : about1.hasRoom e0.platform room_1 = true :=
  launch0.hasRoom_least _ room_1 (by decide +kernel) (by decide +kernel) (by decide +kernel) (by decide +kernel) (by decide +kernel) (by decide +kernel)
theorem allAtoms_all (ts : List Jvm.Cond) (a : Array Jvm.Value) (st : Jvm.State) : (allAtoms ts).before a st = ts.all (fun c => c.before a st) := by
  induction ts with
  | nil => rfl
  | cons c t ih =>
    show (Jvm.Cond.and c (allAtoms t)).before a st = _
    rw [Jvm.Cond.before_and, ih, List.all_cons]
def words1 : List Jvm.Cond := Jvm.Cond.code x code maxLocals ret :: tables_1
/-- a 'code' word, met by the world's own term for the bytes: nothing is compared byte by byte -/
theorem code_word {y : MethodName} {bytes : ByteArray} {mx : Nat} {rt : Option FieldType} {a : Array Value} {s : State} {m : MethodId} {meth : Method} {c : Code} (h1 : s.methodNamed? y = some m) (h2 : s.vm.method? m = some meth) (h3 : meth.code = some c) (h4 : c.code = bytes)
    (h5 : (c.maxLocals == mx && c.exceptionTable.isEmpty && decide (c.maxStack ≤ mostOperands) && decide (meth.sig.returnType = rt) && !meth.locks && decide (parseMethodDescriptor y.desc = some meth.sig)) = true) : (Jvm.Cond.code y bytes mx rt).before a s = true := by
  simp only [Bool.and_eq_true, beq_iff_eq, Bool.not_eq_true', decide_eq_true_eq] at h5
  obtain ⟨⟨⟨⟨⟨g1, g2⟩, g3⟩, g4⟩, g5⟩, g6⟩ := h5
  simp [Cond.before, Cond.holds, Cond.value, h1, h2, h3, h4, g1, g2, g3, g4, g5, g6]
def isCode : Jvm.Cond → Bool
  | .code _ _ _ _ => true
  | _ => false
theorem all_split {L : List Jvm.Cond} {P : Jvm.Cond → Bool} (h1 : L.all (fun c => isCode c || P c) = true) (h2 : ∀ c ∈ L.filter isCode, P c = true) : L.all P = true := by
  refine List.all_eq_true.mpr fun c hc => ?_
  have h := List.all_eq_true.mp h1 c hc
  rcases Bool.eq_false_or_eq_true (isCode c) with hi | hi
  · exact h2 c (List.mem_filter.mpr ⟨hc, hi⟩)
  · simpa [hi] using h
set_option maxRecDepth 65536 in
theorem w_c0 : (Jvm.Cond.code x code maxLocals ret).before args0 about1 = true := code_word (m := ⟨1, 3⟩) (meth := k1m3) (c := k1c3) (by decide +kernel) rfl rfl rfl (by decide +kernel)
set_option maxRecDepth 65536 in
theorem w_c1 : (Jvm.Cond.code ({ cls := "com/example/focustat/focustat/FocusedTopicRelevantRetrievedPinLaw", name := "build", desc := "(IJJJJ)[J" } : Jvm.MethodName) method_2_code (9 : Nat) (Option.some (Jvm.ClassFile.FieldType.array Jvm.ClassFile.FieldType.long))).before args0 about1 = true := code_word (m := ⟨1, 1⟩) (meth := k1m1) (c := k1c1) (by decide +kernel) rfl rfl rfl (by decide +kernel)
set_option maxRecDepth 65536 in
theorem w_c2 : (Jvm.Cond.code ({ cls := "com/example/focustat/focustat/FocusedTopic", name := "<init>", desc := "([J[JJI)V" } : Jvm.MethodName) prog_13_method_1_code (6 : Nat) (Option.none : Option Jvm.ClassFile.FieldType)).before args0 about1 = true := code_word (m := ⟨3, 0⟩) (meth := k3m0) (c := k3c0) (by decide +kernel) rfl rfl rfl (by decide +kernel)
set_option maxRecDepth 65536 in
theorem w_c3 : (Jvm.Cond.code ({ cls := "java/lang/Record", name := "<init>", desc := "()V" } : Jvm.MethodName) jdk_30_method_1_code (1 : Nat) (Option.none : Option Jvm.ClassFile.FieldType)).before args0 about1 = true := code_word (m := ⟨2, 0⟩) (meth := k2m0) (c := k2c0) (by decide +kernel) rfl rfl rfl (by decide +kernel)
set_option maxRecDepth 65536 in
theorem w_c4 : (Jvm.Cond.code ({ cls := "java/lang/Object", name := "<init>", desc := "()V" } : Jvm.MethodName) object_method_1_code (1 : Nat) (Option.none : Option Jvm.ClassFile.FieldType)).before args0 about1 = true := code_word (m := ⟨0, 0⟩) (meth := k0m0) (c := k0c0) (by decide +kernel) rfl rfl rfl (by decide +kernel)
set_option maxRecDepth 65536 in
theorem w_c5 : (Jvm.Cond.code ({ cls := "com/example/focustat/focustat/FocusedTopicRelevantRetrievedPinLaw", name := "pos", desc := "(J)I" } : Jvm.MethodName) method_3_code (2 : Nat) (Option.some Jvm.ClassFile.FieldType.int)).before args0 about1 = true := code_word (m := ⟨1, 2⟩) (meth := k1m2) (c := k1c2) (by decide +kernel) rfl rfl rfl (by decide +kernel)
set_option maxRecDepth 65536 in
theorem w_c6 : (Jvm.Cond.code ({ cls := "com/example/focustat/focustat/FocusedTopic", name := "relevantRetrieved", desc := "()I" } : Jvm.MethodName) prog_13_method_3_code (7 : Nat) (Option.some Jvm.ClassFile.FieldType.int)).before args0 about1 = true := code_word (m := ⟨3, 1⟩) (meth := k3m1) (c := k3c1) (by decide +kernel) rfl rfl rfl (by decide +kernel)
def codes1 : List Jvm.Cond := [Jvm.Cond.code x code maxLocals ret, Jvm.Cond.code ({ cls := "com/example/focustat/focustat/FocusedTopicRelevantRetrievedPinLaw", name := "build", desc := "(IJJJJ)[J" } : Jvm.MethodName) method_2_code (9 : Nat) (Option.some (Jvm.ClassFile.FieldType.array Jvm.ClassFile.FieldType.long)), Jvm.Cond.code ({ cls := "com/example/focustat/focustat/FocusedTopic", name := "<init>", desc := "([J[JJI)V" } : Jvm.MethodName) prog_13_method_1_code (6 : Nat) (Option.none : Option Jvm.ClassFile.FieldType), Jvm.Cond.code ({ cls := "java/lang/Record", name := "<init>", desc := "()V" } : Jvm.MethodName) jdk_30_method_1_code (1 : Nat) (Option.none : Option Jvm.ClassFile.FieldType), Jvm.Cond.code ({ cls := "java/lang/Object", name := "<init>", desc := "()V" } : Jvm.MethodName) object_method_1_code (1 : Nat) (Option.none : Option Jvm.ClassFile.FieldType), Jvm.Cond.code ({ cls := "com/example/focustat/focustat/FocusedTopicRelevantRetrievedPinLaw", name := "pos", desc := "(J)I" } : Jvm.MethodName) method_3_code (2 : Nat) (Option.some Jvm.ClassFile.FieldType.int), Jvm.Cond.code ({ cls := "com/example/focustat/focustat/FocusedTopic", name := "relevantRetrieved", desc := "()I" } : Jvm.MethodName) prog_13_method_3_code (7 : Nat) (Option.some Jvm.ClassFile.FieldType.int)]
set_option maxRecDepth 65536 in
theorem codes_eq : words1.filter isCode = codes1 := rfl
theorem w_codes : ∀ c ∈ words1.filter isCode, c.before args0 about1 = true := by
  rw [codes_eq]
  intro c hc
  simp only [codes1, List.mem_cons, List.not_mem_nil, or_false] at hc
  rcases hc with rfl | rfl | rfl | rfl | rfl | rfl | rfl
  · exact w_c0
  · exact w_c1
  · exact w_c2
  · exact w_c3
  · exact w_c4
  · exact w_c5
  · exact w_c6
set_option maxRecDepth 65536 in
theorem w_t1 : (words1.take 24).all (fun c => isCode c || c.before args0 about1) = true := by decide +kernel
set_option maxRecDepth 65536 in
theorem w_t2 : (words1.drop 24).all (fun c => isCode c || c.before args0 about1) = true := by decide +kernel
theorem w_tables : (allAtoms (Jvm.Cond.code x code maxLocals ret :: tables_1)).before args0 about1 = true := by
  rw [allAtoms_all]
  show words1.all (fun c => c.before args0 about1) = true
  refine all_split ?_ w_codes
  rw [← List.take_append_drop 24 words1, List.all_append, w_t1, w_t2]
  rfl
set_option maxRecDepth 65536 in
theorem w_case : (Jvm.Cond.and given_1 narrow_1).before args0 about1 = true := by decide +kernel
theorem w_applies : (headSpec (Jvm.Cond.code x code maxLocals ret :: tables_1) room_1).applies x e0.platform about1 = true :=
  (Spec.applies_iff w_frames).mpr ⟨w_running, w_runnable, w_alone, w_named, w_hears, w_ripe, w_room, w_tables⟩
theorem atStart : AtStart classFile x code maxLocals ret World_1 tables_1 room_1 Calls_1 rest_1 Pre_1 launch0 p0 e0 about1 theMethod args0 below0 :=
  ⟨lists_1, trivial, launch0.admits_env _ _ _, launch0.least_env, fairChoices_fair.cas, fairChoices_fair.clock, w_frames, w_args, w_heap, w_applies, trivial, trivial, w_case⟩
end start1
theorem witness_1 : WitnessClaimed_1 := ⟨start1.p0, start1.e0, start1.about1, start1.theMethod, start1.args0, start1.below0, start1.atStart⟩
end Jvm.Pilot.@@N@@
