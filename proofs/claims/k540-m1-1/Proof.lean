import JvmDerived
import JvmDerived.Pilot.@@N@@Statement
import JvmDerived.Pilot.@@N@@Code
set_option linter.unusedVariables false
set_option linter.unusedSimpArgs false
namespace Jvm.RoadKit
open Sem ClassFile Op Lib Jvm.Stand Jvm.Free Jvm.LawKit
section Own
variable {p : Program} {l : Launch} {e : Env} {R : Room} {s : State} {m : MethodId} {args : Array Value} {below : List Frame} {meth : Method} {c : Code} {T : State} {locs : List Loc} {cells slots : Nat}
theorem retI (X : Stand p l e R s m args below meth c T locs cells slots) (hx : p.tables.exec = Jvm.exec) {pc : Nat} {Ls : Array Slot} {z : Int32} {rest : List Value} (hret : meth.sig.returnType = some .int) (hd : decode c.code pc = .ok (.ireturn, 1)) {fs : List Frame}
    (hl : ∀ (f : JFrame) (acts : List Action), f.method = m → f.locked = none → f.entered = [] → (doReturn e (T.setTop f) acts (some (.int z))).1 = T.setFrames fs) : Steps p.tables e below (T.setTop (mkF m pc Ls (.int z :: rest))) (T.setFrames fs) :=
  retOut X hx hret rfl (Or.inl ⟨rfl, Or.inl rfl, z, rfl⟩) hd hl
/-- the walk from S on ends in a return of which Q holds -/
def Goes (p : Program) (e : Env) (below : List Frame) (s : State) (k n : Nat) (Q : Option Value → Heap → List Loc → Prop) (S : State) : Prop :=
  ∃ t o, Steps p.tables e below S t ∧ t.status = .running ∧ Ended t below o ∧ ∃ v L, o = .returned v ∧ Q v t.heap L ∧ FrameEnd s o t L k n
variable {kc kn : Nat} {Q : Option Value → Heap → List Loc → Prop}
theorem Goes.step {A B : State} (h : ∀ t, Steps p.tables e below B t → Steps p.tables e below A t) (g : Goes p e below s kc kn Q B) : Goes p e below s kc kn Q A := by
  obtain ⟨t, o, h1, h2⟩ := g; exact ⟨t, o, h t h1, h2⟩
theorem Goes.to {A B : State} (h : Steps p.tables e below A B) (g : Goes p e below s kc kn Q B) : Goes p e below s kc kn Q A := by
  obtain ⟨t, o, h1, h2⟩ := g; exact ⟨t, o, h.trans h1, h2⟩
theorem Goes.out (X : Stand p l e R s m args below meth c T locs cells slots) {g : JFrame} {v : Option Value} (hlk : meth.locks = false) (hv : meth.sig.returnType = none → v = none)
    (hs : ∀ fs : List Frame, (∀ (f : JFrame) (acts : List Action), f.method = m → f.locked = none → f.entered = [] → (doReturn e (T.setTop f) acts v).1 = T.setFrames fs) → Steps p.tables e below (T.setTop g) (T.setFrames fs))
    (hq : Q v T.heap locs) (hk : cells ≤ kc) (hn : slots ≤ kn) : Goes p e below s kc kn Q (T.setTop g) := by
  obtain ⟨fs, hr, hrun, hended, hW, hsame⟩ := X.leave (v := v) hv hlk
  exact ⟨_, _, hs fs hr, hrun, hended, v, locs, rfl, hq, ⟨_, rfl⟩, hW, hsame.mono hk hn⟩
theorem Goes.retI (X : Stand p l e R s m args below meth c T locs cells slots) (hx : p.tables.exec = Jvm.exec) (hlk : meth.locks = false) {pc : Nat} {Ls : Array Slot} {z : Int32} {rest : List Value} (hret : meth.sig.returnType = some .int) (hd : decode c.code pc = .ok (.ireturn, 1))
    (hq : Q (some (.int z)) T.heap locs) (hk : cells ≤ kc) (hn : slots ≤ kn) : Goes p e below s kc kn Q (T.setTop (mkF m pc Ls (.int z :: rest))) :=
  Goes.out X hlk (fun h => by rw [hret] at h; cases h) (fun fs hr => Jvm.RoadKit.retI X hx hret hd hr) hq hk hn
theorem Goes.retN (X : Stand p l e R s m args below meth c T locs cells slots) (hx : p.tables.exec = Jvm.exec) (hlk : meth.locks = false) {pc : Nat} {Ls : Array Slot} {z : Int32} {t : FieldType} {rest : List Value} (hret : meth.sig.returnType = some t) (ht : t = .boolean ∨ t = .byte ∨ t = .char ∨ t = .short) (hd : decode c.code pc = .ok (.ireturn, 1))
    (hq : Q (some (.int (nar t z))) T.heap locs) (hk : cells ≤ kc) (hn : slots ≤ kn) : Goes p e below s kc kn Q (T.setTop (mkF m pc Ls (.int z :: rest))) :=
  Goes.out X hlk (fun h => by rw [hret] at h; cases h) (fun fs hr => Jvm.RoadKit.retN X hx hret ht hd hr) hq hk hn
theorem Goes.retJ (X : Stand p l e R s m args below meth c T locs cells slots) (hx : p.tables.exec = Jvm.exec) (hlk : meth.locks = false) {pc : Nat} {Ls : Array Slot} {z : Int64} {rest : List Value} (hret : meth.sig.returnType = some .long) (hd : decode c.code pc = .ok (.lreturn, 1))
    (hq : Q (some (.long z)) T.heap locs) (hk : cells ≤ kc) (hn : slots ≤ kn) : Goes p e below s kc kn Q (T.setTop (mkF m pc Ls (.long z :: rest))) :=
  Goes.out X hlk (fun h => by rw [hret] at h; cases h) (fun fs hr => retOut X hx hret rfl (Or.inr (Or.inl ⟨rfl, rfl, z, rfl⟩)) hd hr) hq hk hn
theorem Goes.retR (X : Stand p l e R s m args below meth c T locs cells slots) (hx : p.tables.exec = Jvm.exec) (hlk : meth.locks = false) {pc : Nat} {Ls : Array Slot} {w : Value} {t : FieldType} {rest : List Value} (hret : meth.sig.returnType = some t) (ht : t.isReference = true) (hw : w.isRef = true) (hn' : narrow t w = w) (hd : decode c.code pc = .ok (.areturn, 1))
    (hq : Q (some w) T.heap locs) (hk : cells ≤ kc) (hn : slots ≤ kn) : Goes p e below s kc kn Q (T.setTop (mkF m pc Ls (w :: rest))) :=
  Goes.out X hlk (fun h => by rw [hret] at h; cases h) (fun fs hr => retOut X hx hret hn' (Or.inr (Or.inr (Or.inr (Or.inr ⟨rfl, ht, hw⟩)))) hd hr) hq hk hn
theorem Goes.retV (X : Stand p l e R s m args below meth c T locs cells slots) (hx : p.tables.exec = Jvm.exec) (hlk : meth.locks = false) {pc : Nat} {Ls : Array Slot} (hret : meth.sig.returnType = none) (hd : decode c.code pc = .ok (.return_, 1))
    (hq : Q none T.heap locs) (hk : cells ≤ kc) (hn : slots ≤ kn) : Goes p e below s kc kn Q (T.setTop (mkF m pc Ls [])) :=
  Goes.out X hlk (fun _ => rfl) (fun fs hr => X.returnOut hx hret hd hr) hq hk hn
theorem Goes.enter {s₁ : State} {maxL : Nat} {g : JFrame} (h : entryFrame m args maxL = g) (k : Goes p e below s kc kn Q (s₁.setTop g)) :
    ∃ t o, Steps p.tables e below (s₁.setTop (entryFrame m args maxL)) t ∧ t.status = .running ∧ Ended t below o ∧ ∃ v L, o = .returned v ∧ Q v t.heap L ∧ FrameEnd s o t L kc kn := by rw [h]; exact k
theorem nm0 {b : Addr} : b ∉ ([] : List Addr) := List.not_mem_nil
theorem nm1 {b a : Addr} (h : b ≠ a) : b ∉ [a] := fun q => h (List.mem_singleton.mp q)
theorem nm2 {b a a' : Addr} (h : b ≠ a) (h' : b ≠ a') : b ∉ [a, a'] := fun q => (List.mem_cons.mp q).elim h (fun q => h' (List.mem_singleton.mp q))
theorem nm3 {b a a' a'' : Addr} (h : b ≠ a) (h' : b ≠ a') (h'' : b ≠ a'') : b ∉ [a, a', a''] := fun q => (List.mem_cons.mp q).elim h (fun q => nm2 h' h'' q)
theorem Sta.keepN {Z : State} {h h' : Heap} {C n d : String} {v : Value} {ws : List Addr} (F : Sta Z h C n d v) (K : Keep h h' ws) (hn : ∀ a ∈ ws, ∀ cell : Cell, h[a]? = some cell → cell.vm.isStatics = false) : Sta Z h' C n d v := by
  obtain ⟨cf, i, k, f, st, cell, h1, h2, h3, h4, h5, h6, r⟩ := F
  exact ⟨cf, i, k, f, st, cell, h1, h2, h3, h4, K.2.1 st cell h5 (fun q => by have := hn st q cell h5; rw [h6] at this; cases this), h6, r⟩
theorem Exa.plainN {Z : State} {h : Heap} {a : Addr} {C : String} (E : Exa Z h a C) : ∀ cell : Cell, h[a]? = some cell → cell.vm.isStatics = false := fun cell q => by
  obtain ⟨c, k, h1, h2, h3, h4, h5⟩ := E; cases h1.symm.trans q; exact h4
theorem Arv.plainN {Z : State} {h : Heap} {a : Addr} {k : ClassId} {ty : FieldType} {z : Int32} {vs : List Value} {d : Value} (A : Arv Z h a k ty z vs d) : ∀ cell : Cell, h[a]? = some cell → cell.vm.isStatics = false := fun cell q => by
  obtain ⟨c, A, r⟩ := A; cases A.1.symm.trans q; exact A.plain
end Own
end Jvm.RoadKit
namespace Jvm.Pilot.@@N@@
open Jvm Jvm.ClassFile Sem Op Lib Jvm.Free Jvm.Stand Jvm.LawKit Jvm.RoadKit Bundle Jvm.Pilot.@@N@@.Jvm.D
theorem d_jdk_29_method_70_code_0 : decode jdk_29_method_70_code 0 = .ok (.lload_n 0, 1) := by decide +kernel
theorem d_jdk_29_method_70_code_1 : decode jdk_29_method_70_code 1 = .ok (.lload_n 2, 1) := by decide +kernel
theorem d_jdk_29_method_70_code_2 : decode jdk_29_method_70_code 2 = .ok (.lcmp, 1) := by decide +kernel
theorem d_jdk_29_method_70_code_3 : decode jdk_29_method_70_code 3 = .ok (.ifCond .gt 7, 3) := by decide +kernel
theorem d_jdk_29_method_70_code_10 : decode jdk_29_method_70_code 10 = .ok (.lload_n 2, 1) := by decide +kernel
theorem d_jdk_29_method_70_code_11 : decode jdk_29_method_70_code 11 = .ok (.lreturn, 1) := by decide +kernel
theorem d_jdk_29_method_70_code_6 : decode jdk_29_method_70_code 6 = .ok (.lload_n 0, 1) := by decide +kernel
theorem d_jdk_29_method_70_code_7 : decode jdk_29_method_70_code 7 = .ok (.goto 4, 3) := by decide +kernel
def own_min_fn (u0 : Int64) (u1 : Int64) : Int64 := (if u1 < u0 then u1 else u0)
def own_min_Q (Z : State) (u0 : Int64) (u1 : Int64)  (h0 : Heap) (n0 : Nat) (v : Option Value) (h : Heap) (L : List Loc) : Prop := v = some (.long (own_min_fn u0 u1)) ∧ Fr n0 L ∧ h = h0
theorem own_min_ef (m : MethodId) (u0 : Int64) (u1 : Int64) : entryFrame m #[(.long u0), (.long u1)] 4 = mkF m 0 #[.val (.long u0), .second, .val (.long u1), .second] [] := by first | (simp [entryFrame, mkF, argsToLocals, Value.category]; done) | rfl
set_option maxRecDepth 65536 in
set_option maxHeartbeats 40000000 in
theorem own_min_rm (l : Launch) (Z : State) (a0 : Array Value) (hw : ∀ d ∈ tables_1, d.before a0 Z = true) (ws : List Jvm.Cond) (u0 : Int64) (u1 : Int64)  (h0 : Heap) (n0 : Nat) (Z0 : n0 ≤ h0.size)  :
    MetFree l (⟨"java/lang/Math", "min", "(JJ)J"⟩ : MethodName) (head1 (Jvm.Cond.code (⟨"java/lang/Math", "min", "(JJ)J"⟩ : MethodName) jdk_29_method_70_code 4 (some .long) :: ws) ({ frames := 0, cells := 0, slots := 0, locals := 0 } : Room)) (fun a U => a = #[(.long u0), (.long u1)] ∧ Z.Warmed39 U.vm ∧ U.heap = h0) (fun _ _ _ _ _ => True) (fun _ U o U' => ∃ v L, o = .returned v ∧ own_min_Q Z u0 u1 h0 n0 v U'.heap L ∧ FrameEnd U o U' L ({ frames := 0, cells := 0, slots := 0, locals := 0 } : Room).cells ({ frames := 0, cells := 0, slots := 0, locals := 0 } : Room).slots) := by
  refine MetFree.of_bodySF (Jvm.Free.JP.mathPlain rfl (by decide +kernel)) hisR ?_
  intro p e s m args below meth c s₁ Bd hml0 hP hK
  obtain ⟨rfl, hZ, hh⟩ := hP
  have hx := Bd.exec
  have hby := Bd.bytes
  have hml : c.maxLocals = 4 := hml0
  have hown : s.vm.findClass "java/lang/Math" = some m.cls := findClass_of_methodNamed Bd.named
  have hnm := (name_of_methodNamed Bd.named Bd.method).1
  have hlk : meth.locks = false := BodyLoose.notSynchronized Bd
  have hrt := Bd.returns
  have X0 : Stand p l e ({ frames := 0, cells := 0, slots := 0, locals := 0 } : Room) s m #[(.long u0), (.long u1)] below meth c s₁ [] 0 0 := Stand.of_body Bd
  have e0 : s₁.heap = h0 := by rw [← hh, Bd.state]; rfl
  have N0 := Fr.nil n0
  refine Goes.enter (kc := ({ frames := 0, cells := 0, slots := 0, locals := 0 } : Room).cells) (kn := ({ frames := 0, cells := 0, slots := 0, locals := 0 } : Room).slots) (Q := own_min_Q Z u0 u1 h0 n0) (own_min_ef m u0 u1) ?_
  refine Goes.step (B := (s₁.setTop (mkF m 1 #[.val (.long u0), .second, .val (.long u1), .second] [(.long u0)]))) (fun _ k => XS.lloadN X0.here hx rfl (hb hby d_jdk_29_method_70_code_0) rfl k) ?_
  refine Goes.step (B := (s₁.setTop (mkF m 2 #[.val (.long u0), .second, .val (.long u1), .second] [(.long u1), (.long u0)]))) (fun _ k => XS.lloadN X0.here hx rfl (hb hby d_jdk_29_method_70_code_1) rfl k) ?_
  refine Goes.step (B := (s₁.setTop (mkF m 3 #[.val (.long u0), .second, .val (.long u1), .second] [(.int (lcmpW u0 u1))]))) (fun _ k => XS.lcmp X0.here hx rfl (hb hby d_jdk_29_method_70_code_2) rfl k) ?_
  by_cases hc1 : u1 < u0
  · refine Goes.step (B := (s₁.setTop (mkF m 10 #[.val (.long u0), .second, .val (.long u1), .second] []))) (fun _ k => XS.ifYes X0.here hx rfl (pc0 := 3) (pc' := 10) rfl (hb hby d_jdk_29_method_70_code_3) rfl ((if0 _ _).trans (tlt ((lw_gt _ _).mpr hc1)).2.2.1) (by decide) (by decide) k) ?_
    refine Goes.step (B := (s₁.setTop (mkF m 11 #[.val (.long u0), .second, .val (.long u1), .second] [(.long u1)]))) (fun _ k => XS.lloadN X0.here hx rfl (hb hby d_jdk_29_method_70_code_10) rfl k) ?_
    refine Goes.retJ X0 hx hlk hrt (hb hby d_jdk_29_method_70_code_11) ?_ (by decide) (by decide)
    rw [e0]
    exact ⟨congrArg (fun z => some (Value.long z)) (show u1 = (own_min_fn u0 u1) from (show u1 = u1 from rfl).trans (by simp only [own_min_fn, if_pos hc1])), N0, rfl⟩
  · refine Goes.step (B := (s₁.setTop (mkF m 6 #[.val (.long u0), .second, .val (.long u1), .second] []))) (fun _ k => XS.ifNo X0.here hx rfl (hb hby d_jdk_29_method_70_code_3) rfl ((if0 _ _).trans (flt (mt (lw_gt _ _).mp hc1)).2.2.1) k) ?_
    refine Goes.step (B := (s₁.setTop (mkF m 7 #[.val (.long u0), .second, .val (.long u1), .second] [(.long u0)]))) (fun _ k => XS.lloadN X0.here hx rfl (hb hby d_jdk_29_method_70_code_6) rfl k) ?_
    refine Goes.step (B := (s₁.setTop (mkF m 11 #[.val (.long u0), .second, .val (.long u1), .second] [(.long u0)]))) (fun _ k => XS.goto X0.here hx rfl (pc0 := 7) (pc' := 11) rfl (hb hby d_jdk_29_method_70_code_7) (by decide) (by decide) k) ?_
    refine Goes.retJ X0 hx hlk hrt (hb hby d_jdk_29_method_70_code_11) ?_ (by decide) (by decide)
    rw [e0]
    exact ⟨congrArg (fun z => some (Value.long z)) (show u0 = (own_min_fn u0 u1) from (show u0 = u0 from rfl).trans (by simp only [own_min_fn, if_neg hc1])), N0, rfl⟩
theorem d_jdk_29_method_66_code_0 : decode jdk_29_method_66_code 0 = .ok (.lload_n 0, 1) := by decide +kernel
theorem d_jdk_29_method_66_code_1 : decode jdk_29_method_66_code 1 = .ok (.lload_n 2, 1) := by decide +kernel
theorem d_jdk_29_method_66_code_2 : decode jdk_29_method_66_code 2 = .ok (.lcmp, 1) := by decide +kernel
theorem d_jdk_29_method_66_code_3 : decode jdk_29_method_66_code 3 = .ok (.ifCond .lt 7, 3) := by decide +kernel
theorem d_jdk_29_method_66_code_10 : decode jdk_29_method_66_code 10 = .ok (.lload_n 2, 1) := by decide +kernel
theorem d_jdk_29_method_66_code_11 : decode jdk_29_method_66_code 11 = .ok (.lreturn, 1) := by decide +kernel
theorem d_jdk_29_method_66_code_6 : decode jdk_29_method_66_code 6 = .ok (.lload_n 0, 1) := by decide +kernel
theorem d_jdk_29_method_66_code_7 : decode jdk_29_method_66_code 7 = .ok (.goto 4, 3) := by decide +kernel
def own_max_fn (u0 : Int64) (u1 : Int64) : Int64 := (if u0 < u1 then u1 else u0)
def own_max_Q (Z : State) (u0 : Int64) (u1 : Int64)  (h0 : Heap) (n0 : Nat) (v : Option Value) (h : Heap) (L : List Loc) : Prop := v = some (.long (own_max_fn u0 u1)) ∧ Fr n0 L ∧ h = h0
theorem own_max_ef (m : MethodId) (u0 : Int64) (u1 : Int64) : entryFrame m #[(.long u0), (.long u1)] 4 = mkF m 0 #[.val (.long u0), .second, .val (.long u1), .second] [] := by first | (simp [entryFrame, mkF, argsToLocals, Value.category]; done) | rfl
set_option maxRecDepth 65536 in
set_option maxHeartbeats 40000000 in
theorem own_max_rm (l : Launch) (Z : State) (a0 : Array Value) (hw : ∀ d ∈ tables_1, d.before a0 Z = true) (ws : List Jvm.Cond) (u0 : Int64) (u1 : Int64)  (h0 : Heap) (n0 : Nat) (Z0 : n0 ≤ h0.size)  :
    MetFree l (⟨"java/lang/Math", "max", "(JJ)J"⟩ : MethodName) (head1 (Jvm.Cond.code (⟨"java/lang/Math", "max", "(JJ)J"⟩ : MethodName) jdk_29_method_66_code 4 (some .long) :: ws) ({ frames := 0, cells := 0, slots := 0, locals := 0 } : Room)) (fun a U => a = #[(.long u0), (.long u1)] ∧ Z.Warmed39 U.vm ∧ U.heap = h0) (fun _ _ _ _ _ => True) (fun _ U o U' => ∃ v L, o = .returned v ∧ own_max_Q Z u0 u1 h0 n0 v U'.heap L ∧ FrameEnd U o U' L ({ frames := 0, cells := 0, slots := 0, locals := 0 } : Room).cells ({ frames := 0, cells := 0, slots := 0, locals := 0 } : Room).slots) := by
  refine MetFree.of_bodySF (Jvm.Free.JP.mathPlain rfl (by decide +kernel)) hisR ?_
  intro p e s m args below meth c s₁ Bd hml0 hP hK
  obtain ⟨rfl, hZ, hh⟩ := hP
  have hx := Bd.exec
  have hby := Bd.bytes
  have hml : c.maxLocals = 4 := hml0
  have hown : s.vm.findClass "java/lang/Math" = some m.cls := findClass_of_methodNamed Bd.named
  have hnm := (name_of_methodNamed Bd.named Bd.method).1
  have hlk : meth.locks = false := BodyLoose.notSynchronized Bd
  have hrt := Bd.returns
  have X0 : Stand p l e ({ frames := 0, cells := 0, slots := 0, locals := 0 } : Room) s m #[(.long u0), (.long u1)] below meth c s₁ [] 0 0 := Stand.of_body Bd
  have e0 : s₁.heap = h0 := by rw [← hh, Bd.state]; rfl
  have N0 := Fr.nil n0
  refine Goes.enter (kc := ({ frames := 0, cells := 0, slots := 0, locals := 0 } : Room).cells) (kn := ({ frames := 0, cells := 0, slots := 0, locals := 0 } : Room).slots) (Q := own_max_Q Z u0 u1 h0 n0) (own_max_ef m u0 u1) ?_
  refine Goes.step (B := (s₁.setTop (mkF m 1 #[.val (.long u0), .second, .val (.long u1), .second] [(.long u0)]))) (fun _ k => XS.lloadN X0.here hx rfl (hb hby d_jdk_29_method_66_code_0) rfl k) ?_
  refine Goes.step (B := (s₁.setTop (mkF m 2 #[.val (.long u0), .second, .val (.long u1), .second] [(.long u1), (.long u0)]))) (fun _ k => XS.lloadN X0.here hx rfl (hb hby d_jdk_29_method_66_code_1) rfl k) ?_
  refine Goes.step (B := (s₁.setTop (mkF m 3 #[.val (.long u0), .second, .val (.long u1), .second] [(.int (lcmpW u0 u1))]))) (fun _ k => XS.lcmp X0.here hx rfl (hb hby d_jdk_29_method_66_code_2) rfl k) ?_
  by_cases hc1 : u0 < u1
  · refine Goes.step (B := (s₁.setTop (mkF m 10 #[.val (.long u0), .second, .val (.long u1), .second] []))) (fun _ k => XS.ifYes X0.here hx rfl (pc0 := 3) (pc' := 10) rfl (hb hby d_jdk_29_method_66_code_3) rfl ((if0 _ _).trans (tlt ((lw_lt _ _).mpr hc1)).1) (by decide) (by decide) k) ?_
    refine Goes.step (B := (s₁.setTop (mkF m 11 #[.val (.long u0), .second, .val (.long u1), .second] [(.long u1)]))) (fun _ k => XS.lloadN X0.here hx rfl (hb hby d_jdk_29_method_66_code_10) rfl k) ?_
    refine Goes.retJ X0 hx hlk hrt (hb hby d_jdk_29_method_66_code_11) ?_ (by decide) (by decide)
    rw [e0]
    exact ⟨congrArg (fun z => some (Value.long z)) (show u1 = (own_max_fn u0 u1) from (show u1 = u1 from rfl).trans (by simp only [own_max_fn, if_pos hc1])), N0, rfl⟩
  · refine Goes.step (B := (s₁.setTop (mkF m 6 #[.val (.long u0), .second, .val (.long u1), .second] []))) (fun _ k => XS.ifNo X0.here hx rfl (hb hby d_jdk_29_method_66_code_3) rfl ((if0 _ _).trans (flt (mt (lw_lt _ _).mp hc1)).1) k) ?_
    refine Goes.step (B := (s₁.setTop (mkF m 7 #[.val (.long u0), .second, .val (.long u1), .second] [(.long u0)]))) (fun _ k => XS.lloadN X0.here hx rfl (hb hby d_jdk_29_method_66_code_6) rfl k) ?_
    refine Goes.step (B := (s₁.setTop (mkF m 11 #[.val (.long u0), .second, .val (.long u1), .second] [(.long u0)]))) (fun _ k => XS.goto X0.here hx rfl (pc0 := 7) (pc' := 11) rfl (hb hby d_jdk_29_method_66_code_7) (by decide) (by decide) k) ?_
    refine Goes.retJ X0 hx hlk hrt (hb hby d_jdk_29_method_66_code_11) ?_ (by decide) (by decide)
    rw [e0]
    exact ⟨congrArg (fun z => some (Value.long z)) (show u0 = (own_max_fn u0 u1) from (show u0 = u0 from rfl).trans (by simp only [own_max_fn, if_neg hc1])), N0, rfl⟩
theorem d_jdk_33_method_47_code_0 : decode jdk_33_method_47_code 0 = .ok (.iload_n 0, 1) := by decide +kernel
theorem d_jdk_33_method_47_code_1 : decode jdk_33_method_47_code 1 = .ok (.ifCond .gt 14, 3) := by decide +kernel
theorem d_jdk_33_method_47_code_15 : decode jdk_33_method_47_code 15 = .ok (.bipush 31, 2) := by decide +kernel
theorem d_jdk_33_method_47_code_17 : decode jdk_33_method_47_code 17 = .ok (.istore_n 1, 1) := by decide +kernel
theorem d_jdk_33_method_47_code_18 : decode jdk_33_method_47_code 18 = .ok (.iload_n 0, 1) := by decide +kernel
theorem d_jdk_33_method_47_code_19 : decode jdk_33_method_47_code 19 = .ok (.ldc_w 264, 3) := by decide +kernel
theorem d_jdk_33_method_47_code_22 : decode jdk_33_method_47_code 22 = .ok (.if_icmp .lt 11, 3) := by decide +kernel
theorem d_jdk_33_method_47_code_25 : decode jdk_33_method_47_code 25 = .ok (.iinc 1 (-16), 3) := by decide +kernel
theorem d_jdk_33_method_47_code_28 : decode jdk_33_method_47_code 28 = .ok (.iload_n 0, 1) := by decide +kernel
theorem d_jdk_33_method_47_code_29 : decode jdk_33_method_47_code 29 = .ok (.bipush 16, 2) := by decide +kernel
theorem d_jdk_33_method_47_code_31 : decode jdk_33_method_47_code 31 = .ok (.iushr, 1) := by decide +kernel
theorem d_jdk_33_method_47_code_32 : decode jdk_33_method_47_code 32 = .ok (.istore_n 0, 1) := by decide +kernel
theorem d_jdk_33_method_47_code_33 : decode jdk_33_method_47_code 33 = .ok (.iload_n 0, 1) := by decide +kernel
theorem d_jdk_33_method_47_code_34 : decode jdk_33_method_47_code 34 = .ok (.sipush 256, 3) := by decide +kernel
theorem d_jdk_33_method_47_code_37 : decode jdk_33_method_47_code 37 = .ok (.if_icmp .lt 11, 3) := by decide +kernel
theorem d_jdk_33_method_47_code_40 : decode jdk_33_method_47_code 40 = .ok (.iinc 1 (-8), 3) := by decide +kernel
theorem d_jdk_33_method_47_code_43 : decode jdk_33_method_47_code 43 = .ok (.iload_n 0, 1) := by decide +kernel
theorem d_jdk_33_method_47_code_44 : decode jdk_33_method_47_code 44 = .ok (.bipush 8, 2) := by decide +kernel
theorem d_jdk_33_method_47_code_46 : decode jdk_33_method_47_code 46 = .ok (.iushr, 1) := by decide +kernel
theorem d_jdk_33_method_47_code_47 : decode jdk_33_method_47_code 47 = .ok (.istore_n 0, 1) := by decide +kernel
theorem d_jdk_33_method_47_code_48 : decode jdk_33_method_47_code 48 = .ok (.iload_n 0, 1) := by decide +kernel
theorem d_jdk_33_method_47_code_49 : decode jdk_33_method_47_code 49 = .ok (.bipush 16, 2) := by decide +kernel
theorem d_jdk_33_method_47_code_51 : decode jdk_33_method_47_code 51 = .ok (.if_icmp .lt 10, 3) := by decide +kernel
theorem d_jdk_33_method_47_code_54 : decode jdk_33_method_47_code 54 = .ok (.iinc 1 (-4), 3) := by decide +kernel
theorem d_jdk_33_method_47_code_57 : decode jdk_33_method_47_code 57 = .ok (.iload_n 0, 1) := by decide +kernel
theorem d_jdk_33_method_47_code_58 : decode jdk_33_method_47_code 58 = .ok (.iconst 4, 1) := by decide +kernel
theorem d_jdk_33_method_47_code_59 : decode jdk_33_method_47_code 59 = .ok (.iushr, 1) := by decide +kernel
theorem d_jdk_33_method_47_code_60 : decode jdk_33_method_47_code 60 = .ok (.istore_n 0, 1) := by decide +kernel
theorem d_jdk_33_method_47_code_61 : decode jdk_33_method_47_code 61 = .ok (.iload_n 0, 1) := by decide +kernel
theorem d_jdk_33_method_47_code_62 : decode jdk_33_method_47_code 62 = .ok (.iconst 4, 1) := by decide +kernel
theorem d_jdk_33_method_47_code_63 : decode jdk_33_method_47_code 63 = .ok (.if_icmp .lt 10, 3) := by decide +kernel
theorem d_jdk_33_method_47_code_66 : decode jdk_33_method_47_code 66 = .ok (.iinc 1 (-2), 3) := by decide +kernel
theorem d_jdk_33_method_47_code_69 : decode jdk_33_method_47_code 69 = .ok (.iload_n 0, 1) := by decide +kernel
theorem d_jdk_33_method_47_code_70 : decode jdk_33_method_47_code 70 = .ok (.iconst 2, 1) := by decide +kernel
theorem d_jdk_33_method_47_code_71 : decode jdk_33_method_47_code 71 = .ok (.iushr, 1) := by decide +kernel
theorem d_jdk_33_method_47_code_72 : decode jdk_33_method_47_code 72 = .ok (.istore_n 0, 1) := by decide +kernel
theorem d_jdk_33_method_47_code_73 : decode jdk_33_method_47_code 73 = .ok (.iload_n 1, 1) := by decide +kernel
theorem d_jdk_33_method_47_code_74 : decode jdk_33_method_47_code 74 = .ok (.iload_n 0, 1) := by decide +kernel
theorem d_jdk_33_method_47_code_75 : decode jdk_33_method_47_code 75 = .ok (.iconst 1, 1) := by decide +kernel
theorem d_jdk_33_method_47_code_76 : decode jdk_33_method_47_code 76 = .ok (.iushr, 1) := by decide +kernel
theorem d_jdk_33_method_47_code_77 : decode jdk_33_method_47_code 77 = .ok (.isub, 1) := by decide +kernel
theorem d_jdk_33_method_47_code_78 : decode jdk_33_method_47_code 78 = .ok (.ireturn, 1) := by decide +kernel
theorem d_jdk_33_method_47_code_4 : decode jdk_33_method_47_code 4 = .ok (.iload_n 0, 1) := by decide +kernel
theorem d_jdk_33_method_47_code_5 : decode jdk_33_method_47_code 5 = .ok (.ifCond .ne 8, 3) := by decide +kernel
theorem d_jdk_33_method_47_code_8 : decode jdk_33_method_47_code 8 = .ok (.bipush 32, 2) := by decide +kernel
theorem d_jdk_33_method_47_code_10 : decode jdk_33_method_47_code 10 = .ok (.goto 4, 3) := by decide +kernel
theorem d_jdk_33_method_47_code_14 : decode jdk_33_method_47_code 14 = .ok (.ireturn, 1) := by decide +kernel
theorem d_jdk_33_method_47_code_13 : decode jdk_33_method_47_code 13 = .ok (.iconst 0, 1) := by decide +kernel
def own_nlz_j22_0 (c0 : Int32) : Int32 := (if c0 < (65536 : Int32) then c0 else (c0.toUInt32 >>> ((16 : Int32) &&& 31).toUInt32).toInt32)
def own_nlz_j22_1 (c0 : Int32) : Int32 := (if c0 < (65536 : Int32) then (31 : Int32) else (15 : Int32))
def own_nlz_j37_0 (c0 : Int32) : Int32 := (if (own_nlz_j22_0 c0) < (256 : Int32) then (own_nlz_j22_0 c0) else ((own_nlz_j22_0 c0).toUInt32 >>> ((8 : Int32) &&& 31).toUInt32).toInt32)
def own_nlz_j37_1 (c0 : Int32) : Int32 := (if (own_nlz_j22_0 c0) < (256 : Int32) then (own_nlz_j22_1 c0) else ((own_nlz_j22_1 c0) + (-8 : Int32)))
def own_nlz_j51_0 (c0 : Int32) : Int32 := (if (own_nlz_j37_0 c0) < (16 : Int32) then (own_nlz_j37_0 c0) else ((own_nlz_j37_0 c0).toUInt32 >>> ((4 : Int32) &&& 31).toUInt32).toInt32)
def own_nlz_j51_1 (c0 : Int32) : Int32 := (if (own_nlz_j37_0 c0) < (16 : Int32) then (own_nlz_j37_1 c0) else ((own_nlz_j37_1 c0) + (-4 : Int32)))
def own_nlz_j63_0 (c0 : Int32) : Int32 := (if (own_nlz_j51_0 c0) < (4 : Int32) then (own_nlz_j51_0 c0) else ((own_nlz_j51_0 c0).toUInt32 >>> ((2 : Int32) &&& 31).toUInt32).toInt32)
def own_nlz_j63_1 (c0 : Int32) : Int32 := (if (own_nlz_j51_0 c0) < (4 : Int32) then (own_nlz_j51_1 c0) else ((own_nlz_j51_1 c0) + (-2 : Int32)))
def own_nlz_fn (c0 : Int32) : Int32 := (if (0 : Int32) < c0 then ((own_nlz_j63_1 c0) - ((own_nlz_j63_0 c0).toUInt32 >>> ((1 : Int32) &&& 31).toUInt32).toInt32) else (if c0 = (0 : Int32) then (32 : Int32) else (0 : Int32)))
def own_nlz_Q (Z : State) (c0 : Int32)  (h0 : Heap) (n0 : Nat) (v : Option Value) (h : Heap) (L : List Loc) : Prop := v = some (.int (own_nlz_fn c0)) ∧ Fr n0 L ∧ h = h0
theorem own_nlz_ef (m : MethodId) (c0 : Int32) : entryFrame m #[(.int c0)] 2 = mkF m 0 #[.val (.int c0), .unset] [] := by first | (simp [entryFrame, mkF, argsToLocals, Value.category]; done) | rfl
theorem pn_Integer : plainName "java/lang/Integer" = true := by first | (simp [plainName, overriddenIn]; done) | decide +kernel
set_option maxRecDepth 65536 in
set_option maxHeartbeats 40000000 in
theorem own_nlz_rm (l : Launch) (Z : State) (a0 : Array Value) (hw : ∀ d ∈ tables_1, d.before a0 Z = true) (ws : List Jvm.Cond) (c0 : Int32)  (h0 : Heap) (n0 : Nat) (Z0 : n0 ≤ h0.size)  :
    MetFree l (⟨"java/lang/Integer", "numberOfLeadingZeros", "(I)I"⟩ : MethodName) (head1 (Jvm.Cond.code (⟨"java/lang/Integer", "numberOfLeadingZeros", "(I)I"⟩ : MethodName) jdk_33_method_47_code 2 (some .int) :: ws) ({ frames := 0, cells := 0, slots := 0, locals := 0 } : Room)) (fun a U => a = #[(.int c0)] ∧ Z.Warmed39 U.vm ∧ U.heap = h0) (fun _ _ _ _ _ => True) (fun _ U o U' => ∃ v L, o = .returned v ∧ own_nlz_Q Z c0 h0 n0 v U'.heap L ∧ FrameEnd U o U' L ({ frames := 0, cells := 0, slots := 0, locals := 0 } : Room).cells ({ frames := 0, cells := 0, slots := 0, locals := 0 } : Room).slots) := by
  refine MetFree.of_bodySF (plainFor_of_name pn_Integer) hisR ?_
  intro p e s m args below meth c s₁ Bd hml0 hP hK
  obtain ⟨rfl, hZ, hh⟩ := hP
  have hx := Bd.exec
  have hby := Bd.bytes
  have hml : c.maxLocals = 2 := hml0
  have hown : s.vm.findClass "java/lang/Integer" = some m.cls := findClass_of_methodNamed Bd.named
  have hnm := (name_of_methodNamed Bd.named Bd.method).1
  have hlk : meth.locks = false := BodyLoose.notSynchronized Bd
  have hrt := Bd.returns
  have X0 : Stand p l e ({ frames := 0, cells := 0, slots := 0, locals := 0 } : Room) s m #[(.int c0)] below meth c s₁ [] 0 0 := Stand.of_body Bd
  have e0 : s₁.heap = h0 := by rw [← hh, Bd.state]; rfl
  have N0 := Fr.nil n0
  refine Goes.enter (kc := ({ frames := 0, cells := 0, slots := 0, locals := 0 } : Room).cells) (kn := ({ frames := 0, cells := 0, slots := 0, locals := 0 } : Room).slots) (Q := own_nlz_Q Z c0 h0 n0) (own_nlz_ef m c0) ?_
  refine Goes.step (B := (s₁.setTop (mkF m 1 #[.val (.int c0), .unset] [(.int c0)]))) (fun _ k => XS.iloadN X0.here hx rfl (hb hby d_jdk_33_method_47_code_0) rfl k) ?_
  by_cases hc1 : (0 : Int32) < c0
  · refine Goes.step (B := (s₁.setTop (mkF m 15 #[.val (.int c0), .unset] []))) (fun _ k => XS.ifYes X0.here hx rfl (pc0 := 1) (pc' := 15) rfl (hb hby d_jdk_33_method_47_code_1) rfl ((if0 _ _).trans (tlt hc1).2.2.1) (by decide) (by decide) k) ?_
    refine Goes.step (B := (s₁.setTop (mkF m 17 #[.val (.int c0), .unset] [(.int (31 : Int32))]))) (fun _ k => XS.bipush X0.here hx rfl (hb hby d_jdk_33_method_47_code_15) k) ?_
    refine Goes.step (B := (s₁.setTop (mkF m 18 #[.val (.int c0), .val (.int (31 : Int32))] []))) (fun _ k => XS.istoreN X0.here hx rfl (hb hby d_jdk_33_method_47_code_17) rfl (l' := #[.val (.int c0), .val (.int (31 : Int32))]) rfl k) ?_
    refine Goes.step (B := (s₁.setTop (mkF m 19 #[.val (.int c0), .val (.int (31 : Int32))] [(.int c0)]))) (fun _ k => XS.iloadN X0.here hx rfl (hb hby d_jdk_33_method_47_code_18) rfl k) ?_
    refine Goes.step (B := (s₁.setTop (mkF m 22 #[.val (.int c0), .val (.int (31 : Int32))] [(.int (65536 : Int32)), (.int c0)]))) (fun _ k => X0.ldcwInt hx hown (mvT hZ (hw _ (List.mem_of_getElem? (i := 20) rfl))) (g := (mkF m 19 #[.val (.int c0), .val (.int (31 : Int32))] [(.int c0)])) rfl (hb hby d_jdk_33_method_47_code_19) _ k) ?_
    have J2 : Goes p e below s ({ frames := 0, cells := 0, slots := 0, locals := 0 } : Room).cells ({ frames := 0, cells := 0, slots := 0, locals := 0 } : Room).slots (own_nlz_Q Z c0 h0 n0) (s₁.setTop (mkF m 33 #[.val (.int (own_nlz_j22_0 c0)), .val (.int (own_nlz_j22_1 c0))] [])) := by
      refine Goes.step (B := (s₁.setTop (mkF m 34 #[.val (.int (own_nlz_j22_0 c0)), .val (.int (own_nlz_j22_1 c0))] [(.int (own_nlz_j22_0 c0))]))) (fun _ k => XS.iloadN X0.here hx rfl (hb hby d_jdk_33_method_47_code_33) rfl k) ?_
      refine Goes.step (B := (s₁.setTop (mkF m 37 #[.val (.int (own_nlz_j22_0 c0)), .val (.int (own_nlz_j22_1 c0))] [(.int (256 : Int32)), (.int (own_nlz_j22_0 c0))]))) (fun _ k => XS.sipush X0.here hx rfl (hb hby d_jdk_33_method_47_code_34) k) ?_
      have J3 : Goes p e below s ({ frames := 0, cells := 0, slots := 0, locals := 0 } : Room).cells ({ frames := 0, cells := 0, slots := 0, locals := 0 } : Room).slots (own_nlz_Q Z c0 h0 n0) (s₁.setTop (mkF m 48 #[.val (.int (own_nlz_j37_0 c0)), .val (.int (own_nlz_j37_1 c0))] [])) := by
        refine Goes.step (B := (s₁.setTop (mkF m 49 #[.val (.int (own_nlz_j37_0 c0)), .val (.int (own_nlz_j37_1 c0))] [(.int (own_nlz_j37_0 c0))]))) (fun _ k => XS.iloadN X0.here hx rfl (hb hby d_jdk_33_method_47_code_48) rfl k) ?_
        refine Goes.step (B := (s₁.setTop (mkF m 51 #[.val (.int (own_nlz_j37_0 c0)), .val (.int (own_nlz_j37_1 c0))] [(.int (16 : Int32)), (.int (own_nlz_j37_0 c0))]))) (fun _ k => XS.bipush X0.here hx rfl (hb hby d_jdk_33_method_47_code_49) k) ?_
        have J4 : Goes p e below s ({ frames := 0, cells := 0, slots := 0, locals := 0 } : Room).cells ({ frames := 0, cells := 0, slots := 0, locals := 0 } : Room).slots (own_nlz_Q Z c0 h0 n0) (s₁.setTop (mkF m 61 #[.val (.int (own_nlz_j51_0 c0)), .val (.int (own_nlz_j51_1 c0))] [])) := by
          refine Goes.step (B := (s₁.setTop (mkF m 62 #[.val (.int (own_nlz_j51_0 c0)), .val (.int (own_nlz_j51_1 c0))] [(.int (own_nlz_j51_0 c0))]))) (fun _ k => XS.iloadN X0.here hx rfl (hb hby d_jdk_33_method_47_code_61) rfl k) ?_
          refine Goes.step (B := (s₁.setTop (mkF m 63 #[.val (.int (own_nlz_j51_0 c0)), .val (.int (own_nlz_j51_1 c0))] [(.int (4 : Int32)), (.int (own_nlz_j51_0 c0))]))) (fun _ k => XS.iconst X0.here hx rfl (hb hby d_jdk_33_method_47_code_62) k) ?_
          have J5 : Goes p e below s ({ frames := 0, cells := 0, slots := 0, locals := 0 } : Room).cells ({ frames := 0, cells := 0, slots := 0, locals := 0 } : Room).slots (own_nlz_Q Z c0 h0 n0) (s₁.setTop (mkF m 73 #[.val (.int (own_nlz_j63_0 c0)), .val (.int (own_nlz_j63_1 c0))] [])) := by
            refine Goes.step (B := (s₁.setTop (mkF m 74 #[.val (.int (own_nlz_j63_0 c0)), .val (.int (own_nlz_j63_1 c0))] [(.int (own_nlz_j63_1 c0))]))) (fun _ k => XS.iloadN X0.here hx rfl (hb hby d_jdk_33_method_47_code_73) rfl k) ?_
            refine Goes.step (B := (s₁.setTop (mkF m 75 #[.val (.int (own_nlz_j63_0 c0)), .val (.int (own_nlz_j63_1 c0))] [(.int (own_nlz_j63_0 c0)), (.int (own_nlz_j63_1 c0))]))) (fun _ k => XS.iloadN X0.here hx rfl (hb hby d_jdk_33_method_47_code_74) rfl k) ?_
            refine Goes.step (B := (s₁.setTop (mkF m 76 #[.val (.int (own_nlz_j63_0 c0)), .val (.int (own_nlz_j63_1 c0))] [(.int (1 : Int32)), (.int (own_nlz_j63_0 c0)), (.int (own_nlz_j63_1 c0))]))) (fun _ k => XS.iconst X0.here hx rfl (hb hby d_jdk_33_method_47_code_75) k) ?_
            refine Goes.step (B := (s₁.setTop (mkF m 77 #[.val (.int (own_nlz_j63_0 c0)), .val (.int (own_nlz_j63_1 c0))] [(.int ((own_nlz_j63_0 c0).toUInt32 >>> ((1 : Int32) &&& 31).toUInt32).toInt32), (.int (own_nlz_j63_1 c0))]))) (fun _ k => XS.iushr X0.here hx rfl (hb hby d_jdk_33_method_47_code_76) rfl k) ?_
            refine Goes.step (B := (s₁.setTop (mkF m 78 #[.val (.int (own_nlz_j63_0 c0)), .val (.int (own_nlz_j63_1 c0))] [(.int ((own_nlz_j63_1 c0) - ((own_nlz_j63_0 c0).toUInt32 >>> ((1 : Int32) &&& 31).toUInt32).toInt32))]))) (fun _ k => XS.isub X0.here hx rfl (hb hby d_jdk_33_method_47_code_77) rfl k) ?_
            refine Goes.retI X0 hx hlk hrt (hb hby d_jdk_33_method_47_code_78) ?_ (by decide) (by decide)
            rw [e0]
            exact ⟨congrArg (fun z => some (Value.int z)) (show ((own_nlz_j63_1 c0) - ((own_nlz_j63_0 c0).toUInt32 >>> ((1 : Int32) &&& 31).toUInt32).toInt32) = (own_nlz_fn c0) from (show ((own_nlz_j63_1 c0) - ((own_nlz_j63_0 c0).toUInt32 >>> ((1 : Int32) &&& 31).toUInt32).toInt32) = ((own_nlz_j63_1 c0) - ((own_nlz_j63_0 c0).toUInt32 >>> ((1 : Int32) &&& 31).toUInt32).toInt32) from rfl).trans (by simp only [own_nlz_fn, if_pos hc1])), N0, rfl⟩
          by_cases hc6 : (own_nlz_j51_0 c0) < (4 : Int32)
          · refine Goes.step (B := (s₁.setTop (mkF m 73 #[.val (.int (own_nlz_j51_0 c0)), .val (.int (own_nlz_j51_1 c0))] []))) (fun _ k => XS.icmpYes X0.here hx rfl (pc0 := 63) (pc' := 73) rfl (hb hby d_jdk_33_method_47_code_63) rfl (tlt hc6).1 (by decide) (by decide) k) ?_
            rw [show own_nlz_j63_0 c0 = (own_nlz_j51_0 c0) from by simp only [own_nlz_j63_0, own_nlz_j63_1, if_pos hc6]] at J5
            rw [show own_nlz_j63_1 c0 = (own_nlz_j51_1 c0) from by simp only [own_nlz_j63_0, own_nlz_j63_1, if_pos hc6]] at J5
            exact J5
          · refine Goes.step (B := (s₁.setTop (mkF m 66 #[.val (.int (own_nlz_j51_0 c0)), .val (.int (own_nlz_j51_1 c0))] []))) (fun _ k => XS.icmpNo X0.here hx rfl (hb hby d_jdk_33_method_47_code_63) rfl (flt hc6).1 k) ?_
            refine Goes.step (B := (s₁.setTop (mkF m 69 #[.val (.int (own_nlz_j51_0 c0)), .val (.int ((own_nlz_j51_1 c0) + (-2 : Int32)))] []))) (fun _ k => XS.iinc X0.here hx rfl (hb hby d_jdk_33_method_47_code_66) rfl (l' := #[.val (.int (own_nlz_j51_0 c0)), .val (.int ((own_nlz_j51_1 c0) + (-2 : Int32)))]) rfl k) ?_
            refine Goes.step (B := (s₁.setTop (mkF m 70 #[.val (.int (own_nlz_j51_0 c0)), .val (.int ((own_nlz_j51_1 c0) + (-2 : Int32)))] [(.int (own_nlz_j51_0 c0))]))) (fun _ k => XS.iloadN X0.here hx rfl (hb hby d_jdk_33_method_47_code_69) rfl k) ?_
            refine Goes.step (B := (s₁.setTop (mkF m 71 #[.val (.int (own_nlz_j51_0 c0)), .val (.int ((own_nlz_j51_1 c0) + (-2 : Int32)))] [(.int (2 : Int32)), (.int (own_nlz_j51_0 c0))]))) (fun _ k => XS.iconst X0.here hx rfl (hb hby d_jdk_33_method_47_code_70) k) ?_
            refine Goes.step (B := (s₁.setTop (mkF m 72 #[.val (.int (own_nlz_j51_0 c0)), .val (.int ((own_nlz_j51_1 c0) + (-2 : Int32)))] [(.int ((own_nlz_j51_0 c0).toUInt32 >>> ((2 : Int32) &&& 31).toUInt32).toInt32)]))) (fun _ k => XS.iushr X0.here hx rfl (hb hby d_jdk_33_method_47_code_71) rfl k) ?_
            refine Goes.step (B := (s₁.setTop (mkF m 73 #[.val (.int ((own_nlz_j51_0 c0).toUInt32 >>> ((2 : Int32) &&& 31).toUInt32).toInt32), .val (.int ((own_nlz_j51_1 c0) + (-2 : Int32)))] []))) (fun _ k => XS.istoreN X0.here hx rfl (hb hby d_jdk_33_method_47_code_72) rfl (l' := #[.val (.int ((own_nlz_j51_0 c0).toUInt32 >>> ((2 : Int32) &&& 31).toUInt32).toInt32), .val (.int ((own_nlz_j51_1 c0) + (-2 : Int32)))]) rfl k) ?_
            rw [show own_nlz_j63_0 c0 = ((own_nlz_j51_0 c0).toUInt32 >>> ((2 : Int32) &&& 31).toUInt32).toInt32 from by simp only [own_nlz_j63_0, own_nlz_j63_1, if_neg hc6]] at J5
            rw [show own_nlz_j63_1 c0 = ((own_nlz_j51_1 c0) + (-2 : Int32)) from by simp only [own_nlz_j63_0, own_nlz_j63_1, if_neg hc6]] at J5
            exact J5
        by_cases hc7 : (own_nlz_j37_0 c0) < (16 : Int32)
        · refine Goes.step (B := (s₁.setTop (mkF m 61 #[.val (.int (own_nlz_j37_0 c0)), .val (.int (own_nlz_j37_1 c0))] []))) (fun _ k => XS.icmpYes X0.here hx rfl (pc0 := 51) (pc' := 61) rfl (hb hby d_jdk_33_method_47_code_51) rfl (tlt hc7).1 (by decide) (by decide) k) ?_
          rw [show own_nlz_j51_0 c0 = (own_nlz_j37_0 c0) from by simp only [own_nlz_j51_0, own_nlz_j51_1, if_pos hc7]] at J4
          rw [show own_nlz_j51_1 c0 = (own_nlz_j37_1 c0) from by simp only [own_nlz_j51_0, own_nlz_j51_1, if_pos hc7]] at J4
          exact J4
        · refine Goes.step (B := (s₁.setTop (mkF m 54 #[.val (.int (own_nlz_j37_0 c0)), .val (.int (own_nlz_j37_1 c0))] []))) (fun _ k => XS.icmpNo X0.here hx rfl (hb hby d_jdk_33_method_47_code_51) rfl (flt hc7).1 k) ?_
          refine Goes.step (B := (s₁.setTop (mkF m 57 #[.val (.int (own_nlz_j37_0 c0)), .val (.int ((own_nlz_j37_1 c0) + (-4 : Int32)))] []))) (fun _ k => XS.iinc X0.here hx rfl (hb hby d_jdk_33_method_47_code_54) rfl (l' := #[.val (.int (own_nlz_j37_0 c0)), .val (.int ((own_nlz_j37_1 c0) + (-4 : Int32)))]) rfl k) ?_
          refine Goes.step (B := (s₁.setTop (mkF m 58 #[.val (.int (own_nlz_j37_0 c0)), .val (.int ((own_nlz_j37_1 c0) + (-4 : Int32)))] [(.int (own_nlz_j37_0 c0))]))) (fun _ k => XS.iloadN X0.here hx rfl (hb hby d_jdk_33_method_47_code_57) rfl k) ?_
          refine Goes.step (B := (s₁.setTop (mkF m 59 #[.val (.int (own_nlz_j37_0 c0)), .val (.int ((own_nlz_j37_1 c0) + (-4 : Int32)))] [(.int (4 : Int32)), (.int (own_nlz_j37_0 c0))]))) (fun _ k => XS.iconst X0.here hx rfl (hb hby d_jdk_33_method_47_code_58) k) ?_
          refine Goes.step (B := (s₁.setTop (mkF m 60 #[.val (.int (own_nlz_j37_0 c0)), .val (.int ((own_nlz_j37_1 c0) + (-4 : Int32)))] [(.int ((own_nlz_j37_0 c0).toUInt32 >>> ((4 : Int32) &&& 31).toUInt32).toInt32)]))) (fun _ k => XS.iushr X0.here hx rfl (hb hby d_jdk_33_method_47_code_59) rfl k) ?_
          refine Goes.step (B := (s₁.setTop (mkF m 61 #[.val (.int ((own_nlz_j37_0 c0).toUInt32 >>> ((4 : Int32) &&& 31).toUInt32).toInt32), .val (.int ((own_nlz_j37_1 c0) + (-4 : Int32)))] []))) (fun _ k => XS.istoreN X0.here hx rfl (hb hby d_jdk_33_method_47_code_60) rfl (l' := #[.val (.int ((own_nlz_j37_0 c0).toUInt32 >>> ((4 : Int32) &&& 31).toUInt32).toInt32), .val (.int ((own_nlz_j37_1 c0) + (-4 : Int32)))]) rfl k) ?_
          rw [show own_nlz_j51_0 c0 = ((own_nlz_j37_0 c0).toUInt32 >>> ((4 : Int32) &&& 31).toUInt32).toInt32 from by simp only [own_nlz_j51_0, own_nlz_j51_1, if_neg hc7]] at J4
          rw [show own_nlz_j51_1 c0 = ((own_nlz_j37_1 c0) + (-4 : Int32)) from by simp only [own_nlz_j51_0, own_nlz_j51_1, if_neg hc7]] at J4
          exact J4
      by_cases hc8 : (own_nlz_j22_0 c0) < (256 : Int32)
      · refine Goes.step (B := (s₁.setTop (mkF m 48 #[.val (.int (own_nlz_j22_0 c0)), .val (.int (own_nlz_j22_1 c0))] []))) (fun _ k => XS.icmpYes X0.here hx rfl (pc0 := 37) (pc' := 48) rfl (hb hby d_jdk_33_method_47_code_37) rfl (tlt hc8).1 (by decide) (by decide) k) ?_
        rw [show own_nlz_j37_0 c0 = (own_nlz_j22_0 c0) from by simp only [own_nlz_j37_0, own_nlz_j37_1, if_pos hc8]] at J3
        rw [show own_nlz_j37_1 c0 = (own_nlz_j22_1 c0) from by simp only [own_nlz_j37_0, own_nlz_j37_1, if_pos hc8]] at J3
        exact J3
      · refine Goes.step (B := (s₁.setTop (mkF m 40 #[.val (.int (own_nlz_j22_0 c0)), .val (.int (own_nlz_j22_1 c0))] []))) (fun _ k => XS.icmpNo X0.here hx rfl (hb hby d_jdk_33_method_47_code_37) rfl (flt hc8).1 k) ?_
        refine Goes.step (B := (s₁.setTop (mkF m 43 #[.val (.int (own_nlz_j22_0 c0)), .val (.int ((own_nlz_j22_1 c0) + (-8 : Int32)))] []))) (fun _ k => XS.iinc X0.here hx rfl (hb hby d_jdk_33_method_47_code_40) rfl (l' := #[.val (.int (own_nlz_j22_0 c0)), .val (.int ((own_nlz_j22_1 c0) + (-8 : Int32)))]) rfl k) ?_
        refine Goes.step (B := (s₁.setTop (mkF m 44 #[.val (.int (own_nlz_j22_0 c0)), .val (.int ((own_nlz_j22_1 c0) + (-8 : Int32)))] [(.int (own_nlz_j22_0 c0))]))) (fun _ k => XS.iloadN X0.here hx rfl (hb hby d_jdk_33_method_47_code_43) rfl k) ?_
        refine Goes.step (B := (s₁.setTop (mkF m 46 #[.val (.int (own_nlz_j22_0 c0)), .val (.int ((own_nlz_j22_1 c0) + (-8 : Int32)))] [(.int (8 : Int32)), (.int (own_nlz_j22_0 c0))]))) (fun _ k => XS.bipush X0.here hx rfl (hb hby d_jdk_33_method_47_code_44) k) ?_
        refine Goes.step (B := (s₁.setTop (mkF m 47 #[.val (.int (own_nlz_j22_0 c0)), .val (.int ((own_nlz_j22_1 c0) + (-8 : Int32)))] [(.int ((own_nlz_j22_0 c0).toUInt32 >>> ((8 : Int32) &&& 31).toUInt32).toInt32)]))) (fun _ k => XS.iushr X0.here hx rfl (hb hby d_jdk_33_method_47_code_46) rfl k) ?_
        refine Goes.step (B := (s₁.setTop (mkF m 48 #[.val (.int ((own_nlz_j22_0 c0).toUInt32 >>> ((8 : Int32) &&& 31).toUInt32).toInt32), .val (.int ((own_nlz_j22_1 c0) + (-8 : Int32)))] []))) (fun _ k => XS.istoreN X0.here hx rfl (hb hby d_jdk_33_method_47_code_47) rfl (l' := #[.val (.int ((own_nlz_j22_0 c0).toUInt32 >>> ((8 : Int32) &&& 31).toUInt32).toInt32), .val (.int ((own_nlz_j22_1 c0) + (-8 : Int32)))]) rfl k) ?_
        rw [show own_nlz_j37_0 c0 = ((own_nlz_j22_0 c0).toUInt32 >>> ((8 : Int32) &&& 31).toUInt32).toInt32 from by simp only [own_nlz_j37_0, own_nlz_j37_1, if_neg hc8]] at J3
        rw [show own_nlz_j37_1 c0 = ((own_nlz_j22_1 c0) + (-8 : Int32)) from by simp only [own_nlz_j37_0, own_nlz_j37_1, if_neg hc8]] at J3
        exact J3
    by_cases hc9 : c0 < (65536 : Int32)
    · refine Goes.step (B := (s₁.setTop (mkF m 33 #[.val (.int c0), .val (.int (31 : Int32))] []))) (fun _ k => XS.icmpYes X0.here hx rfl (pc0 := 22) (pc' := 33) rfl (hb hby d_jdk_33_method_47_code_22) rfl (tlt hc9).1 (by decide) (by decide) k) ?_
      rw [show own_nlz_j22_0 c0 = c0 from by simp only [own_nlz_j22_0, own_nlz_j22_1, if_pos hc9]] at J2
      rw [show own_nlz_j22_1 c0 = (31 : Int32) from by simp only [own_nlz_j22_0, own_nlz_j22_1, if_pos hc9]] at J2
      exact J2
    · refine Goes.step (B := (s₁.setTop (mkF m 25 #[.val (.int c0), .val (.int (31 : Int32))] []))) (fun _ k => XS.icmpNo X0.here hx rfl (hb hby d_jdk_33_method_47_code_22) rfl (flt hc9).1 k) ?_
      refine Goes.step (B := (s₁.setTop (mkF m 28 #[.val (.int c0), .val (.int (15 : Int32))] []))) (fun _ k => XS.iinc X0.here hx rfl (hb hby d_jdk_33_method_47_code_25) rfl (l' := #[.val (.int c0), .val (.int (15 : Int32))]) rfl k) ?_
      refine Goes.step (B := (s₁.setTop (mkF m 29 #[.val (.int c0), .val (.int (15 : Int32))] [(.int c0)]))) (fun _ k => XS.iloadN X0.here hx rfl (hb hby d_jdk_33_method_47_code_28) rfl k) ?_
      refine Goes.step (B := (s₁.setTop (mkF m 31 #[.val (.int c0), .val (.int (15 : Int32))] [(.int (16 : Int32)), (.int c0)]))) (fun _ k => XS.bipush X0.here hx rfl (hb hby d_jdk_33_method_47_code_29) k) ?_
      refine Goes.step (B := (s₁.setTop (mkF m 32 #[.val (.int c0), .val (.int (15 : Int32))] [(.int (c0.toUInt32 >>> ((16 : Int32) &&& 31).toUInt32).toInt32)]))) (fun _ k => XS.iushr X0.here hx rfl (hb hby d_jdk_33_method_47_code_31) rfl k) ?_
      refine Goes.step (B := (s₁.setTop (mkF m 33 #[.val (.int (c0.toUInt32 >>> ((16 : Int32) &&& 31).toUInt32).toInt32), .val (.int (15 : Int32))] []))) (fun _ k => XS.istoreN X0.here hx rfl (hb hby d_jdk_33_method_47_code_32) rfl (l' := #[.val (.int (c0.toUInt32 >>> ((16 : Int32) &&& 31).toUInt32).toInt32), .val (.int (15 : Int32))]) rfl k) ?_
      rw [show own_nlz_j22_0 c0 = (c0.toUInt32 >>> ((16 : Int32) &&& 31).toUInt32).toInt32 from by simp only [own_nlz_j22_0, own_nlz_j22_1, if_neg hc9]] at J2
      rw [show own_nlz_j22_1 c0 = (15 : Int32) from by simp only [own_nlz_j22_0, own_nlz_j22_1, if_neg hc9]] at J2
      exact J2
  · refine Goes.step (B := (s₁.setTop (mkF m 4 #[.val (.int c0), .unset] []))) (fun _ k => XS.ifNo X0.here hx rfl (hb hby d_jdk_33_method_47_code_1) rfl ((if0 _ _).trans (flt hc1).2.2.1) k) ?_
    refine Goes.step (B := (s₁.setTop (mkF m 5 #[.val (.int c0), .unset] [(.int c0)]))) (fun _ k => XS.iloadN X0.here hx rfl (hb hby d_jdk_33_method_47_code_4) rfl k) ?_
    by_cases hc10 : c0 = (0 : Int32)
    · refine Goes.step (B := (s₁.setTop (mkF m 8 #[.val (.int c0), .unset] []))) (fun _ k => XS.ifNo X0.here hx rfl (hb hby d_jdk_33_method_47_code_5) rfl ((if0 _ _).trans (teq hc10).2) k) ?_
      refine Goes.step (B := (s₁.setTop (mkF m 10 #[.val (.int c0), .unset] [(.int (32 : Int32))]))) (fun _ k => XS.bipush X0.here hx rfl (hb hby d_jdk_33_method_47_code_8) k) ?_
      refine Goes.step (B := (s₁.setTop (mkF m 14 #[.val (.int c0), .unset] [(.int (32 : Int32))]))) (fun _ k => XS.goto X0.here hx rfl (pc0 := 10) (pc' := 14) rfl (hb hby d_jdk_33_method_47_code_10) (by decide) (by decide) k) ?_
      refine Goes.retI X0 hx hlk hrt (hb hby d_jdk_33_method_47_code_14) ?_ (by decide) (by decide)
      rw [e0]
      exact ⟨congrArg (fun z => some (Value.int z)) (show (32 : Int32) = (own_nlz_fn c0) from (show (32 : Int32) = (32 : Int32) from rfl).trans (by simp only [own_nlz_fn, if_neg hc1, if_pos hc10])), N0, rfl⟩
    · refine Goes.step (B := (s₁.setTop (mkF m 13 #[.val (.int c0), .unset] []))) (fun _ k => XS.ifYes X0.here hx rfl (pc0 := 5) (pc' := 13) rfl (hb hby d_jdk_33_method_47_code_5) rfl ((if0 _ _).trans (feq hc10).2) (by decide) (by decide) k) ?_
      refine Goes.step (B := (s₁.setTop (mkF m 14 #[.val (.int c0), .unset] [(.int (0 : Int32))]))) (fun _ k => XS.iconst X0.here hx rfl (hb hby d_jdk_33_method_47_code_13) k) ?_
      refine Goes.retI X0 hx hlk hrt (hb hby d_jdk_33_method_47_code_14) ?_ (by decide) (by decide)
      rw [e0]
      exact ⟨congrArg (fun z => some (Value.int z)) (show (0 : Int32) = (own_nlz_fn c0) from (show (0 : Int32) = (0 : Int32) from rfl).trans (by simp only [own_nlz_fn, if_neg hc1, if_neg hc10])), N0, rfl⟩
theorem d_prog_44_method_5_code_0 : decode prog_44_method_5_code 0 = .ok (.iload_n 0, 1) := by decide +kernel
theorem d_prog_44_method_5_code_1 : decode prog_44_method_5_code 1 = .ok (.i2l, 1) := by decide +kernel
theorem d_prog_44_method_5_code_2 : decode prog_44_method_5_code 2 = .ok (.lstore_n 1, 1) := by decide +kernel
theorem d_prog_44_method_5_code_3 : decode prog_44_method_5_code 3 = .ok (.iload_n 0, 1) := by decide +kernel
theorem d_prog_44_method_5_code_4 : decode prog_44_method_5_code 4 = .ok (.bipush 16, 2) := by decide +kernel
theorem d_prog_44_method_5_code_6 : decode prog_44_method_5_code 6 = .ok (.if_icmp .lt 29, 3) := by decide +kernel
theorem d_prog_44_method_5_code_35 : decode prog_44_method_5_code 35 = .ok (.lload_n 1, 1) := by decide +kernel
theorem d_prog_44_method_5_code_36 : decode prog_44_method_5_code 36 = .ok (.lreturn, 1) := by decide +kernel
theorem d_prog_44_method_5_code_9 : decode prog_44_method_5_code 9 = .ok (.iload_n 0, 1) := by decide +kernel
theorem d_prog_44_method_5_code_10 : decode prog_44_method_5_code 10 = .ok (.bipush 16, 2) := by decide +kernel
theorem d_prog_44_method_5_code_12 : decode prog_44_method_5_code 12 = .ok (.idiv, 1) := by decide +kernel
theorem d_prog_44_method_5_code_13 : decode prog_44_method_5_code 13 = .ok (.iconst 1, 1) := by decide +kernel
theorem d_prog_44_method_5_code_14 : decode prog_44_method_5_code 14 = .ok (.isub, 1) := by decide +kernel
theorem d_prog_44_method_5_code_15 : decode prog_44_method_5_code 15 = .ok (.istore_n 3, 1) := by decide +kernel
theorem d_prog_44_method_5_code_16 : decode prog_44_method_5_code 16 = .ok (.bipush 16, 2) := by decide +kernel
theorem d_prog_44_method_5_code_18 : decode prog_44_method_5_code 18 = .ok (.iload_n 0, 1) := by decide +kernel
theorem d_prog_44_method_5_code_19 : decode prog_44_method_5_code 19 = .ok (.bipush 16, 2) := by decide +kernel
theorem d_prog_44_method_5_code_21 : decode prog_44_method_5_code 21 = .ok (.irem, 1) := by decide +kernel
theorem d_prog_44_method_5_code_22 : decode prog_44_method_5_code 22 = .ok (.iadd, 1) := by decide +kernel
theorem d_prog_44_method_5_code_23 : decode prog_44_method_5_code 23 = .ok (.i2l, 1) := by decide +kernel
theorem d_prog_44_method_5_code_24 : decode prog_44_method_5_code 24 = .ok (.lstore 4, 2) := by decide +kernel
theorem d_prog_44_method_5_code_26 : decode prog_44_method_5_code 26 = .ok (.lload 4, 2) := by decide +kernel
theorem d_prog_44_method_5_code_28 : decode prog_44_method_5_code 28 = .ok (.lconst 1, 1) := by decide +kernel
theorem d_prog_44_method_5_code_29 : decode prog_44_method_5_code 29 = .ok (.ladd, 1) := by decide +kernel
theorem d_prog_44_method_5_code_30 : decode prog_44_method_5_code 30 = .ok (.iload_n 3, 1) := by decide +kernel
theorem d_prog_44_method_5_code_31 : decode prog_44_method_5_code 31 = .ok (.lshl, 1) := by decide +kernel
theorem d_prog_44_method_5_code_32 : decode prog_44_method_5_code 32 = .ok (.lconst 1, 1) := by decide +kernel
theorem d_prog_44_method_5_code_33 : decode prog_44_method_5_code 33 = .ok (.lsub, 1) := by decide +kernel
theorem d_prog_44_method_5_code_34 : decode prog_44_method_5_code 34 = .ok (.lstore_n 1, 1) := by decide +kernel
def own_lg_fn (b0 : Int32) : Int64 := (if b0 < (16 : Int32) then b0.toInt64 else (((((16 : Int32) + (b0 % (16 : Int32))).toInt64 + (1 : Int64)) <<< (((b0 / (16 : Int32)) - (1 : Int32)) &&& 0x3f).toInt64) - (1 : Int64)))
def own_lg_Q (Z : State) (b0 : Int32)  (h0 : Heap) (n0 : Nat) (v : Option Value) (h : Heap) (L : List Loc) : Prop := v = some (.long (own_lg_fn b0)) ∧ Fr n0 L ∧ h = h0
theorem own_lg_ef (m : MethodId) (b0 : Int32) : entryFrame m #[(.int b0)] 6 = mkF m 0 #[.val (.int b0), .unset, .unset, .unset, .unset, .unset] [] := by first | (simp [entryFrame, mkF, argsToLocals, Value.category]; done) | rfl
theorem pn_RollingHistogram : plainName "com/example/breakwater/breakwater/core/RollingHistogram" = true := by first | (simp [plainName, overriddenIn]; done) | decide +kernel
set_option maxRecDepth 65536 in
set_option maxHeartbeats 40000000 in
theorem own_lg_rm (l : Launch) (Z : State) (a0 : Array Value) (hw : ∀ d ∈ tables_1, d.before a0 Z = true) (ws : List Jvm.Cond) (b0 : Int32)  (h0 : Heap) (n0 : Nat) (Z0 : n0 ≤ h0.size)  :
    MetFree l (⟨"com/example/breakwater/breakwater/core/RollingHistogram", "largestIn", "(I)J"⟩ : MethodName) (head1 (Jvm.Cond.code (⟨"com/example/breakwater/breakwater/core/RollingHistogram", "largestIn", "(I)J"⟩ : MethodName) prog_44_method_5_code 6 (some .long) :: ws) ({ frames := 0, cells := 0, slots := 0, locals := 0 } : Room)) (fun a U => a = #[(.int b0)] ∧ Z.Warmed39 U.vm ∧ U.heap = h0) (fun _ _ _ _ _ => True) (fun _ U o U' => ∃ v L, o = .returned v ∧ own_lg_Q Z b0 h0 n0 v U'.heap L ∧ FrameEnd U o U' L ({ frames := 0, cells := 0, slots := 0, locals := 0 } : Room).cells ({ frames := 0, cells := 0, slots := 0, locals := 0 } : Room).slots) := by
  refine MetFree.of_bodySF (plainFor_of_name pn_RollingHistogram) hisR ?_
  intro p e s m args below meth c s₁ Bd hml0 hP hK
  obtain ⟨rfl, hZ, hh⟩ := hP
  have hx := Bd.exec
  have hby := Bd.bytes
  have hml : c.maxLocals = 6 := hml0
  have hown : s.vm.findClass "com/example/breakwater/breakwater/core/RollingHistogram" = some m.cls := findClass_of_methodNamed Bd.named
  have hnm := (name_of_methodNamed Bd.named Bd.method).1
  have hlk : meth.locks = false := BodyLoose.notSynchronized Bd
  have hrt := Bd.returns
  have X0 : Stand p l e ({ frames := 0, cells := 0, slots := 0, locals := 0 } : Room) s m #[(.int b0)] below meth c s₁ [] 0 0 := Stand.of_body Bd
  have e0 : s₁.heap = h0 := by rw [← hh, Bd.state]; rfl
  have N0 := Fr.nil n0
  refine Goes.enter (kc := ({ frames := 0, cells := 0, slots := 0, locals := 0 } : Room).cells) (kn := ({ frames := 0, cells := 0, slots := 0, locals := 0 } : Room).slots) (Q := own_lg_Q Z b0 h0 n0) (own_lg_ef m b0) ?_
  refine Goes.step (B := (s₁.setTop (mkF m 1 #[.val (.int b0), .unset, .unset, .unset, .unset, .unset] [(.int b0)]))) (fun _ k => XS.iloadN X0.here hx rfl (hb hby d_prog_44_method_5_code_0) rfl k) ?_
  refine Goes.step (B := (s₁.setTop (mkF m 2 #[.val (.int b0), .unset, .unset, .unset, .unset, .unset] [(.long b0.toInt64)]))) (fun _ k => XS.i2l X0.here hx rfl (hb hby d_prog_44_method_5_code_1) rfl k) ?_
  refine Goes.step (B := (s₁.setTop (mkF m 3 #[.val (.int b0), .val (.long b0.toInt64), .second, .unset, .unset, .unset] []))) (fun _ k => XS.lstoreN X0.here hx rfl (hb hby d_prog_44_method_5_code_2) rfl (l' := #[.val (.int b0), .val (.long b0.toInt64), .second, .unset, .unset, .unset]) rfl k) ?_
  refine Goes.step (B := (s₁.setTop (mkF m 4 #[.val (.int b0), .val (.long b0.toInt64), .second, .unset, .unset, .unset] [(.int b0)]))) (fun _ k => XS.iloadN X0.here hx rfl (hb hby d_prog_44_method_5_code_3) rfl k) ?_
  refine Goes.step (B := (s₁.setTop (mkF m 6 #[.val (.int b0), .val (.long b0.toInt64), .second, .unset, .unset, .unset] [(.int (16 : Int32)), (.int b0)]))) (fun _ k => XS.bipush X0.here hx rfl (hb hby d_prog_44_method_5_code_4) k) ?_
  by_cases hc1 : b0 < (16 : Int32)
  · refine Goes.step (B := (s₁.setTop (mkF m 35 #[.val (.int b0), .val (.long b0.toInt64), .second, .unset, .unset, .unset] []))) (fun _ k => XS.icmpYes X0.here hx rfl (pc0 := 6) (pc' := 35) rfl (hb hby d_prog_44_method_5_code_6) rfl (tlt hc1).1 (by decide) (by decide) k) ?_
    refine Goes.step (B := (s₁.setTop (mkF m 36 #[.val (.int b0), .val (.long b0.toInt64), .second, .unset, .unset, .unset] [(.long b0.toInt64)]))) (fun _ k => XS.lloadN X0.here hx rfl (hb hby d_prog_44_method_5_code_35) rfl k) ?_
    refine Goes.retJ X0 hx hlk hrt (hb hby d_prog_44_method_5_code_36) ?_ (by decide) (by decide)
    rw [e0]
    exact ⟨congrArg (fun z => some (Value.long z)) (show b0.toInt64 = (own_lg_fn b0) from (show b0.toInt64 = b0.toInt64 from rfl).trans (by simp only [own_lg_fn, if_pos hc1])), N0, rfl⟩
  · refine Goes.step (B := (s₁.setTop (mkF m 9 #[.val (.int b0), .val (.long b0.toInt64), .second, .unset, .unset, .unset] []))) (fun _ k => XS.icmpNo X0.here hx rfl (hb hby d_prog_44_method_5_code_6) rfl (flt hc1).1 k) ?_
    refine Goes.step (B := (s₁.setTop (mkF m 10 #[.val (.int b0), .val (.long b0.toInt64), .second, .unset, .unset, .unset] [(.int b0)]))) (fun _ k => XS.iloadN X0.here hx rfl (hb hby d_prog_44_method_5_code_9) rfl k) ?_
    refine Goes.step (B := (s₁.setTop (mkF m 12 #[.val (.int b0), .val (.long b0.toInt64), .second, .unset, .unset, .unset] [(.int (16 : Int32)), (.int b0)]))) (fun _ k => XS.bipush X0.here hx rfl (hb hby d_prog_44_method_5_code_10) k) ?_
    refine Goes.step (B := (s₁.setTop (mkF m 13 #[.val (.int b0), .val (.long b0.toInt64), .second, .unset, .unset, .unset] [(.int (b0 / (16 : Int32)))]))) (fun _ k => XS.idiv X0.here hx rfl (hb hby d_prog_44_method_5_code_12) rfl (by decide) k) ?_
    refine Goes.step (B := (s₁.setTop (mkF m 14 #[.val (.int b0), .val (.long b0.toInt64), .second, .unset, .unset, .unset] [(.int (1 : Int32)), (.int (b0 / (16 : Int32)))]))) (fun _ k => XS.iconst X0.here hx rfl (hb hby d_prog_44_method_5_code_13) k) ?_
    refine Goes.step (B := (s₁.setTop (mkF m 15 #[.val (.int b0), .val (.long b0.toInt64), .second, .unset, .unset, .unset] [(.int ((b0 / (16 : Int32)) - (1 : Int32)))]))) (fun _ k => XS.isub X0.here hx rfl (hb hby d_prog_44_method_5_code_14) rfl k) ?_
    refine Goes.step (B := (s₁.setTop (mkF m 16 #[.val (.int b0), .val (.long b0.toInt64), .second, .val (.int ((b0 / (16 : Int32)) - (1 : Int32))), .unset, .unset] []))) (fun _ k => XS.istoreN X0.here hx rfl (hb hby d_prog_44_method_5_code_15) rfl (l' := #[.val (.int b0), .val (.long b0.toInt64), .second, .val (.int ((b0 / (16 : Int32)) - (1 : Int32))), .unset, .unset]) rfl k) ?_
    refine Goes.step (B := (s₁.setTop (mkF m 18 #[.val (.int b0), .val (.long b0.toInt64), .second, .val (.int ((b0 / (16 : Int32)) - (1 : Int32))), .unset, .unset] [(.int (16 : Int32))]))) (fun _ k => XS.bipush X0.here hx rfl (hb hby d_prog_44_method_5_code_16) k) ?_
    refine Goes.step (B := (s₁.setTop (mkF m 19 #[.val (.int b0), .val (.long b0.toInt64), .second, .val (.int ((b0 / (16 : Int32)) - (1 : Int32))), .unset, .unset] [(.int b0), (.int (16 : Int32))]))) (fun _ k => XS.iloadN X0.here hx rfl (hb hby d_prog_44_method_5_code_18) rfl k) ?_
    refine Goes.step (B := (s₁.setTop (mkF m 21 #[.val (.int b0), .val (.long b0.toInt64), .second, .val (.int ((b0 / (16 : Int32)) - (1 : Int32))), .unset, .unset] [(.int (16 : Int32)), (.int b0), (.int (16 : Int32))]))) (fun _ k => XS.bipush X0.here hx rfl (hb hby d_prog_44_method_5_code_19) k) ?_
    refine Goes.step (B := (s₁.setTop (mkF m 22 #[.val (.int b0), .val (.long b0.toInt64), .second, .val (.int ((b0 / (16 : Int32)) - (1 : Int32))), .unset, .unset] [(.int (b0 % (16 : Int32))), (.int (16 : Int32))]))) (fun _ k => iremM X0 hx rfl (hb hby d_prog_44_method_5_code_21) rfl (by decide) k) ?_
    refine Goes.step (B := (s₁.setTop (mkF m 23 #[.val (.int b0), .val (.long b0.toInt64), .second, .val (.int ((b0 / (16 : Int32)) - (1 : Int32))), .unset, .unset] [(.int ((16 : Int32) + (b0 % (16 : Int32))))]))) (fun _ k => XS.iadd X0.here hx rfl (hb hby d_prog_44_method_5_code_22) rfl k) ?_
    refine Goes.step (B := (s₁.setTop (mkF m 24 #[.val (.int b0), .val (.long b0.toInt64), .second, .val (.int ((b0 / (16 : Int32)) - (1 : Int32))), .unset, .unset] [(.long ((16 : Int32) + (b0 % (16 : Int32))).toInt64)]))) (fun _ k => XS.i2l X0.here hx rfl (hb hby d_prog_44_method_5_code_23) rfl k) ?_
    refine Goes.step (B := (s₁.setTop (mkF m 26 #[.val (.int b0), .val (.long b0.toInt64), .second, .val (.int ((b0 / (16 : Int32)) - (1 : Int32))), .val (.long ((16 : Int32) + (b0 % (16 : Int32))).toInt64), .second] []))) (fun _ k => XS.lstore X0.here hx rfl (hb hby d_prog_44_method_5_code_24) rfl (l' := #[.val (.int b0), .val (.long b0.toInt64), .second, .val (.int ((b0 / (16 : Int32)) - (1 : Int32))), .val (.long ((16 : Int32) + (b0 % (16 : Int32))).toInt64), .second]) rfl k) ?_
    refine Goes.step (B := (s₁.setTop (mkF m 28 #[.val (.int b0), .val (.long b0.toInt64), .second, .val (.int ((b0 / (16 : Int32)) - (1 : Int32))), .val (.long ((16 : Int32) + (b0 % (16 : Int32))).toInt64), .second] [(.long ((16 : Int32) + (b0 % (16 : Int32))).toInt64)]))) (fun _ k => XS.lload X0.here hx rfl (hb hby d_prog_44_method_5_code_26) rfl k) ?_
    refine Goes.step (B := (s₁.setTop (mkF m 29 #[.val (.int b0), .val (.long b0.toInt64), .second, .val (.int ((b0 / (16 : Int32)) - (1 : Int32))), .val (.long ((16 : Int32) + (b0 % (16 : Int32))).toInt64), .second] [(.long (1 : Int64)), (.long ((16 : Int32) + (b0 % (16 : Int32))).toInt64)]))) (fun _ k => XS.lconst X0.here hx rfl (hb hby d_prog_44_method_5_code_28) k) ?_
    refine Goes.step (B := (s₁.setTop (mkF m 30 #[.val (.int b0), .val (.long b0.toInt64), .second, .val (.int ((b0 / (16 : Int32)) - (1 : Int32))), .val (.long ((16 : Int32) + (b0 % (16 : Int32))).toInt64), .second] [(.long (((16 : Int32) + (b0 % (16 : Int32))).toInt64 + (1 : Int64)))]))) (fun _ k => XS.ladd X0.here hx rfl (hb hby d_prog_44_method_5_code_29) rfl k) ?_
    refine Goes.step (B := (s₁.setTop (mkF m 31 #[.val (.int b0), .val (.long b0.toInt64), .second, .val (.int ((b0 / (16 : Int32)) - (1 : Int32))), .val (.long ((16 : Int32) + (b0 % (16 : Int32))).toInt64), .second] [(.int ((b0 / (16 : Int32)) - (1 : Int32))), (.long (((16 : Int32) + (b0 % (16 : Int32))).toInt64 + (1 : Int64)))]))) (fun _ k => XS.iloadN X0.here hx rfl (hb hby d_prog_44_method_5_code_30) rfl k) ?_
    refine Goes.step (B := (s₁.setTop (mkF m 32 #[.val (.int b0), .val (.long b0.toInt64), .second, .val (.int ((b0 / (16 : Int32)) - (1 : Int32))), .val (.long ((16 : Int32) + (b0 % (16 : Int32))).toInt64), .second] [(.long ((((16 : Int32) + (b0 % (16 : Int32))).toInt64 + (1 : Int64)) <<< (((b0 / (16 : Int32)) - (1 : Int32)) &&& 0x3f).toInt64))]))) (fun _ k => XS.lshl X0.here hx rfl (hb hby d_prog_44_method_5_code_31) rfl k) ?_
    refine Goes.step (B := (s₁.setTop (mkF m 33 #[.val (.int b0), .val (.long b0.toInt64), .second, .val (.int ((b0 / (16 : Int32)) - (1 : Int32))), .val (.long ((16 : Int32) + (b0 % (16 : Int32))).toInt64), .second] [(.long (1 : Int64)), (.long ((((16 : Int32) + (b0 % (16 : Int32))).toInt64 + (1 : Int64)) <<< (((b0 / (16 : Int32)) - (1 : Int32)) &&& 0x3f).toInt64))]))) (fun _ k => XS.lconst X0.here hx rfl (hb hby d_prog_44_method_5_code_32) k) ?_
    refine Goes.step (B := (s₁.setTop (mkF m 34 #[.val (.int b0), .val (.long b0.toInt64), .second, .val (.int ((b0 / (16 : Int32)) - (1 : Int32))), .val (.long ((16 : Int32) + (b0 % (16 : Int32))).toInt64), .second] [(.long (((((16 : Int32) + (b0 % (16 : Int32))).toInt64 + (1 : Int64)) <<< (((b0 / (16 : Int32)) - (1 : Int32)) &&& 0x3f).toInt64) - (1 : Int64)))]))) (fun _ k => XS.lsub X0.here hx rfl (hb hby d_prog_44_method_5_code_33) rfl k) ?_
    refine Goes.step (B := (s₁.setTop (mkF m 35 #[.val (.int b0), .val (.long (((((16 : Int32) + (b0 % (16 : Int32))).toInt64 + (1 : Int64)) <<< (((b0 / (16 : Int32)) - (1 : Int32)) &&& 0x3f).toInt64) - (1 : Int64))), .second, .val (.int ((b0 / (16 : Int32)) - (1 : Int32))), .val (.long ((16 : Int32) + (b0 % (16 : Int32))).toInt64), .second] []))) (fun _ k => XS.lstoreN X0.here hx rfl (hb hby d_prog_44_method_5_code_34) rfl (l' := #[.val (.int b0), .val (.long (((((16 : Int32) + (b0 % (16 : Int32))).toInt64 + (1 : Int64)) <<< (((b0 / (16 : Int32)) - (1 : Int32)) &&& 0x3f).toInt64) - (1 : Int64))), .second, .val (.int ((b0 / (16 : Int32)) - (1 : Int32))), .val (.long ((16 : Int32) + (b0 % (16 : Int32))).toInt64), .second]) rfl k) ?_
    refine Goes.step (B := (s₁.setTop (mkF m 36 #[.val (.int b0), .val (.long (((((16 : Int32) + (b0 % (16 : Int32))).toInt64 + (1 : Int64)) <<< (((b0 / (16 : Int32)) - (1 : Int32)) &&& 0x3f).toInt64) - (1 : Int64))), .second, .val (.int ((b0 / (16 : Int32)) - (1 : Int32))), .val (.long ((16 : Int32) + (b0 % (16 : Int32))).toInt64), .second] [(.long (((((16 : Int32) + (b0 % (16 : Int32))).toInt64 + (1 : Int64)) <<< (((b0 / (16 : Int32)) - (1 : Int32)) &&& 0x3f).toInt64) - (1 : Int64)))]))) (fun _ k => XS.lloadN X0.here hx rfl (hb hby d_prog_44_method_5_code_35) rfl k) ?_
    refine Goes.retJ X0 hx hlk hrt (hb hby d_prog_44_method_5_code_36) ?_ (by decide) (by decide)
    rw [e0]
    exact ⟨congrArg (fun z => some (Value.long z)) (show (((((16 : Int32) + (b0 % (16 : Int32))).toInt64 + (1 : Int64)) <<< (((b0 / (16 : Int32)) - (1 : Int32)) &&& 0x3f).toInt64) - (1 : Int64)) = (own_lg_fn b0) from (show (((((16 : Int32) + (b0 % (16 : Int32))).toInt64 + (1 : Int64)) <<< (((b0 / (16 : Int32)) - (1 : Int32)) &&& 0x3f).toInt64) - (1 : Int64)) = (((((16 : Int32) + (b0 % (16 : Int32))).toInt64 + (1 : Int64)) <<< (((b0 / (16 : Int32)) - (1 : Int32)) &&& 0x3f).toInt64) - (1 : Int64)) from rfl).trans (by simp only [own_lg_fn, if_neg hc1])), N0, rfl⟩
theorem d_prog_44_method_4_code_0 : decode prog_44_method_4_code 0 = .ok (.lconst 0, 1) := by decide +kernel
theorem d_prog_44_method_4_code_1 : decode prog_44_method_4_code 1 = .ok (.lload_n 0, 1) := by decide +kernel
theorem d_prog_44_method_4_code_2 : decode prog_44_method_4_code 2 = .ok (.ldc2_w 37, 3) := by decide +kernel
theorem d_prog_44_method_4_code_5 : decode prog_44_method_4_code 5 = .ok (.invokestatic 39, 3) := by decide +kernel
theorem pd__JJ_J : parseMethodDescriptor "(JJ)J" = some ⟨[.long, .long], some .long⟩ := by decide +kernel
theorem d_prog_44_method_4_code_8 : decode prog_44_method_4_code 8 = .ok (.invokestatic 45, 3) := by decide +kernel
theorem d_prog_44_method_4_code_11 : decode prog_44_method_4_code 11 = .ok (.l2i, 1) := by decide +kernel
theorem d_prog_44_method_4_code_12 : decode prog_44_method_4_code 12 = .ok (.istore_n 2, 1) := by decide +kernel
theorem d_prog_44_method_4_code_13 : decode prog_44_method_4_code 13 = .ok (.iload_n 2, 1) := by decide +kernel
theorem d_prog_44_method_4_code_14 : decode prog_44_method_4_code 14 = .ok (.istore_n 3, 1) := by decide +kernel
theorem d_prog_44_method_4_code_15 : decode prog_44_method_4_code 15 = .ok (.iload_n 2, 1) := by decide +kernel
theorem d_prog_44_method_4_code_16 : decode prog_44_method_4_code 16 = .ok (.bipush 16, 2) := by decide +kernel
theorem d_prog_44_method_4_code_18 : decode prog_44_method_4_code 18 = .ok (.if_icmp .lt 30, 3) := by decide +kernel
theorem d_prog_44_method_4_code_48 : decode prog_44_method_4_code 48 = .ok (.iload_n 3, 1) := by decide +kernel
theorem d_prog_44_method_4_code_49 : decode prog_44_method_4_code 49 = .ok (.ireturn, 1) := by decide +kernel
theorem d_prog_44_method_4_code_21 : decode prog_44_method_4_code 21 = .ok (.bipush 31, 2) := by decide +kernel
theorem d_prog_44_method_4_code_23 : decode prog_44_method_4_code 23 = .ok (.iload_n 2, 1) := by decide +kernel
theorem d_prog_44_method_4_code_24 : decode prog_44_method_4_code 24 = .ok (.invokestatic 48, 3) := by decide +kernel
theorem pd__I_I : parseMethodDescriptor "(I)I" = some ⟨[.int], some .int⟩ := by decide +kernel
theorem d_prog_44_method_4_code_27 : decode prog_44_method_4_code 27 = .ok (.isub, 1) := by decide +kernel
theorem d_prog_44_method_4_code_28 : decode prog_44_method_4_code 28 = .ok (.iconst 4, 1) := by decide +kernel
theorem d_prog_44_method_4_code_29 : decode prog_44_method_4_code 29 = .ok (.isub, 1) := by decide +kernel
theorem d_prog_44_method_4_code_30 : decode prog_44_method_4_code 30 = .ok (.istore 4, 2) := by decide +kernel
theorem d_prog_44_method_4_code_32 : decode prog_44_method_4_code 32 = .ok (.bipush 16, 2) := by decide +kernel
theorem d_prog_44_method_4_code_34 : decode prog_44_method_4_code 34 = .ok (.iload 4, 2) := by decide +kernel
theorem d_prog_44_method_4_code_36 : decode prog_44_method_4_code 36 = .ok (.iconst 1, 1) := by decide +kernel
theorem d_prog_44_method_4_code_37 : decode prog_44_method_4_code 37 = .ok (.iadd, 1) := by decide +kernel
theorem d_prog_44_method_4_code_38 : decode prog_44_method_4_code 38 = .ok (.imul, 1) := by decide +kernel
theorem d_prog_44_method_4_code_39 : decode prog_44_method_4_code 39 = .ok (.iload_n 2, 1) := by decide +kernel
theorem d_prog_44_method_4_code_40 : decode prog_44_method_4_code 40 = .ok (.iload 4, 2) := by decide +kernel
theorem d_prog_44_method_4_code_42 : decode prog_44_method_4_code 42 = .ok (.iushr, 1) := by decide +kernel
theorem d_prog_44_method_4_code_43 : decode prog_44_method_4_code 43 = .ok (.iadd, 1) := by decide +kernel
theorem d_prog_44_method_4_code_44 : decode prog_44_method_4_code 44 = .ok (.bipush 16, 2) := by decide +kernel
theorem d_prog_44_method_4_code_46 : decode prog_44_method_4_code 46 = .ok (.isub, 1) := by decide +kernel
theorem d_prog_44_method_4_code_47 : decode prog_44_method_4_code 47 = .ok (.istore_n 3, 1) := by decide +kernel
def own_v (v0 : Int64) : Int32 := (own_max_fn (0 : Int64) (own_min_fn v0 (2147483647 : Int64))).toInt32
def own_e (v0 : Int64) : Int32 := (((31 : Int32) - (own_nlz_fn (own_v v0))) - (4 : Int32))
def own_bin_fn (v0 : Int64) : Int32 := (if (own_v v0) < (16 : Int32) then (own_v v0) else ((((16 : Int32) * ((own_e v0) + (1 : Int32))) + ((own_v v0).toUInt32 >>> ((own_e v0) &&& 31).toUInt32).toInt32) - (16 : Int32)))
def own_bin_Q (Z : State) (v0 : Int64)  (h0 : Heap) (n0 : Nat) (v : Option Value) (h : Heap) (L : List Loc) : Prop := v = some (.int (own_bin_fn v0)) ∧ Fr n0 L ∧ h = h0
theorem own_bin_ef (m : MethodId) (v0 : Int64) : entryFrame m #[(.long v0)] 5 = mkF m 0 #[.val (.long v0), .second, .unset, .unset, .unset] [] := by first | (simp [entryFrame, mkF, argsToLocals, Value.category]; done) | rfl
set_option maxRecDepth 65536 in
set_option maxHeartbeats 40000000 in
theorem own_bin_rm (l : Launch) (Z : State) (a0 : Array Value) (hw : ∀ d ∈ tables_1, d.before a0 Z = true) (ws : List Jvm.Cond) (v0 : Int64)  (h0 : Heap) (n0 : Nat) (Z0 : n0 ≤ h0.size)  :
    MetFree l (⟨"com/example/breakwater/breakwater/core/RollingHistogram", "binOf", "(J)I"⟩ : MethodName) (head1 (Jvm.Cond.code (⟨"com/example/breakwater/breakwater/core/RollingHistogram", "binOf", "(J)I"⟩ : MethodName) prog_44_method_4_code 5 (some .int) :: ws) ({ frames := 1, cells := 0, slots := 0, locals := 17 } : Room)) (fun a U => a = #[(.long v0)] ∧ Z.Warmed39 U.vm ∧ U.heap = h0) (fun _ _ _ _ _ => True) (fun _ U o U' => ∃ v L, o = .returned v ∧ own_bin_Q Z v0 h0 n0 v U'.heap L ∧ FrameEnd U o U' L ({ frames := 1, cells := 0, slots := 0, locals := 17 } : Room).cells ({ frames := 1, cells := 0, slots := 0, locals := 17 } : Room).slots) := by
  refine MetFree.of_bodySF (plainFor_of_name pn_RollingHistogram) hisR ?_
  intro p e s m args below meth c s₁ Bd hml0 hP hK
  obtain ⟨rfl, hZ, hh⟩ := hP
  have hx := Bd.exec
  have hby := Bd.bytes
  have hml : c.maxLocals = 5 := hml0
  have hown : s.vm.findClass "com/example/breakwater/breakwater/core/RollingHistogram" = some m.cls := findClass_of_methodNamed Bd.named
  have hnm := (name_of_methodNamed Bd.named Bd.method).1
  have hlk : meth.locks = false := BodyLoose.notSynchronized Bd
  have hrt := Bd.returns
  have X0 : Stand p l e ({ frames := 1, cells := 0, slots := 0, locals := 17 } : Room) s m #[(.long v0)] below meth c s₁ [] 0 0 := Stand.of_body Bd
  have e0 : s₁.heap = h0 := by rw [← hh, Bd.state]; rfl
  have N0 := Fr.nil n0
  refine Goes.enter (kc := ({ frames := 1, cells := 0, slots := 0, locals := 17 } : Room).cells) (kn := ({ frames := 1, cells := 0, slots := 0, locals := 17 } : Room).slots) (Q := own_bin_Q Z v0 h0 n0) (own_bin_ef m v0) ?_
  refine Goes.step (B := (s₁.setTop (mkF m 1 #[.val (.long v0), .second, .unset, .unset, .unset] [(.long (0 : Int64))]))) (fun _ k => XS.lconst X0.here hx rfl (hb hby d_prog_44_method_4_code_0) k) ?_
  refine Goes.step (B := (s₁.setTop (mkF m 2 #[.val (.long v0), .second, .unset, .unset, .unset] [(.long v0), (.long (0 : Int64))]))) (fun _ k => XS.lloadN X0.here hx rfl (hb hby d_prog_44_method_4_code_1) rfl k) ?_
  refine Goes.step (B := (s₁.setTop (mkF m 5 #[.val (.long v0), .second, .unset, .unset, .unset] [(.long (2147483647 : Int64)), (.long v0), (.long (0 : Int64))]))) (fun _ k => X0.ldc2Long hx hown (mvT hZ (hw _ (List.mem_of_getElem? (i := 8) rfl))) (g := (mkF m 2 #[.val (.long v0), .second, .unset, .unset, .unset] [(.long v0), (.long (0 : Int64))])) rfl (hb hby d_prog_44_method_4_code_2) _ k) ?_
  obtain ⟨_, _, ⟨T1, L1, k1, n1⟩, -, X1, ⟨Lc1, hQ1, l1, y1, z1⟩, st1⟩ := Jvm.LawKit.callS X0 hx (y := (⟨"java/lang/Math", "min", "(JJ)J"⟩ : MethodName)) hown (mvT hZ (hw _ (List.mem_of_getElem? (i := 9) rfl))) (mvT hZ (hw _ (List.mem_of_getElem? (i := 10) rfl))) (mvT hZ (hw _ (List.mem_of_getElem? (i := 11) rfl))) (mvT hZ (hw _ (List.mem_of_getElem? (i := 12) rfl))) (by decide) (backOf (W := 2) (own_min_rm l Z a0 hw [] v0 (2147483647 : Int64)  h0 n0 Z0 ) hZ (hw _ (List.mem_of_getElem? (i := 12) rfl)) (hw _ (List.mem_of_getElem? (i := 11) rfl)) (by decide) (by decide)) (g := (mkF m 5 #[.val (.long v0), .second, .unset, .unset, .unset] [(.long (2147483647 : Int64)), (.long v0), (.long (0 : Int64))])) rfl (by rw [hml]; rfl) (argsL := [(.long v0), (.long (2147483647 : Int64))]) (rest := [(.long (0 : Int64))]) (lenOf pd__JJ_J rfl) rfl (by show 2 * 0 + _ ≤ _; exact Nat.le_of_eq rfl) (hb hby d_prog_44_method_4_code_5) (fun _ _ => ⟨rfl, e0, (by decide : 0 + 0 ≤ _), (by decide : 0 + 0 ≤ _)⟩)
  dsimp only [Pt.U, Pt.locs, Pt.cells, Pt.slots] at X1 l1 y1 z1 st1 hQ1
  subst l1 y1 z1
  obtain ⟨rfl, N1q, e1⟩ := hQ1
  have N1 := Fr.app N0 N1q
  refine Goes.step (B := (T1.setTop (mkF m 8 #[.val (.long v0), .second, .unset, .unset, .unset] [(.long (own_min_fn v0 (2147483647 : Int64))), (.long (0 : Int64))]))) (fun _ k => st1 _ k) ?_
  obtain ⟨_, _, ⟨T2, L2, k2, n2⟩, -, X2, ⟨Lc2, hQ2, l2, y2, z2⟩, st2⟩ := Jvm.LawKit.callS X1 hx (y := (⟨"java/lang/Math", "max", "(JJ)J"⟩ : MethodName)) hown (mvT hZ (hw _ (List.mem_of_getElem? (i := 13) rfl))) (mvT hZ (hw _ (List.mem_of_getElem? (i := 14) rfl))) (mvT hZ (hw _ (List.mem_of_getElem? (i := 11) rfl))) (mvT hZ (hw _ (List.mem_of_getElem? (i := 15) rfl))) (by decide) (backOf (W := 0) (own_max_rm l Z a0 hw [] (0 : Int64) (own_min_fn v0 (2147483647 : Int64))  h0 n0 Z0 ) hZ (hw _ (List.mem_of_getElem? (i := 15) rfl)) (hw _ (List.mem_of_getElem? (i := 11) rfl)) (by decide) (by decide)) (g := (mkF m 8 #[.val (.long v0), .second, .unset, .unset, .unset] [(.long (own_min_fn v0 (2147483647 : Int64))), (.long (0 : Int64))])) rfl (by rw [hml]; rfl) (argsL := [(.long (0 : Int64)), (.long (own_min_fn v0 (2147483647 : Int64)))]) (rest := []) (lenOf pd__JJ_J rfl) rfl (by show 2 * 0 + _ ≤ _; exact Nat.le_of_eq rfl) (hb hby d_prog_44_method_4_code_8) (fun _ _ => ⟨rfl, e1, (by decide : 0 + 0 ≤ _), (by decide : 0 + 0 ≤ _)⟩)
  dsimp only [Pt.U, Pt.locs, Pt.cells, Pt.slots] at X2 l2 y2 z2 st2 hQ2
  subst l2 y2 z2
  obtain ⟨rfl, N2q, e2⟩ := hQ2
  have N2 := Fr.app N1 N2q
  refine Goes.step (B := (T2.setTop (mkF m 11 #[.val (.long v0), .second, .unset, .unset, .unset] [(.long (own_max_fn (0 : Int64) (own_min_fn v0 (2147483647 : Int64))))]))) (fun _ k => st2 _ k) ?_
  refine Goes.step (B := (T2.setTop (mkF m 12 #[.val (.long v0), .second, .unset, .unset, .unset] [(.int (own_max_fn (0 : Int64) (own_min_fn v0 (2147483647 : Int64))).toInt32)]))) (fun _ k => XS.l2i X2.here hx rfl (hb hby d_prog_44_method_4_code_11) rfl k) ?_
  refine Goes.step (B := (T2.setTop (mkF m 13 #[.val (.long v0), .second, .val (.int (own_v v0)), .unset, .unset] []))) (fun _ k => XS.istoreN X2.here hx rfl (hb hby d_prog_44_method_4_code_12) rfl (l' := #[.val (.long v0), .second, .val (.int (own_v v0)), .unset, .unset]) rfl k) ?_
  refine Goes.step (B := (T2.setTop (mkF m 14 #[.val (.long v0), .second, .val (.int (own_v v0)), .unset, .unset] [(.int (own_v v0))]))) (fun _ k => XS.iloadN X2.here hx rfl (hb hby d_prog_44_method_4_code_13) rfl k) ?_
  refine Goes.step (B := (T2.setTop (mkF m 15 #[.val (.long v0), .second, .val (.int (own_v v0)), .val (.int (own_v v0)), .unset] []))) (fun _ k => XS.istoreN X2.here hx rfl (hb hby d_prog_44_method_4_code_14) rfl (l' := #[.val (.long v0), .second, .val (.int (own_v v0)), .val (.int (own_v v0)), .unset]) rfl k) ?_
  refine Goes.step (B := (T2.setTop (mkF m 16 #[.val (.long v0), .second, .val (.int (own_v v0)), .val (.int (own_v v0)), .unset] [(.int (own_v v0))]))) (fun _ k => XS.iloadN X2.here hx rfl (hb hby d_prog_44_method_4_code_15) rfl k) ?_
  refine Goes.step (B := (T2.setTop (mkF m 18 #[.val (.long v0), .second, .val (.int (own_v v0)), .val (.int (own_v v0)), .unset] [(.int (16 : Int32)), (.int (own_v v0))]))) (fun _ k => XS.bipush X2.here hx rfl (hb hby d_prog_44_method_4_code_16) k) ?_
  by_cases hc3 : (own_v v0) < (16 : Int32)
  · refine Goes.step (B := (T2.setTop (mkF m 48 #[.val (.long v0), .second, .val (.int (own_v v0)), .val (.int (own_v v0)), .unset] []))) (fun _ k => XS.icmpYes X2.here hx rfl (pc0 := 18) (pc' := 48) rfl (hb hby d_prog_44_method_4_code_18) rfl (tlt hc3).1 (by decide) (by decide) k) ?_
    refine Goes.step (B := (T2.setTop (mkF m 49 #[.val (.long v0), .second, .val (.int (own_v v0)), .val (.int (own_v v0)), .unset] [(.int (own_v v0))]))) (fun _ k => XS.iloadN X2.here hx rfl (hb hby d_prog_44_method_4_code_48) rfl k) ?_
    refine Goes.retI X2 hx hlk hrt (hb hby d_prog_44_method_4_code_49) ?_ (by decide) (by decide)
    rw [e2]
    exact ⟨congrArg (fun z => some (Value.int z)) (show (own_v v0) = (own_bin_fn v0) from (show (own_v v0) = (own_v v0) from rfl).trans (by simp only [own_bin_fn, if_pos hc3])), N2, rfl⟩
  · refine Goes.step (B := (T2.setTop (mkF m 21 #[.val (.long v0), .second, .val (.int (own_v v0)), .val (.int (own_v v0)), .unset] []))) (fun _ k => XS.icmpNo X2.here hx rfl (hb hby d_prog_44_method_4_code_18) rfl (flt hc3).1 k) ?_
    refine Goes.step (B := (T2.setTop (mkF m 23 #[.val (.long v0), .second, .val (.int (own_v v0)), .val (.int (own_v v0)), .unset] [(.int (31 : Int32))]))) (fun _ k => XS.bipush X2.here hx rfl (hb hby d_prog_44_method_4_code_21) k) ?_
    refine Goes.step (B := (T2.setTop (mkF m 24 #[.val (.long v0), .second, .val (.int (own_v v0)), .val (.int (own_v v0)), .unset] [(.int (own_v v0)), (.int (31 : Int32))]))) (fun _ k => XS.iloadN X2.here hx rfl (hb hby d_prog_44_method_4_code_23) rfl k) ?_
    obtain ⟨_, _, ⟨T4, L4, k4, n4⟩, -, X4, ⟨Lc4, hQ4, l4, y4, z4⟩, st4⟩ := Jvm.LawKit.callS X2 hx (y := (⟨"java/lang/Integer", "numberOfLeadingZeros", "(I)I"⟩ : MethodName)) hown (mvT hZ (hw _ (List.mem_of_getElem? (i := 16) rfl))) (mvT hZ (hw _ (List.mem_of_getElem? (i := 17) rfl))) (mvT hZ (hw _ (List.mem_of_getElem? (i := 18) rfl))) (mvT hZ (hw _ (List.mem_of_getElem? (i := 19) rfl))) (by decide) (backOf (W := 1) (own_nlz_rm l Z a0 hw [] (own_v v0)  h0 n0 Z0 ) hZ (hw _ (List.mem_of_getElem? (i := 19) rfl)) (hw _ (List.mem_of_getElem? (i := 18) rfl)) (by decide) (by decide)) (g := (mkF m 24 #[.val (.long v0), .second, .val (.int (own_v v0)), .val (.int (own_v v0)), .unset] [(.int (own_v v0)), (.int (31 : Int32))])) rfl (by rw [hml]; rfl) (argsL := [(.int (own_v v0))]) (rest := [(.int (31 : Int32))]) (lenOf pd__I_I rfl) rfl (by show 2 * 0 + _ ≤ _; exact Nat.le_of_eq rfl) (hb hby d_prog_44_method_4_code_24) (fun _ _ => ⟨rfl, e2, (by decide : 0 + 0 ≤ _), (by decide : 0 + 0 ≤ _)⟩)
    dsimp only [Pt.U, Pt.locs, Pt.cells, Pt.slots] at X4 l4 y4 z4 st4 hQ4
    subst l4 y4 z4
    obtain ⟨rfl, N4q, e4⟩ := hQ4
    have N4 := Fr.app N2 N4q
    refine Goes.step (B := (T4.setTop (mkF m 27 #[.val (.long v0), .second, .val (.int (own_v v0)), .val (.int (own_v v0)), .unset] [(.int (own_nlz_fn (own_v v0))), (.int (31 : Int32))]))) (fun _ k => st4 _ k) ?_
    refine Goes.step (B := (T4.setTop (mkF m 28 #[.val (.long v0), .second, .val (.int (own_v v0)), .val (.int (own_v v0)), .unset] [(.int ((31 : Int32) - (own_nlz_fn (own_v v0))))]))) (fun _ k => XS.isub X4.here hx rfl (hb hby d_prog_44_method_4_code_27) rfl k) ?_
    refine Goes.step (B := (T4.setTop (mkF m 29 #[.val (.long v0), .second, .val (.int (own_v v0)), .val (.int (own_v v0)), .unset] [(.int (4 : Int32)), (.int ((31 : Int32) - (own_nlz_fn (own_v v0))))]))) (fun _ k => XS.iconst X4.here hx rfl (hb hby d_prog_44_method_4_code_28) k) ?_
    refine Goes.step (B := (T4.setTop (mkF m 30 #[.val (.long v0), .second, .val (.int (own_v v0)), .val (.int (own_v v0)), .unset] [(.int (((31 : Int32) - (own_nlz_fn (own_v v0))) - (4 : Int32)))]))) (fun _ k => XS.isub X4.here hx rfl (hb hby d_prog_44_method_4_code_29) rfl k) ?_
    refine Goes.step (B := (T4.setTop (mkF m 32 #[.val (.long v0), .second, .val (.int (own_v v0)), .val (.int (own_v v0)), .val (.int (own_e v0))] []))) (fun _ k => XS.istore X4.here hx rfl (hb hby d_prog_44_method_4_code_30) rfl (l' := #[.val (.long v0), .second, .val (.int (own_v v0)), .val (.int (own_v v0)), .val (.int (own_e v0))]) rfl k) ?_
    refine Goes.step (B := (T4.setTop (mkF m 34 #[.val (.long v0), .second, .val (.int (own_v v0)), .val (.int (own_v v0)), .val (.int (own_e v0))] [(.int (16 : Int32))]))) (fun _ k => XS.bipush X4.here hx rfl (hb hby d_prog_44_method_4_code_32) k) ?_
    refine Goes.step (B := (T4.setTop (mkF m 36 #[.val (.long v0), .second, .val (.int (own_v v0)), .val (.int (own_v v0)), .val (.int (own_e v0))] [(.int (own_e v0)), (.int (16 : Int32))]))) (fun _ k => XS.iload X4.here hx rfl (hb hby d_prog_44_method_4_code_34) rfl k) ?_
    refine Goes.step (B := (T4.setTop (mkF m 37 #[.val (.long v0), .second, .val (.int (own_v v0)), .val (.int (own_v v0)), .val (.int (own_e v0))] [(.int (1 : Int32)), (.int (own_e v0)), (.int (16 : Int32))]))) (fun _ k => XS.iconst X4.here hx rfl (hb hby d_prog_44_method_4_code_36) k) ?_
    refine Goes.step (B := (T4.setTop (mkF m 38 #[.val (.long v0), .second, .val (.int (own_v v0)), .val (.int (own_v v0)), .val (.int (own_e v0))] [(.int ((own_e v0) + (1 : Int32))), (.int (16 : Int32))]))) (fun _ k => XS.iadd X4.here hx rfl (hb hby d_prog_44_method_4_code_37) rfl k) ?_
    refine Goes.step (B := (T4.setTop (mkF m 39 #[.val (.long v0), .second, .val (.int (own_v v0)), .val (.int (own_v v0)), .val (.int (own_e v0))] [(.int ((16 : Int32) * ((own_e v0) + (1 : Int32))))]))) (fun _ k => XS.imul X4.here hx rfl (hb hby d_prog_44_method_4_code_38) rfl k) ?_
    refine Goes.step (B := (T4.setTop (mkF m 40 #[.val (.long v0), .second, .val (.int (own_v v0)), .val (.int (own_v v0)), .val (.int (own_e v0))] [(.int (own_v v0)), (.int ((16 : Int32) * ((own_e v0) + (1 : Int32))))]))) (fun _ k => XS.iloadN X4.here hx rfl (hb hby d_prog_44_method_4_code_39) rfl k) ?_
    refine Goes.step (B := (T4.setTop (mkF m 42 #[.val (.long v0), .second, .val (.int (own_v v0)), .val (.int (own_v v0)), .val (.int (own_e v0))] [(.int (own_e v0)), (.int (own_v v0)), (.int ((16 : Int32) * ((own_e v0) + (1 : Int32))))]))) (fun _ k => XS.iload X4.here hx rfl (hb hby d_prog_44_method_4_code_40) rfl k) ?_
    refine Goes.step (B := (T4.setTop (mkF m 43 #[.val (.long v0), .second, .val (.int (own_v v0)), .val (.int (own_v v0)), .val (.int (own_e v0))] [(.int ((own_v v0).toUInt32 >>> ((own_e v0) &&& 31).toUInt32).toInt32), (.int ((16 : Int32) * ((own_e v0) + (1 : Int32))))]))) (fun _ k => XS.iushr X4.here hx rfl (hb hby d_prog_44_method_4_code_42) rfl k) ?_
    refine Goes.step (B := (T4.setTop (mkF m 44 #[.val (.long v0), .second, .val (.int (own_v v0)), .val (.int (own_v v0)), .val (.int (own_e v0))] [(.int (((16 : Int32) * ((own_e v0) + (1 : Int32))) + ((own_v v0).toUInt32 >>> ((own_e v0) &&& 31).toUInt32).toInt32))]))) (fun _ k => XS.iadd X4.here hx rfl (hb hby d_prog_44_method_4_code_43) rfl k) ?_
    refine Goes.step (B := (T4.setTop (mkF m 46 #[.val (.long v0), .second, .val (.int (own_v v0)), .val (.int (own_v v0)), .val (.int (own_e v0))] [(.int (16 : Int32)), (.int (((16 : Int32) * ((own_e v0) + (1 : Int32))) + ((own_v v0).toUInt32 >>> ((own_e v0) &&& 31).toUInt32).toInt32))]))) (fun _ k => XS.bipush X4.here hx rfl (hb hby d_prog_44_method_4_code_44) k) ?_
    refine Goes.step (B := (T4.setTop (mkF m 47 #[.val (.long v0), .second, .val (.int (own_v v0)), .val (.int (own_v v0)), .val (.int (own_e v0))] [(.int ((((16 : Int32) * ((own_e v0) + (1 : Int32))) + ((own_v v0).toUInt32 >>> ((own_e v0) &&& 31).toUInt32).toInt32) - (16 : Int32)))]))) (fun _ k => XS.isub X4.here hx rfl (hb hby d_prog_44_method_4_code_46) rfl k) ?_
    refine Goes.step (B := (T4.setTop (mkF m 48 #[.val (.long v0), .second, .val (.int (own_v v0)), .val (.int ((((16 : Int32) * ((own_e v0) + (1 : Int32))) + ((own_v v0).toUInt32 >>> ((own_e v0) &&& 31).toUInt32).toInt32) - (16 : Int32))), .val (.int (own_e v0))] []))) (fun _ k => XS.istoreN X4.here hx rfl (hb hby d_prog_44_method_4_code_47) rfl (l' := #[.val (.long v0), .second, .val (.int (own_v v0)), .val (.int ((((16 : Int32) * ((own_e v0) + (1 : Int32))) + ((own_v v0).toUInt32 >>> ((own_e v0) &&& 31).toUInt32).toInt32) - (16 : Int32))), .val (.int (own_e v0))]) rfl k) ?_
    refine Goes.step (B := (T4.setTop (mkF m 49 #[.val (.long v0), .second, .val (.int (own_v v0)), .val (.int ((((16 : Int32) * ((own_e v0) + (1 : Int32))) + ((own_v v0).toUInt32 >>> ((own_e v0) &&& 31).toUInt32).toInt32) - (16 : Int32))), .val (.int (own_e v0))] [(.int ((((16 : Int32) * ((own_e v0) + (1 : Int32))) + ((own_v v0).toUInt32 >>> ((own_e v0) &&& 31).toUInt32).toInt32) - (16 : Int32)))]))) (fun _ k => XS.iloadN X4.here hx rfl (hb hby d_prog_44_method_4_code_48) rfl k) ?_
    refine Goes.retI X4 hx hlk hrt (hb hby d_prog_44_method_4_code_49) ?_ (by decide) (by decide)
    rw [e4]
    exact ⟨congrArg (fun z => some (Value.int z)) (show ((((16 : Int32) * ((own_e v0) + (1 : Int32))) + ((own_v v0).toUInt32 >>> ((own_e v0) &&& 31).toUInt32).toInt32) - (16 : Int32)) = (own_bin_fn v0) from (show ((((16 : Int32) * ((own_e v0) + (1 : Int32))) + ((own_v v0).toUInt32 >>> ((own_e v0) &&& 31).toUInt32).toInt32) - (16 : Int32)) = ((((16 : Int32) * ((own_e v0) + (1 : Int32))) + ((own_v v0).toUInt32 >>> ((own_e v0) &&& 31).toUInt32).toInt32) - (16 : Int32)) from rfl).trans (by simp only [own_bin_fn, if_neg hc3])), N4, rfl⟩
theorem pd__I_J : parseMethodDescriptor "(I)J" = some ⟨[.int], some .long⟩ := by decide +kernel
theorem pd__J_I : parseMethodDescriptor "(J)I" = some ⟨[.long], some .int⟩ := by decide +kernel
def own_b (x0 : Int32) : Int32 := ((x0 &&& (2147483647 : Int32)) % (448 : Int32))
def own_l (x0 : Int32) : Int64 := (own_lg_fn (own_b x0))
def own_law_fn (x0 : Int32) : Int32 := (if (own_bin_fn (own_l x0)) = (own_b x0) then (if (own_b x0) = (447 : Int32) then (if (own_l x0) = (2147483647 : Int64) then (1 : Int32) else (0 : Int32)) else (if (own_bin_fn ((own_l x0) + (1 : Int64))) = ((own_b x0) + (1 : Int32)) then (1 : Int32) else (0 : Int32))) else (0 : Int32))
def own_law_Q (Z : State) (x0 : Int32)  (h0 : Heap) (n0 : Nat) (v : Option Value) (h : Heap) (L : List Loc) : Prop := v = some (.int (own_law_fn x0)) ∧ Fr n0 L ∧ h = h0
theorem own_law_ef (m : MethodId) (x0 : Int32) : entryFrame m #[(.int x0)] maxLocals = mkF m 0 #[.val (.int x0), .unset, .unset, .unset] [] := by first | (simp [entryFrame, mkF, argsToLocals, Value.category, maxLocals]; done) | rfl
theorem pn_RollingHistogramLargestInPinLaw : plainName "com/example/breakwater/breakwater/core/RollingHistogramLargestInPinLaw" = true := by first | (simp [plainName, overriddenIn]; done) | decide +kernel
set_option maxRecDepth 65536 in
set_option maxHeartbeats 40000000 in
theorem own_law_rm (l : Launch) (Z : State) (a0 : Array Value) (hw : ∀ d ∈ tables_1, d.before a0 Z = true) (ws : List Jvm.Cond) (x0 : Int32)  (h0 : Heap) (n0 : Nat) (Z0 : n0 ≤ h0.size)  :
    MetFree l x (head1 (Jvm.Cond.code x code maxLocals ret :: ws) room_1) (fun a U => a = #[(.int x0)] ∧ Z.Warmed39 U.vm ∧ U.heap = h0) (fun _ _ _ _ _ => True) (fun _ U o U' => ∃ v L, o = .returned v ∧ own_law_Q Z x0 h0 n0 v U'.heap L ∧ FrameEnd U o U' L room_1.cells room_1.slots) := by
  refine MetFree.of_bodySF (plainFor_of_name pn_RollingHistogramLargestInPinLaw) hisR ?_
  intro p e s m args below meth c s₁ Bd hml0 hP hK
  obtain ⟨rfl, hZ, hh⟩ := hP
  have hx := Bd.exec
  have hby := Bd.bytes
  have hml : c.maxLocals = 4 := hml0
  have hown : s.vm.findClass "com/example/breakwater/breakwater/core/RollingHistogramLargestInPinLaw" = some m.cls := findClass_of_methodNamed Bd.named
  have hnm := (name_of_methodNamed Bd.named Bd.method).1
  have hlk : meth.locks = false := BodyLoose.notSynchronized Bd
  have hrt := Bd.returns
  have X0 : Stand p l e room_1 s m #[(.int x0)] below meth c s₁ [] 0 0 := Stand.of_body Bd
  have e0 : s₁.heap = h0 := by rw [← hh, Bd.state]; rfl
  have N0 := Fr.nil n0
  refine Goes.enter (kc := room_1.cells) (kn := room_1.slots) (Q := own_law_Q Z x0 h0 n0) (own_law_ef m x0) ?_
  refine Goes.step (B := (s₁.setTop (mkF m 1 #[.val (.int x0), .unset, .unset, .unset] [(.int x0)]))) (fun _ k => XS.iloadN X0.here hx rfl (hb hby at_0) rfl k) ?_
  refine Goes.step (B := (s₁.setTop (mkF m 3 #[.val (.int x0), .unset, .unset, .unset] [(.int (2147483647 : Int32)), (.int x0)]))) (fun _ k => X0.ldcInt hx hown (mvT hZ (hw _ (List.mem_of_getElem? (i := 0) rfl))) (g := (mkF m 1 #[.val (.int x0), .unset, .unset, .unset] [(.int x0)])) rfl (hb hby at_1) _ k) ?_
  refine Goes.step (B := (s₁.setTop (mkF m 4 #[.val (.int x0), .unset, .unset, .unset] [(.int (x0 &&& (2147483647 : Int32)))]))) (fun _ k => XS.iand X0.here hx rfl (hb hby at_3) rfl k) ?_
  refine Goes.step (B := (s₁.setTop (mkF m 7 #[.val (.int x0), .unset, .unset, .unset] [(.int (448 : Int32)), (.int (x0 &&& (2147483647 : Int32)))]))) (fun _ k => XS.sipush X0.here hx rfl (hb hby at_4) k) ?_
  refine Goes.step (B := (s₁.setTop (mkF m 8 #[.val (.int x0), .unset, .unset, .unset] [(.int ((x0 &&& (2147483647 : Int32)) % (448 : Int32)))]))) (fun _ k => iremM X0 hx rfl (hb hby at_7) rfl (by decide) k) ?_
  refine Goes.step (B := (s₁.setTop (mkF m 9 #[.val (.int x0), .val (.int (own_b x0)), .unset, .unset] []))) (fun _ k => XS.istoreN X0.here hx rfl (hb hby at_8) rfl (l' := #[.val (.int x0), .val (.int (own_b x0)), .unset, .unset]) rfl k) ?_
  refine Goes.step (B := (s₁.setTop (mkF m 10 #[.val (.int x0), .val (.int (own_b x0)), .unset, .unset] [(.int (own_b x0))]))) (fun _ k => XS.iloadN X0.here hx rfl (hb hby at_9) rfl k) ?_
  obtain ⟨_, _, ⟨T1, L1, k1, n1⟩, -, X1, ⟨Lc1, hQ1, l1, y1, z1⟩, st1⟩ := Jvm.LawKit.callS X0 hx (y := (⟨"com/example/breakwater/breakwater/core/RollingHistogram", "largestIn", "(I)J"⟩ : MethodName)) hown (mvT hZ (hw _ (List.mem_of_getElem? (i := 1) rfl))) (mvT hZ (hw _ (List.mem_of_getElem? (i := 2) rfl))) (mvT hZ (hw _ (List.mem_of_getElem? (i := 3) rfl))) (mvT hZ (hw _ (List.mem_of_getElem? (i := 4) rfl))) (by decide) (backOf (W := 0) (own_lg_rm l Z a0 hw [] (own_b x0)  h0 n0 Z0 ) hZ (hw _ (List.mem_of_getElem? (i := 4) rfl)) (hw _ (List.mem_of_getElem? (i := 3) rfl)) (by decide) (by decide)) (g := (mkF m 10 #[.val (.int x0), .val (.int (own_b x0)), .unset, .unset] [(.int (own_b x0))])) rfl (by rw [hml]; rfl) (argsL := [(.int (own_b x0))]) (rest := []) (lenOf pd__I_J rfl) rfl (by show 2 * 0 + _ ≤ _; exact Nat.le_of_eq rfl) (hb hby at_10) (fun _ _ => ⟨rfl, e0, (by decide : 0 + 0 ≤ _), (by decide : 0 + 0 ≤ _)⟩)
  dsimp only [Pt.U, Pt.locs, Pt.cells, Pt.slots] at X1 l1 y1 z1 st1 hQ1
  subst l1 y1 z1
  obtain ⟨rfl, N1q, e1⟩ := hQ1
  have N1 := Fr.app N0 N1q
  refine Goes.step (B := (T1.setTop (mkF m 13 #[.val (.int x0), .val (.int (own_b x0)), .unset, .unset] [(.long (own_lg_fn (own_b x0)))]))) (fun _ k => st1 _ k) ?_
  refine Goes.step (B := (T1.setTop (mkF m 14 #[.val (.int x0), .val (.int (own_b x0)), .val (.long (own_l x0)), .second] []))) (fun _ k => XS.lstoreN X1.here hx rfl (hb hby at_13) rfl (l' := #[.val (.int x0), .val (.int (own_b x0)), .val (.long (own_l x0)), .second]) rfl k) ?_
  refine Goes.step (B := (T1.setTop (mkF m 15 #[.val (.int x0), .val (.int (own_b x0)), .val (.long (own_l x0)), .second] [(.long (own_l x0))]))) (fun _ k => XS.lloadN X1.here hx rfl (hb hby at_14) rfl k) ?_
  obtain ⟨_, _, ⟨T2, L2, k2, n2⟩, -, X2, ⟨Lc2, hQ2, l2, y2, z2⟩, st2⟩ := Jvm.LawKit.callS X1 hx (y := (⟨"com/example/breakwater/breakwater/core/RollingHistogram", "binOf", "(J)I"⟩ : MethodName)) hown (mvT hZ (hw _ (List.mem_of_getElem? (i := 5) rfl))) (mvT hZ (hw _ (List.mem_of_getElem? (i := 6) rfl))) (mvT hZ (hw _ (List.mem_of_getElem? (i := 3) rfl))) (mvT hZ (hw _ (List.mem_of_getElem? (i := 7) rfl))) (by decide) (backOf (W := 0) (own_bin_rm l Z a0 hw [] (own_l x0)  h0 n0 Z0 ) hZ (hw _ (List.mem_of_getElem? (i := 7) rfl)) (hw _ (List.mem_of_getElem? (i := 3) rfl)) (by decide) (by decide)) (g := (mkF m 15 #[.val (.int x0), .val (.int (own_b x0)), .val (.long (own_l x0)), .second] [(.long (own_l x0))])) rfl (by rw [hml]; rfl) (argsL := [(.long (own_l x0))]) (rest := []) (lenOf pd__J_I rfl) rfl (by show 2 * 0 + _ ≤ _; exact Nat.le_of_eq rfl) (hb hby at_15) (fun _ _ => ⟨rfl, e1, (by decide : 0 + 0 ≤ _), (by decide : 0 + 0 ≤ _)⟩)
  dsimp only [Pt.U, Pt.locs, Pt.cells, Pt.slots] at X2 l2 y2 z2 st2 hQ2
  subst l2 y2 z2
  obtain ⟨rfl, N2q, e2⟩ := hQ2
  have N2 := Fr.app N1 N2q
  refine Goes.step (B := (T2.setTop (mkF m 18 #[.val (.int x0), .val (.int (own_b x0)), .val (.long (own_l x0)), .second] [(.int (own_bin_fn (own_l x0)))]))) (fun _ k => st2 _ k) ?_
  refine Goes.step (B := (T2.setTop (mkF m 19 #[.val (.int x0), .val (.int (own_b x0)), .val (.long (own_l x0)), .second] [(.int (own_b x0)), (.int (own_bin_fn (own_l x0)))]))) (fun _ k => XS.iloadN X2.here hx rfl (hb hby at_18) rfl k) ?_
  by_cases hc3 : (own_bin_fn (own_l x0)) = (own_b x0)
  · refine Goes.step (B := (T2.setTop (mkF m 24 #[.val (.int x0), .val (.int (own_b x0)), .val (.long (own_l x0)), .second] []))) (fun _ k => XS.icmpYes X2.here hx rfl (pc0 := 19) (pc' := 24) rfl (hb hby at_19) rfl (teq hc3).1 (by decide) (by decide) k) ?_
    refine Goes.step (B := (T2.setTop (mkF m 25 #[.val (.int x0), .val (.int (own_b x0)), .val (.long (own_l x0)), .second] [(.int (own_b x0))]))) (fun _ k => XS.iloadN X2.here hx rfl (hb hby at_24) rfl k) ?_
    refine Goes.step (B := (T2.setTop (mkF m 28 #[.val (.int x0), .val (.int (own_b x0)), .val (.long (own_l x0)), .second] [(.int (447 : Int32)), (.int (own_b x0))]))) (fun _ k => XS.sipush X2.here hx rfl (hb hby at_25) k) ?_
    by_cases hc4 : (own_b x0) = (447 : Int32)
    · refine Goes.step (B := (T2.setTop (mkF m 31 #[.val (.int x0), .val (.int (own_b x0)), .val (.long (own_l x0)), .second] []))) (fun _ k => XS.icmpNo X2.here hx rfl (hb hby at_28) rfl (teq hc4).2 k) ?_
      refine Goes.step (B := (T2.setTop (mkF m 32 #[.val (.int x0), .val (.int (own_b x0)), .val (.long (own_l x0)), .second] [(.long (own_l x0))]))) (fun _ k => XS.lloadN X2.here hx rfl (hb hby at_31) rfl k) ?_
      refine Goes.step (B := (T2.setTop (mkF m 35 #[.val (.int x0), .val (.int (own_b x0)), .val (.long (own_l x0)), .second] [(.long (2147483647 : Int64)), (.long (own_l x0))]))) (fun _ k => X2.ldc2Long hx hown (mvT hZ (hw _ (List.mem_of_getElem? (i := 21) rfl))) (g := (mkF m 32 #[.val (.int x0), .val (.int (own_b x0)), .val (.long (own_l x0)), .second] [(.long (own_l x0))])) rfl (hb hby at_32) _ k) ?_
      refine Goes.step (B := (T2.setTop (mkF m 36 #[.val (.int x0), .val (.int (own_b x0)), .val (.long (own_l x0)), .second] [(.int (lcmpW (own_l x0) (2147483647 : Int64)))]))) (fun _ k => XS.lcmp X2.here hx rfl (hb hby at_35) rfl k) ?_
      by_cases hc5 : (own_l x0) = (2147483647 : Int64)
      · refine Goes.step (B := (T2.setTop (mkF m 39 #[.val (.int x0), .val (.int (own_b x0)), .val (.long (own_l x0)), .second] []))) (fun _ k => XS.ifNo X2.here hx rfl (hb hby at_36) rfl ((if0 _ _).trans (teq ((lw_eq _ _).mpr hc5)).2) k) ?_
        refine Goes.step (B := (T2.setTop (mkF m 40 #[.val (.int x0), .val (.int (own_b x0)), .val (.long (own_l x0)), .second] [(.int (1 : Int32))]))) (fun _ k => XS.iconst X2.here hx rfl (hb hby at_39) k) ?_
        refine Goes.step (B := (T2.setTop (mkF m 44 #[.val (.int x0), .val (.int (own_b x0)), .val (.long (own_l x0)), .second] [(.int (1 : Int32))]))) (fun _ k => XS.goto X2.here hx rfl (pc0 := 40) (pc' := 44) rfl (hb hby at_40) (by decide) (by decide) k) ?_
        refine Goes.retN X2 hx hlk (t := .boolean) hrt (by simp) (hb hby at_44) ?_ (by decide) (by decide)
        rw [e2]
        exact ⟨congrArg (fun z => some (Value.int z)) (show nar .boolean (1 : Int32) = (own_law_fn x0) from (show nar .boolean (1 : Int32) = (1 : Int32) from rfl).trans (by simp only [own_law_fn, if_pos hc3, if_pos hc4, if_pos hc5])), N2, rfl⟩
      · refine Goes.step (B := (T2.setTop (mkF m 43 #[.val (.int x0), .val (.int (own_b x0)), .val (.long (own_l x0)), .second] []))) (fun _ k => XS.ifYes X2.here hx rfl (pc0 := 36) (pc' := 43) rfl (hb hby at_36) rfl ((if0 _ _).trans (feq (mt (lw_eq _ _).mp hc5)).2) (by decide) (by decide) k) ?_
        refine Goes.step (B := (T2.setTop (mkF m 44 #[.val (.int x0), .val (.int (own_b x0)), .val (.long (own_l x0)), .second] [(.int (0 : Int32))]))) (fun _ k => XS.iconst X2.here hx rfl (hb hby at_43) k) ?_
        refine Goes.retN X2 hx hlk (t := .boolean) hrt (by simp) (hb hby at_44) ?_ (by decide) (by decide)
        rw [e2]
        exact ⟨congrArg (fun z => some (Value.int z)) (show nar .boolean (0 : Int32) = (own_law_fn x0) from (show nar .boolean (0 : Int32) = (0 : Int32) from rfl).trans (by simp only [own_law_fn, if_pos hc3, if_pos hc4, if_neg hc5])), N2, rfl⟩
    · refine Goes.step (B := (T2.setTop (mkF m 45 #[.val (.int x0), .val (.int (own_b x0)), .val (.long (own_l x0)), .second] []))) (fun _ k => XS.icmpYes X2.here hx rfl (pc0 := 28) (pc' := 45) rfl (hb hby at_28) rfl (feq hc4).2 (by decide) (by decide) k) ?_
      refine Goes.step (B := (T2.setTop (mkF m 46 #[.val (.int x0), .val (.int (own_b x0)), .val (.long (own_l x0)), .second] [(.long (own_l x0))]))) (fun _ k => XS.lloadN X2.here hx rfl (hb hby at_45) rfl k) ?_
      refine Goes.step (B := (T2.setTop (mkF m 47 #[.val (.int x0), .val (.int (own_b x0)), .val (.long (own_l x0)), .second] [(.long (1 : Int64)), (.long (own_l x0))]))) (fun _ k => XS.lconst X2.here hx rfl (hb hby at_46) k) ?_
      refine Goes.step (B := (T2.setTop (mkF m 48 #[.val (.int x0), .val (.int (own_b x0)), .val (.long (own_l x0)), .second] [(.long ((own_l x0) + (1 : Int64)))]))) (fun _ k => XS.ladd X2.here hx rfl (hb hby at_47) rfl k) ?_
      obtain ⟨_, _, ⟨T6, L6, k6, n6⟩, -, X6, ⟨Lc6, hQ6, l6, y6, z6⟩, st6⟩ := Jvm.LawKit.callS X2 hx (y := (⟨"com/example/breakwater/breakwater/core/RollingHistogram", "binOf", "(J)I"⟩ : MethodName)) hown (mvT hZ (hw _ (List.mem_of_getElem? (i := 5) rfl))) (mvT hZ (hw _ (List.mem_of_getElem? (i := 6) rfl))) (mvT hZ (hw _ (List.mem_of_getElem? (i := 3) rfl))) (mvT hZ (hw _ (List.mem_of_getElem? (i := 7) rfl))) (by decide) (backOf (W := 0) (own_bin_rm l Z a0 hw [] ((own_l x0) + (1 : Int64))  h0 n0 Z0 ) hZ (hw _ (List.mem_of_getElem? (i := 7) rfl)) (hw _ (List.mem_of_getElem? (i := 3) rfl)) (by decide) (by decide)) (g := (mkF m 48 #[.val (.int x0), .val (.int (own_b x0)), .val (.long (own_l x0)), .second] [(.long ((own_l x0) + (1 : Int64)))])) rfl (by rw [hml]; rfl) (argsL := [(.long ((own_l x0) + (1 : Int64)))]) (rest := []) (lenOf pd__J_I rfl) rfl (by show 2 * 0 + _ ≤ _; exact Nat.le_of_eq rfl) (hb hby at_48) (fun _ _ => ⟨rfl, e2, (by decide : 0 + 0 ≤ _), (by decide : 0 + 0 ≤ _)⟩)
      dsimp only [Pt.U, Pt.locs, Pt.cells, Pt.slots] at X6 l6 y6 z6 st6 hQ6
      subst l6 y6 z6
      obtain ⟨rfl, N6q, e6⟩ := hQ6
      have N6 := Fr.app N2 N6q
      refine Goes.step (B := (T6.setTop (mkF m 51 #[.val (.int x0), .val (.int (own_b x0)), .val (.long (own_l x0)), .second] [(.int (own_bin_fn ((own_l x0) + (1 : Int64))))]))) (fun _ k => st6 _ k) ?_
      refine Goes.step (B := (T6.setTop (mkF m 52 #[.val (.int x0), .val (.int (own_b x0)), .val (.long (own_l x0)), .second] [(.int (own_b x0)), (.int (own_bin_fn ((own_l x0) + (1 : Int64))))]))) (fun _ k => XS.iloadN X6.here hx rfl (hb hby at_51) rfl k) ?_
      refine Goes.step (B := (T6.setTop (mkF m 53 #[.val (.int x0), .val (.int (own_b x0)), .val (.long (own_l x0)), .second] [(.int (1 : Int32)), (.int (own_b x0)), (.int (own_bin_fn ((own_l x0) + (1 : Int64))))]))) (fun _ k => XS.iconst X6.here hx rfl (hb hby at_52) k) ?_
      refine Goes.step (B := (T6.setTop (mkF m 54 #[.val (.int x0), .val (.int (own_b x0)), .val (.long (own_l x0)), .second] [(.int ((own_b x0) + (1 : Int32))), (.int (own_bin_fn ((own_l x0) + (1 : Int64))))]))) (fun _ k => XS.iadd X6.here hx rfl (hb hby at_53) rfl k) ?_
      by_cases hc7 : (own_bin_fn ((own_l x0) + (1 : Int64))) = ((own_b x0) + (1 : Int32))
      · refine Goes.step (B := (T6.setTop (mkF m 57 #[.val (.int x0), .val (.int (own_b x0)), .val (.long (own_l x0)), .second] []))) (fun _ k => XS.icmpNo X6.here hx rfl (hb hby at_54) rfl (teq hc7).2 k) ?_
        refine Goes.step (B := (T6.setTop (mkF m 58 #[.val (.int x0), .val (.int (own_b x0)), .val (.long (own_l x0)), .second] [(.int (1 : Int32))]))) (fun _ k => XS.iconst X6.here hx rfl (hb hby at_57) k) ?_
        refine Goes.step (B := (T6.setTop (mkF m 62 #[.val (.int x0), .val (.int (own_b x0)), .val (.long (own_l x0)), .second] [(.int (1 : Int32))]))) (fun _ k => XS.goto X6.here hx rfl (pc0 := 58) (pc' := 62) rfl (hb hby at_58) (by decide) (by decide) k) ?_
        refine Goes.retN X6 hx hlk (t := .boolean) hrt (by simp) (hb hby at_62) ?_ (by decide) (by decide)
        rw [e6]
        exact ⟨congrArg (fun z => some (Value.int z)) (show nar .boolean (1 : Int32) = (own_law_fn x0) from (show nar .boolean (1 : Int32) = (1 : Int32) from rfl).trans (by simp only [own_law_fn, if_pos hc3, if_neg hc4, if_pos hc7])), N6, rfl⟩
      · refine Goes.step (B := (T6.setTop (mkF m 61 #[.val (.int x0), .val (.int (own_b x0)), .val (.long (own_l x0)), .second] []))) (fun _ k => XS.icmpYes X6.here hx rfl (pc0 := 54) (pc' := 61) rfl (hb hby at_54) rfl (feq hc7).2 (by decide) (by decide) k) ?_
        refine Goes.step (B := (T6.setTop (mkF m 62 #[.val (.int x0), .val (.int (own_b x0)), .val (.long (own_l x0)), .second] [(.int (0 : Int32))]))) (fun _ k => XS.iconst X6.here hx rfl (hb hby at_61) k) ?_
        refine Goes.retN X6 hx hlk (t := .boolean) hrt (by simp) (hb hby at_62) ?_ (by decide) (by decide)
        rw [e6]
        exact ⟨congrArg (fun z => some (Value.int z)) (show nar .boolean (0 : Int32) = (own_law_fn x0) from (show nar .boolean (0 : Int32) = (0 : Int32) from rfl).trans (by simp only [own_law_fn, if_pos hc3, if_neg hc4, if_neg hc7])), N6, rfl⟩
  · refine Goes.step (B := (T2.setTop (mkF m 22 #[.val (.int x0), .val (.int (own_b x0)), .val (.long (own_l x0)), .second] []))) (fun _ k => XS.icmpNo X2.here hx rfl (hb hby at_19) rfl (feq hc3).1 k) ?_
    refine Goes.step (B := (T2.setTop (mkF m 23 #[.val (.int x0), .val (.int (own_b x0)), .val (.long (own_l x0)), .second] [(.int (0 : Int32))]))) (fun _ k => XS.iconst X2.here hx rfl (hb hby at_22) k) ?_
    refine Goes.retN X2 hx hlk (t := .boolean) hrt (by simp) (hb hby at_23) ?_ (by decide) (by decide)
    rw [e2]
    exact ⟨congrArg (fun z => some (Value.int z)) (show nar .boolean (0 : Int32) = (own_law_fn x0) from (show nar .boolean (0 : Int32) = (0 : Int32) from rfl).trans (by simp only [own_law_fn, if_neg hc3])), N2, rfl⟩
theorem own_bb (x0 : Int32) : 0 ≤ (own_b x0).toInt ∧ (own_b x0).toInt < 448 := by
  have h1 := c_mask x0 2147483647 31 (by decide) (by decide)
  have h2 := (c_irem (x0 &&& 2147483647) 448 448 (by decide)).1 (by omega)
  show 0 ≤ ((x0 &&& 2147483647) % 448 : Int32).toInt ∧ ((x0 &&& 2147483647) % 448 : Int32).toInt < 448
  omega
def own_all (b : Int32) : Bool := decide (own_bin_fn (own_lg_fn b) = b) && (if b = 447 then decide (own_lg_fn b = 2147483647) else decide (own_bin_fn (own_lg_fn b + 1) = b + 1))
set_option maxRecDepth 100000 in
theorem own_key : ∀ i : Fin 448, own_all (Int32.ofInt (i.val : Int)) = true := by decide +kernel
theorem own_plain (x0 : Int32) : own_law_fn x0 = 1 := by
  have hb := own_bb x0
  have e : own_b x0 = Int32.ofInt (((⟨(own_b x0).toInt.toNat, by omega⟩ : Fin 448).val : Nat) : Int) := by
    show own_b x0 = Int32.ofInt (((own_b x0).toInt.toNat : Nat) : Int)
    rw [Int.toNat_of_nonneg hb.1, Int32.ofInt_toInt]
  have k := own_key ⟨(own_b x0).toInt.toNat, by omega⟩
  rw [← e] at k
  simp only [own_all, Bool.and_eq_true, decide_eq_true_eq] at k
  obtain ⟨k1, k2⟩ := k
  have el : own_l x0 = own_lg_fn (own_b x0) := rfl
  simp only [own_law_fn, el]
  rw [if_pos k1]
  by_cases h : own_b x0 = 447
  · rw [if_pos h] at k2
    rw [if_pos h, if_pos (of_decide_eq_true k2)]
  · rw [if_neg h] at k2
    rw [if_neg h, if_pos (of_decide_eq_true k2)]

set_option maxRecDepth 65536 in
set_option maxHeartbeats 40000000 in
theorem comes_1 {Post : Tables → Env → Array Value → State → Outcome → State → Prop} (hpost : ∀ tb e args s v u, (limb_1_1.after args s (.returned v) u = true ∧ limb_1_2.after args s (.returned v) u = true ∧ True) → FrameEnd s (.returned v) u (Jvm.fieldLocs frame_1_writes args s ++ Jvm.arrayLocs frame_1_arrays args s ++ Jvm.staticLocs frame_1_statics s) 0 0 → Post tb e args s (.returned v) u) :
    ArmFor flags0 classFile x code maxLocals ret World_1 tables_1 room_1 Calls_1 rest_1 Pre_1 Post := by
  intro l hfl _ _ p e ha hc hk s m args below hf hA hF happ hP
  obtain ⟨hcalls, hrest, hpre⟩ := hP
  obtain ⟨-, -, -, hnamed, -, -, -, hat⟩ := (Spec.applies_iff hf).mp happ
  obtain ⟨hg, hn⟩ := and_e (Cond.before_iff.mp (show (Jvm.Cond.and given_1 narrow_1).before args s = true from hpre))
  obtain ⟨hg1, hg2⟩ := and_e hg
  obtain ⟨w0, rfl⟩ : ∃ w0 : Value, args = #[w0] := by
    have hs : args.size = 1 := by simpa [Cond.value, given_1] using hg1
    obtain ⟨L⟩ := args
    match L, hs with
    | [w0], _ => exact ⟨w0, rfl⟩
  have hw := fun d (hd : d ∈ tables_1) => atoms_spec (ws := Jvm.Cond.code x code maxLocals ret :: tables_1) hat d (List.mem_cons_of_mem _ hd)
  have hfit : Fit s := fun {y c} hc i hi => by
    obtain ⟨ha, rfl⟩ := Array.getElem?_eq_some_iff.mp hc
    have q := List.all_eq_true.mp ((Array.all_eq_true_iff_forall_mem.mp hF) _ (Array.getElem_mem ha)) i (List.mem_range.mpr hi)
    simpa [Array.getElem?_eq_getElem hi] using q
  obtain ⟨i0, ei0⟩ := is_v hg2
  obtain rfl : w0 = (.int i0) := Option.some.inj ei0
  obtain ⟨n, o, h1, h2, h3, _, L, rfl, ⟨hv, N, _⟩, hq⟩ := own_law_rm l s _ hw tables_1 i0  s.heap s.heap.size (Nat.le_refl _)  p e ha hc hk s m _ below hf ((Spec.applies_iff_loose hf).mp happ).1 ⟨rfl, State.Warmed39.refl s, rfl⟩ trivial
  rw [own_plain i0] at hv
  subst hv
  refine ⟨n, _, h1, h2, h3, hpost _ _ _ _ _ _ ⟨Cond.after_iff.mpr rfl, Cond.after_iff.mpr (eq_i res_at (Term.int_eval (1)) rfl), trivial⟩ ⟨hq.1, hq.2.1, (hq.2.2.sift fun y hy => Or.inr (N y hy)).mono (by decide) (by decide)⟩⟩
theorem main_1_1 : Claimed_1_1 := comes_1 fun _ _ _ _ _ _ h hF => ⟨h.1, hF⟩
theorem main_1_2 : Claimed_1_2 := comes_1 fun _ _ _ _ _ _ h hF => ⟨h.2.1, hF⟩
end Jvm.Pilot.@@N@@
namespace Jvm.Pilot.@@N@@
open Jvm Jvm.ClassFile Sem Op Lib Jvm.Free Jvm.Stand Jvm.Pilot.@@N@@.Jvm.D
/-! MADE BY PROGRAM (witnessworld.py) out of the Statement's table words and the real class files: 15 classes; the members and pool entries that the words name. The judged class is class 1, her method 1. -/
namespace start1
open Jvm.ClassFile
def u (s : String) : CpInfo := .utf8 (stringToUtf16 s)
/-- a pool by its gaps: so many unusable entries, then the entry; so many at the end -/
def gap : Nat → List CpInfo → List CpInfo
  | 0, r => r
  | n + 1, r => .unusable :: gap n r
def poolList (es : List (Nat × CpInfo)) (last : Nat) : List CpInfo := es.foldr (fun e r => gap e.1 (e.2 :: r)) (gap last [])
def pool (es : List (Nat × CpInfo)) (last : Nat) : Array CpInfo := ⟨poolList es last⟩
def fileOf (pool : Array CpInfo) (this : Nat) (attrs : Array Attribute := #[]) (ms : Array MethodInfo := #[]) (fl : Nat := 33) (sup : Nat := 0) (ifs : Array Nat := #[]) (fds : Array FieldInfo := #[]) : ClassFile where
  minorVersion := 0
  majorVersion := 65
  constantPool := pool
  accessFlags := fl
  thisClass := this
  superClass := sup
  interfaces := ifs
  fields := fds
  methods := ms
  attributes := attrs
def plain (name : String) (sup : Option ClassId) : Class where
  name := name
  kind := .ordinary
  loader := none
  accessFlags := 33
  super := sup
  interfaces := #[]
  cf := none
  fields := #[]
  methods := #[]
  instanceTypes := #[]
  staticTypes := #[]
  resolved := #[]
  callSites := []
  init := .initialized
  statics := none
  mirror := none

def pool0 : Array CpInfo := pool [(5, u "<init>"), (0, u "()V"), (1, .class_ 10), (1, u "java/lang/Object")] 113

def k0m0 : Method := { name := "<init>", desc := "()V", sig := { parameters := [], returnType := none }, accessFlags := 1, code := none }
/-- java/lang/Object -/
def k0 : Class := { plain "java/lang/Object" none with
  accessFlags := 33
  interfaces := #[]
  cf := some (fileOf pool0 8 #[] #[{ accessFlags := 1, nameIndex := 5, descriptorIndex := 6, attributes := #[] }] 33 0 #[] #[])
  fields := #[]
  methods := #[k0m0]
  instanceTypes := #[]
  staticTypes := #[]
  resolved := Array.replicate 124 none
  statics := none }

def pool1 : Array CpInfo := pool [(2, .class_ 4), (1, u "java/lang/Object"), (0, u "<init>"), (0, u "()V"), (0, .integer 2147483647), (0, .methodref 9 10), (0, .class_ 11), (0, .nameAndType 12 13), (0, u "com/example/breakwater/breakwater/core/RollingHistogram"), (0, u "largestIn"), (0, u "(I)J"), (0, .methodref 9 15), (0, .nameAndType 16 17), (0, u "binOf"), (0, u "(J)I"), (2, .long 2147483647), (1, .class_ 23), (0, u "com/example/breakwater/breakwater/core/RollingHistogramLargestInPinLaw"), (2, u "law"), (0, u "(I)Z")] 3

def k1m0 : Method := { name := "<init>", desc := "()V", sig := { parameters := [], returnType := none }, accessFlags := 1, code := none }
def k1c1 : Code := { maxStack := 4, maxLocals := 4, code := code, exceptionTable := #[], attributes := #[] }
def k1m1 : Method := { name := "law", desc := "(I)Z", sig := { parameters := [.int], returnType := some .boolean }, accessFlags := 9, code := some k1c1 }
/-- com/example/breakwater/breakwater/core/RollingHistogramLargestInPinLaw -/
def k1 : Class := { plain "com/example/breakwater/breakwater/core/RollingHistogramLargestInPinLaw" (some 0) with
  accessFlags := 49
  interfaces := #[]
  cf := some (fileOf pool1 22 #[] #[{ accessFlags := 1, nameIndex := 5, descriptorIndex := 6, attributes := #[] }, { accessFlags := 9, nameIndex := 26, descriptorIndex := 27, attributes := #[] }] 49 2 #[] #[])
  fields := #[]
  methods := #[k1m0, k1m1]
  instanceTypes := #[]
  staticTypes := #[]
  resolved := Array.replicate 31 none
  statics := none }

def pool2 : Array CpInfo := pool [(1, .class_ 2), (0, u "com/example/breakwater/breakwater/core/RollingHistogram"), (0, .class_ 4), (0, u "java/lang/Integer"), (1, .class_ 8), (1, u "java/lang/Object"), (9, u "bins"), (0, u "Lcom/example/breakwater/breakwater/core/RollingCounts;"), (2, u "binOf"), (0, u "(J)I"), (4, .class_ 29), (0, u "com/example/breakwater/breakwater/core/RollingHistogram$Snapshot"), (7, .long 2147483647), (1, .methodref 40 41), (0, .class_ 42), (0, .nameAndType 43 44), (0, u "java/lang/Math"), (0, u "min"), (0, u "(JJ)J"), (0, .methodref 40 46), (0, .nameAndType 47 44), (0, u "max"), (0, .methodref 3 49), (0, .nameAndType 50 51), (0, u "numberOfLeadingZeros"), (0, u "(I)I"), (0, u "SPLIT_BITS"), (0, u "I"), (2, u "SPLIT"), (1, u "BINS"), (8, u "largestIn"), (0, u "(I)J")] 5

def k2c0 : Code := { maxStack := 6, maxLocals := 5, code := prog_44_method_4_code, exceptionTable := #[], attributes := #[] }
def k2m0 : Method := { name := "binOf", desc := "(J)I", sig := { parameters := [.long], returnType := some .int }, accessFlags := 8, code := some k2c0 }
def k2c1 : Code := { maxStack := 4, maxLocals := 6, code := prog_44_method_5_code, exceptionTable := #[], attributes := #[] }
def k2m1 : Method := { name := "largestIn", desc := "(I)J", sig := { parameters := [.int], returnType := some .long }, accessFlags := 8, code := some k2c1 }
/-- com/example/breakwater/breakwater/core/RollingHistogram -/
def k2 : Class := { plain "com/example/breakwater/breakwater/core/RollingHistogram" (some 0) with
  accessFlags := 49
  interfaces := #[]
  cf := some (fileOf pool2 1 #[.nestMembers #[28]] #[{ accessFlags := 8, nameIndex := 22, descriptorIndex := 23, attributes := #[] }, { accessFlags := 8, nameIndex := 67, descriptorIndex := 68, attributes := #[] }] 49 6 #[] #[{ accessFlags := 26, nameIndex := 52, descriptorIndex := 53, attributes := #[] }, { accessFlags := 26, nameIndex := 56, descriptorIndex := 53, attributes := #[] }, { accessFlags := 26, nameIndex := 58, descriptorIndex := 53, attributes := #[] }, { accessFlags := 18, nameIndex := 18, descriptorIndex := 19, attributes := #[] }])
  fields := #[{ name := "SPLIT_BITS", type := .int, accessFlags := 26, slot := 0, constantValue := 0 }, { name := "SPLIT", type := .int, accessFlags := 26, slot := 1, constantValue := 0 }, { name := "BINS", type := .int, accessFlags := 26, slot := 2, constantValue := 0 }, { name := "bins", type := (.object "com/example/breakwater/breakwater/core/RollingCounts"), accessFlags := 18, slot := 0, constantValue := 0 }]
  methods := #[k2m0, k2m1]
  instanceTypes := #[(.object "com/example/breakwater/breakwater/core/RollingCounts")]
  staticTypes := #[.int, .int, .int]
  resolved := Array.replicate 74 none
  statics := none }

def pool3 : Array CpInfo := pool [(1, .class_ 2), (0, u "java/lang/Math"), (1, .class_ 6), (1, u "java/lang/Object"), (0, u "<init>"), (0, u "()V"), (89, .class_ 100), (1, u "java/lang/Math$RandomNumberGeneratorHolder"), (20, u "(JJ)J"), (50, u "negativeZeroFloatBits"), (0, u "J"), (2, u "negativeZeroDoubleBits"), (21, u "max"), (2, u "min"), (43, u "$assertionsDisabled"), (0, u "Z"), (91, u "twoToTheDoubleScaleDown"), (0, u "D"), (4, u "twoToTheDoubleScaleUp"), (9, u "E"), (3, u "PI"), (2, u "TAU"), (2, u "DEGREES_TO_RADIANS"), (0, u "RADIANS_TO_DEGREES")] 94

def k3m0 : Method := { name := "<init>", desc := "()V", sig := { parameters := [], returnType := none }, accessFlags := 2, code := none }
def k3c1 : Code := { maxStack := 4, maxLocals := 4, code := jdk_29_method_66_code, exceptionTable := #[], attributes := #[] }
def k3m1 : Method := { name := "max", desc := "(JJ)J", sig := { parameters := [.long, .long], returnType := some .long }, accessFlags := 9, code := some k3c1 }
def k3c2 : Code := { maxStack := 4, maxLocals := 4, code := jdk_29_method_70_code, exceptionTable := #[], attributes := #[] }
def k3m2 : Method := { name := "min", desc := "(JJ)J", sig := { parameters := [.long, .long], returnType := some .long }, accessFlags := 9, code := some k3c2 }
/-- java/lang/Math -/
def k3 : Class := { plain "java/lang/Math" (some 0) with
  accessFlags := 49
  interfaces := #[]
  cf := some (fileOf pool3 1 #[.nestMembers #[98]] #[{ accessFlags := 2, nameIndex := 7, descriptorIndex := 8, attributes := #[] }, { accessFlags := 9, nameIndex := 198, descriptorIndex := 121, attributes := #[] }, { accessFlags := 9, nameIndex := 201, descriptorIndex := 121, attributes := #[] }] 49 4 #[] #[{ accessFlags := 25, nameIndex := 354, descriptorIndex := 339, attributes := #[] }, { accessFlags := 25, nameIndex := 358, descriptorIndex := 339, attributes := #[] }, { accessFlags := 25, nameIndex := 361, descriptorIndex := 339, attributes := #[] }, { accessFlags := 26, nameIndex := 364, descriptorIndex := 339, attributes := #[] }, { accessFlags := 26, nameIndex := 365, descriptorIndex := 339, attributes := #[] }, { accessFlags := 26, nameIndex := 172, descriptorIndex := 173, attributes := #[] }, { accessFlags := 26, nameIndex := 176, descriptorIndex := 173, attributes := #[] }, { accessFlags := 8, nameIndex := 344, descriptorIndex := 339, attributes := #[] }, { accessFlags := 8, nameIndex := 338, descriptorIndex := 339, attributes := #[] }, { accessFlags := 4120, nameIndex := 245, descriptorIndex := 246, attributes := #[] }])
  fields := #[{ name := "E", type := .double, accessFlags := 25, slot := 0, constantValue := 0 }, { name := "PI", type := .double, accessFlags := 25, slot := 1, constantValue := 0 }, { name := "TAU", type := .double, accessFlags := 25, slot := 2, constantValue := 0 }, { name := "DEGREES_TO_RADIANS", type := .double, accessFlags := 26, slot := 3, constantValue := 0 }, { name := "RADIANS_TO_DEGREES", type := .double, accessFlags := 26, slot := 4, constantValue := 0 }, { name := "negativeZeroFloatBits", type := .long, accessFlags := 26, slot := 5, constantValue := 0 }, { name := "negativeZeroDoubleBits", type := .long, accessFlags := 26, slot := 6, constantValue := 0 }, { name := "twoToTheDoubleScaleUp", type := .double, accessFlags := 8, slot := 7, constantValue := 0 }, { name := "twoToTheDoubleScaleDown", type := .double, accessFlags := 8, slot := 8, constantValue := 0 }, { name := "$assertionsDisabled", type := .boolean, accessFlags := 4120, slot := 9, constantValue := 0 }]
  methods := #[k3m0, k3m1, k3m2]
  instanceTypes := #[]
  staticTypes := #[.double, .double, .double, .double, .double, .long, .long, .double, .double, .boolean]
  resolved := Array.replicate 460 none
  statics := none }

def pool4 : Array CpInfo := pool [(1, .class_ 2), (0, u "java/io/Serializable"), (0, .class_ 4), (0, u "java/lang/Object")] 2

/-- java/io/Serializable -/
def k4 : Class := { plain "java/io/Serializable" (some 0) with
  accessFlags := 1537
  interfaces := #[]
  cf := some (fileOf pool4 1 #[] #[] 1537 3 #[] #[])
  fields := #[]
  methods := #[]
  instanceTypes := #[]
  staticTypes := #[]
  resolved := Array.replicate 7 none
  statics := none }

def pool5 : Array CpInfo := pool [(2, .class_ 4), (1, u "java/lang/Object"), (0, u "<init>"), (0, u "()V"), (1, .class_ 10), (1, u "java/lang/Number"), (2, .class_ 14), (0, u "java/io/Serializable"), (0, u "serialVersionUID"), (0, u "J")] 20

def k5m0 : Method := { name := "<init>", desc := "()V", sig := { parameters := [], returnType := none }, accessFlags := 1, code := none }
/-- java/lang/Number -/
def k5 : Class := { plain "java/lang/Number" (some 0) with
  accessFlags := 1057
  interfaces := #[4]
  cf := some (fileOf pool5 8 #[] #[{ accessFlags := 1, nameIndex := 5, descriptorIndex := 6, attributes := #[] }] 1057 2 #[13] #[{ accessFlags := 26, nameIndex := 15, descriptorIndex := 16, attributes := #[] }])
  fields := #[{ name := "serialVersionUID", type := .long, accessFlags := 26, slot := 0, constantValue := 0 }]
  methods := #[k5m0]
  instanceTypes := #[]
  staticTypes := #[.long]
  resolved := Array.replicate 37 none
  statics := none }

def pool6 : Array CpInfo := pool [(1, .class_ 2), (0, u "java/lang/Comparable"), (0, .class_ 4), (0, u "java/lang/Object")] 7

/-- java/lang/Comparable -/
def k6 : Class := { plain "java/lang/Comparable" (some 0) with
  accessFlags := 1537
  interfaces := #[]
  cf := some (fileOf pool6 1 #[] #[] 1537 3 #[] #[])
  fields := #[]
  methods := #[]
  instanceTypes := #[]
  staticTypes := #[]
  resolved := Array.replicate 12 none
  statics := none }

def pool7 : Array CpInfo := pool [(1, .class_ 2), (0, u "java/lang/constant/Constable"), (0, .class_ 4), (0, u "java/lang/Object")] 6

/-- java/lang/constant/Constable -/
def k7 : Class := { plain "java/lang/constant/Constable" (some 0) with
  accessFlags := 1537
  interfaces := #[]
  cf := some (fileOf pool7 1 #[] #[] 1537 3 #[] #[])
  fields := #[]
  methods := #[]
  instanceTypes := #[]
  staticTypes := #[]
  resolved := Array.replicate 11 none
  statics := none }

def pool8 : Array CpInfo := pool [(1, .class_ 2), (0, u "java/lang/constant/ConstantDesc"), (0, .class_ 4), (0, u "java/lang/Object")] 32

/-- java/lang/constant/ConstantDesc -/
def k8 : Class := { plain "java/lang/constant/ConstantDesc" (some 0) with
  accessFlags := 1537
  interfaces := #[]
  cf := some (fileOf pool8 1 #[] #[] 1537 3 #[] #[])
  fields := #[]
  methods := #[]
  instanceTypes := #[]
  staticTypes := #[]
  resolved := Array.replicate 37 none
  statics := none }

def pool9 : Array CpInfo := pool [(1, .class_ 2), (0, u "java/lang/Integer"), (16, u "digits"), (0, u "[C"), (32, u "numberOfLeadingZeros"), (0, u "(I)I"), (30, u "DigitOnes"), (0, u "[B"), (2, u "DigitTens"), (99, .class_ 190), (0, u "java/lang/Integer$IntegerCache"), (3, u "I"), (8, .class_ 204), (0, u "java/lang/Number"), (2, u "value"), (56, .integer 65536), (37, u "TYPE"), (0, u "Ljava/lang/Class;"), (0, .class_ 305), (0, u "java/lang/Comparable"), (0, .class_ 307), (0, u "java/lang/constant/Constable"), (0, .class_ 309), (0, u "java/lang/constant/ConstantDesc"), (0, u "MIN_VALUE"), (1, u "MAX_VALUE"), (3, u "SIZE"), (1, u "BYTES"), (1, u "serialVersionUID"), (0, u "J")] 131

def k9c0 : Code := { maxStack := 3, maxLocals := 2, code := jdk_33_method_47_code, exceptionTable := #[], attributes := #[] }
def k9m0 : Method := { name := "numberOfLeadingZeros", desc := "(I)I", sig := { parameters := [.int], returnType := some .int }, accessFlags := 9, code := some k9c0 }
/-- java/lang/Integer -/
def k9 : Class := { plain "java/lang/Integer" (some 5) with
  accessFlags := 49
  interfaces := #[6, 7, 8]
  cf := some (fileOf pool9 1 #[.nestMembers #[189]] #[{ accessFlags := 9, nameIndex := 53, descriptorIndex := 54, attributes := #[] }] 49 203 #[304, 306, 308] #[{ accessFlags := 25, nameIndex := 310, descriptorIndex := 194, attributes := #[] }, { accessFlags := 25, nameIndex := 312, descriptorIndex := 194, attributes := #[] }, { accessFlags := 25, nameIndex := 302, descriptorIndex := 303, attributes := #[] }, { accessFlags := 24, nameIndex := 19, descriptorIndex := 20, attributes := #[] }, { accessFlags := 24, nameIndex := 89, descriptorIndex := 86, attributes := #[] }, { accessFlags := 24, nameIndex := 85, descriptorIndex := 86, attributes := #[] }, { accessFlags := 18, nameIndex := 207, descriptorIndex := 194, attributes := #[] }, { accessFlags := 25, nameIndex := 316, descriptorIndex := 194, attributes := #[] }, { accessFlags := 25, nameIndex := 318, descriptorIndex := 194, attributes := #[] }, { accessFlags := 26, nameIndex := 320, descriptorIndex := 321, attributes := #[] }])
  fields := #[{ name := "MIN_VALUE", type := .int, accessFlags := 25, slot := 0, constantValue := 0 }, { name := "MAX_VALUE", type := .int, accessFlags := 25, slot := 1, constantValue := 0 }, { name := "TYPE", type := (.object "java/lang/Class"), accessFlags := 25, slot := 2, constantValue := 0 }, { name := "digits", type := (.array .char), accessFlags := 24, slot := 3, constantValue := 0 }, { name := "DigitTens", type := (.array .byte), accessFlags := 24, slot := 4, constantValue := 0 }, { name := "DigitOnes", type := (.array .byte), accessFlags := 24, slot := 5, constantValue := 0 }, { name := "value", type := .int, accessFlags := 18, slot := 0, constantValue := 0 }, { name := "SIZE", type := .int, accessFlags := 25, slot := 6, constantValue := 0 }, { name := "BYTES", type := .int, accessFlags := 25, slot := 7, constantValue := 0 }, { name := "serialVersionUID", type := .long, accessFlags := 26, slot := 8, constantValue := 0 }]
  methods := #[k9m0]
  instanceTypes := #[.int]
  staticTypes := #[.int, .int, (.object "java/lang/Class"), (.array .char), (.array .byte), (.array .byte), .int, .int, .long]
  resolved := Array.replicate 453 none
  statics := none }

def pool10 : Array CpInfo := pool [(1, u "java/lang/Cloneable"), (0, .class_ 1), (0, u "java/lang/Object"), (0, .class_ 3)] 3

/-- java/lang/Cloneable -/
def k10 : Class := { plain "java/lang/Cloneable" (some 0) with
  accessFlags := 1537
  interfaces := #[]
  cf := some (fileOf pool10 2 #[] #[] 1537 4 #[] #[])
  fields := #[]
  methods := #[]
  instanceTypes := #[]
  staticTypes := #[]
  resolved := Array.replicate 8 none
  statics := none }

/-- the primitive byte -/
def k11 : Class := { plain "byte" none with kind := .primitive 'B', accessFlags := 0x411 }
/-- [B -/
def k12 : Class := { plain "[B" (some 0) with kind := .array 11 .byte, interfaces := #[10, 4], accessFlags := 1041 }

/-- the primitive int -/
def k13 : Class := { plain "int" none with kind := .primitive 'I', accessFlags := 0x411 }
/-- [I -/
def k14 : Class := { plain "[I" (some 0) with kind := .array 13 .int, interfaces := #[10, 4], accessFlags := 1041 }

def heap : Heap := #[]
def classes : Array Class := #[k0, k1, k2, k3, k4, k5, k6, k7, k8, k9, k10, k11, k12, k13, k14]
def interned : List (Array UInt16 × Addr) := []
def slotsUsed : Nat := 0
def theMethod : MethodId := ⟨1, 1⟩
def args0 : Array Value := #[.int 65]
def aboutOver (below : List Frame) : State where
  vm := { classes := classes, interned := interned.toArray }
  heap := heap
  slotsUsed := slotsUsed
  threads := #[{ frames := .invoking theMethod args0 :: below }]
def below0 : List Frame := [.native { method := ⟨0, 0⟩, args := #[] }]
def about1 : State := aboutOver below0
def p0 : Program := .bare "" "" ""
def e0 : Env := launch0.env 0 0 0
theorem w_frames : about1.frames = Frame.invoking theMethod args0 :: below0 := rfl
set_option maxRecDepth 65536 in
theorem w_args : argsFit about1.vm theMethod args0 = true := by decide +kernel
set_option maxRecDepth 65536 in
theorem w_heap : heapFits about1 = true := by decide +kernel
set_option maxRecDepth 65536 in
theorem w_runnable : about1.curStatus? = some .runnable := by decide +kernel
set_option maxRecDepth 65536 in
theorem w_alone : about1.alone = true := by decide +kernel
set_option maxRecDepth 65536 in
theorem w_named : about1.methodNamed? x = some theMethod := by decide +kernel
set_option maxRecDepth 65536 in
theorem w_hears : about1.hears theMethod below0 = true := by decide +kernel
set_option maxRecDepth 65536 in
theorem w_ripe : about1.ripe theMethod args0 below0 = true := by decide +kernel
theorem w_running : about1.status = .running := rfl
set_option maxRecDepth 65536 in
theorem w_room : about1.hasRoom e0.platform room_1 = true :=
  launch0.hasRoom_least _ room_1 (by decide +kernel) (by decide +kernel) (by decide +kernel) (by decide +kernel) (by decide +kernel) (by decide +kernel)
theorem allAtoms_all (ts : List Jvm.Cond) (a : Array Jvm.Value) (st : Jvm.State) : (allAtoms ts).before a st = ts.all (fun c => c.before a st) := by
  induction ts with
  | nil => rfl
  | cons c t ih =>
    show (Jvm.Cond.and c (allAtoms t)).before a st = _
    rw [Jvm.Cond.before_and, ih, List.all_cons]
def words1 : List Jvm.Cond := Jvm.Cond.code x code maxLocals ret :: tables_1
/-- a 'code' word, met by the world's own term for the bytes: nothing is compared byte by byte -/
theorem code_word {y : MethodName} {bytes : ByteArray} {mx : Nat} {rt : Option FieldType} {a : Array Value} {s : State} {m : MethodId} {meth : Method} {c : Code} (h1 : s.methodNamed? y = some m) (h2 : s.vm.method? m = some meth) (h3 : meth.code = some c) (h4 : c.code = bytes)
    (h5 : (c.maxLocals == mx && c.exceptionTable.isEmpty && decide (c.maxStack ≤ mostOperands) && decide (meth.sig.returnType = rt) && !meth.locks && decide (parseMethodDescriptor y.desc = some meth.sig)) = true) : (Jvm.Cond.code y bytes mx rt).before a s = true := by
  simp only [Bool.and_eq_true, beq_iff_eq, Bool.not_eq_true', decide_eq_true_eq] at h5
  obtain ⟨⟨⟨⟨⟨g1, g2⟩, g3⟩, g4⟩, g5⟩, g6⟩ := h5
  simp [Cond.before, Cond.holds, Cond.value, h1, h2, h3, h4, g1, g2, g3, g4, g5, g6]
def isCode : Jvm.Cond → Bool
  | .code _ _ _ _ => true
  | _ => false
theorem all_split {L : List Jvm.Cond} {P : Jvm.Cond → Bool} (h1 : L.all (fun c => isCode c || P c) = true) (h2 : ∀ c ∈ L.filter isCode, P c = true) : L.all P = true := by
  refine List.all_eq_true.mpr fun c hc => ?_
  have h := List.all_eq_true.mp h1 c hc
  rcases Bool.eq_false_or_eq_true (isCode c) with hi | hi
  · exact h2 c (List.mem_filter.mpr ⟨hc, hi⟩)
  · simpa [hi] using h
set_option maxRecDepth 65536 in
theorem w_c0 : (Jvm.Cond.code x code maxLocals ret).before args0 about1 = true := code_word (m := ⟨1, 1⟩) (meth := k1m1) (c := k1c1) (by decide +kernel) rfl rfl rfl (by decide +kernel)
set_option maxRecDepth 65536 in
theorem w_c1 : (Jvm.Cond.code ({ cls := "com/example/breakwater/breakwater/core/RollingHistogram", name := "largestIn", desc := "(I)J" } : Jvm.MethodName) prog_44_method_5_code (6 : Nat) (Option.some Jvm.ClassFile.FieldType.long)).before args0 about1 = true := code_word (m := ⟨2, 1⟩) (meth := k2m1) (c := k2c1) (by decide +kernel) rfl rfl rfl (by decide +kernel)
set_option maxRecDepth 65536 in
theorem w_c2 : (Jvm.Cond.code ({ cls := "com/example/breakwater/breakwater/core/RollingHistogram", name := "binOf", desc := "(J)I" } : Jvm.MethodName) prog_44_method_4_code (5 : Nat) (Option.some Jvm.ClassFile.FieldType.int)).before args0 about1 = true := code_word (m := ⟨2, 0⟩) (meth := k2m0) (c := k2c0) (by decide +kernel) rfl rfl rfl (by decide +kernel)
set_option maxRecDepth 65536 in
theorem w_c3 : (Jvm.Cond.code ({ cls := "java/lang/Math", name := "min", desc := "(JJ)J" } : Jvm.MethodName) jdk_29_method_70_code (4 : Nat) (Option.some Jvm.ClassFile.FieldType.long)).before args0 about1 = true := code_word (m := ⟨3, 2⟩) (meth := k3m2) (c := k3c2) (by decide +kernel) rfl rfl rfl (by decide +kernel)
set_option maxRecDepth 65536 in
theorem w_c4 : (Jvm.Cond.code ({ cls := "java/lang/Math", name := "max", desc := "(JJ)J" } : Jvm.MethodName) jdk_29_method_66_code (4 : Nat) (Option.some Jvm.ClassFile.FieldType.long)).before args0 about1 = true := code_word (m := ⟨3, 1⟩) (meth := k3m1) (c := k3c1) (by decide +kernel) rfl rfl rfl (by decide +kernel)
set_option maxRecDepth 65536 in
theorem w_c5 : (Jvm.Cond.code ({ cls := "java/lang/Integer", name := "numberOfLeadingZeros", desc := "(I)I" } : Jvm.MethodName) jdk_33_method_47_code (2 : Nat) (Option.some Jvm.ClassFile.FieldType.int)).before args0 about1 = true := code_word (m := ⟨9, 0⟩) (meth := k9m0) (c := k9c0) (by decide +kernel) rfl rfl rfl (by decide +kernel)
def codes1 : List Jvm.Cond := [Jvm.Cond.code x code maxLocals ret, Jvm.Cond.code ({ cls := "com/example/breakwater/breakwater/core/RollingHistogram", name := "largestIn", desc := "(I)J" } : Jvm.MethodName) prog_44_method_5_code (6 : Nat) (Option.some Jvm.ClassFile.FieldType.long), Jvm.Cond.code ({ cls := "com/example/breakwater/breakwater/core/RollingHistogram", name := "binOf", desc := "(J)I" } : Jvm.MethodName) prog_44_method_4_code (5 : Nat) (Option.some Jvm.ClassFile.FieldType.int), Jvm.Cond.code ({ cls := "java/lang/Math", name := "min", desc := "(JJ)J" } : Jvm.MethodName) jdk_29_method_70_code (4 : Nat) (Option.some Jvm.ClassFile.FieldType.long), Jvm.Cond.code ({ cls := "java/lang/Math", name := "max", desc := "(JJ)J" } : Jvm.MethodName) jdk_29_method_66_code (4 : Nat) (Option.some Jvm.ClassFile.FieldType.long), Jvm.Cond.code ({ cls := "java/lang/Integer", name := "numberOfLeadingZeros", desc := "(I)I" } : Jvm.MethodName) jdk_33_method_47_code (2 : Nat) (Option.some Jvm.ClassFile.FieldType.int)]
set_option maxRecDepth 65536 in
theorem codes_eq : words1.filter isCode = codes1 := rfl
theorem w_codes : ∀ c ∈ words1.filter isCode, c.before args0 about1 = true := by
  rw [codes_eq]
  intro c hc
  simp only [codes1, List.mem_cons, List.not_mem_nil, or_false] at hc
  rcases hc with rfl | rfl | rfl | rfl | rfl | rfl
  · exact w_c0
  · exact w_c1
  · exact w_c2
  · exact w_c3
  · exact w_c4
  · exact w_c5
set_option maxRecDepth 65536 in
theorem w_t1 : words1.all (fun c => isCode c || c.before args0 about1) = true := by decide +kernel
theorem w_tables : (allAtoms (Jvm.Cond.code x code maxLocals ret :: tables_1)).before args0 about1 = true := by
  rw [allAtoms_all]
  show words1.all (fun c => c.before args0 about1) = true
  refine all_split ?_ w_codes
  rw [w_t1]
set_option maxRecDepth 65536 in
theorem w_case : (Jvm.Cond.and given_1 narrow_1).before args0 about1 = true := by decide +kernel
theorem w_applies : (headSpec (Jvm.Cond.code x code maxLocals ret :: tables_1) room_1).applies x e0.platform about1 = true :=
  (Spec.applies_iff w_frames).mpr ⟨w_running, w_runnable, w_alone, w_named, w_hears, w_ripe, w_room, w_tables⟩
theorem atStart : AtStart classFile x code maxLocals ret World_1 tables_1 room_1 Calls_1 rest_1 Pre_1 launch0 p0 e0 about1 theMethod args0 below0 :=
  ⟨lists_1, trivial, launch0.admits_env _ _ _, launch0.least_env, fairChoices_fair.cas, fairChoices_fair.clock, w_frames, w_args, w_heap, w_applies, trivial, trivial, w_case⟩
end start1
theorem witness_1 : WitnessClaimed_1 := ⟨start1.p0, start1.e0, start1.about1, start1.theMethod, start1.args0, start1.below0, start1.atStart⟩
end Jvm.Pilot.@@N@@
