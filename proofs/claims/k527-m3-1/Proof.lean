import JvmDerived
import JvmDerived.Pilot.@@N@@Statement
import JvmDerived.Pilot.@@N@@Code
set_option linter.unusedVariables false
set_option linter.unusedSimpArgs false
namespace Jvm.RoadKit
open Sem ClassFile Op Lib Jvm.Stand Jvm.Free Jvm.LawKit
section Own
variable {p : Program} {l : Launch} {e : Env} {R : Room} {s : State} {m : MethodId} {args : Array Value} {below : List Frame} {meth : Method} {c : Code} {T : State} {locs : List Loc} {cells slots : Nat}
theorem retI (X : Stand p l e R s m args below meth c T locs cells slots) (hx : p.tables.exec = Jvm.exec) {pc : Nat} {Ls : Array Slot} {z : Int32} {rest : List Value} (hret : meth.sig.returnType = some .int) (hd : decode c.code pc = .ok (.ireturn, 1)) {fs : List Frame}
    (hl : ∀ (f : JFrame) (acts : List Action), f.method = m → f.locked = none → f.entered = [] → (doReturn e (T.setTop f) acts (some (.int z))).1 = T.setFrames fs) : Steps p.tables e below (T.setTop (mkF m pc Ls (.int z :: rest))) (T.setFrames fs) :=
  retOut X hx hret rfl (Or.inl ⟨rfl, Or.inl rfl, z, rfl⟩) hd hl
theorem lremM {g : JFrame} {target : State} (X : Stand p l e R s m args below meth c T locs cells slots) (hx : p.tables.exec = Jvm.exec) (hg : g.method = m) {x y : Int64} {rest : List Value} (hd : decode c.code g.pc = .ok (.lrem, 1)) (hs : g.stack = .long y :: .long x :: rest) (hy : y ≠ 0)
    (hr : Steps p.tables e below (T.setTop { g with pc := g.pc + 1, stack := .long (x % y) :: rest }) target) : Steps p.tables e below (T.setTop g) target :=
  XS.lrem X.here hx hg hd hs hy (by rw [lrem_mod]; exact hr)
/-- the walk from S on ends in a return of which Q holds -/
def Goes (p : Program) (e : Env) (below : List Frame) (s : State) (k n : Nat) (Q : Option Value → Heap → List Loc → Prop) (S : State) : Prop :=
  ∃ t o, Steps p.tables e below S t ∧ t.status = .running ∧ Ended t below o ∧ ∃ v L, o = .returned v ∧ Q v t.heap L ∧ FrameEnd s o t L k n
variable {kc kn : Nat} {Q : Option Value → Heap → List Loc → Prop}
theorem Goes.step {A B : State} (h : ∀ t, Steps p.tables e below B t → Steps p.tables e below A t) (g : Goes p e below s kc kn Q B) : Goes p e below s kc kn Q A := by
  obtain ⟨t, o, h1, h2⟩ := g; exact ⟨t, o, h t h1, h2⟩
theorem Goes.to {A B : State} (h : Steps p.tables e below A B) (g : Goes p e below s kc kn Q B) : Goes p e below s kc kn Q A := by
  obtain ⟨t, o, h1, h2⟩ := g; exact ⟨t, o, h.trans h1, h2⟩
theorem Goes.out (X : Stand p l e R s m args below meth c T locs cells slots) {g : JFrame} {v : Option Value} (hlk : meth.locks = false) (hv : meth.sig.returnType = none → v = none)
    (hs : ∀ fs : List Frame, (∀ (f : JFrame) (acts : List Action), f.method = m → f.locked = none → f.entered = [] → (doReturn e (T.setTop f) acts v).1 = T.setFrames fs) → Steps p.tables e below (T.setTop g) (T.setFrames fs))
    (hq : Q v T.heap locs) (hk : cells ≤ kc) (hn : slots ≤ kn) : Goes p e below s kc kn Q (T.setTop g) := by
  obtain ⟨fs, hr, hrun, hended, hW, hsame⟩ := X.leave (v := v) hv hlk
  exact ⟨_, _, hs fs hr, hrun, hended, v, locs, rfl, hq, ⟨_, rfl⟩, hW, hsame.mono hk hn⟩
theorem Goes.retI (X : Stand p l e R s m args below meth c T locs cells slots) (hx : p.tables.exec = Jvm.exec) (hlk : meth.locks = false) {pc : Nat} {Ls : Array Slot} {z : Int32} {rest : List Value} (hret : meth.sig.returnType = some .int) (hd : decode c.code pc = .ok (.ireturn, 1))
    (hq : Q (some (.int z)) T.heap locs) (hk : cells ≤ kc) (hn : slots ≤ kn) : Goes p e below s kc kn Q (T.setTop (mkF m pc Ls (.int z :: rest))) :=
  Goes.out X hlk (fun h => by rw [hret] at h; cases h) (fun fs hr => Jvm.RoadKit.retI X hx hret hd hr) hq hk hn
theorem Goes.retN (X : Stand p l e R s m args below meth c T locs cells slots) (hx : p.tables.exec = Jvm.exec) (hlk : meth.locks = false) {pc : Nat} {Ls : Array Slot} {z : Int32} {t : FieldType} {rest : List Value} (hret : meth.sig.returnType = some t) (ht : t = .boolean ∨ t = .byte ∨ t = .char ∨ t = .short) (hd : decode c.code pc = .ok (.ireturn, 1))
    (hq : Q (some (.int (nar t z))) T.heap locs) (hk : cells ≤ kc) (hn : slots ≤ kn) : Goes p e below s kc kn Q (T.setTop (mkF m pc Ls (.int z :: rest))) :=
  Goes.out X hlk (fun h => by rw [hret] at h; cases h) (fun fs hr => Jvm.RoadKit.retN X hx hret ht hd hr) hq hk hn
theorem Goes.retJ (X : Stand p l e R s m args below meth c T locs cells slots) (hx : p.tables.exec = Jvm.exec) (hlk : meth.locks = false) {pc : Nat} {Ls : Array Slot} {z : Int64} {rest : List Value} (hret : meth.sig.returnType = some .long) (hd : decode c.code pc = .ok (.lreturn, 1))
    (hq : Q (some (.long z)) T.heap locs) (hk : cells ≤ kc) (hn : slots ≤ kn) : Goes p e below s kc kn Q (T.setTop (mkF m pc Ls (.long z :: rest))) :=
  Goes.out X hlk (fun h => by rw [hret] at h; cases h) (fun fs hr => retOut X hx hret rfl (Or.inr (Or.inl ⟨rfl, rfl, z, rfl⟩)) hd hr) hq hk hn
theorem Goes.retR (X : Stand p l e R s m args below meth c T locs cells slots) (hx : p.tables.exec = Jvm.exec) (hlk : meth.locks = false) {pc : Nat} {Ls : Array Slot} {w : Value} {t : FieldType} {rest : List Value} (hret : meth.sig.returnType = some t) (ht : t.isReference = true) (hw : w.isRef = true) (hn' : narrow t w = w) (hd : decode c.code pc = .ok (.areturn, 1))
    (hq : Q (some w) T.heap locs) (hk : cells ≤ kc) (hn : slots ≤ kn) : Goes p e below s kc kn Q (T.setTop (mkF m pc Ls (w :: rest))) :=
  Goes.out X hlk (fun h => by rw [hret] at h; cases h) (fun fs hr => retOut X hx hret hn' (Or.inr (Or.inr (Or.inr (Or.inr ⟨rfl, ht, hw⟩)))) hd hr) hq hk hn
theorem Goes.retV (X : Stand p l e R s m args below meth c T locs cells slots) (hx : p.tables.exec = Jvm.exec) (hlk : meth.locks = false) {pc : Nat} {Ls : Array Slot} (hret : meth.sig.returnType = none) (hd : decode c.code pc = .ok (.return_, 1))
    (hq : Q none T.heap locs) (hk : cells ≤ kc) (hn : slots ≤ kn) : Goes p e below s kc kn Q (T.setTop (mkF m pc Ls [])) :=
  Goes.out X hlk (fun _ => rfl) (fun fs hr => X.returnOut hx hret hd hr) hq hk hn
theorem Goes.enter {s₁ : State} {maxL : Nat} {g : JFrame} (h : entryFrame m args maxL = g) (k : Goes p e below s kc kn Q (s₁.setTop g)) :
    ∃ t o, Steps p.tables e below (s₁.setTop (entryFrame m args maxL)) t ∧ t.status = .running ∧ Ended t below o ∧ ∃ v L, o = .returned v ∧ Q v t.heap L ∧ FrameEnd s o t L kc kn := by rw [h]; exact k
theorem nm0 {b : Addr} : b ∉ ([] : List Addr) := List.not_mem_nil
theorem nm1 {b a : Addr} (h : b ≠ a) : b ∉ [a] := fun q => h (List.mem_singleton.mp q)
theorem nm2 {b a a' : Addr} (h : b ≠ a) (h' : b ≠ a') : b ∉ [a, a'] := fun q => (List.mem_cons.mp q).elim h (fun q => h' (List.mem_singleton.mp q))
theorem nm3 {b a a' a'' : Addr} (h : b ≠ a) (h' : b ≠ a') (h'' : b ≠ a'') : b ∉ [a, a', a''] := fun q => (List.mem_cons.mp q).elim h (fun q => nm2 h' h'' q)
theorem Sta.keepN {Z : State} {h h' : Heap} {C n d : String} {v : Value} {ws : List Addr} (F : Sta Z h C n d v) (K : Keep h h' ws) (hn : ∀ a ∈ ws, ∀ cell : Cell, h[a]? = some cell → cell.vm.isStatics = false) : Sta Z h' C n d v := by
  obtain ⟨cf, i, k, f, st, cell, h1, h2, h3, h4, h5, h6, r⟩ := F
  exact ⟨cf, i, k, f, st, cell, h1, h2, h3, h4, K.2.1 st cell h5 (fun q => by have := hn st q cell h5; rw [h6] at this; cases this), h6, r⟩
theorem Exa.plainN {Z : State} {h : Heap} {a : Addr} {C : String} (E : Exa Z h a C) : ∀ cell : Cell, h[a]? = some cell → cell.vm.isStatics = false := fun cell q => by
  obtain ⟨c, k, h1, h2, h3, h4, h5⟩ := E; cases h1.symm.trans q; exact h4
theorem Arv.plainN {Z : State} {h : Heap} {a : Addr} {k : ClassId} {ty : FieldType} {z : Int32} {vs : List Value} {d : Value} (A : Arv Z h a k ty z vs d) : ∀ cell : Cell, h[a]? = some cell → cell.vm.isStatics = false := fun cell q => by
  obtain ⟨c, A, r⟩ := A; cases A.1.symm.trans q; exact A.plain
end Own
end Jvm.RoadKit
namespace Jvm.Pilot.@@N@@
open Jvm Jvm.ClassFile Sem Op Lib Jvm.Free Jvm.Stand Jvm.LawKit Jvm.RoadKit Bundle Jvm.Pilot.@@N@@.Jvm.D
theorem own_ord {args : Array Value} {s : State} {a : Addr} {C n d : String} {z : Int32} (ev : (Term.static C n d).eval args s none [] s = some (.ref a)) (h : (Jvm.Cond.eq (.field (.static C n d) "java/lang/Enum" "ordinal" "I") (.int z)).value args s none s [] = some true) : s.fieldOf? a "java/lang/Enum" "ordinal" "I" = some (.int z) := by
  have e1 := fld_at (C := "java/lang/Enum") (n := "ordinal") (dd := "I") ev
  have e2 : (Term.int z).eval args s none [] s = some (.int z) := rfl
  cases hq : s.fieldOf? a "java/lang/Enum" "ordinal" "I" with
  | none => rw [hq] at e1; simp [Cond.value, e1] at h
  | some v =>
    rw [hq] at e1
    simp only [Cond.value, e1, e2] at h
    cases v <;> simp at h ⊢
    exact h
theorem own_ne {s : State} {a b : Addr} {y z : Int32} (h1 : s.fieldOf? a "java/lang/Enum" "ordinal" "I" = some (.int y)) (h2 : s.fieldOf? b "java/lang/Enum" "ordinal" "I" = some (.int z)) (hn : y ≠ z) : a ≠ b := fun q => by
  subst q; exact hn (Value.int.inj (Option.some.inj (h1.symm.trans h2)))
theorem d_prog_37_method_4_code_0 : decode prog_37_method_4_code 0 = .ok (.aload_n 0, 1) := by decide +kernel
theorem d_prog_37_method_4_code_1 : decode prog_37_method_4_code 1 = .ok (.getstatic 10, 3) := by decide +kernel
theorem d_prog_37_method_4_code_4 : decode prog_37_method_4_code 4 = .ok (.if_acmp .ne 7, 3) := by decide +kernel
theorem d_prog_37_method_4_code_7 : decode prog_37_method_4_code 7 = .ok (.iconst 1, 1) := by decide +kernel
theorem d_prog_37_method_4_code_8 : decode prog_37_method_4_code 8 = .ok (.goto 4, 3) := by decide +kernel
theorem d_prog_37_method_4_code_12 : decode prog_37_method_4_code 12 = .ok (.ireturn, 1) := by decide +kernel
def own_lhT_fn  : Int32 := (1 : Int32)
def own_lhT_Q (Z : State) (o0 : Addr) (a1 : Addr) (h0 : Heap) (n0 : Nat) (v : Option Value) (h : Heap) (L : List Loc) : Prop := v = some (.int (own_lhT_fn)) ∧ Fr n0 L ∧ h = h0
theorem own_lhT_ef (m : MethodId) (o0 : Addr) : entryFrame m #[(.ref o0)] 1 = mkF m 0 #[.val (.ref o0)] [] := by first | (simp [entryFrame, mkF, argsToLocals, Value.category]; done) | rfl
theorem pn_SitemapLayout_Dialect : plainName "com/example/pages_for_crawlers/pagesforcrawlers/SitemapLayout$Dialect" = true := by first | (simp [plainName, overriddenIn]; done) | decide +kernel
set_option maxRecDepth 65536 in
set_option maxHeartbeats 40000000 in
theorem own_lhT_rm (l : Launch) (Z : State) (a0 : Array Value) (hw : ∀ d ∈ tables_1, d.before a0 Z = true) (ws : List Jvm.Cond) (o0 : Addr) (a1 : Addr) (h0 : Heap) (n0 : Nat) (Z0 : n0 ≤ h0.size) (pr0 : Sta Z h0 "com/example/pages_for_crawlers/pagesforcrawlers/SitemapLayout$Dialect" "ATOM" "Lcom/example/pages_for_crawlers/pagesforcrawlers/SitemapLayout$Dialect;" (.ref a1)) (hq : o0 = a1) :
    MetFree l (⟨"com/example/pages_for_crawlers/pagesforcrawlers/SitemapLayout$Dialect", "locInHref", "()Z"⟩ : MethodName) (head1 (Jvm.Cond.code (⟨"com/example/pages_for_crawlers/pagesforcrawlers/SitemapLayout$Dialect", "locInHref", "()Z"⟩ : MethodName) prog_37_method_4_code 1 (some .boolean) :: ws) ({ frames := 0, cells := 0, slots := 0, locals := 0 } : Room)) (fun a U => a = #[(.ref o0)] ∧ Z.Warmed39 U.vm ∧ U.heap = h0) (fun _ _ _ _ _ => True) (fun _ U o U' => ∃ v L, o = .returned v ∧ own_lhT_Q Z o0 a1 h0 n0 v U'.heap L ∧ FrameEnd U o U' L ({ frames := 0, cells := 0, slots := 0, locals := 0 } : Room).cells ({ frames := 0, cells := 0, slots := 0, locals := 0 } : Room).slots) := by
  refine MetFree.of_bodySF (plainFor_of_name pn_SitemapLayout_Dialect) hisR ?_
  intro p e s m args below meth c s₁ Bd hml0 hP hK
  obtain ⟨rfl, hZ, hh⟩ := hP
  have hx := Bd.exec
  have hby := Bd.bytes
  have hml : c.maxLocals = 1 := hml0
  have hown : s.vm.findClass "com/example/pages_for_crawlers/pagesforcrawlers/SitemapLayout$Dialect" = some m.cls := findClass_of_methodNamed Bd.named
  have hnm := (name_of_methodNamed Bd.named Bd.method).1
  have hlk : meth.locks = false := BodyLoose.notSynchronized Bd
  have hrt := Bd.returns
  have X0 : Stand p l e ({ frames := 0, cells := 0, slots := 0, locals := 0 } : Room) s m #[(.ref o0)] below meth c s₁ [] 0 0 := Stand.of_body Bd
  have e0 : s₁.heap = h0 := by rw [← hh, Bd.state]; rfl
  have N0 := Fr.nil n0
  refine Goes.enter (kc := ({ frames := 0, cells := 0, slots := 0, locals := 0 } : Room).cells) (kn := ({ frames := 0, cells := 0, slots := 0, locals := 0 } : Room).slots) (Q := own_lhT_Q Z o0 a1 h0 n0) (own_lhT_ef m o0) ?_
  refine Goes.step (B := (s₁.setTop (mkF m 1 #[.val (.ref o0)] [(.ref o0)]))) (fun _ k => XS.aloadN X0.here hx rfl (hb hby d_prog_37_method_4_code_0) rfl rfl k) ?_
  obtain ⟨T101, X101, e101, st101⟩ := getS2 X0 hx hZ hown (host := "") (Or.inl (hw _ (List.mem_of_getElem? (i := 9) rfl))) Via.refl e0 pr0 (g := (mkF m 1 #[.val (.ref o0)] [(.ref o0)])) rfl (hb hby d_prog_37_method_4_code_1)
  refine Goes.step (B := (T101.setTop (mkF m 4 #[.val (.ref o0)] [(.ref a1), (.ref o0)]))) (fun _ k => st101 _ k) ?_
  refine Goes.step (B := (T101.setTop (mkF m 7 #[.val (.ref o0)] []))) (fun _ k => Jvm.RoadKit.acmp (g := (mkF m 4 #[.val (.ref o0)] [(.ref a1), (.ref o0)])) X101 hx rfl rfl rfl (pc0 := 4) (pc' := 7) (same := true) rfl (hb hby d_prog_37_method_4_code_4) rfl (decide_eq_true (congrArg Value.ref hq)) (by decide) (by decide) k) ?_
  refine Goes.step (B := (T101.setTop (mkF m 8 #[.val (.ref o0)] [(.int (1 : Int32))]))) (fun _ k => XS.iconst X101.here hx rfl (hb hby d_prog_37_method_4_code_7) k) ?_
  refine Goes.step (B := (T101.setTop (mkF m 12 #[.val (.ref o0)] [(.int (1 : Int32))]))) (fun _ k => XS.goto X101.here hx rfl (pc0 := 8) (pc' := 12) rfl (hb hby d_prog_37_method_4_code_8) (by decide) (by decide) k) ?_
  refine Goes.retN X101 hx hlk (t := .boolean) hrt (by simp) (hb hby d_prog_37_method_4_code_12) ?_ (by decide) (by decide)
  rw [e101]
  exact ⟨congrArg (fun z => some (Value.int z)) (show nar .boolean (1 : Int32) = (own_lhT_fn) from (show nar .boolean (1 : Int32) = (1 : Int32) from rfl).trans (by simp only [own_lhT_fn])), N0, rfl⟩
theorem d_prog_37_method_4_code_11 : decode prog_37_method_4_code 11 = .ok (.iconst 0, 1) := by decide +kernel
def own_lhF_fn  : Int32 := (0 : Int32)
def own_lhF_Q (Z : State) (o0 : Addr) (a1 : Addr) (h0 : Heap) (n0 : Nat) (v : Option Value) (h : Heap) (L : List Loc) : Prop := v = some (.int (own_lhF_fn)) ∧ Fr n0 L ∧ h = h0
theorem own_lhF_ef (m : MethodId) (o0 : Addr) : entryFrame m #[(.ref o0)] 1 = mkF m 0 #[.val (.ref o0)] [] := by first | (simp [entryFrame, mkF, argsToLocals, Value.category]; done) | rfl
set_option maxRecDepth 65536 in
set_option maxHeartbeats 40000000 in
theorem own_lhF_rm (l : Launch) (Z : State) (a0 : Array Value) (hw : ∀ d ∈ tables_1, d.before a0 Z = true) (ws : List Jvm.Cond) (o0 : Addr) (a1 : Addr) (h0 : Heap) (n0 : Nat) (Z0 : n0 ≤ h0.size) (pr0 : Sta Z h0 "com/example/pages_for_crawlers/pagesforcrawlers/SitemapLayout$Dialect" "ATOM" "Lcom/example/pages_for_crawlers/pagesforcrawlers/SitemapLayout$Dialect;" (.ref a1)) (hq : o0 ≠ a1) :
    MetFree l (⟨"com/example/pages_for_crawlers/pagesforcrawlers/SitemapLayout$Dialect", "locInHref", "()Z"⟩ : MethodName) (head1 (Jvm.Cond.code (⟨"com/example/pages_for_crawlers/pagesforcrawlers/SitemapLayout$Dialect", "locInHref", "()Z"⟩ : MethodName) prog_37_method_4_code 1 (some .boolean) :: ws) ({ frames := 0, cells := 0, slots := 0, locals := 0 } : Room)) (fun a U => a = #[(.ref o0)] ∧ Z.Warmed39 U.vm ∧ U.heap = h0) (fun _ _ _ _ _ => True) (fun _ U o U' => ∃ v L, o = .returned v ∧ own_lhF_Q Z o0 a1 h0 n0 v U'.heap L ∧ FrameEnd U o U' L ({ frames := 0, cells := 0, slots := 0, locals := 0 } : Room).cells ({ frames := 0, cells := 0, slots := 0, locals := 0 } : Room).slots) := by
  refine MetFree.of_bodySF (plainFor_of_name pn_SitemapLayout_Dialect) hisR ?_
  intro p e s m args below meth c s₁ Bd hml0 hP hK
  obtain ⟨rfl, hZ, hh⟩ := hP
  have hx := Bd.exec
  have hby := Bd.bytes
  have hml : c.maxLocals = 1 := hml0
  have hown : s.vm.findClass "com/example/pages_for_crawlers/pagesforcrawlers/SitemapLayout$Dialect" = some m.cls := findClass_of_methodNamed Bd.named
  have hnm := (name_of_methodNamed Bd.named Bd.method).1
  have hlk : meth.locks = false := BodyLoose.notSynchronized Bd
  have hrt := Bd.returns
  have X0 : Stand p l e ({ frames := 0, cells := 0, slots := 0, locals := 0 } : Room) s m #[(.ref o0)] below meth c s₁ [] 0 0 := Stand.of_body Bd
  have e0 : s₁.heap = h0 := by rw [← hh, Bd.state]; rfl
  have N0 := Fr.nil n0
  refine Goes.enter (kc := ({ frames := 0, cells := 0, slots := 0, locals := 0 } : Room).cells) (kn := ({ frames := 0, cells := 0, slots := 0, locals := 0 } : Room).slots) (Q := own_lhF_Q Z o0 a1 h0 n0) (own_lhF_ef m o0) ?_
  refine Goes.step (B := (s₁.setTop (mkF m 1 #[.val (.ref o0)] [(.ref o0)]))) (fun _ k => XS.aloadN X0.here hx rfl (hb hby d_prog_37_method_4_code_0) rfl rfl k) ?_
  obtain ⟨T101, X101, e101, st101⟩ := getS2 X0 hx hZ hown (host := "") (Or.inl (hw _ (List.mem_of_getElem? (i := 9) rfl))) Via.refl e0 pr0 (g := (mkF m 1 #[.val (.ref o0)] [(.ref o0)])) rfl (hb hby d_prog_37_method_4_code_1)
  refine Goes.step (B := (T101.setTop (mkF m 4 #[.val (.ref o0)] [(.ref a1), (.ref o0)]))) (fun _ k => st101 _ k) ?_
  refine Goes.step (B := (T101.setTop (mkF m 11 #[.val (.ref o0)] []))) (fun _ k => Jvm.RoadKit.acmp (g := (mkF m 4 #[.val (.ref o0)] [(.ref a1), (.ref o0)])) X101 hx rfl rfl rfl (pc0 := 4) (pc' := 11) (same := false) rfl (hb hby d_prog_37_method_4_code_4) rfl (decide_eq_false fun q => hq (Value.ref.inj q)) (by decide) (by decide) k) ?_
  refine Goes.step (B := (T101.setTop (mkF m 12 #[.val (.ref o0)] [(.int (0 : Int32))]))) (fun _ k => XS.iconst X101.here hx rfl (hb hby d_prog_37_method_4_code_11) k) ?_
  refine Goes.retN X101 hx hlk (t := .boolean) hrt (by simp) (hb hby d_prog_37_method_4_code_12) ?_ (by decide) (by decide)
  rw [e101]
  exact ⟨congrArg (fun z => some (Value.int z)) (show nar .boolean (0 : Int32) = (own_lhF_fn) from (show nar .boolean (0 : Int32) = (0 : Int32) from rfl).trans (by simp only [own_lhF_fn])), N0, rfl⟩
theorem pd___Z : parseMethodDescriptor "()Z" = some ⟨[], some .boolean⟩ := by decide +kernel
def own_k (x0 : Int32) : Int32 := ((x0 &&& (2147483647 : Int32)) % (3 : Int32))
def own_law_Q (Z : State) (x0 : Int32) (aP : Addr) (aR : Addr) (aA : Addr) (h0 : Heap) (n0 : Nat) (v : Option Value) (h : Heap) (L : List Loc) : Prop := v = some (.int 1) ∧ Fr n0 L
theorem own_law_ef (m : MethodId) (x0 : Int32) : entryFrame m #[(.int x0)] maxLocals = mkF m 0 #[.val (.int x0), .unset, .unset, .unset] [] := by first | (simp [entryFrame, mkF, argsToLocals, Value.category, maxLocals]; done) | rfl
theorem pn_DialectLocInHrefPinLaw : plainName "com/example/pages_for_crawlers/pagesforcrawlers/DialectLocInHrefPinLaw" = true := by first | (simp [plainName, overriddenIn]; done) | decide +kernel
set_option maxRecDepth 65536 in
set_option maxHeartbeats 40000000 in
theorem own_law_rm (l : Launch) (Z : State) (a0 : Array Value) (hw : ∀ d ∈ tables_1, d.before a0 Z = true) (ws : List Jvm.Cond) (x0 : Int32) (aP : Addr) (aR : Addr) (aA : Addr) (h0 : Heap) (n0 : Nat) (Z0 : n0 ≤ h0.size) (pr0 : Sta Z h0 "com/example/pages_for_crawlers/pagesforcrawlers/SitemapLayout$Dialect" "PROTOCOL" "Lcom/example/pages_for_crawlers/pagesforcrawlers/SitemapLayout$Dialect;" (.ref aP)) (pr1 : Sta Z h0 "com/example/pages_for_crawlers/pagesforcrawlers/SitemapLayout$Dialect" "RSS" "Lcom/example/pages_for_crawlers/pagesforcrawlers/SitemapLayout$Dialect;" (.ref aR)) (pr2 : Sta Z h0 "com/example/pages_for_crawlers/pagesforcrawlers/SitemapLayout$Dialect" "ATOM" "Lcom/example/pages_for_crawlers/pagesforcrawlers/SitemapLayout$Dialect;" (.ref aA)) (pr3 : Exa Z h0 aP "com/example/pages_for_crawlers/pagesforcrawlers/SitemapLayout$Dialect") (pr4 : Exa Z h0 aR "com/example/pages_for_crawlers/pagesforcrawlers/SitemapLayout$Dialect") (pr5 : Exa Z h0 aA "com/example/pages_for_crawlers/pagesforcrawlers/SitemapLayout$Dialect") (pr6 : aP ≠ aA) (pr7 : aR ≠ aA) :
    MetFree l x (head1 (Jvm.Cond.code x code maxLocals ret :: ws) room_1) (fun a U => a = #[(.int x0)] ∧ Z.Warmed39 U.vm ∧ U.heap = h0) (fun _ _ _ _ _ => True) (fun _ U o U' => ∃ v L, o = .returned v ∧ own_law_Q Z x0 aP aR aA h0 n0 v U'.heap L ∧ FrameEnd U o U' L room_1.cells room_1.slots) := by
  refine MetFree.of_bodySF (plainFor_of_name pn_DialectLocInHrefPinLaw) hisR ?_
  intro p e s m args below meth c s₁ Bd hml0 hP hK
  obtain ⟨rfl, hZ, hh⟩ := hP
  have hx := Bd.exec
  have hby := Bd.bytes
  have hml : c.maxLocals = 4 := hml0
  have hown : s.vm.findClass "com/example/pages_for_crawlers/pagesforcrawlers/DialectLocInHrefPinLaw" = some m.cls := findClass_of_methodNamed Bd.named
  have hnm := (name_of_methodNamed Bd.named Bd.method).1
  have hlk : meth.locks = false := BodyLoose.notSynchronized Bd
  have hrt := Bd.returns
  have X0 : Stand p l e room_1 s m #[(.int x0)] below meth c s₁ [] 0 0 := Stand.of_body Bd
  have e0 : s₁.heap = h0 := by rw [← hh, Bd.state]; rfl
  have N0 := Fr.nil n0
  refine Goes.enter (kc := room_1.cells) (kn := room_1.slots) (Q := own_law_Q Z x0 aP aR aA h0 n0) (own_law_ef m x0) ?_
  refine Goes.step (B := (s₁.setTop (mkF m 1 #[.val (.int x0), .unset, .unset, .unset] [(.int x0)]))) (fun _ k => XS.iloadN X0.here hx rfl (hb hby at_0) rfl k) ?_
  refine Goes.step (B := (s₁.setTop (mkF m 3 #[.val (.int x0), .unset, .unset, .unset] [(.int (2147483647 : Int32)), (.int x0)]))) (fun _ k => X0.ldcInt hx hown (mvT hZ (hw _ (List.mem_of_getElem? (i := 0) rfl))) (g := (mkF m 1 #[.val (.int x0), .unset, .unset, .unset] [(.int x0)])) rfl (hb hby at_1) _ k) ?_
  refine Goes.step (B := (s₁.setTop (mkF m 4 #[.val (.int x0), .unset, .unset, .unset] [(.int (x0 &&& (2147483647 : Int32)))]))) (fun _ k => XS.iand X0.here hx rfl (hb hby at_3) rfl k) ?_
  refine Goes.step (B := (s₁.setTop (mkF m 5 #[.val (.int x0), .unset, .unset, .unset] [(.int (3 : Int32)), (.int (x0 &&& (2147483647 : Int32)))]))) (fun _ k => XS.iconst X0.here hx rfl (hb hby at_4) k) ?_
  refine Goes.step (B := (s₁.setTop (mkF m 6 #[.val (.int x0), .unset, .unset, .unset] [(.int ((x0 &&& (2147483647 : Int32)) % (3 : Int32)))]))) (fun _ k => iremM X0 hx rfl (hb hby at_5) rfl (by decide) k) ?_
  refine Goes.step (B := (s₁.setTop (mkF m 7 #[.val (.int x0), .val (.int (own_k x0)), .unset, .unset] []))) (fun _ k => XS.istoreN X0.here hx rfl (hb hby at_6) rfl (l' := #[.val (.int x0), .val (.int (own_k x0)), .unset, .unset]) rfl k) ?_
  refine Goes.step (B := (s₁.setTop (mkF m 8 #[.val (.int x0), .val (.int (own_k x0)), .unset, .unset] [(.int (own_k x0))]))) (fun _ k => XS.iloadN X0.here hx rfl (hb hby at_7) rfl k) ?_
  by_cases hc101 : (own_k x0) = (0 : Int32)
  · refine Goes.step (B := (s₁.setTop (mkF m 11 #[.val (.int x0), .val (.int (own_k x0)), .unset, .unset] []))) (fun _ k => XS.ifNo X0.here hx rfl (hb hby at_8) rfl ((if0 _ _).trans (teq hc101).2) k) ?_
    obtain ⟨T102, X102, e102, st102⟩ := getS2 X0 hx hZ hown (host := "") (Or.inl (hw _ (List.mem_of_getElem? (i := 1) rfl))) Via.refl e0 pr0 (g := (mkF m 11 #[.val (.int x0), .val (.int (own_k x0)), .unset, .unset] [])) rfl (hb hby at_11)
    refine Goes.step (B := (T102.setTop (mkF m 14 #[.val (.int x0), .val (.int (own_k x0)), .unset, .unset] [(.ref aP)]))) (fun _ k => st102 _ k) ?_
    refine Goes.step (B := (T102.setTop (mkF m 15 #[.val (.int x0), .val (.int (own_k x0)), .val (.ref aP), .unset] []))) (fun _ k => XS.astoreN X102.here hx rfl (hb hby at_14) rfl rfl (l' := #[.val (.int x0), .val (.int (own_k x0)), .val (.ref aP), .unset]) rfl k) ?_
    refine Goes.step (B := (T102.setTop (mkF m 16 #[.val (.int x0), .val (.int (own_k x0)), .val (.ref aP), .unset] [(.int (0 : Int32))]))) (fun _ k => XS.iconst X102.here hx rfl (hb hby at_15) k) ?_
    refine Goes.step (B := (T102.setTop (mkF m 17 #[.val (.int x0), .val (.int (own_k x0)), .val (.ref aP), .val (.int (0 : Int32))] []))) (fun _ k => XS.istoreN X102.here hx rfl (hb hby at_16) rfl (l' := #[.val (.int x0), .val (.int (own_k x0)), .val (.ref aP), .val (.int (0 : Int32))]) rfl k) ?_
    refine Goes.step (B := (T102.setTop (mkF m 40 #[.val (.int x0), .val (.int (own_k x0)), .val (.ref aP), .val (.int (0 : Int32))] []))) (fun _ k => XS.goto X102.here hx rfl (pc0 := 17) (pc' := 40) rfl (hb hby at_17) (by decide) (by decide) k) ?_
    refine Goes.step (B := (T102.setTop (mkF m 41 #[.val (.int x0), .val (.int (own_k x0)), .val (.ref aP), .val (.int (0 : Int32))] [(.ref aP)]))) (fun _ k => XS.aloadN X102.here hx rfl (hb hby at_40) rfl rfl k) ?_
    obtain ⟨cq103, kq103, q103a, q103b, q103c⟩ := isOf hZ e102 pr3
    obtain ⟨_, _, ⟨T103, L103, k103, n103⟩, -, X103, ⟨Lc103, hQ103, l103, y103, z103⟩, st103⟩ := X102.virtualBack hx (y := (⟨"com/example/pages_for_crawlers/pagesforcrawlers/SitemapLayout$Dialect", "locInHref", "()Z"⟩ : MethodName)) (z := (⟨"com/example/pages_for_crawlers/pagesforcrawlers/SitemapLayout$Dialect", "locInHref", "()Z"⟩ : MethodName)) hown (mvT hZ (hw _ (List.mem_of_getElem? (i := 4) rfl))) (mvT hZ (hw _ (List.mem_of_getElem? (i := 5) rfl))) (notFace_of_selects (args := #[]) (mvT hZ (hw _ (List.mem_of_getElem? (i := 7) rfl)))) (mvT hZ (hw _ (List.mem_of_getElem? (i := 7) rfl))) (mvT hZ (hw _ (List.mem_of_getElem? (i := 6) rfl))) (by decide) (backOf (W := 0) (own_lhF_rm l Z a0 hw [] aP aA h0 n0 Z0 pr2 pr6) hZ (hw _ (List.mem_of_getElem? (i := 8) rfl)) (hw _ (List.mem_of_getElem? (i := 2) rfl)) (by decide) (by decide)) q103a q103c (g := (mkF m 41 #[.val (.int x0), .val (.int (own_k x0)), .val (.ref aP), .val (.int (0 : Int32))] [(.ref aP)])) rfl (by rw [hml]; rfl) (Steps.refl _) (argsL := []) (rest := []) (lenOf pd___Z rfl) rfl (by show 2 * 0 + _ ≤ _; exact Nat.le_of_eq rfl) (hb hby at_41) (fun _ _ => ⟨rfl, e102, (by decide : 0 + 0 ≤ _), (by decide : 0 + 0 ≤ _)⟩)
    dsimp only [Pt.U, Pt.locs, Pt.cells, Pt.slots] at X103 l103 y103 z103 st103 hQ103
    subst l103 y103 z103
    obtain ⟨rfl, N103q, e103⟩ := hQ103
    have N103 := Fr.app N0 N103q
    refine Goes.to (B := (T103.setTop (mkF m 44 #[.val (.int x0), .val (.int (own_k x0)), .val (.ref aP), .val (.int (0 : Int32))] [(.int (own_lhF_fn))]))) st103 ?_
    refine Goes.step (B := (T103.setTop (mkF m 45 #[.val (.int x0), .val (.int (own_k x0)), .val (.ref aP), .val (.int (0 : Int32))] [(.int (0 : Int32)), (.int (own_lhF_fn))]))) (fun _ k => XS.iloadN X103.here hx rfl (hb hby at_44) rfl k) ?_
    have hc104 : (own_lhF_fn) = (0 : Int32) := rfl
    refine Goes.step (B := (T103.setTop (mkF m 48 #[.val (.int x0), .val (.int (own_k x0)), .val (.ref aP), .val (.int (0 : Int32))] []))) (fun _ k => XS.icmpNo X103.here hx rfl (hb hby at_45) rfl (teq hc104).2 k) ?_
    refine Goes.step (B := (T103.setTop (mkF m 49 #[.val (.int x0), .val (.int (own_k x0)), .val (.ref aP), .val (.int (0 : Int32))] [(.int (1 : Int32))]))) (fun _ k => XS.iconst X103.here hx rfl (hb hby at_48) k) ?_
    refine Goes.step (B := (T103.setTop (mkF m 53 #[.val (.int x0), .val (.int (own_k x0)), .val (.ref aP), .val (.int (0 : Int32))] [(.int (1 : Int32))]))) (fun _ k => XS.goto X103.here hx rfl (pc0 := 49) (pc' := 53) rfl (hb hby at_49) (by decide) (by decide) k) ?_
    refine Goes.retN X103 hx hlk (t := .boolean) hrt (by simp) (hb hby at_53) ?_ (by decide) (by decide)
    rw [e103]
    exact ⟨rfl, N103⟩
  · refine Goes.step (B := (s₁.setTop (mkF m 20 #[.val (.int x0), .val (.int (own_k x0)), .unset, .unset] []))) (fun _ k => XS.ifYes X0.here hx rfl (pc0 := 8) (pc' := 20) rfl (hb hby at_8) rfl ((if0 _ _).trans (feq hc101).2) (by decide) (by decide) k) ?_
    refine Goes.step (B := (s₁.setTop (mkF m 21 #[.val (.int x0), .val (.int (own_k x0)), .unset, .unset] [(.int (own_k x0))]))) (fun _ k => XS.iloadN X0.here hx rfl (hb hby at_20) rfl k) ?_
    refine Goes.step (B := (s₁.setTop (mkF m 22 #[.val (.int x0), .val (.int (own_k x0)), .unset, .unset] [(.int (1 : Int32)), (.int (own_k x0))]))) (fun _ k => XS.iconst X0.here hx rfl (hb hby at_21) k) ?_
    by_cases hc105 : (own_k x0) = (1 : Int32)
    · refine Goes.step (B := (s₁.setTop (mkF m 25 #[.val (.int x0), .val (.int (own_k x0)), .unset, .unset] []))) (fun _ k => XS.icmpNo X0.here hx rfl (hb hby at_22) rfl (teq hc105).2 k) ?_
      obtain ⟨T106, X106, e106, st106⟩ := getS2 X0 hx hZ hown (host := "") (Or.inl (hw _ (List.mem_of_getElem? (i := 12) rfl))) Via.refl e0 pr1 (g := (mkF m 25 #[.val (.int x0), .val (.int (own_k x0)), .unset, .unset] [])) rfl (hb hby at_25)
      refine Goes.step (B := (T106.setTop (mkF m 28 #[.val (.int x0), .val (.int (own_k x0)), .unset, .unset] [(.ref aR)]))) (fun _ k => st106 _ k) ?_
      refine Goes.step (B := (T106.setTop (mkF m 29 #[.val (.int x0), .val (.int (own_k x0)), .val (.ref aR), .unset] []))) (fun _ k => XS.astoreN X106.here hx rfl (hb hby at_28) rfl rfl (l' := #[.val (.int x0), .val (.int (own_k x0)), .val (.ref aR), .unset]) rfl k) ?_
      refine Goes.step (B := (T106.setTop (mkF m 30 #[.val (.int x0), .val (.int (own_k x0)), .val (.ref aR), .unset] [(.int (0 : Int32))]))) (fun _ k => XS.iconst X106.here hx rfl (hb hby at_29) k) ?_
      refine Goes.step (B := (T106.setTop (mkF m 31 #[.val (.int x0), .val (.int (own_k x0)), .val (.ref aR), .val (.int (0 : Int32))] []))) (fun _ k => XS.istoreN X106.here hx rfl (hb hby at_30) rfl (l' := #[.val (.int x0), .val (.int (own_k x0)), .val (.ref aR), .val (.int (0 : Int32))]) rfl k) ?_
      refine Goes.step (B := (T106.setTop (mkF m 40 #[.val (.int x0), .val (.int (own_k x0)), .val (.ref aR), .val (.int (0 : Int32))] []))) (fun _ k => XS.goto X106.here hx rfl (pc0 := 31) (pc' := 40) rfl (hb hby at_31) (by decide) (by decide) k) ?_
      refine Goes.step (B := (T106.setTop (mkF m 41 #[.val (.int x0), .val (.int (own_k x0)), .val (.ref aR), .val (.int (0 : Int32))] [(.ref aR)]))) (fun _ k => XS.aloadN X106.here hx rfl (hb hby at_40) rfl rfl k) ?_
      obtain ⟨cq107, kq107, q107a, q107b, q107c⟩ := isOf hZ e106 pr4
      obtain ⟨_, _, ⟨T107, L107, k107, n107⟩, -, X107, ⟨Lc107, hQ107, l107, y107, z107⟩, st107⟩ := X106.virtualBack hx (y := (⟨"com/example/pages_for_crawlers/pagesforcrawlers/SitemapLayout$Dialect", "locInHref", "()Z"⟩ : MethodName)) (z := (⟨"com/example/pages_for_crawlers/pagesforcrawlers/SitemapLayout$Dialect", "locInHref", "()Z"⟩ : MethodName)) hown (mvT hZ (hw _ (List.mem_of_getElem? (i := 4) rfl))) (mvT hZ (hw _ (List.mem_of_getElem? (i := 5) rfl))) (notFace_of_selects (args := #[]) (mvT hZ (hw _ (List.mem_of_getElem? (i := 7) rfl)))) (mvT hZ (hw _ (List.mem_of_getElem? (i := 7) rfl))) (mvT hZ (hw _ (List.mem_of_getElem? (i := 6) rfl))) (by decide) (backOf (W := 0) (own_lhF_rm l Z a0 hw [] aR aA h0 n0 Z0 pr2 pr7) hZ (hw _ (List.mem_of_getElem? (i := 8) rfl)) (hw _ (List.mem_of_getElem? (i := 2) rfl)) (by decide) (by decide)) q107a q107c (g := (mkF m 41 #[.val (.int x0), .val (.int (own_k x0)), .val (.ref aR), .val (.int (0 : Int32))] [(.ref aR)])) rfl (by rw [hml]; rfl) (Steps.refl _) (argsL := []) (rest := []) (lenOf pd___Z rfl) rfl (by show 2 * 0 + _ ≤ _; exact Nat.le_of_eq rfl) (hb hby at_41) (fun _ _ => ⟨rfl, e106, (by decide : 0 + 0 ≤ _), (by decide : 0 + 0 ≤ _)⟩)
      dsimp only [Pt.U, Pt.locs, Pt.cells, Pt.slots] at X107 l107 y107 z107 st107 hQ107
      subst l107 y107 z107
      obtain ⟨rfl, N107q, e107⟩ := hQ107
      have N107 := Fr.app N0 N107q
      refine Goes.to (B := (T107.setTop (mkF m 44 #[.val (.int x0), .val (.int (own_k x0)), .val (.ref aR), .val (.int (0 : Int32))] [(.int (own_lhF_fn))]))) st107 ?_
      refine Goes.step (B := (T107.setTop (mkF m 45 #[.val (.int x0), .val (.int (own_k x0)), .val (.ref aR), .val (.int (0 : Int32))] [(.int (0 : Int32)), (.int (own_lhF_fn))]))) (fun _ k => XS.iloadN X107.here hx rfl (hb hby at_44) rfl k) ?_
      have hc108 : (own_lhF_fn) = (0 : Int32) := rfl
      refine Goes.step (B := (T107.setTop (mkF m 48 #[.val (.int x0), .val (.int (own_k x0)), .val (.ref aR), .val (.int (0 : Int32))] []))) (fun _ k => XS.icmpNo X107.here hx rfl (hb hby at_45) rfl (teq hc108).2 k) ?_
      refine Goes.step (B := (T107.setTop (mkF m 49 #[.val (.int x0), .val (.int (own_k x0)), .val (.ref aR), .val (.int (0 : Int32))] [(.int (1 : Int32))]))) (fun _ k => XS.iconst X107.here hx rfl (hb hby at_48) k) ?_
      refine Goes.step (B := (T107.setTop (mkF m 53 #[.val (.int x0), .val (.int (own_k x0)), .val (.ref aR), .val (.int (0 : Int32))] [(.int (1 : Int32))]))) (fun _ k => XS.goto X107.here hx rfl (pc0 := 49) (pc' := 53) rfl (hb hby at_49) (by decide) (by decide) k) ?_
      refine Goes.retN X107 hx hlk (t := .boolean) hrt (by simp) (hb hby at_53) ?_ (by decide) (by decide)
      rw [e107]
      exact ⟨rfl, N107⟩
    · refine Goes.step (B := (s₁.setTop (mkF m 34 #[.val (.int x0), .val (.int (own_k x0)), .unset, .unset] []))) (fun _ k => XS.icmpYes X0.here hx rfl (pc0 := 22) (pc' := 34) rfl (hb hby at_22) rfl (feq hc105).2 (by decide) (by decide) k) ?_
      obtain ⟨T109, X109, e109, st109⟩ := getS2 X0 hx hZ hown (host := "") (Or.inl (hw _ (List.mem_of_getElem? (i := 11) rfl))) Via.refl e0 pr2 (g := (mkF m 34 #[.val (.int x0), .val (.int (own_k x0)), .unset, .unset] [])) rfl (hb hby at_34)
      refine Goes.step (B := (T109.setTop (mkF m 37 #[.val (.int x0), .val (.int (own_k x0)), .unset, .unset] [(.ref aA)]))) (fun _ k => st109 _ k) ?_
      refine Goes.step (B := (T109.setTop (mkF m 38 #[.val (.int x0), .val (.int (own_k x0)), .val (.ref aA), .unset] []))) (fun _ k => XS.astoreN X109.here hx rfl (hb hby at_37) rfl rfl (l' := #[.val (.int x0), .val (.int (own_k x0)), .val (.ref aA), .unset]) rfl k) ?_
      refine Goes.step (B := (T109.setTop (mkF m 39 #[.val (.int x0), .val (.int (own_k x0)), .val (.ref aA), .unset] [(.int (1 : Int32))]))) (fun _ k => XS.iconst X109.here hx rfl (hb hby at_38) k) ?_
      refine Goes.step (B := (T109.setTop (mkF m 40 #[.val (.int x0), .val (.int (own_k x0)), .val (.ref aA), .val (.int (1 : Int32))] []))) (fun _ k => XS.istoreN X109.here hx rfl (hb hby at_39) rfl (l' := #[.val (.int x0), .val (.int (own_k x0)), .val (.ref aA), .val (.int (1 : Int32))]) rfl k) ?_
      refine Goes.step (B := (T109.setTop (mkF m 41 #[.val (.int x0), .val (.int (own_k x0)), .val (.ref aA), .val (.int (1 : Int32))] [(.ref aA)]))) (fun _ k => XS.aloadN X109.here hx rfl (hb hby at_40) rfl rfl k) ?_
      obtain ⟨cq110, kq110, q110a, q110b, q110c⟩ := isOf hZ e109 pr5
      obtain ⟨_, _, ⟨T110, L110, k110, n110⟩, -, X110, ⟨Lc110, hQ110, l110, y110, z110⟩, st110⟩ := X109.virtualBack hx (y := (⟨"com/example/pages_for_crawlers/pagesforcrawlers/SitemapLayout$Dialect", "locInHref", "()Z"⟩ : MethodName)) (z := (⟨"com/example/pages_for_crawlers/pagesforcrawlers/SitemapLayout$Dialect", "locInHref", "()Z"⟩ : MethodName)) hown (mvT hZ (hw _ (List.mem_of_getElem? (i := 4) rfl))) (mvT hZ (hw _ (List.mem_of_getElem? (i := 5) rfl))) (notFace_of_selects (args := #[]) (mvT hZ (hw _ (List.mem_of_getElem? (i := 7) rfl)))) (mvT hZ (hw _ (List.mem_of_getElem? (i := 7) rfl))) (mvT hZ (hw _ (List.mem_of_getElem? (i := 6) rfl))) (by decide) (backOf (W := 0) (own_lhT_rm l Z a0 hw [] aA aA h0 n0 Z0 pr2 rfl) hZ (hw _ (List.mem_of_getElem? (i := 8) rfl)) (hw _ (List.mem_of_getElem? (i := 2) rfl)) (by decide) (by decide)) q110a q110c (g := (mkF m 41 #[.val (.int x0), .val (.int (own_k x0)), .val (.ref aA), .val (.int (1 : Int32))] [(.ref aA)])) rfl (by rw [hml]; rfl) (Steps.refl _) (argsL := []) (rest := []) (lenOf pd___Z rfl) rfl (by show 2 * 0 + _ ≤ _; exact Nat.le_of_eq rfl) (hb hby at_41) (fun _ _ => ⟨rfl, e109, (by decide : 0 + 0 ≤ _), (by decide : 0 + 0 ≤ _)⟩)
      dsimp only [Pt.U, Pt.locs, Pt.cells, Pt.slots] at X110 l110 y110 z110 st110 hQ110
      subst l110 y110 z110
      obtain ⟨rfl, N110q, e110⟩ := hQ110
      have N110 := Fr.app N0 N110q
      refine Goes.to (B := (T110.setTop (mkF m 44 #[.val (.int x0), .val (.int (own_k x0)), .val (.ref aA), .val (.int (1 : Int32))] [(.int (own_lhT_fn))]))) st110 ?_
      refine Goes.step (B := (T110.setTop (mkF m 45 #[.val (.int x0), .val (.int (own_k x0)), .val (.ref aA), .val (.int (1 : Int32))] [(.int (1 : Int32)), (.int (own_lhT_fn))]))) (fun _ k => XS.iloadN X110.here hx rfl (hb hby at_44) rfl k) ?_
      have hc111 : (own_lhT_fn) = (1 : Int32) := rfl
      refine Goes.step (B := (T110.setTop (mkF m 48 #[.val (.int x0), .val (.int (own_k x0)), .val (.ref aA), .val (.int (1 : Int32))] []))) (fun _ k => XS.icmpNo X110.here hx rfl (hb hby at_45) rfl (teq hc111).2 k) ?_
      refine Goes.step (B := (T110.setTop (mkF m 49 #[.val (.int x0), .val (.int (own_k x0)), .val (.ref aA), .val (.int (1 : Int32))] [(.int (1 : Int32))]))) (fun _ k => XS.iconst X110.here hx rfl (hb hby at_48) k) ?_
      refine Goes.step (B := (T110.setTop (mkF m 53 #[.val (.int x0), .val (.int (own_k x0)), .val (.ref aA), .val (.int (1 : Int32))] [(.int (1 : Int32))]))) (fun _ k => XS.goto X110.here hx rfl (pc0 := 49) (pc' := 53) rfl (hb hby at_49) (by decide) (by decide) k) ?_
      refine Goes.retN X110 hx hlk (t := .boolean) hrt (by simp) (hb hby at_53) ?_ (by decide) (by decide)
      rw [e110]
      exact ⟨rfl, N110⟩
set_option maxRecDepth 65536 in
set_option maxHeartbeats 40000000 in
theorem comes_1 {Post : Tables → Env → Array Value → State → Outcome → State → Prop} (hpost : ∀ tb e args s v u, (limb_1_1.after args s (.returned v) u = true ∧ limb_1_2.after args s (.returned v) u = true ∧ True) → FrameEnd s (.returned v) u (Jvm.fieldLocs frame_1_writes args s ++ Jvm.arrayLocs frame_1_arrays args s ++ Jvm.staticLocs frame_1_statics s) 0 0 → Post tb e args s (.returned v) u) :
    ArmFor flags0 classFile x code maxLocals ret World_1 tables_1 room_1 Calls_1 rest_1 Pre_1 Post := by
  intro l hfl _ _ p e ha hc hk s m args below hf hA hF happ hP
  obtain ⟨hcalls, hrest, hpre⟩ := hP
  obtain ⟨-, -, -, hnamed, -, -, -, hat⟩ := (Spec.applies_iff hf).mp happ
  obtain ⟨hg, hn⟩ := and_e (Cond.before_iff.mp (show (Jvm.Cond.and given_1 narrow_1).before args s = true from hpre))
  obtain ⟨hg1, hg2⟩ := and_e hg
  obtain ⟨w0, rfl⟩ : ∃ w0 : Value, args = #[w0] := by
    have hs : args.size = 1 := by simpa [Cond.value, given_1] using hg1
    obtain ⟨L⟩ := args
    match L, hs with
    | [w0], _ => exact ⟨w0, rfl⟩
  have hw := fun d (hd : d ∈ tables_1) => atoms_spec (ws := Jvm.Cond.code x code maxLocals ret :: tables_1) hat d (List.mem_cons_of_mem _ hd)
  have hfit : Fit s := fun {y c} hc i hi => by
    obtain ⟨ha, rfl⟩ := Array.getElem?_eq_some_iff.mp hc
    have q := List.all_eq_true.mp ((Array.all_eq_true_iff_forall_mem.mp hF) _ (Array.getElem_mem ha)) i (List.mem_range.mpr hi)
    simpa [Array.getElem?_eq_getElem hi] using q
  obtain ⟨i0, ei0⟩ := is_v hg2
  obtain rfl : w0 = (.int i0) := Option.some.inj ei0
  obtain ⟨hn1, hn2⟩ := and_e hn
  obtain ⟨aP, ev_aP⟩ := exa_v hn1
  have S_aP := Sta.start ev_aP (Or.inr ⟨(hw _ (List.mem_of_getElem? (i := 2) rfl)), (hw _ (List.mem_of_getElem? (i := 3) rfl))⟩)
  have E_aP := Exa.start ev_aP hn1
  obtain ⟨hn3, hn4⟩ := and_e hn2
  obtain ⟨aA, ev_aA⟩ := exa_v hn3
  have S_aA := Sta.start ev_aA (Or.inr ⟨(hw _ (List.mem_of_getElem? (i := 2) rfl)), (hw _ (List.mem_of_getElem? (i := 10) rfl))⟩)
  have E_aA := Exa.start ev_aA hn3
  obtain ⟨hn5, hn6⟩ := and_e hn4
  obtain ⟨hn7, hn8⟩ := and_e hn6
  obtain ⟨hn9, hn10⟩ := and_e hn8
  obtain ⟨aR, ev_aR⟩ := exa_v hn9
  have S_aR := Sta.start ev_aR (Or.inr ⟨(hw _ (List.mem_of_getElem? (i := 2) rfl)), (hw _ (List.mem_of_getElem? (i := 13) rfl))⟩)
  have E_aR := Exa.start ev_aR hn9
  have o_aP := own_ord ev_aP hn5
  have o_aA := own_ord ev_aA hn7
  have o_aR := own_ord ev_aR hn10
  obtain ⟨n, o, h1, h2, h3, _, L, rfl, ⟨hv, N⟩, hq⟩ := own_law_rm l s _ hw tables_1 i0 aP aR aA s.heap s.heap.size (Nat.le_refl _) S_aP S_aR S_aA E_aP E_aR E_aA (own_ne o_aP o_aA (by decide)) (own_ne o_aR o_aA (by decide)) p e ha hc hk s m _ below hf ((Spec.applies_iff_loose hf).mp happ).1 ⟨rfl, State.Warmed39.refl s, rfl⟩ trivial
  subst hv
  refine ⟨n, _, h1, h2, h3, hpost _ _ _ _ _ _ ⟨Cond.after_iff.mpr rfl, Cond.after_iff.mpr (eq_i res_at (Term.int_eval (1)) rfl), trivial⟩ ⟨hq.1, hq.2.1, (hq.2.2.sift fun y hy => Or.inr (N y hy)).mono (by decide) (by decide)⟩⟩
theorem main_1_1 : Claimed_1_1 := comes_1 fun _ _ _ _ _ _ h hF => ⟨h.1, hF⟩
theorem main_1_2 : Claimed_1_2 := comes_1 fun _ _ _ _ _ _ h hF => ⟨h.2.1, hF⟩
end Jvm.Pilot.@@N@@
namespace Jvm.Pilot.@@N@@
open Jvm Jvm.ClassFile Sem Op Lib Jvm.Free Jvm.Stand Jvm.Pilot.@@N@@.Jvm.D
/-! MADE BY PROGRAM (witnessworld.py) out of the Statement's table words and the real class files: 12 classes; the members and pool entries that the words name. The judged class is class 1, her method 1. -/
namespace start1
open Jvm.ClassFile
def u (s : String) : CpInfo := .utf8 (stringToUtf16 s)
/-- a pool by its gaps: so many unusable entries, then the entry; so many at the end -/
def gap : Nat → List CpInfo → List CpInfo
  | 0, r => r
  | n + 1, r => .unusable :: gap n r
def poolList (es : List (Nat × CpInfo)) (last : Nat) : List CpInfo := es.foldr (fun e r => gap e.1 (e.2 :: r)) (gap last [])
def pool (es : List (Nat × CpInfo)) (last : Nat) : Array CpInfo := ⟨poolList es last⟩
def fileOf (pool : Array CpInfo) (this : Nat) (attrs : Array Attribute := #[]) (ms : Array MethodInfo := #[]) (fl : Nat := 33) (sup : Nat := 0) (ifs : Array Nat := #[]) (fds : Array FieldInfo := #[]) : ClassFile where
  minorVersion := 0
  majorVersion := 65
  constantPool := pool
  accessFlags := fl
  thisClass := this
  superClass := sup
  interfaces := ifs
  fields := fds
  methods := ms
  attributes := attrs
def plain (name : String) (sup : Option ClassId) : Class where
  name := name
  kind := .ordinary
  loader := none
  accessFlags := 33
  super := sup
  interfaces := #[]
  cf := none
  fields := #[]
  methods := #[]
  instanceTypes := #[]
  staticTypes := #[]
  resolved := #[]
  callSites := []
  init := .initialized
  statics := none
  mirror := none

def pool0 : Array CpInfo := pool [(5, u "<init>"), (0, u "()V"), (1, .class_ 10), (1, u "java/lang/Object")] 113

def k0m0 : Method := { name := "<init>", desc := "()V", sig := { parameters := [], returnType := none }, accessFlags := 1, code := none }
/-- java/lang/Object -/
def k0 : Class := { plain "java/lang/Object" none with
  accessFlags := 33
  interfaces := #[]
  cf := some (fileOf pool0 8 #[] #[{ accessFlags := 1, nameIndex := 5, descriptorIndex := 6, attributes := #[] }] 33 0 #[] #[])
  fields := #[]
  methods := #[k0m0]
  instanceTypes := #[]
  staticTypes := #[]
  resolved := Array.replicate 124 none
  statics := none }

def pool1 : Array CpInfo := pool [(2, .class_ 4), (1, u "java/lang/Object"), (0, u "<init>"), (0, u "()V"), (0, .integer 2147483647), (0, .fieldref 9 10), (0, .class_ 11), (0, .nameAndType 12 13), (0, u "com/example/pages_for_crawlers/pagesforcrawlers/SitemapLayout$Dialect"), (0, u "PROTOCOL"), (0, u "Lcom/example/pages_for_crawlers/pagesforcrawlers/SitemapLayout$Dialect;"), (0, .fieldref 9 15), (0, .nameAndType 16 13), (0, u "RSS"), (0, .fieldref 9 18), (0, .nameAndType 19 13), (0, u "ATOM"), (0, .methodref 9 21), (0, .nameAndType 22 23), (0, u "locInHref"), (0, u "()Z"), (0, .class_ 25), (0, u "com/example/pages_for_crawlers/pagesforcrawlers/DialectLocInHrefPinLaw"), (2, u "law"), (0, u "(I)Z")] 7

def k1m0 : Method := { name := "<init>", desc := "()V", sig := { parameters := [], returnType := none }, accessFlags := 2, code := none }
def k1c1 : Code := { maxStack := 2, maxLocals := 4, code := code, exceptionTable := #[], attributes := #[] }
def k1m1 : Method := { name := "law", desc := "(I)Z", sig := { parameters := [.int], returnType := some .boolean }, accessFlags := 9, code := some k1c1 }
/-- com/example/pages_for_crawlers/pagesforcrawlers/DialectLocInHrefPinLaw -/
def k1 : Class := { plain "com/example/pages_for_crawlers/pagesforcrawlers/DialectLocInHrefPinLaw" (some 0) with
  accessFlags := 49
  interfaces := #[]
  cf := some (fileOf pool1 24 #[] #[{ accessFlags := 2, nameIndex := 5, descriptorIndex := 6, attributes := #[] }, { accessFlags := 9, nameIndex := 28, descriptorIndex := 29, attributes := #[] }] 49 2 #[] #[])
  fields := #[]
  methods := #[k1m0, k1m1]
  instanceTypes := #[]
  staticTypes := #[]
  resolved := Array.replicate 37 none
  statics := none }

def pool2 : Array CpInfo := pool [(1, .class_ 2), (0, u "java/lang/constant/Constable"), (0, .class_ 4), (0, u "java/lang/Object")] 6

/-- java/lang/constant/Constable -/
def k2 : Class := { plain "java/lang/constant/Constable" (some 0) with
  accessFlags := 1537
  interfaces := #[]
  cf := some (fileOf pool2 1 #[] #[] 1537 3 #[] #[])
  fields := #[]
  methods := #[]
  instanceTypes := #[]
  staticTypes := #[]
  resolved := Array.replicate 11 none
  statics := none }

def pool3 : Array CpInfo := pool [(1, .class_ 2), (0, u "java/lang/Comparable"), (0, .class_ 4), (0, u "java/lang/Object")] 7

/-- java/lang/Comparable -/
def k3 : Class := { plain "java/lang/Comparable" (some 0) with
  accessFlags := 1537
  interfaces := #[]
  cf := some (fileOf pool3 1 #[] #[] 1537 3 #[] #[])
  fields := #[]
  methods := #[]
  instanceTypes := #[]
  staticTypes := #[]
  resolved := Array.replicate 12 none
  statics := none }

def pool4 : Array CpInfo := pool [(1, .class_ 2), (0, u "java/io/Serializable"), (0, .class_ 4), (0, u "java/lang/Object")] 2

/-- java/io/Serializable -/
def k4 : Class := { plain "java/io/Serializable" (some 0) with
  accessFlags := 1537
  interfaces := #[]
  cf := some (fileOf pool4 1 #[] #[] 1537 3 #[] #[])
  fields := #[]
  methods := #[]
  instanceTypes := #[]
  staticTypes := #[]
  resolved := Array.replicate 7 none
  statics := none }

def pool5 : Array CpInfo := pool [(2, .class_ 4), (1, u "java/lang/Enum"), (0, u "name"), (0, u "Ljava/lang/String;"), (2, u "ordinal"), (0, u "I"), (1, .class_ 14), (1, u "java/lang/Object"), (4, u "hash"), (86, .class_ 108), (1, u "java/lang/Enum$EnumDesc"), (2, .class_ 112), (0, u "java/lang/constant/Constable"), (0, .class_ 114), (0, u "java/lang/Comparable"), (0, .class_ 116), (0, u "java/io/Serializable")] 87

/-- java/lang/Enum -/
def k5 : Class := { plain "java/lang/Enum" (some 0) with
  accessFlags := 1057
  interfaces := #[2, 3, 4]
  cf := some (fileOf pool5 2 #[.nestMembers #[106]] #[] 1057 12 #[111, 113, 115] #[{ accessFlags := 18, nameIndex := 5, descriptorIndex := 6, attributes := #[] }, { accessFlags := 18, nameIndex := 9, descriptorIndex := 10, attributes := #[] }, { accessFlags := 2, nameIndex := 19, descriptorIndex := 10, attributes := #[] }])
  fields := #[{ name := "name", type := (.object "java/lang/String"), accessFlags := 18, slot := 0, constantValue := 0 }, { name := "ordinal", type := .int, accessFlags := 18, slot := 1, constantValue := 0 }, { name := "hash", type := .int, accessFlags := 2, slot := 2, constantValue := 0 }]
  methods := #[]
  instanceTypes := #[(.object "java/lang/String"), .int, .int]
  staticTypes := #[]
  resolved := Array.replicate 204 none
  statics := none }

def pool6 : Array CpInfo := pool [(1, .class_ 2), (0, u "com/example/pages_for_crawlers/pagesforcrawlers/SitemapLayout$Dialect"), (2, u "PROTOCOL"), (0, u "Lcom/example/pages_for_crawlers/pagesforcrawlers/SitemapLayout$Dialect;"), (2, u "RSS"), (0, .fieldref 1 11), (0, .nameAndType 12 6), (0, u "ATOM"), (2, u "$VALUES"), (0, u "[Lcom/example/pages_for_crawlers/pagesforcrawlers/SitemapLayout$Dialect;"), (6, .class_ 25), (1, u "java/lang/Enum"), (42, u "ALTERNATE_URI"), (0, u "Ljava/lang/String;"), (8, u "locInHref"), (0, u "()Z"), (9, .class_ 90), (0, u "com/example/pages_for_crawlers/pagesforcrawlers/SitemapLayout")] 2

def k6c0 : Code := { maxStack := 2, maxLocals := 1, code := prog_37_method_4_code, exceptionTable := #[], attributes := #[] }
def k6m0 : Method := { name := "locInHref", desc := "()Z", sig := { parameters := [], returnType := some .boolean }, accessFlags := 0, code := some k6c0 }
/-- com/example/pages_for_crawlers/pagesforcrawlers/SitemapLayout$Dialect -/
def k6 : Class := { plain "com/example/pages_for_crawlers/pagesforcrawlers/SitemapLayout$Dialect" (some 5) with
  accessFlags := 16432
  interfaces := #[]
  cf := some (fileOf pool6 1 #[.nestHost 89] #[{ accessFlags := 0, nameIndex := 78, descriptorIndex := 79, attributes := #[] }] 16432 23 #[] #[{ accessFlags := 16409, nameIndex := 5, descriptorIndex := 6, attributes := #[] }, { accessFlags := 16409, nameIndex := 9, descriptorIndex := 6, attributes := #[] }, { accessFlags := 16409, nameIndex := 12, descriptorIndex := 6, attributes := #[] }, { accessFlags := 26, nameIndex := 68, descriptorIndex := 69, attributes := #[] }, { accessFlags := 4122, nameIndex := 15, descriptorIndex := 16, attributes := #[] }])
  fields := #[{ name := "PROTOCOL", type := (.object "com/example/pages_for_crawlers/pagesforcrawlers/SitemapLayout$Dialect"), accessFlags := 16409, slot := 0, constantValue := 0 }, { name := "RSS", type := (.object "com/example/pages_for_crawlers/pagesforcrawlers/SitemapLayout$Dialect"), accessFlags := 16409, slot := 1, constantValue := 0 }, { name := "ATOM", type := (.object "com/example/pages_for_crawlers/pagesforcrawlers/SitemapLayout$Dialect"), accessFlags := 16409, slot := 2, constantValue := 0 }, { name := "ALTERNATE_URI", type := (.object "java/lang/String"), accessFlags := 26, slot := 3, constantValue := 0 }, { name := "$VALUES", type := (.array (.object "com/example/pages_for_crawlers/pagesforcrawlers/SitemapLayout$Dialect")), accessFlags := 4122, slot := 4, constantValue := 0 }]
  methods := #[k6m0]
  instanceTypes := #[(.object "java/lang/String"), .int, .int]
  staticTypes := #[(.object "com/example/pages_for_crawlers/pagesforcrawlers/SitemapLayout$Dialect"), (.object "com/example/pages_for_crawlers/pagesforcrawlers/SitemapLayout$Dialect"), (.object "com/example/pages_for_crawlers/pagesforcrawlers/SitemapLayout$Dialect"), (.object "java/lang/String"), (.array (.object "com/example/pages_for_crawlers/pagesforcrawlers/SitemapLayout$Dialect"))]
  resolved := Array.replicate 93 none
  statics := some 0 }

def pool7 : Array CpInfo := pool [(1, u "java/lang/Cloneable"), (0, .class_ 1), (0, u "java/lang/Object"), (0, .class_ 3)] 3

/-- java/lang/Cloneable -/
def k7 : Class := { plain "java/lang/Cloneable" (some 0) with
  accessFlags := 1537
  interfaces := #[]
  cf := some (fileOf pool7 2 #[] #[] 1537 4 #[] #[])
  fields := #[]
  methods := #[]
  instanceTypes := #[]
  staticTypes := #[]
  resolved := Array.replicate 8 none
  statics := none }

/-- the primitive byte -/
def k8 : Class := { plain "byte" none with kind := .primitive 'B', accessFlags := 0x411 }
/-- [B -/
def k9 : Class := { plain "[B" (some 0) with kind := .array 8 .byte, interfaces := #[7, 4], accessFlags := 1041 }

/-- the primitive int -/
def k10 : Class := { plain "int" none with kind := .primitive 'I', accessFlags := 0x411 }
/-- [I -/
def k11 : Class := { plain "[I" (some 0) with kind := .array 10 .int, interfaces := #[7, 4], accessFlags := 1041 }

def heap : Heap := #[{ cls := 6, slots := #[.ref 1, .ref 2, .ref 3, .null, .null], vm := .statics 6 },
  { cls := 6, slots := #[.null, .int 0, .int 0], vm := .none },
  { cls := 6, slots := #[.null, .int 1, .int 0], vm := .none },
  { cls := 6, slots := #[.null, .int 2, .int 0], vm := .none }]
def classes : Array Class := #[k0, k1, k2, k3, k4, k5, k6, k7, k8, k9, k10, k11]
def interned : List (Array UInt16 × Addr) := []
def slotsUsed : Nat := 14
def theMethod : MethodId := ⟨1, 1⟩
def args0 : Array Value := #[.int 65]
def aboutOver (below : List Frame) : State where
  vm := { classes := classes, interned := interned.toArray }
  heap := heap
  slotsUsed := slotsUsed
  threads := #[{ frames := .invoking theMethod args0 :: below }]
def below0 : List Frame := [.native { method := ⟨0, 0⟩, args := #[] }]
def about1 : State := aboutOver below0
def p0 : Program := .bare "" "" ""
def e0 : Env := launch0.env 0 0 0
theorem w_frames : about1.frames = Frame.invoking theMethod args0 :: below0 := rfl
set_option maxRecDepth 65536 in
theorem w_args : argsFit about1.vm theMethod args0 = true := by decide +kernel
set_option maxRecDepth 65536 in
theorem w_heap : heapFits about1 = true := by decide +kernel
set_option maxRecDepth 65536 in
theorem w_runnable : about1.curStatus? = some .runnable := by decide +kernel
set_option maxRecDepth 65536 in
theorem w_alone : about1.alone = true := by decide +kernel
set_option maxRecDepth 65536 in
theorem w_named : about1.methodNamed? x = some theMethod := by decide +kernel
set_option maxRecDepth 65536 in
theorem w_hears : about1.hears theMethod below0 = true := by decide +kernel
set_option maxRecDepth 65536 in
theorem w_ripe : about1.ripe theMethod args0 below0 = true := by decide +kernel
theorem w_running : about1.status = .running := rfl
set_option maxRecDepth 65536 in
theorem w_room : about1.hasRoom e0.platform room_1 = true :=
  launch0.hasRoom_least _ room_1 (by decide +kernel) (by decide +kernel) (by decide +kernel) (by decide +kernel) (by decide +kernel) (by decide +kernel)
theorem allAtoms_all (ts : List Jvm.Cond) (a : Array Jvm.Value) (st : Jvm.State) : (allAtoms ts).before a st = ts.all (fun c => c.before a st) := by
  induction ts with
  | nil => rfl
  | cons c t ih =>
    show (Jvm.Cond.and c (allAtoms t)).before a st = _
    rw [Jvm.Cond.before_and, ih, List.all_cons]
def words1 : List Jvm.Cond := Jvm.Cond.code x code maxLocals ret :: tables_1
/-- a 'code' word, met by the world's own term for the bytes: nothing is compared byte by byte -/
theorem code_word {y : MethodName} {bytes : ByteArray} {mx : Nat} {rt : Option FieldType} {a : Array Value} {s : State} {m : MethodId} {meth : Method} {c : Code} (h1 : s.methodNamed? y = some m) (h2 : s.vm.method? m = some meth) (h3 : meth.code = some c) (h4 : c.code = bytes)
    (h5 : (c.maxLocals == mx && c.exceptionTable.isEmpty && decide (c.maxStack ≤ mostOperands) && decide (meth.sig.returnType = rt) && !meth.locks && decide (parseMethodDescriptor y.desc = some meth.sig)) = true) : (Jvm.Cond.code y bytes mx rt).before a s = true := by
  simp only [Bool.and_eq_true, beq_iff_eq, Bool.not_eq_true', decide_eq_true_eq] at h5
  obtain ⟨⟨⟨⟨⟨g1, g2⟩, g3⟩, g4⟩, g5⟩, g6⟩ := h5
  simp [Cond.before, Cond.holds, Cond.value, h1, h2, h3, h4, g1, g2, g3, g4, g5, g6]
def isCode : Jvm.Cond → Bool
  | .code _ _ _ _ => true
  | _ => false
theorem all_split {L : List Jvm.Cond} {P : Jvm.Cond → Bool} (h1 : L.all (fun c => isCode c || P c) = true) (h2 : ∀ c ∈ L.filter isCode, P c = true) : L.all P = true := by
  refine List.all_eq_true.mpr fun c hc => ?_
  have h := List.all_eq_true.mp h1 c hc
  rcases Bool.eq_false_or_eq_true (isCode c) with hi | hi
  · exact h2 c (List.mem_filter.mpr ⟨hc, hi⟩)
  · simpa [hi] using h
set_option maxRecDepth 65536 in
theorem w_c0 : (Jvm.Cond.code x code maxLocals ret).before args0 about1 = true := code_word (m := ⟨1, 1⟩) (meth := k1m1) (c := k1c1) (by decide +kernel) rfl rfl rfl (by decide +kernel)
set_option maxRecDepth 65536 in
theorem w_c1 : (Jvm.Cond.code ({ cls := "com/example/pages_for_crawlers/pagesforcrawlers/SitemapLayout$Dialect", name := "locInHref", desc := "()Z" } : Jvm.MethodName) prog_37_method_4_code (1 : Nat) (Option.some Jvm.ClassFile.FieldType.boolean)).before args0 about1 = true := code_word (m := ⟨6, 0⟩) (meth := k6m0) (c := k6c0) (by decide +kernel) rfl rfl rfl (by decide +kernel)
def codes1 : List Jvm.Cond := [Jvm.Cond.code x code maxLocals ret, Jvm.Cond.code ({ cls := "com/example/pages_for_crawlers/pagesforcrawlers/SitemapLayout$Dialect", name := "locInHref", desc := "()Z" } : Jvm.MethodName) prog_37_method_4_code (1 : Nat) (Option.some Jvm.ClassFile.FieldType.boolean)]
set_option maxRecDepth 65536 in
theorem codes_eq : words1.filter isCode = codes1 := rfl
theorem w_codes : ∀ c ∈ words1.filter isCode, c.before args0 about1 = true := by
  rw [codes_eq]
  intro c hc
  simp only [codes1, List.mem_cons, List.not_mem_nil, or_false] at hc
  rcases hc with rfl | rfl
  · exact w_c0
  · exact w_c1
set_option maxRecDepth 65536 in
theorem w_t1 : words1.all (fun c => isCode c || c.before args0 about1) = true := by decide +kernel
theorem w_tables : (allAtoms (Jvm.Cond.code x code maxLocals ret :: tables_1)).before args0 about1 = true := by
  rw [allAtoms_all]
  show words1.all (fun c => c.before args0 about1) = true
  refine all_split ?_ w_codes
  rw [w_t1]
set_option maxRecDepth 65536 in
theorem w_case : (Jvm.Cond.and given_1 narrow_1).before args0 about1 = true := by decide +kernel
theorem w_applies : (headSpec (Jvm.Cond.code x code maxLocals ret :: tables_1) room_1).applies x e0.platform about1 = true :=
  (Spec.applies_iff w_frames).mpr ⟨w_running, w_runnable, w_alone, w_named, w_hears, w_ripe, w_room, w_tables⟩
theorem atStart : AtStart classFile x code maxLocals ret World_1 tables_1 room_1 Calls_1 rest_1 Pre_1 launch0 p0 e0 about1 theMethod args0 below0 :=
  ⟨lists_1, trivial, launch0.admits_env _ _ _, launch0.least_env, fairChoices_fair.cas, fairChoices_fair.clock, w_frames, w_args, w_heap, w_applies, trivial, trivial, w_case⟩
end start1
theorem witness_1 : WitnessClaimed_1 := ⟨start1.p0, start1.e0, start1.about1, start1.theMethod, start1.args0, start1.below0, start1.atStart⟩
end Jvm.Pilot.@@N@@
