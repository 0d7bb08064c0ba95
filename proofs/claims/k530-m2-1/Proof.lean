import JvmDerived
import JvmDerived.Pilot.@@N@@Statement
import JvmDerived.Pilot.@@N@@Code
set_option linter.unusedVariables false
set_option linter.unusedSimpArgs false
namespace Jvm.RoadKit
open Sem ClassFile Op Lib Jvm.Stand Jvm.Free Jvm.LawKit
section Own
variable {p : Program} {l : Launch} {e : Env} {R : Room} {s : State} {m : MethodId} {args : Array Value} {below : List Frame} {meth : Method} {c : Code} {T : State} {locs : List Loc} {cells slots : Nat}
theorem retI (X : Stand p l e R s m args below meth c T locs cells slots) (hx : p.tables.exec = Jvm.exec) {pc : Nat} {Ls : Array Slot} {z : Int32} {rest : List Value} (hret : meth.sig.returnType = some .int) (hd : decode c.code pc = .ok (.ireturn, 1)) {fs : List Frame}
    (hl : ∀ (f : JFrame) (acts : List Action), f.method = m → f.locked = none → f.entered = [] → (doReturn e (T.setTop f) acts (some (.int z))).1 = T.setFrames fs) : Steps p.tables e below (T.setTop (mkF m pc Ls (.int z :: rest))) (T.setFrames fs) :=
  retOut X hx hret rfl (Or.inl ⟨rfl, Or.inl rfl, z, rfl⟩) hd hl
theorem lremM {g : JFrame} {target : State} (X : Stand p l e R s m args below meth c T locs cells slots) (hx : p.tables.exec = Jvm.exec) (hg : g.method = m) {x y : Int64} {rest : List Value} (hd : decode c.code g.pc = .ok (.lrem, 1)) (hs : g.stack = .long y :: .long x :: rest) (hy : y ≠ 0)
    (hr : Steps p.tables e below (T.setTop { g with pc := g.pc + 1, stack := .long (x % y) :: rest }) target) : Steps p.tables e below (T.setTop g) target :=
  XS.lrem X.here hx hg hd hs hy (by rw [lrem_mod]; exact hr)
/-- the walk from S on ends in a return of which Q holds -/
def Goes (p : Program) (e : Env) (below : List Frame) (s : State) (k n : Nat) (Q : Option Value → Heap → List Loc → Prop) (S : State) : Prop :=
  ∃ t o, Steps p.tables e below S t ∧ t.status = .running ∧ Ended t below o ∧ ∃ v L, o = .returned v ∧ Q v t.heap L ∧ FrameEnd s o t L k n
variable {kc kn : Nat} {Q : Option Value → Heap → List Loc → Prop}
theorem Goes.step {A B : State} (h : ∀ t, Steps p.tables e below B t → Steps p.tables e below A t) (g : Goes p e below s kc kn Q B) : Goes p e below s kc kn Q A := by
  obtain ⟨t, o, h1, h2⟩ := g; exact ⟨t, o, h t h1, h2⟩
theorem Goes.to {A B : State} (h : Steps p.tables e below A B) (g : Goes p e below s kc kn Q B) : Goes p e below s kc kn Q A := by
  obtain ⟨t, o, h1, h2⟩ := g; exact ⟨t, o, h.trans h1, h2⟩
theorem Goes.out (X : Stand p l e R s m args below meth c T locs cells slots) {g : JFrame} {v : Option Value} (hlk : meth.locks = false) (hv : meth.sig.returnType = none → v = none)
    (hs : ∀ fs : List Frame, (∀ (f : JFrame) (acts : List Action), f.method = m → f.locked = none → f.entered = [] → (doReturn e (T.setTop f) acts v).1 = T.setFrames fs) → Steps p.tables e below (T.setTop g) (T.setFrames fs))
    (hq : Q v T.heap locs) (hk : cells ≤ kc) (hn : slots ≤ kn) : Goes p e below s kc kn Q (T.setTop g) := by
  obtain ⟨fs, hr, hrun, hended, hW, hsame⟩ := X.leave (v := v) hv hlk
  exact ⟨_, _, hs fs hr, hrun, hended, v, locs, rfl, hq, ⟨_, rfl⟩, hW, hsame.mono hk hn⟩
theorem Goes.retI (X : Stand p l e R s m args below meth c T locs cells slots) (hx : p.tables.exec = Jvm.exec) (hlk : meth.locks = false) {pc : Nat} {Ls : Array Slot} {z : Int32} {rest : List Value} (hret : meth.sig.returnType = some .int) (hd : decode c.code pc = .ok (.ireturn, 1))
    (hq : Q (some (.int z)) T.heap locs) (hk : cells ≤ kc) (hn : slots ≤ kn) : Goes p e below s kc kn Q (T.setTop (mkF m pc Ls (.int z :: rest))) :=
  Goes.out X hlk (fun h => by rw [hret] at h; cases h) (fun fs hr => Jvm.RoadKit.retI X hx hret hd hr) hq hk hn
theorem Goes.retN (X : Stand p l e R s m args below meth c T locs cells slots) (hx : p.tables.exec = Jvm.exec) (hlk : meth.locks = false) {pc : Nat} {Ls : Array Slot} {z : Int32} {t : FieldType} {rest : List Value} (hret : meth.sig.returnType = some t) (ht : t = .boolean ∨ t = .byte ∨ t = .char ∨ t = .short) (hd : decode c.code pc = .ok (.ireturn, 1))
    (hq : Q (some (.int (nar t z))) T.heap locs) (hk : cells ≤ kc) (hn : slots ≤ kn) : Goes p e below s kc kn Q (T.setTop (mkF m pc Ls (.int z :: rest))) :=
  Goes.out X hlk (fun h => by rw [hret] at h; cases h) (fun fs hr => Jvm.RoadKit.retN X hx hret ht hd hr) hq hk hn
theorem Goes.retJ (X : Stand p l e R s m args below meth c T locs cells slots) (hx : p.tables.exec = Jvm.exec) (hlk : meth.locks = false) {pc : Nat} {Ls : Array Slot} {z : Int64} {rest : List Value} (hret : meth.sig.returnType = some .long) (hd : decode c.code pc = .ok (.lreturn, 1))
    (hq : Q (some (.long z)) T.heap locs) (hk : cells ≤ kc) (hn : slots ≤ kn) : Goes p e below s kc kn Q (T.setTop (mkF m pc Ls (.long z :: rest))) :=
  Goes.out X hlk (fun h => by rw [hret] at h; cases h) (fun fs hr => retOut X hx hret rfl (Or.inr (Or.inl ⟨rfl, rfl, z, rfl⟩)) hd hr) hq hk hn
theorem Goes.retR (X : Stand p l e R s m args below meth c T locs cells slots) (hx : p.tables.exec = Jvm.exec) (hlk : meth.locks = false) {pc : Nat} {Ls : Array Slot} {w : Value} {t : FieldType} {rest : List Value} (hret : meth.sig.returnType = some t) (ht : t.isReference = true) (hw : w.isRef = true) (hn' : narrow t w = w) (hd : decode c.code pc = .ok (.areturn, 1))
    (hq : Q (some w) T.heap locs) (hk : cells ≤ kc) (hn : slots ≤ kn) : Goes p e below s kc kn Q (T.setTop (mkF m pc Ls (w :: rest))) :=
  Goes.out X hlk (fun h => by rw [hret] at h; cases h) (fun fs hr => retOut X hx hret hn' (Or.inr (Or.inr (Or.inr (Or.inr ⟨rfl, ht, hw⟩)))) hd hr) hq hk hn
theorem Goes.retV (X : Stand p l e R s m args below meth c T locs cells slots) (hx : p.tables.exec = Jvm.exec) (hlk : meth.locks = false) {pc : Nat} {Ls : Array Slot} (hret : meth.sig.returnType = none) (hd : decode c.code pc = .ok (.return_, 1))
    (hq : Q none T.heap locs) (hk : cells ≤ kc) (hn : slots ≤ kn) : Goes p e below s kc kn Q (T.setTop (mkF m pc Ls [])) :=
  Goes.out X hlk (fun _ => rfl) (fun fs hr => X.returnOut hx hret hd hr) hq hk hn
theorem Goes.enter {s₁ : State} {maxL : Nat} {g : JFrame} (h : entryFrame m args maxL = g) (k : Goes p e below s kc kn Q (s₁.setTop g)) :
    ∃ t o, Steps p.tables e below (s₁.setTop (entryFrame m args maxL)) t ∧ t.status = .running ∧ Ended t below o ∧ ∃ v L, o = .returned v ∧ Q v t.heap L ∧ FrameEnd s o t L kc kn := by rw [h]; exact k
theorem nm0 {b : Addr} : b ∉ ([] : List Addr) := List.not_mem_nil
theorem nm1 {b a : Addr} (h : b ≠ a) : b ∉ [a] := fun q => h (List.mem_singleton.mp q)
theorem nm2 {b a a' : Addr} (h : b ≠ a) (h' : b ≠ a') : b ∉ [a, a'] := fun q => (List.mem_cons.mp q).elim h (fun q => h' (List.mem_singleton.mp q))
theorem nm3 {b a a' a'' : Addr} (h : b ≠ a) (h' : b ≠ a') (h'' : b ≠ a'') : b ∉ [a, a', a''] := fun q => (List.mem_cons.mp q).elim h (fun q => nm2 h' h'' q)
theorem Sta.keepN {Z : State} {h h' : Heap} {C n d : String} {v : Value} {ws : List Addr} (F : Sta Z h C n d v) (K : Keep h h' ws) (hn : ∀ a ∈ ws, ∀ cell : Cell, h[a]? = some cell → cell.vm.isStatics = false) : Sta Z h' C n d v := by
  obtain ⟨cf, i, k, f, st, cell, h1, h2, h3, h4, h5, h6, r⟩ := F
  exact ⟨cf, i, k, f, st, cell, h1, h2, h3, h4, K.2.1 st cell h5 (fun q => by have := hn st q cell h5; rw [h6] at this; cases this), h6, r⟩
theorem Exa.plainN {Z : State} {h : Heap} {a : Addr} {C : String} (E : Exa Z h a C) : ∀ cell : Cell, h[a]? = some cell → cell.vm.isStatics = false := fun cell q => by
  obtain ⟨c, k, h1, h2, h3, h4, h5⟩ := E; cases h1.symm.trans q; exact h4
theorem Arv.plainN {Z : State} {h : Heap} {a : Addr} {k : ClassId} {ty : FieldType} {z : Int32} {vs : List Value} {d : Value} (A : Arv Z h a k ty z vs d) : ∀ cell : Cell, h[a]? = some cell → cell.vm.isStatics = false := fun cell q => by
  obtain ⟨c, A, r⟩ := A; cases A.1.symm.trans q; exact A.plain
end Own
end Jvm.RoadKit
namespace Jvm.Pilot.@@N@@
open Jvm Jvm.ClassFile Sem Op Lib Jvm.Free Jvm.Stand Jvm.LawKit Jvm.RoadKit Bundle Jvm.Pilot.@@N@@.Jvm.D
theorem own_ord {args : Array Value} {s : State} {a : Addr} {C n d : String} {z : Int32} (ev : (Term.static C n d).eval args s none [] s = some (.ref a)) (h : (Jvm.Cond.eq (.field (.static C n d) "java/lang/Enum" "ordinal" "I") (.int z)).value args s none s [] = some true) : s.fieldOf? a "java/lang/Enum" "ordinal" "I" = some (.int z) := by
  have e1 := fld_at (C := "java/lang/Enum") (n := "ordinal") (dd := "I") ev
  have e2 : (Term.int z).eval args s none [] s = some (.int z) := rfl
  cases hq : s.fieldOf? a "java/lang/Enum" "ordinal" "I" with
  | none => rw [hq] at e1; simp [Cond.value, e1] at h
  | some v =>
    rw [hq] at e1
    simp only [Cond.value, e1, e2] at h
    cases v <;> simp at h ⊢
    exact h
theorem own_ne {s : State} {a b : Addr} {y z : Int32} (h1 : s.fieldOf? a "java/lang/Enum" "ordinal" "I" = some (.int y)) (h2 : s.fieldOf? b "java/lang/Enum" "ordinal" "I" = some (.int z)) (hn : y ≠ z) : a ≠ b := fun q => by
  subst q; exact hn (Value.int.inj (Option.some.inj (h1.symm.trans h2)))
theorem d_prog_30_method_4_code_0 : decode prog_30_method_4_code 0 = .ok (.aload_n 0, 1) := by decide +kernel
theorem d_prog_30_method_4_code_1 : decode prog_30_method_4_code 1 = .ok (.getstatic 7, 3) := by decide +kernel
theorem d_prog_30_method_4_code_4 : decode prog_30_method_4_code 4 = .ok (.if_acmp .eq 10, 3) := by decide +kernel
theorem d_prog_30_method_4_code_14 : decode prog_30_method_4_code 14 = .ok (.iconst 1, 1) := by decide +kernel
theorem d_prog_30_method_4_code_15 : decode prog_30_method_4_code 15 = .ok (.goto 4, 3) := by decide +kernel
theorem d_prog_30_method_4_code_19 : decode prog_30_method_4_code 19 = .ok (.ireturn, 1) := by decide +kernel
def own_om1_fn  : Int32 := (1 : Int32)
def own_om1_Q (Z : State) (o0 : Addr) (a1 : Addr) (a2 : Addr) (h0 : Heap) (n0 : Nat) (v : Option Value) (h : Heap) (L : List Loc) : Prop := v = some (.int (own_om1_fn)) ∧ Fr n0 L ∧ h = h0
theorem own_om1_ef (m : MethodId) (o0 : Addr) : entryFrame m #[(.ref o0)] 1 = mkF m 0 #[.val (.ref o0)] [] := by first | (simp [entryFrame, mkF, argsToLocals, Value.category]; done) | rfl
theorem pn_Protocol_Kind : plainName "com/example/virmex/virmex/cluster/Protocol$Kind" = true := by first | (simp [plainName, overriddenIn]; done) | decide +kernel
set_option maxRecDepth 65536 in
set_option maxHeartbeats 40000000 in
theorem own_om1_rm (l : Launch) (Z : State) (a0 : Array Value) (hw : ∀ d ∈ tables_1, d.before a0 Z = true) (ws : List Jvm.Cond) (o0 : Addr) (a1 : Addr) (a2 : Addr) (h0 : Heap) (n0 : Nat) (Z0 : n0 ≤ h0.size) (pr0 : Sta Z h0 "com/example/virmex/virmex/cluster/Protocol$Kind" "SEND" "Lcom/example/virmex/virmex/cluster/Protocol$Kind;" (.ref a1)) (pr1 : Sta Z h0 "com/example/virmex/virmex/cluster/Protocol$Kind" "RECEIVE" "Lcom/example/virmex/virmex/cluster/Protocol$Kind;" (.ref a2)) (hq : o0 = a1) :
    MetFree l (⟨"com/example/virmex/virmex/cluster/Protocol$Kind", "ofMessage", "()Z"⟩ : MethodName) (head1 (Jvm.Cond.code (⟨"com/example/virmex/virmex/cluster/Protocol$Kind", "ofMessage", "()Z"⟩ : MethodName) prog_30_method_4_code 1 (some .boolean) :: ws) ({ frames := 0, cells := 0, slots := 0, locals := 0 } : Room)) (fun a U => a = #[(.ref o0)] ∧ Z.Warmed39 U.vm ∧ U.heap = h0) (fun _ _ _ _ _ => True) (fun _ U o U' => ∃ v L, o = .returned v ∧ own_om1_Q Z o0 a1 a2 h0 n0 v U'.heap L ∧ FrameEnd U o U' L ({ frames := 0, cells := 0, slots := 0, locals := 0 } : Room).cells ({ frames := 0, cells := 0, slots := 0, locals := 0 } : Room).slots) := by
  refine MetFree.of_bodySF (plainFor_of_name pn_Protocol_Kind) hisR ?_
  intro p e s m args below meth c s₁ Bd hml0 hP hK
  obtain ⟨rfl, hZ, hh⟩ := hP
  have hx := Bd.exec
  have hby := Bd.bytes
  have hml : c.maxLocals = 1 := hml0
  have hown : s.vm.findClass "com/example/virmex/virmex/cluster/Protocol$Kind" = some m.cls := findClass_of_methodNamed Bd.named
  have hnm := (name_of_methodNamed Bd.named Bd.method).1
  have hlk : meth.locks = false := BodyLoose.notSynchronized Bd
  have hrt := Bd.returns
  have X0 : Stand p l e ({ frames := 0, cells := 0, slots := 0, locals := 0 } : Room) s m #[(.ref o0)] below meth c s₁ [] 0 0 := Stand.of_body Bd
  have e0 : s₁.heap = h0 := by rw [← hh, Bd.state]; rfl
  have N0 := Fr.nil n0
  refine Goes.enter (kc := ({ frames := 0, cells := 0, slots := 0, locals := 0 } : Room).cells) (kn := ({ frames := 0, cells := 0, slots := 0, locals := 0 } : Room).slots) (Q := own_om1_Q Z o0 a1 a2 h0 n0) (own_om1_ef m o0) ?_
  refine Goes.step (B := (s₁.setTop (mkF m 1 #[.val (.ref o0)] [(.ref o0)]))) (fun _ k => XS.aloadN X0.here hx rfl (hb hby d_prog_30_method_4_code_0) rfl rfl k) ?_
  obtain ⟨T101, X101, e101, st101⟩ := getS2 X0 hx hZ hown (host := "") (Or.inl (hw _ (List.mem_of_getElem? (i := 9) rfl))) Via.refl e0 pr0 (g := (mkF m 1 #[.val (.ref o0)] [(.ref o0)])) rfl (hb hby d_prog_30_method_4_code_1)
  refine Goes.step (B := (T101.setTop (mkF m 4 #[.val (.ref o0)] [(.ref a1), (.ref o0)]))) (fun _ k => st101 _ k) ?_
  refine Goes.step (B := (T101.setTop (mkF m 14 #[.val (.ref o0)] []))) (fun _ k => Jvm.RoadKit.acmp (g := (mkF m 4 #[.val (.ref o0)] [(.ref a1), (.ref o0)])) X101 hx rfl rfl rfl (pc0 := 4) (pc' := 14) (same := true) rfl (hb hby d_prog_30_method_4_code_4) rfl (decide_eq_true (congrArg Value.ref hq)) (by decide) (by decide) k) ?_
  refine Goes.step (B := (T101.setTop (mkF m 15 #[.val (.ref o0)] [(.int (1 : Int32))]))) (fun _ k => XS.iconst X101.here hx rfl (hb hby d_prog_30_method_4_code_14) k) ?_
  refine Goes.step (B := (T101.setTop (mkF m 19 #[.val (.ref o0)] [(.int (1 : Int32))]))) (fun _ k => XS.goto X101.here hx rfl (pc0 := 15) (pc' := 19) rfl (hb hby d_prog_30_method_4_code_15) (by decide) (by decide) k) ?_
  refine Goes.retN X101 hx hlk (t := .boolean) hrt (by simp) (hb hby d_prog_30_method_4_code_19) ?_ (by decide) (by decide)
  rw [e101]
  exact ⟨congrArg (fun z => some (Value.int z)) (show nar .boolean (1 : Int32) = (own_om1_fn) from (show nar .boolean (1 : Int32) = (1 : Int32) from rfl).trans (by simp only [own_om1_fn])), N0, rfl⟩
theorem d_prog_30_method_4_code_7 : decode prog_30_method_4_code 7 = .ok (.aload_n 0, 1) := by decide +kernel
theorem d_prog_30_method_4_code_8 : decode prog_30_method_4_code 8 = .ok (.getstatic 10, 3) := by decide +kernel
theorem d_prog_30_method_4_code_11 : decode prog_30_method_4_code 11 = .ok (.if_acmp .ne 7, 3) := by decide +kernel
def own_om2_fn  : Int32 := (1 : Int32)
def own_om2_Q (Z : State) (o0 : Addr) (a1 : Addr) (a2 : Addr) (h0 : Heap) (n0 : Nat) (v : Option Value) (h : Heap) (L : List Loc) : Prop := v = some (.int (own_om2_fn)) ∧ Fr n0 L ∧ h = h0
theorem own_om2_ef (m : MethodId) (o0 : Addr) : entryFrame m #[(.ref o0)] 1 = mkF m 0 #[.val (.ref o0)] [] := by first | (simp [entryFrame, mkF, argsToLocals, Value.category]; done) | rfl
set_option maxRecDepth 65536 in
set_option maxHeartbeats 40000000 in
theorem own_om2_rm (l : Launch) (Z : State) (a0 : Array Value) (hw : ∀ d ∈ tables_1, d.before a0 Z = true) (ws : List Jvm.Cond) (o0 : Addr) (a1 : Addr) (a2 : Addr) (h0 : Heap) (n0 : Nat) (Z0 : n0 ≤ h0.size) (pr0 : Sta Z h0 "com/example/virmex/virmex/cluster/Protocol$Kind" "SEND" "Lcom/example/virmex/virmex/cluster/Protocol$Kind;" (.ref a1)) (pr1 : Sta Z h0 "com/example/virmex/virmex/cluster/Protocol$Kind" "RECEIVE" "Lcom/example/virmex/virmex/cluster/Protocol$Kind;" (.ref a2)) (hq : o0 ≠ a1) (hr : o0 = a2) :
    MetFree l (⟨"com/example/virmex/virmex/cluster/Protocol$Kind", "ofMessage", "()Z"⟩ : MethodName) (head1 (Jvm.Cond.code (⟨"com/example/virmex/virmex/cluster/Protocol$Kind", "ofMessage", "()Z"⟩ : MethodName) prog_30_method_4_code 1 (some .boolean) :: ws) ({ frames := 0, cells := 0, slots := 0, locals := 0 } : Room)) (fun a U => a = #[(.ref o0)] ∧ Z.Warmed39 U.vm ∧ U.heap = h0) (fun _ _ _ _ _ => True) (fun _ U o U' => ∃ v L, o = .returned v ∧ own_om2_Q Z o0 a1 a2 h0 n0 v U'.heap L ∧ FrameEnd U o U' L ({ frames := 0, cells := 0, slots := 0, locals := 0 } : Room).cells ({ frames := 0, cells := 0, slots := 0, locals := 0 } : Room).slots) := by
  refine MetFree.of_bodySF (plainFor_of_name pn_Protocol_Kind) hisR ?_
  intro p e s m args below meth c s₁ Bd hml0 hP hK
  obtain ⟨rfl, hZ, hh⟩ := hP
  have hx := Bd.exec
  have hby := Bd.bytes
  have hml : c.maxLocals = 1 := hml0
  have hown : s.vm.findClass "com/example/virmex/virmex/cluster/Protocol$Kind" = some m.cls := findClass_of_methodNamed Bd.named
  have hnm := (name_of_methodNamed Bd.named Bd.method).1
  have hlk : meth.locks = false := BodyLoose.notSynchronized Bd
  have hrt := Bd.returns
  have X0 : Stand p l e ({ frames := 0, cells := 0, slots := 0, locals := 0 } : Room) s m #[(.ref o0)] below meth c s₁ [] 0 0 := Stand.of_body Bd
  have e0 : s₁.heap = h0 := by rw [← hh, Bd.state]; rfl
  have N0 := Fr.nil n0
  refine Goes.enter (kc := ({ frames := 0, cells := 0, slots := 0, locals := 0 } : Room).cells) (kn := ({ frames := 0, cells := 0, slots := 0, locals := 0 } : Room).slots) (Q := own_om2_Q Z o0 a1 a2 h0 n0) (own_om2_ef m o0) ?_
  refine Goes.step (B := (s₁.setTop (mkF m 1 #[.val (.ref o0)] [(.ref o0)]))) (fun _ k => XS.aloadN X0.here hx rfl (hb hby d_prog_30_method_4_code_0) rfl rfl k) ?_
  obtain ⟨T101, X101, e101, st101⟩ := getS2 X0 hx hZ hown (host := "") (Or.inl (hw _ (List.mem_of_getElem? (i := 9) rfl))) Via.refl e0 pr0 (g := (mkF m 1 #[.val (.ref o0)] [(.ref o0)])) rfl (hb hby d_prog_30_method_4_code_1)
  refine Goes.step (B := (T101.setTop (mkF m 4 #[.val (.ref o0)] [(.ref a1), (.ref o0)]))) (fun _ k => st101 _ k) ?_
  refine Goes.step (B := (T101.setTop (mkF m 7 #[.val (.ref o0)] []))) (fun _ k => Jvm.RoadKit.acmp (g := (mkF m 4 #[.val (.ref o0)] [(.ref a1), (.ref o0)])) X101 hx rfl rfl rfl (pc0 := 4) (pc' := 7) (same := false) rfl (hb hby d_prog_30_method_4_code_4) rfl (decide_eq_false fun q => hq (Value.ref.inj q)) (by decide) (by decide) k) ?_
  refine Goes.step (B := (T101.setTop (mkF m 8 #[.val (.ref o0)] [(.ref o0)]))) (fun _ k => XS.aloadN X101.here hx rfl (hb hby d_prog_30_method_4_code_7) rfl rfl k) ?_
  obtain ⟨T102, X102, e102, st102⟩ := getS2 X101 hx hZ hown (host := "") (Or.inl (hw _ (List.mem_of_getElem? (i := 11) rfl))) Via.refl e101 pr1 (g := (mkF m 8 #[.val (.ref o0)] [(.ref o0)])) rfl (hb hby d_prog_30_method_4_code_8)
  refine Goes.step (B := (T102.setTop (mkF m 11 #[.val (.ref o0)] [(.ref a2), (.ref o0)]))) (fun _ k => st102 _ k) ?_
  refine Goes.step (B := (T102.setTop (mkF m 14 #[.val (.ref o0)] []))) (fun _ k => Jvm.RoadKit.acmp (g := (mkF m 11 #[.val (.ref o0)] [(.ref a2), (.ref o0)])) X102 hx rfl rfl rfl (pc0 := 11) (pc' := 14) (same := true) rfl (hb hby d_prog_30_method_4_code_11) rfl (decide_eq_true (congrArg Value.ref hr)) (by decide) (by decide) k) ?_
  refine Goes.step (B := (T102.setTop (mkF m 15 #[.val (.ref o0)] [(.int (1 : Int32))]))) (fun _ k => XS.iconst X102.here hx rfl (hb hby d_prog_30_method_4_code_14) k) ?_
  refine Goes.step (B := (T102.setTop (mkF m 19 #[.val (.ref o0)] [(.int (1 : Int32))]))) (fun _ k => XS.goto X102.here hx rfl (pc0 := 15) (pc' := 19) rfl (hb hby d_prog_30_method_4_code_15) (by decide) (by decide) k) ?_
  refine Goes.retN X102 hx hlk (t := .boolean) hrt (by simp) (hb hby d_prog_30_method_4_code_19) ?_ (by decide) (by decide)
  rw [e102]
  exact ⟨congrArg (fun z => some (Value.int z)) (show nar .boolean (1 : Int32) = (own_om2_fn) from (show nar .boolean (1 : Int32) = (1 : Int32) from rfl).trans (by simp only [own_om2_fn])), N0, rfl⟩
theorem d_prog_30_method_4_code_18 : decode prog_30_method_4_code 18 = .ok (.iconst 0, 1) := by decide +kernel
def own_om3_fn  : Int32 := (0 : Int32)
def own_om3_Q (Z : State) (o0 : Addr) (a1 : Addr) (a2 : Addr) (h0 : Heap) (n0 : Nat) (v : Option Value) (h : Heap) (L : List Loc) : Prop := v = some (.int (own_om3_fn)) ∧ Fr n0 L ∧ h = h0
theorem own_om3_ef (m : MethodId) (o0 : Addr) : entryFrame m #[(.ref o0)] 1 = mkF m 0 #[.val (.ref o0)] [] := by first | (simp [entryFrame, mkF, argsToLocals, Value.category]; done) | rfl
set_option maxRecDepth 65536 in
set_option maxHeartbeats 40000000 in
theorem own_om3_rm (l : Launch) (Z : State) (a0 : Array Value) (hw : ∀ d ∈ tables_1, d.before a0 Z = true) (ws : List Jvm.Cond) (o0 : Addr) (a1 : Addr) (a2 : Addr) (h0 : Heap) (n0 : Nat) (Z0 : n0 ≤ h0.size) (pr0 : Sta Z h0 "com/example/virmex/virmex/cluster/Protocol$Kind" "SEND" "Lcom/example/virmex/virmex/cluster/Protocol$Kind;" (.ref a1)) (pr1 : Sta Z h0 "com/example/virmex/virmex/cluster/Protocol$Kind" "RECEIVE" "Lcom/example/virmex/virmex/cluster/Protocol$Kind;" (.ref a2)) (hq : o0 ≠ a1) (hr : o0 ≠ a2) :
    MetFree l (⟨"com/example/virmex/virmex/cluster/Protocol$Kind", "ofMessage", "()Z"⟩ : MethodName) (head1 (Jvm.Cond.code (⟨"com/example/virmex/virmex/cluster/Protocol$Kind", "ofMessage", "()Z"⟩ : MethodName) prog_30_method_4_code 1 (some .boolean) :: ws) ({ frames := 0, cells := 0, slots := 0, locals := 0 } : Room)) (fun a U => a = #[(.ref o0)] ∧ Z.Warmed39 U.vm ∧ U.heap = h0) (fun _ _ _ _ _ => True) (fun _ U o U' => ∃ v L, o = .returned v ∧ own_om3_Q Z o0 a1 a2 h0 n0 v U'.heap L ∧ FrameEnd U o U' L ({ frames := 0, cells := 0, slots := 0, locals := 0 } : Room).cells ({ frames := 0, cells := 0, slots := 0, locals := 0 } : Room).slots) := by
  refine MetFree.of_bodySF (plainFor_of_name pn_Protocol_Kind) hisR ?_
  intro p e s m args below meth c s₁ Bd hml0 hP hK
  obtain ⟨rfl, hZ, hh⟩ := hP
  have hx := Bd.exec
  have hby := Bd.bytes
  have hml : c.maxLocals = 1 := hml0
  have hown : s.vm.findClass "com/example/virmex/virmex/cluster/Protocol$Kind" = some m.cls := findClass_of_methodNamed Bd.named
  have hnm := (name_of_methodNamed Bd.named Bd.method).1
  have hlk : meth.locks = false := BodyLoose.notSynchronized Bd
  have hrt := Bd.returns
  have X0 : Stand p l e ({ frames := 0, cells := 0, slots := 0, locals := 0 } : Room) s m #[(.ref o0)] below meth c s₁ [] 0 0 := Stand.of_body Bd
  have e0 : s₁.heap = h0 := by rw [← hh, Bd.state]; rfl
  have N0 := Fr.nil n0
  refine Goes.enter (kc := ({ frames := 0, cells := 0, slots := 0, locals := 0 } : Room).cells) (kn := ({ frames := 0, cells := 0, slots := 0, locals := 0 } : Room).slots) (Q := own_om3_Q Z o0 a1 a2 h0 n0) (own_om3_ef m o0) ?_
  refine Goes.step (B := (s₁.setTop (mkF m 1 #[.val (.ref o0)] [(.ref o0)]))) (fun _ k => XS.aloadN X0.here hx rfl (hb hby d_prog_30_method_4_code_0) rfl rfl k) ?_
  obtain ⟨T101, X101, e101, st101⟩ := getS2 X0 hx hZ hown (host := "") (Or.inl (hw _ (List.mem_of_getElem? (i := 9) rfl))) Via.refl e0 pr0 (g := (mkF m 1 #[.val (.ref o0)] [(.ref o0)])) rfl (hb hby d_prog_30_method_4_code_1)
  refine Goes.step (B := (T101.setTop (mkF m 4 #[.val (.ref o0)] [(.ref a1), (.ref o0)]))) (fun _ k => st101 _ k) ?_
  refine Goes.step (B := (T101.setTop (mkF m 7 #[.val (.ref o0)] []))) (fun _ k => Jvm.RoadKit.acmp (g := (mkF m 4 #[.val (.ref o0)] [(.ref a1), (.ref o0)])) X101 hx rfl rfl rfl (pc0 := 4) (pc' := 7) (same := false) rfl (hb hby d_prog_30_method_4_code_4) rfl (decide_eq_false fun q => hq (Value.ref.inj q)) (by decide) (by decide) k) ?_
  refine Goes.step (B := (T101.setTop (mkF m 8 #[.val (.ref o0)] [(.ref o0)]))) (fun _ k => XS.aloadN X101.here hx rfl (hb hby d_prog_30_method_4_code_7) rfl rfl k) ?_
  obtain ⟨T102, X102, e102, st102⟩ := getS2 X101 hx hZ hown (host := "") (Or.inl (hw _ (List.mem_of_getElem? (i := 11) rfl))) Via.refl e101 pr1 (g := (mkF m 8 #[.val (.ref o0)] [(.ref o0)])) rfl (hb hby d_prog_30_method_4_code_8)
  refine Goes.step (B := (T102.setTop (mkF m 11 #[.val (.ref o0)] [(.ref a2), (.ref o0)]))) (fun _ k => st102 _ k) ?_
  refine Goes.step (B := (T102.setTop (mkF m 18 #[.val (.ref o0)] []))) (fun _ k => Jvm.RoadKit.acmp (g := (mkF m 11 #[.val (.ref o0)] [(.ref a2), (.ref o0)])) X102 hx rfl rfl rfl (pc0 := 11) (pc' := 18) (same := false) rfl (hb hby d_prog_30_method_4_code_11) rfl (decide_eq_false fun q => hr (Value.ref.inj q)) (by decide) (by decide) k) ?_
  refine Goes.step (B := (T102.setTop (mkF m 19 #[.val (.ref o0)] [(.int (0 : Int32))]))) (fun _ k => XS.iconst X102.here hx rfl (hb hby d_prog_30_method_4_code_18) k) ?_
  refine Goes.retN X102 hx hlk (t := .boolean) hrt (by simp) (hb hby d_prog_30_method_4_code_19) ?_ (by decide) (by decide)
  rw [e102]
  exact ⟨congrArg (fun z => some (Value.int z)) (show nar .boolean (0 : Int32) = (own_om3_fn) from (show nar .boolean (0 : Int32) = (0 : Int32) from rfl).trans (by simp only [own_om3_fn])), N0, rfl⟩
theorem pd___Z : parseMethodDescriptor "()Z" = some ⟨[], some .boolean⟩ := by decide +kernel
def own_k (x0 : Int32) : Int32 := ((x0 &&& (2147483647 : Int32)) % (5 : Int32))
def own_law_Q (Z : State) (x0 : Int32) (aQ : Addr) (aS : Addr) (aV : Addr) (aN : Addr) (aX : Addr) (h0 : Heap) (n0 : Nat) (v : Option Value) (h : Heap) (L : List Loc) : Prop := v = some (.int 1) ∧ Fr n0 L
theorem own_law_ef (m : MethodId) (x0 : Int32) : entryFrame m #[(.int x0)] maxLocals = mkF m 0 #[.val (.int x0), .unset, .unset, .unset] [] := by first | (simp [entryFrame, mkF, argsToLocals, Value.category, maxLocals]; done) | rfl
theorem pn_KindOfMessagePinLaw : plainName "com/example/virmex/virmex/cluster/KindOfMessagePinLaw" = true := by first | (simp [plainName, overriddenIn]; done) | decide +kernel
set_option maxRecDepth 65536 in
set_option maxHeartbeats 40000000 in
theorem own_law_rm (l : Launch) (Z : State) (a0 : Array Value) (hw : ∀ d ∈ tables_1, d.before a0 Z = true) (ws : List Jvm.Cond) (x0 : Int32) (aQ : Addr) (aS : Addr) (aV : Addr) (aN : Addr) (aX : Addr) (h0 : Heap) (n0 : Nat) (Z0 : n0 ≤ h0.size) (pr0 : Sta Z h0 "com/example/virmex/virmex/cluster/Protocol$Kind" "REQUEST" "Lcom/example/virmex/virmex/cluster/Protocol$Kind;" (.ref aQ)) (pr1 : Sta Z h0 "com/example/virmex/virmex/cluster/Protocol$Kind" "SEND" "Lcom/example/virmex/virmex/cluster/Protocol$Kind;" (.ref aS)) (pr2 : Sta Z h0 "com/example/virmex/virmex/cluster/Protocol$Kind" "RECEIVE" "Lcom/example/virmex/virmex/cluster/Protocol$Kind;" (.ref aV)) (pr3 : Sta Z h0 "com/example/virmex/virmex/cluster/Protocol$Kind" "ENTER" "Lcom/example/virmex/virmex/cluster/Protocol$Kind;" (.ref aN)) (pr4 : Sta Z h0 "com/example/virmex/virmex/cluster/Protocol$Kind" "EXIT" "Lcom/example/virmex/virmex/cluster/Protocol$Kind;" (.ref aX)) (pr5 : Exa Z h0 aQ "com/example/virmex/virmex/cluster/Protocol$Kind") (pr6 : Exa Z h0 aS "com/example/virmex/virmex/cluster/Protocol$Kind") (pr7 : Exa Z h0 aV "com/example/virmex/virmex/cluster/Protocol$Kind") (pr8 : Exa Z h0 aN "com/example/virmex/virmex/cluster/Protocol$Kind") (pr9 : Exa Z h0 aX "com/example/virmex/virmex/cluster/Protocol$Kind") (pr10 : aQ ≠ aS) (pr11 : aN ≠ aS) (pr12 : aX ≠ aS) (pr13 : aQ ≠ aV) (pr14 : aN ≠ aV) (pr15 : aX ≠ aV) (pr16 : aV ≠ aS) :
    MetFree l x (head1 (Jvm.Cond.code x code maxLocals ret :: ws) room_1) (fun a U => a = #[(.int x0)] ∧ Z.Warmed39 U.vm ∧ U.heap = h0) (fun _ _ _ _ _ => True) (fun _ U o U' => ∃ v L, o = .returned v ∧ own_law_Q Z x0 aQ aS aV aN aX h0 n0 v U'.heap L ∧ FrameEnd U o U' L room_1.cells room_1.slots) := by
  refine MetFree.of_bodySF (plainFor_of_name pn_KindOfMessagePinLaw) hisR ?_
  intro p e s m args below meth c s₁ Bd hml0 hP hK
  obtain ⟨rfl, hZ, hh⟩ := hP
  have hx := Bd.exec
  have hby := Bd.bytes
  have hml : c.maxLocals = 4 := hml0
  have hown : s.vm.findClass "com/example/virmex/virmex/cluster/KindOfMessagePinLaw" = some m.cls := findClass_of_methodNamed Bd.named
  have hnm := (name_of_methodNamed Bd.named Bd.method).1
  have hlk : meth.locks = false := BodyLoose.notSynchronized Bd
  have hrt := Bd.returns
  have X0 : Stand p l e room_1 s m #[(.int x0)] below meth c s₁ [] 0 0 := Stand.of_body Bd
  have e0 : s₁.heap = h0 := by rw [← hh, Bd.state]; rfl
  have N0 := Fr.nil n0
  refine Goes.enter (kc := room_1.cells) (kn := room_1.slots) (Q := own_law_Q Z x0 aQ aS aV aN aX h0 n0) (own_law_ef m x0) ?_
  refine Goes.step (B := (s₁.setTop (mkF m 1 #[.val (.int x0), .unset, .unset, .unset] [(.int x0)]))) (fun _ k => XS.iloadN X0.here hx rfl (hb hby at_0) rfl k) ?_
  refine Goes.step (B := (s₁.setTop (mkF m 3 #[.val (.int x0), .unset, .unset, .unset] [(.int (2147483647 : Int32)), (.int x0)]))) (fun _ k => X0.ldcInt hx hown (mvT hZ (hw _ (List.mem_of_getElem? (i := 0) rfl))) (g := (mkF m 1 #[.val (.int x0), .unset, .unset, .unset] [(.int x0)])) rfl (hb hby at_1) _ k) ?_
  refine Goes.step (B := (s₁.setTop (mkF m 4 #[.val (.int x0), .unset, .unset, .unset] [(.int (x0 &&& (2147483647 : Int32)))]))) (fun _ k => XS.iand X0.here hx rfl (hb hby at_3) rfl k) ?_
  refine Goes.step (B := (s₁.setTop (mkF m 5 #[.val (.int x0), .unset, .unset, .unset] [(.int (5 : Int32)), (.int (x0 &&& (2147483647 : Int32)))]))) (fun _ k => XS.iconst X0.here hx rfl (hb hby at_4) k) ?_
  refine Goes.step (B := (s₁.setTop (mkF m 6 #[.val (.int x0), .unset, .unset, .unset] [(.int ((x0 &&& (2147483647 : Int32)) % (5 : Int32)))]))) (fun _ k => iremM X0 hx rfl (hb hby at_5) rfl (by decide) k) ?_
  refine Goes.step (B := (s₁.setTop (mkF m 7 #[.val (.int x0), .val (.int (own_k x0)), .unset, .unset] []))) (fun _ k => XS.istoreN X0.here hx rfl (hb hby at_6) rfl (l' := #[.val (.int x0), .val (.int (own_k x0)), .unset, .unset]) rfl k) ?_
  refine Goes.step (B := (s₁.setTop (mkF m 8 #[.val (.int x0), .val (.int (own_k x0)), .unset, .unset] [(.int (own_k x0))]))) (fun _ k => XS.iloadN X0.here hx rfl (hb hby at_7) rfl k) ?_
  by_cases hc101 : (own_k x0) = (0 : Int32)
  · refine Goes.step (B := (s₁.setTop (mkF m 11 #[.val (.int x0), .val (.int (own_k x0)), .unset, .unset] []))) (fun _ k => XS.ifNo X0.here hx rfl (hb hby at_8) rfl ((if0 _ _).trans (teq hc101).2) k) ?_
    obtain ⟨T102, X102, e102, st102⟩ := getS2 X0 hx hZ hown (host := "") (Or.inl (hw _ (List.mem_of_getElem? (i := 1) rfl))) Via.refl e0 pr0 (g := (mkF m 11 #[.val (.int x0), .val (.int (own_k x0)), .unset, .unset] [])) rfl (hb hby at_11)
    refine Goes.step (B := (T102.setTop (mkF m 14 #[.val (.int x0), .val (.int (own_k x0)), .unset, .unset] [(.ref aQ)]))) (fun _ k => st102 _ k) ?_
    refine Goes.step (B := (T102.setTop (mkF m 15 #[.val (.int x0), .val (.int (own_k x0)), .val (.ref aQ), .unset] []))) (fun _ k => XS.astoreN X102.here hx rfl (hb hby at_14) rfl rfl (l' := #[.val (.int x0), .val (.int (own_k x0)), .val (.ref aQ), .unset]) rfl k) ?_
    refine Goes.step (B := (T102.setTop (mkF m 16 #[.val (.int x0), .val (.int (own_k x0)), .val (.ref aQ), .unset] [(.int (0 : Int32))]))) (fun _ k => XS.iconst X102.here hx rfl (hb hby at_15) k) ?_
    refine Goes.step (B := (T102.setTop (mkF m 17 #[.val (.int x0), .val (.int (own_k x0)), .val (.ref aQ), .val (.int (0 : Int32))] []))) (fun _ k => XS.istoreN X102.here hx rfl (hb hby at_16) rfl (l' := #[.val (.int x0), .val (.int (own_k x0)), .val (.ref aQ), .val (.int (0 : Int32))]) rfl k) ?_
    refine Goes.step (B := (T102.setTop (mkF m 68 #[.val (.int x0), .val (.int (own_k x0)), .val (.ref aQ), .val (.int (0 : Int32))] []))) (fun _ k => XS.goto X102.here hx rfl (pc0 := 17) (pc' := 68) rfl (hb hby at_17) (by decide) (by decide) k) ?_
    refine Goes.step (B := (T102.setTop (mkF m 69 #[.val (.int x0), .val (.int (own_k x0)), .val (.ref aQ), .val (.int (0 : Int32))] [(.ref aQ)]))) (fun _ k => XS.aloadN X102.here hx rfl (hb hby at_68) rfl rfl k) ?_
    obtain ⟨cq103, kq103, q103a, q103b, q103c⟩ := isOf hZ e102 pr5
    obtain ⟨_, _, ⟨T103, L103, k103, n103⟩, -, X103, ⟨Lc103, hQ103, l103, y103, z103⟩, st103⟩ := X102.virtualBack hx (y := (⟨"com/example/virmex/virmex/cluster/Protocol$Kind", "ofMessage", "()Z"⟩ : MethodName)) (z := (⟨"com/example/virmex/virmex/cluster/Protocol$Kind", "ofMessage", "()Z"⟩ : MethodName)) hown (mvT hZ (hw _ (List.mem_of_getElem? (i := 4) rfl))) (mvT hZ (hw _ (List.mem_of_getElem? (i := 5) rfl))) (notFace_of_selects (args := #[]) (mvT hZ (hw _ (List.mem_of_getElem? (i := 7) rfl)))) (mvT hZ (hw _ (List.mem_of_getElem? (i := 7) rfl))) (mvT hZ (hw _ (List.mem_of_getElem? (i := 6) rfl))) (by decide) (backOf (W := 0) (own_om3_rm l Z a0 hw [] aQ aS aV h0 n0 Z0 pr1 pr2 pr10 pr13) hZ (hw _ (List.mem_of_getElem? (i := 8) rfl)) (hw _ (List.mem_of_getElem? (i := 2) rfl)) (by decide) (by decide)) q103a q103c (g := (mkF m 69 #[.val (.int x0), .val (.int (own_k x0)), .val (.ref aQ), .val (.int (0 : Int32))] [(.ref aQ)])) rfl (by rw [hml]; rfl) (Steps.refl _) (argsL := []) (rest := []) (lenOf pd___Z rfl) rfl (by show 2 * 0 + _ ≤ _; exact Nat.le_of_eq rfl) (hb hby at_69) (fun _ _ => ⟨rfl, e102, (by decide : 0 + 0 ≤ _), (by decide : 0 + 0 ≤ _)⟩)
    dsimp only [Pt.U, Pt.locs, Pt.cells, Pt.slots] at X103 l103 y103 z103 st103 hQ103
    subst l103 y103 z103
    obtain ⟨rfl, N103q, e103⟩ := hQ103
    have N103 := Fr.app N0 N103q
    refine Goes.to (B := (T103.setTop (mkF m 72 #[.val (.int x0), .val (.int (own_k x0)), .val (.ref aQ), .val (.int (0 : Int32))] [(.int (own_om3_fn))]))) st103 ?_
    refine Goes.step (B := (T103.setTop (mkF m 73 #[.val (.int x0), .val (.int (own_k x0)), .val (.ref aQ), .val (.int (0 : Int32))] [(.int (0 : Int32)), (.int (own_om3_fn))]))) (fun _ k => XS.iloadN X103.here hx rfl (hb hby at_72) rfl k) ?_
    have hc104 : (own_om3_fn) = (0 : Int32) := rfl
    refine Goes.step (B := (T103.setTop (mkF m 76 #[.val (.int x0), .val (.int (own_k x0)), .val (.ref aQ), .val (.int (0 : Int32))] []))) (fun _ k => XS.icmpNo X103.here hx rfl (hb hby at_73) rfl (teq hc104).2 k) ?_
    refine Goes.step (B := (T103.setTop (mkF m 77 #[.val (.int x0), .val (.int (own_k x0)), .val (.ref aQ), .val (.int (0 : Int32))] [(.int (1 : Int32))]))) (fun _ k => XS.iconst X103.here hx rfl (hb hby at_76) k) ?_
    refine Goes.step (B := (T103.setTop (mkF m 81 #[.val (.int x0), .val (.int (own_k x0)), .val (.ref aQ), .val (.int (0 : Int32))] [(.int (1 : Int32))]))) (fun _ k => XS.goto X103.here hx rfl (pc0 := 77) (pc' := 81) rfl (hb hby at_77) (by decide) (by decide) k) ?_
    refine Goes.retN X103 hx hlk (t := .boolean) hrt (by simp) (hb hby at_81) ?_ (by decide) (by decide)
    rw [e103]
    exact ⟨rfl, N103⟩
  · refine Goes.step (B := (s₁.setTop (mkF m 20 #[.val (.int x0), .val (.int (own_k x0)), .unset, .unset] []))) (fun _ k => XS.ifYes X0.here hx rfl (pc0 := 8) (pc' := 20) rfl (hb hby at_8) rfl ((if0 _ _).trans (feq hc101).2) (by decide) (by decide) k) ?_
    refine Goes.step (B := (s₁.setTop (mkF m 21 #[.val (.int x0), .val (.int (own_k x0)), .unset, .unset] [(.int (own_k x0))]))) (fun _ k => XS.iloadN X0.here hx rfl (hb hby at_20) rfl k) ?_
    refine Goes.step (B := (s₁.setTop (mkF m 22 #[.val (.int x0), .val (.int (own_k x0)), .unset, .unset] [(.int (1 : Int32)), (.int (own_k x0))]))) (fun _ k => XS.iconst X0.here hx rfl (hb hby at_21) k) ?_
    by_cases hc105 : (own_k x0) = (1 : Int32)
    · refine Goes.step (B := (s₁.setTop (mkF m 25 #[.val (.int x0), .val (.int (own_k x0)), .unset, .unset] []))) (fun _ k => XS.icmpNo X0.here hx rfl (hb hby at_22) rfl (teq hc105).2 k) ?_
      obtain ⟨T106, X106, e106, st106⟩ := getS2 X0 hx hZ hown (host := "") (Or.inl (hw _ (List.mem_of_getElem? (i := 15) rfl))) Via.refl e0 pr1 (g := (mkF m 25 #[.val (.int x0), .val (.int (own_k x0)), .unset, .unset] [])) rfl (hb hby at_25)
      refine Goes.step (B := (T106.setTop (mkF m 28 #[.val (.int x0), .val (.int (own_k x0)), .unset, .unset] [(.ref aS)]))) (fun _ k => st106 _ k) ?_
      refine Goes.step (B := (T106.setTop (mkF m 29 #[.val (.int x0), .val (.int (own_k x0)), .val (.ref aS), .unset] []))) (fun _ k => XS.astoreN X106.here hx rfl (hb hby at_28) rfl rfl (l' := #[.val (.int x0), .val (.int (own_k x0)), .val (.ref aS), .unset]) rfl k) ?_
      refine Goes.step (B := (T106.setTop (mkF m 30 #[.val (.int x0), .val (.int (own_k x0)), .val (.ref aS), .unset] [(.int (1 : Int32))]))) (fun _ k => XS.iconst X106.here hx rfl (hb hby at_29) k) ?_
      refine Goes.step (B := (T106.setTop (mkF m 31 #[.val (.int x0), .val (.int (own_k x0)), .val (.ref aS), .val (.int (1 : Int32))] []))) (fun _ k => XS.istoreN X106.here hx rfl (hb hby at_30) rfl (l' := #[.val (.int x0), .val (.int (own_k x0)), .val (.ref aS), .val (.int (1 : Int32))]) rfl k) ?_
      refine Goes.step (B := (T106.setTop (mkF m 68 #[.val (.int x0), .val (.int (own_k x0)), .val (.ref aS), .val (.int (1 : Int32))] []))) (fun _ k => XS.goto X106.here hx rfl (pc0 := 31) (pc' := 68) rfl (hb hby at_31) (by decide) (by decide) k) ?_
      refine Goes.step (B := (T106.setTop (mkF m 69 #[.val (.int x0), .val (.int (own_k x0)), .val (.ref aS), .val (.int (1 : Int32))] [(.ref aS)]))) (fun _ k => XS.aloadN X106.here hx rfl (hb hby at_68) rfl rfl k) ?_
      obtain ⟨cq107, kq107, q107a, q107b, q107c⟩ := isOf hZ e106 pr6
      obtain ⟨_, _, ⟨T107, L107, k107, n107⟩, -, X107, ⟨Lc107, hQ107, l107, y107, z107⟩, st107⟩ := X106.virtualBack hx (y := (⟨"com/example/virmex/virmex/cluster/Protocol$Kind", "ofMessage", "()Z"⟩ : MethodName)) (z := (⟨"com/example/virmex/virmex/cluster/Protocol$Kind", "ofMessage", "()Z"⟩ : MethodName)) hown (mvT hZ (hw _ (List.mem_of_getElem? (i := 4) rfl))) (mvT hZ (hw _ (List.mem_of_getElem? (i := 5) rfl))) (notFace_of_selects (args := #[]) (mvT hZ (hw _ (List.mem_of_getElem? (i := 7) rfl)))) (mvT hZ (hw _ (List.mem_of_getElem? (i := 7) rfl))) (mvT hZ (hw _ (List.mem_of_getElem? (i := 6) rfl))) (by decide) (backOf (W := 0) (own_om1_rm l Z a0 hw [] aS aS aV h0 n0 Z0 pr1 pr2 rfl) hZ (hw _ (List.mem_of_getElem? (i := 8) rfl)) (hw _ (List.mem_of_getElem? (i := 2) rfl)) (by decide) (by decide)) q107a q107c (g := (mkF m 69 #[.val (.int x0), .val (.int (own_k x0)), .val (.ref aS), .val (.int (1 : Int32))] [(.ref aS)])) rfl (by rw [hml]; rfl) (Steps.refl _) (argsL := []) (rest := []) (lenOf pd___Z rfl) rfl (by show 2 * 0 + _ ≤ _; exact Nat.le_of_eq rfl) (hb hby at_69) (fun _ _ => ⟨rfl, e106, (by decide : 0 + 0 ≤ _), (by decide : 0 + 0 ≤ _)⟩)
      dsimp only [Pt.U, Pt.locs, Pt.cells, Pt.slots] at X107 l107 y107 z107 st107 hQ107
      subst l107 y107 z107
      obtain ⟨rfl, N107q, e107⟩ := hQ107
      have N107 := Fr.app N0 N107q
      refine Goes.to (B := (T107.setTop (mkF m 72 #[.val (.int x0), .val (.int (own_k x0)), .val (.ref aS), .val (.int (1 : Int32))] [(.int (own_om1_fn))]))) st107 ?_
      refine Goes.step (B := (T107.setTop (mkF m 73 #[.val (.int x0), .val (.int (own_k x0)), .val (.ref aS), .val (.int (1 : Int32))] [(.int (1 : Int32)), (.int (own_om1_fn))]))) (fun _ k => XS.iloadN X107.here hx rfl (hb hby at_72) rfl k) ?_
      have hc108 : (own_om1_fn) = (1 : Int32) := rfl
      refine Goes.step (B := (T107.setTop (mkF m 76 #[.val (.int x0), .val (.int (own_k x0)), .val (.ref aS), .val (.int (1 : Int32))] []))) (fun _ k => XS.icmpNo X107.here hx rfl (hb hby at_73) rfl (teq hc108).2 k) ?_
      refine Goes.step (B := (T107.setTop (mkF m 77 #[.val (.int x0), .val (.int (own_k x0)), .val (.ref aS), .val (.int (1 : Int32))] [(.int (1 : Int32))]))) (fun _ k => XS.iconst X107.here hx rfl (hb hby at_76) k) ?_
      refine Goes.step (B := (T107.setTop (mkF m 81 #[.val (.int x0), .val (.int (own_k x0)), .val (.ref aS), .val (.int (1 : Int32))] [(.int (1 : Int32))]))) (fun _ k => XS.goto X107.here hx rfl (pc0 := 77) (pc' := 81) rfl (hb hby at_77) (by decide) (by decide) k) ?_
      refine Goes.retN X107 hx hlk (t := .boolean) hrt (by simp) (hb hby at_81) ?_ (by decide) (by decide)
      rw [e107]
      exact ⟨rfl, N107⟩
    · refine Goes.step (B := (s₁.setTop (mkF m 34 #[.val (.int x0), .val (.int (own_k x0)), .unset, .unset] []))) (fun _ k => XS.icmpYes X0.here hx rfl (pc0 := 22) (pc' := 34) rfl (hb hby at_22) rfl (feq hc105).2 (by decide) (by decide) k) ?_
      refine Goes.step (B := (s₁.setTop (mkF m 35 #[.val (.int x0), .val (.int (own_k x0)), .unset, .unset] [(.int (own_k x0))]))) (fun _ k => XS.iloadN X0.here hx rfl (hb hby at_34) rfl k) ?_
      refine Goes.step (B := (s₁.setTop (mkF m 36 #[.val (.int x0), .val (.int (own_k x0)), .unset, .unset] [(.int (2 : Int32)), (.int (own_k x0))]))) (fun _ k => XS.iconst X0.here hx rfl (hb hby at_35) k) ?_
      by_cases hc109 : (own_k x0) = (2 : Int32)
      · refine Goes.step (B := (s₁.setTop (mkF m 39 #[.val (.int x0), .val (.int (own_k x0)), .unset, .unset] []))) (fun _ k => XS.icmpNo X0.here hx rfl (hb hby at_36) rfl (teq hc109).2 k) ?_
        obtain ⟨T110, X110, e110, st110⟩ := getS2 X0 hx hZ hown (host := "") (Or.inl (hw _ (List.mem_of_getElem? (i := 18) rfl))) Via.refl e0 pr2 (g := (mkF m 39 #[.val (.int x0), .val (.int (own_k x0)), .unset, .unset] [])) rfl (hb hby at_39)
        refine Goes.step (B := (T110.setTop (mkF m 42 #[.val (.int x0), .val (.int (own_k x0)), .unset, .unset] [(.ref aV)]))) (fun _ k => st110 _ k) ?_
        refine Goes.step (B := (T110.setTop (mkF m 43 #[.val (.int x0), .val (.int (own_k x0)), .val (.ref aV), .unset] []))) (fun _ k => XS.astoreN X110.here hx rfl (hb hby at_42) rfl rfl (l' := #[.val (.int x0), .val (.int (own_k x0)), .val (.ref aV), .unset]) rfl k) ?_
        refine Goes.step (B := (T110.setTop (mkF m 44 #[.val (.int x0), .val (.int (own_k x0)), .val (.ref aV), .unset] [(.int (1 : Int32))]))) (fun _ k => XS.iconst X110.here hx rfl (hb hby at_43) k) ?_
        refine Goes.step (B := (T110.setTop (mkF m 45 #[.val (.int x0), .val (.int (own_k x0)), .val (.ref aV), .val (.int (1 : Int32))] []))) (fun _ k => XS.istoreN X110.here hx rfl (hb hby at_44) rfl (l' := #[.val (.int x0), .val (.int (own_k x0)), .val (.ref aV), .val (.int (1 : Int32))]) rfl k) ?_
        refine Goes.step (B := (T110.setTop (mkF m 68 #[.val (.int x0), .val (.int (own_k x0)), .val (.ref aV), .val (.int (1 : Int32))] []))) (fun _ k => XS.goto X110.here hx rfl (pc0 := 45) (pc' := 68) rfl (hb hby at_45) (by decide) (by decide) k) ?_
        refine Goes.step (B := (T110.setTop (mkF m 69 #[.val (.int x0), .val (.int (own_k x0)), .val (.ref aV), .val (.int (1 : Int32))] [(.ref aV)]))) (fun _ k => XS.aloadN X110.here hx rfl (hb hby at_68) rfl rfl k) ?_
        obtain ⟨cq111, kq111, q111a, q111b, q111c⟩ := isOf hZ e110 pr7
        obtain ⟨_, _, ⟨T111, L111, k111, n111⟩, -, X111, ⟨Lc111, hQ111, l111, y111, z111⟩, st111⟩ := X110.virtualBack hx (y := (⟨"com/example/virmex/virmex/cluster/Protocol$Kind", "ofMessage", "()Z"⟩ : MethodName)) (z := (⟨"com/example/virmex/virmex/cluster/Protocol$Kind", "ofMessage", "()Z"⟩ : MethodName)) hown (mvT hZ (hw _ (List.mem_of_getElem? (i := 4) rfl))) (mvT hZ (hw _ (List.mem_of_getElem? (i := 5) rfl))) (notFace_of_selects (args := #[]) (mvT hZ (hw _ (List.mem_of_getElem? (i := 7) rfl)))) (mvT hZ (hw _ (List.mem_of_getElem? (i := 7) rfl))) (mvT hZ (hw _ (List.mem_of_getElem? (i := 6) rfl))) (by decide) (backOf (W := 0) (own_om2_rm l Z a0 hw [] aV aS aV h0 n0 Z0 pr1 pr2 pr16 rfl) hZ (hw _ (List.mem_of_getElem? (i := 8) rfl)) (hw _ (List.mem_of_getElem? (i := 2) rfl)) (by decide) (by decide)) q111a q111c (g := (mkF m 69 #[.val (.int x0), .val (.int (own_k x0)), .val (.ref aV), .val (.int (1 : Int32))] [(.ref aV)])) rfl (by rw [hml]; rfl) (Steps.refl _) (argsL := []) (rest := []) (lenOf pd___Z rfl) rfl (by show 2 * 0 + _ ≤ _; exact Nat.le_of_eq rfl) (hb hby at_69) (fun _ _ => ⟨rfl, e110, (by decide : 0 + 0 ≤ _), (by decide : 0 + 0 ≤ _)⟩)
        dsimp only [Pt.U, Pt.locs, Pt.cells, Pt.slots] at X111 l111 y111 z111 st111 hQ111
        subst l111 y111 z111
        obtain ⟨rfl, N111q, e111⟩ := hQ111
        have N111 := Fr.app N0 N111q
        refine Goes.to (B := (T111.setTop (mkF m 72 #[.val (.int x0), .val (.int (own_k x0)), .val (.ref aV), .val (.int (1 : Int32))] [(.int (own_om2_fn))]))) st111 ?_
        refine Goes.step (B := (T111.setTop (mkF m 73 #[.val (.int x0), .val (.int (own_k x0)), .val (.ref aV), .val (.int (1 : Int32))] [(.int (1 : Int32)), (.int (own_om2_fn))]))) (fun _ k => XS.iloadN X111.here hx rfl (hb hby at_72) rfl k) ?_
        have hc112 : (own_om2_fn) = (1 : Int32) := rfl
        refine Goes.step (B := (T111.setTop (mkF m 76 #[.val (.int x0), .val (.int (own_k x0)), .val (.ref aV), .val (.int (1 : Int32))] []))) (fun _ k => XS.icmpNo X111.here hx rfl (hb hby at_73) rfl (teq hc112).2 k) ?_
        refine Goes.step (B := (T111.setTop (mkF m 77 #[.val (.int x0), .val (.int (own_k x0)), .val (.ref aV), .val (.int (1 : Int32))] [(.int (1 : Int32))]))) (fun _ k => XS.iconst X111.here hx rfl (hb hby at_76) k) ?_
        refine Goes.step (B := (T111.setTop (mkF m 81 #[.val (.int x0), .val (.int (own_k x0)), .val (.ref aV), .val (.int (1 : Int32))] [(.int (1 : Int32))]))) (fun _ k => XS.goto X111.here hx rfl (pc0 := 77) (pc' := 81) rfl (hb hby at_77) (by decide) (by decide) k) ?_
        refine Goes.retN X111 hx hlk (t := .boolean) hrt (by simp) (hb hby at_81) ?_ (by decide) (by decide)
        rw [e111]
        exact ⟨rfl, N111⟩
      · refine Goes.step (B := (s₁.setTop (mkF m 48 #[.val (.int x0), .val (.int (own_k x0)), .unset, .unset] []))) (fun _ k => XS.icmpYes X0.here hx rfl (pc0 := 36) (pc' := 48) rfl (hb hby at_36) rfl (feq hc109).2 (by decide) (by decide) k) ?_
        refine Goes.step (B := (s₁.setTop (mkF m 49 #[.val (.int x0), .val (.int (own_k x0)), .unset, .unset] [(.int (own_k x0))]))) (fun _ k => XS.iloadN X0.here hx rfl (hb hby at_48) rfl k) ?_
        refine Goes.step (B := (s₁.setTop (mkF m 50 #[.val (.int x0), .val (.int (own_k x0)), .unset, .unset] [(.int (3 : Int32)), (.int (own_k x0))]))) (fun _ k => XS.iconst X0.here hx rfl (hb hby at_49) k) ?_
        by_cases hc113 : (own_k x0) = (3 : Int32)
        · refine Goes.step (B := (s₁.setTop (mkF m 53 #[.val (.int x0), .val (.int (own_k x0)), .unset, .unset] []))) (fun _ k => XS.icmpNo X0.here hx rfl (hb hby at_50) rfl (teq hc113).2 k) ?_
          obtain ⟨T114, X114, e114, st114⟩ := getS2 X0 hx hZ hown (host := "") (Or.inl (hw _ (List.mem_of_getElem? (i := 13) rfl))) Via.refl e0 pr3 (g := (mkF m 53 #[.val (.int x0), .val (.int (own_k x0)), .unset, .unset] [])) rfl (hb hby at_53)
          refine Goes.step (B := (T114.setTop (mkF m 56 #[.val (.int x0), .val (.int (own_k x0)), .unset, .unset] [(.ref aN)]))) (fun _ k => st114 _ k) ?_
          refine Goes.step (B := (T114.setTop (mkF m 57 #[.val (.int x0), .val (.int (own_k x0)), .val (.ref aN), .unset] []))) (fun _ k => XS.astoreN X114.here hx rfl (hb hby at_56) rfl rfl (l' := #[.val (.int x0), .val (.int (own_k x0)), .val (.ref aN), .unset]) rfl k) ?_
          refine Goes.step (B := (T114.setTop (mkF m 58 #[.val (.int x0), .val (.int (own_k x0)), .val (.ref aN), .unset] [(.int (0 : Int32))]))) (fun _ k => XS.iconst X114.here hx rfl (hb hby at_57) k) ?_
          refine Goes.step (B := (T114.setTop (mkF m 59 #[.val (.int x0), .val (.int (own_k x0)), .val (.ref aN), .val (.int (0 : Int32))] []))) (fun _ k => XS.istoreN X114.here hx rfl (hb hby at_58) rfl (l' := #[.val (.int x0), .val (.int (own_k x0)), .val (.ref aN), .val (.int (0 : Int32))]) rfl k) ?_
          refine Goes.step (B := (T114.setTop (mkF m 68 #[.val (.int x0), .val (.int (own_k x0)), .val (.ref aN), .val (.int (0 : Int32))] []))) (fun _ k => XS.goto X114.here hx rfl (pc0 := 59) (pc' := 68) rfl (hb hby at_59) (by decide) (by decide) k) ?_
          refine Goes.step (B := (T114.setTop (mkF m 69 #[.val (.int x0), .val (.int (own_k x0)), .val (.ref aN), .val (.int (0 : Int32))] [(.ref aN)]))) (fun _ k => XS.aloadN X114.here hx rfl (hb hby at_68) rfl rfl k) ?_
          obtain ⟨cq115, kq115, q115a, q115b, q115c⟩ := isOf hZ e114 pr8
          obtain ⟨_, _, ⟨T115, L115, k115, n115⟩, -, X115, ⟨Lc115, hQ115, l115, y115, z115⟩, st115⟩ := X114.virtualBack hx (y := (⟨"com/example/virmex/virmex/cluster/Protocol$Kind", "ofMessage", "()Z"⟩ : MethodName)) (z := (⟨"com/example/virmex/virmex/cluster/Protocol$Kind", "ofMessage", "()Z"⟩ : MethodName)) hown (mvT hZ (hw _ (List.mem_of_getElem? (i := 4) rfl))) (mvT hZ (hw _ (List.mem_of_getElem? (i := 5) rfl))) (notFace_of_selects (args := #[]) (mvT hZ (hw _ (List.mem_of_getElem? (i := 7) rfl)))) (mvT hZ (hw _ (List.mem_of_getElem? (i := 7) rfl))) (mvT hZ (hw _ (List.mem_of_getElem? (i := 6) rfl))) (by decide) (backOf (W := 0) (own_om3_rm l Z a0 hw [] aN aS aV h0 n0 Z0 pr1 pr2 pr11 pr14) hZ (hw _ (List.mem_of_getElem? (i := 8) rfl)) (hw _ (List.mem_of_getElem? (i := 2) rfl)) (by decide) (by decide)) q115a q115c (g := (mkF m 69 #[.val (.int x0), .val (.int (own_k x0)), .val (.ref aN), .val (.int (0 : Int32))] [(.ref aN)])) rfl (by rw [hml]; rfl) (Steps.refl _) (argsL := []) (rest := []) (lenOf pd___Z rfl) rfl (by show 2 * 0 + _ ≤ _; exact Nat.le_of_eq rfl) (hb hby at_69) (fun _ _ => ⟨rfl, e114, (by decide : 0 + 0 ≤ _), (by decide : 0 + 0 ≤ _)⟩)
          dsimp only [Pt.U, Pt.locs, Pt.cells, Pt.slots] at X115 l115 y115 z115 st115 hQ115
          subst l115 y115 z115
          obtain ⟨rfl, N115q, e115⟩ := hQ115
          have N115 := Fr.app N0 N115q
          refine Goes.to (B := (T115.setTop (mkF m 72 #[.val (.int x0), .val (.int (own_k x0)), .val (.ref aN), .val (.int (0 : Int32))] [(.int (own_om3_fn))]))) st115 ?_
          refine Goes.step (B := (T115.setTop (mkF m 73 #[.val (.int x0), .val (.int (own_k x0)), .val (.ref aN), .val (.int (0 : Int32))] [(.int (0 : Int32)), (.int (own_om3_fn))]))) (fun _ k => XS.iloadN X115.here hx rfl (hb hby at_72) rfl k) ?_
          have hc116 : (own_om3_fn) = (0 : Int32) := rfl
          refine Goes.step (B := (T115.setTop (mkF m 76 #[.val (.int x0), .val (.int (own_k x0)), .val (.ref aN), .val (.int (0 : Int32))] []))) (fun _ k => XS.icmpNo X115.here hx rfl (hb hby at_73) rfl (teq hc116).2 k) ?_
          refine Goes.step (B := (T115.setTop (mkF m 77 #[.val (.int x0), .val (.int (own_k x0)), .val (.ref aN), .val (.int (0 : Int32))] [(.int (1 : Int32))]))) (fun _ k => XS.iconst X115.here hx rfl (hb hby at_76) k) ?_
          refine Goes.step (B := (T115.setTop (mkF m 81 #[.val (.int x0), .val (.int (own_k x0)), .val (.ref aN), .val (.int (0 : Int32))] [(.int (1 : Int32))]))) (fun _ k => XS.goto X115.here hx rfl (pc0 := 77) (pc' := 81) rfl (hb hby at_77) (by decide) (by decide) k) ?_
          refine Goes.retN X115 hx hlk (t := .boolean) hrt (by simp) (hb hby at_81) ?_ (by decide) (by decide)
          rw [e115]
          exact ⟨rfl, N115⟩
        · refine Goes.step (B := (s₁.setTop (mkF m 62 #[.val (.int x0), .val (.int (own_k x0)), .unset, .unset] []))) (fun _ k => XS.icmpYes X0.here hx rfl (pc0 := 50) (pc' := 62) rfl (hb hby at_50) rfl (feq hc113).2 (by decide) (by decide) k) ?_
          obtain ⟨T117, X117, e117, st117⟩ := getS2 X0 hx hZ hown (host := "") (Or.inl (hw _ (List.mem_of_getElem? (i := 16) rfl))) Via.refl e0 pr4 (g := (mkF m 62 #[.val (.int x0), .val (.int (own_k x0)), .unset, .unset] [])) rfl (hb hby at_62)
          refine Goes.step (B := (T117.setTop (mkF m 65 #[.val (.int x0), .val (.int (own_k x0)), .unset, .unset] [(.ref aX)]))) (fun _ k => st117 _ k) ?_
          refine Goes.step (B := (T117.setTop (mkF m 66 #[.val (.int x0), .val (.int (own_k x0)), .val (.ref aX), .unset] []))) (fun _ k => XS.astoreN X117.here hx rfl (hb hby at_65) rfl rfl (l' := #[.val (.int x0), .val (.int (own_k x0)), .val (.ref aX), .unset]) rfl k) ?_
          refine Goes.step (B := (T117.setTop (mkF m 67 #[.val (.int x0), .val (.int (own_k x0)), .val (.ref aX), .unset] [(.int (0 : Int32))]))) (fun _ k => XS.iconst X117.here hx rfl (hb hby at_66) k) ?_
          refine Goes.step (B := (T117.setTop (mkF m 68 #[.val (.int x0), .val (.int (own_k x0)), .val (.ref aX), .val (.int (0 : Int32))] []))) (fun _ k => XS.istoreN X117.here hx rfl (hb hby at_67) rfl (l' := #[.val (.int x0), .val (.int (own_k x0)), .val (.ref aX), .val (.int (0 : Int32))]) rfl k) ?_
          refine Goes.step (B := (T117.setTop (mkF m 69 #[.val (.int x0), .val (.int (own_k x0)), .val (.ref aX), .val (.int (0 : Int32))] [(.ref aX)]))) (fun _ k => XS.aloadN X117.here hx rfl (hb hby at_68) rfl rfl k) ?_
          obtain ⟨cq118, kq118, q118a, q118b, q118c⟩ := isOf hZ e117 pr9
          obtain ⟨_, _, ⟨T118, L118, k118, n118⟩, -, X118, ⟨Lc118, hQ118, l118, y118, z118⟩, st118⟩ := X117.virtualBack hx (y := (⟨"com/example/virmex/virmex/cluster/Protocol$Kind", "ofMessage", "()Z"⟩ : MethodName)) (z := (⟨"com/example/virmex/virmex/cluster/Protocol$Kind", "ofMessage", "()Z"⟩ : MethodName)) hown (mvT hZ (hw _ (List.mem_of_getElem? (i := 4) rfl))) (mvT hZ (hw _ (List.mem_of_getElem? (i := 5) rfl))) (notFace_of_selects (args := #[]) (mvT hZ (hw _ (List.mem_of_getElem? (i := 7) rfl)))) (mvT hZ (hw _ (List.mem_of_getElem? (i := 7) rfl))) (mvT hZ (hw _ (List.mem_of_getElem? (i := 6) rfl))) (by decide) (backOf (W := 0) (own_om3_rm l Z a0 hw [] aX aS aV h0 n0 Z0 pr1 pr2 pr12 pr15) hZ (hw _ (List.mem_of_getElem? (i := 8) rfl)) (hw _ (List.mem_of_getElem? (i := 2) rfl)) (by decide) (by decide)) q118a q118c (g := (mkF m 69 #[.val (.int x0), .val (.int (own_k x0)), .val (.ref aX), .val (.int (0 : Int32))] [(.ref aX)])) rfl (by rw [hml]; rfl) (Steps.refl _) (argsL := []) (rest := []) (lenOf pd___Z rfl) rfl (by show 2 * 0 + _ ≤ _; exact Nat.le_of_eq rfl) (hb hby at_69) (fun _ _ => ⟨rfl, e117, (by decide : 0 + 0 ≤ _), (by decide : 0 + 0 ≤ _)⟩)
          dsimp only [Pt.U, Pt.locs, Pt.cells, Pt.slots] at X118 l118 y118 z118 st118 hQ118
          subst l118 y118 z118
          obtain ⟨rfl, N118q, e118⟩ := hQ118
          have N118 := Fr.app N0 N118q
          refine Goes.to (B := (T118.setTop (mkF m 72 #[.val (.int x0), .val (.int (own_k x0)), .val (.ref aX), .val (.int (0 : Int32))] [(.int (own_om3_fn))]))) st118 ?_
          refine Goes.step (B := (T118.setTop (mkF m 73 #[.val (.int x0), .val (.int (own_k x0)), .val (.ref aX), .val (.int (0 : Int32))] [(.int (0 : Int32)), (.int (own_om3_fn))]))) (fun _ k => XS.iloadN X118.here hx rfl (hb hby at_72) rfl k) ?_
          have hc119 : (own_om3_fn) = (0 : Int32) := rfl
          refine Goes.step (B := (T118.setTop (mkF m 76 #[.val (.int x0), .val (.int (own_k x0)), .val (.ref aX), .val (.int (0 : Int32))] []))) (fun _ k => XS.icmpNo X118.here hx rfl (hb hby at_73) rfl (teq hc119).2 k) ?_
          refine Goes.step (B := (T118.setTop (mkF m 77 #[.val (.int x0), .val (.int (own_k x0)), .val (.ref aX), .val (.int (0 : Int32))] [(.int (1 : Int32))]))) (fun _ k => XS.iconst X118.here hx rfl (hb hby at_76) k) ?_
          refine Goes.step (B := (T118.setTop (mkF m 81 #[.val (.int x0), .val (.int (own_k x0)), .val (.ref aX), .val (.int (0 : Int32))] [(.int (1 : Int32))]))) (fun _ k => XS.goto X118.here hx rfl (pc0 := 77) (pc' := 81) rfl (hb hby at_77) (by decide) (by decide) k) ?_
          refine Goes.retN X118 hx hlk (t := .boolean) hrt (by simp) (hb hby at_81) ?_ (by decide) (by decide)
          rw [e118]
          exact ⟨rfl, N118⟩
set_option maxRecDepth 65536 in
set_option maxHeartbeats 40000000 in
theorem comes_1 {Post : Tables → Env → Array Value → State → Outcome → State → Prop} (hpost : ∀ tb e args s v u, (limb_1_1.after args s (.returned v) u = true ∧ limb_1_2.after args s (.returned v) u = true ∧ True) → FrameEnd s (.returned v) u (Jvm.fieldLocs frame_1_writes args s ++ Jvm.arrayLocs frame_1_arrays args s ++ Jvm.staticLocs frame_1_statics s) 0 0 → Post tb e args s (.returned v) u) :
    ArmFor flags0 classFile x code maxLocals ret World_1 tables_1 room_1 Calls_1 rest_1 Pre_1 Post := by
  intro l hfl _ _ p e ha hc hk s m args below hf hA hF happ hP
  obtain ⟨hcalls, hrest, hpre⟩ := hP
  obtain ⟨-, -, -, hnamed, -, -, -, hat⟩ := (Spec.applies_iff hf).mp happ
  obtain ⟨hg, hn⟩ := and_e (Cond.before_iff.mp (show (Jvm.Cond.and given_1 narrow_1).before args s = true from hpre))
  obtain ⟨hg1, hg2⟩ := and_e hg
  obtain ⟨w0, rfl⟩ : ∃ w0 : Value, args = #[w0] := by
    have hs : args.size = 1 := by simpa [Cond.value, given_1] using hg1
    obtain ⟨L⟩ := args
    match L, hs with
    | [w0], _ => exact ⟨w0, rfl⟩
  have hw := fun d (hd : d ∈ tables_1) => atoms_spec (ws := Jvm.Cond.code x code maxLocals ret :: tables_1) hat d (List.mem_cons_of_mem _ hd)
  have hfit : Fit s := fun {y c} hc i hi => by
    obtain ⟨ha, rfl⟩ := Array.getElem?_eq_some_iff.mp hc
    have q := List.all_eq_true.mp ((Array.all_eq_true_iff_forall_mem.mp hF) _ (Array.getElem_mem ha)) i (List.mem_range.mpr hi)
    simpa [Array.getElem?_eq_getElem hi] using q
  obtain ⟨i0, ei0⟩ := is_v hg2
  obtain rfl : w0 = (.int i0) := Option.some.inj ei0
  obtain ⟨hn1, hn2⟩ := and_e hn
  obtain ⟨aQ, ev_aQ⟩ := exa_v hn1
  have S_aQ := Sta.start ev_aQ (Or.inr ⟨(hw _ (List.mem_of_getElem? (i := 2) rfl)), (hw _ (List.mem_of_getElem? (i := 3) rfl))⟩)
  have E_aQ := Exa.start ev_aQ hn1
  obtain ⟨hn3, hn4⟩ := and_e hn2
  obtain ⟨aS, ev_aS⟩ := exa_v hn3
  have S_aS := Sta.start ev_aS (Or.inr ⟨(hw _ (List.mem_of_getElem? (i := 2) rfl)), (hw _ (List.mem_of_getElem? (i := 10) rfl))⟩)
  have E_aS := Exa.start ev_aS hn3
  obtain ⟨hn5, hn6⟩ := and_e hn4
  obtain ⟨hn7, hn8⟩ := and_e hn6
  obtain ⟨hn9, hn10⟩ := and_e hn8
  obtain ⟨aV, ev_aV⟩ := exa_v hn9
  have S_aV := Sta.start ev_aV (Or.inr ⟨(hw _ (List.mem_of_getElem? (i := 2) rfl)), (hw _ (List.mem_of_getElem? (i := 12) rfl))⟩)
  have E_aV := Exa.start ev_aV hn9
  obtain ⟨hn11, hn12⟩ := and_e hn10
  obtain ⟨hn13, hn14⟩ := and_e hn12
  obtain ⟨aN, ev_aN⟩ := exa_v hn13
  have S_aN := Sta.start ev_aN (Or.inr ⟨(hw _ (List.mem_of_getElem? (i := 2) rfl)), (hw _ (List.mem_of_getElem? (i := 14) rfl))⟩)
  have E_aN := Exa.start ev_aN hn13
  obtain ⟨hn15, hn16⟩ := and_e hn14
  obtain ⟨hn17, hn18⟩ := and_e hn16
  obtain ⟨aX, ev_aX⟩ := exa_v hn17
  have S_aX := Sta.start ev_aX (Or.inr ⟨(hw _ (List.mem_of_getElem? (i := 2) rfl)), (hw _ (List.mem_of_getElem? (i := 17) rfl))⟩)
  have E_aX := Exa.start ev_aX hn17
  have o_aQ := own_ord ev_aQ hn5
  have o_aS := own_ord ev_aS hn7
  have o_aV := own_ord ev_aV hn11
  have o_aN := own_ord ev_aN hn15
  have o_aX := own_ord ev_aX hn18
  obtain ⟨n, o, h1, h2, h3, _, L, rfl, ⟨hv, N⟩, hq⟩ := own_law_rm l s _ hw tables_1 i0 aQ aS aV aN aX s.heap s.heap.size (Nat.le_refl _) S_aQ S_aS S_aV S_aN S_aX E_aQ E_aS E_aV E_aN E_aX (own_ne o_aQ o_aS (by decide)) (own_ne o_aN o_aS (by decide)) (own_ne o_aX o_aS (by decide)) (own_ne o_aQ o_aV (by decide)) (own_ne o_aN o_aV (by decide)) (own_ne o_aX o_aV (by decide)) (own_ne o_aV o_aS (by decide)) p e ha hc hk s m _ below hf ((Spec.applies_iff_loose hf).mp happ).1 ⟨rfl, State.Warmed39.refl s, rfl⟩ trivial
  subst hv
  refine ⟨n, _, h1, h2, h3, hpost _ _ _ _ _ _ ⟨Cond.after_iff.mpr rfl, Cond.after_iff.mpr (eq_i res_at (Term.int_eval (1)) rfl), trivial⟩ ⟨hq.1, hq.2.1, (hq.2.2.sift fun y hy => Or.inr (N y hy)).mono (by decide) (by decide)⟩⟩
theorem main_1_1 : Claimed_1_1 := comes_1 fun _ _ _ _ _ _ h hF => ⟨h.1, hF⟩
theorem main_1_2 : Claimed_1_2 := comes_1 fun _ _ _ _ _ _ h hF => ⟨h.2.1, hF⟩
end Jvm.Pilot.@@N@@
namespace Jvm.Pilot.@@N@@
open Jvm Jvm.ClassFile Sem Op Lib Jvm.Free Jvm.Stand Jvm.Pilot.@@N@@.Jvm.D
/-! MADE BY PROGRAM (witnessworld.py) out of the Statement's table words and the real class files: 12 classes; the members and pool entries that the words name. The judged class is class 1, her method 1. -/
namespace start1
open Jvm.ClassFile
def u (s : String) : CpInfo := .utf8 (stringToUtf16 s)
/-- a pool by its gaps: so many unusable entries, then the entry; so many at the end -/
def gap : Nat → List CpInfo → List CpInfo
  | 0, r => r
  | n + 1, r => .unusable :: gap n r
def poolList (es : List (Nat × CpInfo)) (last : Nat) : List CpInfo := es.foldr (fun e r => gap e.1 (e.2 :: r)) (gap last [])
def pool (es : List (Nat × CpInfo)) (last : Nat) : Array CpInfo := ⟨poolList es last⟩
def fileOf (pool : Array CpInfo) (this : Nat) (attrs : Array Attribute := #[]) (ms : Array MethodInfo := #[]) (fl : Nat := 33) (sup : Nat := 0) (ifs : Array Nat := #[]) (fds : Array FieldInfo := #[]) : ClassFile where
  minorVersion := 0
  majorVersion := 65
  constantPool := pool
  accessFlags := fl
  thisClass := this
  superClass := sup
  interfaces := ifs
  fields := fds
  methods := ms
  attributes := attrs
def plain (name : String) (sup : Option ClassId) : Class where
  name := name
  kind := .ordinary
  loader := none
  accessFlags := 33
  super := sup
  interfaces := #[]
  cf := none
  fields := #[]
  methods := #[]
  instanceTypes := #[]
  staticTypes := #[]
  resolved := #[]
  callSites := []
  init := .initialized
  statics := none
  mirror := none

def pool0 : Array CpInfo := pool [(5, u "<init>"), (0, u "()V"), (1, .class_ 10), (1, u "java/lang/Object")] 113

def k0m0 : Method := { name := "<init>", desc := "()V", sig := { parameters := [], returnType := none }, accessFlags := 1, code := none }
/-- java/lang/Object -/
def k0 : Class := { plain "java/lang/Object" none with
  accessFlags := 33
  interfaces := #[]
  cf := some (fileOf pool0 8 #[] #[{ accessFlags := 1, nameIndex := 5, descriptorIndex := 6, attributes := #[] }] 33 0 #[] #[])
  fields := #[]
  methods := #[k0m0]
  instanceTypes := #[]
  staticTypes := #[]
  resolved := Array.replicate 124 none
  statics := none }

def pool1 : Array CpInfo := pool [(2, .class_ 4), (1, u "java/lang/Object"), (0, u "<init>"), (0, u "()V"), (0, .integer 2147483647), (0, .fieldref 9 10), (0, .class_ 11), (0, .nameAndType 12 13), (0, u "com/example/virmex/virmex/cluster/Protocol$Kind"), (0, u "REQUEST"), (0, u "Lcom/example/virmex/virmex/cluster/Protocol$Kind;"), (0, .fieldref 9 15), (0, .nameAndType 16 13), (0, u "SEND"), (0, .fieldref 9 18), (0, .nameAndType 19 13), (0, u "RECEIVE"), (0, .fieldref 9 21), (0, .nameAndType 22 13), (0, u "ENTER"), (0, .fieldref 9 24), (0, .nameAndType 25 13), (0, u "EXIT"), (0, .methodref 9 27), (0, .nameAndType 28 29), (0, u "ofMessage"), (0, u "()Z"), (0, .class_ 31), (0, u "com/example/virmex/virmex/cluster/KindOfMessagePinLaw"), (2, u "law"), (0, u "(I)Z")] 7

def k1m0 : Method := { name := "<init>", desc := "()V", sig := { parameters := [], returnType := none }, accessFlags := 2, code := none }
def k1c1 : Code := { maxStack := 2, maxLocals := 4, code := code, exceptionTable := #[], attributes := #[] }
def k1m1 : Method := { name := "law", desc := "(I)Z", sig := { parameters := [.int], returnType := some .boolean }, accessFlags := 9, code := some k1c1 }
/-- com/example/virmex/virmex/cluster/KindOfMessagePinLaw -/
def k1 : Class := { plain "com/example/virmex/virmex/cluster/KindOfMessagePinLaw" (some 0) with
  accessFlags := 49
  interfaces := #[]
  cf := some (fileOf pool1 30 #[] #[{ accessFlags := 2, nameIndex := 5, descriptorIndex := 6, attributes := #[] }, { accessFlags := 9, nameIndex := 34, descriptorIndex := 35, attributes := #[] }] 49 2 #[] #[])
  fields := #[]
  methods := #[k1m0, k1m1]
  instanceTypes := #[]
  staticTypes := #[]
  resolved := Array.replicate 43 none
  statics := none }

def pool2 : Array CpInfo := pool [(1, .class_ 2), (0, u "java/lang/constant/Constable"), (0, .class_ 4), (0, u "java/lang/Object")] 6

/-- java/lang/constant/Constable -/
def k2 : Class := { plain "java/lang/constant/Constable" (some 0) with
  accessFlags := 1537
  interfaces := #[]
  cf := some (fileOf pool2 1 #[] #[] 1537 3 #[] #[])
  fields := #[]
  methods := #[]
  instanceTypes := #[]
  staticTypes := #[]
  resolved := Array.replicate 11 none
  statics := none }

def pool3 : Array CpInfo := pool [(1, .class_ 2), (0, u "java/lang/Comparable"), (0, .class_ 4), (0, u "java/lang/Object")] 7

/-- java/lang/Comparable -/
def k3 : Class := { plain "java/lang/Comparable" (some 0) with
  accessFlags := 1537
  interfaces := #[]
  cf := some (fileOf pool3 1 #[] #[] 1537 3 #[] #[])
  fields := #[]
  methods := #[]
  instanceTypes := #[]
  staticTypes := #[]
  resolved := Array.replicate 12 none
  statics := none }

def pool4 : Array CpInfo := pool [(1, .class_ 2), (0, u "java/io/Serializable"), (0, .class_ 4), (0, u "java/lang/Object")] 2

/-- java/io/Serializable -/
def k4 : Class := { plain "java/io/Serializable" (some 0) with
  accessFlags := 1537
  interfaces := #[]
  cf := some (fileOf pool4 1 #[] #[] 1537 3 #[] #[])
  fields := #[]
  methods := #[]
  instanceTypes := #[]
  staticTypes := #[]
  resolved := Array.replicate 7 none
  statics := none }

def pool5 : Array CpInfo := pool [(2, .class_ 4), (1, u "java/lang/Enum"), (0, u "name"), (0, u "Ljava/lang/String;"), (2, u "ordinal"), (0, u "I"), (1, .class_ 14), (1, u "java/lang/Object"), (4, u "hash"), (86, .class_ 108), (1, u "java/lang/Enum$EnumDesc"), (2, .class_ 112), (0, u "java/lang/constant/Constable"), (0, .class_ 114), (0, u "java/lang/Comparable"), (0, .class_ 116), (0, u "java/io/Serializable")] 87

/-- java/lang/Enum -/
def k5 : Class := { plain "java/lang/Enum" (some 0) with
  accessFlags := 1057
  interfaces := #[2, 3, 4]
  cf := some (fileOf pool5 2 #[.nestMembers #[106]] #[] 1057 12 #[111, 113, 115] #[{ accessFlags := 18, nameIndex := 5, descriptorIndex := 6, attributes := #[] }, { accessFlags := 18, nameIndex := 9, descriptorIndex := 10, attributes := #[] }, { accessFlags := 2, nameIndex := 19, descriptorIndex := 10, attributes := #[] }])
  fields := #[{ name := "name", type := (.object "java/lang/String"), accessFlags := 18, slot := 0, constantValue := 0 }, { name := "ordinal", type := .int, accessFlags := 18, slot := 1, constantValue := 0 }, { name := "hash", type := .int, accessFlags := 2, slot := 2, constantValue := 0 }]
  methods := #[]
  instanceTypes := #[(.object "java/lang/String"), .int, .int]
  staticTypes := #[]
  resolved := Array.replicate 204 none
  statics := none }

def pool6 : Array CpInfo := pool [(1, .class_ 2), (0, u "com/example/virmex/virmex/cluster/Protocol$Kind"), (2, u "REQUEST"), (0, u "Lcom/example/virmex/virmex/cluster/Protocol$Kind;"), (0, .fieldref 1 8), (0, .nameAndType 9 6), (0, u "SEND"), (0, .fieldref 1 11), (0, .nameAndType 12 6), (0, u "RECEIVE"), (2, u "ENTER"), (2, u "EXIT"), (2, u "$VALUES"), (0, u "[Lcom/example/virmex/virmex/cluster/Protocol$Kind;"), (6, .class_ 31), (1, u "java/lang/Enum"), (23, u "ofMessage"), (0, u "()Z"), (6, .class_ 64), (0, u "com/example/virmex/virmex/cluster/Protocol")] 2

def k6c0 : Code := { maxStack := 2, maxLocals := 1, code := prog_30_method_4_code, exceptionTable := #[], attributes := #[] }
def k6m0 : Method := { name := "ofMessage", desc := "()Z", sig := { parameters := [], returnType := some .boolean }, accessFlags := 0, code := some k6c0 }
/-- com/example/virmex/virmex/cluster/Protocol$Kind -/
def k6 : Class := { plain "com/example/virmex/virmex/cluster/Protocol$Kind" (some 5) with
  accessFlags := 16432
  interfaces := #[]
  cf := some (fileOf pool6 1 #[.nestHost 63] #[{ accessFlags := 0, nameIndex := 55, descriptorIndex := 56, attributes := #[] }] 16432 29 #[] #[{ accessFlags := 16409, nameIndex := 5, descriptorIndex := 6, attributes := #[] }, { accessFlags := 16409, nameIndex := 9, descriptorIndex := 6, attributes := #[] }, { accessFlags := 16409, nameIndex := 12, descriptorIndex := 6, attributes := #[] }, { accessFlags := 16409, nameIndex := 15, descriptorIndex := 6, attributes := #[] }, { accessFlags := 16409, nameIndex := 18, descriptorIndex := 6, attributes := #[] }, { accessFlags := 4122, nameIndex := 21, descriptorIndex := 22, attributes := #[] }])
  fields := #[{ name := "REQUEST", type := (.object "com/example/virmex/virmex/cluster/Protocol$Kind"), accessFlags := 16409, slot := 0, constantValue := 0 }, { name := "SEND", type := (.object "com/example/virmex/virmex/cluster/Protocol$Kind"), accessFlags := 16409, slot := 1, constantValue := 0 }, { name := "RECEIVE", type := (.object "com/example/virmex/virmex/cluster/Protocol$Kind"), accessFlags := 16409, slot := 2, constantValue := 0 }, { name := "ENTER", type := (.object "com/example/virmex/virmex/cluster/Protocol$Kind"), accessFlags := 16409, slot := 3, constantValue := 0 }, { name := "EXIT", type := (.object "com/example/virmex/virmex/cluster/Protocol$Kind"), accessFlags := 16409, slot := 4, constantValue := 0 }, { name := "$VALUES", type := (.array (.object "com/example/virmex/virmex/cluster/Protocol$Kind")), accessFlags := 4122, slot := 5, constantValue := 0 }]
  methods := #[k6m0]
  instanceTypes := #[(.object "java/lang/String"), .int, .int]
  staticTypes := #[(.object "com/example/virmex/virmex/cluster/Protocol$Kind"), (.object "com/example/virmex/virmex/cluster/Protocol$Kind"), (.object "com/example/virmex/virmex/cluster/Protocol$Kind"), (.object "com/example/virmex/virmex/cluster/Protocol$Kind"), (.object "com/example/virmex/virmex/cluster/Protocol$Kind"), (.array (.object "com/example/virmex/virmex/cluster/Protocol$Kind"))]
  resolved := Array.replicate 67 none
  statics := some 0 }

def pool7 : Array CpInfo := pool [(1, u "java/lang/Cloneable"), (0, .class_ 1), (0, u "java/lang/Object"), (0, .class_ 3)] 3

/-- java/lang/Cloneable -/
def k7 : Class := { plain "java/lang/Cloneable" (some 0) with
  accessFlags := 1537
  interfaces := #[]
  cf := some (fileOf pool7 2 #[] #[] 1537 4 #[] #[])
  fields := #[]
  methods := #[]
  instanceTypes := #[]
  staticTypes := #[]
  resolved := Array.replicate 8 none
  statics := none }

/-- the primitive byte -/
def k8 : Class := { plain "byte" none with kind := .primitive 'B', accessFlags := 0x411 }
/-- [B -/
def k9 : Class := { plain "[B" (some 0) with kind := .array 8 .byte, interfaces := #[7, 4], accessFlags := 1041 }

/-- the primitive int -/
def k10 : Class := { plain "int" none with kind := .primitive 'I', accessFlags := 0x411 }
/-- [I -/
def k11 : Class := { plain "[I" (some 0) with kind := .array 10 .int, interfaces := #[7, 4], accessFlags := 1041 }

def heap : Heap := #[{ cls := 6, slots := #[.ref 1, .ref 2, .ref 3, .ref 4, .ref 5, .null], vm := .statics 6 },
  { cls := 6, slots := #[.null, .int 0, .int 0], vm := .none },
  { cls := 6, slots := #[.null, .int 1, .int 0], vm := .none },
  { cls := 6, slots := #[.null, .int 2, .int 0], vm := .none },
  { cls := 6, slots := #[.null, .int 3, .int 0], vm := .none },
  { cls := 6, slots := #[.null, .int 4, .int 0], vm := .none }]
def classes : Array Class := #[k0, k1, k2, k3, k4, k5, k6, k7, k8, k9, k10, k11]
def interned : List (Array UInt16 × Addr) := []
def slotsUsed : Nat := 21
def theMethod : MethodId := ⟨1, 1⟩
def args0 : Array Value := #[.int 65]
def aboutOver (below : List Frame) : State where
  vm := { classes := classes, interned := interned.toArray }
  heap := heap
  slotsUsed := slotsUsed
  threads := #[{ frames := .invoking theMethod args0 :: below }]
def below0 : List Frame := [.native { method := ⟨0, 0⟩, args := #[] }]
def about1 : State := aboutOver below0
def p0 : Program := .bare "" "" ""
def e0 : Env := launch0.env 0 0 0
theorem w_frames : about1.frames = Frame.invoking theMethod args0 :: below0 := rfl
set_option maxRecDepth 65536 in
theorem w_args : argsFit about1.vm theMethod args0 = true := by decide +kernel
set_option maxRecDepth 65536 in
theorem w_heap : heapFits about1 = true := by decide +kernel
set_option maxRecDepth 65536 in
theorem w_runnable : about1.curStatus? = some .runnable := by decide +kernel
set_option maxRecDepth 65536 in
theorem w_alone : about1.alone = true := by decide +kernel
set_option maxRecDepth 65536 in
theorem w_named : about1.methodNamed? x = some theMethod := by decide +kernel
set_option maxRecDepth 65536 in
theorem w_hears : about1.hears theMethod below0 = true := by decide +kernel
set_option maxRecDepth 65536 in
theorem w_ripe : about1.ripe theMethod args0 below0 = true := by decide +kernel
theorem w_running : about1.status = .running := rfl
set_option maxRecDepth 65536 in
theorem w_room : about1.hasRoom e0.platform room_1 = true :=
  launch0.hasRoom_least _ room_1 (by decide +kernel) (by decide +kernel) (by decide +kernel) (by decide +kernel) (by decide +kernel) (by decide +kernel)
theorem allAtoms_all (ts : List Jvm.Cond) (a : Array Jvm.Value) (st : Jvm.State) : (allAtoms ts).before a st = ts.all (fun c => c.before a st) := by
  induction ts with
  | nil => rfl
  | cons c t ih =>
    show (Jvm.Cond.and c (allAtoms t)).before a st = _
    rw [Jvm.Cond.before_and, ih, List.all_cons]
def words1 : List Jvm.Cond := Jvm.Cond.code x code maxLocals ret :: tables_1
/-- a 'code' word, met by the world's own term for the bytes: nothing is compared byte by byte -/
theorem code_word {y : MethodName} {bytes : ByteArray} {mx : Nat} {rt : Option FieldType} {a : Array Value} {s : State} {m : MethodId} {meth : Method} {c : Code} (h1 : s.methodNamed? y = some m) (h2 : s.vm.method? m = some meth) (h3 : meth.code = some c) (h4 : c.code = bytes)
    (h5 : (c.maxLocals == mx && c.exceptionTable.isEmpty && decide (c.maxStack ≤ mostOperands) && decide (meth.sig.returnType = rt) && !meth.locks && decide (parseMethodDescriptor y.desc = some meth.sig)) = true) : (Jvm.Cond.code y bytes mx rt).before a s = true := by
  simp only [Bool.and_eq_true, beq_iff_eq, Bool.not_eq_true', decide_eq_true_eq] at h5
  obtain ⟨⟨⟨⟨⟨g1, g2⟩, g3⟩, g4⟩, g5⟩, g6⟩ := h5
  simp [Cond.before, Cond.holds, Cond.value, h1, h2, h3, h4, g1, g2, g3, g4, g5, g6]
def isCode : Jvm.Cond → Bool
  | .code _ _ _ _ => true
  | _ => false
theorem all_split {L : List Jvm.Cond} {P : Jvm.Cond → Bool} (h1 : L.all (fun c => isCode c || P c) = true) (h2 : ∀ c ∈ L.filter isCode, P c = true) : L.all P = true := by
  refine List.all_eq_true.mpr fun c hc => ?_
  have h := List.all_eq_true.mp h1 c hc
  rcases Bool.eq_false_or_eq_true (isCode c) with hi | hi
  · exact h2 c (List.mem_filter.mpr ⟨hc, hi⟩)
  · simpa [hi] using h
set_option maxRecDepth 65536 in
theorem w_c0 : (Jvm.Cond.code x code maxLocals ret).before args0 about1 = true := code_word (m := ⟨1, 1⟩) (meth := k1m1) (c := k1c1) (by decide +kernel) rfl rfl rfl (by decide +kernel)
set_option maxRecDepth 65536 in
theorem w_c1 : (Jvm.Cond.code ({ cls := "com/example/virmex/virmex/cluster/Protocol$Kind", name := "ofMessage", desc := "()Z" } : Jvm.MethodName) prog_30_method_4_code (1 : Nat) (Option.some Jvm.ClassFile.FieldType.boolean)).before args0 about1 = true := code_word (m := ⟨6, 0⟩) (meth := k6m0) (c := k6c0) (by decide +kernel) rfl rfl rfl (by decide +kernel)
def codes1 : List Jvm.Cond := [Jvm.Cond.code x code maxLocals ret, Jvm.Cond.code ({ cls := "com/example/virmex/virmex/cluster/Protocol$Kind", name := "ofMessage", desc := "()Z" } : Jvm.MethodName) prog_30_method_4_code (1 : Nat) (Option.some Jvm.ClassFile.FieldType.boolean)]
set_option maxRecDepth 65536 in
theorem codes_eq : words1.filter isCode = codes1 := rfl
theorem w_codes : ∀ c ∈ words1.filter isCode, c.before args0 about1 = true := by
  rw [codes_eq]
  intro c hc
  simp only [codes1, List.mem_cons, List.not_mem_nil, or_false] at hc
  rcases hc with rfl | rfl
  · exact w_c0
  · exact w_c1
set_option maxRecDepth 65536 in
theorem w_t1 : words1.all (fun c => isCode c || c.before args0 about1) = true := by decide +kernel
theorem w_tables : (allAtoms (Jvm.Cond.code x code maxLocals ret :: tables_1)).before args0 about1 = true := by
  rw [allAtoms_all]
  show words1.all (fun c => c.before args0 about1) = true
  refine all_split ?_ w_codes
  rw [w_t1]
set_option maxRecDepth 65536 in
theorem w_case : (Jvm.Cond.and given_1 narrow_1).before args0 about1 = true := by decide +kernel
theorem w_applies : (headSpec (Jvm.Cond.code x code maxLocals ret :: tables_1) room_1).applies x e0.platform about1 = true :=
  (Spec.applies_iff w_frames).mpr ⟨w_running, w_runnable, w_alone, w_named, w_hears, w_ripe, w_room, w_tables⟩
theorem atStart : AtStart classFile x code maxLocals ret World_1 tables_1 room_1 Calls_1 rest_1 Pre_1 launch0 p0 e0 about1 theMethod args0 below0 :=
  ⟨lists_1, trivial, launch0.admits_env _ _ _, launch0.least_env, fairChoices_fair.cas, fairChoices_fair.clock, w_frames, w_args, w_heap, w_applies, trivial, trivial, w_case⟩
end start1
theorem witness_1 : WitnessClaimed_1 := ⟨start1.p0, start1.e0, start1.about1, start1.theMethod, start1.args0, start1.below0, start1.atStart⟩
end Jvm.Pilot.@@N@@
