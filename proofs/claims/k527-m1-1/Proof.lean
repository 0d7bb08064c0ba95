import JvmDerived
import JvmDerived.Pilot.@@N@@Statement
import JvmDerived.Pilot.@@N@@Code
set_option linter.unusedVariables false
set_option linter.unusedSimpArgs false
namespace Jvm.RoadKit
open Sem ClassFile Op Lib Jvm.Stand Jvm.Free Jvm.LawKit
section Own
variable {p : Program} {l : Launch} {e : Env} {R : Room} {s : State} {m : MethodId} {args : Array Value} {below : List Frame} {meth : Method} {c : Code} {T : State} {locs : List Loc} {cells slots : Nat}
theorem retI (X : Stand p l e R s m args below meth c T locs cells slots) (hx : p.tables.exec = Jvm.exec) {pc : Nat} {Ls : Array Slot} {z : Int32} {rest : List Value} (hret : meth.sig.returnType = some .int) (hd : decode c.code pc = .ok (.ireturn, 1)) {fs : List Frame}
    (hl : ∀ (f : JFrame) (acts : List Action), f.method = m → f.locked = none → f.entered = [] → (doReturn e (T.setTop f) acts (some (.int z))).1 = T.setFrames fs) : Steps p.tables e below (T.setTop (mkF m pc Ls (.int z :: rest))) (T.setFrames fs) :=
  retOut X hx hret rfl (Or.inl ⟨rfl, Or.inl rfl, z, rfl⟩) hd hl
theorem lremM {g : JFrame} {target : State} (X : Stand p l e R s m args below meth c T locs cells slots) (hx : p.tables.exec = Jvm.exec) (hg : g.method = m) {x y : Int64} {rest : List Value} (hd : decode c.code g.pc = .ok (.lrem, 1)) (hs : g.stack = .long y :: .long x :: rest) (hy : y ≠ 0)
    (hr : Steps p.tables e below (T.setTop { g with pc := g.pc + 1, stack := .long (x % y) :: rest }) target) : Steps p.tables e below (T.setTop g) target :=
  XS.lrem X.here hx hg hd hs hy (by rw [lrem_mod]; exact hr)
/-- the walk from S on ends in a return of which Q holds -/
def Goes (p : Program) (e : Env) (below : List Frame) (s : State) (k n : Nat) (Q : Option Value → Heap → List Loc → Prop) (S : State) : Prop :=
  ∃ t o, Steps p.tables e below S t ∧ t.status = .running ∧ Ended t below o ∧ ∃ v L, o = .returned v ∧ Q v t.heap L ∧ FrameEnd s o t L k n
variable {kc kn : Nat} {Q : Option Value → Heap → List Loc → Prop}
theorem Goes.step {A B : State} (h : ∀ t, Steps p.tables e below B t → Steps p.tables e below A t) (g : Goes p e below s kc kn Q B) : Goes p e below s kc kn Q A := by
  obtain ⟨t, o, h1, h2⟩ := g; exact ⟨t, o, h t h1, h2⟩
theorem Goes.to {A B : State} (h : Steps p.tables e below A B) (g : Goes p e below s kc kn Q B) : Goes p e below s kc kn Q A := by
  obtain ⟨t, o, h1, h2⟩ := g; exact ⟨t, o, h.trans h1, h2⟩
theorem Goes.out (X : Stand p l e R s m args below meth c T locs cells slots) {g : JFrame} {v : Option Value} (hlk : meth.locks = false) (hv : meth.sig.returnType = none → v = none)
    (hs : ∀ fs : List Frame, (∀ (f : JFrame) (acts : List Action), f.method = m → f.locked = none → f.entered = [] → (doReturn e (T.setTop f) acts v).1 = T.setFrames fs) → Steps p.tables e below (T.setTop g) (T.setFrames fs))
    (hq : Q v T.heap locs) (hk : cells ≤ kc) (hn : slots ≤ kn) : Goes p e below s kc kn Q (T.setTop g) := by
  obtain ⟨fs, hr, hrun, hended, hW, hsame⟩ := X.leave (v := v) hv hlk
  exact ⟨_, _, hs fs hr, hrun, hended, v, locs, rfl, hq, ⟨_, rfl⟩, hW, hsame.mono hk hn⟩
theorem Goes.retI (X : Stand p l e R s m args below meth c T locs cells slots) (hx : p.tables.exec = Jvm.exec) (hlk : meth.locks = false) {pc : Nat} {Ls : Array Slot} {z : Int32} {rest : List Value} (hret : meth.sig.returnType = some .int) (hd : decode c.code pc = .ok (.ireturn, 1))
    (hq : Q (some (.int z)) T.heap locs) (hk : cells ≤ kc) (hn : slots ≤ kn) : Goes p e below s kc kn Q (T.setTop (mkF m pc Ls (.int z :: rest))) :=
  Goes.out X hlk (fun h => by rw [hret] at h; cases h) (fun fs hr => Jvm.RoadKit.retI X hx hret hd hr) hq hk hn
theorem Goes.retN (X : Stand p l e R s m args below meth c T locs cells slots) (hx : p.tables.exec = Jvm.exec) (hlk : meth.locks = false) {pc : Nat} {Ls : Array Slot} {z : Int32} {t : FieldType} {rest : List Value} (hret : meth.sig.returnType = some t) (ht : t = .boolean ∨ t = .byte ∨ t = .char ∨ t = .short) (hd : decode c.code pc = .ok (.ireturn, 1))
    (hq : Q (some (.int (nar t z))) T.heap locs) (hk : cells ≤ kc) (hn : slots ≤ kn) : Goes p e below s kc kn Q (T.setTop (mkF m pc Ls (.int z :: rest))) :=
  Goes.out X hlk (fun h => by rw [hret] at h; cases h) (fun fs hr => Jvm.RoadKit.retN X hx hret ht hd hr) hq hk hn
theorem Goes.retJ (X : Stand p l e R s m args below meth c T locs cells slots) (hx : p.tables.exec = Jvm.exec) (hlk : meth.locks = false) {pc : Nat} {Ls : Array Slot} {z : Int64} {rest : List Value} (hret : meth.sig.returnType = some .long) (hd : decode c.code pc = .ok (.lreturn, 1))
    (hq : Q (some (.long z)) T.heap locs) (hk : cells ≤ kc) (hn : slots ≤ kn) : Goes p e below s kc kn Q (T.setTop (mkF m pc Ls (.long z :: rest))) :=
  Goes.out X hlk (fun h => by rw [hret] at h; cases h) (fun fs hr => retOut X hx hret rfl (Or.inr (Or.inl ⟨rfl, rfl, z, rfl⟩)) hd hr) hq hk hn
theorem Goes.retR (X : Stand p l e R s m args below meth c T locs cells slots) (hx : p.tables.exec = Jvm.exec) (hlk : meth.locks = false) {pc : Nat} {Ls : Array Slot} {w : Value} {t : FieldType} {rest : List Value} (hret : meth.sig.returnType = some t) (ht : t.isReference = true) (hw : w.isRef = true) (hn' : narrow t w = w) (hd : decode c.code pc = .ok (.areturn, 1))
    (hq : Q (some w) T.heap locs) (hk : cells ≤ kc) (hn : slots ≤ kn) : Goes p e below s kc kn Q (T.setTop (mkF m pc Ls (w :: rest))) :=
  Goes.out X hlk (fun h => by rw [hret] at h; cases h) (fun fs hr => retOut X hx hret hn' (Or.inr (Or.inr (Or.inr (Or.inr ⟨rfl, ht, hw⟩)))) hd hr) hq hk hn
theorem Goes.retV (X : Stand p l e R s m args below meth c T locs cells slots) (hx : p.tables.exec = Jvm.exec) (hlk : meth.locks = false) {pc : Nat} {Ls : Array Slot} (hret : meth.sig.returnType = none) (hd : decode c.code pc = .ok (.return_, 1))
    (hq : Q none T.heap locs) (hk : cells ≤ kc) (hn : slots ≤ kn) : Goes p e below s kc kn Q (T.setTop (mkF m pc Ls [])) :=
  Goes.out X hlk (fun _ => rfl) (fun fs hr => X.returnOut hx hret hd hr) hq hk hn
theorem Goes.enter {s₁ : State} {maxL : Nat} {g : JFrame} (h : entryFrame m args maxL = g) (k : Goes p e below s kc kn Q (s₁.setTop g)) :
    ∃ t o, Steps p.tables e below (s₁.setTop (entryFrame m args maxL)) t ∧ t.status = .running ∧ Ended t below o ∧ ∃ v L, o = .returned v ∧ Q v t.heap L ∧ FrameEnd s o t L kc kn := by rw [h]; exact k
theorem nm0 {b : Addr} : b ∉ ([] : List Addr) := List.not_mem_nil
theorem nm1 {b a : Addr} (h : b ≠ a) : b ∉ [a] := fun q => h (List.mem_singleton.mp q)
theorem nm2 {b a a' : Addr} (h : b ≠ a) (h' : b ≠ a') : b ∉ [a, a'] := fun q => (List.mem_cons.mp q).elim h (fun q => h' (List.mem_singleton.mp q))
theorem nm3 {b a a' a'' : Addr} (h : b ≠ a) (h' : b ≠ a') (h'' : b ≠ a'') : b ∉ [a, a', a''] := fun q => (List.mem_cons.mp q).elim h (fun q => nm2 h' h'' q)
theorem Sta.keepN {Z : State} {h h' : Heap} {C n d : String} {v : Value} {ws : List Addr} (F : Sta Z h C n d v) (K : Keep h h' ws) (hn : ∀ a ∈ ws, ∀ cell : Cell, h[a]? = some cell → cell.vm.isStatics = false) : Sta Z h' C n d v := by
  obtain ⟨cf, i, k, f, st, cell, h1, h2, h3, h4, h5, h6, r⟩ := F
  exact ⟨cf, i, k, f, st, cell, h1, h2, h3, h4, K.2.1 st cell h5 (fun q => by have := hn st q cell h5; rw [h6] at this; cases this), h6, r⟩
theorem Exa.plainN {Z : State} {h : Heap} {a : Addr} {C : String} (E : Exa Z h a C) : ∀ cell : Cell, h[a]? = some cell → cell.vm.isStatics = false := fun cell q => by
  obtain ⟨c, k, h1, h2, h3, h4, h5⟩ := E; cases h1.symm.trans q; exact h4
theorem Arv.plainN {Z : State} {h : Heap} {a : Addr} {k : ClassId} {ty : FieldType} {z : Int32} {vs : List Value} {d : Value} (A : Arv Z h a k ty z vs d) : ∀ cell : Cell, h[a]? = some cell → cell.vm.isStatics = false := fun cell q => by
  obtain ⟨c, A, r⟩ := A; cases A.1.symm.trans q; exact A.plain
end Own
end Jvm.RoadKit
namespace Jvm.Pilot.@@N@@
open Jvm Jvm.ClassFile Sem Op Lib Jvm.Free Jvm.Stand Jvm.LawKit Jvm.RoadKit Bundle Jvm.Pilot.@@N@@.Jvm.D
theorem d_prog_17_method_10_code_0 : decode prog_17_method_10_code 0 = .ok (.iload_n 0, 1) := by decide +kernel
theorem d_prog_17_method_10_code_1 : decode prog_17_method_10_code 1 = .ok (.bipush 48, 2) := by decide +kernel
theorem d_prog_17_method_10_code_3 : decode prog_17_method_10_code 3 = .ok (.if_icmp .lt 9, 3) := by decide +kernel
theorem d_prog_17_method_10_code_12 : decode prog_17_method_10_code 12 = .ok (.iload_n 0, 1) := by decide +kernel
theorem d_prog_17_method_10_code_13 : decode prog_17_method_10_code 13 = .ok (.bipush 65, 2) := by decide +kernel
theorem d_prog_17_method_10_code_15 : decode prog_17_method_10_code 15 = .ok (.if_icmp .lt 9, 3) := by decide +kernel
theorem d_prog_17_method_10_code_24 : decode prog_17_method_10_code 24 = .ok (.iload_n 0, 1) := by decide +kernel
theorem d_prog_17_method_10_code_25 : decode prog_17_method_10_code 25 = .ok (.bipush 97, 2) := by decide +kernel
theorem d_prog_17_method_10_code_27 : decode prog_17_method_10_code 27 = .ok (.if_icmp .lt 13, 3) := by decide +kernel
theorem d_prog_17_method_10_code_40 : decode prog_17_method_10_code 40 = .ok (.iconst 0, 1) := by decide +kernel
theorem d_prog_17_method_10_code_41 : decode prog_17_method_10_code 41 = .ok (.ireturn, 1) := by decide +kernel
theorem d_prog_17_method_10_code_30 : decode prog_17_method_10_code 30 = .ok (.iload_n 0, 1) := by decide +kernel
theorem d_prog_17_method_10_code_31 : decode prog_17_method_10_code 31 = .ok (.bipush 102, 2) := by decide +kernel
theorem d_prog_17_method_10_code_33 : decode prog_17_method_10_code 33 = .ok (.if_icmp .gt 7, 3) := by decide +kernel
theorem d_prog_17_method_10_code_36 : decode prog_17_method_10_code 36 = .ok (.iconst 1, 1) := by decide +kernel
theorem d_prog_17_method_10_code_37 : decode prog_17_method_10_code 37 = .ok (.goto 4, 3) := by decide +kernel
theorem d_prog_17_method_10_code_18 : decode prog_17_method_10_code 18 = .ok (.iload_n 0, 1) := by decide +kernel
theorem d_prog_17_method_10_code_19 : decode prog_17_method_10_code 19 = .ok (.bipush 70, 2) := by decide +kernel
theorem d_prog_17_method_10_code_21 : decode prog_17_method_10_code 21 = .ok (.if_icmp .le 15, 3) := by decide +kernel
theorem d_prog_17_method_10_code_6 : decode prog_17_method_10_code 6 = .ok (.iload_n 0, 1) := by decide +kernel
theorem d_prog_17_method_10_code_7 : decode prog_17_method_10_code 7 = .ok (.bipush 57, 2) := by decide +kernel
theorem d_prog_17_method_10_code_9 : decode prog_17_method_10_code 9 = .ok (.if_icmp .le 27, 3) := by decide +kernel
def own_hex_fn (u0 : Int32) : Int32 := (if u0 < (48 : Int32) then (if u0 < (65 : Int32) then (if u0 < (97 : Int32) then (0 : Int32) else (if (102 : Int32) < u0 then (0 : Int32) else (1 : Int32))) else (if (70 : Int32) < u0 then (if u0 < (97 : Int32) then (0 : Int32) else (if (102 : Int32) < u0 then (0 : Int32) else (1 : Int32))) else (1 : Int32))) else (if (57 : Int32) < u0 then (if u0 < (65 : Int32) then (if u0 < (97 : Int32) then (0 : Int32) else (if (102 : Int32) < u0 then (0 : Int32) else (1 : Int32))) else (if (70 : Int32) < u0 then (if u0 < (97 : Int32) then (0 : Int32) else (if (102 : Int32) < u0 then (0 : Int32) else (1 : Int32))) else (1 : Int32))) else (1 : Int32)))
def own_hex_Q (Z : State) (u0 : Int32)  (h0 : Heap) (n0 : Nat) (v : Option Value) (h : Heap) (L : List Loc) : Prop := v = some (.int (own_hex_fn u0)) ∧ Fr n0 L ∧ h = h0
theorem own_hex_ef (m : MethodId) (u0 : Int32) : entryFrame m #[(.int u0)] 1 = mkF m 0 #[.val (.int u0)] [] := by first | (simp [entryFrame, mkF, argsToLocals, Value.category]; done) | rfl
theorem pn_PercentEncoding : plainName "com/example/pages_for_crawlers/pagesforcrawlers/PercentEncoding" = true := by first | (simp [plainName, overriddenIn]; done) | decide +kernel
set_option maxRecDepth 65536 in
set_option maxHeartbeats 40000000 in
theorem own_hex_rm (l : Launch) (Z : State) (a0 : Array Value) (hw : ∀ d ∈ tables_1, d.before a0 Z = true) (ws : List Jvm.Cond) (u0 : Int32)  (h0 : Heap) (n0 : Nat) (Z0 : n0 ≤ h0.size)  :
    MetFree l (⟨"com/example/pages_for_crawlers/pagesforcrawlers/PercentEncoding", "isHexDigit", "(C)Z"⟩ : MethodName) (head1 (Jvm.Cond.code (⟨"com/example/pages_for_crawlers/pagesforcrawlers/PercentEncoding", "isHexDigit", "(C)Z"⟩ : MethodName) prog_17_method_10_code 1 (some .boolean) :: ws) ({ frames := 0, cells := 0, slots := 0, locals := 0 } : Room)) (fun a U => a = #[(.int u0)] ∧ Z.Warmed39 U.vm ∧ U.heap = h0) (fun _ _ _ _ _ => True) (fun _ U o U' => ∃ v L, o = .returned v ∧ own_hex_Q Z u0 h0 n0 v U'.heap L ∧ FrameEnd U o U' L ({ frames := 0, cells := 0, slots := 0, locals := 0 } : Room).cells ({ frames := 0, cells := 0, slots := 0, locals := 0 } : Room).slots) := by
  refine MetFree.of_bodySF (plainFor_of_name pn_PercentEncoding) hisR ?_
  intro p e s m args below meth c s₁ Bd hml0 hP hK
  obtain ⟨rfl, hZ, hh⟩ := hP
  have hx := Bd.exec
  have hby := Bd.bytes
  have hml : c.maxLocals = 1 := hml0
  have hown : s.vm.findClass "com/example/pages_for_crawlers/pagesforcrawlers/PercentEncoding" = some m.cls := findClass_of_methodNamed Bd.named
  have hnm := (name_of_methodNamed Bd.named Bd.method).1
  have hlk : meth.locks = false := BodyLoose.notSynchronized Bd
  have hrt := Bd.returns
  have X0 : Stand p l e ({ frames := 0, cells := 0, slots := 0, locals := 0 } : Room) s m #[(.int u0)] below meth c s₁ [] 0 0 := Stand.of_body Bd
  have e0 : s₁.heap = h0 := by rw [← hh, Bd.state]; rfl
  have N0 := Fr.nil n0
  refine Goes.enter (kc := ({ frames := 0, cells := 0, slots := 0, locals := 0 } : Room).cells) (kn := ({ frames := 0, cells := 0, slots := 0, locals := 0 } : Room).slots) (Q := own_hex_Q Z u0 h0 n0) (own_hex_ef m u0) ?_
  refine Goes.step (B := (s₁.setTop (mkF m 1 #[.val (.int u0)] [(.int u0)]))) (fun _ k => XS.iloadN X0.here hx rfl (hb hby d_prog_17_method_10_code_0) rfl k) ?_
  refine Goes.step (B := (s₁.setTop (mkF m 3 #[.val (.int u0)] [(.int (48 : Int32)), (.int u0)]))) (fun _ k => XS.bipush X0.here hx rfl (hb hby d_prog_17_method_10_code_1) k) ?_
  by_cases hc101 : u0 < (48 : Int32)
  · refine Goes.step (B := (s₁.setTop (mkF m 12 #[.val (.int u0)] []))) (fun _ k => XS.icmpYes X0.here hx rfl (pc0 := 3) (pc' := 12) rfl (hb hby d_prog_17_method_10_code_3) rfl (tlt hc101).1 (by decide) (by decide) k) ?_
    refine Goes.step (B := (s₁.setTop (mkF m 13 #[.val (.int u0)] [(.int u0)]))) (fun _ k => XS.iloadN X0.here hx rfl (hb hby d_prog_17_method_10_code_12) rfl k) ?_
    refine Goes.step (B := (s₁.setTop (mkF m 15 #[.val (.int u0)] [(.int (65 : Int32)), (.int u0)]))) (fun _ k => XS.bipush X0.here hx rfl (hb hby d_prog_17_method_10_code_13) k) ?_
    by_cases hc102 : u0 < (65 : Int32)
    · refine Goes.step (B := (s₁.setTop (mkF m 24 #[.val (.int u0)] []))) (fun _ k => XS.icmpYes X0.here hx rfl (pc0 := 15) (pc' := 24) rfl (hb hby d_prog_17_method_10_code_15) rfl (tlt hc102).1 (by decide) (by decide) k) ?_
      refine Goes.step (B := (s₁.setTop (mkF m 25 #[.val (.int u0)] [(.int u0)]))) (fun _ k => XS.iloadN X0.here hx rfl (hb hby d_prog_17_method_10_code_24) rfl k) ?_
      refine Goes.step (B := (s₁.setTop (mkF m 27 #[.val (.int u0)] [(.int (97 : Int32)), (.int u0)]))) (fun _ k => XS.bipush X0.here hx rfl (hb hby d_prog_17_method_10_code_25) k) ?_
      by_cases hc103 : u0 < (97 : Int32)
      · refine Goes.step (B := (s₁.setTop (mkF m 40 #[.val (.int u0)] []))) (fun _ k => XS.icmpYes X0.here hx rfl (pc0 := 27) (pc' := 40) rfl (hb hby d_prog_17_method_10_code_27) rfl (tlt hc103).1 (by decide) (by decide) k) ?_
        refine Goes.step (B := (s₁.setTop (mkF m 41 #[.val (.int u0)] [(.int (0 : Int32))]))) (fun _ k => XS.iconst X0.here hx rfl (hb hby d_prog_17_method_10_code_40) k) ?_
        refine Goes.retN X0 hx hlk (t := .boolean) hrt (by simp) (hb hby d_prog_17_method_10_code_41) ?_ (by decide) (by decide)
        rw [e0]
        exact ⟨congrArg (fun z => some (Value.int z)) (show nar .boolean (0 : Int32) = (own_hex_fn u0) from (show nar .boolean (0 : Int32) = (0 : Int32) from rfl).trans (by simp only [own_hex_fn, if_pos hc101, if_pos hc102, if_pos hc103])), N0, rfl⟩
      · refine Goes.step (B := (s₁.setTop (mkF m 30 #[.val (.int u0)] []))) (fun _ k => XS.icmpNo X0.here hx rfl (hb hby d_prog_17_method_10_code_27) rfl (flt hc103).1 k) ?_
        refine Goes.step (B := (s₁.setTop (mkF m 31 #[.val (.int u0)] [(.int u0)]))) (fun _ k => XS.iloadN X0.here hx rfl (hb hby d_prog_17_method_10_code_30) rfl k) ?_
        refine Goes.step (B := (s₁.setTop (mkF m 33 #[.val (.int u0)] [(.int (102 : Int32)), (.int u0)]))) (fun _ k => XS.bipush X0.here hx rfl (hb hby d_prog_17_method_10_code_31) k) ?_
        by_cases hc104 : (102 : Int32) < u0
        · refine Goes.step (B := (s₁.setTop (mkF m 40 #[.val (.int u0)] []))) (fun _ k => XS.icmpYes X0.here hx rfl (pc0 := 33) (pc' := 40) rfl (hb hby d_prog_17_method_10_code_33) rfl (tlt hc104).2.2.1 (by decide) (by decide) k) ?_
          refine Goes.step (B := (s₁.setTop (mkF m 41 #[.val (.int u0)] [(.int (0 : Int32))]))) (fun _ k => XS.iconst X0.here hx rfl (hb hby d_prog_17_method_10_code_40) k) ?_
          refine Goes.retN X0 hx hlk (t := .boolean) hrt (by simp) (hb hby d_prog_17_method_10_code_41) ?_ (by decide) (by decide)
          rw [e0]
          exact ⟨congrArg (fun z => some (Value.int z)) (show nar .boolean (0 : Int32) = (own_hex_fn u0) from (show nar .boolean (0 : Int32) = (0 : Int32) from rfl).trans (by simp only [own_hex_fn, if_pos hc101, if_pos hc102, if_neg hc103, if_pos hc104])), N0, rfl⟩
        · refine Goes.step (B := (s₁.setTop (mkF m 36 #[.val (.int u0)] []))) (fun _ k => XS.icmpNo X0.here hx rfl (hb hby d_prog_17_method_10_code_33) rfl (flt hc104).2.2.1 k) ?_
          refine Goes.step (B := (s₁.setTop (mkF m 37 #[.val (.int u0)] [(.int (1 : Int32))]))) (fun _ k => XS.iconst X0.here hx rfl (hb hby d_prog_17_method_10_code_36) k) ?_
          refine Goes.step (B := (s₁.setTop (mkF m 41 #[.val (.int u0)] [(.int (1 : Int32))]))) (fun _ k => XS.goto X0.here hx rfl (pc0 := 37) (pc' := 41) rfl (hb hby d_prog_17_method_10_code_37) (by decide) (by decide) k) ?_
          refine Goes.retN X0 hx hlk (t := .boolean) hrt (by simp) (hb hby d_prog_17_method_10_code_41) ?_ (by decide) (by decide)
          rw [e0]
          exact ⟨congrArg (fun z => some (Value.int z)) (show nar .boolean (1 : Int32) = (own_hex_fn u0) from (show nar .boolean (1 : Int32) = (1 : Int32) from rfl).trans (by simp only [own_hex_fn, if_pos hc101, if_pos hc102, if_neg hc103, if_neg hc104])), N0, rfl⟩
    · refine Goes.step (B := (s₁.setTop (mkF m 18 #[.val (.int u0)] []))) (fun _ k => XS.icmpNo X0.here hx rfl (hb hby d_prog_17_method_10_code_15) rfl (flt hc102).1 k) ?_
      refine Goes.step (B := (s₁.setTop (mkF m 19 #[.val (.int u0)] [(.int u0)]))) (fun _ k => XS.iloadN X0.here hx rfl (hb hby d_prog_17_method_10_code_18) rfl k) ?_
      refine Goes.step (B := (s₁.setTop (mkF m 21 #[.val (.int u0)] [(.int (70 : Int32)), (.int u0)]))) (fun _ k => XS.bipush X0.here hx rfl (hb hby d_prog_17_method_10_code_19) k) ?_
      by_cases hc105 : (70 : Int32) < u0
      · refine Goes.step (B := (s₁.setTop (mkF m 24 #[.val (.int u0)] []))) (fun _ k => XS.icmpNo X0.here hx rfl (hb hby d_prog_17_method_10_code_21) rfl (tlt hc105).2.2.2 k) ?_
        refine Goes.step (B := (s₁.setTop (mkF m 25 #[.val (.int u0)] [(.int u0)]))) (fun _ k => XS.iloadN X0.here hx rfl (hb hby d_prog_17_method_10_code_24) rfl k) ?_
        refine Goes.step (B := (s₁.setTop (mkF m 27 #[.val (.int u0)] [(.int (97 : Int32)), (.int u0)]))) (fun _ k => XS.bipush X0.here hx rfl (hb hby d_prog_17_method_10_code_25) k) ?_
        by_cases hc106 : u0 < (97 : Int32)
        · refine Goes.step (B := (s₁.setTop (mkF m 40 #[.val (.int u0)] []))) (fun _ k => XS.icmpYes X0.here hx rfl (pc0 := 27) (pc' := 40) rfl (hb hby d_prog_17_method_10_code_27) rfl (tlt hc106).1 (by decide) (by decide) k) ?_
          refine Goes.step (B := (s₁.setTop (mkF m 41 #[.val (.int u0)] [(.int (0 : Int32))]))) (fun _ k => XS.iconst X0.here hx rfl (hb hby d_prog_17_method_10_code_40) k) ?_
          refine Goes.retN X0 hx hlk (t := .boolean) hrt (by simp) (hb hby d_prog_17_method_10_code_41) ?_ (by decide) (by decide)
          rw [e0]
          exact ⟨congrArg (fun z => some (Value.int z)) (show nar .boolean (0 : Int32) = (own_hex_fn u0) from (show nar .boolean (0 : Int32) = (0 : Int32) from rfl).trans (by simp only [own_hex_fn, if_pos hc101, if_neg hc102, if_pos hc105, if_pos hc106])), N0, rfl⟩
        · refine Goes.step (B := (s₁.setTop (mkF m 30 #[.val (.int u0)] []))) (fun _ k => XS.icmpNo X0.here hx rfl (hb hby d_prog_17_method_10_code_27) rfl (flt hc106).1 k) ?_
          refine Goes.step (B := (s₁.setTop (mkF m 31 #[.val (.int u0)] [(.int u0)]))) (fun _ k => XS.iloadN X0.here hx rfl (hb hby d_prog_17_method_10_code_30) rfl k) ?_
          refine Goes.step (B := (s₁.setTop (mkF m 33 #[.val (.int u0)] [(.int (102 : Int32)), (.int u0)]))) (fun _ k => XS.bipush X0.here hx rfl (hb hby d_prog_17_method_10_code_31) k) ?_
          by_cases hc107 : (102 : Int32) < u0
          · refine Goes.step (B := (s₁.setTop (mkF m 40 #[.val (.int u0)] []))) (fun _ k => XS.icmpYes X0.here hx rfl (pc0 := 33) (pc' := 40) rfl (hb hby d_prog_17_method_10_code_33) rfl (tlt hc107).2.2.1 (by decide) (by decide) k) ?_
            refine Goes.step (B := (s₁.setTop (mkF m 41 #[.val (.int u0)] [(.int (0 : Int32))]))) (fun _ k => XS.iconst X0.here hx rfl (hb hby d_prog_17_method_10_code_40) k) ?_
            refine Goes.retN X0 hx hlk (t := .boolean) hrt (by simp) (hb hby d_prog_17_method_10_code_41) ?_ (by decide) (by decide)
            rw [e0]
            exact ⟨congrArg (fun z => some (Value.int z)) (show nar .boolean (0 : Int32) = (own_hex_fn u0) from (show nar .boolean (0 : Int32) = (0 : Int32) from rfl).trans (by simp only [own_hex_fn, if_pos hc101, if_neg hc102, if_pos hc105, if_neg hc106, if_pos hc107])), N0, rfl⟩
          · refine Goes.step (B := (s₁.setTop (mkF m 36 #[.val (.int u0)] []))) (fun _ k => XS.icmpNo X0.here hx rfl (hb hby d_prog_17_method_10_code_33) rfl (flt hc107).2.2.1 k) ?_
            refine Goes.step (B := (s₁.setTop (mkF m 37 #[.val (.int u0)] [(.int (1 : Int32))]))) (fun _ k => XS.iconst X0.here hx rfl (hb hby d_prog_17_method_10_code_36) k) ?_
            refine Goes.step (B := (s₁.setTop (mkF m 41 #[.val (.int u0)] [(.int (1 : Int32))]))) (fun _ k => XS.goto X0.here hx rfl (pc0 := 37) (pc' := 41) rfl (hb hby d_prog_17_method_10_code_37) (by decide) (by decide) k) ?_
            refine Goes.retN X0 hx hlk (t := .boolean) hrt (by simp) (hb hby d_prog_17_method_10_code_41) ?_ (by decide) (by decide)
            rw [e0]
            exact ⟨congrArg (fun z => some (Value.int z)) (show nar .boolean (1 : Int32) = (own_hex_fn u0) from (show nar .boolean (1 : Int32) = (1 : Int32) from rfl).trans (by simp only [own_hex_fn, if_pos hc101, if_neg hc102, if_pos hc105, if_neg hc106, if_neg hc107])), N0, rfl⟩
      · refine Goes.step (B := (s₁.setTop (mkF m 36 #[.val (.int u0)] []))) (fun _ k => XS.icmpYes X0.here hx rfl (pc0 := 21) (pc' := 36) rfl (hb hby d_prog_17_method_10_code_21) rfl (flt hc105).2.2.2 (by decide) (by decide) k) ?_
        refine Goes.step (B := (s₁.setTop (mkF m 37 #[.val (.int u0)] [(.int (1 : Int32))]))) (fun _ k => XS.iconst X0.here hx rfl (hb hby d_prog_17_method_10_code_36) k) ?_
        refine Goes.step (B := (s₁.setTop (mkF m 41 #[.val (.int u0)] [(.int (1 : Int32))]))) (fun _ k => XS.goto X0.here hx rfl (pc0 := 37) (pc' := 41) rfl (hb hby d_prog_17_method_10_code_37) (by decide) (by decide) k) ?_
        refine Goes.retN X0 hx hlk (t := .boolean) hrt (by simp) (hb hby d_prog_17_method_10_code_41) ?_ (by decide) (by decide)
        rw [e0]
        exact ⟨congrArg (fun z => some (Value.int z)) (show nar .boolean (1 : Int32) = (own_hex_fn u0) from (show nar .boolean (1 : Int32) = (1 : Int32) from rfl).trans (by simp only [own_hex_fn, if_pos hc101, if_neg hc102, if_neg hc105])), N0, rfl⟩
  · refine Goes.step (B := (s₁.setTop (mkF m 6 #[.val (.int u0)] []))) (fun _ k => XS.icmpNo X0.here hx rfl (hb hby d_prog_17_method_10_code_3) rfl (flt hc101).1 k) ?_
    refine Goes.step (B := (s₁.setTop (mkF m 7 #[.val (.int u0)] [(.int u0)]))) (fun _ k => XS.iloadN X0.here hx rfl (hb hby d_prog_17_method_10_code_6) rfl k) ?_
    refine Goes.step (B := (s₁.setTop (mkF m 9 #[.val (.int u0)] [(.int (57 : Int32)), (.int u0)]))) (fun _ k => XS.bipush X0.here hx rfl (hb hby d_prog_17_method_10_code_7) k) ?_
    by_cases hc108 : (57 : Int32) < u0
    · refine Goes.step (B := (s₁.setTop (mkF m 12 #[.val (.int u0)] []))) (fun _ k => XS.icmpNo X0.here hx rfl (hb hby d_prog_17_method_10_code_9) rfl (tlt hc108).2.2.2 k) ?_
      refine Goes.step (B := (s₁.setTop (mkF m 13 #[.val (.int u0)] [(.int u0)]))) (fun _ k => XS.iloadN X0.here hx rfl (hb hby d_prog_17_method_10_code_12) rfl k) ?_
      refine Goes.step (B := (s₁.setTop (mkF m 15 #[.val (.int u0)] [(.int (65 : Int32)), (.int u0)]))) (fun _ k => XS.bipush X0.here hx rfl (hb hby d_prog_17_method_10_code_13) k) ?_
      by_cases hc109 : u0 < (65 : Int32)
      · refine Goes.step (B := (s₁.setTop (mkF m 24 #[.val (.int u0)] []))) (fun _ k => XS.icmpYes X0.here hx rfl (pc0 := 15) (pc' := 24) rfl (hb hby d_prog_17_method_10_code_15) rfl (tlt hc109).1 (by decide) (by decide) k) ?_
        refine Goes.step (B := (s₁.setTop (mkF m 25 #[.val (.int u0)] [(.int u0)]))) (fun _ k => XS.iloadN X0.here hx rfl (hb hby d_prog_17_method_10_code_24) rfl k) ?_
        refine Goes.step (B := (s₁.setTop (mkF m 27 #[.val (.int u0)] [(.int (97 : Int32)), (.int u0)]))) (fun _ k => XS.bipush X0.here hx rfl (hb hby d_prog_17_method_10_code_25) k) ?_
        by_cases hc110 : u0 < (97 : Int32)
        · refine Goes.step (B := (s₁.setTop (mkF m 40 #[.val (.int u0)] []))) (fun _ k => XS.icmpYes X0.here hx rfl (pc0 := 27) (pc' := 40) rfl (hb hby d_prog_17_method_10_code_27) rfl (tlt hc110).1 (by decide) (by decide) k) ?_
          refine Goes.step (B := (s₁.setTop (mkF m 41 #[.val (.int u0)] [(.int (0 : Int32))]))) (fun _ k => XS.iconst X0.here hx rfl (hb hby d_prog_17_method_10_code_40) k) ?_
          refine Goes.retN X0 hx hlk (t := .boolean) hrt (by simp) (hb hby d_prog_17_method_10_code_41) ?_ (by decide) (by decide)
          rw [e0]
          exact ⟨congrArg (fun z => some (Value.int z)) (show nar .boolean (0 : Int32) = (own_hex_fn u0) from (show nar .boolean (0 : Int32) = (0 : Int32) from rfl).trans (by simp only [own_hex_fn, if_neg hc101, if_pos hc108, if_pos hc109, if_pos hc110])), N0, rfl⟩
        · refine Goes.step (B := (s₁.setTop (mkF m 30 #[.val (.int u0)] []))) (fun _ k => XS.icmpNo X0.here hx rfl (hb hby d_prog_17_method_10_code_27) rfl (flt hc110).1 k) ?_
          refine Goes.step (B := (s₁.setTop (mkF m 31 #[.val (.int u0)] [(.int u0)]))) (fun _ k => XS.iloadN X0.here hx rfl (hb hby d_prog_17_method_10_code_30) rfl k) ?_
          refine Goes.step (B := (s₁.setTop (mkF m 33 #[.val (.int u0)] [(.int (102 : Int32)), (.int u0)]))) (fun _ k => XS.bipush X0.here hx rfl (hb hby d_prog_17_method_10_code_31) k) ?_
          by_cases hc111 : (102 : Int32) < u0
          · refine Goes.step (B := (s₁.setTop (mkF m 40 #[.val (.int u0)] []))) (fun _ k => XS.icmpYes X0.here hx rfl (pc0 := 33) (pc' := 40) rfl (hb hby d_prog_17_method_10_code_33) rfl (tlt hc111).2.2.1 (by decide) (by decide) k) ?_
            refine Goes.step (B := (s₁.setTop (mkF m 41 #[.val (.int u0)] [(.int (0 : Int32))]))) (fun _ k => XS.iconst X0.here hx rfl (hb hby d_prog_17_method_10_code_40) k) ?_
            refine Goes.retN X0 hx hlk (t := .boolean) hrt (by simp) (hb hby d_prog_17_method_10_code_41) ?_ (by decide) (by decide)
            rw [e0]
            exact ⟨congrArg (fun z => some (Value.int z)) (show nar .boolean (0 : Int32) = (own_hex_fn u0) from (show nar .boolean (0 : Int32) = (0 : Int32) from rfl).trans (by simp only [own_hex_fn, if_neg hc101, if_pos hc108, if_pos hc109, if_neg hc110, if_pos hc111])), N0, rfl⟩
          · refine Goes.step (B := (s₁.setTop (mkF m 36 #[.val (.int u0)] []))) (fun _ k => XS.icmpNo X0.here hx rfl (hb hby d_prog_17_method_10_code_33) rfl (flt hc111).2.2.1 k) ?_
            refine Goes.step (B := (s₁.setTop (mkF m 37 #[.val (.int u0)] [(.int (1 : Int32))]))) (fun _ k => XS.iconst X0.here hx rfl (hb hby d_prog_17_method_10_code_36) k) ?_
            refine Goes.step (B := (s₁.setTop (mkF m 41 #[.val (.int u0)] [(.int (1 : Int32))]))) (fun _ k => XS.goto X0.here hx rfl (pc0 := 37) (pc' := 41) rfl (hb hby d_prog_17_method_10_code_37) (by decide) (by decide) k) ?_
            refine Goes.retN X0 hx hlk (t := .boolean) hrt (by simp) (hb hby d_prog_17_method_10_code_41) ?_ (by decide) (by decide)
            rw [e0]
            exact ⟨congrArg (fun z => some (Value.int z)) (show nar .boolean (1 : Int32) = (own_hex_fn u0) from (show nar .boolean (1 : Int32) = (1 : Int32) from rfl).trans (by simp only [own_hex_fn, if_neg hc101, if_pos hc108, if_pos hc109, if_neg hc110, if_neg hc111])), N0, rfl⟩
      · refine Goes.step (B := (s₁.setTop (mkF m 18 #[.val (.int u0)] []))) (fun _ k => XS.icmpNo X0.here hx rfl (hb hby d_prog_17_method_10_code_15) rfl (flt hc109).1 k) ?_
        refine Goes.step (B := (s₁.setTop (mkF m 19 #[.val (.int u0)] [(.int u0)]))) (fun _ k => XS.iloadN X0.here hx rfl (hb hby d_prog_17_method_10_code_18) rfl k) ?_
        refine Goes.step (B := (s₁.setTop (mkF m 21 #[.val (.int u0)] [(.int (70 : Int32)), (.int u0)]))) (fun _ k => XS.bipush X0.here hx rfl (hb hby d_prog_17_method_10_code_19) k) ?_
        by_cases hc112 : (70 : Int32) < u0
        · refine Goes.step (B := (s₁.setTop (mkF m 24 #[.val (.int u0)] []))) (fun _ k => XS.icmpNo X0.here hx rfl (hb hby d_prog_17_method_10_code_21) rfl (tlt hc112).2.2.2 k) ?_
          refine Goes.step (B := (s₁.setTop (mkF m 25 #[.val (.int u0)] [(.int u0)]))) (fun _ k => XS.iloadN X0.here hx rfl (hb hby d_prog_17_method_10_code_24) rfl k) ?_
          refine Goes.step (B := (s₁.setTop (mkF m 27 #[.val (.int u0)] [(.int (97 : Int32)), (.int u0)]))) (fun _ k => XS.bipush X0.here hx rfl (hb hby d_prog_17_method_10_code_25) k) ?_
          by_cases hc113 : u0 < (97 : Int32)
          · refine Goes.step (B := (s₁.setTop (mkF m 40 #[.val (.int u0)] []))) (fun _ k => XS.icmpYes X0.here hx rfl (pc0 := 27) (pc' := 40) rfl (hb hby d_prog_17_method_10_code_27) rfl (tlt hc113).1 (by decide) (by decide) k) ?_
            refine Goes.step (B := (s₁.setTop (mkF m 41 #[.val (.int u0)] [(.int (0 : Int32))]))) (fun _ k => XS.iconst X0.here hx rfl (hb hby d_prog_17_method_10_code_40) k) ?_
            refine Goes.retN X0 hx hlk (t := .boolean) hrt (by simp) (hb hby d_prog_17_method_10_code_41) ?_ (by decide) (by decide)
            rw [e0]
            exact ⟨congrArg (fun z => some (Value.int z)) (show nar .boolean (0 : Int32) = (own_hex_fn u0) from (show nar .boolean (0 : Int32) = (0 : Int32) from rfl).trans (by simp only [own_hex_fn, if_neg hc101, if_pos hc108, if_neg hc109, if_pos hc112, if_pos hc113])), N0, rfl⟩
          · refine Goes.step (B := (s₁.setTop (mkF m 30 #[.val (.int u0)] []))) (fun _ k => XS.icmpNo X0.here hx rfl (hb hby d_prog_17_method_10_code_27) rfl (flt hc113).1 k) ?_
            refine Goes.step (B := (s₁.setTop (mkF m 31 #[.val (.int u0)] [(.int u0)]))) (fun _ k => XS.iloadN X0.here hx rfl (hb hby d_prog_17_method_10_code_30) rfl k) ?_
            refine Goes.step (B := (s₁.setTop (mkF m 33 #[.val (.int u0)] [(.int (102 : Int32)), (.int u0)]))) (fun _ k => XS.bipush X0.here hx rfl (hb hby d_prog_17_method_10_code_31) k) ?_
            by_cases hc114 : (102 : Int32) < u0
            · refine Goes.step (B := (s₁.setTop (mkF m 40 #[.val (.int u0)] []))) (fun _ k => XS.icmpYes X0.here hx rfl (pc0 := 33) (pc' := 40) rfl (hb hby d_prog_17_method_10_code_33) rfl (tlt hc114).2.2.1 (by decide) (by decide) k) ?_
              refine Goes.step (B := (s₁.setTop (mkF m 41 #[.val (.int u0)] [(.int (0 : Int32))]))) (fun _ k => XS.iconst X0.here hx rfl (hb hby d_prog_17_method_10_code_40) k) ?_
              refine Goes.retN X0 hx hlk (t := .boolean) hrt (by simp) (hb hby d_prog_17_method_10_code_41) ?_ (by decide) (by decide)
              rw [e0]
              exact ⟨congrArg (fun z => some (Value.int z)) (show nar .boolean (0 : Int32) = (own_hex_fn u0) from (show nar .boolean (0 : Int32) = (0 : Int32) from rfl).trans (by simp only [own_hex_fn, if_neg hc101, if_pos hc108, if_neg hc109, if_pos hc112, if_neg hc113, if_pos hc114])), N0, rfl⟩
            · refine Goes.step (B := (s₁.setTop (mkF m 36 #[.val (.int u0)] []))) (fun _ k => XS.icmpNo X0.here hx rfl (hb hby d_prog_17_method_10_code_33) rfl (flt hc114).2.2.1 k) ?_
              refine Goes.step (B := (s₁.setTop (mkF m 37 #[.val (.int u0)] [(.int (1 : Int32))]))) (fun _ k => XS.iconst X0.here hx rfl (hb hby d_prog_17_method_10_code_36) k) ?_
              refine Goes.step (B := (s₁.setTop (mkF m 41 #[.val (.int u0)] [(.int (1 : Int32))]))) (fun _ k => XS.goto X0.here hx rfl (pc0 := 37) (pc' := 41) rfl (hb hby d_prog_17_method_10_code_37) (by decide) (by decide) k) ?_
              refine Goes.retN X0 hx hlk (t := .boolean) hrt (by simp) (hb hby d_prog_17_method_10_code_41) ?_ (by decide) (by decide)
              rw [e0]
              exact ⟨congrArg (fun z => some (Value.int z)) (show nar .boolean (1 : Int32) = (own_hex_fn u0) from (show nar .boolean (1 : Int32) = (1 : Int32) from rfl).trans (by simp only [own_hex_fn, if_neg hc101, if_pos hc108, if_neg hc109, if_pos hc112, if_neg hc113, if_neg hc114])), N0, rfl⟩
        · refine Goes.step (B := (s₁.setTop (mkF m 36 #[.val (.int u0)] []))) (fun _ k => XS.icmpYes X0.here hx rfl (pc0 := 21) (pc' := 36) rfl (hb hby d_prog_17_method_10_code_21) rfl (flt hc112).2.2.2 (by decide) (by decide) k) ?_
          refine Goes.step (B := (s₁.setTop (mkF m 37 #[.val (.int u0)] [(.int (1 : Int32))]))) (fun _ k => XS.iconst X0.here hx rfl (hb hby d_prog_17_method_10_code_36) k) ?_
          refine Goes.step (B := (s₁.setTop (mkF m 41 #[.val (.int u0)] [(.int (1 : Int32))]))) (fun _ k => XS.goto X0.here hx rfl (pc0 := 37) (pc' := 41) rfl (hb hby d_prog_17_method_10_code_37) (by decide) (by decide) k) ?_
          refine Goes.retN X0 hx hlk (t := .boolean) hrt (by simp) (hb hby d_prog_17_method_10_code_41) ?_ (by decide) (by decide)
          rw [e0]
          exact ⟨congrArg (fun z => some (Value.int z)) (show nar .boolean (1 : Int32) = (own_hex_fn u0) from (show nar .boolean (1 : Int32) = (1 : Int32) from rfl).trans (by simp only [own_hex_fn, if_neg hc101, if_pos hc108, if_neg hc109, if_neg hc112])), N0, rfl⟩
    · refine Goes.step (B := (s₁.setTop (mkF m 36 #[.val (.int u0)] []))) (fun _ k => XS.icmpYes X0.here hx rfl (pc0 := 9) (pc' := 36) rfl (hb hby d_prog_17_method_10_code_9) rfl (flt hc108).2.2.2 (by decide) (by decide) k) ?_
      refine Goes.step (B := (s₁.setTop (mkF m 37 #[.val (.int u0)] [(.int (1 : Int32))]))) (fun _ k => XS.iconst X0.here hx rfl (hb hby d_prog_17_method_10_code_36) k) ?_
      refine Goes.step (B := (s₁.setTop (mkF m 41 #[.val (.int u0)] [(.int (1 : Int32))]))) (fun _ k => XS.goto X0.here hx rfl (pc0 := 37) (pc' := 41) rfl (hb hby d_prog_17_method_10_code_37) (by decide) (by decide) k) ?_
      refine Goes.retN X0 hx hlk (t := .boolean) hrt (by simp) (hb hby d_prog_17_method_10_code_41) ?_ (by decide) (by decide)
      rw [e0]
      exact ⟨congrArg (fun z => some (Value.int z)) (show nar .boolean (1 : Int32) = (own_hex_fn u0) from (show nar .boolean (1 : Int32) = (1 : Int32) from rfl).trans (by simp only [own_hex_fn, if_neg hc101, if_neg hc108])), N0, rfl⟩
theorem pd__C_Z : parseMethodDescriptor "(C)Z" = some ⟨[.char], some .boolean⟩ := by decide +kernel
def own_c (x0 : Int32) : Int32 := x0.toUInt32.toUInt16.toUInt32.toInt32
def own_law_j9 (x0 : Int32) : Int32 := (if ((own_c x0) - (48 : Int32)) < (0 : Int32) then (0 : Int32) else (if ((own_c x0) - (48 : Int32)) < (10 : Int32) then (1 : Int32) else (0 : Int32)))
def own_law_j35 (x0 : Int32) : Int32 := (if (((own_c x0) ||| (32 : Int32)) - (97 : Int32)) < (0 : Int32) then (0 : Int32) else (if (((own_c x0) ||| (32 : Int32)) - (97 : Int32)) < (6 : Int32) then (1 : Int32) else (0 : Int32)))
def own_law_j57 (x0 : Int32) : Int32 := (if (own_law_j9 x0) = (0 : Int32) then (if (own_law_j35 x0) = (0 : Int32) then (0 : Int32) else (1 : Int32)) else (1 : Int32))
def own_law_fn (x0 : Int32) : Int32 := (if (own_hex_fn (own_c x0)) = (own_law_j57 x0) then (1 : Int32) else (0 : Int32))
def own_law_Q (Z : State) (x0 : Int32)  (h0 : Heap) (n0 : Nat) (v : Option Value) (h : Heap) (L : List Loc) : Prop := v = some (.int (own_law_fn x0)) ∧ Fr n0 L ∧ h = h0
theorem own_law_ef (m : MethodId) (x0 : Int32) : entryFrame m #[(.int x0)] maxLocals = mkF m 0 #[.val (.int x0), .unset, .unset, .unset, .unset, .unset] [] := by first | (simp [entryFrame, mkF, argsToLocals, Value.category, maxLocals]; done) | rfl
theorem pn_PercentEncodingIsHexDigitPinLaw : plainName "com/example/pages_for_crawlers/pagesforcrawlers/PercentEncodingIsHexDigitPinLaw" = true := by first | (simp [plainName, overriddenIn]; done) | decide +kernel
set_option maxRecDepth 65536 in
set_option maxHeartbeats 40000000 in
theorem own_law_rm (l : Launch) (Z : State) (a0 : Array Value) (hw : ∀ d ∈ tables_1, d.before a0 Z = true) (ws : List Jvm.Cond) (x0 : Int32)  (h0 : Heap) (n0 : Nat) (Z0 : n0 ≤ h0.size)  :
    MetFree l x (head1 (Jvm.Cond.code x code maxLocals ret :: ws) room_1) (fun a U => a = #[(.int x0)] ∧ Z.Warmed39 U.vm ∧ U.heap = h0) (fun _ _ _ _ _ => True) (fun _ U o U' => ∃ v L, o = .returned v ∧ own_law_Q Z x0 h0 n0 v U'.heap L ∧ FrameEnd U o U' L room_1.cells room_1.slots) := by
  refine MetFree.of_bodySF (plainFor_of_name pn_PercentEncodingIsHexDigitPinLaw) hisR ?_
  intro p e s m args below meth c s₁ Bd hml0 hP hK
  obtain ⟨rfl, hZ, hh⟩ := hP
  have hx := Bd.exec
  have hby := Bd.bytes
  have hml : c.maxLocals = 6 := hml0
  have hown : s.vm.findClass "com/example/pages_for_crawlers/pagesforcrawlers/PercentEncodingIsHexDigitPinLaw" = some m.cls := findClass_of_methodNamed Bd.named
  have hnm := (name_of_methodNamed Bd.named Bd.method).1
  have hlk : meth.locks = false := BodyLoose.notSynchronized Bd
  have hrt := Bd.returns
  have X0 : Stand p l e room_1 s m #[(.int x0)] below meth c s₁ [] 0 0 := Stand.of_body Bd
  have e0 : s₁.heap = h0 := by rw [← hh, Bd.state]; rfl
  have N0 := Fr.nil n0
  refine Goes.enter (kc := room_1.cells) (kn := room_1.slots) (Q := own_law_Q Z x0 h0 n0) (own_law_ef m x0) ?_
  refine Goes.step (B := (s₁.setTop (mkF m 1 #[.val (.int x0), .unset, .unset, .unset, .unset, .unset] [(.int x0)]))) (fun _ k => XS.iloadN X0.here hx rfl (hb hby at_0) rfl k) ?_
  refine Goes.step (B := (s₁.setTop (mkF m 2 #[.val (.int x0), .unset, .unset, .unset, .unset, .unset] [(.int x0.toUInt32.toUInt16.toUInt32.toInt32)]))) (fun _ k => XS.i2c X0.here hx rfl (hb hby at_1) rfl k) ?_
  refine Goes.step (B := (s₁.setTop (mkF m 3 #[.val (.int x0), .val (.int (own_c x0)), .unset, .unset, .unset, .unset] []))) (fun _ k => XS.istoreN X0.here hx rfl (hb hby at_2) rfl (l' := #[.val (.int x0), .val (.int (own_c x0)), .unset, .unset, .unset, .unset]) rfl k) ?_
  refine Goes.step (B := (s₁.setTop (mkF m 4 #[.val (.int x0), .val (.int (own_c x0)), .unset, .unset, .unset, .unset] [(.int (own_c x0))]))) (fun _ k => XS.iloadN X0.here hx rfl (hb hby at_3) rfl k) ?_
  refine Goes.step (B := (s₁.setTop (mkF m 6 #[.val (.int x0), .val (.int (own_c x0)), .unset, .unset, .unset, .unset] [(.int (48 : Int32)), (.int (own_c x0))]))) (fun _ k => XS.bipush X0.here hx rfl (hb hby at_4) k) ?_
  refine Goes.step (B := (s₁.setTop (mkF m 7 #[.val (.int x0), .val (.int (own_c x0)), .unset, .unset, .unset, .unset] [(.int ((own_c x0) - (48 : Int32)))]))) (fun _ k => XS.isub X0.here hx rfl (hb hby at_6) rfl k) ?_
  refine Goes.step (B := (s₁.setTop (mkF m 8 #[.val (.int x0), .val (.int (own_c x0)), .val (.int ((own_c x0) - (48 : Int32))), .unset, .unset, .unset] []))) (fun _ k => XS.istoreN X0.here hx rfl (hb hby at_7) rfl (l' := #[.val (.int x0), .val (.int (own_c x0)), .val (.int ((own_c x0) - (48 : Int32))), .unset, .unset, .unset]) rfl k) ?_
  refine Goes.step (B := (s₁.setTop (mkF m 9 #[.val (.int x0), .val (.int (own_c x0)), .val (.int ((own_c x0) - (48 : Int32))), .unset, .unset, .unset] [(.int ((own_c x0) - (48 : Int32)))]))) (fun _ k => XS.iloadN X0.here hx rfl (hb hby at_8) rfl k) ?_
  have J101 : Goes p e below s room_1.cells room_1.slots (own_law_Q Z x0 h0 n0) (s₁.setTop (mkF m 23 #[.val (.int x0), .val (.int (own_c x0)), .val (.int ((own_c x0) - (48 : Int32))), .unset, .unset, .unset] [(.int (own_law_j9 x0))])) := by
    refine Goes.step (B := (s₁.setTop (mkF m 24 #[.val (.int x0), .val (.int (own_c x0)), .val (.int ((own_c x0) - (48 : Int32))), .val (.int (own_law_j9 x0)), .unset, .unset] []))) (fun _ k => XS.istoreN X0.here hx rfl (hb hby at_23) rfl (l' := #[.val (.int x0), .val (.int (own_c x0)), .val (.int ((own_c x0) - (48 : Int32))), .val (.int (own_law_j9 x0)), .unset, .unset]) rfl k) ?_
    refine Goes.step (B := (s₁.setTop (mkF m 25 #[.val (.int x0), .val (.int (own_c x0)), .val (.int ((own_c x0) - (48 : Int32))), .val (.int (own_law_j9 x0)), .unset, .unset] [(.int (own_c x0))]))) (fun _ k => XS.iloadN X0.here hx rfl (hb hby at_24) rfl k) ?_
    refine Goes.step (B := (s₁.setTop (mkF m 27 #[.val (.int x0), .val (.int (own_c x0)), .val (.int ((own_c x0) - (48 : Int32))), .val (.int (own_law_j9 x0)), .unset, .unset] [(.int (32 : Int32)), (.int (own_c x0))]))) (fun _ k => XS.bipush X0.here hx rfl (hb hby at_25) k) ?_
    refine Goes.step (B := (s₁.setTop (mkF m 28 #[.val (.int x0), .val (.int (own_c x0)), .val (.int ((own_c x0) - (48 : Int32))), .val (.int (own_law_j9 x0)), .unset, .unset] [(.int ((own_c x0) ||| (32 : Int32)))]))) (fun _ k => XS.ior X0.here hx rfl (hb hby at_27) rfl k) ?_
    refine Goes.step (B := (s₁.setTop (mkF m 30 #[.val (.int x0), .val (.int (own_c x0)), .val (.int ((own_c x0) - (48 : Int32))), .val (.int (own_law_j9 x0)), .unset, .unset] [(.int (97 : Int32)), (.int ((own_c x0) ||| (32 : Int32)))]))) (fun _ k => XS.bipush X0.here hx rfl (hb hby at_28) k) ?_
    refine Goes.step (B := (s₁.setTop (mkF m 31 #[.val (.int x0), .val (.int (own_c x0)), .val (.int ((own_c x0) - (48 : Int32))), .val (.int (own_law_j9 x0)), .unset, .unset] [(.int (((own_c x0) ||| (32 : Int32)) - (97 : Int32)))]))) (fun _ k => XS.isub X0.here hx rfl (hb hby at_30) rfl k) ?_
    refine Goes.step (B := (s₁.setTop (mkF m 33 #[.val (.int x0), .val (.int (own_c x0)), .val (.int ((own_c x0) - (48 : Int32))), .val (.int (own_law_j9 x0)), .val (.int (((own_c x0) ||| (32 : Int32)) - (97 : Int32))), .unset] []))) (fun _ k => XS.istore X0.here hx rfl (hb hby at_31) rfl (l' := #[.val (.int x0), .val (.int (own_c x0)), .val (.int ((own_c x0) - (48 : Int32))), .val (.int (own_law_j9 x0)), .val (.int (((own_c x0) ||| (32 : Int32)) - (97 : Int32))), .unset]) rfl k) ?_
    refine Goes.step (B := (s₁.setTop (mkF m 35 #[.val (.int x0), .val (.int (own_c x0)), .val (.int ((own_c x0) - (48 : Int32))), .val (.int (own_law_j9 x0)), .val (.int (((own_c x0) ||| (32 : Int32)) - (97 : Int32))), .unset] [(.int (((own_c x0) ||| (32 : Int32)) - (97 : Int32)))]))) (fun _ k => XS.iload X0.here hx rfl (hb hby at_33) rfl k) ?_
    have J102 : Goes p e below s room_1.cells room_1.slots (own_law_Q Z x0 h0 n0) (s₁.setTop (mkF m 50 #[.val (.int x0), .val (.int (own_c x0)), .val (.int ((own_c x0) - (48 : Int32))), .val (.int (own_law_j9 x0)), .val (.int (((own_c x0) ||| (32 : Int32)) - (97 : Int32))), .unset] [(.int (own_law_j35 x0))])) := by
      refine Goes.step (B := (s₁.setTop (mkF m 52 #[.val (.int x0), .val (.int (own_c x0)), .val (.int ((own_c x0) - (48 : Int32))), .val (.int (own_law_j9 x0)), .val (.int (((own_c x0) ||| (32 : Int32)) - (97 : Int32))), .val (.int (own_law_j35 x0))] []))) (fun _ k => XS.istore X0.here hx rfl (hb hby at_50) rfl (l' := #[.val (.int x0), .val (.int (own_c x0)), .val (.int ((own_c x0) - (48 : Int32))), .val (.int (own_law_j9 x0)), .val (.int (((own_c x0) ||| (32 : Int32)) - (97 : Int32))), .val (.int (own_law_j35 x0))]) rfl k) ?_
      refine Goes.step (B := (s₁.setTop (mkF m 53 #[.val (.int x0), .val (.int (own_c x0)), .val (.int ((own_c x0) - (48 : Int32))), .val (.int (own_law_j9 x0)), .val (.int (((own_c x0) ||| (32 : Int32)) - (97 : Int32))), .val (.int (own_law_j35 x0))] [(.int (own_c x0))]))) (fun _ k => XS.iloadN X0.here hx rfl (hb hby at_52) rfl k) ?_
      obtain ⟨_, _, ⟨T103, L103, k103, n103⟩, -, X103, ⟨Lc103, hQ103, l103, y103, z103⟩, st103⟩ := Jvm.LawKit.callS X0 hx (y := (⟨"com/example/pages_for_crawlers/pagesforcrawlers/PercentEncoding", "isHexDigit", "(C)Z"⟩ : MethodName)) hown (mvT hZ (hw _ (List.mem_of_getElem? (i := 0) rfl))) (mvT hZ (hw _ (List.mem_of_getElem? (i := 1) rfl))) (mvT hZ (hw _ (List.mem_of_getElem? (i := 2) rfl))) (mvT hZ (hw _ (List.mem_of_getElem? (i := 3) rfl))) (by decide) (backOf (W := 0) (own_hex_rm l Z a0 hw [] (own_c x0)  h0 n0 Z0 ) hZ (hw _ (List.mem_of_getElem? (i := 3) rfl)) (hw _ (List.mem_of_getElem? (i := 2) rfl)) (by decide) (by decide)) (g := (mkF m 53 #[.val (.int x0), .val (.int (own_c x0)), .val (.int ((own_c x0) - (48 : Int32))), .val (.int (own_law_j9 x0)), .val (.int (((own_c x0) ||| (32 : Int32)) - (97 : Int32))), .val (.int (own_law_j35 x0))] [(.int (own_c x0))])) rfl (by rw [hml]; rfl) (argsL := [(.int (own_c x0))]) (rest := []) (lenOf pd__C_Z rfl) rfl (by show 2 * 0 + _ ≤ _; exact Nat.le_of_eq rfl) (hb hby at_53) (fun _ _ => ⟨rfl, e0, (by decide : 0 + 0 ≤ _), (by decide : 0 + 0 ≤ _)⟩)
      dsimp only [Pt.U, Pt.locs, Pt.cells, Pt.slots] at X103 l103 y103 z103 st103 hQ103
      subst l103 y103 z103
      obtain ⟨rfl, N103q, e103⟩ := hQ103
      have N103 := Fr.app N0 N103q
      refine Goes.step (B := (T103.setTop (mkF m 56 #[.val (.int x0), .val (.int (own_c x0)), .val (.int ((own_c x0) - (48 : Int32))), .val (.int (own_law_j9 x0)), .val (.int (((own_c x0) ||| (32 : Int32)) - (97 : Int32))), .val (.int (own_law_j35 x0))] [(.int (own_hex_fn (own_c x0)))]))) (fun _ k => st103 _ k) ?_
      refine Goes.step (B := (T103.setTop (mkF m 57 #[.val (.int x0), .val (.int (own_c x0)), .val (.int ((own_c x0) - (48 : Int32))), .val (.int (own_law_j9 x0)), .val (.int (((own_c x0) ||| (32 : Int32)) - (97 : Int32))), .val (.int (own_law_j35 x0))] [(.int (own_law_j9 x0)), (.int (own_hex_fn (own_c x0)))]))) (fun _ k => XS.iloadN X103.here hx rfl (hb hby at_56) rfl k) ?_
      have J104 : Goes p e below s room_1.cells room_1.slots (own_law_Q Z x0 h0 n0) (T103.setTop (mkF m 70 #[.val (.int x0), .val (.int (own_c x0)), .val (.int ((own_c x0) - (48 : Int32))), .val (.int (own_law_j9 x0)), .val (.int (((own_c x0) ||| (32 : Int32)) - (97 : Int32))), .val (.int (own_law_j35 x0))] [(.int (own_law_j57 x0)), (.int (own_hex_fn (own_c x0)))])) := by
        by_cases hc105 : (own_hex_fn (own_c x0)) = (own_law_j57 x0)
        · refine Goes.step (B := (T103.setTop (mkF m 73 #[.val (.int x0), .val (.int (own_c x0)), .val (.int ((own_c x0) - (48 : Int32))), .val (.int (own_law_j9 x0)), .val (.int (((own_c x0) ||| (32 : Int32)) - (97 : Int32))), .val (.int (own_law_j35 x0))] []))) (fun _ k => XS.icmpNo X103.here hx rfl (hb hby at_70) rfl (teq hc105).2 k) ?_
          refine Goes.step (B := (T103.setTop (mkF m 74 #[.val (.int x0), .val (.int (own_c x0)), .val (.int ((own_c x0) - (48 : Int32))), .val (.int (own_law_j9 x0)), .val (.int (((own_c x0) ||| (32 : Int32)) - (97 : Int32))), .val (.int (own_law_j35 x0))] [(.int (1 : Int32))]))) (fun _ k => XS.iconst X103.here hx rfl (hb hby at_73) k) ?_
          refine Goes.step (B := (T103.setTop (mkF m 78 #[.val (.int x0), .val (.int (own_c x0)), .val (.int ((own_c x0) - (48 : Int32))), .val (.int (own_law_j9 x0)), .val (.int (((own_c x0) ||| (32 : Int32)) - (97 : Int32))), .val (.int (own_law_j35 x0))] [(.int (1 : Int32))]))) (fun _ k => XS.goto X103.here hx rfl (pc0 := 74) (pc' := 78) rfl (hb hby at_74) (by decide) (by decide) k) ?_
          refine Goes.retN X103 hx hlk (t := .boolean) hrt (by simp) (hb hby at_78) ?_ (by decide) (by decide)
          rw [e103]
          exact ⟨congrArg (fun z => some (Value.int z)) (show nar .boolean (1 : Int32) = (own_law_fn x0) from (show nar .boolean (1 : Int32) = (1 : Int32) from rfl).trans (by simp only [own_law_fn, if_pos hc105])), N103, rfl⟩
        · refine Goes.step (B := (T103.setTop (mkF m 77 #[.val (.int x0), .val (.int (own_c x0)), .val (.int ((own_c x0) - (48 : Int32))), .val (.int (own_law_j9 x0)), .val (.int (((own_c x0) ||| (32 : Int32)) - (97 : Int32))), .val (.int (own_law_j35 x0))] []))) (fun _ k => XS.icmpYes X103.here hx rfl (pc0 := 70) (pc' := 77) rfl (hb hby at_70) rfl (feq hc105).2 (by decide) (by decide) k) ?_
          refine Goes.step (B := (T103.setTop (mkF m 78 #[.val (.int x0), .val (.int (own_c x0)), .val (.int ((own_c x0) - (48 : Int32))), .val (.int (own_law_j9 x0)), .val (.int (((own_c x0) ||| (32 : Int32)) - (97 : Int32))), .val (.int (own_law_j35 x0))] [(.int (0 : Int32))]))) (fun _ k => XS.iconst X103.here hx rfl (hb hby at_77) k) ?_
          refine Goes.retN X103 hx hlk (t := .boolean) hrt (by simp) (hb hby at_78) ?_ (by decide) (by decide)
          rw [e103]
          exact ⟨congrArg (fun z => some (Value.int z)) (show nar .boolean (0 : Int32) = (own_law_fn x0) from (show nar .boolean (0 : Int32) = (0 : Int32) from rfl).trans (by simp only [own_law_fn, if_neg hc105])), N103, rfl⟩
      by_cases hc106 : (own_law_j9 x0) = (0 : Int32)
      · refine Goes.step (B := (T103.setTop (mkF m 60 #[.val (.int x0), .val (.int (own_c x0)), .val (.int ((own_c x0) - (48 : Int32))), .val (.int (own_law_j9 x0)), .val (.int (((own_c x0) ||| (32 : Int32)) - (97 : Int32))), .val (.int (own_law_j35 x0))] [(.int (own_hex_fn (own_c x0)))]))) (fun _ k => XS.ifNo X103.here hx rfl (hb hby at_57) rfl ((if0 _ _).trans (teq hc106).2) k) ?_
        refine Goes.step (B := (T103.setTop (mkF m 62 #[.val (.int x0), .val (.int (own_c x0)), .val (.int ((own_c x0) - (48 : Int32))), .val (.int (own_law_j9 x0)), .val (.int (((own_c x0) ||| (32 : Int32)) - (97 : Int32))), .val (.int (own_law_j35 x0))] [(.int (own_law_j35 x0)), (.int (own_hex_fn (own_c x0)))]))) (fun _ k => XS.iload X103.here hx rfl (hb hby at_60) rfl k) ?_
        by_cases hc107 : (own_law_j35 x0) = (0 : Int32)
        · refine Goes.step (B := (T103.setTop (mkF m 69 #[.val (.int x0), .val (.int (own_c x0)), .val (.int ((own_c x0) - (48 : Int32))), .val (.int (own_law_j9 x0)), .val (.int (((own_c x0) ||| (32 : Int32)) - (97 : Int32))), .val (.int (own_law_j35 x0))] [(.int (own_hex_fn (own_c x0)))]))) (fun _ k => XS.ifYes X103.here hx rfl (pc0 := 62) (pc' := 69) rfl (hb hby at_62) rfl ((if0 _ _).trans (teq hc107).1) (by decide) (by decide) k) ?_
          refine Goes.step (B := (T103.setTop (mkF m 70 #[.val (.int x0), .val (.int (own_c x0)), .val (.int ((own_c x0) - (48 : Int32))), .val (.int (own_law_j9 x0)), .val (.int (((own_c x0) ||| (32 : Int32)) - (97 : Int32))), .val (.int (own_law_j35 x0))] [(.int (0 : Int32)), (.int (own_hex_fn (own_c x0)))]))) (fun _ k => XS.iconst X103.here hx rfl (hb hby at_69) k) ?_
          rw [show own_law_j57 x0 = (0 : Int32) from by simp only [own_law_j57, if_pos hc106, if_pos hc107]] at J104
          exact J104
        · refine Goes.step (B := (T103.setTop (mkF m 65 #[.val (.int x0), .val (.int (own_c x0)), .val (.int ((own_c x0) - (48 : Int32))), .val (.int (own_law_j9 x0)), .val (.int (((own_c x0) ||| (32 : Int32)) - (97 : Int32))), .val (.int (own_law_j35 x0))] [(.int (own_hex_fn (own_c x0)))]))) (fun _ k => XS.ifNo X103.here hx rfl (hb hby at_62) rfl ((if0 _ _).trans (feq hc107).1) k) ?_
          refine Goes.step (B := (T103.setTop (mkF m 66 #[.val (.int x0), .val (.int (own_c x0)), .val (.int ((own_c x0) - (48 : Int32))), .val (.int (own_law_j9 x0)), .val (.int (((own_c x0) ||| (32 : Int32)) - (97 : Int32))), .val (.int (own_law_j35 x0))] [(.int (1 : Int32)), (.int (own_hex_fn (own_c x0)))]))) (fun _ k => XS.iconst X103.here hx rfl (hb hby at_65) k) ?_
          refine Goes.step (B := (T103.setTop (mkF m 70 #[.val (.int x0), .val (.int (own_c x0)), .val (.int ((own_c x0) - (48 : Int32))), .val (.int (own_law_j9 x0)), .val (.int (((own_c x0) ||| (32 : Int32)) - (97 : Int32))), .val (.int (own_law_j35 x0))] [(.int (1 : Int32)), (.int (own_hex_fn (own_c x0)))]))) (fun _ k => XS.goto X103.here hx rfl (pc0 := 66) (pc' := 70) rfl (hb hby at_66) (by decide) (by decide) k) ?_
          rw [show own_law_j57 x0 = (1 : Int32) from by simp only [own_law_j57, if_pos hc106, if_neg hc107]] at J104
          exact J104
      · refine Goes.step (B := (T103.setTop (mkF m 65 #[.val (.int x0), .val (.int (own_c x0)), .val (.int ((own_c x0) - (48 : Int32))), .val (.int (own_law_j9 x0)), .val (.int (((own_c x0) ||| (32 : Int32)) - (97 : Int32))), .val (.int (own_law_j35 x0))] [(.int (own_hex_fn (own_c x0)))]))) (fun _ k => XS.ifYes X103.here hx rfl (pc0 := 57) (pc' := 65) rfl (hb hby at_57) rfl ((if0 _ _).trans (feq hc106).2) (by decide) (by decide) k) ?_
        refine Goes.step (B := (T103.setTop (mkF m 66 #[.val (.int x0), .val (.int (own_c x0)), .val (.int ((own_c x0) - (48 : Int32))), .val (.int (own_law_j9 x0)), .val (.int (((own_c x0) ||| (32 : Int32)) - (97 : Int32))), .val (.int (own_law_j35 x0))] [(.int (1 : Int32)), (.int (own_hex_fn (own_c x0)))]))) (fun _ k => XS.iconst X103.here hx rfl (hb hby at_65) k) ?_
        refine Goes.step (B := (T103.setTop (mkF m 70 #[.val (.int x0), .val (.int (own_c x0)), .val (.int ((own_c x0) - (48 : Int32))), .val (.int (own_law_j9 x0)), .val (.int (((own_c x0) ||| (32 : Int32)) - (97 : Int32))), .val (.int (own_law_j35 x0))] [(.int (1 : Int32)), (.int (own_hex_fn (own_c x0)))]))) (fun _ k => XS.goto X103.here hx rfl (pc0 := 66) (pc' := 70) rfl (hb hby at_66) (by decide) (by decide) k) ?_
        rw [show own_law_j57 x0 = (1 : Int32) from by simp only [own_law_j57, if_neg hc106]] at J104
        exact J104
    by_cases hc108 : (((own_c x0) ||| (32 : Int32)) - (97 : Int32)) < (0 : Int32)
    · refine Goes.step (B := (s₁.setTop (mkF m 49 #[.val (.int x0), .val (.int (own_c x0)), .val (.int ((own_c x0) - (48 : Int32))), .val (.int (own_law_j9 x0)), .val (.int (((own_c x0) ||| (32 : Int32)) - (97 : Int32))), .unset] []))) (fun _ k => XS.ifYes X0.here hx rfl (pc0 := 35) (pc' := 49) rfl (hb hby at_35) rfl ((if0 _ _).trans (tlt hc108).1) (by decide) (by decide) k) ?_
      refine Goes.step (B := (s₁.setTop (mkF m 50 #[.val (.int x0), .val (.int (own_c x0)), .val (.int ((own_c x0) - (48 : Int32))), .val (.int (own_law_j9 x0)), .val (.int (((own_c x0) ||| (32 : Int32)) - (97 : Int32))), .unset] [(.int (0 : Int32))]))) (fun _ k => XS.iconst X0.here hx rfl (hb hby at_49) k) ?_
      rw [show own_law_j35 x0 = (0 : Int32) from by simp only [own_law_j35, if_pos hc108]] at J102
      exact J102
    · refine Goes.step (B := (s₁.setTop (mkF m 38 #[.val (.int x0), .val (.int (own_c x0)), .val (.int ((own_c x0) - (48 : Int32))), .val (.int (own_law_j9 x0)), .val (.int (((own_c x0) ||| (32 : Int32)) - (97 : Int32))), .unset] []))) (fun _ k => XS.ifNo X0.here hx rfl (hb hby at_35) rfl ((if0 _ _).trans (flt hc108).1) k) ?_
      refine Goes.step (B := (s₁.setTop (mkF m 40 #[.val (.int x0), .val (.int (own_c x0)), .val (.int ((own_c x0) - (48 : Int32))), .val (.int (own_law_j9 x0)), .val (.int (((own_c x0) ||| (32 : Int32)) - (97 : Int32))), .unset] [(.int (((own_c x0) ||| (32 : Int32)) - (97 : Int32)))]))) (fun _ k => XS.iload X0.here hx rfl (hb hby at_38) rfl k) ?_
      refine Goes.step (B := (s₁.setTop (mkF m 42 #[.val (.int x0), .val (.int (own_c x0)), .val (.int ((own_c x0) - (48 : Int32))), .val (.int (own_law_j9 x0)), .val (.int (((own_c x0) ||| (32 : Int32)) - (97 : Int32))), .unset] [(.int (6 : Int32)), (.int (((own_c x0) ||| (32 : Int32)) - (97 : Int32)))]))) (fun _ k => XS.bipush X0.here hx rfl (hb hby at_40) k) ?_
      by_cases hc109 : (((own_c x0) ||| (32 : Int32)) - (97 : Int32)) < (6 : Int32)
      · refine Goes.step (B := (s₁.setTop (mkF m 45 #[.val (.int x0), .val (.int (own_c x0)), .val (.int ((own_c x0) - (48 : Int32))), .val (.int (own_law_j9 x0)), .val (.int (((own_c x0) ||| (32 : Int32)) - (97 : Int32))), .unset] []))) (fun _ k => XS.icmpNo X0.here hx rfl (hb hby at_42) rfl (tlt hc109).2.1 k) ?_
        refine Goes.step (B := (s₁.setTop (mkF m 46 #[.val (.int x0), .val (.int (own_c x0)), .val (.int ((own_c x0) - (48 : Int32))), .val (.int (own_law_j9 x0)), .val (.int (((own_c x0) ||| (32 : Int32)) - (97 : Int32))), .unset] [(.int (1 : Int32))]))) (fun _ k => XS.iconst X0.here hx rfl (hb hby at_45) k) ?_
        refine Goes.step (B := (s₁.setTop (mkF m 50 #[.val (.int x0), .val (.int (own_c x0)), .val (.int ((own_c x0) - (48 : Int32))), .val (.int (own_law_j9 x0)), .val (.int (((own_c x0) ||| (32 : Int32)) - (97 : Int32))), .unset] [(.int (1 : Int32))]))) (fun _ k => XS.goto X0.here hx rfl (pc0 := 46) (pc' := 50) rfl (hb hby at_46) (by decide) (by decide) k) ?_
        rw [show own_law_j35 x0 = (1 : Int32) from by simp only [own_law_j35, if_neg hc108, if_pos hc109]] at J102
        exact J102
      · refine Goes.step (B := (s₁.setTop (mkF m 49 #[.val (.int x0), .val (.int (own_c x0)), .val (.int ((own_c x0) - (48 : Int32))), .val (.int (own_law_j9 x0)), .val (.int (((own_c x0) ||| (32 : Int32)) - (97 : Int32))), .unset] []))) (fun _ k => XS.icmpYes X0.here hx rfl (pc0 := 42) (pc' := 49) rfl (hb hby at_42) rfl (flt hc109).2.1 (by decide) (by decide) k) ?_
        refine Goes.step (B := (s₁.setTop (mkF m 50 #[.val (.int x0), .val (.int (own_c x0)), .val (.int ((own_c x0) - (48 : Int32))), .val (.int (own_law_j9 x0)), .val (.int (((own_c x0) ||| (32 : Int32)) - (97 : Int32))), .unset] [(.int (0 : Int32))]))) (fun _ k => XS.iconst X0.here hx rfl (hb hby at_49) k) ?_
        rw [show own_law_j35 x0 = (0 : Int32) from by simp only [own_law_j35, if_neg hc108, if_neg hc109]] at J102
        exact J102
  by_cases hc110 : ((own_c x0) - (48 : Int32)) < (0 : Int32)
  · refine Goes.step (B := (s₁.setTop (mkF m 22 #[.val (.int x0), .val (.int (own_c x0)), .val (.int ((own_c x0) - (48 : Int32))), .unset, .unset, .unset] []))) (fun _ k => XS.ifYes X0.here hx rfl (pc0 := 9) (pc' := 22) rfl (hb hby at_9) rfl ((if0 _ _).trans (tlt hc110).1) (by decide) (by decide) k) ?_
    refine Goes.step (B := (s₁.setTop (mkF m 23 #[.val (.int x0), .val (.int (own_c x0)), .val (.int ((own_c x0) - (48 : Int32))), .unset, .unset, .unset] [(.int (0 : Int32))]))) (fun _ k => XS.iconst X0.here hx rfl (hb hby at_22) k) ?_
    rw [show own_law_j9 x0 = (0 : Int32) from by simp only [own_law_j9, if_pos hc110]] at J101
    exact J101
  · refine Goes.step (B := (s₁.setTop (mkF m 12 #[.val (.int x0), .val (.int (own_c x0)), .val (.int ((own_c x0) - (48 : Int32))), .unset, .unset, .unset] []))) (fun _ k => XS.ifNo X0.here hx rfl (hb hby at_9) rfl ((if0 _ _).trans (flt hc110).1) k) ?_
    refine Goes.step (B := (s₁.setTop (mkF m 13 #[.val (.int x0), .val (.int (own_c x0)), .val (.int ((own_c x0) - (48 : Int32))), .unset, .unset, .unset] [(.int ((own_c x0) - (48 : Int32)))]))) (fun _ k => XS.iloadN X0.here hx rfl (hb hby at_12) rfl k) ?_
    refine Goes.step (B := (s₁.setTop (mkF m 15 #[.val (.int x0), .val (.int (own_c x0)), .val (.int ((own_c x0) - (48 : Int32))), .unset, .unset, .unset] [(.int (10 : Int32)), (.int ((own_c x0) - (48 : Int32)))]))) (fun _ k => XS.bipush X0.here hx rfl (hb hby at_13) k) ?_
    by_cases hc111 : ((own_c x0) - (48 : Int32)) < (10 : Int32)
    · refine Goes.step (B := (s₁.setTop (mkF m 18 #[.val (.int x0), .val (.int (own_c x0)), .val (.int ((own_c x0) - (48 : Int32))), .unset, .unset, .unset] []))) (fun _ k => XS.icmpNo X0.here hx rfl (hb hby at_15) rfl (tlt hc111).2.1 k) ?_
      refine Goes.step (B := (s₁.setTop (mkF m 19 #[.val (.int x0), .val (.int (own_c x0)), .val (.int ((own_c x0) - (48 : Int32))), .unset, .unset, .unset] [(.int (1 : Int32))]))) (fun _ k => XS.iconst X0.here hx rfl (hb hby at_18) k) ?_
      refine Goes.step (B := (s₁.setTop (mkF m 23 #[.val (.int x0), .val (.int (own_c x0)), .val (.int ((own_c x0) - (48 : Int32))), .unset, .unset, .unset] [(.int (1 : Int32))]))) (fun _ k => XS.goto X0.here hx rfl (pc0 := 19) (pc' := 23) rfl (hb hby at_19) (by decide) (by decide) k) ?_
      rw [show own_law_j9 x0 = (1 : Int32) from by simp only [own_law_j9, if_neg hc110, if_pos hc111]] at J101
      exact J101
    · refine Goes.step (B := (s₁.setTop (mkF m 22 #[.val (.int x0), .val (.int (own_c x0)), .val (.int ((own_c x0) - (48 : Int32))), .unset, .unset, .unset] []))) (fun _ k => XS.icmpYes X0.here hx rfl (pc0 := 15) (pc' := 22) rfl (hb hby at_15) rfl (flt hc111).2.1 (by decide) (by decide) k) ?_
      refine Goes.step (B := (s₁.setTop (mkF m 23 #[.val (.int x0), .val (.int (own_c x0)), .val (.int ((own_c x0) - (48 : Int32))), .unset, .unset, .unset] [(.int (0 : Int32))]))) (fun _ k => XS.iconst X0.here hx rfl (hb hby at_22) k) ?_
      rw [show own_law_j9 x0 = (0 : Int32) from by simp only [own_law_j9, if_neg hc110, if_neg hc111]] at J101
      exact J101
theorem own_or32 (n : Nat) : n ||| 32 = if n % 64 < 32 then n + 32 else n := by
  have key : ∀ r : Fin 64, (r.val ||| 32) = if r.val < 32 then r.val + 32 else r.val := by decide
  have h2 := key ⟨n % 64, Nat.mod_lt _ (by decide)⟩
  simp only at h2
  have hlt : n % 64 < 2 ^ 6 := Nat.mod_lt _ (by decide)
  have hlt2 : (n % 64 ||| 32) < 2 ^ 6 := Nat.or_lt_two_pow hlt (by decide)
  have h1 : n = (n / 64) <<< 6 ||| n % 64 := by
    rw [← Nat.shiftLeft_add_eq_or_of_lt hlt, Nat.shiftLeft_eq]; omega
  have h3 : n ||| 32 = (n / 64) <<< 6 + (n % 64 ||| 32) := by
    rw [Nat.shiftLeft_add_eq_or_of_lt hlt2, ← Nat.or_assoc, ← h1]
  rw [h3, h2, Nat.shiftLeft_eq]
  split <;> omega
theorem own_or (c : Int32) (h0 : 0 ≤ c.toInt) (h1 : c.toInt < 65536) : (c ||| 32).toInt = if c.toInt % 64 < 32 then c.toInt + 32 else c.toInt := by
  have e1 : c.toInt = c.toBitVec.toInt := rfl
  have e2 := BitVec.toInt_eq_toNat_cond c.toBitVec
  have hn : c.toBitVec.toNat < 65536 := by
    rw [e1, e2] at h0 h1
    split at h1 <;> omega
  have e3 : c.toInt = (c.toBitVec.toNat : Int) := by
    rw [e1, e2, if_pos (by omega)]
  have e4 : (c ||| 32).toBitVec.toNat = c.toBitVec.toNat ||| 32 := by
    show (c.toBitVec ||| (32#32)).toNat = _
    rw [BitVec.toNat_or]; rfl
  have e5 : (c ||| 32).toInt = ((c.toBitVec.toNat ||| 32 : Nat) : Int) := by
    have q := BitVec.toInt_eq_toNat_cond (c ||| 32).toBitVec
    rw [e4] at q
    show (c ||| 32).toBitVec.toInt = _
    rw [q, own_or32]
    split <;> omega
  rw [e5, own_or32, e3]
  generalize c.toBitVec.toNat = n
  split <;> split <;> omega
theorem own_int (n L : Int) (h0 : 0 ≤ n) (h1 : n < 65536) (ho : L = if n % 64 < 32 then n + 32 else n) : (0 ≤ L - 97 ∧ L - 97 < 6) ↔ (65 ≤ n ∧ n ≤ 70) ∨ (97 ≤ n ∧ n ≤ 102) := by
  split at ho <;> omega
theorem own_two (a : Int) (k : Int) (P : Prop) [Decidable P] (h : (0 ≤ a ∧ a < k) ↔ P) : (if a < 0 then (0 : Int32) else (if a < k then (1 : Int32) else (0 : Int32))) = if P then 1 else 0 := by
  by_cases p : P
  · have := h.mpr p
    rw [if_pos p, if_neg (by omega), if_pos this.2]
  · rw [if_neg p]
    by_cases q : a < 0
    · rw [if_pos q]
    · rw [if_neg q, if_neg (fun r => p (h.mp ⟨by omega, r⟩))]
theorem own_hexv (c : Int32) : own_hex_fn c = if (48 ≤ c.toInt ∧ c.toInt ≤ 57) ∨ ((65 ≤ c.toInt ∧ c.toInt ≤ 70) ∨ (97 ≤ c.toInt ∧ c.toInt ≤ 102)) then 1 else 0 := by
  have k48 : (48 : Int32).toInt = 48 := by decide
  have k57 : (57 : Int32).toInt = 57 := by decide
  have k65 : (65 : Int32).toInt = 65 := by decide
  have k70 : (70 : Int32).toInt = 70 := by decide
  have k97 : (97 : Int32).toInt = 97 := by decide
  have k102 : (102 : Int32).toInt = 102 := by decide
  simp only [own_hex_fn, Int32.lt_iff_toInt_lt, k48, k57, k65, k70, k97, k102]
  generalize c.toInt = n
  by_cases a1 : n < 48
  · have a3 : n < 65 := by omega
    have a5 : n < 97 := by omega
    rw [if_pos a1, if_pos a3, if_pos a5, if_neg (by omega)]
  · rw [if_neg a1]
    by_cases a2 : 57 < n
    · rw [if_pos a2]
      by_cases a3 : n < 65
      · have a5 : n < 97 := by omega
        rw [if_pos a3, if_pos a5, if_neg (by omega)]
      · rw [if_neg a3]
        by_cases a4 : 70 < n
        · rw [if_pos a4]
          by_cases a5 : n < 97
          · rw [if_pos a5, if_neg (by omega)]
          · rw [if_neg a5]
            by_cases a6 : 102 < n
            · rw [if_pos a6, if_neg (by omega)]
            · rw [if_neg a6, if_pos (by omega)]
        · rw [if_neg a4, if_pos (by omega)]
    · rw [if_neg a2, if_pos (by omega)]
theorem own_coreC (c : Int32) (h0 : 0 ≤ c.toInt) (h1 : c.toInt < 65536) : own_hex_fn c = (if (if (c - (48 : Int32)) < (0 : Int32) then (0 : Int32) else (if (c - (48 : Int32)) < (10 : Int32) then (1 : Int32) else (0 : Int32))) = (0 : Int32) then (if (if ((c ||| (32 : Int32)) - (97 : Int32)) < (0 : Int32) then (0 : Int32) else (if ((c ||| (32 : Int32)) - (97 : Int32)) < (6 : Int32) then (1 : Int32) else (0 : Int32))) = (0 : Int32) then (0 : Int32) else (1 : Int32)) else (1 : Int32)) := by
  have ho := own_or c h0 h1
  have s1 : (c - 48).toInt = c.toInt - 48 := by
    have := c_isub c 48; have := rng32 (c - 48); have : (48 : Int32).toInt = 48 := by decide
    omega
  have s2 : ((c ||| 32) - 97).toInt = (c ||| 32).toInt - 97 := by
    have := c_isub (c ||| 32) 97; have := rng32 ((c ||| 32) - 97); have : (97 : Int32).toInt = 97 := by decide
    split at ho <;> omega
  have k0 : (0 : Int32).toInt = 0 := by decide
  have k6 : (6 : Int32).toInt = 6 := by decide
  have k10 : (10 : Int32).toInt = 10 := by decide
  have j1 : (if (c - (48 : Int32)) < (0 : Int32) then (0 : Int32) else (if (c - (48 : Int32)) < (10 : Int32) then (1 : Int32) else (0 : Int32))) = if (48 ≤ c.toInt ∧ c.toInt ≤ 57) then 1 else 0 := by
    simp only [Int32.lt_iff_toInt_lt, s1, k0, k10]
    exact own_two _ _ _ (by omega)
  have j2 : (if ((c ||| (32 : Int32)) - (97 : Int32)) < (0 : Int32) then (0 : Int32) else (if ((c ||| (32 : Int32)) - (97 : Int32)) < (6 : Int32) then (1 : Int32) else (0 : Int32))) = if ((65 ≤ c.toInt ∧ c.toInt ≤ 70) ∨ (97 ≤ c.toInt ∧ c.toInt ≤ 102)) then 1 else 0 := by
    simp only [Int32.lt_iff_toInt_lt, s2, k0, k6]
    exact own_two _ _ _ (own_int _ _ h0 h1 ho)
  rw [j1, j2, own_hexv]
  by_cases d1 : (48 ≤ c.toInt ∧ c.toInt ≤ 57) <;> by_cases d2 : ((65 ≤ c.toInt ∧ c.toInt ≤ 70) ∨ (97 ≤ c.toInt ∧ c.toInt ≤ 102)) <;> simp only [d1, d2, if_true, if_false, or_true, true_or, or_false, false_or] <;> rfl
theorem own_core (x0 : Int32) : own_hex_fn (own_c x0) = own_law_j57 x0 := by
  have hr := c_i2c x0
  exact own_coreC (own_c x0) hr.2.1 hr.2.2
theorem own_plain (x0 : Int32) : own_law_fn x0 = 1 := by
  rw [own_law_fn, if_pos (own_core x0)]

set_option maxRecDepth 65536 in
set_option maxHeartbeats 40000000 in
theorem comes_1 {Post : Tables → Env → Array Value → State → Outcome → State → Prop} (hpost : ∀ tb e args s v u, (limb_1_1.after args s (.returned v) u = true ∧ limb_1_2.after args s (.returned v) u = true ∧ True) → FrameEnd s (.returned v) u (Jvm.fieldLocs frame_1_writes args s ++ Jvm.arrayLocs frame_1_arrays args s ++ Jvm.staticLocs frame_1_statics s) 0 0 → Post tb e args s (.returned v) u) :
    ArmFor flags0 classFile x code maxLocals ret World_1 tables_1 room_1 Calls_1 rest_1 Pre_1 Post := by
  intro l hfl _ _ p e ha hc hk s m args below hf hA hF happ hP
  obtain ⟨hcalls, hrest, hpre⟩ := hP
  obtain ⟨-, -, -, hnamed, -, -, -, hat⟩ := (Spec.applies_iff hf).mp happ
  obtain ⟨hg, hn⟩ := and_e (Cond.before_iff.mp (show (Jvm.Cond.and given_1 narrow_1).before args s = true from hpre))
  obtain ⟨hg1, hg2⟩ := and_e hg
  obtain ⟨w0, rfl⟩ : ∃ w0 : Value, args = #[w0] := by
    have hs : args.size = 1 := by simpa [Cond.value, given_1] using hg1
    obtain ⟨L⟩ := args
    match L, hs with
    | [w0], _ => exact ⟨w0, rfl⟩
  have hw := fun d (hd : d ∈ tables_1) => atoms_spec (ws := Jvm.Cond.code x code maxLocals ret :: tables_1) hat d (List.mem_cons_of_mem _ hd)
  have hfit : Fit s := fun {y c} hc i hi => by
    obtain ⟨ha, rfl⟩ := Array.getElem?_eq_some_iff.mp hc
    have q := List.all_eq_true.mp ((Array.all_eq_true_iff_forall_mem.mp hF) _ (Array.getElem_mem ha)) i (List.mem_range.mpr hi)
    simpa [Array.getElem?_eq_getElem hi] using q
  obtain ⟨i0, ei0⟩ := is_v hg2
  obtain rfl : w0 = (.int i0) := Option.some.inj ei0
  obtain ⟨n, o, h1, h2, h3, _, L, rfl, ⟨hv, N, _⟩, hq⟩ := own_law_rm l s _ hw tables_1 i0  s.heap s.heap.size (Nat.le_refl _)  p e ha hc hk s m _ below hf ((Spec.applies_iff_loose hf).mp happ).1 ⟨rfl, State.Warmed39.refl s, rfl⟩ trivial
  rw [own_plain i0] at hv
  subst hv
  refine ⟨n, _, h1, h2, h3, hpost _ _ _ _ _ _ ⟨Cond.after_iff.mpr rfl, Cond.after_iff.mpr (eq_i res_at (Term.int_eval (1)) rfl), trivial⟩ ⟨hq.1, hq.2.1, (hq.2.2.sift fun y hy => Or.inr (N y hy)).mono (by decide) (by decide)⟩⟩
theorem main_1_1 : Claimed_1_1 := comes_1 fun _ _ _ _ _ _ h hF => ⟨h.1, hF⟩
theorem main_1_2 : Claimed_1_2 := comes_1 fun _ _ _ _ _ _ h hF => ⟨h.2.1, hF⟩
end Jvm.Pilot.@@N@@
namespace Jvm.Pilot.@@N@@
open Jvm Jvm.ClassFile Sem Op Lib Jvm.Free Jvm.Stand Jvm.Pilot.@@N@@.Jvm.D
/-! MADE BY PROGRAM (witnessworld.py) out of the Statement's table words and the real class files: 9 classes; the members and pool entries that the words name. The judged class is class 1, her method 1. -/
namespace start1
open Jvm.ClassFile
def u (s : String) : CpInfo := .utf8 (stringToUtf16 s)
/-- a pool by its gaps: so many unusable entries, then the entry; so many at the end -/
def gap : Nat → List CpInfo → List CpInfo
  | 0, r => r
  | n + 1, r => .unusable :: gap n r
def poolList (es : List (Nat × CpInfo)) (last : Nat) : List CpInfo := es.foldr (fun e r => gap e.1 (e.2 :: r)) (gap last [])
def pool (es : List (Nat × CpInfo)) (last : Nat) : Array CpInfo := ⟨poolList es last⟩
def fileOf (pool : Array CpInfo) (this : Nat) (attrs : Array Attribute := #[]) (ms : Array MethodInfo := #[]) (fl : Nat := 33) (sup : Nat := 0) (ifs : Array Nat := #[]) (fds : Array FieldInfo := #[]) : ClassFile where
  minorVersion := 0
  majorVersion := 65
  constantPool := pool
  accessFlags := fl
  thisClass := this
  superClass := sup
  interfaces := ifs
  fields := fds
  methods := ms
  attributes := attrs
def plain (name : String) (sup : Option ClassId) : Class where
  name := name
  kind := .ordinary
  loader := none
  accessFlags := 33
  super := sup
  interfaces := #[]
  cf := none
  fields := #[]
  methods := #[]
  instanceTypes := #[]
  staticTypes := #[]
  resolved := #[]
  callSites := []
  init := .initialized
  statics := none
  mirror := none

def pool0 : Array CpInfo := pool [(5, u "<init>"), (0, u "()V"), (1, .class_ 10), (1, u "java/lang/Object")] 113

def k0m0 : Method := { name := "<init>", desc := "()V", sig := { parameters := [], returnType := none }, accessFlags := 1, code := none }
/-- java/lang/Object -/
def k0 : Class := { plain "java/lang/Object" none with
  accessFlags := 33
  interfaces := #[]
  cf := some (fileOf pool0 8 #[] #[{ accessFlags := 1, nameIndex := 5, descriptorIndex := 6, attributes := #[] }] 33 0 #[] #[])
  fields := #[]
  methods := #[k0m0]
  instanceTypes := #[]
  staticTypes := #[]
  resolved := Array.replicate 124 none
  statics := none }

def pool1 : Array CpInfo := pool [(2, .class_ 4), (1, u "java/lang/Object"), (0, u "<init>"), (0, u "()V"), (0, .methodref 8 9), (0, .class_ 10), (0, .nameAndType 11 12), (0, u "com/example/pages_for_crawlers/pagesforcrawlers/PercentEncoding"), (0, u "isHexDigit"), (0, u "(C)Z"), (0, .class_ 14), (0, u "com/example/pages_for_crawlers/pagesforcrawlers/PercentEncodingIsHexDigitPinLaw"), (2, u "law"), (0, u "(I)Z")] 3

def k1m0 : Method := { name := "<init>", desc := "()V", sig := { parameters := [], returnType := none }, accessFlags := 2, code := none }
def k1c1 : Code := { maxStack := 2, maxLocals := 6, code := code, exceptionTable := #[], attributes := #[] }
def k1m1 : Method := { name := "law", desc := "(I)Z", sig := { parameters := [.int], returnType := some .boolean }, accessFlags := 9, code := some k1c1 }
/-- com/example/pages_for_crawlers/pagesforcrawlers/PercentEncodingIsHexDigitPinLaw -/
def k1 : Class := { plain "com/example/pages_for_crawlers/pagesforcrawlers/PercentEncodingIsHexDigitPinLaw" (some 0) with
  accessFlags := 49
  interfaces := #[]
  cf := some (fileOf pool1 13 #[] #[{ accessFlags := 2, nameIndex := 5, descriptorIndex := 6, attributes := #[] }, { accessFlags := 9, nameIndex := 17, descriptorIndex := 18, attributes := #[] }] 49 2 #[] #[])
  fields := #[]
  methods := #[k1m0, k1m1]
  instanceTypes := #[]
  staticTypes := #[]
  resolved := Array.replicate 22 none
  statics := none }

def pool2 : Array CpInfo := pool [(1, .class_ 2), (0, u "com/example/pages_for_crawlers/pagesforcrawlers/PercentEncoding"), (1, .class_ 6), (1, u "java/lang/Object"), (0, u "<init>"), (0, u "()V"), (11, .class_ 22), (1, u "com/example/pages_for_crawlers/pagesforcrawlers/PercentEncoding$EncodedText"), (17, u "SEGMENT_KEEPS"), (0, u "[Z"), (18, u "URL_KEEPS"), (25, u "AUTHORITY_KEEPS"), (45, u "isHexDigit"), (0, u "(C)Z"), (8, u "HEX"), (0, u "[C"), (10, u "UNRESERVED"), (0, u "Ljava/lang/String;"), (3, u "SUB_DELIMS"), (2, u "PCHAR")] 15

def k2m0 : Method := { name := "<init>", desc := "()V", sig := { parameters := [], returnType := none }, accessFlags := 2, code := none }
def k2c1 : Code := { maxStack := 2, maxLocals := 1, code := prog_17_method_10_code, exceptionTable := #[], attributes := #[] }
def k2m1 : Method := { name := "isHexDigit", desc := "(C)Z", sig := { parameters := [.char], returnType := some .boolean }, accessFlags := 8, code := some k2c1 }
/-- com/example/pages_for_crawlers/pagesforcrawlers/PercentEncoding -/
def k2 : Class := { plain "com/example/pages_for_crawlers/pagesforcrawlers/PercentEncoding" (some 0) with
  accessFlags := 32
  interfaces := #[]
  cf := some (fileOf pool2 1 #[.nestMembers #[20]] #[{ accessFlags := 2, nameIndex := 7, descriptorIndex := 8, attributes := #[] }, { accessFlags := 8, nameIndex := 132, descriptorIndex := 133, attributes := #[] }] 32 4 #[] #[{ accessFlags := 26, nameIndex := 142, descriptorIndex := 143, attributes := #[] }, { accessFlags := 26, nameIndex := 154, descriptorIndex := 155, attributes := #[] }, { accessFlags := 26, nameIndex := 159, descriptorIndex := 155, attributes := #[] }, { accessFlags := 26, nameIndex := 162, descriptorIndex := 155, attributes := #[] }, { accessFlags := 26, nameIndex := 60, descriptorIndex := 41, attributes := #[] }, { accessFlags := 26, nameIndex := 86, descriptorIndex := 41, attributes := #[] }, { accessFlags := 26, nameIndex := 40, descriptorIndex := 41, attributes := #[] }])
  fields := #[{ name := "HEX", type := (.array .char), accessFlags := 26, slot := 0, constantValue := 0 }, { name := "UNRESERVED", type := (.object "java/lang/String"), accessFlags := 26, slot := 1, constantValue := 0 }, { name := "SUB_DELIMS", type := (.object "java/lang/String"), accessFlags := 26, slot := 2, constantValue := 0 }, { name := "PCHAR", type := (.object "java/lang/String"), accessFlags := 26, slot := 3, constantValue := 0 }, { name := "URL_KEEPS", type := (.array .boolean), accessFlags := 26, slot := 4, constantValue := 0 }, { name := "AUTHORITY_KEEPS", type := (.array .boolean), accessFlags := 26, slot := 5, constantValue := 0 }, { name := "SEGMENT_KEEPS", type := (.array .boolean), accessFlags := 26, slot := 6, constantValue := 0 }]
  methods := #[k2m0, k2m1]
  instanceTypes := #[]
  staticTypes := #[(.array .char), (.object "java/lang/String"), (.object "java/lang/String"), (.object "java/lang/String"), (.array .boolean), (.array .boolean), (.array .boolean)]
  resolved := Array.replicate 178 none
  statics := none }

def pool3 : Array CpInfo := pool [(1, u "java/lang/Cloneable"), (0, .class_ 1), (0, u "java/lang/Object"), (0, .class_ 3)] 3

/-- java/lang/Cloneable -/
def k3 : Class := { plain "java/lang/Cloneable" (some 0) with
  accessFlags := 1537
  interfaces := #[]
  cf := some (fileOf pool3 2 #[] #[] 1537 4 #[] #[])
  fields := #[]
  methods := #[]
  instanceTypes := #[]
  staticTypes := #[]
  resolved := Array.replicate 8 none
  statics := none }

def pool4 : Array CpInfo := pool [(1, u "java/io/Serializable"), (0, .class_ 1), (0, u "java/lang/Object"), (0, .class_ 3)] 3

/-- java/io/Serializable -/
def k4 : Class := { plain "java/io/Serializable" (some 0) with
  accessFlags := 1537
  interfaces := #[]
  cf := some (fileOf pool4 2 #[] #[] 1537 4 #[] #[])
  fields := #[]
  methods := #[]
  instanceTypes := #[]
  staticTypes := #[]
  resolved := Array.replicate 8 none
  statics := none }

/-- the primitive byte -/
def k5 : Class := { plain "byte" none with kind := .primitive 'B', accessFlags := 0x411 }
/-- [B -/
def k6 : Class := { plain "[B" (some 0) with kind := .array 5 .byte, interfaces := #[3, 4], accessFlags := 1041 }

/-- the primitive int -/
def k7 : Class := { plain "int" none with kind := .primitive 'I', accessFlags := 0x411 }
/-- [I -/
def k8 : Class := { plain "[I" (some 0) with kind := .array 7 .int, interfaces := #[3, 4], accessFlags := 1041 }

def heap : Heap := #[]
def classes : Array Class := #[k0, k1, k2, k3, k4, k5, k6, k7, k8]
def interned : List (Array UInt16 × Addr) := []
def slotsUsed : Nat := 0
def theMethod : MethodId := ⟨1, 1⟩
def args0 : Array Value := #[.int 65]
def aboutOver (below : List Frame) : State where
  vm := { classes := classes, interned := interned.toArray }
  heap := heap
  slotsUsed := slotsUsed
  threads := #[{ frames := .invoking theMethod args0 :: below }]
def below0 : List Frame := [.native { method := ⟨0, 0⟩, args := #[] }]
def about1 : State := aboutOver below0
def p0 : Program := .bare "" "" ""
def e0 : Env := launch0.env 0 0 0
theorem w_frames : about1.frames = Frame.invoking theMethod args0 :: below0 := rfl
set_option maxRecDepth 65536 in
theorem w_args : argsFit about1.vm theMethod args0 = true := by decide +kernel
set_option maxRecDepth 65536 in
theorem w_heap : heapFits about1 = true := by decide +kernel
set_option maxRecDepth 65536 in
theorem w_runnable : about1.curStatus? = some .runnable := by decide +kernel
set_option maxRecDepth 65536 in
theorem w_alone : about1.alone = true := by decide +kernel
set_option maxRecDepth 65536 in
theorem w_named : about1.methodNamed? x = some theMethod := by decide +kernel
set_option maxRecDepth 65536 in
theorem w_hears : about1.hears theMethod below0 = true := by decide +kernel
set_option maxRecDepth 65536 in
theorem w_ripe : about1.ripe theMethod args0 below0 = true := by decide +kernel
theorem w_running : about1.status = .running := rfl
set_option maxRecDepth 65536 in
theorem w_room : about1.hasRoom e0.platform room_1 = true :=
  launch0.hasRoom_least _ room_1 (by decide +kernel) (by decide +kernel) (by decide +kernel) (by decide +kernel) (by decide +kernel) (by decide +kernel)
theorem allAtoms_all (ts : List Jvm.Cond) (a : Array Jvm.Value) (st : Jvm.State) : (allAtoms ts).before a st = ts.all (fun c => c.before a st) := by
  induction ts with
  | nil => rfl
  | cons c t ih =>
    show (Jvm.Cond.and c (allAtoms t)).before a st = _
    rw [Jvm.Cond.before_and, ih, List.all_cons]
def words1 : List Jvm.Cond := Jvm.Cond.code x code maxLocals ret :: tables_1
/-- a 'code' word, met by the world's own term for the bytes: nothing is compared byte by byte -/
theorem code_word {y : MethodName} {bytes : ByteArray} {mx : Nat} {rt : Option FieldType} {a : Array Value} {s : State} {m : MethodId} {meth : Method} {c : Code} (h1 : s.methodNamed? y = some m) (h2 : s.vm.method? m = some meth) (h3 : meth.code = some c) (h4 : c.code = bytes)
    (h5 : (c.maxLocals == mx && c.exceptionTable.isEmpty && decide (c.maxStack ≤ mostOperands) && decide (meth.sig.returnType = rt) && !meth.locks && decide (parseMethodDescriptor y.desc = some meth.sig)) = true) : (Jvm.Cond.code y bytes mx rt).before a s = true := by
  simp only [Bool.and_eq_true, beq_iff_eq, Bool.not_eq_true', decide_eq_true_eq] at h5
  obtain ⟨⟨⟨⟨⟨g1, g2⟩, g3⟩, g4⟩, g5⟩, g6⟩ := h5
  simp [Cond.before, Cond.holds, Cond.value, h1, h2, h3, h4, g1, g2, g3, g4, g5, g6]
def isCode : Jvm.Cond → Bool
  | .code _ _ _ _ => true
  | _ => false
theorem all_split {L : List Jvm.Cond} {P : Jvm.Cond → Bool} (h1 : L.all (fun c => isCode c || P c) = true) (h2 : ∀ c ∈ L.filter isCode, P c = true) : L.all P = true := by
  refine List.all_eq_true.mpr fun c hc => ?_
  have h := List.all_eq_true.mp h1 c hc
  rcases Bool.eq_false_or_eq_true (isCode c) with hi | hi
  · exact h2 c (List.mem_filter.mpr ⟨hc, hi⟩)
  · simpa [hi] using h
set_option maxRecDepth 65536 in
theorem w_c0 : (Jvm.Cond.code x code maxLocals ret).before args0 about1 = true := code_word (m := ⟨1, 1⟩) (meth := k1m1) (c := k1c1) (by decide +kernel) rfl rfl rfl (by decide +kernel)
set_option maxRecDepth 65536 in
theorem w_c1 : (Jvm.Cond.code ({ cls := "com/example/pages_for_crawlers/pagesforcrawlers/PercentEncoding", name := "isHexDigit", desc := "(C)Z" } : Jvm.MethodName) prog_17_method_10_code (1 : Nat) (Option.some Jvm.ClassFile.FieldType.boolean)).before args0 about1 = true := code_word (m := ⟨2, 1⟩) (meth := k2m1) (c := k2c1) (by decide +kernel) rfl rfl rfl (by decide +kernel)
def codes1 : List Jvm.Cond := [Jvm.Cond.code x code maxLocals ret, Jvm.Cond.code ({ cls := "com/example/pages_for_crawlers/pagesforcrawlers/PercentEncoding", name := "isHexDigit", desc := "(C)Z" } : Jvm.MethodName) prog_17_method_10_code (1 : Nat) (Option.some Jvm.ClassFile.FieldType.boolean)]
set_option maxRecDepth 65536 in
theorem codes_eq : words1.filter isCode = codes1 := rfl
theorem w_codes : ∀ c ∈ words1.filter isCode, c.before args0 about1 = true := by
  rw [codes_eq]
  intro c hc
  simp only [codes1, List.mem_cons, List.not_mem_nil, or_false] at hc
  rcases hc with rfl | rfl
  · exact w_c0
  · exact w_c1
set_option maxRecDepth 65536 in
theorem w_t1 : words1.all (fun c => isCode c || c.before args0 about1) = true := by decide +kernel
theorem w_tables : (allAtoms (Jvm.Cond.code x code maxLocals ret :: tables_1)).before args0 about1 = true := by
  rw [allAtoms_all]
  show words1.all (fun c => c.before args0 about1) = true
  refine all_split ?_ w_codes
  rw [w_t1]
set_option maxRecDepth 65536 in
theorem w_case : (Jvm.Cond.and given_1 narrow_1).before args0 about1 = true := by decide +kernel
theorem w_applies : (headSpec (Jvm.Cond.code x code maxLocals ret :: tables_1) room_1).applies x e0.platform about1 = true :=
  (Spec.applies_iff w_frames).mpr ⟨w_running, w_runnable, w_alone, w_named, w_hears, w_ripe, w_room, w_tables⟩
theorem atStart : AtStart classFile x code maxLocals ret World_1 tables_1 room_1 Calls_1 rest_1 Pre_1 launch0 p0 e0 about1 theMethod args0 below0 :=
  ⟨lists_1, trivial, launch0.admits_env _ _ _, launch0.least_env, fairChoices_fair.cas, fairChoices_fair.clock, w_frames, w_args, w_heap, w_applies, trivial, trivial, w_case⟩
end start1
theorem witness_1 : WitnessClaimed_1 := ⟨start1.p0, start1.e0, start1.about1, start1.theMethod, start1.args0, start1.below0, start1.atStart⟩
end Jvm.Pilot.@@N@@
