import JvmDerived
import JvmDerived.Pilot.@@N@@Statement
import JvmDerived.Pilot.@@N@@Code
set_option linter.unusedVariables false
set_option linter.unusedSimpArgs false
namespace Jvm.RoadKit
open Sem ClassFile Op Lib Jvm.Stand Jvm.Free Jvm.LawKit
section Own
variable {p : Program} {l : Launch} {e : Env} {R : Room} {s : State} {m : MethodId} {args : Array Value} {below : List Frame} {meth : Method} {c : Code} {T : State} {locs : List Loc} {cells slots : Nat}
theorem retI (X : Stand p l e R s m args below meth c T locs cells slots) (hx : p.tables.exec = Jvm.exec) {pc : Nat} {Ls : Array Slot} {z : Int32} {rest : List Value} (hret : meth.sig.returnType = some .int) (hd : decode c.code pc = .ok (.ireturn, 1)) {fs : List Frame}
    (hl : ∀ (f : JFrame) (acts : List Action), f.method = m → f.locked = none → f.entered = [] → (doReturn e (T.setTop f) acts (some (.int z))).1 = T.setFrames fs) : Steps p.tables e below (T.setTop (mkF m pc Ls (.int z :: rest))) (T.setFrames fs) :=
  retOut X hx hret rfl (Or.inl ⟨rfl, Or.inl rfl, z, rfl⟩) hd hl
/-- the walk from S on ends in a return of which Q holds -/
def Goes (p : Program) (e : Env) (below : List Frame) (s : State) (k n : Nat) (Q : Option Value → Heap → List Loc → Prop) (S : State) : Prop :=
  ∃ t o, Steps p.tables e below S t ∧ t.status = .running ∧ Ended t below o ∧ ∃ v L, o = .returned v ∧ Q v t.heap L ∧ FrameEnd s o t L k n
variable {kc kn : Nat} {Q : Option Value → Heap → List Loc → Prop}
theorem Goes.step {A B : State} (h : ∀ t, Steps p.tables e below B t → Steps p.tables e below A t) (g : Goes p e below s kc kn Q B) : Goes p e below s kc kn Q A := by
  obtain ⟨t, o, h1, h2⟩ := g; exact ⟨t, o, h t h1, h2⟩
theorem Goes.to {A B : State} (h : Steps p.tables e below A B) (g : Goes p e below s kc kn Q B) : Goes p e below s kc kn Q A := by
  obtain ⟨t, o, h1, h2⟩ := g; exact ⟨t, o, h.trans h1, h2⟩
theorem Goes.out (X : Stand p l e R s m args below meth c T locs cells slots) {g : JFrame} {v : Option Value} (hlk : meth.locks = false) (hv : meth.sig.returnType = none → v = none)
    (hs : ∀ fs : List Frame, (∀ (f : JFrame) (acts : List Action), f.method = m → f.locked = none → f.entered = [] → (doReturn e (T.setTop f) acts v).1 = T.setFrames fs) → Steps p.tables e below (T.setTop g) (T.setFrames fs))
    (hq : Q v T.heap locs) (hk : cells ≤ kc) (hn : slots ≤ kn) : Goes p e below s kc kn Q (T.setTop g) := by
  obtain ⟨fs, hr, hrun, hended, hW, hsame⟩ := X.leave (v := v) hv hlk
  exact ⟨_, _, hs fs hr, hrun, hended, v, locs, rfl, hq, ⟨_, rfl⟩, hW, hsame.mono hk hn⟩
theorem Goes.retI (X : Stand p l e R s m args below meth c T locs cells slots) (hx : p.tables.exec = Jvm.exec) (hlk : meth.locks = false) {pc : Nat} {Ls : Array Slot} {z : Int32} {rest : List Value} (hret : meth.sig.returnType = some .int) (hd : decode c.code pc = .ok (.ireturn, 1))
    (hq : Q (some (.int z)) T.heap locs) (hk : cells ≤ kc) (hn : slots ≤ kn) : Goes p e below s kc kn Q (T.setTop (mkF m pc Ls (.int z :: rest))) :=
  Goes.out X hlk (fun h => by rw [hret] at h; cases h) (fun fs hr => Jvm.RoadKit.retI X hx hret hd hr) hq hk hn
theorem Goes.retN (X : Stand p l e R s m args below meth c T locs cells slots) (hx : p.tables.exec = Jvm.exec) (hlk : meth.locks = false) {pc : Nat} {Ls : Array Slot} {z : Int32} {t : FieldType} {rest : List Value} (hret : meth.sig.returnType = some t) (ht : t = .boolean ∨ t = .byte ∨ t = .char ∨ t = .short) (hd : decode c.code pc = .ok (.ireturn, 1))
    (hq : Q (some (.int (nar t z))) T.heap locs) (hk : cells ≤ kc) (hn : slots ≤ kn) : Goes p e below s kc kn Q (T.setTop (mkF m pc Ls (.int z :: rest))) :=
  Goes.out X hlk (fun h => by rw [hret] at h; cases h) (fun fs hr => Jvm.RoadKit.retN X hx hret ht hd hr) hq hk hn
theorem Goes.retJ (X : Stand p l e R s m args below meth c T locs cells slots) (hx : p.tables.exec = Jvm.exec) (hlk : meth.locks = false) {pc : Nat} {Ls : Array Slot} {z : Int64} {rest : List Value} (hret : meth.sig.returnType = some .long) (hd : decode c.code pc = .ok (.lreturn, 1))
    (hq : Q (some (.long z)) T.heap locs) (hk : cells ≤ kc) (hn : slots ≤ kn) : Goes p e below s kc kn Q (T.setTop (mkF m pc Ls (.long z :: rest))) :=
  Goes.out X hlk (fun h => by rw [hret] at h; cases h) (fun fs hr => retOut X hx hret rfl (Or.inr (Or.inl ⟨rfl, rfl, z, rfl⟩)) hd hr) hq hk hn
theorem Goes.retR (X : Stand p l e R s m args below meth c T locs cells slots) (hx : p.tables.exec = Jvm.exec) (hlk : meth.locks = false) {pc : Nat} {Ls : Array Slot} {w : Value} {t : FieldType} {rest : List Value} (hret : meth.sig.returnType = some t) (ht : t.isReference = true) (hw : w.isRef = true) (hn' : narrow t w = w) (hd : decode c.code pc = .ok (.areturn, 1))
    (hq : Q (some w) T.heap locs) (hk : cells ≤ kc) (hn : slots ≤ kn) : Goes p e below s kc kn Q (T.setTop (mkF m pc Ls (w :: rest))) :=
  Goes.out X hlk (fun h => by rw [hret] at h; cases h) (fun fs hr => retOut X hx hret hn' (Or.inr (Or.inr (Or.inr (Or.inr ⟨rfl, ht, hw⟩)))) hd hr) hq hk hn
theorem Goes.retV (X : Stand p l e R s m args below meth c T locs cells slots) (hx : p.tables.exec = Jvm.exec) (hlk : meth.locks = false) {pc : Nat} {Ls : Array Slot} (hret : meth.sig.returnType = none) (hd : decode c.code pc = .ok (.return_, 1))
    (hq : Q none T.heap locs) (hk : cells ≤ kc) (hn : slots ≤ kn) : Goes p e below s kc kn Q (T.setTop (mkF m pc Ls [])) :=
  Goes.out X hlk (fun _ => rfl) (fun fs hr => X.returnOut hx hret hd hr) hq hk hn
theorem Goes.enter {s₁ : State} {maxL : Nat} {g : JFrame} (h : entryFrame m args maxL = g) (k : Goes p e below s kc kn Q (s₁.setTop g)) :
    ∃ t o, Steps p.tables e below (s₁.setTop (entryFrame m args maxL)) t ∧ t.status = .running ∧ Ended t below o ∧ ∃ v L, o = .returned v ∧ Q v t.heap L ∧ FrameEnd s o t L kc kn := by rw [h]; exact k
theorem nm0 {b : Addr} : b ∉ ([] : List Addr) := List.not_mem_nil
theorem nm1 {b a : Addr} (h : b ≠ a) : b ∉ [a] := fun q => h (List.mem_singleton.mp q)
theorem nm2 {b a a' : Addr} (h : b ≠ a) (h' : b ≠ a') : b ∉ [a, a'] := fun q => (List.mem_cons.mp q).elim h (fun q => h' (List.mem_singleton.mp q))
theorem nm3 {b a a' a'' : Addr} (h : b ≠ a) (h' : b ≠ a') (h'' : b ≠ a'') : b ∉ [a, a', a''] := fun q => (List.mem_cons.mp q).elim h (fun q => nm2 h' h'' q)
theorem Sta.keepN {Z : State} {h h' : Heap} {C n d : String} {v : Value} {ws : List Addr} (F : Sta Z h C n d v) (K : Keep h h' ws) (hn : ∀ a ∈ ws, ∀ cell : Cell, h[a]? = some cell → cell.vm.isStatics = false) : Sta Z h' C n d v := by
  obtain ⟨cf, i, k, f, st, cell, h1, h2, h3, h4, h5, h6, r⟩ := F
  exact ⟨cf, i, k, f, st, cell, h1, h2, h3, h4, K.2.1 st cell h5 (fun q => by have := hn st q cell h5; rw [h6] at this; cases this), h6, r⟩
theorem Exa.plainN {Z : State} {h : Heap} {a : Addr} {C : String} (E : Exa Z h a C) : ∀ cell : Cell, h[a]? = some cell → cell.vm.isStatics = false := fun cell q => by
  obtain ⟨c, k, h1, h2, h3, h4, h5⟩ := E; cases h1.symm.trans q; exact h4
theorem Arv.plainN {Z : State} {h : Heap} {a : Addr} {k : ClassId} {ty : FieldType} {z : Int32} {vs : List Value} {d : Value} (A : Arv Z h a k ty z vs d) : ∀ cell : Cell, h[a]? = some cell → cell.vm.isStatics = false := fun cell q => by
  obtain ⟨c, A, r⟩ := A; cases A.1.symm.trans q; exact A.plain
end Own
end Jvm.RoadKit
namespace Jvm.Pilot.@@N@@
open Jvm Jvm.ClassFile Sem Op Lib Jvm.Free Jvm.Stand Jvm.LawKit Jvm.RoadKit Bundle Jvm.Pilot.@@N@@.Jvm.D
theorem d_jdk_30_method_1_code_0 : decode jdk_30_method_1_code 0 = .ok (.aload_n 0, 1) := by decide +kernel
theorem d_jdk_30_method_1_code_1 : decode jdk_30_method_1_code 1 = .ok (.invokespecial 1, 3) := by decide +kernel
theorem d_jdk_30_method_1_code_4 : decode jdk_30_method_1_code 4 = .ok (.return_, 1) := by decide +kernel
def own_rec_Q (Z : State) (o0 : Addr)  (h0 : Heap) (n0 : Nat) (v : Option Value) (h : Heap) (L : List Loc) : Prop := v = none ∧ Fr n0 L ∧ h = h0
theorem own_rec_ef (m : MethodId) (o0 : Addr) : entryFrame m #[(.ref o0)] 1 = mkF m 0 #[.val (.ref o0)] [] := by first | (simp [entryFrame, mkF, argsToLocals, Value.category]; done) | rfl
theorem pn_Record : plainName "java/lang/Record" = true := by first | (simp [plainName, overriddenIn]; done) | decide +kernel
set_option maxRecDepth 65536 in
set_option maxHeartbeats 40000000 in
theorem own_rec_rm (l : Launch) (Z : State) (a0 : Array Value) (hw : ∀ d ∈ tables_1, d.before a0 Z = true) (ws : List Jvm.Cond) (o0 : Addr)  (h0 : Heap) (n0 : Nat) (Z0 : n0 ≤ h0.size)  :
    MetFree l (⟨"java/lang/Record", "<init>", "()V"⟩ : MethodName) (head1 (Jvm.Cond.code (⟨"java/lang/Record", "<init>", "()V"⟩ : MethodName) jdk_30_method_1_code 1 none :: ws) ({ frames := 1, cells := 0, slots := 0, locals := 12 } : Room)) (fun a U => a = #[(.ref o0)] ∧ Z.Warmed39 U.vm ∧ U.heap = h0) (fun _ _ _ _ _ => True) (fun _ U o U' => ∃ v L, o = .returned v ∧ own_rec_Q Z o0 h0 n0 v U'.heap L ∧ FrameEnd U o U' L ({ frames := 1, cells := 0, slots := 0, locals := 12 } : Room).cells ({ frames := 1, cells := 0, slots := 0, locals := 12 } : Room).slots) := by
  refine MetFree.of_bodySF (plainFor_of_name pn_Record) hisR ?_
  intro p e s m args below meth c s₁ Bd hml0 hP hK
  obtain ⟨rfl, hZ, hh⟩ := hP
  have hx := Bd.exec
  have hby := Bd.bytes
  have hml : c.maxLocals = 1 := hml0
  have hown : s.vm.findClass "java/lang/Record" = some m.cls := findClass_of_methodNamed Bd.named
  have hnm := (name_of_methodNamed Bd.named Bd.method).1
  have hlk : meth.locks = false := BodyLoose.notSynchronized Bd
  have hrt := Bd.returns
  have X0 : Stand p l e ({ frames := 1, cells := 0, slots := 0, locals := 12 } : Room) s m #[(.ref o0)] below meth c s₁ [] 0 0 := Stand.of_body Bd
  have e0 : s₁.heap = h0 := by rw [← hh, Bd.state]; rfl
  have N0 := Fr.nil n0
  refine Goes.enter (kc := ({ frames := 1, cells := 0, slots := 0, locals := 12 } : Room).cells) (kn := ({ frames := 1, cells := 0, slots := 0, locals := 12 } : Room).slots) (Q := own_rec_Q Z o0 h0 n0) (own_rec_ef m o0) ?_
  refine Goes.step (B := (s₁.setTop (mkF m 1 #[.val (.ref o0)] [(.ref o0)]))) (fun _ k => XS.aloadN X0.here hx rfl (hb hby d_jdk_30_method_1_code_0) rfl rfl k) ?_
  obtain ⟨T1, X1, e1, st1⟩ := initO X0 hx hZ hown (hw _ (List.mem_of_getElem? (i := 16) rfl)) (hw _ (List.mem_of_getElem? (i := 17) rfl)) (hw _ (List.mem_of_getElem? (i := 18) rfl)) e0 (g := (mkF m 1 #[.val (.ref o0)] [(.ref o0)])) rfl (by rw [hml]; rfl) rfl (hb hby d_jdk_30_method_1_code_1) (by decide) (W := 0) (by show 2 * 0 + _ ≤ _; exact Nat.le_of_eq rfl) (by decide)
  refine Goes.step (B := (T1.setTop (mkF m 4 #[.val (.ref o0)] []))) (fun _ k => st1 _ k) ?_
  refine Goes.retV X1 hx hlk hrt (hb hby d_jdk_30_method_1_code_4) ?_ (by decide) (by decide)
  rw [e1]
  exact ⟨rfl, N0, rfl⟩
theorem d_jdk_29_method_65_code_0 : decode jdk_29_method_65_code 0 = .ok (.iload_n 0, 1) := by decide +kernel
theorem d_jdk_29_method_65_code_1 : decode jdk_29_method_65_code 1 = .ok (.iload_n 1, 1) := by decide +kernel
theorem d_jdk_29_method_65_code_2 : decode jdk_29_method_65_code 2 = .ok (.if_icmp .lt 7, 3) := by decide +kernel
theorem d_jdk_29_method_65_code_9 : decode jdk_29_method_65_code 9 = .ok (.iload_n 1, 1) := by decide +kernel
theorem d_jdk_29_method_65_code_10 : decode jdk_29_method_65_code 10 = .ok (.ireturn, 1) := by decide +kernel
theorem d_jdk_29_method_65_code_5 : decode jdk_29_method_65_code 5 = .ok (.iload_n 0, 1) := by decide +kernel
theorem d_jdk_29_method_65_code_6 : decode jdk_29_method_65_code 6 = .ok (.goto 4, 3) := by decide +kernel
def own_max_fn (u0 : Int32) (u1 : Int32) : Int32 := (if u0 < u1 then u1 else u0)
def own_max_Q (Z : State) (u0 : Int32) (u1 : Int32)  (h0 : Heap) (n0 : Nat) (v : Option Value) (h : Heap) (L : List Loc) : Prop := v = some (.int (own_max_fn u0 u1)) ∧ Fr n0 L ∧ h = h0
theorem own_max_ef (m : MethodId) (u0 : Int32) (u1 : Int32) : entryFrame m #[(.int u0), (.int u1)] 2 = mkF m 0 #[.val (.int u0), .val (.int u1)] [] := by first | (simp [entryFrame, mkF, argsToLocals, Value.category]; done) | rfl
set_option maxRecDepth 65536 in
set_option maxHeartbeats 40000000 in
theorem own_max_rm (l : Launch) (Z : State) (a0 : Array Value) (hw : ∀ d ∈ tables_1, d.before a0 Z = true) (ws : List Jvm.Cond) (u0 : Int32) (u1 : Int32)  (h0 : Heap) (n0 : Nat) (Z0 : n0 ≤ h0.size)  :
    MetFree l (⟨"java/lang/Math", "max", "(II)I"⟩ : MethodName) (head1 (Jvm.Cond.code (⟨"java/lang/Math", "max", "(II)I"⟩ : MethodName) jdk_29_method_65_code 2 (some .int) :: ws) ({ frames := 0, cells := 0, slots := 0, locals := 0 } : Room)) (fun a U => a = #[(.int u0), (.int u1)] ∧ Z.Warmed39 U.vm ∧ U.heap = h0) (fun _ _ _ _ _ => True) (fun _ U o U' => ∃ v L, o = .returned v ∧ own_max_Q Z u0 u1 h0 n0 v U'.heap L ∧ FrameEnd U o U' L ({ frames := 0, cells := 0, slots := 0, locals := 0 } : Room).cells ({ frames := 0, cells := 0, slots := 0, locals := 0 } : Room).slots) := by
  refine MetFree.of_bodySF (Jvm.Free.JP.mathPlain rfl (by decide +kernel)) hisR ?_
  intro p e s m args below meth c s₁ Bd hml0 hP hK
  obtain ⟨rfl, hZ, hh⟩ := hP
  have hx := Bd.exec
  have hby := Bd.bytes
  have hml : c.maxLocals = 2 := hml0
  have hown : s.vm.findClass "java/lang/Math" = some m.cls := findClass_of_methodNamed Bd.named
  have hnm := (name_of_methodNamed Bd.named Bd.method).1
  have hlk : meth.locks = false := BodyLoose.notSynchronized Bd
  have hrt := Bd.returns
  have X0 : Stand p l e ({ frames := 0, cells := 0, slots := 0, locals := 0 } : Room) s m #[(.int u0), (.int u1)] below meth c s₁ [] 0 0 := Stand.of_body Bd
  have e0 : s₁.heap = h0 := by rw [← hh, Bd.state]; rfl
  have N0 := Fr.nil n0
  refine Goes.enter (kc := ({ frames := 0, cells := 0, slots := 0, locals := 0 } : Room).cells) (kn := ({ frames := 0, cells := 0, slots := 0, locals := 0 } : Room).slots) (Q := own_max_Q Z u0 u1 h0 n0) (own_max_ef m u0 u1) ?_
  refine Goes.step (B := (s₁.setTop (mkF m 1 #[.val (.int u0), .val (.int u1)] [(.int u0)]))) (fun _ k => XS.iloadN X0.here hx rfl (hb hby d_jdk_29_method_65_code_0) rfl k) ?_
  refine Goes.step (B := (s₁.setTop (mkF m 2 #[.val (.int u0), .val (.int u1)] [(.int u1), (.int u0)]))) (fun _ k => XS.iloadN X0.here hx rfl (hb hby d_jdk_29_method_65_code_1) rfl k) ?_
  by_cases hc1 : u0 < u1
  · refine Goes.step (B := (s₁.setTop (mkF m 9 #[.val (.int u0), .val (.int u1)] []))) (fun _ k => XS.icmpYes X0.here hx rfl (pc0 := 2) (pc' := 9) rfl (hb hby d_jdk_29_method_65_code_2) rfl (tlt hc1).1 (by decide) (by decide) k) ?_
    refine Goes.step (B := (s₁.setTop (mkF m 10 #[.val (.int u0), .val (.int u1)] [(.int u1)]))) (fun _ k => XS.iloadN X0.here hx rfl (hb hby d_jdk_29_method_65_code_9) rfl k) ?_
    refine Goes.retI X0 hx hlk hrt (hb hby d_jdk_29_method_65_code_10) ?_ (by decide) (by decide)
    rw [e0]
    exact ⟨congrArg (fun z => some (Value.int z)) (show u1 = (own_max_fn u0 u1) from (show u1 = u1 from rfl).trans (by simp only [own_max_fn, if_pos hc1])), N0, rfl⟩
  · refine Goes.step (B := (s₁.setTop (mkF m 5 #[.val (.int u0), .val (.int u1)] []))) (fun _ k => XS.icmpNo X0.here hx rfl (hb hby d_jdk_29_method_65_code_2) rfl (flt hc1).1 k) ?_
    refine Goes.step (B := (s₁.setTop (mkF m 6 #[.val (.int u0), .val (.int u1)] [(.int u0)]))) (fun _ k => XS.iloadN X0.here hx rfl (hb hby d_jdk_29_method_65_code_5) rfl k) ?_
    refine Goes.step (B := (s₁.setTop (mkF m 10 #[.val (.int u0), .val (.int u1)] [(.int u0)]))) (fun _ k => XS.goto X0.here hx rfl (pc0 := 6) (pc' := 10) rfl (hb hby d_jdk_29_method_65_code_6) (by decide) (by decide) k) ?_
    refine Goes.retI X0 hx hlk hrt (hb hby d_jdk_29_method_65_code_10) ?_ (by decide) (by decide)
    rw [e0]
    exact ⟨congrArg (fun z => some (Value.int z)) (show u0 = (own_max_fn u0 u1) from (show u0 = u0 from rfl).trans (by simp only [own_max_fn, if_neg hc1])), N0, rfl⟩
theorem d_prog_32_method_1_code_0 : decode prog_32_method_1_code 0 = .ok (.aload_n 0, 1) := by decide +kernel
theorem d_prog_32_method_1_code_1 : decode prog_32_method_1_code 1 = .ok (.invokespecial 1, 3) := by decide +kernel
theorem pd___V : parseMethodDescriptor "()V" = some ⟨[], none⟩ := by decide +kernel
theorem d_prog_32_method_1_code_4 : decode prog_32_method_1_code 4 = .ok (.iload_n 1, 1) := by decide +kernel
theorem d_prog_32_method_1_code_5 : decode prog_32_method_1_code 5 = .ok (.iconst 1, 1) := by decide +kernel
theorem d_prog_32_method_1_code_6 : decode prog_32_method_1_code 6 = .ok (.if_icmp .ge 17, 3) := by decide +kernel
theorem d_prog_32_method_1_code_23 : decode prog_32_method_1_code 23 = .ok (.iload_n 1, 1) := by decide +kernel
theorem d_prog_32_method_1_code_24 : decode prog_32_method_1_code 24 = .ok (.iload_n 2, 1) := by decide +kernel
theorem d_prog_32_method_1_code_25 : decode prog_32_method_1_code 25 = .ok (.if_icmp .le 18, 3) := by decide +kernel
theorem d_prog_32_method_1_code_43 : decode prog_32_method_1_code 43 = .ok (.aload_n 0, 1) := by decide +kernel
theorem d_prog_32_method_1_code_44 : decode prog_32_method_1_code 44 = .ok (.iload_n 1, 1) := by decide +kernel
theorem d_prog_32_method_1_code_45 : decode prog_32_method_1_code 45 = .ok (.putfield 19, 3) := by decide +kernel
theorem d_prog_32_method_1_code_48 : decode prog_32_method_1_code 48 = .ok (.aload_n 0, 1) := by decide +kernel
theorem d_prog_32_method_1_code_49 : decode prog_32_method_1_code 49 = .ok (.iload_n 2, 1) := by decide +kernel
theorem d_prog_32_method_1_code_50 : decode prog_32_method_1_code 50 = .ok (.putfield 25, 3) := by decide +kernel
theorem d_prog_32_method_1_code_53 : decode prog_32_method_1_code 53 = .ok (.return_, 1) := by decide +kernel
def own_dl_Q (Z : State) (o0 : Addr) (u0 : Int32) (u1 : Int32)  (h0 : Heap) (n0 : Nat) (v : Option Value) (h : Heap) (L : List Loc) : Prop := (v = none) ∧ (Fr n0 L) ∧ (Keep h0 h [o0]) ∧ (Exa Z h o0 "com/example/virmex/virmex/simulation/Delay") ∧ (Fld Z h o0 "com/example/virmex/virmex/simulation/Delay" "min" "I" (.int u0)) ∧ (Fld Z h o0 "com/example/virmex/virmex/simulation/Delay" "max" "I" (.int u1))
theorem own_dl_ef (m : MethodId) (o0 : Addr) (u0 : Int32) (u1 : Int32) : entryFrame m #[(.ref o0), (.int u0), (.int u1)] 3 = mkF m 0 #[.val (.ref o0), .val (.int u0), .val (.int u1)] [] := by first | (simp [entryFrame, mkF, argsToLocals, Value.category]; done) | rfl
theorem pn_Delay : plainName "com/example/virmex/virmex/simulation/Delay" = true := by first | (simp [plainName, overriddenIn]; done) | decide +kernel
set_option maxRecDepth 65536 in
set_option maxHeartbeats 40000000 in
theorem own_dl_rm (l : Launch) (Z : State) (a0 : Array Value) (hw : ∀ d ∈ tables_1, d.before a0 Z = true) (ws : List Jvm.Cond) (o0 : Addr) (u0 : Int32) (u1 : Int32)  (h0 : Heap) (n0 : Nat) (Z0 : n0 ≤ h0.size) (pr0 : Exa Z h0 o0 "com/example/virmex/virmex/simulation/Delay") (pr1 : Fld Z h0 o0 "com/example/virmex/virmex/simulation/Delay" "min" "I" (.int (0 : Int32))) (pr2 : Fld Z h0 o0 "com/example/virmex/virmex/simulation/Delay" "max" "I" (.int (0 : Int32))) (pr3 : n0 ≤ o0) (hu0 : ¬ u0 < (1 : Int32)) (hu1 : ¬ u1 < u0) :
    MetFree l (⟨"com/example/virmex/virmex/simulation/Delay", "<init>", "(II)V"⟩ : MethodName) (head1 (Jvm.Cond.code (⟨"com/example/virmex/virmex/simulation/Delay", "<init>", "(II)V"⟩ : MethodName) prog_32_method_1_code 3 none :: ws) ({ frames := 2, cells := 0, slots := 0, locals := 24 } : Room)) (fun a U => a = #[(.ref o0), (.int u0), (.int u1)] ∧ Z.Warmed39 U.vm ∧ U.heap = h0) (fun _ _ _ _ _ => True) (fun _ U o U' => ∃ v L, o = .returned v ∧ own_dl_Q Z o0 u0 u1 h0 n0 v U'.heap L ∧ FrameEnd U o U' L ({ frames := 2, cells := 0, slots := 0, locals := 24 } : Room).cells ({ frames := 2, cells := 0, slots := 0, locals := 24 } : Room).slots) := by
  refine MetFree.of_bodySF (plainFor_of_name pn_Delay) hisR ?_
  intro p e s m args below meth c s₁ Bd hml0 hP hK
  obtain ⟨rfl, hZ, hh⟩ := hP
  have hx := Bd.exec
  have hby := Bd.bytes
  have hml : c.maxLocals = 3 := hml0
  have hown : s.vm.findClass "com/example/virmex/virmex/simulation/Delay" = some m.cls := findClass_of_methodNamed Bd.named
  have hnm := (name_of_methodNamed Bd.named Bd.method).1
  have hlk : meth.locks = false := BodyLoose.notSynchronized Bd
  have hrt := Bd.returns
  have X0 : Stand p l e ({ frames := 2, cells := 0, slots := 0, locals := 24 } : Room) s m #[(.ref o0), (.int u0), (.int u1)] below meth c s₁ [] 0 0 := Stand.of_body Bd
  have e0 : s₁.heap = h0 := by rw [← hh, Bd.state]; rfl
  have N0 := Fr.nil n0
  refine Goes.enter (kc := ({ frames := 2, cells := 0, slots := 0, locals := 24 } : Room).cells) (kn := ({ frames := 2, cells := 0, slots := 0, locals := 24 } : Room).slots) (Q := own_dl_Q Z o0 u0 u1 h0 n0) (own_dl_ef m o0 u0 u1) ?_
  refine Goes.step (B := (s₁.setTop (mkF m 1 #[.val (.ref o0), .val (.int u0), .val (.int u1)] [(.ref o0)]))) (fun _ k => XS.aloadN X0.here hx rfl (hb hby d_prog_32_method_1_code_0) rfl rfl k) ?_
  obtain ⟨_, _, ⟨T1, L1, k1, n1⟩, -, X1, ⟨Lc1, hQ1, l1, y1, z1⟩, st1⟩ := X0.specialBack hx (y := (⟨"java/lang/Record", "<init>", "()V"⟩ : MethodName)) rfl hown (mvT hZ (hw _ (List.mem_of_getElem? (i := 11) rfl))) (mvT hZ (hw _ (List.mem_of_getElem? (i := 12) rfl))) (mvT hZ (hw _ (List.mem_of_getElem? (i := 15) rfl))) (by decide) (backOf (W := 0) (own_rec_rm l Z a0 hw [] o0  h0 n0 Z0 ) hZ (hw _ (List.mem_of_getElem? (i := 15) rfl)) (hw _ (List.mem_of_getElem? (i := 14) rfl)) (by decide) (by decide)) (g := (mkF m 1 #[.val (.ref o0), .val (.int u0), .val (.int u1)] [(.ref o0)])) rfl (by rw [hml]; rfl) (Steps.refl _) (a := o0) (argsL := []) (rest := []) (lenOf pd___V rfl) rfl (by show 2 * 0 + _ ≤ _; exact Nat.le_of_eq rfl) (hb hby d_prog_32_method_1_code_1) (fun _ _ => ⟨rfl, e0, (by decide : 0 + 0 ≤ _), (by decide : 0 + 0 ≤ _)⟩)
  dsimp only [Pt.U, Pt.locs, Pt.cells, Pt.slots] at X1 l1 y1 z1 st1 hQ1
  subst l1 y1 z1
  obtain ⟨rfl, N1q, e1⟩ := hQ1
  have N1 := Fr.app N0 N1q
  refine Goes.to (B := (T1.setTop (mkF m 4 #[.val (.ref o0), .val (.int u0), .val (.int u1)] []))) st1 ?_
  refine Goes.step (B := (T1.setTop (mkF m 5 #[.val (.ref o0), .val (.int u0), .val (.int u1)] [(.int u0)]))) (fun _ k => XS.iloadN X1.here hx rfl (hb hby d_prog_32_method_1_code_4) rfl k) ?_
  refine Goes.step (B := (T1.setTop (mkF m 6 #[.val (.ref o0), .val (.int u0), .val (.int u1)] [(.int (1 : Int32)), (.int u0)]))) (fun _ k => XS.iconst X1.here hx rfl (hb hby d_prog_32_method_1_code_5) k) ?_
  have hc2 : ¬ (u0 < (1 : Int32)) := hu0
  refine Goes.step (B := (T1.setTop (mkF m 23 #[.val (.ref o0), .val (.int u0), .val (.int u1)] []))) (fun _ k => XS.icmpYes X1.here hx rfl (pc0 := 6) (pc' := 23) rfl (hb hby d_prog_32_method_1_code_6) rfl (flt hc2).2.1 (by decide) (by decide) k) ?_
  refine Goes.step (B := (T1.setTop (mkF m 24 #[.val (.ref o0), .val (.int u0), .val (.int u1)] [(.int u0)]))) (fun _ k => XS.iloadN X1.here hx rfl (hb hby d_prog_32_method_1_code_23) rfl k) ?_
  refine Goes.step (B := (T1.setTop (mkF m 25 #[.val (.ref o0), .val (.int u0), .val (.int u1)] [(.int u1), (.int u0)]))) (fun _ k => XS.iloadN X1.here hx rfl (hb hby d_prog_32_method_1_code_24) rfl k) ?_
  have hc3 : ¬ (u1 < u0) := hu1
  refine Goes.step (B := (T1.setTop (mkF m 43 #[.val (.ref o0), .val (.int u0), .val (.int u1)] []))) (fun _ k => XS.icmpYes X1.here hx rfl (pc0 := 25) (pc' := 43) rfl (hb hby d_prog_32_method_1_code_25) rfl (flt hc3).2.2.2 (by decide) (by decide) k) ?_
  refine Goes.step (B := (T1.setTop (mkF m 44 #[.val (.ref o0), .val (.int u0), .val (.int u1)] [(.ref o0)]))) (fun _ k => XS.aloadN X1.here hx rfl (hb hby d_prog_32_method_1_code_43) rfl rfl k) ?_
  refine Goes.step (B := (T1.setTop (mkF m 45 #[.val (.ref o0), .val (.int u0), .val (.int u1)] [(.int u0), (.ref o0)]))) (fun _ k => XS.iloadN X1.here hx rfl (hb hby d_prog_32_method_1_code_44) rfl k) ?_
  obtain ⟨T4, h4, X4, e4, W4, st4⟩ := putF X1 hx hZ hown (host := "") (Or.inl (hw _ (List.mem_of_getElem? (i := 19) rfl))) Via.refl e1 pr1 pr0 (Or.inr ⟨(hw _ (List.mem_of_getElem? (i := 20) rfl)), rfl, hnm⟩) (hw _ (List.mem_of_getElem? (i := 6) rfl)) (ty := .int) (by decide) rfl rfl (g := (mkF m 45 #[.val (.ref o0), .val (.int u0), .val (.int u1)] [(.int u0), (.ref o0)])) rfl rfl (hb hby d_prog_32_method_1_code_45)
  have f5 := pr0.wr W4
  have f6 := pr2.other W4 (Or.inr (slot_ne (Or.inr (hw _ (List.mem_of_getElem? (i := 22) rfl))) (Or.inr (hw _ (List.mem_of_getElem? (i := 20) rfl))) (by decide) (t := .int) (t' := .int) (by decide) (by decide)))
  have N4 := Fr.snoc X4 N1 pr3
  have K4 : Keep h0 h4 [o0] := (Keep.refl h0 [o0]).wr W4 (Or.inl (List.mem_of_getElem? (i := 0) rfl))
  have Z4 : n0 ≤ h4.size := Nat.le_trans Z0 (Nat.le_of_eq W4.size.symm)
  have f7 : Fld Z h4 o0 "com/example/virmex/virmex/simulation/Delay" "min" "I" (.int u0) := pr1.same W4
  refine Goes.step (B := (T4.setTop (mkF m 48 #[.val (.ref o0), .val (.int u0), .val (.int u1)] []))) (fun _ k => st4 _ k) ?_
  refine Goes.step (B := (T4.setTop (mkF m 49 #[.val (.ref o0), .val (.int u0), .val (.int u1)] [(.ref o0)]))) (fun _ k => XS.aloadN X4.here hx rfl (hb hby d_prog_32_method_1_code_48) rfl rfl k) ?_
  refine Goes.step (B := (T4.setTop (mkF m 50 #[.val (.ref o0), .val (.int u0), .val (.int u1)] [(.int u1), (.ref o0)]))) (fun _ k => XS.iloadN X4.here hx rfl (hb hby d_prog_32_method_1_code_49) rfl k) ?_
  obtain ⟨T8, h8, X8, e8, W8, st8⟩ := putF X4 hx hZ hown (host := "") (Or.inl (hw _ (List.mem_of_getElem? (i := 21) rfl))) Via.refl e4 f6 f5 (Or.inr ⟨(hw _ (List.mem_of_getElem? (i := 22) rfl)), rfl, hnm⟩) (hw _ (List.mem_of_getElem? (i := 6) rfl)) (ty := .int) (by decide) rfl rfl (g := (mkF m 50 #[.val (.ref o0), .val (.int u0), .val (.int u1)] [(.int u1), (.ref o0)])) rfl rfl (hb hby d_prog_32_method_1_code_50)
  have f9 := f5.wr W8
  have f10 := f7.other W8 (Or.inr (slot_ne (Or.inr (hw _ (List.mem_of_getElem? (i := 20) rfl))) (Or.inr (hw _ (List.mem_of_getElem? (i := 22) rfl))) (by decide) (t := .int) (t' := .int) (by decide) (by decide)))
  have N8 := Fr.snoc X8 N4 pr3
  have K8 : Keep h0 h8 [o0] := K4.wr W8 (Or.inl (List.mem_of_getElem? (i := 0) rfl))
  have Z8 : n0 ≤ h8.size := Nat.le_trans Z4 (Nat.le_of_eq W8.size.symm)
  have f11 : Fld Z h8 o0 "com/example/virmex/virmex/simulation/Delay" "max" "I" (.int u1) := f6.same W8
  refine Goes.step (B := (T8.setTop (mkF m 53 #[.val (.ref o0), .val (.int u0), .val (.int u1)] []))) (fun _ k => st8 _ k) ?_
  refine Goes.retV X8 hx hlk hrt (hb hby d_prog_32_method_1_code_53) ?_ (by decide) (by decide)
  rw [e8]
  exact ⟨rfl, N8, K8, f9, f10, f11⟩
theorem own_irr (u : Int32) : ¬ u < u := Int32.lt_irrefl
theorem d_prog_32_method_2_code_0 : decode prog_32_method_2_code 0 = .ok (.new 20, 3) := by decide +kernel
theorem d_prog_32_method_2_code_3 : decode prog_32_method_2_code 3 = .ok (.dup, 1) := by decide +kernel
theorem d_prog_32_method_2_code_4 : decode prog_32_method_2_code 4 = .ok (.iload_n 0, 1) := by decide +kernel
theorem d_prog_32_method_2_code_5 : decode prog_32_method_2_code 5 = .ok (.iload_n 0, 1) := by decide +kernel
theorem d_prog_32_method_2_code_6 : decode prog_32_method_2_code 6 = .ok (.invokespecial 28, 3) := by decide +kernel
theorem pd__II_V : parseMethodDescriptor "(II)V" = some ⟨[.int, .int], none⟩ := by decide +kernel
theorem d_prog_32_method_2_code_9 : decode prog_32_method_2_code 9 = .ok (.areturn, 1) := by decide +kernel
def own_fx_Q (Z : State) (u0 : Int32)  (h0 : Heap) (n0 : Nat) (v : Option Value) (h : Heap) (L : List Loc) : Prop := ∃ (b : Addr), (v = some (.ref b)) ∧ (Fr n0 L) ∧ (Keep h0 h []) ∧ (n0 ≤ b) ∧ (h0.size ≤ b) ∧ (Exa Z h b "com/example/virmex/virmex/simulation/Delay") ∧ (Fld Z h b "com/example/virmex/virmex/simulation/Delay" "min" "I" (.int u0)) ∧ (Fld Z h b "com/example/virmex/virmex/simulation/Delay" "max" "I" (.int u0))
theorem own_fx_ef (m : MethodId) (u0 : Int32) : entryFrame m #[(.int u0)] 1 = mkF m 0 #[.val (.int u0)] [] := by first | (simp [entryFrame, mkF, argsToLocals, Value.category]; done) | rfl
set_option maxRecDepth 65536 in
set_option maxHeartbeats 40000000 in
theorem own_fx_rm (l : Launch) (Z : State) (a0 : Array Value) (hw : ∀ d ∈ tables_1, d.before a0 Z = true) (ws : List Jvm.Cond) (u0 : Int32)  (h0 : Heap) (n0 : Nat) (Z0 : n0 ≤ h0.size) (hu0 : ¬ u0 < (1 : Int32)) :
    MetFree l (⟨"com/example/virmex/virmex/simulation/Delay", "fixed", "(I)Lcom/example/virmex/virmex/simulation/Delay;"⟩ : MethodName) (head1 (Jvm.Cond.code (⟨"com/example/virmex/virmex/simulation/Delay", "fixed", "(I)Lcom/example/virmex/virmex/simulation/Delay;"⟩ : MethodName) prog_32_method_2_code 1 (some (.object "com/example/virmex/virmex/simulation/Delay")) :: ws) ({ frames := 3, cells := 1, slots := 2, locals := 39 } : Room)) (fun a U => a = #[(.int u0)] ∧ Z.Warmed39 U.vm ∧ U.heap = h0) (fun _ _ _ _ _ => True) (fun _ U o U' => ∃ v L, o = .returned v ∧ own_fx_Q Z u0 h0 n0 v U'.heap L ∧ FrameEnd U o U' L ({ frames := 3, cells := 1, slots := 2, locals := 39 } : Room).cells ({ frames := 3, cells := 1, slots := 2, locals := 39 } : Room).slots) := by
  refine MetFree.of_bodySF (plainFor_of_name pn_Delay) hisR ?_
  intro p e s m args below meth c s₁ Bd hml0 hP hK
  obtain ⟨rfl, hZ, hh⟩ := hP
  have hx := Bd.exec
  have hby := Bd.bytes
  have hml : c.maxLocals = 1 := hml0
  have hown : s.vm.findClass "com/example/virmex/virmex/simulation/Delay" = some m.cls := findClass_of_methodNamed Bd.named
  have hnm := (name_of_methodNamed Bd.named Bd.method).1
  have hlk : meth.locks = false := BodyLoose.notSynchronized Bd
  have hrt := Bd.returns
  have X0 : Stand p l e ({ frames := 3, cells := 1, slots := 2, locals := 39 } : Room) s m #[(.int u0)] below meth c s₁ [] 0 0 := Stand.of_body Bd
  have e0 : s₁.heap = h0 := by rw [← hh, Bd.state]; rfl
  have N0 := Fr.nil n0
  refine Goes.enter (kc := ({ frames := 3, cells := 1, slots := 2, locals := 39 } : Room).cells) (kn := ({ frames := 3, cells := 1, slots := 2, locals := 39 } : Room).slots) (Q := own_fx_Q Z u0 h0 n0) (own_fx_ef m u0) ?_
  obtain ⟨T1, h1, X1, e1, E1, A1, D1, -, st1⟩ := newO X0 hx hZ hown (hw _ (List.mem_of_getElem? (i := 26) rfl)) (hw _ (List.mem_of_getElem? (i := 6) rfl)) (hw _ (List.mem_of_getElem? (i := 7) rfl)) e0 (g := (mkF m 0 #[.val (.int u0)] [])) rfl (hb hby d_prog_32_method_2_code_0) (by decide) (by decide)
  obtain ⟨b1, g1⟩ : ∃ z, z = h0.size := ⟨_, rfl⟩
  rw [← g1] at A1 D1 st1
  have gn1 : n0 ≤ b1 := Nat.le_trans Z0 (Nat.le_of_eq g1.symm)
  have sz1 : h0.size ≤ b1 := Nat.le_trans (Keep.refl h0 []).1 (Nat.le_of_eq g1.symm)
  have f2 : Fld Z h1 b1 "com/example/virmex/virmex/simulation/Delay" "min" "I" (.int (0 : Int32)) := D1 (Or.inr (hw _ (List.mem_of_getElem? (i := 20) rfl))) (ty := .int) (by decide)
  have f3 : Fld Z h1 b1 "com/example/virmex/virmex/simulation/Delay" "max" "I" (.int (0 : Int32)) := D1 (Or.inr (hw _ (List.mem_of_getElem? (i := 22) rfl))) (ty := .int) (by decide)
  have Z1 : n0 ≤ h1.size := Nat.le_trans Z0 E1.1
  have K1 : Keep h0 h1 [] := (Keep.refl h0 []).ext E1
  refine Goes.step (B := (T1.setTop (mkF m 3 #[.val (.int u0)] [(.ref b1)]))) (fun _ k => st1 _ k) ?_
  refine Goes.step (B := (T1.setTop (mkF m 4 #[.val (.int u0)] [(.ref b1), (.ref b1)]))) (fun _ k => XS.dup X1.here hx rfl (hb hby d_prog_32_method_2_code_3) rfl rfl k) ?_
  refine Goes.step (B := (T1.setTop (mkF m 5 #[.val (.int u0)] [(.int u0), (.ref b1), (.ref b1)]))) (fun _ k => XS.iloadN X1.here hx rfl (hb hby d_prog_32_method_2_code_4) rfl k) ?_
  refine Goes.step (B := (T1.setTop (mkF m 6 #[.val (.int u0)] [(.int u0), (.int u0), (.ref b1), (.ref b1)]))) (fun _ k => XS.iloadN X1.here hx rfl (hb hby d_prog_32_method_2_code_5) rfl k) ?_
  obtain ⟨_, _, ⟨T4, L4, k4, n4⟩, -, X4, ⟨Lc4, hQ4, l4, y4, z4⟩, st4⟩ := X1.specialBack hx (y := (⟨"com/example/virmex/virmex/simulation/Delay", "<init>", "(II)V"⟩ : MethodName)) rfl hown (mvT hZ (hw _ (List.mem_of_getElem? (i := 27) rfl))) (mvT hZ (hw _ (List.mem_of_getElem? (i := 9) rfl))) (mvT hZ (hw _ (List.mem_of_getElem? (i := 10) rfl))) (by decide) (backOf (W := 1) (own_dl_rm l Z a0 hw [] b1 u0 u0  h1 n0 Z1 A1 f2 f3 gn1 hu0 (own_irr u0)) hZ (hw _ (List.mem_of_getElem? (i := 10) rfl)) (hw _ (List.mem_of_getElem? (i := 7) rfl)) (by decide) (by decide)) (g := (mkF m 6 #[.val (.int u0)] [(.int u0), (.int u0), (.ref b1), (.ref b1)])) rfl (by rw [hml]; rfl) (Steps.refl _) (a := b1) (argsL := [(.int u0), (.int u0)]) (rest := [(.ref b1)]) (lenOf pd__II_V rfl) rfl (by show 2 * 0 + _ ≤ _; exact Nat.le_of_eq rfl) (hb hby d_prog_32_method_2_code_6) (fun _ _ => ⟨rfl, e1, (by decide : 1 + 0 ≤ _), (by decide : 2 + 0 ≤ _)⟩)
  dsimp only [Pt.U, Pt.locs, Pt.cells, Pt.slots] at X4 l4 y4 z4 st4 hQ4
  subst l4 y4 z4
  obtain ⟨rfl, N4q, K4q, p4_0, p4_1, p4_2⟩ := hQ4
  have N4 := Fr.app N0 N4q
  have f5 := A1.keep K4q
  have K4 : Keep h0 T4.heap [] := Keep.trans K1 K4q (fun y q => by cases List.mem_singleton.mp q; exact (Or.inr sz1))
  have Z4 : n0 ≤ T4.heap.size := Nat.le_trans Z1 K4q.1
  refine Goes.to (B := (T4.setTop (mkF m 9 #[.val (.int u0)] [(.ref b1)]))) st4 ?_
  refine Goes.retR X4 hx hlk hrt rfl rfl rfl (hb hby d_prog_32_method_2_code_9) ?_ (by decide) (by decide)
  exact ⟨b1, rfl, N4, K4, gn1, sz1, p4_0, p4_1, p4_2⟩
theorem d_prog_32_method_4_code_0 : decode prog_32_method_4_code 0 = .ok (.aload_n 0, 1) := by decide +kernel
theorem d_prog_32_method_4_code_1 : decode prog_32_method_4_code 1 = .ok (.getfield 19, 3) := by decide +kernel
theorem d_prog_32_method_4_code_4 : decode prog_32_method_4_code 4 = .ok (.aload_n 0, 1) := by decide +kernel
theorem d_prog_32_method_4_code_5 : decode prog_32_method_4_code 5 = .ok (.getfield 25, 3) := by decide +kernel
theorem d_prog_32_method_4_code_8 : decode prog_32_method_4_code 8 = .ok (.if_icmp .ge 7, 3) := by decide +kernel
theorem d_prog_32_method_4_code_11 : decode prog_32_method_4_code 11 = .ok (.iconst 1, 1) := by decide +kernel
theorem d_prog_32_method_4_code_12 : decode prog_32_method_4_code 12 = .ok (.goto 4, 3) := by decide +kernel
theorem d_prog_32_method_4_code_16 : decode prog_32_method_4_code 16 = .ok (.ireturn, 1) := by decide +kernel
theorem d_prog_32_method_4_code_15 : decode prog_32_method_4_code 15 = .ok (.iconst 0, 1) := by decide +kernel
def own_ro_fn (i0 : Int32) (i1 : Int32) : Int32 := (if i0 < i1 then (1 : Int32) else (0 : Int32))
def own_ro_Q (Z : State) (o0 : Addr) (i0 : Int32) (i1 : Int32) (h0 : Heap) (n0 : Nat) (v : Option Value) (h : Heap) (L : List Loc) : Prop := v = some (.int (own_ro_fn i0 i1)) ∧ Fr n0 L ∧ h = h0
theorem own_ro_ef (m : MethodId) (o0 : Addr) : entryFrame m #[(.ref o0)] 1 = mkF m 0 #[.val (.ref o0)] [] := by first | (simp [entryFrame, mkF, argsToLocals, Value.category]; done) | rfl
set_option maxRecDepth 65536 in
set_option maxHeartbeats 40000000 in
theorem own_ro_rm (l : Launch) (Z : State) (a0 : Array Value) (hw : ∀ d ∈ tables_1, d.before a0 Z = true) (ws : List Jvm.Cond) (o0 : Addr) (i0 : Int32) (i1 : Int32) (h0 : Heap) (n0 : Nat) (Z0 : n0 ≤ h0.size) (pr0 : Fld Z h0 o0 "com/example/virmex/virmex/simulation/Delay" "min" "I" (.int i0)) (pr1 : Fld Z h0 o0 "com/example/virmex/virmex/simulation/Delay" "max" "I" (.int i1)) :
    MetFree l (⟨"com/example/virmex/virmex/simulation/Delay", "reorders", "()Z"⟩ : MethodName) (head1 (Jvm.Cond.code (⟨"com/example/virmex/virmex/simulation/Delay", "reorders", "()Z"⟩ : MethodName) prog_32_method_4_code 1 (some .boolean) :: ws) ({ frames := 0, cells := 0, slots := 0, locals := 0 } : Room)) (fun a U => a = #[(.ref o0)] ∧ Z.Warmed39 U.vm ∧ U.heap = h0) (fun _ _ _ _ _ => True) (fun _ U o U' => ∃ v L, o = .returned v ∧ own_ro_Q Z o0 i0 i1 h0 n0 v U'.heap L ∧ FrameEnd U o U' L ({ frames := 0, cells := 0, slots := 0, locals := 0 } : Room).cells ({ frames := 0, cells := 0, slots := 0, locals := 0 } : Room).slots) := by
  refine MetFree.of_bodySF (plainFor_of_name pn_Delay) hisR ?_
  intro p e s m args below meth c s₁ Bd hml0 hP hK
  obtain ⟨rfl, hZ, hh⟩ := hP
  have hx := Bd.exec
  have hby := Bd.bytes
  have hml : c.maxLocals = 1 := hml0
  have hown : s.vm.findClass "com/example/virmex/virmex/simulation/Delay" = some m.cls := findClass_of_methodNamed Bd.named
  have hnm := (name_of_methodNamed Bd.named Bd.method).1
  have hlk : meth.locks = false := BodyLoose.notSynchronized Bd
  have hrt := Bd.returns
  have X0 : Stand p l e ({ frames := 0, cells := 0, slots := 0, locals := 0 } : Room) s m #[(.ref o0)] below meth c s₁ [] 0 0 := Stand.of_body Bd
  have e0 : s₁.heap = h0 := by rw [← hh, Bd.state]; rfl
  have N0 := Fr.nil n0
  refine Goes.enter (kc := ({ frames := 0, cells := 0, slots := 0, locals := 0 } : Room).cells) (kn := ({ frames := 0, cells := 0, slots := 0, locals := 0 } : Room).slots) (Q := own_ro_Q Z o0 i0 i1 h0 n0) (own_ro_ef m o0) ?_
  refine Goes.step (B := (s₁.setTop (mkF m 1 #[.val (.ref o0)] [(.ref o0)]))) (fun _ k => XS.aloadN X0.here hx rfl (hb hby d_prog_32_method_4_code_0) rfl rfl k) ?_
  obtain ⟨T1, X1, e1, st1⟩ := getF X0 hx hZ hown (host := "") (Or.inl (hw _ (List.mem_of_getElem? (i := 19) rfl))) Via.refl e0 pr0 (g := (mkF m 1 #[.val (.ref o0)] [(.ref o0)])) rfl rfl (hb hby d_prog_32_method_4_code_1)
  refine Goes.step (B := (T1.setTop (mkF m 4 #[.val (.ref o0)] [(.int i0)]))) (fun _ k => st1 _ k) ?_
  refine Goes.step (B := (T1.setTop (mkF m 5 #[.val (.ref o0)] [(.ref o0), (.int i0)]))) (fun _ k => XS.aloadN X1.here hx rfl (hb hby d_prog_32_method_4_code_4) rfl rfl k) ?_
  obtain ⟨T2, X2, e2, st2⟩ := getF X1 hx hZ hown (host := "") (Or.inl (hw _ (List.mem_of_getElem? (i := 21) rfl))) Via.refl e1 pr1 (g := (mkF m 5 #[.val (.ref o0)] [(.ref o0), (.int i0)])) rfl rfl (hb hby d_prog_32_method_4_code_5)
  refine Goes.step (B := (T2.setTop (mkF m 8 #[.val (.ref o0)] [(.int i1), (.int i0)]))) (fun _ k => st2 _ k) ?_
  by_cases hc3 : i0 < i1
  · refine Goes.step (B := (T2.setTop (mkF m 11 #[.val (.ref o0)] []))) (fun _ k => XS.icmpNo X2.here hx rfl (hb hby d_prog_32_method_4_code_8) rfl (tlt hc3).2.1 k) ?_
    refine Goes.step (B := (T2.setTop (mkF m 12 #[.val (.ref o0)] [(.int (1 : Int32))]))) (fun _ k => XS.iconst X2.here hx rfl (hb hby d_prog_32_method_4_code_11) k) ?_
    refine Goes.step (B := (T2.setTop (mkF m 16 #[.val (.ref o0)] [(.int (1 : Int32))]))) (fun _ k => XS.goto X2.here hx rfl (pc0 := 12) (pc' := 16) rfl (hb hby d_prog_32_method_4_code_12) (by decide) (by decide) k) ?_
    refine Goes.retN X2 hx hlk (t := .boolean) hrt (by simp) (hb hby d_prog_32_method_4_code_16) ?_ (by decide) (by decide)
    rw [e2]
    exact ⟨congrArg (fun z => some (Value.int z)) (show nar .boolean (1 : Int32) = (own_ro_fn i0 i1) from (show nar .boolean (1 : Int32) = (1 : Int32) from rfl).trans (by simp only [own_ro_fn, if_pos hc3])), N0, rfl⟩
  · refine Goes.step (B := (T2.setTop (mkF m 15 #[.val (.ref o0)] []))) (fun _ k => XS.icmpYes X2.here hx rfl (pc0 := 8) (pc' := 15) rfl (hb hby d_prog_32_method_4_code_8) rfl (flt hc3).2.1 (by decide) (by decide) k) ?_
    refine Goes.step (B := (T2.setTop (mkF m 16 #[.val (.ref o0)] [(.int (0 : Int32))]))) (fun _ k => XS.iconst X2.here hx rfl (hb hby d_prog_32_method_4_code_15) k) ?_
    refine Goes.retN X2 hx hlk (t := .boolean) hrt (by simp) (hb hby d_prog_32_method_4_code_16) ?_ (by decide) (by decide)
    rw [e2]
    exact ⟨congrArg (fun z => some (Value.int z)) (show nar .boolean (0 : Int32) = (own_ro_fn i0 i1) from (show nar .boolean (0 : Int32) = (0 : Int32) from rfl).trans (by simp only [own_ro_fn, if_neg hc3])), N0, rfl⟩
def own_a (x0 : Int32) : Int32 := (own_max_fn (1 : Int32) (x0 &&& (2147483647 : Int32)))
def own_sp (x0 : Int32) : Int32 := (((2147483647 : Int32) - (own_a x0)) + (1 : Int32))
def own_law_j20 (x0 : Int32) (x1 : Int32) (x2 : Int32) : Int32 := (if (x2 &&& (1 : Int32)) = (0 : Int32) then ((own_a x0) + ((x1 &&& (2147483647 : Int32)) % (own_sp x0))) else (own_a x0))
def own_law_j55 (x0 : Int32) (x1 : Int32) (x2 : Int32) : Int32 := (if (own_a x0) = (own_law_j20 x0 x1 x2) then (0 : Int32) else (1 : Int32))
theorem own_abd (x0 : Int32) : 1 ≤ (own_a x0).toInt ∧ (own_a x0).toInt ≤ 2147483647 := by
  have h1 := c_mask x0 2147483647 31 (by decide) (by decide)
  have h2 := rng32 (x0 &&& 2147483647)
  have k : (1 : Int32).toInt = 1 := by decide
  unfold own_a own_max_fn
  split
  · rename_i h; rw [Int32.lt_iff_toInt_lt] at h; omega
  · omega
theorem own_a1 (x0 : Int32) : ¬ own_a x0 < (1 : Int32) := by
  have := own_abd x0
  have k : (1 : Int32).toInt = 1 := by decide
  rw [Int32.lt_iff_toInt_lt]; omega
theorem own_spb (x0 : Int32) : (own_sp x0).toInt = 2147483648 - (own_a x0).toInt := by
  have h1 := own_abd x0
  have h2 := c_isub 2147483647 (own_a x0)
  have h3 := rng32 (2147483647 - own_a x0)
  have h4 := c_iadd (2147483647 - own_a x0) 1
  have h5 := rng32 (2147483647 - own_a x0 + 1)
  have k : (1 : Int32).toInt = 1 := by decide
  have k2 : (2147483647 : Int32).toInt = 2147483647 := by decide
  show (2147483647 - own_a x0 + 1 : Int32).toInt = _
  omega
theorem own_spnz (x0 : Int32) : own_sp x0 ≠ 0 := fun q => by
  have h1 := own_abd x0
  have h2 := own_spb x0
  rw [q] at h2
  have k : (0 : Int32).toInt = 0 := by decide
  omega
theorem own_jb (x0 x1 x2 : Int32) : (own_a x0).toInt ≤ (own_law_j20 x0 x1 x2).toInt := by
  have h1 := own_abd x0
  have h2 := own_spb x0
  unfold own_law_j20
  split
  · have h3 := c_mask x1 2147483647 31 (by decide) (by decide)
    have h4 := (c_iremV (x1 &&& 2147483647) (own_sp x0)).1 (by omega) (by omega)
    have h5 := c_iadd (own_a x0) ((x1 &&& 2147483647) % own_sp x0)
    have h6 := rng32 (own_a x0 + ((x1 &&& 2147483647) % own_sp x0))
    omega
  · omega
theorem own_ab (x0 x1 x2 : Int32) : ¬ own_law_j20 x0 x1 x2 < own_a x0 := by
  have := own_jb x0 x1 x2
  rw [Int32.lt_iff_toInt_lt]; omega
theorem own_t1 (x0 x1 x2 : Int32) : own_ro_fn (own_a x0) (own_law_j20 x0 x1 x2) = own_law_j55 x0 x1 x2 := by
  have := own_jb x0 x1 x2
  unfold own_ro_fn own_law_j55
  by_cases h : own_a x0 = own_law_j20 x0 x1 x2
  · rw [if_pos h, ← h, if_neg (own_irr _)]
  · have h2 : own_a x0 < own_law_j20 x0 x1 x2 := by
      rw [Int32.lt_iff_toInt_lt]
      have : (own_a x0).toInt ≠ (own_law_j20 x0 x1 x2).toInt := fun q => h (Int32.toInt_inj.mp q)
      omega
    rw [if_neg h, if_pos h2]
theorem own_t2 (x0 : Int32) : own_ro_fn (own_a x0) (own_a x0) = (0 : Int32) := by
  rw [own_ro_fn, if_neg (own_irr _)]

theorem pd__II_I : parseMethodDescriptor "(II)I" = some ⟨[.int, .int], some .int⟩ := by decide +kernel
theorem pd__I_Lvirmex_virmex_simulation_Delay_ : parseMethodDescriptor "(I)Lcom/example/virmex/virmex/simulation/Delay;" = some ⟨[.int], some (.object "com/example/virmex/virmex/simulation/Delay")⟩ := by decide +kernel
theorem pd___Z : parseMethodDescriptor "()Z" = some ⟨[], some .boolean⟩ := by decide +kernel
def own_law_Q (Z : State) (x0 : Int32) (x1 : Int32) (x2 : Int32)  (h0 : Heap) (n0 : Nat) (v : Option Value) (h : Heap) (L : List Loc) : Prop := v = some (.int 1) ∧ Fr n0 L
theorem own_law_ef (m : MethodId) (x0 : Int32) (x1 : Int32) (x2 : Int32) : entryFrame m #[(.int x0), (.int x1), (.int x2)] maxLocals = mkF m 0 #[.val (.int x0), .val (.int x1), .val (.int x2), .unset, .unset, .unset, .unset, .unset, .unset] [] := by first | (simp [entryFrame, mkF, argsToLocals, Value.category, maxLocals]; done) | rfl
theorem pn_DelayReordersPinLaw : plainName "com/example/virmex/virmex/simulation/DelayReordersPinLaw" = true := by first | (simp [plainName, overriddenIn]; done) | decide +kernel
set_option maxRecDepth 65536 in
set_option maxHeartbeats 40000000 in
theorem own_law_rm (l : Launch) (Z : State) (a0 : Array Value) (hw : ∀ d ∈ tables_1, d.before a0 Z = true) (ws : List Jvm.Cond) (x0 : Int32) (x1 : Int32) (x2 : Int32)  (h0 : Heap) (n0 : Nat) (Z0 : n0 ≤ h0.size)  :
    MetFree l x (head1 (Jvm.Cond.code x code maxLocals ret :: ws) room_1) (fun a U => a = #[(.int x0), (.int x1), (.int x2)] ∧ Z.Warmed39 U.vm ∧ U.heap = h0) (fun _ _ _ _ _ => True) (fun _ U o U' => ∃ v L, o = .returned v ∧ own_law_Q Z x0 x1 x2 h0 n0 v U'.heap L ∧ FrameEnd U o U' L room_1.cells room_1.slots) := by
  refine MetFree.of_bodySF (plainFor_of_name pn_DelayReordersPinLaw) hisR ?_
  intro p e s m args below meth c s₁ Bd hml0 hP hK
  obtain ⟨rfl, hZ, hh⟩ := hP
  have hx := Bd.exec
  have hby := Bd.bytes
  have hml : c.maxLocals = 9 := hml0
  have hown : s.vm.findClass "com/example/virmex/virmex/simulation/DelayReordersPinLaw" = some m.cls := findClass_of_methodNamed Bd.named
  have hnm := (name_of_methodNamed Bd.named Bd.method).1
  have hlk : meth.locks = false := BodyLoose.notSynchronized Bd
  have hrt := Bd.returns
  have X0 : Stand p l e room_1 s m #[(.int x0), (.int x1), (.int x2)] below meth c s₁ [] 0 0 := Stand.of_body Bd
  have e0 : s₁.heap = h0 := by rw [← hh, Bd.state]; rfl
  have N0 := Fr.nil n0
  refine Goes.enter (kc := room_1.cells) (kn := room_1.slots) (Q := own_law_Q Z x0 x1 x2 h0 n0) (own_law_ef m x0 x1 x2) ?_
  refine Goes.step (B := (s₁.setTop (mkF m 1 #[.val (.int x0), .val (.int x1), .val (.int x2), .unset, .unset, .unset, .unset, .unset, .unset] [(.int (1 : Int32))]))) (fun _ k => XS.iconst X0.here hx rfl (hb hby at_0) k) ?_
  refine Goes.step (B := (s₁.setTop (mkF m 2 #[.val (.int x0), .val (.int x1), .val (.int x2), .unset, .unset, .unset, .unset, .unset, .unset] [(.int x0), (.int (1 : Int32))]))) (fun _ k => XS.iloadN X0.here hx rfl (hb hby at_1) rfl k) ?_
  refine Goes.step (B := (s₁.setTop (mkF m 4 #[.val (.int x0), .val (.int x1), .val (.int x2), .unset, .unset, .unset, .unset, .unset, .unset] [(.int (2147483647 : Int32)), (.int x0), (.int (1 : Int32))]))) (fun _ k => X0.ldcInt hx hown (mvT hZ (hw _ (List.mem_of_getElem? (i := 0) rfl))) (g := (mkF m 2 #[.val (.int x0), .val (.int x1), .val (.int x2), .unset, .unset, .unset, .unset, .unset, .unset] [(.int x0), (.int (1 : Int32))])) rfl (hb hby at_2) _ k) ?_
  refine Goes.step (B := (s₁.setTop (mkF m 5 #[.val (.int x0), .val (.int x1), .val (.int x2), .unset, .unset, .unset, .unset, .unset, .unset] [(.int (x0 &&& (2147483647 : Int32))), (.int (1 : Int32))]))) (fun _ k => XS.iand X0.here hx rfl (hb hby at_4) rfl k) ?_
  obtain ⟨_, _, ⟨T1, L1, k1, n1⟩, -, X1, ⟨Lc1, hQ1, l1, y1, z1⟩, st1⟩ := Jvm.LawKit.callS X0 hx (y := (⟨"java/lang/Math", "max", "(II)I"⟩ : MethodName)) hown (mvT hZ (hw _ (List.mem_of_getElem? (i := 1) rfl))) (mvT hZ (hw _ (List.mem_of_getElem? (i := 2) rfl))) (mvT hZ (hw _ (List.mem_of_getElem? (i := 3) rfl))) (mvT hZ (hw _ (List.mem_of_getElem? (i := 4) rfl))) (by decide) (backOf (W := 0) (own_max_rm l Z a0 hw [] (1 : Int32) (x0 &&& (2147483647 : Int32))  h0 n0 Z0 ) hZ (hw _ (List.mem_of_getElem? (i := 4) rfl)) (hw _ (List.mem_of_getElem? (i := 3) rfl)) (by decide) (by decide)) (g := (mkF m 5 #[.val (.int x0), .val (.int x1), .val (.int x2), .unset, .unset, .unset, .unset, .unset, .unset] [(.int (x0 &&& (2147483647 : Int32))), (.int (1 : Int32))])) rfl (by rw [hml]; rfl) (argsL := [(.int (1 : Int32)), (.int (x0 &&& (2147483647 : Int32)))]) (rest := []) (lenOf pd__II_I rfl) rfl (by show 2 * 0 + _ ≤ _; exact Nat.le_of_eq rfl) (hb hby at_5) (fun _ _ => ⟨rfl, e0, (by decide : 0 + 0 ≤ _), (by decide : 0 + 0 ≤ _)⟩)
  dsimp only [Pt.U, Pt.locs, Pt.cells, Pt.slots] at X1 l1 y1 z1 st1 hQ1
  subst l1 y1 z1
  obtain ⟨rfl, N1q, e1⟩ := hQ1
  have N1 := Fr.app N0 N1q
  refine Goes.step (B := (T1.setTop (mkF m 8 #[.val (.int x0), .val (.int x1), .val (.int x2), .unset, .unset, .unset, .unset, .unset, .unset] [(.int (own_max_fn (1 : Int32) (x0 &&& (2147483647 : Int32))))]))) (fun _ k => st1 _ k) ?_
  refine Goes.step (B := (T1.setTop (mkF m 9 #[.val (.int x0), .val (.int x1), .val (.int x2), .val (.int (own_a x0)), .unset, .unset, .unset, .unset, .unset] []))) (fun _ k => XS.istoreN X1.here hx rfl (hb hby at_8) rfl (l' := #[.val (.int x0), .val (.int x1), .val (.int x2), .val (.int (own_a x0)), .unset, .unset, .unset, .unset, .unset]) rfl k) ?_
  refine Goes.step (B := (T1.setTop (mkF m 11 #[.val (.int x0), .val (.int x1), .val (.int x2), .val (.int (own_a x0)), .unset, .unset, .unset, .unset, .unset] [(.int (2147483647 : Int32))]))) (fun _ k => X1.ldcInt hx hown (mvT hZ (hw _ (List.mem_of_getElem? (i := 0) rfl))) (g := (mkF m 9 #[.val (.int x0), .val (.int x1), .val (.int x2), .val (.int (own_a x0)), .unset, .unset, .unset, .unset, .unset] [])) rfl (hb hby at_9) _ k) ?_
  refine Goes.step (B := (T1.setTop (mkF m 12 #[.val (.int x0), .val (.int x1), .val (.int x2), .val (.int (own_a x0)), .unset, .unset, .unset, .unset, .unset] [(.int (own_a x0)), (.int (2147483647 : Int32))]))) (fun _ k => XS.iloadN X1.here hx rfl (hb hby at_11) rfl k) ?_
  refine Goes.step (B := (T1.setTop (mkF m 13 #[.val (.int x0), .val (.int x1), .val (.int x2), .val (.int (own_a x0)), .unset, .unset, .unset, .unset, .unset] [(.int ((2147483647 : Int32) - (own_a x0)))]))) (fun _ k => XS.isub X1.here hx rfl (hb hby at_12) rfl k) ?_
  refine Goes.step (B := (T1.setTop (mkF m 14 #[.val (.int x0), .val (.int x1), .val (.int x2), .val (.int (own_a x0)), .unset, .unset, .unset, .unset, .unset] [(.int (1 : Int32)), (.int ((2147483647 : Int32) - (own_a x0)))]))) (fun _ k => XS.iconst X1.here hx rfl (hb hby at_13) k) ?_
  refine Goes.step (B := (T1.setTop (mkF m 15 #[.val (.int x0), .val (.int x1), .val (.int x2), .val (.int (own_a x0)), .unset, .unset, .unset, .unset, .unset] [(.int (((2147483647 : Int32) - (own_a x0)) + (1 : Int32)))]))) (fun _ k => XS.iadd X1.here hx rfl (hb hby at_14) rfl k) ?_
  refine Goes.step (B := (T1.setTop (mkF m 17 #[.val (.int x0), .val (.int x1), .val (.int x2), .val (.int (own_a x0)), .val (.int (own_sp x0)), .unset, .unset, .unset, .unset] []))) (fun _ k => XS.istore X1.here hx rfl (hb hby at_15) rfl (l' := #[.val (.int x0), .val (.int x1), .val (.int x2), .val (.int (own_a x0)), .val (.int (own_sp x0)), .unset, .unset, .unset, .unset]) rfl k) ?_
  refine Goes.step (B := (T1.setTop (mkF m 18 #[.val (.int x0), .val (.int x1), .val (.int x2), .val (.int (own_a x0)), .val (.int (own_sp x0)), .unset, .unset, .unset, .unset] [(.int x2)]))) (fun _ k => XS.iloadN X1.here hx rfl (hb hby at_17) rfl k) ?_
  refine Goes.step (B := (T1.setTop (mkF m 19 #[.val (.int x0), .val (.int x1), .val (.int x2), .val (.int (own_a x0)), .val (.int (own_sp x0)), .unset, .unset, .unset, .unset] [(.int (1 : Int32)), (.int x2)]))) (fun _ k => XS.iconst X1.here hx rfl (hb hby at_18) k) ?_
  refine Goes.step (B := (T1.setTop (mkF m 20 #[.val (.int x0), .val (.int x1), .val (.int x2), .val (.int (own_a x0)), .val (.int (own_sp x0)), .unset, .unset, .unset, .unset] [(.int (x2 &&& (1 : Int32)))]))) (fun _ k => XS.iand X1.here hx rfl (hb hby at_19) rfl k) ?_
  have J2 : Goes p e below s room_1.cells room_1.slots (own_law_Q Z x0 x1 x2 h0 n0) (T1.setTop (mkF m 40 #[.val (.int x0), .val (.int x1), .val (.int x2), .val (.int (own_a x0)), .val (.int (own_sp x0)), .val (.int (own_law_j20 x0 x1 x2)), .unset, .unset, .unset] [])) := by
    obtain ⟨T3, h3, X3, e3, E3, A3, D3, -, st3⟩ := newO X1 hx hZ hown (hw _ (List.mem_of_getElem? (i := 5) rfl)) (hw _ (List.mem_of_getElem? (i := 6) rfl)) (hw _ (List.mem_of_getElem? (i := 7) rfl)) e1 (g := (mkF m 40 #[.val (.int x0), .val (.int x1), .val (.int x2), .val (.int (own_a x0)), .val (.int (own_sp x0)), .val (.int (own_law_j20 x0 x1 x2)), .unset, .unset, .unset] [])) rfl (hb hby at_40) (by decide) (by decide)
    obtain ⟨b3, g3⟩ : ∃ z, z = h0.size := ⟨_, rfl⟩
    rw [← g3] at A3 D3 st3
    have gn3 : n0 ≤ b3 := Nat.le_trans Z0 (Nat.le_of_eq g3.symm)
    have sz3 : h0.size ≤ b3 := Nat.le_trans (Keep.refl h0 []).1 (Nat.le_of_eq g3.symm)
    have f4 : Fld Z h3 b3 "com/example/virmex/virmex/simulation/Delay" "min" "I" (.int (0 : Int32)) := D3 (Or.inr (hw _ (List.mem_of_getElem? (i := 20) rfl))) (ty := .int) (by decide)
    have f5 : Fld Z h3 b3 "com/example/virmex/virmex/simulation/Delay" "max" "I" (.int (0 : Int32)) := D3 (Or.inr (hw _ (List.mem_of_getElem? (i := 22) rfl))) (ty := .int) (by decide)
    have Z3 : n0 ≤ h3.size := Nat.le_trans Z0 E3.1
    have K3 : Keep h0 h3 [] := (Keep.refl h0 []).ext E3
    refine Goes.step (B := (T3.setTop (mkF m 43 #[.val (.int x0), .val (.int x1), .val (.int x2), .val (.int (own_a x0)), .val (.int (own_sp x0)), .val (.int (own_law_j20 x0 x1 x2)), .unset, .unset, .unset] [(.ref b3)]))) (fun _ k => st3 _ k) ?_
    refine Goes.step (B := (T3.setTop (mkF m 44 #[.val (.int x0), .val (.int x1), .val (.int x2), .val (.int (own_a x0)), .val (.int (own_sp x0)), .val (.int (own_law_j20 x0 x1 x2)), .unset, .unset, .unset] [(.ref b3), (.ref b3)]))) (fun _ k => XS.dup X3.here hx rfl (hb hby at_43) rfl rfl k) ?_
    refine Goes.step (B := (T3.setTop (mkF m 45 #[.val (.int x0), .val (.int x1), .val (.int x2), .val (.int (own_a x0)), .val (.int (own_sp x0)), .val (.int (own_law_j20 x0 x1 x2)), .unset, .unset, .unset] [(.int (own_a x0)), (.ref b3), (.ref b3)]))) (fun _ k => XS.iloadN X3.here hx rfl (hb hby at_44) rfl k) ?_
    refine Goes.step (B := (T3.setTop (mkF m 47 #[.val (.int x0), .val (.int x1), .val (.int x2), .val (.int (own_a x0)), .val (.int (own_sp x0)), .val (.int (own_law_j20 x0 x1 x2)), .unset, .unset, .unset] [(.int (own_law_j20 x0 x1 x2)), (.int (own_a x0)), (.ref b3), (.ref b3)]))) (fun _ k => XS.iload X3.here hx rfl (hb hby at_45) rfl k) ?_
    obtain ⟨_, _, ⟨T6, L6, k6, n6⟩, -, X6, ⟨Lc6, hQ6, l6, y6, z6⟩, st6⟩ := X3.specialBack hx (y := (⟨"com/example/virmex/virmex/simulation/Delay", "<init>", "(II)V"⟩ : MethodName)) rfl hown (mvT hZ (hw _ (List.mem_of_getElem? (i := 8) rfl))) (mvT hZ (hw _ (List.mem_of_getElem? (i := 9) rfl))) (mvT hZ (hw _ (List.mem_of_getElem? (i := 10) rfl))) (by decide) (backOf (W := 1) (own_dl_rm l Z a0 hw [] b3 (own_a x0) (own_law_j20 x0 x1 x2)  h3 n0 Z3 A3 f4 f5 gn3 (own_a1 x0) (own_ab x0 x1 x2)) hZ (hw _ (List.mem_of_getElem? (i := 10) rfl)) (hw _ (List.mem_of_getElem? (i := 7) rfl)) (by decide) (by decide)) (g := (mkF m 47 #[.val (.int x0), .val (.int x1), .val (.int x2), .val (.int (own_a x0)), .val (.int (own_sp x0)), .val (.int (own_law_j20 x0 x1 x2)), .unset, .unset, .unset] [(.int (own_law_j20 x0 x1 x2)), (.int (own_a x0)), (.ref b3), (.ref b3)])) rfl (by rw [hml]; rfl) (Steps.refl _) (a := b3) (argsL := [(.int (own_a x0)), (.int (own_law_j20 x0 x1 x2))]) (rest := [(.ref b3)]) (lenOf pd__II_V rfl) rfl (by show 2 * 0 + _ ≤ _; exact Nat.le_of_eq rfl) (hb hby at_47) (fun _ _ => ⟨rfl, e3, (by decide : 1 + 0 ≤ _), (by decide : 2 + 0 ≤ _)⟩)
    dsimp only [Pt.U, Pt.locs, Pt.cells, Pt.slots] at X6 l6 y6 z6 st6 hQ6
    subst l6 y6 z6
    obtain ⟨rfl, N6q, K6q, p6_0, p6_1, p6_2⟩ := hQ6
    have N6 := Fr.app N1 N6q
    have f7 := A3.keep K6q
    have K6 : Keep h0 T6.heap [] := Keep.trans K3 K6q (fun y q => by cases List.mem_singleton.mp q; exact (Or.inr sz3))
    have Z6 : n0 ≤ T6.heap.size := Nat.le_trans Z3 K6q.1
    refine Goes.to (B := (T6.setTop (mkF m 50 #[.val (.int x0), .val (.int x1), .val (.int x2), .val (.int (own_a x0)), .val (.int (own_sp x0)), .val (.int (own_law_j20 x0 x1 x2)), .unset, .unset, .unset] [(.ref b3)]))) st6 ?_
    refine Goes.step (B := (T6.setTop (mkF m 52 #[.val (.int x0), .val (.int x1), .val (.int x2), .val (.int (own_a x0)), .val (.int (own_sp x0)), .val (.int (own_law_j20 x0 x1 x2)), .val (.ref b3), .unset, .unset] []))) (fun _ k => XS.astore X6.here hx rfl (hb hby at_50) rfl rfl (l' := #[.val (.int x0), .val (.int x1), .val (.int x2), .val (.int (own_a x0)), .val (.int (own_sp x0)), .val (.int (own_law_j20 x0 x1 x2)), .val (.ref b3), .unset, .unset]) rfl k) ?_
    refine Goes.step (B := (T6.setTop (mkF m 53 #[.val (.int x0), .val (.int x1), .val (.int x2), .val (.int (own_a x0)), .val (.int (own_sp x0)), .val (.int (own_law_j20 x0 x1 x2)), .val (.ref b3), .unset, .unset] [(.int (own_a x0))]))) (fun _ k => XS.iloadN X6.here hx rfl (hb hby at_52) rfl k) ?_
    refine Goes.step (B := (T6.setTop (mkF m 55 #[.val (.int x0), .val (.int x1), .val (.int x2), .val (.int (own_a x0)), .val (.int (own_sp x0)), .val (.int (own_law_j20 x0 x1 x2)), .val (.ref b3), .unset, .unset] [(.int (own_law_j20 x0 x1 x2)), (.int (own_a x0))]))) (fun _ k => XS.iload X6.here hx rfl (hb hby at_53) rfl k) ?_
    have J8 : Goes p e below s room_1.cells room_1.slots (own_law_Q Z x0 x1 x2 h0 n0) (T6.setTop (mkF m 63 #[.val (.int x0), .val (.int x1), .val (.int x2), .val (.int (own_a x0)), .val (.int (own_sp x0)), .val (.int (own_law_j20 x0 x1 x2)), .val (.ref b3), .unset, .unset] [(.int (own_law_j55 x0 x1 x2))])) := by
      refine Goes.step (B := (T6.setTop (mkF m 65 #[.val (.int x0), .val (.int x1), .val (.int x2), .val (.int (own_a x0)), .val (.int (own_sp x0)), .val (.int (own_law_j20 x0 x1 x2)), .val (.ref b3), .val (.int (own_law_j55 x0 x1 x2)), .unset] []))) (fun _ k => XS.istore X6.here hx rfl (hb hby at_63) rfl (l' := #[.val (.int x0), .val (.int x1), .val (.int x2), .val (.int (own_a x0)), .val (.int (own_sp x0)), .val (.int (own_law_j20 x0 x1 x2)), .val (.ref b3), .val (.int (own_law_j55 x0 x1 x2)), .unset]) rfl k) ?_
      refine Goes.step (B := (T6.setTop (mkF m 66 #[.val (.int x0), .val (.int x1), .val (.int x2), .val (.int (own_a x0)), .val (.int (own_sp x0)), .val (.int (own_law_j20 x0 x1 x2)), .val (.ref b3), .val (.int (own_law_j55 x0 x1 x2)), .unset] [(.int (own_a x0))]))) (fun _ k => XS.iloadN X6.here hx rfl (hb hby at_65) rfl k) ?_
      obtain ⟨_, _, ⟨T9, L9, k9, n9⟩, -, X9, ⟨Lc9, hQ9, l9, y9, z9⟩, st9⟩ := Jvm.LawKit.callS X6 hx (y := (⟨"com/example/virmex/virmex/simulation/Delay", "fixed", "(I)Lcom/example/virmex/virmex/simulation/Delay;"⟩ : MethodName)) hown (mvT hZ (hw _ (List.mem_of_getElem? (i := 23) rfl))) (mvT hZ (hw _ (List.mem_of_getElem? (i := 24) rfl))) (mvT hZ (hw _ (List.mem_of_getElem? (i := 7) rfl))) (mvT hZ (hw _ (List.mem_of_getElem? (i := 25) rfl))) (by decide) (backOf (W := 0) (own_fx_rm l Z a0 hw [] (own_a x0)  T6.heap n0 Z6 (own_a1 x0)) hZ (hw _ (List.mem_of_getElem? (i := 25) rfl)) (hw _ (List.mem_of_getElem? (i := 7) rfl)) (by decide) (by decide)) (g := (mkF m 66 #[.val (.int x0), .val (.int x1), .val (.int x2), .val (.int (own_a x0)), .val (.int (own_sp x0)), .val (.int (own_law_j20 x0 x1 x2)), .val (.ref b3), .val (.int (own_law_j55 x0 x1 x2)), .unset] [(.int (own_a x0))])) rfl (by rw [hml]; rfl) (argsL := [(.int (own_a x0))]) (rest := []) (lenOf pd__I_Lvirmex_virmex_simulation_Delay_ rfl) rfl (by show 2 * 0 + _ ≤ _; exact Nat.le_of_eq rfl) (hb hby at_66) (fun _ _ => ⟨rfl, rfl, (by decide : 1 + 1 ≤ _), (by decide : 2 + 2 ≤ _)⟩)
      dsimp only [Pt.U, Pt.locs, Pt.cells, Pt.slots] at X9 l9 y9 z9 st9 hQ9
      subst l9 y9 z9
      obtain ⟨b_9, rfl, N9q, K9q, gn9_b, sz9_b, p9_0, p9_1, p9_2⟩ := hQ9
      have N9 := Fr.app N6 N9q
      have ne10 : b3 ≠ b_9 := Nat.ne_of_lt (Nat.lt_of_lt_of_le p6_0.lt sz9_b)
      have f11 := p6_0.keep K9q
      have f12 := p6_1.keep K9q nm0
      have f13 := p6_2.keep K9q nm0
      have K9 : Keep h0 T9.heap [] := Keep.trans K6 K9q (fun _ q => nomatch q)
      have Z9 : n0 ≤ T9.heap.size := Nat.le_trans Z6 K9q.1
      have szz9_b : h0.size ≤ b_9 := Nat.le_trans K6.1 sz9_b
      refine Goes.step (B := (T9.setTop (mkF m 69 #[.val (.int x0), .val (.int x1), .val (.int x2), .val (.int (own_a x0)), .val (.int (own_sp x0)), .val (.int (own_law_j20 x0 x1 x2)), .val (.ref b3), .val (.int (own_law_j55 x0 x1 x2)), .unset] [(.ref b_9)]))) (fun _ k => st9 _ k) ?_
      obtain ⟨cq14, kq14, q14a, q14b, q14c⟩ := isOf hZ rfl p9_0
      obtain ⟨_, _, ⟨T14, L14, k14, n14⟩, -, X14, ⟨Lc14, hQ14, l14, y14, z14⟩, st14⟩ := X9.virtualBack hx (y := (⟨"com/example/virmex/virmex/simulation/Delay", "reorders", "()Z"⟩ : MethodName)) (z := (⟨"com/example/virmex/virmex/simulation/Delay", "reorders", "()Z"⟩ : MethodName)) hown (mvT hZ (hw _ (List.mem_of_getElem? (i := 28) rfl))) (mvT hZ (hw _ (List.mem_of_getElem? (i := 29) rfl))) (notFace_of_selects (args := #[]) (mvT hZ (hw _ (List.mem_of_getElem? (i := 31) rfl)))) (mvT hZ (hw _ (List.mem_of_getElem? (i := 31) rfl))) (mvT hZ (hw _ (List.mem_of_getElem? (i := 30) rfl))) (by decide) (backOf (W := 0) (own_ro_rm l Z a0 hw [] b_9 (own_a x0) (own_a x0) T9.heap n0 Z9 p9_1 p9_2) hZ (hw _ (List.mem_of_getElem? (i := 32) rfl)) (hw _ (List.mem_of_getElem? (i := 7) rfl)) (by decide) (by decide)) q14a q14c (g := (mkF m 69 #[.val (.int x0), .val (.int x1), .val (.int x2), .val (.int (own_a x0)), .val (.int (own_sp x0)), .val (.int (own_law_j20 x0 x1 x2)), .val (.ref b3), .val (.int (own_law_j55 x0 x1 x2)), .unset] [(.ref b_9)])) rfl (by rw [hml]; rfl) (Steps.refl _) (argsL := []) (rest := []) (lenOf pd___Z rfl) rfl (by show 2 * 0 + _ ≤ _; exact Nat.le_of_eq rfl) (hb hby at_69) (fun _ _ => ⟨rfl, rfl, (by decide : 2 + 0 ≤ _), (by decide : 4 + 0 ≤ _)⟩)
      dsimp only [Pt.U, Pt.locs, Pt.cells, Pt.slots] at X14 l14 y14 z14 st14 hQ14
      subst l14 y14 z14
      obtain ⟨rfl, N14q, e14⟩ := hQ14
      have N14 := Fr.app N9 N14q
      refine Goes.to (B := (T14.setTop (mkF m 72 #[.val (.int x0), .val (.int x1), .val (.int x2), .val (.int (own_a x0)), .val (.int (own_sp x0)), .val (.int (own_law_j20 x0 x1 x2)), .val (.ref b3), .val (.int (own_law_j55 x0 x1 x2)), .unset] [(.int (own_ro_fn (own_a x0) (own_a x0)))]))) st14 ?_
      refine Goes.step (B := (T14.setTop (mkF m 74 #[.val (.int x0), .val (.int x1), .val (.int x2), .val (.int (own_a x0)), .val (.int (own_sp x0)), .val (.int (own_law_j20 x0 x1 x2)), .val (.ref b3), .val (.int (own_law_j55 x0 x1 x2)), .val (.int (own_ro_fn (own_a x0) (own_a x0)))] []))) (fun _ k => XS.istore X14.here hx rfl (hb hby at_72) rfl (l' := #[.val (.int x0), .val (.int x1), .val (.int x2), .val (.int (own_a x0)), .val (.int (own_sp x0)), .val (.int (own_law_j20 x0 x1 x2)), .val (.ref b3), .val (.int (own_law_j55 x0 x1 x2)), .val (.int (own_ro_fn (own_a x0) (own_a x0)))]) rfl k) ?_
      refine Goes.step (B := (T14.setTop (mkF m 76 #[.val (.int x0), .val (.int x1), .val (.int x2), .val (.int (own_a x0)), .val (.int (own_sp x0)), .val (.int (own_law_j20 x0 x1 x2)), .val (.ref b3), .val (.int (own_law_j55 x0 x1 x2)), .val (.int (own_ro_fn (own_a x0) (own_a x0)))] [(.ref b3)]))) (fun _ k => XS.aload X14.here hx rfl (hb hby at_74) rfl rfl k) ?_
      obtain ⟨cq15, kq15, q15a, q15b, q15c⟩ := isOf hZ e14 f11
      obtain ⟨_, _, ⟨T15, L15, k15, n15⟩, -, X15, ⟨Lc15, hQ15, l15, y15, z15⟩, st15⟩ := X14.virtualBack hx (y := (⟨"com/example/virmex/virmex/simulation/Delay", "reorders", "()Z"⟩ : MethodName)) (z := (⟨"com/example/virmex/virmex/simulation/Delay", "reorders", "()Z"⟩ : MethodName)) hown (mvT hZ (hw _ (List.mem_of_getElem? (i := 28) rfl))) (mvT hZ (hw _ (List.mem_of_getElem? (i := 29) rfl))) (notFace_of_selects (args := #[]) (mvT hZ (hw _ (List.mem_of_getElem? (i := 31) rfl)))) (mvT hZ (hw _ (List.mem_of_getElem? (i := 31) rfl))) (mvT hZ (hw _ (List.mem_of_getElem? (i := 30) rfl))) (by decide) (backOf (W := 0) (own_ro_rm l Z a0 hw [] b3 (own_a x0) (own_law_j20 x0 x1 x2) T9.heap n0 Z9 f12 f13) hZ (hw _ (List.mem_of_getElem? (i := 32) rfl)) (hw _ (List.mem_of_getElem? (i := 7) rfl)) (by decide) (by decide)) q15a q15c (g := (mkF m 76 #[.val (.int x0), .val (.int x1), .val (.int x2), .val (.int (own_a x0)), .val (.int (own_sp x0)), .val (.int (own_law_j20 x0 x1 x2)), .val (.ref b3), .val (.int (own_law_j55 x0 x1 x2)), .val (.int (own_ro_fn (own_a x0) (own_a x0)))] [(.ref b3)])) rfl (by rw [hml]; rfl) (Steps.refl _) (argsL := []) (rest := []) (lenOf pd___Z rfl) rfl (by show 2 * 0 + _ ≤ _; exact Nat.le_of_eq rfl) (hb hby at_76) (fun _ _ => ⟨rfl, e14, (by decide : 2 + 0 ≤ _), (by decide : 4 + 0 ≤ _)⟩)
      dsimp only [Pt.U, Pt.locs, Pt.cells, Pt.slots] at X15 l15 y15 z15 st15 hQ15
      subst l15 y15 z15
      obtain ⟨rfl, N15q, e15⟩ := hQ15
      have N15 := Fr.app N14 N15q
      refine Goes.to (B := (T15.setTop (mkF m 79 #[.val (.int x0), .val (.int x1), .val (.int x2), .val (.int (own_a x0)), .val (.int (own_sp x0)), .val (.int (own_law_j20 x0 x1 x2)), .val (.ref b3), .val (.int (own_law_j55 x0 x1 x2)), .val (.int (own_ro_fn (own_a x0) (own_a x0)))] [(.int (own_ro_fn (own_a x0) (own_law_j20 x0 x1 x2)))]))) st15 ?_
      refine Goes.step (B := (T15.setTop (mkF m 81 #[.val (.int x0), .val (.int x1), .val (.int x2), .val (.int (own_a x0)), .val (.int (own_sp x0)), .val (.int (own_law_j20 x0 x1 x2)), .val (.ref b3), .val (.int (own_law_j55 x0 x1 x2)), .val (.int (own_ro_fn (own_a x0) (own_a x0)))] [(.int (own_law_j55 x0 x1 x2)), (.int (own_ro_fn (own_a x0) (own_law_j20 x0 x1 x2)))]))) (fun _ k => XS.iload X15.here hx rfl (hb hby at_79) rfl k) ?_
      have hc16 : (own_ro_fn (own_a x0) (own_law_j20 x0 x1 x2)) = (own_law_j55 x0 x1 x2) := own_t1 x0 x1 x2
      refine Goes.step (B := (T15.setTop (mkF m 84 #[.val (.int x0), .val (.int x1), .val (.int x2), .val (.int (own_a x0)), .val (.int (own_sp x0)), .val (.int (own_law_j20 x0 x1 x2)), .val (.ref b3), .val (.int (own_law_j55 x0 x1 x2)), .val (.int (own_ro_fn (own_a x0) (own_a x0)))] []))) (fun _ k => XS.icmpNo X15.here hx rfl (hb hby at_81) rfl (teq hc16).2 k) ?_
      refine Goes.step (B := (T15.setTop (mkF m 86 #[.val (.int x0), .val (.int x1), .val (.int x2), .val (.int (own_a x0)), .val (.int (own_sp x0)), .val (.int (own_law_j20 x0 x1 x2)), .val (.ref b3), .val (.int (own_law_j55 x0 x1 x2)), .val (.int (own_ro_fn (own_a x0) (own_a x0)))] [(.int (own_ro_fn (own_a x0) (own_a x0)))]))) (fun _ k => XS.iload X15.here hx rfl (hb hby at_84) rfl k) ?_
      have hc17 : (own_ro_fn (own_a x0) (own_a x0)) = (0 : Int32) := own_t2 x0
      refine Goes.step (B := (T15.setTop (mkF m 89 #[.val (.int x0), .val (.int x1), .val (.int x2), .val (.int (own_a x0)), .val (.int (own_sp x0)), .val (.int (own_law_j20 x0 x1 x2)), .val (.ref b3), .val (.int (own_law_j55 x0 x1 x2)), .val (.int (own_ro_fn (own_a x0) (own_a x0)))] []))) (fun _ k => XS.ifNo X15.here hx rfl (hb hby at_86) rfl ((if0 _ _).trans (teq hc17).2) k) ?_
      refine Goes.step (B := (T15.setTop (mkF m 90 #[.val (.int x0), .val (.int x1), .val (.int x2), .val (.int (own_a x0)), .val (.int (own_sp x0)), .val (.int (own_law_j20 x0 x1 x2)), .val (.ref b3), .val (.int (own_law_j55 x0 x1 x2)), .val (.int (own_ro_fn (own_a x0) (own_a x0)))] [(.int (1 : Int32))]))) (fun _ k => XS.iconst X15.here hx rfl (hb hby at_89) k) ?_
      refine Goes.step (B := (T15.setTop (mkF m 94 #[.val (.int x0), .val (.int x1), .val (.int x2), .val (.int (own_a x0)), .val (.int (own_sp x0)), .val (.int (own_law_j20 x0 x1 x2)), .val (.ref b3), .val (.int (own_law_j55 x0 x1 x2)), .val (.int (own_ro_fn (own_a x0) (own_a x0)))] [(.int (1 : Int32))]))) (fun _ k => XS.goto X15.here hx rfl (pc0 := 90) (pc' := 94) rfl (hb hby at_90) (by decide) (by decide) k) ?_
      refine Goes.retN X15 hx hlk (t := .boolean) hrt (by simp) (hb hby at_94) ?_ (by decide) (by decide)
      rw [e15]
      exact ⟨rfl, N15⟩
    by_cases hc18 : (own_a x0) = (own_law_j20 x0 x1 x2)
    · refine Goes.step (B := (T6.setTop (mkF m 62 #[.val (.int x0), .val (.int x1), .val (.int x2), .val (.int (own_a x0)), .val (.int (own_sp x0)), .val (.int (own_law_j20 x0 x1 x2)), .val (.ref b3), .unset, .unset] []))) (fun _ k => XS.icmpYes X6.here hx rfl (pc0 := 55) (pc' := 62) rfl (hb hby at_55) rfl (teq hc18).1 (by decide) (by decide) k) ?_
      refine Goes.step (B := (T6.setTop (mkF m 63 #[.val (.int x0), .val (.int x1), .val (.int x2), .val (.int (own_a x0)), .val (.int (own_sp x0)), .val (.int (own_law_j20 x0 x1 x2)), .val (.ref b3), .unset, .unset] [(.int (0 : Int32))]))) (fun _ k => XS.iconst X6.here hx rfl (hb hby at_62) k) ?_
      rw [show own_law_j55 x0 x1 x2 = (0 : Int32) from by simp only [own_law_j55, if_pos hc18]] at J8
      exact J8
    · refine Goes.step (B := (T6.setTop (mkF m 58 #[.val (.int x0), .val (.int x1), .val (.int x2), .val (.int (own_a x0)), .val (.int (own_sp x0)), .val (.int (own_law_j20 x0 x1 x2)), .val (.ref b3), .unset, .unset] []))) (fun _ k => XS.icmpNo X6.here hx rfl (hb hby at_55) rfl (feq hc18).1 k) ?_
      refine Goes.step (B := (T6.setTop (mkF m 59 #[.val (.int x0), .val (.int x1), .val (.int x2), .val (.int (own_a x0)), .val (.int (own_sp x0)), .val (.int (own_law_j20 x0 x1 x2)), .val (.ref b3), .unset, .unset] [(.int (1 : Int32))]))) (fun _ k => XS.iconst X6.here hx rfl (hb hby at_58) k) ?_
      refine Goes.step (B := (T6.setTop (mkF m 63 #[.val (.int x0), .val (.int x1), .val (.int x2), .val (.int (own_a x0)), .val (.int (own_sp x0)), .val (.int (own_law_j20 x0 x1 x2)), .val (.ref b3), .unset, .unset] [(.int (1 : Int32))]))) (fun _ k => XS.goto X6.here hx rfl (pc0 := 59) (pc' := 63) rfl (hb hby at_59) (by decide) (by decide) k) ?_
      rw [show own_law_j55 x0 x1 x2 = (1 : Int32) from by simp only [own_law_j55, if_neg hc18]] at J8
      exact J8
  by_cases hc19 : (x2 &&& (1 : Int32)) = (0 : Int32)
  · refine Goes.step (B := (T1.setTop (mkF m 29 #[.val (.int x0), .val (.int x1), .val (.int x2), .val (.int (own_a x0)), .val (.int (own_sp x0)), .unset, .unset, .unset, .unset] []))) (fun _ k => XS.ifYes X1.here hx rfl (pc0 := 20) (pc' := 29) rfl (hb hby at_20) rfl ((if0 _ _).trans (teq hc19).1) (by decide) (by decide) k) ?_
    refine Goes.step (B := (T1.setTop (mkF m 30 #[.val (.int x0), .val (.int x1), .val (.int x2), .val (.int (own_a x0)), .val (.int (own_sp x0)), .unset, .unset, .unset, .unset] [(.int (own_a x0))]))) (fun _ k => XS.iloadN X1.here hx rfl (hb hby at_29) rfl k) ?_
    refine Goes.step (B := (T1.setTop (mkF m 31 #[.val (.int x0), .val (.int x1), .val (.int x2), .val (.int (own_a x0)), .val (.int (own_sp x0)), .unset, .unset, .unset, .unset] [(.int x1), (.int (own_a x0))]))) (fun _ k => XS.iloadN X1.here hx rfl (hb hby at_30) rfl k) ?_
    refine Goes.step (B := (T1.setTop (mkF m 33 #[.val (.int x0), .val (.int x1), .val (.int x2), .val (.int (own_a x0)), .val (.int (own_sp x0)), .unset, .unset, .unset, .unset] [(.int (2147483647 : Int32)), (.int x1), (.int (own_a x0))]))) (fun _ k => X1.ldcInt hx hown (mvT hZ (hw _ (List.mem_of_getElem? (i := 0) rfl))) (g := (mkF m 31 #[.val (.int x0), .val (.int x1), .val (.int x2), .val (.int (own_a x0)), .val (.int (own_sp x0)), .unset, .unset, .unset, .unset] [(.int x1), (.int (own_a x0))])) rfl (hb hby at_31) _ k) ?_
    refine Goes.step (B := (T1.setTop (mkF m 34 #[.val (.int x0), .val (.int x1), .val (.int x2), .val (.int (own_a x0)), .val (.int (own_sp x0)), .unset, .unset, .unset, .unset] [(.int (x1 &&& (2147483647 : Int32))), (.int (own_a x0))]))) (fun _ k => XS.iand X1.here hx rfl (hb hby at_33) rfl k) ?_
    refine Goes.step (B := (T1.setTop (mkF m 36 #[.val (.int x0), .val (.int x1), .val (.int x2), .val (.int (own_a x0)), .val (.int (own_sp x0)), .unset, .unset, .unset, .unset] [(.int (own_sp x0)), (.int (x1 &&& (2147483647 : Int32))), (.int (own_a x0))]))) (fun _ k => XS.iload X1.here hx rfl (hb hby at_34) rfl k) ?_
    refine Goes.step (B := (T1.setTop (mkF m 37 #[.val (.int x0), .val (.int x1), .val (.int x2), .val (.int (own_a x0)), .val (.int (own_sp x0)), .unset, .unset, .unset, .unset] [(.int ((x1 &&& (2147483647 : Int32)) % (own_sp x0))), (.int (own_a x0))]))) (fun _ k => iremM X1 hx rfl (hb hby at_36) rfl (own_spnz x0) k) ?_
    refine Goes.step (B := (T1.setTop (mkF m 38 #[.val (.int x0), .val (.int x1), .val (.int x2), .val (.int (own_a x0)), .val (.int (own_sp x0)), .unset, .unset, .unset, .unset] [(.int ((own_a x0) + ((x1 &&& (2147483647 : Int32)) % (own_sp x0))))]))) (fun _ k => XS.iadd X1.here hx rfl (hb hby at_37) rfl k) ?_
    refine Goes.step (B := (T1.setTop (mkF m 40 #[.val (.int x0), .val (.int x1), .val (.int x2), .val (.int (own_a x0)), .val (.int (own_sp x0)), .val (.int ((own_a x0) + ((x1 &&& (2147483647 : Int32)) % (own_sp x0)))), .unset, .unset, .unset] []))) (fun _ k => XS.istore X1.here hx rfl (hb hby at_38) rfl (l' := #[.val (.int x0), .val (.int x1), .val (.int x2), .val (.int (own_a x0)), .val (.int (own_sp x0)), .val (.int ((own_a x0) + ((x1 &&& (2147483647 : Int32)) % (own_sp x0)))), .unset, .unset, .unset]) rfl k) ?_
    rw [show own_law_j20 x0 x1 x2 = ((own_a x0) + ((x1 &&& (2147483647 : Int32)) % (own_sp x0))) from by simp only [own_law_j20, if_pos hc19]] at J2
    exact J2
  · refine Goes.step (B := (T1.setTop (mkF m 23 #[.val (.int x0), .val (.int x1), .val (.int x2), .val (.int (own_a x0)), .val (.int (own_sp x0)), .unset, .unset, .unset, .unset] []))) (fun _ k => XS.ifNo X1.here hx rfl (hb hby at_20) rfl ((if0 _ _).trans (feq hc19).1) k) ?_
    refine Goes.step (B := (T1.setTop (mkF m 24 #[.val (.int x0), .val (.int x1), .val (.int x2), .val (.int (own_a x0)), .val (.int (own_sp x0)), .unset, .unset, .unset, .unset] [(.int (own_a x0))]))) (fun _ k => XS.iloadN X1.here hx rfl (hb hby at_23) rfl k) ?_
    refine Goes.step (B := (T1.setTop (mkF m 26 #[.val (.int x0), .val (.int x1), .val (.int x2), .val (.int (own_a x0)), .val (.int (own_sp x0)), .val (.int (own_a x0)), .unset, .unset, .unset] []))) (fun _ k => XS.istore X1.here hx rfl (hb hby at_24) rfl (l' := #[.val (.int x0), .val (.int x1), .val (.int x2), .val (.int (own_a x0)), .val (.int (own_sp x0)), .val (.int (own_a x0)), .unset, .unset, .unset]) rfl k) ?_
    refine Goes.step (B := (T1.setTop (mkF m 40 #[.val (.int x0), .val (.int x1), .val (.int x2), .val (.int (own_a x0)), .val (.int (own_sp x0)), .val (.int (own_a x0)), .unset, .unset, .unset] []))) (fun _ k => XS.goto X1.here hx rfl (pc0 := 26) (pc' := 40) rfl (hb hby at_26) (by decide) (by decide) k) ?_
    rw [show own_law_j20 x0 x1 x2 = (own_a x0) from by simp only [own_law_j20, if_neg hc19]] at J2
    exact J2
set_option maxRecDepth 65536 in
set_option maxHeartbeats 40000000 in
theorem comes_1 {Post : Tables → Env → Array Value → State → Outcome → State → Prop} (hpost : ∀ tb e args s v u, (limb_1_1.after args s (.returned v) u = true ∧ limb_1_2.after args s (.returned v) u = true ∧ True) → FrameEnd s (.returned v) u (Jvm.fieldLocs frame_1_writes args s ++ Jvm.arrayLocs frame_1_arrays args s ++ Jvm.staticLocs frame_1_statics s) 16 128 → Post tb e args s (.returned v) u) :
    ArmFor flags0 classFile x code maxLocals ret World_1 tables_1 room_1 Calls_1 rest_1 Pre_1 Post := by
  intro l hfl _ _ p e ha hc hk s m args below hf hA hF happ hP
  obtain ⟨hcalls, hrest, hpre⟩ := hP
  obtain ⟨-, -, -, hnamed, -, -, -, hat⟩ := (Spec.applies_iff hf).mp happ
  obtain ⟨hg, hn⟩ := and_e (Cond.before_iff.mp (show (Jvm.Cond.and given_1 narrow_1).before args s = true from hpre))
  obtain ⟨hg1, hg2⟩ := and_e hg
  obtain ⟨hg3, hg4⟩ := and_e hg2
  obtain ⟨hg5, hg6⟩ := and_e hg4
  obtain ⟨w0, w1, w2, rfl⟩ : ∃ w0 w1 w2 : Value, args = #[w0, w1, w2] := by
    have hs : args.size = 3 := by simpa [Cond.value, given_1] using hg1
    obtain ⟨L⟩ := args
    match L, hs with
    | [w0, w1, w2], _ => exact ⟨w0, w1, w2, rfl⟩
  have hw := fun d (hd : d ∈ tables_1) => atoms_spec (ws := Jvm.Cond.code x code maxLocals ret :: tables_1) hat d (List.mem_cons_of_mem _ hd)
  have hfit : Fit s := fun {y c} hc i hi => by
    obtain ⟨ha, rfl⟩ := Array.getElem?_eq_some_iff.mp hc
    have q := List.all_eq_true.mp ((Array.all_eq_true_iff_forall_mem.mp hF) _ (Array.getElem_mem ha)) i (List.mem_range.mpr hi)
    simpa [Array.getElem?_eq_getElem hi] using q
  obtain ⟨i0, ei0⟩ := is_v hg3
  obtain rfl : w0 = (.int i0) := Option.some.inj ei0
  obtain ⟨i1, ei1⟩ := is_v hg5
  obtain rfl : w1 = (.int i1) := Option.some.inj ei1
  obtain ⟨i2, ei2⟩ := is_v hg6
  obtain rfl : w2 = (.int i2) := Option.some.inj ei2
  obtain ⟨n, o, h1, h2, h3, _, L, rfl, ⟨hv, N⟩, hq⟩ := own_law_rm l s _ hw tables_1 i0 i1 i2  s.heap s.heap.size (Nat.le_refl _)  p e ha hc hk s m _ below hf ((Spec.applies_iff_loose hf).mp happ).1 ⟨rfl, State.Warmed39.refl s, rfl⟩ trivial
  subst hv
  refine ⟨n, _, h1, h2, h3, hpost _ _ _ _ _ _ ⟨Cond.after_iff.mpr rfl, Cond.after_iff.mpr (eq_i res_at (Term.int_eval (1)) rfl), trivial⟩ ⟨hq.1, hq.2.1, (hq.2.2.sift fun y hy => Or.inr (N y hy)).mono (by decide) (by decide)⟩⟩
theorem main_1_1 : Claimed_1_1 := comes_1 fun _ _ _ _ _ _ h hF => ⟨h.1, hF⟩
theorem main_1_2 : Claimed_1_2 := comes_1 fun _ _ _ _ _ _ h hF => ⟨h.2.1, hF⟩
end Jvm.Pilot.@@N@@
namespace Jvm.Pilot.@@N@@
open Jvm Jvm.ClassFile Sem Op Lib Jvm.Free Jvm.Stand Jvm.Pilot.@@N@@.Jvm.D
/-! MADE BY PROGRAM (witnessworld.py) out of the Statement's table words and the real class files: 11 classes; the members and pool entries that the words name. The judged class is class 1, her method 1. -/
namespace start1
open Jvm.ClassFile
def u (s : String) : CpInfo := .utf8 (stringToUtf16 s)
/-- a pool by its gaps: so many unusable entries, then the entry; so many at the end -/
def gap : Nat → List CpInfo → List CpInfo
  | 0, r => r
  | n + 1, r => .unusable :: gap n r
def poolList (es : List (Nat × CpInfo)) (last : Nat) : List CpInfo := es.foldr (fun e r => gap e.1 (e.2 :: r)) (gap last [])
def pool (es : List (Nat × CpInfo)) (last : Nat) : Array CpInfo := ⟨poolList es last⟩
def fileOf (pool : Array CpInfo) (this : Nat) (attrs : Array Attribute := #[]) (ms : Array MethodInfo := #[]) (fl : Nat := 33) (sup : Nat := 0) (ifs : Array Nat := #[]) (fds : Array FieldInfo := #[]) : ClassFile where
  minorVersion := 0
  majorVersion := 65
  constantPool := pool
  accessFlags := fl
  thisClass := this
  superClass := sup
  interfaces := ifs
  fields := fds
  methods := ms
  attributes := attrs
def plain (name : String) (sup : Option ClassId) : Class where
  name := name
  kind := .ordinary
  loader := none
  accessFlags := 33
  super := sup
  interfaces := #[]
  cf := none
  fields := #[]
  methods := #[]
  instanceTypes := #[]
  staticTypes := #[]
  resolved := #[]
  callSites := []
  init := .initialized
  statics := none
  mirror := none

def pool0 : Array CpInfo := pool [(5, u "<init>"), (0, u "()V"), (1, .class_ 10), (1, u "java/lang/Object")] 113

def k0c0 : Code := { maxStack := 0, maxLocals := 1, code := object_method_1_code, exceptionTable := #[], attributes := #[] }
def k0m0 : Method := { name := "<init>", desc := "()V", sig := { parameters := [], returnType := none }, accessFlags := 1, code := some k0c0 }
/-- java/lang/Object -/
def k0 : Class := { plain "java/lang/Object" none with
  accessFlags := 33
  interfaces := #[]
  cf := some (fileOf pool0 8 #[] #[{ accessFlags := 1, nameIndex := 5, descriptorIndex := 6, attributes := #[] }] 33 0 #[] #[])
  fields := #[]
  methods := #[k0m0]
  instanceTypes := #[]
  staticTypes := #[]
  resolved := Array.replicate 124 none
  statics := none }

def pool1 : Array CpInfo := pool [(2, .class_ 4), (1, u "java/lang/Object"), (0, u "<init>"), (0, u "()V"), (0, .integer 2147483647), (0, .methodref 9 10), (0, .class_ 11), (0, .nameAndType 12 13), (0, u "java/lang/Math"), (0, u "max"), (0, u "(II)I"), (2, .class_ 17), (0, u "com/example/virmex/virmex/simulation/Delay"), (0, .methodref 16 19), (0, .nameAndType 5 20), (0, u "(II)V"), (0, .methodref 16 22), (0, .nameAndType 23 24), (0, u "fixed"), (0, u "(I)Lcom/example/virmex/virmex/simulation/Delay;"), (0, .methodref 16 26), (0, .nameAndType 27 28), (0, u "reorders"), (0, u "()Z"), (0, .class_ 30), (0, u "com/example/virmex/virmex/simulation/DelayReordersPinLaw"), (2, u "law"), (0, u "(III)Z")] 3

def k1m0 : Method := { name := "<init>", desc := "()V", sig := { parameters := [], returnType := none }, accessFlags := 1, code := none }
def k1c1 : Code := { maxStack := 4, maxLocals := 9, code := code, exceptionTable := #[], attributes := #[] }
def k1m1 : Method := { name := "law", desc := "(III)Z", sig := { parameters := [.int, .int, .int], returnType := some .boolean }, accessFlags := 9, code := some k1c1 }
/-- com/example/virmex/virmex/simulation/DelayReordersPinLaw -/
def k1 : Class := { plain "com/example/virmex/virmex/simulation/DelayReordersPinLaw" (some 0) with
  accessFlags := 49
  interfaces := #[]
  cf := some (fileOf pool1 29 #[] #[{ accessFlags := 1, nameIndex := 5, descriptorIndex := 6, attributes := #[] }, { accessFlags := 9, nameIndex := 33, descriptorIndex := 34, attributes := #[] }] 49 2 #[] #[])
  fields := #[]
  methods := #[k1m0, k1m1]
  instanceTypes := #[]
  staticTypes := #[]
  resolved := Array.replicate 38 none
  statics := none }

def pool2 : Array CpInfo := pool [(1, .class_ 2), (0, u "java/lang/Math"), (1, .class_ 6), (1, u "java/lang/Object"), (0, u "<init>"), (0, u "()V"), (89, .class_ 100), (1, u "java/lang/Math$RandomNumberGeneratorHolder"), (71, u "negativeZeroFloatBits"), (0, u "J"), (2, u "negativeZeroDoubleBits"), (21, u "max"), (46, u "$assertionsDisabled"), (0, u "Z"), (88, u "(II)I"), (2, u "twoToTheDoubleScaleDown"), (0, u "D"), (4, u "twoToTheDoubleScaleUp"), (9, u "E"), (3, u "PI"), (2, u "TAU"), (2, u "DEGREES_TO_RADIANS"), (0, u "RADIANS_TO_DEGREES")] 94

def k2m0 : Method := { name := "<init>", desc := "()V", sig := { parameters := [], returnType := none }, accessFlags := 2, code := none }
def k2c1 : Code := { maxStack := 2, maxLocals := 2, code := jdk_29_method_65_code, exceptionTable := #[], attributes := #[] }
def k2m1 : Method := { name := "max", desc := "(II)I", sig := { parameters := [.int, .int], returnType := some .int }, accessFlags := 9, code := some k2c1 }
/-- java/lang/Math -/
def k2 : Class := { plain "java/lang/Math" (some 0) with
  accessFlags := 49
  interfaces := #[]
  cf := some (fileOf pool2 1 #[.nestMembers #[98]] #[{ accessFlags := 2, nameIndex := 7, descriptorIndex := 8, attributes := #[] }, { accessFlags := 9, nameIndex := 198, descriptorIndex := 335, attributes := #[] }] 49 4 #[] #[{ accessFlags := 25, nameIndex := 354, descriptorIndex := 339, attributes := #[] }, { accessFlags := 25, nameIndex := 358, descriptorIndex := 339, attributes := #[] }, { accessFlags := 25, nameIndex := 361, descriptorIndex := 339, attributes := #[] }, { accessFlags := 26, nameIndex := 364, descriptorIndex := 339, attributes := #[] }, { accessFlags := 26, nameIndex := 365, descriptorIndex := 339, attributes := #[] }, { accessFlags := 26, nameIndex := 172, descriptorIndex := 173, attributes := #[] }, { accessFlags := 26, nameIndex := 176, descriptorIndex := 173, attributes := #[] }, { accessFlags := 8, nameIndex := 344, descriptorIndex := 339, attributes := #[] }, { accessFlags := 8, nameIndex := 338, descriptorIndex := 339, attributes := #[] }, { accessFlags := 4120, nameIndex := 245, descriptorIndex := 246, attributes := #[] }])
  fields := #[{ name := "E", type := .double, accessFlags := 25, slot := 0, constantValue := 0 }, { name := "PI", type := .double, accessFlags := 25, slot := 1, constantValue := 0 }, { name := "TAU", type := .double, accessFlags := 25, slot := 2, constantValue := 0 }, { name := "DEGREES_TO_RADIANS", type := .double, accessFlags := 26, slot := 3, constantValue := 0 }, { name := "RADIANS_TO_DEGREES", type := .double, accessFlags := 26, slot := 4, constantValue := 0 }, { name := "negativeZeroFloatBits", type := .long, accessFlags := 26, slot := 5, constantValue := 0 }, { name := "negativeZeroDoubleBits", type := .long, accessFlags := 26, slot := 6, constantValue := 0 }, { name := "twoToTheDoubleScaleUp", type := .double, accessFlags := 8, slot := 7, constantValue := 0 }, { name := "twoToTheDoubleScaleDown", type := .double, accessFlags := 8, slot := 8, constantValue := 0 }, { name := "$assertionsDisabled", type := .boolean, accessFlags := 4120, slot := 9, constantValue := 0 }]
  methods := #[k2m0, k2m1]
  instanceTypes := #[]
  staticTypes := #[.double, .double, .double, .double, .double, .long, .long, .double, .double, .boolean]
  resolved := Array.replicate 460 none
  statics := none }

def pool3 : Array CpInfo := pool [(1, .methodref 2 3), (0, .class_ 4), (0, .nameAndType 5 6), (0, u "java/lang/Object"), (0, u "<init>"), (0, u "()V"), (0, .class_ 8), (0, u "java/lang/Record")] 13

def k3c0 : Code := { maxStack := 1, maxLocals := 1, code := jdk_30_method_1_code, exceptionTable := #[], attributes := #[] }
def k3m0 : Method := { name := "<init>", desc := "()V", sig := { parameters := [], returnType := none }, accessFlags := 4, code := some k3c0 }
/-- java/lang/Record -/
def k3 : Class := { plain "java/lang/Record" (some 0) with
  accessFlags := 1057
  interfaces := #[]
  cf := some (fileOf pool3 7 #[] #[{ accessFlags := 4, nameIndex := 5, descriptorIndex := 6, attributes := #[] }] 1057 2 #[] #[])
  fields := #[]
  methods := #[k3m0]
  instanceTypes := #[]
  staticTypes := #[]
  resolved := Array.replicate 22 none
  statics := none }

def pool4 : Array CpInfo := pool [(1, .methodref 2 3), (0, .class_ 4), (0, .nameAndType 5 6), (0, u "java/lang/Record"), (0, u "<init>"), (0, u "()V"), (12, .fieldref 20 21), (0, .class_ 22), (0, .nameAndType 23 24), (0, u "com/example/virmex/virmex/simulation/Delay"), (0, u "min"), (0, u "I"), (0, .fieldref 20 26), (0, .nameAndType 27 24), (0, u "max"), (0, .methodref 20 29), (0, .nameAndType 5 30), (0, u "(II)V"), (23, u "fixed"), (0, u "(I)Lcom/example/virmex/virmex/simulation/Delay;"), (35, u "TO"), (0, u "Ljava/lang/String;"), (7, u "reorders"), (0, u "()Z")] 39

def k4c0 : Code := { maxStack := 4, maxLocals := 3, code := prog_32_method_1_code, exceptionTable := #[], attributes := #[] }
def k4m0 : Method := { name := "<init>", desc := "(II)V", sig := { parameters := [.int, .int], returnType := none }, accessFlags := 1, code := some k4c0 }
def k4c1 : Code := { maxStack := 4, maxLocals := 1, code := prog_32_method_2_code, exceptionTable := #[], attributes := #[] }
def k4m1 : Method := { name := "fixed", desc := "(I)Lcom/example/virmex/virmex/simulation/Delay;", sig := { parameters := [.int], returnType := some (.object "com/example/virmex/virmex/simulation/Delay") }, accessFlags := 9, code := some k4c1 }
def k4c2 : Code := { maxStack := 2, maxLocals := 1, code := prog_32_method_4_code, exceptionTable := #[], attributes := #[] }
def k4m2 : Method := { name := "reorders", desc := "()Z", sig := { parameters := [], returnType := some .boolean }, accessFlags := 1, code := some k4c2 }
/-- com/example/virmex/virmex/simulation/Delay -/
def k4 : Class := { plain "com/example/virmex/virmex/simulation/Delay" (some 3) with
  accessFlags := 49
  interfaces := #[]
  cf := some (fileOf pool4 20 #[] #[{ accessFlags := 1, nameIndex := 5, descriptorIndex := 30, attributes := #[] }, { accessFlags := 9, nameIndex := 54, descriptorIndex := 55, attributes := #[] }, { accessFlags := 1, nameIndex := 100, descriptorIndex := 101, attributes := #[] }] 49 2 #[] #[{ accessFlags := 18, nameIndex := 23, descriptorIndex := 24, attributes := #[] }, { accessFlags := 18, nameIndex := 27, descriptorIndex := 24, attributes := #[] }, { accessFlags := 26, nameIndex := 91, descriptorIndex := 92, attributes := #[] }])
  fields := #[{ name := "min", type := .int, accessFlags := 18, slot := 0, constantValue := 0 }, { name := "max", type := .int, accessFlags := 18, slot := 1, constantValue := 0 }, { name := "TO", type := (.object "java/lang/String"), accessFlags := 26, slot := 0, constantValue := 0 }]
  methods := #[k4m0, k4m1, k4m2]
  instanceTypes := #[.int, .int]
  staticTypes := #[(.object "java/lang/String")]
  resolved := Array.replicate 141 none
  statics := none }

def pool5 : Array CpInfo := pool [(1, u "java/lang/Cloneable"), (0, .class_ 1), (0, u "java/lang/Object"), (0, .class_ 3)] 3

/-- java/lang/Cloneable -/
def k5 : Class := { plain "java/lang/Cloneable" (some 0) with
  accessFlags := 1537
  interfaces := #[]
  cf := some (fileOf pool5 2 #[] #[] 1537 4 #[] #[])
  fields := #[]
  methods := #[]
  instanceTypes := #[]
  staticTypes := #[]
  resolved := Array.replicate 8 none
  statics := none }

def pool6 : Array CpInfo := pool [(1, u "java/io/Serializable"), (0, .class_ 1), (0, u "java/lang/Object"), (0, .class_ 3)] 3

/-- java/io/Serializable -/
def k6 : Class := { plain "java/io/Serializable" (some 0) with
  accessFlags := 1537
  interfaces := #[]
  cf := some (fileOf pool6 2 #[] #[] 1537 4 #[] #[])
  fields := #[]
  methods := #[]
  instanceTypes := #[]
  staticTypes := #[]
  resolved := Array.replicate 8 none
  statics := none }

/-- the primitive byte -/
def k7 : Class := { plain "byte" none with kind := .primitive 'B', accessFlags := 0x411 }
/-- [B -/
def k8 : Class := { plain "[B" (some 0) with kind := .array 7 .byte, interfaces := #[5, 6], accessFlags := 1041 }

/-- the primitive int -/
def k9 : Class := { plain "int" none with kind := .primitive 'I', accessFlags := 0x411 }
/-- [I -/
def k10 : Class := { plain "[I" (some 0) with kind := .array 9 .int, interfaces := #[5, 6], accessFlags := 1041 }

def heap : Heap := #[]
def classes : Array Class := #[k0, k1, k2, k3, k4, k5, k6, k7, k8, k9, k10]
def interned : List (Array UInt16 × Addr) := []
def slotsUsed : Nat := 0
def theMethod : MethodId := ⟨1, 1⟩
def args0 : Array Value := #[.int 65, .int 3, .int 2]
def aboutOver (below : List Frame) : State where
  vm := { classes := classes, interned := interned.toArray }
  heap := heap
  slotsUsed := slotsUsed
  threads := #[{ frames := .invoking theMethod args0 :: below }]
def below0 : List Frame := [.native { method := ⟨0, 0⟩, args := #[] }]
def about1 : State := aboutOver below0
def p0 : Program := .bare "" "" ""
def e0 : Env := launch0.env 0 0 0
theorem w_frames : about1.frames = Frame.invoking theMethod args0 :: below0 := rfl
set_option maxRecDepth 65536 in
theorem w_args : argsFit about1.vm theMethod args0 = true := by decide +kernel
set_option maxRecDepth 65536 in
theorem w_heap : heapFits about1 = true := by decide +kernel
set_option maxRecDepth 65536 in
theorem w_runnable : about1.curStatus? = some .runnable := by decide +kernel
set_option maxRecDepth 65536 in
theorem w_alone : about1.alone = true := by decide +kernel
set_option maxRecDepth 65536 in
theorem w_named : about1.methodNamed? x = some theMethod := by decide +kernel
set_option maxRecDepth 65536 in
theorem w_hears : about1.hears theMethod below0 = true := by decide +kernel
set_option maxRecDepth 65536 in
theorem w_ripe : about1.ripe theMethod args0 below0 = true := by decide +kernel
theorem w_running : about1.status = .running := rfl
set_option maxRecDepth 65536 in
theorem w_room : about1.hasRoom e0.platform room_1 = true :=
  launch0.hasRoom_least _ room_1 (by decide +kernel) (by decide +kernel) (by decide +kernel) (by decide +kernel) (by decide +kernel) (by decide +kernel)
theorem allAtoms_all (ts : List Jvm.Cond) (a : Array Jvm.Value) (st : Jvm.State) : (allAtoms ts).before a st = ts.all (fun c => c.before a st) := by
  induction ts with
  | nil => rfl
  | cons c t ih =>
    show (Jvm.Cond.and c (allAtoms t)).before a st = _
    rw [Jvm.Cond.before_and, ih, List.all_cons]
def words1 : List Jvm.Cond := Jvm.Cond.code x code maxLocals ret :: tables_1
/-- a 'code' word, met by the world's own term for the bytes: nothing is compared byte by byte -/
theorem code_word {y : MethodName} {bytes : ByteArray} {mx : Nat} {rt : Option FieldType} {a : Array Value} {s : State} {m : MethodId} {meth : Method} {c : Code} (h1 : s.methodNamed? y = some m) (h2 : s.vm.method? m = some meth) (h3 : meth.code = some c) (h4 : c.code = bytes)
    (h5 : (c.maxLocals == mx && c.exceptionTable.isEmpty && decide (c.maxStack ≤ mostOperands) && decide (meth.sig.returnType = rt) && !meth.locks && decide (parseMethodDescriptor y.desc = some meth.sig)) = true) : (Jvm.Cond.code y bytes mx rt).before a s = true := by
  simp only [Bool.and_eq_true, beq_iff_eq, Bool.not_eq_true', decide_eq_true_eq] at h5
  obtain ⟨⟨⟨⟨⟨g1, g2⟩, g3⟩, g4⟩, g5⟩, g6⟩ := h5
  simp [Cond.before, Cond.holds, Cond.value, h1, h2, h3, h4, g1, g2, g3, g4, g5, g6]
def isCode : Jvm.Cond → Bool
  | .code _ _ _ _ => true
  | _ => false
theorem all_split {L : List Jvm.Cond} {P : Jvm.Cond → Bool} (h1 : L.all (fun c => isCode c || P c) = true) (h2 : ∀ c ∈ L.filter isCode, P c = true) : L.all P = true := by
  refine List.all_eq_true.mpr fun c hc => ?_
  have h := List.all_eq_true.mp h1 c hc
  rcases Bool.eq_false_or_eq_true (isCode c) with hi | hi
  · exact h2 c (List.mem_filter.mpr ⟨hc, hi⟩)
  · simpa [hi] using h
set_option maxRecDepth 65536 in
theorem w_c0 : (Jvm.Cond.code x code maxLocals ret).before args0 about1 = true := code_word (m := ⟨1, 1⟩) (meth := k1m1) (c := k1c1) (by decide +kernel) rfl rfl rfl (by decide +kernel)
set_option maxRecDepth 65536 in
theorem w_c1 : (Jvm.Cond.code ({ cls := "java/lang/Math", name := "max", desc := "(II)I" } : Jvm.MethodName) jdk_29_method_65_code (2 : Nat) (Option.some Jvm.ClassFile.FieldType.int)).before args0 about1 = true := code_word (m := ⟨2, 1⟩) (meth := k2m1) (c := k2c1) (by decide +kernel) rfl rfl rfl (by decide +kernel)
set_option maxRecDepth 65536 in
theorem w_c2 : (Jvm.Cond.code ({ cls := "com/example/virmex/virmex/simulation/Delay", name := "<init>", desc := "(II)V" } : Jvm.MethodName) prog_32_method_1_code (3 : Nat) (Option.none : Option Jvm.ClassFile.FieldType)).before args0 about1 = true := code_word (m := ⟨4, 0⟩) (meth := k4m0) (c := k4c0) (by decide +kernel) rfl rfl rfl (by decide +kernel)
set_option maxRecDepth 65536 in
theorem w_c3 : (Jvm.Cond.code ({ cls := "java/lang/Record", name := "<init>", desc := "()V" } : Jvm.MethodName) jdk_30_method_1_code (1 : Nat) (Option.none : Option Jvm.ClassFile.FieldType)).before args0 about1 = true := code_word (m := ⟨3, 0⟩) (meth := k3m0) (c := k3c0) (by decide +kernel) rfl rfl rfl (by decide +kernel)
set_option maxRecDepth 65536 in
theorem w_c4 : (Jvm.Cond.code ({ cls := "java/lang/Object", name := "<init>", desc := "()V" } : Jvm.MethodName) object_method_1_code (1 : Nat) (Option.none : Option Jvm.ClassFile.FieldType)).before args0 about1 = true := code_word (m := ⟨0, 0⟩) (meth := k0m0) (c := k0c0) (by decide +kernel) rfl rfl rfl (by decide +kernel)
set_option maxRecDepth 65536 in
theorem w_c5 : (Jvm.Cond.code ({ cls := "com/example/virmex/virmex/simulation/Delay", name := "fixed", desc := "(I)Lcom/example/virmex/virmex/simulation/Delay;" } : Jvm.MethodName) prog_32_method_2_code (1 : Nat) (Option.some (Jvm.ClassFile.FieldType.object "com/example/virmex/virmex/simulation/Delay"))).before args0 about1 = true := code_word (m := ⟨4, 1⟩) (meth := k4m1) (c := k4c1) (by decide +kernel) rfl rfl rfl (by decide +kernel)
set_option maxRecDepth 65536 in
theorem w_c6 : (Jvm.Cond.code ({ cls := "com/example/virmex/virmex/simulation/Delay", name := "reorders", desc := "()Z" } : Jvm.MethodName) prog_32_method_4_code (1 : Nat) (Option.some Jvm.ClassFile.FieldType.boolean)).before args0 about1 = true := code_word (m := ⟨4, 2⟩) (meth := k4m2) (c := k4c2) (by decide +kernel) rfl rfl rfl (by decide +kernel)
def codes1 : List Jvm.Cond := [Jvm.Cond.code x code maxLocals ret, Jvm.Cond.code ({ cls := "java/lang/Math", name := "max", desc := "(II)I" } : Jvm.MethodName) jdk_29_method_65_code (2 : Nat) (Option.some Jvm.ClassFile.FieldType.int), Jvm.Cond.code ({ cls := "com/example/virmex/virmex/simulation/Delay", name := "<init>", desc := "(II)V" } : Jvm.MethodName) prog_32_method_1_code (3 : Nat) (Option.none : Option Jvm.ClassFile.FieldType), Jvm.Cond.code ({ cls := "java/lang/Record", name := "<init>", desc := "()V" } : Jvm.MethodName) jdk_30_method_1_code (1 : Nat) (Option.none : Option Jvm.ClassFile.FieldType), Jvm.Cond.code ({ cls := "java/lang/Object", name := "<init>", desc := "()V" } : Jvm.MethodName) object_method_1_code (1 : Nat) (Option.none : Option Jvm.ClassFile.FieldType), Jvm.Cond.code ({ cls := "com/example/virmex/virmex/simulation/Delay", name := "fixed", desc := "(I)Lcom/example/virmex/virmex/simulation/Delay;" } : Jvm.MethodName) prog_32_method_2_code (1 : Nat) (Option.some (Jvm.ClassFile.FieldType.object "com/example/virmex/virmex/simulation/Delay")), Jvm.Cond.code ({ cls := "com/example/virmex/virmex/simulation/Delay", name := "reorders", desc := "()Z" } : Jvm.MethodName) prog_32_method_4_code (1 : Nat) (Option.some Jvm.ClassFile.FieldType.boolean)]
set_option maxRecDepth 65536 in
theorem codes_eq : words1.filter isCode = codes1 := rfl
theorem w_codes : ∀ c ∈ words1.filter isCode, c.before args0 about1 = true := by
  rw [codes_eq]
  intro c hc
  simp only [codes1, List.mem_cons, List.not_mem_nil, or_false] at hc
  rcases hc with rfl | rfl | rfl | rfl | rfl | rfl | rfl
  · exact w_c0
  · exact w_c1
  · exact w_c2
  · exact w_c3
  · exact w_c4
  · exact w_c5
  · exact w_c6
set_option maxRecDepth 65536 in
theorem w_t1 : (words1.take 24).all (fun c => isCode c || c.before args0 about1) = true := by decide +kernel
set_option maxRecDepth 65536 in
theorem w_t2 : (words1.drop 24).all (fun c => isCode c || c.before args0 about1) = true := by decide +kernel
theorem w_tables : (allAtoms (Jvm.Cond.code x code maxLocals ret :: tables_1)).before args0 about1 = true := by
  rw [allAtoms_all]
  show words1.all (fun c => c.before args0 about1) = true
  refine all_split ?_ w_codes
  rw [← List.take_append_drop 24 words1, List.all_append, w_t1, w_t2]
  rfl
set_option maxRecDepth 65536 in
theorem w_case : (Jvm.Cond.and given_1 narrow_1).before args0 about1 = true := by decide +kernel
theorem w_applies : (headSpec (Jvm.Cond.code x code maxLocals ret :: tables_1) room_1).applies x e0.platform about1 = true :=
  (Spec.applies_iff w_frames).mpr ⟨w_running, w_runnable, w_alone, w_named, w_hears, w_ripe, w_room, w_tables⟩
theorem atStart : AtStart classFile x code maxLocals ret World_1 tables_1 room_1 Calls_1 rest_1 Pre_1 launch0 p0 e0 about1 theMethod args0 below0 :=
  ⟨lists_1, trivial, launch0.admits_env _ _ _, launch0.least_env, fairChoices_fair.cas, fairChoices_fair.clock, w_frames, w_args, w_heap, w_applies, trivial, trivial, w_case⟩
end start1
theorem witness_1 : WitnessClaimed_1 := ⟨start1.p0, start1.e0, start1.about1, start1.theMethod, start1.args0, start1.below0, start1.atStart⟩
end Jvm.Pilot.@@N@@
