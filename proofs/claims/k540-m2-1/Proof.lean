import JvmDerived
import JvmDerived.Pilot.@@N@@Statement
import JvmDerived.Pilot.@@N@@Code
set_option linter.unusedVariables false
set_option linter.unusedSimpArgs false
namespace Jvm.RoadKit
open Sem ClassFile Op Lib Jvm.Stand Jvm.Free Jvm.LawKit
section Own
variable {p : Program} {l : Launch} {e : Env} {R : Room} {s : State} {m : MethodId} {args : Array Value} {below : List Frame} {meth : Method} {c : Code} {T : State} {locs : List Loc} {cells slots : Nat}
theorem retI (X : Stand p l e R s m args below meth c T locs cells slots) (hx : p.tables.exec = Jvm.exec) {pc : Nat} {Ls : Array Slot} {z : Int32} {rest : List Value} (hret : meth.sig.returnType = some .int) (hd : decode c.code pc = .ok (.ireturn, 1)) {fs : List Frame}
    (hl : ∀ (f : JFrame) (acts : List Action), f.method = m → f.locked = none → f.entered = [] → (doReturn e (T.setTop f) acts (some (.int z))).1 = T.setFrames fs) : Steps p.tables e below (T.setTop (mkF m pc Ls (.int z :: rest))) (T.setFrames fs) :=
  retOut X hx hret rfl (Or.inl ⟨rfl, Or.inl rfl, z, rfl⟩) hd hl
theorem lremM {g : JFrame} {target : State} (X : Stand p l e R s m args below meth c T locs cells slots) (hx : p.tables.exec = Jvm.exec) (hg : g.method = m) {x y : Int64} {rest : List Value} (hd : decode c.code g.pc = .ok (.lrem, 1)) (hs : g.stack = .long y :: .long x :: rest) (hy : y ≠ 0)
    (hr : Steps p.tables e below (T.setTop { g with pc := g.pc + 1, stack := .long (x % y) :: rest }) target) : Steps p.tables e below (T.setTop g) target :=
  XS.lrem X.here hx hg hd hs hy (by rw [lrem_mod]; exact hr)
/-- the walk from S on ends in a return of which Q holds -/
def Goes (p : Program) (e : Env) (below : List Frame) (s : State) (k n : Nat) (Q : Option Value → Heap → List Loc → Prop) (S : State) : Prop :=
  ∃ t o, Steps p.tables e below S t ∧ t.status = .running ∧ Ended t below o ∧ ∃ v L, o = .returned v ∧ Q v t.heap L ∧ FrameEnd s o t L k n
variable {kc kn : Nat} {Q : Option Value → Heap → List Loc → Prop}
theorem Goes.step {A B : State} (h : ∀ t, Steps p.tables e below B t → Steps p.tables e below A t) (g : Goes p e below s kc kn Q B) : Goes p e below s kc kn Q A := by
  obtain ⟨t, o, h1, h2⟩ := g; exact ⟨t, o, h t h1, h2⟩
theorem Goes.to {A B : State} (h : Steps p.tables e below A B) (g : Goes p e below s kc kn Q B) : Goes p e below s kc kn Q A := by
  obtain ⟨t, o, h1, h2⟩ := g; exact ⟨t, o, h.trans h1, h2⟩
theorem Goes.out (X : Stand p l e R s m args below meth c T locs cells slots) {g : JFrame} {v : Option Value} (hlk : meth.locks = false) (hv : meth.sig.returnType = none → v = none)
    (hs : ∀ fs : List Frame, (∀ (f : JFrame) (acts : List Action), f.method = m → f.locked = none → f.entered = [] → (doReturn e (T.setTop f) acts v).1 = T.setFrames fs) → Steps p.tables e below (T.setTop g) (T.setFrames fs))
    (hq : Q v T.heap locs) (hk : cells ≤ kc) (hn : slots ≤ kn) : Goes p e below s kc kn Q (T.setTop g) := by
  obtain ⟨fs, hr, hrun, hended, hW, hsame⟩ := X.leave (v := v) hv hlk
  exact ⟨_, _, hs fs hr, hrun, hended, v, locs, rfl, hq, ⟨_, rfl⟩, hW, hsame.mono hk hn⟩
theorem Goes.retI (X : Stand p l e R s m args below meth c T locs cells slots) (hx : p.tables.exec = Jvm.exec) (hlk : meth.locks = false) {pc : Nat} {Ls : Array Slot} {z : Int32} {rest : List Value} (hret : meth.sig.returnType = some .int) (hd : decode c.code pc = .ok (.ireturn, 1))
    (hq : Q (some (.int z)) T.heap locs) (hk : cells ≤ kc) (hn : slots ≤ kn) : Goes p e below s kc kn Q (T.setTop (mkF m pc Ls (.int z :: rest))) :=
  Goes.out X hlk (fun h => by rw [hret] at h; cases h) (fun fs hr => Jvm.RoadKit.retI X hx hret hd hr) hq hk hn
theorem Goes.retN (X : Stand p l e R s m args below meth c T locs cells slots) (hx : p.tables.exec = Jvm.exec) (hlk : meth.locks = false) {pc : Nat} {Ls : Array Slot} {z : Int32} {t : FieldType} {rest : List Value} (hret : meth.sig.returnType = some t) (ht : t = .boolean ∨ t = .byte ∨ t = .char ∨ t = .short) (hd : decode c.code pc = .ok (.ireturn, 1))
    (hq : Q (some (.int (nar t z))) T.heap locs) (hk : cells ≤ kc) (hn : slots ≤ kn) : Goes p e below s kc kn Q (T.setTop (mkF m pc Ls (.int z :: rest))) :=
  Goes.out X hlk (fun h => by rw [hret] at h; cases h) (fun fs hr => Jvm.RoadKit.retN X hx hret ht hd hr) hq hk hn
theorem Goes.retJ (X : Stand p l e R s m args below meth c T locs cells slots) (hx : p.tables.exec = Jvm.exec) (hlk : meth.locks = false) {pc : Nat} {Ls : Array Slot} {z : Int64} {rest : List Value} (hret : meth.sig.returnType = some .long) (hd : decode c.code pc = .ok (.lreturn, 1))
    (hq : Q (some (.long z)) T.heap locs) (hk : cells ≤ kc) (hn : slots ≤ kn) : Goes p e below s kc kn Q (T.setTop (mkF m pc Ls (.long z :: rest))) :=
  Goes.out X hlk (fun h => by rw [hret] at h; cases h) (fun fs hr => retOut X hx hret rfl (Or.inr (Or.inl ⟨rfl, rfl, z, rfl⟩)) hd hr) hq hk hn
theorem Goes.retR (X : Stand p l e R s m args below meth c T locs cells slots) (hx : p.tables.exec = Jvm.exec) (hlk : meth.locks = false) {pc : Nat} {Ls : Array Slot} {w : Value} {t : FieldType} {rest : List Value} (hret : meth.sig.returnType = some t) (ht : t.isReference = true) (hw : w.isRef = true) (hn' : narrow t w = w) (hd : decode c.code pc = .ok (.areturn, 1))
    (hq : Q (some w) T.heap locs) (hk : cells ≤ kc) (hn : slots ≤ kn) : Goes p e below s kc kn Q (T.setTop (mkF m pc Ls (w :: rest))) :=
  Goes.out X hlk (fun h => by rw [hret] at h; cases h) (fun fs hr => retOut X hx hret hn' (Or.inr (Or.inr (Or.inr (Or.inr ⟨rfl, ht, hw⟩)))) hd hr) hq hk hn
theorem Goes.retV (X : Stand p l e R s m args below meth c T locs cells slots) (hx : p.tables.exec = Jvm.exec) (hlk : meth.locks = false) {pc : Nat} {Ls : Array Slot} (hret : meth.sig.returnType = none) (hd : decode c.code pc = .ok (.return_, 1))
    (hq : Q none T.heap locs) (hk : cells ≤ kc) (hn : slots ≤ kn) : Goes p e below s kc kn Q (T.setTop (mkF m pc Ls [])) :=
  Goes.out X hlk (fun _ => rfl) (fun fs hr => X.returnOut hx hret hd hr) hq hk hn
theorem Goes.enter {s₁ : State} {maxL : Nat} {g : JFrame} (h : entryFrame m args maxL = g) (k : Goes p e below s kc kn Q (s₁.setTop g)) :
    ∃ t o, Steps p.tables e below (s₁.setTop (entryFrame m args maxL)) t ∧ t.status = .running ∧ Ended t below o ∧ ∃ v L, o = .returned v ∧ Q v t.heap L ∧ FrameEnd s o t L kc kn := by rw [h]; exact k
theorem nm0 {b : Addr} : b ∉ ([] : List Addr) := List.not_mem_nil
theorem nm1 {b a : Addr} (h : b ≠ a) : b ∉ [a] := fun q => h (List.mem_singleton.mp q)
theorem nm2 {b a a' : Addr} (h : b ≠ a) (h' : b ≠ a') : b ∉ [a, a'] := fun q => (List.mem_cons.mp q).elim h (fun q => h' (List.mem_singleton.mp q))
theorem nm3 {b a a' a'' : Addr} (h : b ≠ a) (h' : b ≠ a') (h'' : b ≠ a'') : b ∉ [a, a', a''] := fun q => (List.mem_cons.mp q).elim h (fun q => nm2 h' h'' q)
theorem Sta.keepN {Z : State} {h h' : Heap} {C n d : String} {v : Value} {ws : List Addr} (F : Sta Z h C n d v) (K : Keep h h' ws) (hn : ∀ a ∈ ws, ∀ cell : Cell, h[a]? = some cell → cell.vm.isStatics = false) : Sta Z h' C n d v := by
  obtain ⟨cf, i, k, f, st, cell, h1, h2, h3, h4, h5, h6, r⟩ := F
  exact ⟨cf, i, k, f, st, cell, h1, h2, h3, h4, K.2.1 st cell h5 (fun q => by have := hn st q cell h5; rw [h6] at this; cases this), h6, r⟩
theorem Exa.plainN {Z : State} {h : Heap} {a : Addr} {C : String} (E : Exa Z h a C) : ∀ cell : Cell, h[a]? = some cell → cell.vm.isStatics = false := fun cell q => by
  obtain ⟨c, k, h1, h2, h3, h4, h5⟩ := E; cases h1.symm.trans q; exact h4
theorem Arv.plainN {Z : State} {h : Heap} {a : Addr} {k : ClassId} {ty : FieldType} {z : Int32} {vs : List Value} {d : Value} (A : Arv Z h a k ty z vs d) : ∀ cell : Cell, h[a]? = some cell → cell.vm.isStatics = false := fun cell q => by
  obtain ⟨c, A, r⟩ := A; cases A.1.symm.trans q; exact A.plain
end Own
end Jvm.RoadKit
namespace Jvm.Pilot.@@N@@
open Jvm Jvm.ClassFile Sem Op Lib Jvm.Free Jvm.Stand Jvm.LawKit Jvm.RoadKit Bundle Jvm.Pilot.@@N@@.Jvm.D
theorem d_jdk_30_method_1_code_0 : decode jdk_30_method_1_code 0 = .ok (.aload_n 0, 1) := by decide +kernel
theorem d_jdk_30_method_1_code_1 : decode jdk_30_method_1_code 1 = .ok (.invokespecial 1, 3) := by decide +kernel
theorem d_jdk_30_method_1_code_4 : decode jdk_30_method_1_code 4 = .ok (.return_, 1) := by decide +kernel
def own_rec_Q (Z : State) (o0 : Addr)  (h0 : Heap) (n0 : Nat) (v : Option Value) (h : Heap) (L : List Loc) : Prop := v = none ∧ Fr n0 L ∧ h = h0
theorem own_rec_ef (m : MethodId) (o0 : Addr) : entryFrame m #[(.ref o0)] 1 = mkF m 0 #[.val (.ref o0)] [] := by first | (simp [entryFrame, mkF, argsToLocals, Value.category]; done) | rfl
theorem pn_Record : plainName "java/lang/Record" = true := by first | (simp [plainName, overriddenIn]; done) | decide +kernel
set_option maxRecDepth 65536 in
set_option maxHeartbeats 40000000 in
theorem own_rec_rm (l : Launch) (Z : State) (a0 : Array Value) (hw : ∀ d ∈ tables_1, d.before a0 Z = true) (ws : List Jvm.Cond) (o0 : Addr)  (h0 : Heap) (n0 : Nat) (Z0 : n0 ≤ h0.size)  :
    MetFree l (⟨"java/lang/Record", "<init>", "()V"⟩ : MethodName) (head1 (Jvm.Cond.code (⟨"java/lang/Record", "<init>", "()V"⟩ : MethodName) jdk_30_method_1_code 1 none :: ws) ({ frames := 1, cells := 0, slots := 0, locals := 12 } : Room)) (fun a U => a = #[(.ref o0)] ∧ Z.Warmed39 U.vm ∧ U.heap = h0) (fun _ _ _ _ _ => True) (fun _ U o U' => ∃ v L, o = .returned v ∧ own_rec_Q Z o0 h0 n0 v U'.heap L ∧ FrameEnd U o U' L ({ frames := 1, cells := 0, slots := 0, locals := 12 } : Room).cells ({ frames := 1, cells := 0, slots := 0, locals := 12 } : Room).slots) := by
  refine MetFree.of_bodySF (plainFor_of_name pn_Record) hisR ?_
  intro p e s m args below meth c s₁ Bd hml0 hP hK
  obtain ⟨rfl, hZ, hh⟩ := hP
  have hx := Bd.exec
  have hby := Bd.bytes
  have hml : c.maxLocals = 1 := hml0
  have hown : s.vm.findClass "java/lang/Record" = some m.cls := findClass_of_methodNamed Bd.named
  have hnm := (name_of_methodNamed Bd.named Bd.method).1
  have hlk : meth.locks = false := BodyLoose.notSynchronized Bd
  have hrt := Bd.returns
  have X0 : Stand p l e ({ frames := 1, cells := 0, slots := 0, locals := 12 } : Room) s m #[(.ref o0)] below meth c s₁ [] 0 0 := Stand.of_body Bd
  have e0 : s₁.heap = h0 := by rw [← hh, Bd.state]; rfl
  have N0 := Fr.nil n0
  refine Goes.enter (kc := ({ frames := 1, cells := 0, slots := 0, locals := 12 } : Room).cells) (kn := ({ frames := 1, cells := 0, slots := 0, locals := 12 } : Room).slots) (Q := own_rec_Q Z o0 h0 n0) (own_rec_ef m o0) ?_
  refine Goes.step (B := (s₁.setTop (mkF m 1 #[.val (.ref o0)] [(.ref o0)]))) (fun _ k => XS.aloadN X0.here hx rfl (hb hby d_jdk_30_method_1_code_0) rfl rfl k) ?_
  obtain ⟨T101, X101, e101, st101⟩ := initO X0 hx hZ hown (hw _ (List.mem_of_getElem? (i := 13) rfl)) (hw _ (List.mem_of_getElem? (i := 14) rfl)) (hw _ (List.mem_of_getElem? (i := 15) rfl)) e0 (g := (mkF m 1 #[.val (.ref o0)] [(.ref o0)])) rfl (by rw [hml]; rfl) rfl (hb hby d_jdk_30_method_1_code_1) (by decide) (W := 0) (by show 2 * 0 + _ ≤ _; exact Nat.le_of_eq rfl) (by decide)
  refine Goes.step (B := (T101.setTop (mkF m 4 #[.val (.ref o0)] []))) (fun _ k => st101 _ k) ?_
  refine Goes.retV X101 hx hlk hrt (hb hby d_jdk_30_method_1_code_4) ?_ (by decide) (by decide)
  rw [e101]
  exact ⟨rfl, N0, rfl⟩
theorem d_prog_33_method_1_code_0 : decode prog_33_method_1_code 0 = .ok (.aload_n 0, 1) := by decide +kernel
theorem d_prog_33_method_1_code_1 : decode prog_33_method_1_code 1 = .ok (.invokespecial 1, 3) := by decide +kernel
theorem pd___V : parseMethodDescriptor "()V" = some ⟨[], none⟩ := by decide +kernel
theorem d_prog_33_method_1_code_4 : decode prog_33_method_1_code 4 = .ok (.aload_n 0, 1) := by decide +kernel
theorem d_prog_33_method_1_code_5 : decode prog_33_method_1_code 5 = .ok (.lload_n 1, 1) := by decide +kernel
theorem d_prog_33_method_1_code_6 : decode prog_33_method_1_code 6 = .ok (.putfield 7, 3) := by decide +kernel
theorem d_prog_33_method_1_code_9 : decode prog_33_method_1_code 9 = .ok (.aload_n 0, 1) := by decide +kernel
theorem d_prog_33_method_1_code_10 : decode prog_33_method_1_code 10 = .ok (.lload_n 3, 1) := by decide +kernel
theorem d_prog_33_method_1_code_11 : decode prog_33_method_1_code 11 = .ok (.putfield 13, 3) := by decide +kernel
theorem d_prog_33_method_1_code_14 : decode prog_33_method_1_code 14 = .ok (.return_, 1) := by decide +kernel
def own_ch_Q (Z : State) (o0 : Addr) (r0 : Int64) (e1 : Int64)  (h0 : Heap) (n0 : Nat) (v : Option Value) (h : Heap) (L : List Loc) : Prop := (v = none) ∧ (Fr n0 L) ∧ (Keep h0 h [o0]) ∧ (Exa Z h o0 "com/example/breakwater/breakwater/core/CircuitHealth") ∧ (Fld Z h o0 "com/example/breakwater/breakwater/core/CircuitHealth" "requests" "J" (.long r0)) ∧ (Fld Z h o0 "com/example/breakwater/breakwater/core/CircuitHealth" "errors" "J" (.long e1))
theorem own_ch_ef (m : MethodId) (o0 : Addr) (r0 : Int64) (e1 : Int64) : entryFrame m #[(.ref o0), (.long r0), (.long e1)] 5 = mkF m 0 #[.val (.ref o0), .val (.long r0), .second, .val (.long e1), .second] [] := by first | (simp [entryFrame, mkF, argsToLocals, Value.category]; done) | rfl
theorem pn_CircuitHealth : plainName "com/example/breakwater/breakwater/core/CircuitHealth" = true := by first | (simp [plainName, overriddenIn]; done) | decide +kernel
set_option maxRecDepth 65536 in
set_option maxHeartbeats 40000000 in
theorem own_ch_rm (l : Launch) (Z : State) (a0 : Array Value) (hw : ∀ d ∈ tables_1, d.before a0 Z = true) (ws : List Jvm.Cond) (o0 : Addr) (r0 : Int64) (e1 : Int64)  (h0 : Heap) (n0 : Nat) (Z0 : n0 ≤ h0.size) (pr0 : Exa Z h0 o0 "com/example/breakwater/breakwater/core/CircuitHealth") (pr1 : Fld Z h0 o0 "com/example/breakwater/breakwater/core/CircuitHealth" "requests" "J" (.long (0 : Int64))) (pr2 : Fld Z h0 o0 "com/example/breakwater/breakwater/core/CircuitHealth" "errors" "J" (.long (0 : Int64))) (pr3 : n0 ≤ o0) :
    MetFree l (⟨"com/example/breakwater/breakwater/core/CircuitHealth", "<init>", "(JJ)V"⟩ : MethodName) (head1 (Jvm.Cond.code (⟨"com/example/breakwater/breakwater/core/CircuitHealth", "<init>", "(JJ)V"⟩ : MethodName) prog_33_method_1_code 5 none :: ws) ({ frames := 2, cells := 0, slots := 0, locals := 24 } : Room)) (fun a U => a = #[(.ref o0), (.long r0), (.long e1)] ∧ Z.Warmed39 U.vm ∧ U.heap = h0) (fun _ _ _ _ _ => True) (fun _ U o U' => ∃ v L, o = .returned v ∧ own_ch_Q Z o0 r0 e1 h0 n0 v U'.heap L ∧ FrameEnd U o U' L ({ frames := 2, cells := 0, slots := 0, locals := 24 } : Room).cells ({ frames := 2, cells := 0, slots := 0, locals := 24 } : Room).slots) := by
  refine MetFree.of_bodySF (plainFor_of_name pn_CircuitHealth) hisR ?_
  intro p e s m args below meth c s₁ Bd hml0 hP hK
  obtain ⟨rfl, hZ, hh⟩ := hP
  have hx := Bd.exec
  have hby := Bd.bytes
  have hml : c.maxLocals = 5 := hml0
  have hown : s.vm.findClass "com/example/breakwater/breakwater/core/CircuitHealth" = some m.cls := findClass_of_methodNamed Bd.named
  have hnm := (name_of_methodNamed Bd.named Bd.method).1
  have hlk : meth.locks = false := BodyLoose.notSynchronized Bd
  have hrt := Bd.returns
  have X0 : Stand p l e ({ frames := 2, cells := 0, slots := 0, locals := 24 } : Room) s m #[(.ref o0), (.long r0), (.long e1)] below meth c s₁ [] 0 0 := Stand.of_body Bd
  have e0 : s₁.heap = h0 := by rw [← hh, Bd.state]; rfl
  have N0 := Fr.nil n0
  refine Goes.enter (kc := ({ frames := 2, cells := 0, slots := 0, locals := 24 } : Room).cells) (kn := ({ frames := 2, cells := 0, slots := 0, locals := 24 } : Room).slots) (Q := own_ch_Q Z o0 r0 e1 h0 n0) (own_ch_ef m o0 r0 e1) ?_
  refine Goes.step (B := (s₁.setTop (mkF m 1 #[.val (.ref o0), .val (.long r0), .second, .val (.long e1), .second] [(.ref o0)]))) (fun _ k => XS.aloadN X0.here hx rfl (hb hby d_prog_33_method_1_code_0) rfl rfl k) ?_
  obtain ⟨_, _, ⟨T101, L101, k101, n101⟩, -, X101, ⟨Lc101, hQ101, l101, y101, z101⟩, st101⟩ := X0.specialBack hx (y := (⟨"java/lang/Record", "<init>", "()V"⟩ : MethodName)) rfl hown (mvT hZ (hw _ (List.mem_of_getElem? (i := 8) rfl))) (mvT hZ (hw _ (List.mem_of_getElem? (i := 9) rfl))) (mvT hZ (hw _ (List.mem_of_getElem? (i := 12) rfl))) (by decide) (backOf (W := 0) (own_rec_rm l Z a0 hw [] o0  h0 n0 Z0 ) hZ (hw _ (List.mem_of_getElem? (i := 12) rfl)) (hw _ (List.mem_of_getElem? (i := 11) rfl)) (by decide) (by decide)) (g := (mkF m 1 #[.val (.ref o0), .val (.long r0), .second, .val (.long e1), .second] [(.ref o0)])) rfl (by rw [hml]; rfl) (Steps.refl _) (a := o0) (argsL := []) (rest := []) (lenOf pd___V rfl) rfl (by show 2 * 0 + _ ≤ _; exact Nat.le_of_eq rfl) (hb hby d_prog_33_method_1_code_1) (fun _ _ => ⟨rfl, e0, (by decide : 0 + 0 ≤ _), (by decide : 0 + 0 ≤ _)⟩)
  dsimp only [Pt.U, Pt.locs, Pt.cells, Pt.slots] at X101 l101 y101 z101 st101 hQ101
  subst l101 y101 z101
  obtain ⟨rfl, N101q, e101⟩ := hQ101
  have N101 := Fr.app N0 N101q
  refine Goes.to (B := (T101.setTop (mkF m 4 #[.val (.ref o0), .val (.long r0), .second, .val (.long e1), .second] []))) st101 ?_
  refine Goes.step (B := (T101.setTop (mkF m 5 #[.val (.ref o0), .val (.long r0), .second, .val (.long e1), .second] [(.ref o0)]))) (fun _ k => XS.aloadN X101.here hx rfl (hb hby d_prog_33_method_1_code_4) rfl rfl k) ?_
  refine Goes.step (B := (T101.setTop (mkF m 6 #[.val (.ref o0), .val (.long r0), .second, .val (.long e1), .second] [(.long r0), (.ref o0)]))) (fun _ k => XS.lloadN X101.here hx rfl (hb hby d_prog_33_method_1_code_5) rfl k) ?_
  obtain ⟨T102, h102, X102, e102, W102, st102⟩ := putF X101 hx hZ hown (host := "") (Or.inl (hw _ (List.mem_of_getElem? (i := 16) rfl))) Via.refl e101 pr1 pr0 (Or.inr ⟨(hw _ (List.mem_of_getElem? (i := 17) rfl)), rfl, hnm⟩) (hw _ (List.mem_of_getElem? (i := 3) rfl)) (ty := .long) (by decide) rfl rfl (g := (mkF m 6 #[.val (.ref o0), .val (.long r0), .second, .val (.long e1), .second] [(.long r0), (.ref o0)])) rfl rfl (hb hby d_prog_33_method_1_code_6)
  have f103 := pr0.wr W102
  have f104 := pr2.other W102 (Or.inr (slot_ne (Or.inr (hw _ (List.mem_of_getElem? (i := 19) rfl))) (Or.inr (hw _ (List.mem_of_getElem? (i := 17) rfl))) (by decide) (t := .long) (t' := .long) (by decide) (by decide)))
  have N102 := Fr.snoc X102 N101 pr3
  have K102 : Keep h0 h102 [o0] := (Keep.refl h0 [o0]).wr W102 (Or.inl (List.mem_of_getElem? (i := 0) rfl))
  have Z102 : n0 ≤ h102.size := Nat.le_trans Z0 (Nat.le_of_eq W102.size.symm)
  have f105 : Fld Z h102 o0 "com/example/breakwater/breakwater/core/CircuitHealth" "requests" "J" (.long r0) := pr1.same W102
  refine Goes.step (B := (T102.setTop (mkF m 9 #[.val (.ref o0), .val (.long r0), .second, .val (.long e1), .second] []))) (fun _ k => st102 _ k) ?_
  refine Goes.step (B := (T102.setTop (mkF m 10 #[.val (.ref o0), .val (.long r0), .second, .val (.long e1), .second] [(.ref o0)]))) (fun _ k => XS.aloadN X102.here hx rfl (hb hby d_prog_33_method_1_code_9) rfl rfl k) ?_
  refine Goes.step (B := (T102.setTop (mkF m 11 #[.val (.ref o0), .val (.long r0), .second, .val (.long e1), .second] [(.long e1), (.ref o0)]))) (fun _ k => XS.lloadN X102.here hx rfl (hb hby d_prog_33_method_1_code_10) rfl k) ?_
  obtain ⟨T106, h106, X106, e106, W106, st106⟩ := putF X102 hx hZ hown (host := "") (Or.inl (hw _ (List.mem_of_getElem? (i := 18) rfl))) Via.refl e102 f104 f103 (Or.inr ⟨(hw _ (List.mem_of_getElem? (i := 19) rfl)), rfl, hnm⟩) (hw _ (List.mem_of_getElem? (i := 3) rfl)) (ty := .long) (by decide) rfl rfl (g := (mkF m 11 #[.val (.ref o0), .val (.long r0), .second, .val (.long e1), .second] [(.long e1), (.ref o0)])) rfl rfl (hb hby d_prog_33_method_1_code_11)
  have f107 := f103.wr W106
  have f108 := f105.other W106 (Or.inr (slot_ne (Or.inr (hw _ (List.mem_of_getElem? (i := 17) rfl))) (Or.inr (hw _ (List.mem_of_getElem? (i := 19) rfl))) (by decide) (t := .long) (t' := .long) (by decide) (by decide)))
  have N106 := Fr.snoc X106 N102 pr3
  have K106 : Keep h0 h106 [o0] := K102.wr W106 (Or.inl (List.mem_of_getElem? (i := 0) rfl))
  have Z106 : n0 ≤ h106.size := Nat.le_trans Z102 (Nat.le_of_eq W106.size.symm)
  have f109 : Fld Z h106 o0 "com/example/breakwater/breakwater/core/CircuitHealth" "errors" "J" (.long e1) := f104.same W106
  refine Goes.step (B := (T106.setTop (mkF m 14 #[.val (.ref o0), .val (.long r0), .second, .val (.long e1), .second] []))) (fun _ k => st106 _ k) ?_
  refine Goes.retV X106 hx hlk hrt (hb hby d_prog_33_method_1_code_14) ?_ (by decide) (by decide)
  rw [e106]
  exact ⟨rfl, N106, K106, f107, f108, f109⟩
theorem own_nz {r : Int64} (h : (0 : Int64) < r) : r ≠ 0 := fun q => by subst q; exact absurd h (by decide)
theorem d_prog_33_method_2_code_0 : decode prog_33_method_2_code 0 = .ok (.iconst 0, 1) := by decide +kernel
theorem d_prog_33_method_2_code_1 : decode prog_33_method_2_code 1 = .ok (.istore_n 1, 1) := by decide +kernel
theorem d_prog_33_method_2_code_2 : decode prog_33_method_2_code 2 = .ok (.aload_n 0, 1) := by decide +kernel
theorem d_prog_33_method_2_code_3 : decode prog_33_method_2_code 3 = .ok (.getfield 7, 3) := by decide +kernel
theorem d_prog_33_method_2_code_6 : decode prog_33_method_2_code 6 = .ok (.lconst 0, 1) := by decide +kernel
theorem d_prog_33_method_2_code_7 : decode prog_33_method_2_code 7 = .ok (.lcmp, 1) := by decide +kernel
theorem d_prog_33_method_2_code_8 : decode prog_33_method_2_code 8 = .ok (.ifCond .le 18, 3) := by decide +kernel
theorem d_prog_33_method_2_code_11 : decode prog_33_method_2_code 11 = .ok (.aload_n 0, 1) := by decide +kernel
theorem d_prog_33_method_2_code_12 : decode prog_33_method_2_code 12 = .ok (.getfield 13, 3) := by decide +kernel
theorem d_prog_33_method_2_code_15 : decode prog_33_method_2_code 15 = .ok (.ldc2_w 16, 3) := by decide +kernel
theorem d_prog_33_method_2_code_18 : decode prog_33_method_2_code 18 = .ok (.lmul, 1) := by decide +kernel
theorem d_prog_33_method_2_code_19 : decode prog_33_method_2_code 19 = .ok (.aload_n 0, 1) := by decide +kernel
theorem d_prog_33_method_2_code_20 : decode prog_33_method_2_code 20 = .ok (.getfield 7, 3) := by decide +kernel
theorem d_prog_33_method_2_code_23 : decode prog_33_method_2_code 23 = .ok (.ldiv, 1) := by decide +kernel
theorem d_prog_33_method_2_code_24 : decode prog_33_method_2_code 24 = .ok (.l2i, 1) := by decide +kernel
theorem d_prog_33_method_2_code_25 : decode prog_33_method_2_code 25 = .ok (.istore_n 1, 1) := by decide +kernel
theorem d_prog_33_method_2_code_26 : decode prog_33_method_2_code 26 = .ok (.iload_n 1, 1) := by decide +kernel
theorem d_prog_33_method_2_code_27 : decode prog_33_method_2_code 27 = .ok (.ireturn, 1) := by decide +kernel
def own_ep_fn (r0 : Int64) (e1 : Int64) : Int32 := (if (0 : Int64) < r0 then ((e1 * (100 : Int64)) / r0).toInt32 else (0 : Int32))
def own_ep_Q (Z : State) (o0 : Addr) (r0 : Int64) (e1 : Int64) (h0 : Heap) (n0 : Nat) (v : Option Value) (h : Heap) (L : List Loc) : Prop := v = some (.int (own_ep_fn r0 e1)) ∧ Fr n0 L ∧ h = h0
theorem own_ep_ef (m : MethodId) (o0 : Addr) : entryFrame m #[(.ref o0)] 2 = mkF m 0 #[.val (.ref o0), .unset] [] := by first | (simp [entryFrame, mkF, argsToLocals, Value.category]; done) | rfl
set_option maxRecDepth 65536 in
set_option maxHeartbeats 40000000 in
theorem own_ep_rm (l : Launch) (Z : State) (a0 : Array Value) (hw : ∀ d ∈ tables_1, d.before a0 Z = true) (ws : List Jvm.Cond) (o0 : Addr) (r0 : Int64) (e1 : Int64) (h0 : Heap) (n0 : Nat) (Z0 : n0 ≤ h0.size) (pr0 : Fld Z h0 o0 "com/example/breakwater/breakwater/core/CircuitHealth" "requests" "J" (.long r0)) (pr1 : Fld Z h0 o0 "com/example/breakwater/breakwater/core/CircuitHealth" "errors" "J" (.long e1)) :
    MetFree l (⟨"com/example/breakwater/breakwater/core/CircuitHealth", "errorPercentage", "()I"⟩ : MethodName) (head1 (Jvm.Cond.code (⟨"com/example/breakwater/breakwater/core/CircuitHealth", "errorPercentage", "()I"⟩ : MethodName) prog_33_method_2_code 2 (some .int) :: ws) ({ frames := 0, cells := 0, slots := 0, locals := 0 } : Room)) (fun a U => a = #[(.ref o0)] ∧ Z.Warmed39 U.vm ∧ U.heap = h0) (fun _ _ _ _ _ => True) (fun _ U o U' => ∃ v L, o = .returned v ∧ own_ep_Q Z o0 r0 e1 h0 n0 v U'.heap L ∧ FrameEnd U o U' L ({ frames := 0, cells := 0, slots := 0, locals := 0 } : Room).cells ({ frames := 0, cells := 0, slots := 0, locals := 0 } : Room).slots) := by
  refine MetFree.of_bodySF (plainFor_of_name pn_CircuitHealth) hisR ?_
  intro p e s m args below meth c s₁ Bd hml0 hP hK
  obtain ⟨rfl, hZ, hh⟩ := hP
  have hx := Bd.exec
  have hby := Bd.bytes
  have hml : c.maxLocals = 2 := hml0
  have hown : s.vm.findClass "com/example/breakwater/breakwater/core/CircuitHealth" = some m.cls := findClass_of_methodNamed Bd.named
  have hnm := (name_of_methodNamed Bd.named Bd.method).1
  have hlk : meth.locks = false := BodyLoose.notSynchronized Bd
  have hrt := Bd.returns
  have X0 : Stand p l e ({ frames := 0, cells := 0, slots := 0, locals := 0 } : Room) s m #[(.ref o0)] below meth c s₁ [] 0 0 := Stand.of_body Bd
  have e0 : s₁.heap = h0 := by rw [← hh, Bd.state]; rfl
  have N0 := Fr.nil n0
  refine Goes.enter (kc := ({ frames := 0, cells := 0, slots := 0, locals := 0 } : Room).cells) (kn := ({ frames := 0, cells := 0, slots := 0, locals := 0 } : Room).slots) (Q := own_ep_Q Z o0 r0 e1 h0 n0) (own_ep_ef m o0) ?_
  refine Goes.step (B := (s₁.setTop (mkF m 1 #[.val (.ref o0), .unset] [(.int (0 : Int32))]))) (fun _ k => XS.iconst X0.here hx rfl (hb hby d_prog_33_method_2_code_0) k) ?_
  refine Goes.step (B := (s₁.setTop (mkF m 2 #[.val (.ref o0), .val (.int (0 : Int32))] []))) (fun _ k => XS.istoreN X0.here hx rfl (hb hby d_prog_33_method_2_code_1) rfl (l' := #[.val (.ref o0), .val (.int (0 : Int32))]) rfl k) ?_
  refine Goes.step (B := (s₁.setTop (mkF m 3 #[.val (.ref o0), .val (.int (0 : Int32))] [(.ref o0)]))) (fun _ k => XS.aloadN X0.here hx rfl (hb hby d_prog_33_method_2_code_2) rfl rfl k) ?_
  obtain ⟨T101, X101, e101, st101⟩ := getF X0 hx hZ hown (host := "") (Or.inl (hw _ (List.mem_of_getElem? (i := 16) rfl))) Via.refl e0 pr0 (g := (mkF m 3 #[.val (.ref o0), .val (.int (0 : Int32))] [(.ref o0)])) rfl rfl (hb hby d_prog_33_method_2_code_3)
  refine Goes.step (B := (T101.setTop (mkF m 6 #[.val (.ref o0), .val (.int (0 : Int32))] [(.long r0)]))) (fun _ k => st101 _ k) ?_
  refine Goes.step (B := (T101.setTop (mkF m 7 #[.val (.ref o0), .val (.int (0 : Int32))] [(.long (0 : Int64)), (.long r0)]))) (fun _ k => XS.lconst X101.here hx rfl (hb hby d_prog_33_method_2_code_6) k) ?_
  refine Goes.step (B := (T101.setTop (mkF m 8 #[.val (.ref o0), .val (.int (0 : Int32))] [(.int (lcmpW r0 (0 : Int64)))]))) (fun _ k => XS.lcmp X101.here hx rfl (hb hby d_prog_33_method_2_code_7) rfl k) ?_
  by_cases hc102 : (0 : Int64) < r0
  · refine Goes.step (B := (T101.setTop (mkF m 11 #[.val (.ref o0), .val (.int (0 : Int32))] []))) (fun _ k => XS.ifNo X101.here hx rfl (hb hby d_prog_33_method_2_code_8) rfl ((if0 _ _).trans (tlt ((lw_gt _ _).mpr hc102)).2.2.2) k) ?_
    refine Goes.step (B := (T101.setTop (mkF m 12 #[.val (.ref o0), .val (.int (0 : Int32))] [(.ref o0)]))) (fun _ k => XS.aloadN X101.here hx rfl (hb hby d_prog_33_method_2_code_11) rfl rfl k) ?_
    obtain ⟨T103, X103, e103, st103⟩ := getF X101 hx hZ hown (host := "") (Or.inl (hw _ (List.mem_of_getElem? (i := 18) rfl))) Via.refl e101 pr1 (g := (mkF m 12 #[.val (.ref o0), .val (.int (0 : Int32))] [(.ref o0)])) rfl rfl (hb hby d_prog_33_method_2_code_12)
    refine Goes.step (B := (T103.setTop (mkF m 15 #[.val (.ref o0), .val (.int (0 : Int32))] [(.long e1)]))) (fun _ k => st103 _ k) ?_
    refine Goes.step (B := (T103.setTop (mkF m 18 #[.val (.ref o0), .val (.int (0 : Int32))] [(.long (100 : Int64)), (.long e1)]))) (fun _ k => X103.ldc2Long hx hown (mvT hZ (hw _ (List.mem_of_getElem? (i := 25) rfl))) (g := (mkF m 15 #[.val (.ref o0), .val (.int (0 : Int32))] [(.long e1)])) rfl (hb hby d_prog_33_method_2_code_15) _ k) ?_
    refine Goes.step (B := (T103.setTop (mkF m 19 #[.val (.ref o0), .val (.int (0 : Int32))] [(.long (e1 * (100 : Int64)))]))) (fun _ k => XS.lmul X103.here hx rfl (hb hby d_prog_33_method_2_code_18) rfl k) ?_
    refine Goes.step (B := (T103.setTop (mkF m 20 #[.val (.ref o0), .val (.int (0 : Int32))] [(.ref o0), (.long (e1 * (100 : Int64)))]))) (fun _ k => XS.aloadN X103.here hx rfl (hb hby d_prog_33_method_2_code_19) rfl rfl k) ?_
    obtain ⟨T104, X104, e104, st104⟩ := getF X103 hx hZ hown (host := "") (Or.inl (hw _ (List.mem_of_getElem? (i := 16) rfl))) Via.refl e103 pr0 (g := (mkF m 20 #[.val (.ref o0), .val (.int (0 : Int32))] [(.ref o0), (.long (e1 * (100 : Int64)))])) rfl rfl (hb hby d_prog_33_method_2_code_20)
    refine Goes.step (B := (T104.setTop (mkF m 23 #[.val (.ref o0), .val (.int (0 : Int32))] [(.long r0), (.long (e1 * (100 : Int64)))]))) (fun _ k => st104 _ k) ?_
    refine Goes.step (B := (T104.setTop (mkF m 24 #[.val (.ref o0), .val (.int (0 : Int32))] [(.long ((e1 * (100 : Int64)) / r0))]))) (fun _ k => XS.ldiv X104.here hx rfl (hb hby d_prog_33_method_2_code_23) rfl (own_nz hc102) k) ?_
    refine Goes.step (B := (T104.setTop (mkF m 25 #[.val (.ref o0), .val (.int (0 : Int32))] [(.int ((e1 * (100 : Int64)) / r0).toInt32)]))) (fun _ k => XS.l2i X104.here hx rfl (hb hby d_prog_33_method_2_code_24) rfl k) ?_
    refine Goes.step (B := (T104.setTop (mkF m 26 #[.val (.ref o0), .val (.int ((e1 * (100 : Int64)) / r0).toInt32)] []))) (fun _ k => XS.istoreN X104.here hx rfl (hb hby d_prog_33_method_2_code_25) rfl (l' := #[.val (.ref o0), .val (.int ((e1 * (100 : Int64)) / r0).toInt32)]) rfl k) ?_
    refine Goes.step (B := (T104.setTop (mkF m 27 #[.val (.ref o0), .val (.int ((e1 * (100 : Int64)) / r0).toInt32)] [(.int ((e1 * (100 : Int64)) / r0).toInt32)]))) (fun _ k => XS.iloadN X104.here hx rfl (hb hby d_prog_33_method_2_code_26) rfl k) ?_
    refine Goes.retI X104 hx hlk hrt (hb hby d_prog_33_method_2_code_27) ?_ (by decide) (by decide)
    rw [e104]
    exact ⟨congrArg (fun z => some (Value.int z)) (show ((e1 * (100 : Int64)) / r0).toInt32 = (own_ep_fn r0 e1) from (show ((e1 * (100 : Int64)) / r0).toInt32 = ((e1 * (100 : Int64)) / r0).toInt32 from rfl).trans (by simp only [own_ep_fn, if_pos hc102])), N0, rfl⟩
  · refine Goes.step (B := (T101.setTop (mkF m 26 #[.val (.ref o0), .val (.int (0 : Int32))] []))) (fun _ k => XS.ifYes X101.here hx rfl (pc0 := 8) (pc' := 26) rfl (hb hby d_prog_33_method_2_code_8) rfl ((if0 _ _).trans (flt (mt (lw_gt _ _).mp hc102)).2.2.2) (by decide) (by decide) k) ?_
    refine Goes.step (B := (T101.setTop (mkF m 27 #[.val (.ref o0), .val (.int (0 : Int32))] [(.int (0 : Int32))]))) (fun _ k => XS.iloadN X101.here hx rfl (hb hby d_prog_33_method_2_code_26) rfl k) ?_
    refine Goes.retI X101 hx hlk hrt (hb hby d_prog_33_method_2_code_27) ?_ (by decide) (by decide)
    rw [e101]
    exact ⟨congrArg (fun z => some (Value.int z)) (show (0 : Int32) = (own_ep_fn r0 e1) from (show (0 : Int32) = (0 : Int32) from rfl).trans (by simp only [own_ep_fn, if_neg hc102])), N0, rfl⟩
def own_law_j11 (x0 : Int64) (x2 : Int32) : Int64 := (if (x2 &&& (2 : Int32)) = (0 : Int32) then (x0 ||| (-9223372036854775808 : Int64)) else (0 : Int64))
def own_r2 (x0 : Int64) : Int64 := ((x0 &&& (1099511627775 : Int64)) + (1 : Int64))
def own_er (x0 : Int64) (x1 : Int64) : Int64 := ((x1 &&& (9223372036854775807 : Int64)) % ((own_r2 x0) + (1 : Int64)))
def own_sc (x0 : Int64) (x1 : Int64) : Int64 := ((own_er x0 x1) * (100 : Int64))
theorem own_t1 (x0 x1 : Int64) (x2 : Int32) : own_ep_fn (own_law_j11 x0 x2) x1 = (0 : Int32) := by
  have h : ¬ (0 : Int64) < own_law_j11 x0 x2 := by
    unfold own_law_j11
    split
    · rw [Int64.lt_iff_toInt_lt]
      have := (c_orSL x0 (-9223372036854775808)).2.2 (by decide)
      have k : (0 : Int64).toInt = 0 := by decide
      omega
    · decide
  rw [own_ep_fn, if_neg h]
theorem own_r2b (x0 : Int64) : 1 ≤ (own_r2 x0).toInt ∧ (own_r2 x0).toInt ≤ 1099511627776 := by
  have h1 := c_maskL x0 1099511627775 40 (by decide) (by decide)
  have h2 := c_ladd (x0 &&& 1099511627775) 1
  have h3 := rng64 ((x0 &&& 1099511627775) + 1)
  have k : (1 : Int64).toInt = 1 := by decide
  show 1 ≤ ((x0 &&& 1099511627775) + 1 : Int64).toInt ∧ ((x0 &&& 1099511627775) + 1 : Int64).toInt ≤ 1099511627776
  omega
theorem own_r3 (x0 : Int64) : (own_r2 x0 + 1).toInt = (own_r2 x0).toInt + 1 := by
  have := own_r2b x0
  have h2 := c_ladd (own_r2 x0) 1
  have h3 := rng64 (own_r2 x0 + 1)
  have k : (1 : Int64).toInt = 1 := by decide
  omega
theorem own_nz2 (x0 : Int64) : own_r2 x0 + (1 : Int64) ≠ 0 := fun q => by
  have h := own_r3 x0
  have := own_r2b x0
  rw [q] at h
  have k : (0 : Int64).toInt = 0 := by decide
  omega
theorem own_erb (x0 x1 : Int64) : 0 ≤ (own_er x0 x1).toInt ∧ (own_er x0 x1).toInt ≤ (own_r2 x0).toInt := by
  have h1 := c_maskL x1 9223372036854775807 63 (by decide) (by decide)
  have h2 := own_r3 x0
  have h3 := own_r2b x0
  show 0 ≤ ((x1 &&& 9223372036854775807) % (own_r2 x0 + 1) : Int64).toInt ∧ ((x1 &&& 9223372036854775807) % (own_r2 x0 + 1) : Int64).toInt ≤ _
  rw [Int64.toInt_mod, Int.tmod_eq_emod_of_nonneg (by omega), h2]
  have h4 := Int.emod_nonneg (x1 &&& 9223372036854775807 : Int64).toInt (show (own_r2 x0).toInt + 1 ≠ 0 by omega)
  have h5 := Int.emod_lt_of_pos (x1 &&& 9223372036854775807 : Int64).toInt (show 0 < (own_r2 x0).toInt + 1 by omega)
  omega
theorem own_scb (x0 x1 : Int64) : (own_sc x0 x1).toInt = (own_er x0 x1).toInt * 100 := by
  have h1 := own_erb x0 x1
  have h2 := own_r2b x0
  have h3 := c_lmul (own_er x0 x1) 100
  have h4 := rng64 (own_er x0 x1 * 100)
  have k : (100 : Int64).toInt = 100 := by decide
  show (own_er x0 x1 * 100 : Int64).toInt = _
  rw [k] at h3
  omega
theorem own_ppb (x0 x1 : Int64) : (own_ep_fn (own_r2 x0) (own_er x0 x1)).toInt64.toInt = (own_er x0 x1).toInt * 100 / (own_r2 x0).toInt ∧ 0 ≤ (own_er x0 x1).toInt * 100 / (own_r2 x0).toInt ∧ (own_er x0 x1).toInt * 100 / (own_r2 x0).toInt ≤ 100 := by
  have h1 := own_erb x0 x1
  have h2 := own_r2b x0
  have hs : (own_er x0 x1 * 100 : Int64).toInt = (own_er x0 x1).toInt * 100 := own_scb x0 x1
  have k0 : (0 : Int64).toInt = 0 := by decide
  have hp : (0 : Int64) < own_r2 x0 := by rw [Int64.lt_iff_toInt_lt]; omega
  have hm : own_r2 x0 ≠ -1 := fun q => by
    have k1 : (-1 : Int64).toInt = -1 := by decide
    rw [q] at h2; omega
  rw [own_ep_fn, if_pos hp, c_i2l]
  have h3 := (c_ldiv (own_er x0 x1 * 100) (own_r2 x0) _ rfl hm).1 (by omega)
  rw [hs] at h3
  have h4 : 0 ≤ (own_er x0 x1).toInt * 100 / (own_r2 x0).toInt := Int.ediv_nonneg (by omega) (by omega)
  have h5 : (own_er x0 x1).toInt * 100 / (own_r2 x0).toInt ≤ 100 := by
    have : (own_er x0 x1).toInt * 100 / (own_r2 x0).toInt < 101 := Int.ediv_lt_of_lt_mul (by omega) (by omega)
    omega
  have h6 := c_l2i (own_er x0 x1 * 100 / own_r2 x0)
  have h7 := rng32 (own_er x0 x1 * 100 / own_r2 x0).toInt32
  rw [h3] at h6
  refine ⟨?_, h4, h5⟩
  omega
theorem own_t2 (x0 x1 : Int64) : ¬ ((own_ep_fn (own_r2 x0) (own_er x0 x1)).toInt64 < (0 : Int64)) := by
  have h := own_ppb x0 x1
  have k0 : (0 : Int64).toInt = 0 := by decide
  rw [Int64.lt_iff_toInt_lt]; omega
theorem own_t3 (x0 x1 : Int64) : ¬ ((100 : Int64) < (own_ep_fn (own_r2 x0) (own_er x0 x1)).toInt64) := by
  have h := own_ppb x0 x1
  have k0 : (100 : Int64).toInt = 100 := by decide
  rw [Int64.lt_iff_toInt_lt]; omega
theorem own_mul (a b : Int64) (A B : Int) (ha : a.toInt = A) (hb : b.toInt = B) (h0 : 0 ≤ A) (h1 : A ≤ 101) (h2 : 1 ≤ B) (h3 : B ≤ 1099511627776) : (a * b).toInt = A * B := by
  have h4 := c_lmul a b
  have h5 := rng64 (a * b)
  rw [ha, hb] at h4
  have h6 : 0 ≤ A * B := Int.mul_nonneg h0 (by omega)
  have h7 : A * B ≤ 101 * 1099511627776 := Int.mul_le_mul h1 h3 (by omega) (by omega)
  omega
theorem own_t4 (x0 x1 : Int64) : ¬ ((own_sc x0 x1) < ((own_ep_fn (own_r2 x0) (own_er x0 x1)).toInt64 * (own_r2 x0))) := by
  obtain ⟨h1, h2, h3⟩ := own_ppb x0 x1
  have h4 := own_r2b x0
  rw [Int64.lt_iff_toInt_lt, own_scb, own_mul _ _ _ _ h1 rfl h2 (by omega) h4.1 h4.2]
  have := Int.ediv_mul_le ((own_er x0 x1).toInt * 100) (show (own_r2 x0).toInt ≠ 0 by omega)
  omega
theorem own_t5 (x0 x1 : Int64) : (own_sc x0 x1) < (((own_ep_fn (own_r2 x0) (own_er x0 x1)).toInt64 + (1 : Int64)) * (own_r2 x0)) := by
  obtain ⟨h1, h2, h3⟩ := own_ppb x0 x1
  have h4 := own_r2b x0
  have h5 : ((own_ep_fn (own_r2 x0) (own_er x0 x1)).toInt64 + (1 : Int64)).toInt = (own_er x0 x1).toInt * 100 / (own_r2 x0).toInt + 1 := by
    have k := c_ladd (own_ep_fn (own_r2 x0) (own_er x0 x1)).toInt64 1
    have k2 := rng64 ((own_ep_fn (own_r2 x0) (own_er x0 x1)).toInt64 + 1)
    have k1 : (1 : Int64).toInt = 1 := by decide
    omega
  rw [Int64.lt_iff_toInt_lt, own_scb, own_mul _ _ _ _ h5 rfl (by omega) (by omega) h4.1 h4.2]
  exact Int.lt_ediv_add_one_mul_self _ (by omega)

theorem pd__JJ_V : parseMethodDescriptor "(JJ)V" = some ⟨[.long, .long], none⟩ := by decide +kernel
theorem pd___I : parseMethodDescriptor "()I" = some ⟨[], some .int⟩ := by decide +kernel
def own_law_Q (Z : State) (x0 : Int64) (x1 : Int64) (x2 : Int32)  (h0 : Heap) (n0 : Nat) (v : Option Value) (h : Heap) (L : List Loc) : Prop := v = some (.int 1) ∧ Fr n0 L
theorem own_law_ef (m : MethodId) (x0 : Int64) (x1 : Int64) (x2 : Int32) : entryFrame m #[(.long x0), (.long x1), (.int x2)] maxLocals = mkF m 0 #[.val (.long x0), .second, .val (.long x1), .second, .val (.int x2), .unset, .unset, .unset, .unset, .unset, .unset, .unset, .unset, .unset, .unset, .unset] [] := by first | (simp [entryFrame, mkF, argsToLocals, Value.category, maxLocals]; done) | rfl
theorem pn_CircuitHealthErrorPercentagePinLaw : plainName "com/example/breakwater/breakwater/core/CircuitHealthErrorPercentagePinLaw" = true := by first | (simp [plainName, overriddenIn]; done) | decide +kernel
set_option maxRecDepth 65536 in
set_option maxHeartbeats 40000000 in
theorem own_law_rm (l : Launch) (Z : State) (a0 : Array Value) (hw : ∀ d ∈ tables_1, d.before a0 Z = true) (ws : List Jvm.Cond) (x0 : Int64) (x1 : Int64) (x2 : Int32)  (h0 : Heap) (n0 : Nat) (Z0 : n0 ≤ h0.size)  :
    MetFree l x (head1 (Jvm.Cond.code x code maxLocals ret :: ws) room_1) (fun a U => a = #[(.long x0), (.long x1), (.int x2)] ∧ Z.Warmed39 U.vm ∧ U.heap = h0) (fun _ _ _ _ _ => True) (fun _ U o U' => ∃ v L, o = .returned v ∧ own_law_Q Z x0 x1 x2 h0 n0 v U'.heap L ∧ FrameEnd U o U' L room_1.cells room_1.slots) := by
  refine MetFree.of_bodySF (plainFor_of_name pn_CircuitHealthErrorPercentagePinLaw) hisR ?_
  intro p e s m args below meth c s₁ Bd hml0 hP hK
  obtain ⟨rfl, hZ, hh⟩ := hP
  have hx := Bd.exec
  have hby := Bd.bytes
  have hml : c.maxLocals = 16 := hml0
  have hown : s.vm.findClass "com/example/breakwater/breakwater/core/CircuitHealthErrorPercentagePinLaw" = some m.cls := findClass_of_methodNamed Bd.named
  have hnm := (name_of_methodNamed Bd.named Bd.method).1
  have hlk : meth.locks = false := BodyLoose.notSynchronized Bd
  have hrt := Bd.returns
  have X0 : Stand p l e room_1 s m #[(.long x0), (.long x1), (.int x2)] below meth c s₁ [] 0 0 := Stand.of_body Bd
  have e0 : s₁.heap = h0 := by rw [← hh, Bd.state]; rfl
  have N0 := Fr.nil n0
  refine Goes.enter (kc := room_1.cells) (kn := room_1.slots) (Q := own_law_Q Z x0 x1 x2 h0 n0) (own_law_ef m x0 x1 x2) ?_
  refine Goes.step (B := (s₁.setTop (mkF m 2 #[.val (.long x0), .second, .val (.long x1), .second, .val (.int x2), .unset, .unset, .unset, .unset, .unset, .unset, .unset, .unset, .unset, .unset, .unset] [(.int x2)]))) (fun _ k => XS.iload X0.here hx rfl (hb hby at_0) rfl k) ?_
  refine Goes.step (B := (s₁.setTop (mkF m 3 #[.val (.long x0), .second, .val (.long x1), .second, .val (.int x2), .unset, .unset, .unset, .unset, .unset, .unset, .unset, .unset, .unset, .unset, .unset] [(.int (1 : Int32)), (.int x2)]))) (fun _ k => XS.iconst X0.here hx rfl (hb hby at_2) k) ?_
  refine Goes.step (B := (s₁.setTop (mkF m 4 #[.val (.long x0), .second, .val (.long x1), .second, .val (.int x2), .unset, .unset, .unset, .unset, .unset, .unset, .unset, .unset, .unset, .unset, .unset] [(.int (x2 &&& (1 : Int32)))]))) (fun _ k => XS.iand X0.here hx rfl (hb hby at_3) rfl k) ?_
  by_cases hc101 : (x2 &&& (1 : Int32)) = (0 : Int32)
  · refine Goes.step (B := (s₁.setTop (mkF m 51 #[.val (.long x0), .second, .val (.long x1), .second, .val (.int x2), .unset, .unset, .unset, .unset, .unset, .unset, .unset, .unset, .unset, .unset, .unset] []))) (fun _ k => XS.ifYes X0.here hx rfl (pc0 := 4) (pc' := 51) rfl (hb hby at_4) rfl ((if0 _ _).trans (teq hc101).1) (by decide) (by decide) k) ?_
    refine Goes.step (B := (s₁.setTop (mkF m 54 #[.val (.long x0), .second, .val (.long x1), .second, .val (.int x2), .unset, .unset, .unset, .unset, .unset, .unset, .unset, .unset, .unset, .unset, .unset] [(.long (1099511627775 : Int64))]))) (fun _ k => X0.ldc2Long hx hown (mvT hZ (hw _ (List.mem_of_getElem? (i := 0) rfl))) (g := (mkF m 51 #[.val (.long x0), .second, .val (.long x1), .second, .val (.int x2), .unset, .unset, .unset, .unset, .unset, .unset, .unset, .unset, .unset, .unset, .unset] [])) rfl (hb hby at_51) _ k) ?_
    refine Goes.step (B := (s₁.setTop (mkF m 56 #[.val (.long x0), .second, .val (.long x1), .second, .val (.int x2), .val (.long (1099511627775 : Int64)), .second, .unset, .unset, .unset, .unset, .unset, .unset, .unset, .unset, .unset] []))) (fun _ k => XS.lstore X0.here hx rfl (hb hby at_54) rfl (l' := #[.val (.long x0), .second, .val (.long x1), .second, .val (.int x2), .val (.long (1099511627775 : Int64)), .second, .unset, .unset, .unset, .unset, .unset, .unset, .unset, .unset, .unset]) rfl k) ?_
    refine Goes.step (B := (s₁.setTop (mkF m 57 #[.val (.long x0), .second, .val (.long x1), .second, .val (.int x2), .val (.long (1099511627775 : Int64)), .second, .unset, .unset, .unset, .unset, .unset, .unset, .unset, .unset, .unset] [(.long x0)]))) (fun _ k => XS.lloadN X0.here hx rfl (hb hby at_56) rfl k) ?_
    refine Goes.step (B := (s₁.setTop (mkF m 59 #[.val (.long x0), .second, .val (.long x1), .second, .val (.int x2), .val (.long (1099511627775 : Int64)), .second, .unset, .unset, .unset, .unset, .unset, .unset, .unset, .unset, .unset] [(.long (1099511627775 : Int64)), (.long x0)]))) (fun _ k => XS.lload X0.here hx rfl (hb hby at_57) rfl k) ?_
    refine Goes.step (B := (s₁.setTop (mkF m 60 #[.val (.long x0), .second, .val (.long x1), .second, .val (.int x2), .val (.long (1099511627775 : Int64)), .second, .unset, .unset, .unset, .unset, .unset, .unset, .unset, .unset, .unset] [(.long (x0 &&& (1099511627775 : Int64)))]))) (fun _ k => XS.land X0.here hx rfl (hb hby at_59) rfl k) ?_
    refine Goes.step (B := (s₁.setTop (mkF m 61 #[.val (.long x0), .second, .val (.long x1), .second, .val (.int x2), .val (.long (1099511627775 : Int64)), .second, .unset, .unset, .unset, .unset, .unset, .unset, .unset, .unset, .unset] [(.long (1 : Int64)), (.long (x0 &&& (1099511627775 : Int64)))]))) (fun _ k => XS.lconst X0.here hx rfl (hb hby at_60) k) ?_
    refine Goes.step (B := (s₁.setTop (mkF m 62 #[.val (.long x0), .second, .val (.long x1), .second, .val (.int x2), .val (.long (1099511627775 : Int64)), .second, .unset, .unset, .unset, .unset, .unset, .unset, .unset, .unset, .unset] [(.long ((x0 &&& (1099511627775 : Int64)) + (1 : Int64)))]))) (fun _ k => XS.ladd X0.here hx rfl (hb hby at_61) rfl k) ?_
    refine Goes.step (B := (s₁.setTop (mkF m 64 #[.val (.long x0), .second, .val (.long x1), .second, .val (.int x2), .val (.long (1099511627775 : Int64)), .second, .val (.long (own_r2 x0)), .second, .unset, .unset, .unset, .unset, .unset, .unset, .unset] []))) (fun _ k => XS.lstore X0.here hx rfl (hb hby at_62) rfl (l' := #[.val (.long x0), .second, .val (.long x1), .second, .val (.int x2), .val (.long (1099511627775 : Int64)), .second, .val (.long (own_r2 x0)), .second, .unset, .unset, .unset, .unset, .unset, .unset, .unset]) rfl k) ?_
    refine Goes.step (B := (s₁.setTop (mkF m 65 #[.val (.long x0), .second, .val (.long x1), .second, .val (.int x2), .val (.long (1099511627775 : Int64)), .second, .val (.long (own_r2 x0)), .second, .unset, .unset, .unset, .unset, .unset, .unset, .unset] [(.long x1)]))) (fun _ k => XS.lloadN X0.here hx rfl (hb hby at_64) rfl k) ?_
    refine Goes.step (B := (s₁.setTop (mkF m 68 #[.val (.long x0), .second, .val (.long x1), .second, .val (.int x2), .val (.long (1099511627775 : Int64)), .second, .val (.long (own_r2 x0)), .second, .unset, .unset, .unset, .unset, .unset, .unset, .unset] [(.long (9223372036854775807 : Int64)), (.long x1)]))) (fun _ k => X0.ldc2Long hx hown (mvT hZ (hw _ (List.mem_of_getElem? (i := 1) rfl))) (g := (mkF m 65 #[.val (.long x0), .second, .val (.long x1), .second, .val (.int x2), .val (.long (1099511627775 : Int64)), .second, .val (.long (own_r2 x0)), .second, .unset, .unset, .unset, .unset, .unset, .unset, .unset] [(.long x1)])) rfl (hb hby at_65) _ k) ?_
    refine Goes.step (B := (s₁.setTop (mkF m 69 #[.val (.long x0), .second, .val (.long x1), .second, .val (.int x2), .val (.long (1099511627775 : Int64)), .second, .val (.long (own_r2 x0)), .second, .unset, .unset, .unset, .unset, .unset, .unset, .unset] [(.long (x1 &&& (9223372036854775807 : Int64)))]))) (fun _ k => XS.land X0.here hx rfl (hb hby at_68) rfl k) ?_
    refine Goes.step (B := (s₁.setTop (mkF m 71 #[.val (.long x0), .second, .val (.long x1), .second, .val (.int x2), .val (.long (1099511627775 : Int64)), .second, .val (.long (own_r2 x0)), .second, .unset, .unset, .unset, .unset, .unset, .unset, .unset] [(.long (own_r2 x0)), (.long (x1 &&& (9223372036854775807 : Int64)))]))) (fun _ k => XS.lload X0.here hx rfl (hb hby at_69) rfl k) ?_
    refine Goes.step (B := (s₁.setTop (mkF m 72 #[.val (.long x0), .second, .val (.long x1), .second, .val (.int x2), .val (.long (1099511627775 : Int64)), .second, .val (.long (own_r2 x0)), .second, .unset, .unset, .unset, .unset, .unset, .unset, .unset] [(.long (1 : Int64)), (.long (own_r2 x0)), (.long (x1 &&& (9223372036854775807 : Int64)))]))) (fun _ k => XS.lconst X0.here hx rfl (hb hby at_71) k) ?_
    refine Goes.step (B := (s₁.setTop (mkF m 73 #[.val (.long x0), .second, .val (.long x1), .second, .val (.int x2), .val (.long (1099511627775 : Int64)), .second, .val (.long (own_r2 x0)), .second, .unset, .unset, .unset, .unset, .unset, .unset, .unset] [(.long ((own_r2 x0) + (1 : Int64))), (.long (x1 &&& (9223372036854775807 : Int64)))]))) (fun _ k => XS.ladd X0.here hx rfl (hb hby at_72) rfl k) ?_
    refine Goes.step (B := (s₁.setTop (mkF m 74 #[.val (.long x0), .second, .val (.long x1), .second, .val (.int x2), .val (.long (1099511627775 : Int64)), .second, .val (.long (own_r2 x0)), .second, .unset, .unset, .unset, .unset, .unset, .unset, .unset] [(.long ((x1 &&& (9223372036854775807 : Int64)) % ((own_r2 x0) + (1 : Int64))))]))) (fun _ k => lremM X0 hx rfl (hb hby at_73) rfl (own_nz2 x0) k) ?_
    refine Goes.step (B := (s₁.setTop (mkF m 76 #[.val (.long x0), .second, .val (.long x1), .second, .val (.int x2), .val (.long (1099511627775 : Int64)), .second, .val (.long (own_r2 x0)), .second, .val (.long (own_er x0 x1)), .second, .unset, .unset, .unset, .unset, .unset] []))) (fun _ k => XS.lstore X0.here hx rfl (hb hby at_74) rfl (l' := #[.val (.long x0), .second, .val (.long x1), .second, .val (.int x2), .val (.long (1099511627775 : Int64)), .second, .val (.long (own_r2 x0)), .second, .val (.long (own_er x0 x1)), .second, .unset, .unset, .unset, .unset, .unset]) rfl k) ?_
    obtain ⟨T102, h102, X102, e102, E102, A102, D102, -, st102⟩ := newO X0 hx hZ hown (hw _ (List.mem_of_getElem? (i := 2) rfl)) (hw _ (List.mem_of_getElem? (i := 3) rfl)) (hw _ (List.mem_of_getElem? (i := 4) rfl)) e0 (g := (mkF m 76 #[.val (.long x0), .second, .val (.long x1), .second, .val (.int x2), .val (.long (1099511627775 : Int64)), .second, .val (.long (own_r2 x0)), .second, .val (.long (own_er x0 x1)), .second, .unset, .unset, .unset, .unset, .unset] [])) rfl (hb hby at_76) (by decide) (by decide)
    obtain ⟨b102, g102⟩ : ∃ z, z = h0.size := ⟨_, rfl⟩
    rw [← g102] at A102 D102 st102
    have gn102 : n0 ≤ b102 := Nat.le_trans Z0 (Nat.le_of_eq g102.symm)
    have sz102 : h0.size ≤ b102 := Nat.le_trans (Keep.refl h0 []).1 (Nat.le_of_eq g102.symm)
    have f103 : Fld Z h102 b102 "com/example/breakwater/breakwater/core/CircuitHealth" "requests" "J" (.long (0 : Int64)) := D102 (Or.inr (hw _ (List.mem_of_getElem? (i := 17) rfl))) (ty := .long) (by decide)
    have f104 : Fld Z h102 b102 "com/example/breakwater/breakwater/core/CircuitHealth" "errors" "J" (.long (0 : Int64)) := D102 (Or.inr (hw _ (List.mem_of_getElem? (i := 19) rfl))) (ty := .long) (by decide)
    have Z102 : n0 ≤ h102.size := Nat.le_trans Z0 E102.1
    have K102 : Keep h0 h102 [] := (Keep.refl h0 []).ext E102
    refine Goes.step (B := (T102.setTop (mkF m 79 #[.val (.long x0), .second, .val (.long x1), .second, .val (.int x2), .val (.long (1099511627775 : Int64)), .second, .val (.long (own_r2 x0)), .second, .val (.long (own_er x0 x1)), .second, .unset, .unset, .unset, .unset, .unset] [(.ref b102)]))) (fun _ k => st102 _ k) ?_
    refine Goes.step (B := (T102.setTop (mkF m 80 #[.val (.long x0), .second, .val (.long x1), .second, .val (.int x2), .val (.long (1099511627775 : Int64)), .second, .val (.long (own_r2 x0)), .second, .val (.long (own_er x0 x1)), .second, .unset, .unset, .unset, .unset, .unset] [(.ref b102), (.ref b102)]))) (fun _ k => XS.dup X102.here hx rfl (hb hby at_79) rfl rfl k) ?_
    refine Goes.step (B := (T102.setTop (mkF m 82 #[.val (.long x0), .second, .val (.long x1), .second, .val (.int x2), .val (.long (1099511627775 : Int64)), .second, .val (.long (own_r2 x0)), .second, .val (.long (own_er x0 x1)), .second, .unset, .unset, .unset, .unset, .unset] [(.long (own_r2 x0)), (.ref b102), (.ref b102)]))) (fun _ k => XS.lload X102.here hx rfl (hb hby at_80) rfl k) ?_
    refine Goes.step (B := (T102.setTop (mkF m 84 #[.val (.long x0), .second, .val (.long x1), .second, .val (.int x2), .val (.long (1099511627775 : Int64)), .second, .val (.long (own_r2 x0)), .second, .val (.long (own_er x0 x1)), .second, .unset, .unset, .unset, .unset, .unset] [(.long (own_er x0 x1)), (.long (own_r2 x0)), (.ref b102), (.ref b102)]))) (fun _ k => XS.lload X102.here hx rfl (hb hby at_82) rfl k) ?_
    obtain ⟨_, _, ⟨T105, L105, k105, n105⟩, -, X105, ⟨Lc105, hQ105, l105, y105, z105⟩, st105⟩ := X102.specialBack hx (y := (⟨"com/example/breakwater/breakwater/core/CircuitHealth", "<init>", "(JJ)V"⟩ : MethodName)) rfl hown (mvT hZ (hw _ (List.mem_of_getElem? (i := 5) rfl))) (mvT hZ (hw _ (List.mem_of_getElem? (i := 6) rfl))) (mvT hZ (hw _ (List.mem_of_getElem? (i := 7) rfl))) (by decide) (backOf (W := 1) (own_ch_rm l Z a0 hw [] b102 (own_r2 x0) (own_er x0 x1)  h102 n0 Z102 A102 f103 f104 gn102) hZ (hw _ (List.mem_of_getElem? (i := 7) rfl)) (hw _ (List.mem_of_getElem? (i := 4) rfl)) (by decide) (by decide)) (g := (mkF m 84 #[.val (.long x0), .second, .val (.long x1), .second, .val (.int x2), .val (.long (1099511627775 : Int64)), .second, .val (.long (own_r2 x0)), .second, .val (.long (own_er x0 x1)), .second, .unset, .unset, .unset, .unset, .unset] [(.long (own_er x0 x1)), (.long (own_r2 x0)), (.ref b102), (.ref b102)])) rfl (by rw [hml]; rfl) (Steps.refl _) (a := b102) (argsL := [(.long (own_r2 x0)), (.long (own_er x0 x1))]) (rest := [(.ref b102)]) (lenOf pd__JJ_V rfl) rfl (by show 2 * 0 + _ ≤ _; exact Nat.le_of_eq rfl) (hb hby at_84) (fun _ _ => ⟨rfl, e102, (by decide : 1 + 0 ≤ _), (by decide : 2 + 0 ≤ _)⟩)
    dsimp only [Pt.U, Pt.locs, Pt.cells, Pt.slots] at X105 l105 y105 z105 st105 hQ105
    subst l105 y105 z105
    obtain ⟨rfl, N105q, K105q, p105_0, p105_1, p105_2⟩ := hQ105
    have N105 := Fr.app N0 N105q
    have f106 := A102.keep K105q
    have K105 : Keep h0 T105.heap [] := Keep.trans K102 K105q (fun y q => by cases List.mem_singleton.mp q; exact (Or.inr sz102))
    have Z105 : n0 ≤ T105.heap.size := Nat.le_trans Z102 K105q.1
    refine Goes.to (B := (T105.setTop (mkF m 87 #[.val (.long x0), .second, .val (.long x1), .second, .val (.int x2), .val (.long (1099511627775 : Int64)), .second, .val (.long (own_r2 x0)), .second, .val (.long (own_er x0 x1)), .second, .unset, .unset, .unset, .unset, .unset] [(.ref b102)]))) st105 ?_
    refine Goes.step (B := (T105.setTop (mkF m 89 #[.val (.long x0), .second, .val (.long x1), .second, .val (.int x2), .val (.long (1099511627775 : Int64)), .second, .val (.long (own_r2 x0)), .second, .val (.long (own_er x0 x1)), .second, .val (.ref b102), .unset, .unset, .unset, .unset] []))) (fun _ k => XS.astore X105.here hx rfl (hb hby at_87) rfl rfl (l' := #[.val (.long x0), .second, .val (.long x1), .second, .val (.int x2), .val (.long (1099511627775 : Int64)), .second, .val (.long (own_r2 x0)), .second, .val (.long (own_er x0 x1)), .second, .val (.ref b102), .unset, .unset, .unset, .unset]) rfl k) ?_
    refine Goes.step (B := (T105.setTop (mkF m 91 #[.val (.long x0), .second, .val (.long x1), .second, .val (.int x2), .val (.long (1099511627775 : Int64)), .second, .val (.long (own_r2 x0)), .second, .val (.long (own_er x0 x1)), .second, .val (.ref b102), .unset, .unset, .unset, .unset] [(.ref b102)]))) (fun _ k => XS.aload X105.here hx rfl (hb hby at_89) rfl rfl k) ?_
    obtain ⟨cq107, kq107, q107a, q107b, q107c⟩ := isOf hZ rfl p105_0
    obtain ⟨_, _, ⟨T107, L107, k107, n107⟩, -, X107, ⟨Lc107, hQ107, l107, y107, z107⟩, st107⟩ := X105.virtualBack hx (y := (⟨"com/example/breakwater/breakwater/core/CircuitHealth", "errorPercentage", "()I"⟩ : MethodName)) (z := (⟨"com/example/breakwater/breakwater/core/CircuitHealth", "errorPercentage", "()I"⟩ : MethodName)) hown (mvT hZ (hw _ (List.mem_of_getElem? (i := 20) rfl))) (mvT hZ (hw _ (List.mem_of_getElem? (i := 21) rfl))) (notFace_of_selects (args := #[]) (mvT hZ (hw _ (List.mem_of_getElem? (i := 23) rfl)))) (mvT hZ (hw _ (List.mem_of_getElem? (i := 23) rfl))) (mvT hZ (hw _ (List.mem_of_getElem? (i := 22) rfl))) (by decide) (backOf (W := 0) (own_ep_rm l Z a0 hw [] b102 (own_r2 x0) (own_er x0 x1) T105.heap n0 Z105 p105_1 p105_2) hZ (hw _ (List.mem_of_getElem? (i := 24) rfl)) (hw _ (List.mem_of_getElem? (i := 4) rfl)) (by decide) (by decide)) q107a q107c (g := (mkF m 91 #[.val (.long x0), .second, .val (.long x1), .second, .val (.int x2), .val (.long (1099511627775 : Int64)), .second, .val (.long (own_r2 x0)), .second, .val (.long (own_er x0 x1)), .second, .val (.ref b102), .unset, .unset, .unset, .unset] [(.ref b102)])) rfl (by rw [hml]; rfl) (Steps.refl _) (argsL := []) (rest := []) (lenOf pd___I rfl) rfl (by show 2 * 0 + _ ≤ _; exact Nat.le_of_eq rfl) (hb hby at_91) (fun _ _ => ⟨rfl, rfl, (by decide : 1 + 0 ≤ _), (by decide : 2 + 0 ≤ _)⟩)
    dsimp only [Pt.U, Pt.locs, Pt.cells, Pt.slots] at X107 l107 y107 z107 st107 hQ107
    subst l107 y107 z107
    obtain ⟨rfl, N107q, e107⟩ := hQ107
    have N107 := Fr.app N105 N107q
    refine Goes.to (B := (T107.setTop (mkF m 94 #[.val (.long x0), .second, .val (.long x1), .second, .val (.int x2), .val (.long (1099511627775 : Int64)), .second, .val (.long (own_r2 x0)), .second, .val (.long (own_er x0 x1)), .second, .val (.ref b102), .unset, .unset, .unset, .unset] [(.int (own_ep_fn (own_r2 x0) (own_er x0 x1)))]))) st107 ?_
    refine Goes.step (B := (T107.setTop (mkF m 95 #[.val (.long x0), .second, .val (.long x1), .second, .val (.int x2), .val (.long (1099511627775 : Int64)), .second, .val (.long (own_r2 x0)), .second, .val (.long (own_er x0 x1)), .second, .val (.ref b102), .unset, .unset, .unset, .unset] [(.long (own_ep_fn (own_r2 x0) (own_er x0 x1)).toInt64)]))) (fun _ k => XS.i2l X107.here hx rfl (hb hby at_94) rfl k) ?_
    refine Goes.step (B := (T107.setTop (mkF m 97 #[.val (.long x0), .second, .val (.long x1), .second, .val (.int x2), .val (.long (1099511627775 : Int64)), .second, .val (.long (own_r2 x0)), .second, .val (.long (own_er x0 x1)), .second, .val (.ref b102), .val (.long (own_ep_fn (own_r2 x0) (own_er x0 x1)).toInt64), .second, .unset, .unset] []))) (fun _ k => XS.lstore X107.here hx rfl (hb hby at_95) rfl (l' := #[.val (.long x0), .second, .val (.long x1), .second, .val (.int x2), .val (.long (1099511627775 : Int64)), .second, .val (.long (own_r2 x0)), .second, .val (.long (own_er x0 x1)), .second, .val (.ref b102), .val (.long (own_ep_fn (own_r2 x0) (own_er x0 x1)).toInt64), .second, .unset, .unset]) rfl k) ?_
    refine Goes.step (B := (T107.setTop (mkF m 99 #[.val (.long x0), .second, .val (.long x1), .second, .val (.int x2), .val (.long (1099511627775 : Int64)), .second, .val (.long (own_r2 x0)), .second, .val (.long (own_er x0 x1)), .second, .val (.ref b102), .val (.long (own_ep_fn (own_r2 x0) (own_er x0 x1)).toInt64), .second, .unset, .unset] [(.long (own_ep_fn (own_r2 x0) (own_er x0 x1)).toInt64)]))) (fun _ k => XS.lload X107.here hx rfl (hb hby at_97) rfl k) ?_
    refine Goes.step (B := (T107.setTop (mkF m 100 #[.val (.long x0), .second, .val (.long x1), .second, .val (.int x2), .val (.long (1099511627775 : Int64)), .second, .val (.long (own_r2 x0)), .second, .val (.long (own_er x0 x1)), .second, .val (.ref b102), .val (.long (own_ep_fn (own_r2 x0) (own_er x0 x1)).toInt64), .second, .unset, .unset] [(.long (0 : Int64)), (.long (own_ep_fn (own_r2 x0) (own_er x0 x1)).toInt64)]))) (fun _ k => XS.lconst X107.here hx rfl (hb hby at_99) k) ?_
    refine Goes.step (B := (T107.setTop (mkF m 101 #[.val (.long x0), .second, .val (.long x1), .second, .val (.int x2), .val (.long (1099511627775 : Int64)), .second, .val (.long (own_r2 x0)), .second, .val (.long (own_er x0 x1)), .second, .val (.ref b102), .val (.long (own_ep_fn (own_r2 x0) (own_er x0 x1)).toInt64), .second, .unset, .unset] [(.int (lcmpW (own_ep_fn (own_r2 x0) (own_er x0 x1)).toInt64 (0 : Int64)))]))) (fun _ k => XS.lcmp X107.here hx rfl (hb hby at_100) rfl k) ?_
    have hc108 : ¬ ((own_ep_fn (own_r2 x0) (own_er x0 x1)).toInt64 < (0 : Int64)) := own_t2 x0 x1
    refine Goes.step (B := (T107.setTop (mkF m 104 #[.val (.long x0), .second, .val (.long x1), .second, .val (.int x2), .val (.long (1099511627775 : Int64)), .second, .val (.long (own_r2 x0)), .second, .val (.long (own_er x0 x1)), .second, .val (.ref b102), .val (.long (own_ep_fn (own_r2 x0) (own_er x0 x1)).toInt64), .second, .unset, .unset] []))) (fun _ k => XS.ifNo X107.here hx rfl (hb hby at_101) rfl ((if0 _ _).trans (flt (mt (lw_lt _ _).mp hc108)).1) k) ?_
    refine Goes.step (B := (T107.setTop (mkF m 106 #[.val (.long x0), .second, .val (.long x1), .second, .val (.int x2), .val (.long (1099511627775 : Int64)), .second, .val (.long (own_r2 x0)), .second, .val (.long (own_er x0 x1)), .second, .val (.ref b102), .val (.long (own_ep_fn (own_r2 x0) (own_er x0 x1)).toInt64), .second, .unset, .unset] [(.long (own_ep_fn (own_r2 x0) (own_er x0 x1)).toInt64)]))) (fun _ k => XS.lload X107.here hx rfl (hb hby at_104) rfl k) ?_
    refine Goes.step (B := (T107.setTop (mkF m 109 #[.val (.long x0), .second, .val (.long x1), .second, .val (.int x2), .val (.long (1099511627775 : Int64)), .second, .val (.long (own_r2 x0)), .second, .val (.long (own_er x0 x1)), .second, .val (.ref b102), .val (.long (own_ep_fn (own_r2 x0) (own_er x0 x1)).toInt64), .second, .unset, .unset] [(.long (100 : Int64)), (.long (own_ep_fn (own_r2 x0) (own_er x0 x1)).toInt64)]))) (fun _ k => X107.ldc2Long hx hown (mvT hZ (hw _ (List.mem_of_getElem? (i := 26) rfl))) (g := (mkF m 106 #[.val (.long x0), .second, .val (.long x1), .second, .val (.int x2), .val (.long (1099511627775 : Int64)), .second, .val (.long (own_r2 x0)), .second, .val (.long (own_er x0 x1)), .second, .val (.ref b102), .val (.long (own_ep_fn (own_r2 x0) (own_er x0 x1)).toInt64), .second, .unset, .unset] [(.long (own_ep_fn (own_r2 x0) (own_er x0 x1)).toInt64)])) rfl (hb hby at_106) _ k) ?_
    refine Goes.step (B := (T107.setTop (mkF m 110 #[.val (.long x0), .second, .val (.long x1), .second, .val (.int x2), .val (.long (1099511627775 : Int64)), .second, .val (.long (own_r2 x0)), .second, .val (.long (own_er x0 x1)), .second, .val (.ref b102), .val (.long (own_ep_fn (own_r2 x0) (own_er x0 x1)).toInt64), .second, .unset, .unset] [(.int (lcmpW (own_ep_fn (own_r2 x0) (own_er x0 x1)).toInt64 (100 : Int64)))]))) (fun _ k => XS.lcmp X107.here hx rfl (hb hby at_109) rfl k) ?_
    have hc109 : ¬ ((100 : Int64) < (own_ep_fn (own_r2 x0) (own_er x0 x1)).toInt64) := own_t3 x0 x1
    refine Goes.step (B := (T107.setTop (mkF m 115 #[.val (.long x0), .second, .val (.long x1), .second, .val (.int x2), .val (.long (1099511627775 : Int64)), .second, .val (.long (own_r2 x0)), .second, .val (.long (own_er x0 x1)), .second, .val (.ref b102), .val (.long (own_ep_fn (own_r2 x0) (own_er x0 x1)).toInt64), .second, .unset, .unset] []))) (fun _ k => XS.ifYes X107.here hx rfl (pc0 := 110) (pc' := 115) rfl (hb hby at_110) rfl ((if0 _ _).trans (flt (mt (lw_gt _ _).mp hc109)).2.2.2) (by decide) (by decide) k) ?_
    refine Goes.step (B := (T107.setTop (mkF m 117 #[.val (.long x0), .second, .val (.long x1), .second, .val (.int x2), .val (.long (1099511627775 : Int64)), .second, .val (.long (own_r2 x0)), .second, .val (.long (own_er x0 x1)), .second, .val (.ref b102), .val (.long (own_ep_fn (own_r2 x0) (own_er x0 x1)).toInt64), .second, .unset, .unset] [(.long (own_er x0 x1))]))) (fun _ k => XS.lload X107.here hx rfl (hb hby at_115) rfl k) ?_
    refine Goes.step (B := (T107.setTop (mkF m 120 #[.val (.long x0), .second, .val (.long x1), .second, .val (.int x2), .val (.long (1099511627775 : Int64)), .second, .val (.long (own_r2 x0)), .second, .val (.long (own_er x0 x1)), .second, .val (.ref b102), .val (.long (own_ep_fn (own_r2 x0) (own_er x0 x1)).toInt64), .second, .unset, .unset] [(.long (100 : Int64)), (.long (own_er x0 x1))]))) (fun _ k => X107.ldc2Long hx hown (mvT hZ (hw _ (List.mem_of_getElem? (i := 26) rfl))) (g := (mkF m 117 #[.val (.long x0), .second, .val (.long x1), .second, .val (.int x2), .val (.long (1099511627775 : Int64)), .second, .val (.long (own_r2 x0)), .second, .val (.long (own_er x0 x1)), .second, .val (.ref b102), .val (.long (own_ep_fn (own_r2 x0) (own_er x0 x1)).toInt64), .second, .unset, .unset] [(.long (own_er x0 x1))])) rfl (hb hby at_117) _ k) ?_
    refine Goes.step (B := (T107.setTop (mkF m 121 #[.val (.long x0), .second, .val (.long x1), .second, .val (.int x2), .val (.long (1099511627775 : Int64)), .second, .val (.long (own_r2 x0)), .second, .val (.long (own_er x0 x1)), .second, .val (.ref b102), .val (.long (own_ep_fn (own_r2 x0) (own_er x0 x1)).toInt64), .second, .unset, .unset] [(.long ((own_er x0 x1) * (100 : Int64)))]))) (fun _ k => XS.lmul X107.here hx rfl (hb hby at_120) rfl k) ?_
    refine Goes.step (B := (T107.setTop (mkF m 123 #[.val (.long x0), .second, .val (.long x1), .second, .val (.int x2), .val (.long (1099511627775 : Int64)), .second, .val (.long (own_r2 x0)), .second, .val (.long (own_er x0 x1)), .second, .val (.ref b102), .val (.long (own_ep_fn (own_r2 x0) (own_er x0 x1)).toInt64), .second, .val (.long (own_sc x0 x1)), .second] []))) (fun _ k => XS.lstore X107.here hx rfl (hb hby at_121) rfl (l' := #[.val (.long x0), .second, .val (.long x1), .second, .val (.int x2), .val (.long (1099511627775 : Int64)), .second, .val (.long (own_r2 x0)), .second, .val (.long (own_er x0 x1)), .second, .val (.ref b102), .val (.long (own_ep_fn (own_r2 x0) (own_er x0 x1)).toInt64), .second, .val (.long (own_sc x0 x1)), .second]) rfl k) ?_
    refine Goes.step (B := (T107.setTop (mkF m 125 #[.val (.long x0), .second, .val (.long x1), .second, .val (.int x2), .val (.long (1099511627775 : Int64)), .second, .val (.long (own_r2 x0)), .second, .val (.long (own_er x0 x1)), .second, .val (.ref b102), .val (.long (own_ep_fn (own_r2 x0) (own_er x0 x1)).toInt64), .second, .val (.long (own_sc x0 x1)), .second] [(.long (own_ep_fn (own_r2 x0) (own_er x0 x1)).toInt64)]))) (fun _ k => XS.lload X107.here hx rfl (hb hby at_123) rfl k) ?_
    refine Goes.step (B := (T107.setTop (mkF m 127 #[.val (.long x0), .second, .val (.long x1), .second, .val (.int x2), .val (.long (1099511627775 : Int64)), .second, .val (.long (own_r2 x0)), .second, .val (.long (own_er x0 x1)), .second, .val (.ref b102), .val (.long (own_ep_fn (own_r2 x0) (own_er x0 x1)).toInt64), .second, .val (.long (own_sc x0 x1)), .second] [(.long (own_r2 x0)), (.long (own_ep_fn (own_r2 x0) (own_er x0 x1)).toInt64)]))) (fun _ k => XS.lload X107.here hx rfl (hb hby at_125) rfl k) ?_
    refine Goes.step (B := (T107.setTop (mkF m 128 #[.val (.long x0), .second, .val (.long x1), .second, .val (.int x2), .val (.long (1099511627775 : Int64)), .second, .val (.long (own_r2 x0)), .second, .val (.long (own_er x0 x1)), .second, .val (.ref b102), .val (.long (own_ep_fn (own_r2 x0) (own_er x0 x1)).toInt64), .second, .val (.long (own_sc x0 x1)), .second] [(.long ((own_ep_fn (own_r2 x0) (own_er x0 x1)).toInt64 * (own_r2 x0)))]))) (fun _ k => XS.lmul X107.here hx rfl (hb hby at_127) rfl k) ?_
    refine Goes.step (B := (T107.setTop (mkF m 130 #[.val (.long x0), .second, .val (.long x1), .second, .val (.int x2), .val (.long (1099511627775 : Int64)), .second, .val (.long (own_r2 x0)), .second, .val (.long (own_er x0 x1)), .second, .val (.ref b102), .val (.long (own_ep_fn (own_r2 x0) (own_er x0 x1)).toInt64), .second, .val (.long (own_sc x0 x1)), .second] [(.long (own_sc x0 x1)), (.long ((own_ep_fn (own_r2 x0) (own_er x0 x1)).toInt64 * (own_r2 x0)))]))) (fun _ k => XS.lload X107.here hx rfl (hb hby at_128) rfl k) ?_
    refine Goes.step (B := (T107.setTop (mkF m 131 #[.val (.long x0), .second, .val (.long x1), .second, .val (.int x2), .val (.long (1099511627775 : Int64)), .second, .val (.long (own_r2 x0)), .second, .val (.long (own_er x0 x1)), .second, .val (.ref b102), .val (.long (own_ep_fn (own_r2 x0) (own_er x0 x1)).toInt64), .second, .val (.long (own_sc x0 x1)), .second] [(.int (lcmpW ((own_ep_fn (own_r2 x0) (own_er x0 x1)).toInt64 * (own_r2 x0)) (own_sc x0 x1)))]))) (fun _ k => XS.lcmp X107.here hx rfl (hb hby at_130) rfl k) ?_
    have hc110 : ¬ ((own_sc x0 x1) < ((own_ep_fn (own_r2 x0) (own_er x0 x1)).toInt64 * (own_r2 x0))) := own_t4 x0 x1
    refine Goes.step (B := (T107.setTop (mkF m 134 #[.val (.long x0), .second, .val (.long x1), .second, .val (.int x2), .val (.long (1099511627775 : Int64)), .second, .val (.long (own_r2 x0)), .second, .val (.long (own_er x0 x1)), .second, .val (.ref b102), .val (.long (own_ep_fn (own_r2 x0) (own_er x0 x1)).toInt64), .second, .val (.long (own_sc x0 x1)), .second] []))) (fun _ k => XS.ifNo X107.here hx rfl (hb hby at_131) rfl ((if0 _ _).trans (flt (mt (lw_gt _ _).mp hc110)).2.2.1) k) ?_
    refine Goes.step (B := (T107.setTop (mkF m 136 #[.val (.long x0), .second, .val (.long x1), .second, .val (.int x2), .val (.long (1099511627775 : Int64)), .second, .val (.long (own_r2 x0)), .second, .val (.long (own_er x0 x1)), .second, .val (.ref b102), .val (.long (own_ep_fn (own_r2 x0) (own_er x0 x1)).toInt64), .second, .val (.long (own_sc x0 x1)), .second] [(.long (own_sc x0 x1))]))) (fun _ k => XS.lload X107.here hx rfl (hb hby at_134) rfl k) ?_
    refine Goes.step (B := (T107.setTop (mkF m 138 #[.val (.long x0), .second, .val (.long x1), .second, .val (.int x2), .val (.long (1099511627775 : Int64)), .second, .val (.long (own_r2 x0)), .second, .val (.long (own_er x0 x1)), .second, .val (.ref b102), .val (.long (own_ep_fn (own_r2 x0) (own_er x0 x1)).toInt64), .second, .val (.long (own_sc x0 x1)), .second] [(.long (own_ep_fn (own_r2 x0) (own_er x0 x1)).toInt64), (.long (own_sc x0 x1))]))) (fun _ k => XS.lload X107.here hx rfl (hb hby at_136) rfl k) ?_
    refine Goes.step (B := (T107.setTop (mkF m 139 #[.val (.long x0), .second, .val (.long x1), .second, .val (.int x2), .val (.long (1099511627775 : Int64)), .second, .val (.long (own_r2 x0)), .second, .val (.long (own_er x0 x1)), .second, .val (.ref b102), .val (.long (own_ep_fn (own_r2 x0) (own_er x0 x1)).toInt64), .second, .val (.long (own_sc x0 x1)), .second] [(.long (1 : Int64)), (.long (own_ep_fn (own_r2 x0) (own_er x0 x1)).toInt64), (.long (own_sc x0 x1))]))) (fun _ k => XS.lconst X107.here hx rfl (hb hby at_138) k) ?_
    refine Goes.step (B := (T107.setTop (mkF m 140 #[.val (.long x0), .second, .val (.long x1), .second, .val (.int x2), .val (.long (1099511627775 : Int64)), .second, .val (.long (own_r2 x0)), .second, .val (.long (own_er x0 x1)), .second, .val (.ref b102), .val (.long (own_ep_fn (own_r2 x0) (own_er x0 x1)).toInt64), .second, .val (.long (own_sc x0 x1)), .second] [(.long ((own_ep_fn (own_r2 x0) (own_er x0 x1)).toInt64 + (1 : Int64))), (.long (own_sc x0 x1))]))) (fun _ k => XS.ladd X107.here hx rfl (hb hby at_139) rfl k) ?_
    refine Goes.step (B := (T107.setTop (mkF m 142 #[.val (.long x0), .second, .val (.long x1), .second, .val (.int x2), .val (.long (1099511627775 : Int64)), .second, .val (.long (own_r2 x0)), .second, .val (.long (own_er x0 x1)), .second, .val (.ref b102), .val (.long (own_ep_fn (own_r2 x0) (own_er x0 x1)).toInt64), .second, .val (.long (own_sc x0 x1)), .second] [(.long (own_r2 x0)), (.long ((own_ep_fn (own_r2 x0) (own_er x0 x1)).toInt64 + (1 : Int64))), (.long (own_sc x0 x1))]))) (fun _ k => XS.lload X107.here hx rfl (hb hby at_140) rfl k) ?_
    refine Goes.step (B := (T107.setTop (mkF m 143 #[.val (.long x0), .second, .val (.long x1), .second, .val (.int x2), .val (.long (1099511627775 : Int64)), .second, .val (.long (own_r2 x0)), .second, .val (.long (own_er x0 x1)), .second, .val (.ref b102), .val (.long (own_ep_fn (own_r2 x0) (own_er x0 x1)).toInt64), .second, .val (.long (own_sc x0 x1)), .second] [(.long (((own_ep_fn (own_r2 x0) (own_er x0 x1)).toInt64 + (1 : Int64)) * (own_r2 x0))), (.long (own_sc x0 x1))]))) (fun _ k => XS.lmul X107.here hx rfl (hb hby at_142) rfl k) ?_
    refine Goes.step (B := (T107.setTop (mkF m 144 #[.val (.long x0), .second, .val (.long x1), .second, .val (.int x2), .val (.long (1099511627775 : Int64)), .second, .val (.long (own_r2 x0)), .second, .val (.long (own_er x0 x1)), .second, .val (.ref b102), .val (.long (own_ep_fn (own_r2 x0) (own_er x0 x1)).toInt64), .second, .val (.long (own_sc x0 x1)), .second] [(.int (lcmpW (own_sc x0 x1) (((own_ep_fn (own_r2 x0) (own_er x0 x1)).toInt64 + (1 : Int64)) * (own_r2 x0))))]))) (fun _ k => XS.lcmp X107.here hx rfl (hb hby at_143) rfl k) ?_
    have hc111 : (own_sc x0 x1) < (((own_ep_fn (own_r2 x0) (own_er x0 x1)).toInt64 + (1 : Int64)) * (own_r2 x0)) := own_t5 x0 x1
    refine Goes.step (B := (T107.setTop (mkF m 147 #[.val (.long x0), .second, .val (.long x1), .second, .val (.int x2), .val (.long (1099511627775 : Int64)), .second, .val (.long (own_r2 x0)), .second, .val (.long (own_er x0 x1)), .second, .val (.ref b102), .val (.long (own_ep_fn (own_r2 x0) (own_er x0 x1)).toInt64), .second, .val (.long (own_sc x0 x1)), .second] []))) (fun _ k => XS.ifNo X107.here hx rfl (hb hby at_144) rfl ((if0 _ _).trans (tlt ((lw_lt _ _).mpr hc111)).2.1) k) ?_
    refine Goes.step (B := (T107.setTop (mkF m 148 #[.val (.long x0), .second, .val (.long x1), .second, .val (.int x2), .val (.long (1099511627775 : Int64)), .second, .val (.long (own_r2 x0)), .second, .val (.long (own_er x0 x1)), .second, .val (.ref b102), .val (.long (own_ep_fn (own_r2 x0) (own_er x0 x1)).toInt64), .second, .val (.long (own_sc x0 x1)), .second] [(.int (1 : Int32))]))) (fun _ k => XS.iconst X107.here hx rfl (hb hby at_147) k) ?_
    refine Goes.step (B := (T107.setTop (mkF m 152 #[.val (.long x0), .second, .val (.long x1), .second, .val (.int x2), .val (.long (1099511627775 : Int64)), .second, .val (.long (own_r2 x0)), .second, .val (.long (own_er x0 x1)), .second, .val (.ref b102), .val (.long (own_ep_fn (own_r2 x0) (own_er x0 x1)).toInt64), .second, .val (.long (own_sc x0 x1)), .second] [(.int (1 : Int32))]))) (fun _ k => XS.goto X107.here hx rfl (pc0 := 148) (pc' := 152) rfl (hb hby at_148) (by decide) (by decide) k) ?_
    refine Goes.retN X107 hx hlk (t := .boolean) hrt (by simp) (hb hby at_152) ?_ (by decide) (by decide)
    rw [e107]
    exact ⟨rfl, N107⟩
  · refine Goes.step (B := (s₁.setTop (mkF m 7 #[.val (.long x0), .second, .val (.long x1), .second, .val (.int x2), .unset, .unset, .unset, .unset, .unset, .unset, .unset, .unset, .unset, .unset, .unset] []))) (fun _ k => XS.ifNo X0.here hx rfl (hb hby at_4) rfl ((if0 _ _).trans (feq hc101).1) k) ?_
    refine Goes.step (B := (s₁.setTop (mkF m 9 #[.val (.long x0), .second, .val (.long x1), .second, .val (.int x2), .unset, .unset, .unset, .unset, .unset, .unset, .unset, .unset, .unset, .unset, .unset] [(.int x2)]))) (fun _ k => XS.iload X0.here hx rfl (hb hby at_7) rfl k) ?_
    refine Goes.step (B := (s₁.setTop (mkF m 10 #[.val (.long x0), .second, .val (.long x1), .second, .val (.int x2), .unset, .unset, .unset, .unset, .unset, .unset, .unset, .unset, .unset, .unset, .unset] [(.int (2 : Int32)), (.int x2)]))) (fun _ k => XS.iconst X0.here hx rfl (hb hby at_9) k) ?_
    refine Goes.step (B := (s₁.setTop (mkF m 11 #[.val (.long x0), .second, .val (.long x1), .second, .val (.int x2), .unset, .unset, .unset, .unset, .unset, .unset, .unset, .unset, .unset, .unset, .unset] [(.int (x2 &&& (2 : Int32)))]))) (fun _ k => XS.iand X0.here hx rfl (hb hby at_10) rfl k) ?_
    have J112 : Goes p e below s room_1.cells room_1.slots (own_law_Q Z x0 x1 x2 h0 n0) (s₁.setTop (mkF m 23 #[.val (.long x0), .second, .val (.long x1), .second, .val (.int x2), .unset, .unset, .unset, .unset, .unset, .unset, .unset, .unset, .unset, .unset, .unset] [(.long (own_law_j11 x0 x2))])) := by
      refine Goes.step (B := (s₁.setTop (mkF m 25 #[.val (.long x0), .second, .val (.long x1), .second, .val (.int x2), .val (.long (own_law_j11 x0 x2)), .second, .unset, .unset, .unset, .unset, .unset, .unset, .unset, .unset, .unset] []))) (fun _ k => XS.lstore X0.here hx rfl (hb hby at_23) rfl (l' := #[.val (.long x0), .second, .val (.long x1), .second, .val (.int x2), .val (.long (own_law_j11 x0 x2)), .second, .unset, .unset, .unset, .unset, .unset, .unset, .unset, .unset, .unset]) rfl k) ?_
      obtain ⟨T113, h113, X113, e113, E113, A113, D113, -, st113⟩ := newO X0 hx hZ hown (hw _ (List.mem_of_getElem? (i := 2) rfl)) (hw _ (List.mem_of_getElem? (i := 3) rfl)) (hw _ (List.mem_of_getElem? (i := 4) rfl)) e0 (g := (mkF m 25 #[.val (.long x0), .second, .val (.long x1), .second, .val (.int x2), .val (.long (own_law_j11 x0 x2)), .second, .unset, .unset, .unset, .unset, .unset, .unset, .unset, .unset, .unset] [])) rfl (hb hby at_25) (by decide) (by decide)
      obtain ⟨b113, g113⟩ : ∃ z, z = h0.size := ⟨_, rfl⟩
      rw [← g113] at A113 D113 st113
      have gn113 : n0 ≤ b113 := Nat.le_trans Z0 (Nat.le_of_eq g113.symm)
      have sz113 : h0.size ≤ b113 := Nat.le_trans (Keep.refl h0 []).1 (Nat.le_of_eq g113.symm)
      have f114 : Fld Z h113 b113 "com/example/breakwater/breakwater/core/CircuitHealth" "requests" "J" (.long (0 : Int64)) := D113 (Or.inr (hw _ (List.mem_of_getElem? (i := 17) rfl))) (ty := .long) (by decide)
      have f115 : Fld Z h113 b113 "com/example/breakwater/breakwater/core/CircuitHealth" "errors" "J" (.long (0 : Int64)) := D113 (Or.inr (hw _ (List.mem_of_getElem? (i := 19) rfl))) (ty := .long) (by decide)
      have Z113 : n0 ≤ h113.size := Nat.le_trans Z0 E113.1
      have K113 : Keep h0 h113 [] := (Keep.refl h0 []).ext E113
      refine Goes.step (B := (T113.setTop (mkF m 28 #[.val (.long x0), .second, .val (.long x1), .second, .val (.int x2), .val (.long (own_law_j11 x0 x2)), .second, .unset, .unset, .unset, .unset, .unset, .unset, .unset, .unset, .unset] [(.ref b113)]))) (fun _ k => st113 _ k) ?_
      refine Goes.step (B := (T113.setTop (mkF m 29 #[.val (.long x0), .second, .val (.long x1), .second, .val (.int x2), .val (.long (own_law_j11 x0 x2)), .second, .unset, .unset, .unset, .unset, .unset, .unset, .unset, .unset, .unset] [(.ref b113), (.ref b113)]))) (fun _ k => XS.dup X113.here hx rfl (hb hby at_28) rfl rfl k) ?_
      refine Goes.step (B := (T113.setTop (mkF m 31 #[.val (.long x0), .second, .val (.long x1), .second, .val (.int x2), .val (.long (own_law_j11 x0 x2)), .second, .unset, .unset, .unset, .unset, .unset, .unset, .unset, .unset, .unset] [(.long (own_law_j11 x0 x2)), (.ref b113), (.ref b113)]))) (fun _ k => XS.lload X113.here hx rfl (hb hby at_29) rfl k) ?_
      refine Goes.step (B := (T113.setTop (mkF m 32 #[.val (.long x0), .second, .val (.long x1), .second, .val (.int x2), .val (.long (own_law_j11 x0 x2)), .second, .unset, .unset, .unset, .unset, .unset, .unset, .unset, .unset, .unset] [(.long x1), (.long (own_law_j11 x0 x2)), (.ref b113), (.ref b113)]))) (fun _ k => XS.lloadN X113.here hx rfl (hb hby at_31) rfl k) ?_
      obtain ⟨_, _, ⟨T116, L116, k116, n116⟩, -, X116, ⟨Lc116, hQ116, l116, y116, z116⟩, st116⟩ := X113.specialBack hx (y := (⟨"com/example/breakwater/breakwater/core/CircuitHealth", "<init>", "(JJ)V"⟩ : MethodName)) rfl hown (mvT hZ (hw _ (List.mem_of_getElem? (i := 5) rfl))) (mvT hZ (hw _ (List.mem_of_getElem? (i := 6) rfl))) (mvT hZ (hw _ (List.mem_of_getElem? (i := 7) rfl))) (by decide) (backOf (W := 1) (own_ch_rm l Z a0 hw [] b113 (own_law_j11 x0 x2) x1  h113 n0 Z113 A113 f114 f115 gn113) hZ (hw _ (List.mem_of_getElem? (i := 7) rfl)) (hw _ (List.mem_of_getElem? (i := 4) rfl)) (by decide) (by decide)) (g := (mkF m 32 #[.val (.long x0), .second, .val (.long x1), .second, .val (.int x2), .val (.long (own_law_j11 x0 x2)), .second, .unset, .unset, .unset, .unset, .unset, .unset, .unset, .unset, .unset] [(.long x1), (.long (own_law_j11 x0 x2)), (.ref b113), (.ref b113)])) rfl (by rw [hml]; rfl) (Steps.refl _) (a := b113) (argsL := [(.long (own_law_j11 x0 x2)), (.long x1)]) (rest := [(.ref b113)]) (lenOf pd__JJ_V rfl) rfl (by show 2 * 0 + _ ≤ _; exact Nat.le_of_eq rfl) (hb hby at_32) (fun _ _ => ⟨rfl, e113, (by decide : 1 + 0 ≤ _), (by decide : 2 + 0 ≤ _)⟩)
      dsimp only [Pt.U, Pt.locs, Pt.cells, Pt.slots] at X116 l116 y116 z116 st116 hQ116
      subst l116 y116 z116
      obtain ⟨rfl, N116q, K116q, p116_0, p116_1, p116_2⟩ := hQ116
      have N116 := Fr.app N0 N116q
      have f117 := A113.keep K116q
      have K116 : Keep h0 T116.heap [] := Keep.trans K113 K116q (fun y q => by cases List.mem_singleton.mp q; exact (Or.inr sz113))
      have Z116 : n0 ≤ T116.heap.size := Nat.le_trans Z113 K116q.1
      refine Goes.to (B := (T116.setTop (mkF m 35 #[.val (.long x0), .second, .val (.long x1), .second, .val (.int x2), .val (.long (own_law_j11 x0 x2)), .second, .unset, .unset, .unset, .unset, .unset, .unset, .unset, .unset, .unset] [(.ref b113)]))) st116 ?_
      refine Goes.step (B := (T116.setTop (mkF m 37 #[.val (.long x0), .second, .val (.long x1), .second, .val (.int x2), .val (.long (own_law_j11 x0 x2)), .second, .val (.ref b113), .unset, .unset, .unset, .unset, .unset, .unset, .unset, .unset] []))) (fun _ k => XS.astore X116.here hx rfl (hb hby at_35) rfl rfl (l' := #[.val (.long x0), .second, .val (.long x1), .second, .val (.int x2), .val (.long (own_law_j11 x0 x2)), .second, .val (.ref b113), .unset, .unset, .unset, .unset, .unset, .unset, .unset, .unset]) rfl k) ?_
      refine Goes.step (B := (T116.setTop (mkF m 39 #[.val (.long x0), .second, .val (.long x1), .second, .val (.int x2), .val (.long (own_law_j11 x0 x2)), .second, .val (.ref b113), .unset, .unset, .unset, .unset, .unset, .unset, .unset, .unset] [(.ref b113)]))) (fun _ k => XS.aload X116.here hx rfl (hb hby at_37) rfl rfl k) ?_
      obtain ⟨cq118, kq118, q118a, q118b, q118c⟩ := isOf hZ rfl p116_0
      obtain ⟨_, _, ⟨T118, L118, k118, n118⟩, -, X118, ⟨Lc118, hQ118, l118, y118, z118⟩, st118⟩ := X116.virtualBack hx (y := (⟨"com/example/breakwater/breakwater/core/CircuitHealth", "errorPercentage", "()I"⟩ : MethodName)) (z := (⟨"com/example/breakwater/breakwater/core/CircuitHealth", "errorPercentage", "()I"⟩ : MethodName)) hown (mvT hZ (hw _ (List.mem_of_getElem? (i := 20) rfl))) (mvT hZ (hw _ (List.mem_of_getElem? (i := 21) rfl))) (notFace_of_selects (args := #[]) (mvT hZ (hw _ (List.mem_of_getElem? (i := 23) rfl)))) (mvT hZ (hw _ (List.mem_of_getElem? (i := 23) rfl))) (mvT hZ (hw _ (List.mem_of_getElem? (i := 22) rfl))) (by decide) (backOf (W := 0) (own_ep_rm l Z a0 hw [] b113 (own_law_j11 x0 x2) x1 T116.heap n0 Z116 p116_1 p116_2) hZ (hw _ (List.mem_of_getElem? (i := 24) rfl)) (hw _ (List.mem_of_getElem? (i := 4) rfl)) (by decide) (by decide)) q118a q118c (g := (mkF m 39 #[.val (.long x0), .second, .val (.long x1), .second, .val (.int x2), .val (.long (own_law_j11 x0 x2)), .second, .val (.ref b113), .unset, .unset, .unset, .unset, .unset, .unset, .unset, .unset] [(.ref b113)])) rfl (by rw [hml]; rfl) (Steps.refl _) (argsL := []) (rest := []) (lenOf pd___I rfl) rfl (by show 2 * 0 + _ ≤ _; exact Nat.le_of_eq rfl) (hb hby at_39) (fun _ _ => ⟨rfl, rfl, (by decide : 1 + 0 ≤ _), (by decide : 2 + 0 ≤ _)⟩)
      dsimp only [Pt.U, Pt.locs, Pt.cells, Pt.slots] at X118 l118 y118 z118 st118 hQ118
      subst l118 y118 z118
      obtain ⟨rfl, N118q, e118⟩ := hQ118
      have N118 := Fr.app N116 N118q
      refine Goes.to (B := (T118.setTop (mkF m 42 #[.val (.long x0), .second, .val (.long x1), .second, .val (.int x2), .val (.long (own_law_j11 x0 x2)), .second, .val (.ref b113), .unset, .unset, .unset, .unset, .unset, .unset, .unset, .unset] [(.int (own_ep_fn (own_law_j11 x0 x2) x1))]))) st118 ?_
      have hc119 : (own_ep_fn (own_law_j11 x0 x2) x1) = (0 : Int32) := own_t1 x0 x1 x2
      refine Goes.step (B := (T118.setTop (mkF m 45 #[.val (.long x0), .second, .val (.long x1), .second, .val (.int x2), .val (.long (own_law_j11 x0 x2)), .second, .val (.ref b113), .unset, .unset, .unset, .unset, .unset, .unset, .unset, .unset] []))) (fun _ k => XS.ifNo X118.here hx rfl (hb hby at_42) rfl ((if0 _ _).trans (teq hc119).2) k) ?_
      refine Goes.step (B := (T118.setTop (mkF m 46 #[.val (.long x0), .second, .val (.long x1), .second, .val (.int x2), .val (.long (own_law_j11 x0 x2)), .second, .val (.ref b113), .unset, .unset, .unset, .unset, .unset, .unset, .unset, .unset] [(.int (1 : Int32))]))) (fun _ k => XS.iconst X118.here hx rfl (hb hby at_45) k) ?_
      refine Goes.step (B := (T118.setTop (mkF m 50 #[.val (.long x0), .second, .val (.long x1), .second, .val (.int x2), .val (.long (own_law_j11 x0 x2)), .second, .val (.ref b113), .unset, .unset, .unset, .unset, .unset, .unset, .unset, .unset] [(.int (1 : Int32))]))) (fun _ k => XS.goto X118.here hx rfl (pc0 := 46) (pc' := 50) rfl (hb hby at_46) (by decide) (by decide) k) ?_
      refine Goes.retN X118 hx hlk (t := .boolean) hrt (by simp) (hb hby at_50) ?_ (by decide) (by decide)
      rw [e118]
      exact ⟨rfl, N118⟩
    by_cases hc120 : (x2 &&& (2 : Int32)) = (0 : Int32)
    · refine Goes.step (B := (s₁.setTop (mkF m 18 #[.val (.long x0), .second, .val (.long x1), .second, .val (.int x2), .unset, .unset, .unset, .unset, .unset, .unset, .unset, .unset, .unset, .unset, .unset] []))) (fun _ k => XS.ifYes X0.here hx rfl (pc0 := 11) (pc' := 18) rfl (hb hby at_11) rfl ((if0 _ _).trans (teq hc120).1) (by decide) (by decide) k) ?_
      refine Goes.step (B := (s₁.setTop (mkF m 19 #[.val (.long x0), .second, .val (.long x1), .second, .val (.int x2), .unset, .unset, .unset, .unset, .unset, .unset, .unset, .unset, .unset, .unset, .unset] [(.long x0)]))) (fun _ k => XS.lloadN X0.here hx rfl (hb hby at_18) rfl k) ?_
      refine Goes.step (B := (s₁.setTop (mkF m 22 #[.val (.long x0), .second, .val (.long x1), .second, .val (.int x2), .unset, .unset, .unset, .unset, .unset, .unset, .unset, .unset, .unset, .unset, .unset] [(.long (-9223372036854775808 : Int64)), (.long x0)]))) (fun _ k => X0.ldc2Long hx hown (mvT hZ (hw _ (List.mem_of_getElem? (i := 27) rfl))) (g := (mkF m 19 #[.val (.long x0), .second, .val (.long x1), .second, .val (.int x2), .unset, .unset, .unset, .unset, .unset, .unset, .unset, .unset, .unset, .unset, .unset] [(.long x0)])) rfl (hb hby at_19) _ k) ?_
      refine Goes.step (B := (s₁.setTop (mkF m 23 #[.val (.long x0), .second, .val (.long x1), .second, .val (.int x2), .unset, .unset, .unset, .unset, .unset, .unset, .unset, .unset, .unset, .unset, .unset] [(.long (x0 ||| (-9223372036854775808 : Int64)))]))) (fun _ k => XS.lor X0.here hx rfl (hb hby at_22) rfl k) ?_
      rw [show own_law_j11 x0 x2 = (x0 ||| (-9223372036854775808 : Int64)) from by simp only [own_law_j11, if_pos hc120]] at J112
      exact J112
    · refine Goes.step (B := (s₁.setTop (mkF m 14 #[.val (.long x0), .second, .val (.long x1), .second, .val (.int x2), .unset, .unset, .unset, .unset, .unset, .unset, .unset, .unset, .unset, .unset, .unset] []))) (fun _ k => XS.ifNo X0.here hx rfl (hb hby at_11) rfl ((if0 _ _).trans (feq hc120).1) k) ?_
      refine Goes.step (B := (s₁.setTop (mkF m 15 #[.val (.long x0), .second, .val (.long x1), .second, .val (.int x2), .unset, .unset, .unset, .unset, .unset, .unset, .unset, .unset, .unset, .unset, .unset] [(.long (0 : Int64))]))) (fun _ k => XS.lconst X0.here hx rfl (hb hby at_14) k) ?_
      refine Goes.step (B := (s₁.setTop (mkF m 23 #[.val (.long x0), .second, .val (.long x1), .second, .val (.int x2), .unset, .unset, .unset, .unset, .unset, .unset, .unset, .unset, .unset, .unset, .unset] [(.long (0 : Int64))]))) (fun _ k => XS.goto X0.here hx rfl (pc0 := 15) (pc' := 23) rfl (hb hby at_15) (by decide) (by decide) k) ?_
      rw [show own_law_j11 x0 x2 = (0 : Int64) from by simp only [own_law_j11, if_neg hc120]] at J112
      exact J112
set_option maxRecDepth 65536 in
set_option maxHeartbeats 40000000 in
theorem comes_1 {Post : Tables → Env → Array Value → State → Outcome → State → Prop} (hpost : ∀ tb e args s v u, (limb_1_1.after args s (.returned v) u = true ∧ limb_1_2.after args s (.returned v) u = true ∧ True) → FrameEnd s (.returned v) u (Jvm.fieldLocs frame_1_writes args s ++ Jvm.arrayLocs frame_1_arrays args s ++ Jvm.staticLocs frame_1_statics s) 16 128 → Post tb e args s (.returned v) u) :
    ArmFor flags0 classFile x code maxLocals ret World_1 tables_1 room_1 Calls_1 rest_1 Pre_1 Post := by
  intro l hfl _ _ p e ha hc hk s m args below hf hA hF happ hP
  obtain ⟨hcalls, hrest, hpre⟩ := hP
  obtain ⟨-, -, -, hnamed, -, -, -, hat⟩ := (Spec.applies_iff hf).mp happ
  obtain ⟨hg, hn⟩ := and_e (Cond.before_iff.mp (show (Jvm.Cond.and given_1 narrow_1).before args s = true from hpre))
  obtain ⟨hg1, hg2⟩ := and_e hg
  obtain ⟨hg3, hg4⟩ := and_e hg2
  obtain ⟨hg5, hg6⟩ := and_e hg4
  obtain ⟨w0, w1, w2, rfl⟩ : ∃ w0 w1 w2 : Value, args = #[w0, w1, w2] := by
    have hs : args.size = 3 := by simpa [Cond.value, given_1] using hg1
    obtain ⟨L⟩ := args
    match L, hs with
    | [w0, w1, w2], _ => exact ⟨w0, w1, w2, rfl⟩
  have hw := fun d (hd : d ∈ tables_1) => atoms_spec (ws := Jvm.Cond.code x code maxLocals ret :: tables_1) hat d (List.mem_cons_of_mem _ hd)
  have hfit : Fit s := fun {y c} hc i hi => by
    obtain ⟨ha, rfl⟩ := Array.getElem?_eq_some_iff.mp hc
    have q := List.all_eq_true.mp ((Array.all_eq_true_iff_forall_mem.mp hF) _ (Array.getElem_mem ha)) i (List.mem_range.mpr hi)
    simpa [Array.getElem?_eq_getElem hi] using q
  obtain ⟨i0, ei0⟩ := isL_v hg3
  obtain rfl : w0 = (.long i0) := Option.some.inj ei0
  obtain ⟨i1, ei1⟩ := isL_v hg5
  obtain rfl : w1 = (.long i1) := Option.some.inj ei1
  obtain ⟨i2, ei2⟩ := is_v hg6
  obtain rfl : w2 = (.int i2) := Option.some.inj ei2
  obtain ⟨n, o, h1, h2, h3, _, L, rfl, ⟨hv, N⟩, hq⟩ := own_law_rm l s _ hw tables_1 i0 i1 i2  s.heap s.heap.size (Nat.le_refl _)  p e ha hc hk s m _ below hf ((Spec.applies_iff_loose hf).mp happ).1 ⟨rfl, State.Warmed39.refl s, rfl⟩ trivial
  subst hv
  refine ⟨n, _, h1, h2, h3, hpost _ _ _ _ _ _ ⟨Cond.after_iff.mpr rfl, Cond.after_iff.mpr (eq_i res_at (Term.int_eval (1)) rfl), trivial⟩ ⟨hq.1, hq.2.1, (hq.2.2.sift fun y hy => Or.inr (N y hy)).mono (by decide) (by decide)⟩⟩
theorem main_1_1 : Claimed_1_1 := comes_1 fun _ _ _ _ _ _ h hF => ⟨h.1, hF⟩
theorem main_1_2 : Claimed_1_2 := comes_1 fun _ _ _ _ _ _ h hF => ⟨h.2.1, hF⟩
end Jvm.Pilot.@@N@@
namespace Jvm.Pilot.@@N@@
open Jvm Jvm.ClassFile Sem Op Lib Jvm.Free Jvm.Stand Jvm.Pilot.@@N@@.Jvm.D
/-! MADE BY PROGRAM (witnessworld.py) out of the Statement's table words and the real class files: 10 classes; the members and pool entries that the words name. The judged class is class 1, her method 1. -/
namespace start1
open Jvm.ClassFile
def u (s : String) : CpInfo := .utf8 (stringToUtf16 s)
/-- a pool by its gaps: so many unusable entries, then the entry; so many at the end -/
def gap : Nat → List CpInfo → List CpInfo
  | 0, r => r
  | n + 1, r => .unusable :: gap n r
def poolList (es : List (Nat × CpInfo)) (last : Nat) : List CpInfo := es.foldr (fun e r => gap e.1 (e.2 :: r)) (gap last [])
def pool (es : List (Nat × CpInfo)) (last : Nat) : Array CpInfo := ⟨poolList es last⟩
def fileOf (pool : Array CpInfo) (this : Nat) (attrs : Array Attribute := #[]) (ms : Array MethodInfo := #[]) (fl : Nat := 33) (sup : Nat := 0) (ifs : Array Nat := #[]) (fds : Array FieldInfo := #[]) : ClassFile where
  minorVersion := 0
  majorVersion := 65
  constantPool := pool
  accessFlags := fl
  thisClass := this
  superClass := sup
  interfaces := ifs
  fields := fds
  methods := ms
  attributes := attrs
def plain (name : String) (sup : Option ClassId) : Class where
  name := name
  kind := .ordinary
  loader := none
  accessFlags := 33
  super := sup
  interfaces := #[]
  cf := none
  fields := #[]
  methods := #[]
  instanceTypes := #[]
  staticTypes := #[]
  resolved := #[]
  callSites := []
  init := .initialized
  statics := none
  mirror := none

def pool0 : Array CpInfo := pool [(5, u "<init>"), (0, u "()V"), (1, .class_ 10), (1, u "java/lang/Object")] 113

def k0c0 : Code := { maxStack := 0, maxLocals := 1, code := object_method_1_code, exceptionTable := #[], attributes := #[] }
def k0m0 : Method := { name := "<init>", desc := "()V", sig := { parameters := [], returnType := none }, accessFlags := 1, code := some k0c0 }
/-- java/lang/Object -/
def k0 : Class := { plain "java/lang/Object" none with
  accessFlags := 33
  interfaces := #[]
  cf := some (fileOf pool0 8 #[] #[{ accessFlags := 1, nameIndex := 5, descriptorIndex := 6, attributes := #[] }] 33 0 #[] #[])
  fields := #[]
  methods := #[k0m0]
  instanceTypes := #[]
  staticTypes := #[]
  resolved := Array.replicate 124 none
  statics := none }

def pool1 : Array CpInfo := pool [(2, .class_ 4), (1, u "java/lang/Object"), (0, u "<init>"), (0, u "()V"), (2, .long 9223372036854775808), (1, .class_ 12), (0, u "com/example/breakwater/breakwater/core/CircuitHealth"), (0, .methodref 11 14), (0, .nameAndType 5 15), (0, u "(JJ)V"), (0, .methodref 11 17), (0, .nameAndType 18 19), (0, u "errorPercentage"), (0, u "()I"), (0, .long 1099511627775), (1, .long 9223372036854775807), (1, .long 100), (1, .class_ 27), (0, u "com/example/breakwater/breakwater/core/CircuitHealthErrorPercentagePinLaw"), (2, u "law"), (0, u "(JJI)Z")] 3

def k1m0 : Method := { name := "<init>", desc := "()V", sig := { parameters := [], returnType := none }, accessFlags := 1, code := none }
def k1c1 : Code := { maxStack := 6, maxLocals := 16, code := code, exceptionTable := #[], attributes := #[] }
def k1m1 : Method := { name := "law", desc := "(JJI)Z", sig := { parameters := [.long, .long, .int], returnType := some .boolean }, accessFlags := 9, code := some k1c1 }
/-- com/example/breakwater/breakwater/core/CircuitHealthErrorPercentagePinLaw -/
def k1 : Class := { plain "com/example/breakwater/breakwater/core/CircuitHealthErrorPercentagePinLaw" (some 0) with
  accessFlags := 49
  interfaces := #[]
  cf := some (fileOf pool1 26 #[] #[{ accessFlags := 1, nameIndex := 5, descriptorIndex := 6, attributes := #[] }, { accessFlags := 9, nameIndex := 30, descriptorIndex := 31, attributes := #[] }] 49 2 #[] #[])
  fields := #[]
  methods := #[k1m0, k1m1]
  instanceTypes := #[]
  staticTypes := #[]
  resolved := Array.replicate 35 none
  statics := none }

def pool2 : Array CpInfo := pool [(1, .methodref 2 3), (0, .class_ 4), (0, .nameAndType 5 6), (0, u "java/lang/Object"), (0, u "<init>"), (0, u "()V"), (0, .class_ 8), (0, u "java/lang/Record")] 13

def k2c0 : Code := { maxStack := 1, maxLocals := 1, code := jdk_30_method_1_code, exceptionTable := #[], attributes := #[] }
def k2m0 : Method := { name := "<init>", desc := "()V", sig := { parameters := [], returnType := none }, accessFlags := 4, code := some k2c0 }
/-- java/lang/Record -/
def k2 : Class := { plain "java/lang/Record" (some 0) with
  accessFlags := 1057
  interfaces := #[]
  cf := some (fileOf pool2 7 #[] #[{ accessFlags := 4, nameIndex := 5, descriptorIndex := 6, attributes := #[] }] 1057 2 #[] #[])
  fields := #[]
  methods := #[k2m0]
  instanceTypes := #[]
  staticTypes := #[]
  resolved := Array.replicate 22 none
  statics := none }

def pool3 : Array CpInfo := pool [(1, .methodref 2 3), (0, .class_ 4), (0, .nameAndType 5 6), (0, u "java/lang/Record"), (0, u "<init>"), (0, u "()V"), (0, .fieldref 8 9), (0, .class_ 10), (0, .nameAndType 11 12), (0, u "com/example/breakwater/breakwater/core/CircuitHealth"), (0, u "requests"), (0, u "J"), (0, .fieldref 8 14), (0, .nameAndType 15 12), (0, u "errors"), (0, .long 100), (13, u "(JJ)V"), (3, u "errorPercentage"), (0, u "()I")] 25

def k3c0 : Code := { maxStack := 3, maxLocals := 5, code := prog_33_method_1_code, exceptionTable := #[], attributes := #[] }
def k3m0 : Method := { name := "<init>", desc := "(JJ)V", sig := { parameters := [.long, .long], returnType := none }, accessFlags := 1, code := some k3c0 }
def k3c1 : Code := { maxStack := 4, maxLocals := 2, code := prog_33_method_2_code, exceptionTable := #[], attributes := #[] }
def k3m1 : Method := { name := "errorPercentage", desc := "()I", sig := { parameters := [], returnType := some .int }, accessFlags := 1, code := some k3c1 }
/-- com/example/breakwater/breakwater/core/CircuitHealth -/
def k3 : Class := { plain "com/example/breakwater/breakwater/core/CircuitHealth" (some 2) with
  accessFlags := 49
  interfaces := #[]
  cf := some (fileOf pool3 8 #[] #[{ accessFlags := 1, nameIndex := 5, descriptorIndex := 30, attributes := #[] }, { accessFlags := 1, nameIndex := 34, descriptorIndex := 35, attributes := #[] }] 49 2 #[] #[{ accessFlags := 18, nameIndex := 11, descriptorIndex := 12, attributes := #[] }, { accessFlags := 18, nameIndex := 15, descriptorIndex := 12, attributes := #[] }])
  fields := #[{ name := "requests", type := .long, accessFlags := 18, slot := 0, constantValue := 0 }, { name := "errors", type := .long, accessFlags := 18, slot := 1, constantValue := 0 }]
  methods := #[k3m0, k3m1]
  instanceTypes := #[.long, .long]
  staticTypes := #[]
  resolved := Array.replicate 61 none
  statics := none }

def pool4 : Array CpInfo := pool [(1, u "java/lang/Cloneable"), (0, .class_ 1), (0, u "java/lang/Object"), (0, .class_ 3)] 3

/-- java/lang/Cloneable -/
def k4 : Class := { plain "java/lang/Cloneable" (some 0) with
  accessFlags := 1537
  interfaces := #[]
  cf := some (fileOf pool4 2 #[] #[] 1537 4 #[] #[])
  fields := #[]
  methods := #[]
  instanceTypes := #[]
  staticTypes := #[]
  resolved := Array.replicate 8 none
  statics := none }

def pool5 : Array CpInfo := pool [(1, u "java/io/Serializable"), (0, .class_ 1), (0, u "java/lang/Object"), (0, .class_ 3)] 3

/-- java/io/Serializable -/
def k5 : Class := { plain "java/io/Serializable" (some 0) with
  accessFlags := 1537
  interfaces := #[]
  cf := some (fileOf pool5 2 #[] #[] 1537 4 #[] #[])
  fields := #[]
  methods := #[]
  instanceTypes := #[]
  staticTypes := #[]
  resolved := Array.replicate 8 none
  statics := none }

/-- the primitive byte -/
def k6 : Class := { plain "byte" none with kind := .primitive 'B', accessFlags := 0x411 }
/-- [B -/
def k7 : Class := { plain "[B" (some 0) with kind := .array 6 .byte, interfaces := #[4, 5], accessFlags := 1041 }

/-- the primitive int -/
def k8 : Class := { plain "int" none with kind := .primitive 'I', accessFlags := 0x411 }
/-- [I -/
def k9 : Class := { plain "[I" (some 0) with kind := .array 8 .int, interfaces := #[4, 5], accessFlags := 1041 }

def heap : Heap := #[]
def classes : Array Class := #[k0, k1, k2, k3, k4, k5, k6, k7, k8, k9]
def interned : List (Array UInt16 × Addr) := []
def slotsUsed : Nat := 0
def theMethod : MethodId := ⟨1, 1⟩
def args0 : Array Value := #[.long 65, .long 3, .int 2]
def aboutOver (below : List Frame) : State where
  vm := { classes := classes, interned := interned.toArray }
  heap := heap
  slotsUsed := slotsUsed
  threads := #[{ frames := .invoking theMethod args0 :: below }]
def below0 : List Frame := [.native { method := ⟨0, 0⟩, args := #[] }]
def about1 : State := aboutOver below0
def p0 : Program := .bare "" "" ""
def e0 : Env := launch0.env 0 0 0
theorem w_frames : about1.frames = Frame.invoking theMethod args0 :: below0 := rfl
set_option maxRecDepth 65536 in
theorem w_args : argsFit about1.vm theMethod args0 = true := by decide +kernel
set_option maxRecDepth 65536 in
theorem w_heap : heapFits about1 = true := by decide +kernel
set_option maxRecDepth 65536 in
theorem w_runnable : about1.curStatus? = some .runnable := by decide +kernel
set_option maxRecDepth 65536 in
theorem w_alone : about1.alone = true := by decide +kernel
set_option maxRecDepth 65536 in
theorem w_named : about1.methodNamed? x = some theMethod := by decide +kernel
set_option maxRecDepth 65536 in
theorem w_hears : about1.hears theMethod below0 = true := by decide +kernel
set_option maxRecDepth 65536 in
theorem w_ripe : about1.ripe theMethod args0 below0 = true := by decide +kernel
theorem w_running : about1.status = .running := rfl
set_option maxRecDepth 65536 in
theorem w_room : about1.hasRoom e0.platform room_1 = true :=
  launch0.hasRoom_least _ room_1 (by decide +kernel) (by decide +kernel) (by decide +kernel) (by decide +kernel) (by decide +kernel) (by decide +kernel)
theorem allAtoms_all (ts : List Jvm.Cond) (a : Array Jvm.Value) (st : Jvm.State) : (allAtoms ts).before a st = ts.all (fun c => c.before a st) := by
  induction ts with
  | nil => rfl
  | cons c t ih =>
    show (Jvm.Cond.and c (allAtoms t)).before a st = _
    rw [Jvm.Cond.before_and, ih, List.all_cons]
def words1 : List Jvm.Cond := Jvm.Cond.code x code maxLocals ret :: tables_1
/-- a 'code' word, met by the world's own term for the bytes: nothing is compared byte by byte -/
theorem code_word {y : MethodName} {bytes : ByteArray} {mx : Nat} {rt : Option FieldType} {a : Array Value} {s : State} {m : MethodId} {meth : Method} {c : Code} (h1 : s.methodNamed? y = some m) (h2 : s.vm.method? m = some meth) (h3 : meth.code = some c) (h4 : c.code = bytes)
    (h5 : (c.maxLocals == mx && c.exceptionTable.isEmpty && decide (c.maxStack ≤ mostOperands) && decide (meth.sig.returnType = rt) && !meth.locks && decide (parseMethodDescriptor y.desc = some meth.sig)) = true) : (Jvm.Cond.code y bytes mx rt).before a s = true := by
  simp only [Bool.and_eq_true, beq_iff_eq, Bool.not_eq_true', decide_eq_true_eq] at h5
  obtain ⟨⟨⟨⟨⟨g1, g2⟩, g3⟩, g4⟩, g5⟩, g6⟩ := h5
  simp [Cond.before, Cond.holds, Cond.value, h1, h2, h3, h4, g1, g2, g3, g4, g5, g6]
def isCode : Jvm.Cond → Bool
  | .code _ _ _ _ => true
  | _ => false
theorem all_split {L : List Jvm.Cond} {P : Jvm.Cond → Bool} (h1 : L.all (fun c => isCode c || P c) = true) (h2 : ∀ c ∈ L.filter isCode, P c = true) : L.all P = true := by
  refine List.all_eq_true.mpr fun c hc => ?_
  have h := List.all_eq_true.mp h1 c hc
  rcases Bool.eq_false_or_eq_true (isCode c) with hi | hi
  · exact h2 c (List.mem_filter.mpr ⟨hc, hi⟩)
  · simpa [hi] using h
set_option maxRecDepth 65536 in
theorem w_c0 : (Jvm.Cond.code x code maxLocals ret).before args0 about1 = true := code_word (m := ⟨1, 1⟩) (meth := k1m1) (c := k1c1) (by decide +kernel) rfl rfl rfl (by decide +kernel)
set_option maxRecDepth 65536 in
theorem w_c1 : (Jvm.Cond.code ({ cls := "com/example/breakwater/breakwater/core/CircuitHealth", name := "<init>", desc := "(JJ)V" } : Jvm.MethodName) prog_33_method_1_code (5 : Nat) (Option.none : Option Jvm.ClassFile.FieldType)).before args0 about1 = true := code_word (m := ⟨3, 0⟩) (meth := k3m0) (c := k3c0) (by decide +kernel) rfl rfl rfl (by decide +kernel)
set_option maxRecDepth 65536 in
theorem w_c2 : (Jvm.Cond.code ({ cls := "java/lang/Record", name := "<init>", desc := "()V" } : Jvm.MethodName) jdk_30_method_1_code (1 : Nat) (Option.none : Option Jvm.ClassFile.FieldType)).before args0 about1 = true := code_word (m := ⟨2, 0⟩) (meth := k2m0) (c := k2c0) (by decide +kernel) rfl rfl rfl (by decide +kernel)
set_option maxRecDepth 65536 in
theorem w_c3 : (Jvm.Cond.code ({ cls := "java/lang/Object", name := "<init>", desc := "()V" } : Jvm.MethodName) object_method_1_code (1 : Nat) (Option.none : Option Jvm.ClassFile.FieldType)).before args0 about1 = true := code_word (m := ⟨0, 0⟩) (meth := k0m0) (c := k0c0) (by decide +kernel) rfl rfl rfl (by decide +kernel)
set_option maxRecDepth 65536 in
theorem w_c4 : (Jvm.Cond.code ({ cls := "com/example/breakwater/breakwater/core/CircuitHealth", name := "errorPercentage", desc := "()I" } : Jvm.MethodName) prog_33_method_2_code (2 : Nat) (Option.some Jvm.ClassFile.FieldType.int)).before args0 about1 = true := code_word (m := ⟨3, 1⟩) (meth := k3m1) (c := k3c1) (by decide +kernel) rfl rfl rfl (by decide +kernel)
def codes1 : List Jvm.Cond := [Jvm.Cond.code x code maxLocals ret, Jvm.Cond.code ({ cls := "com/example/breakwater/breakwater/core/CircuitHealth", name := "<init>", desc := "(JJ)V" } : Jvm.MethodName) prog_33_method_1_code (5 : Nat) (Option.none : Option Jvm.ClassFile.FieldType), Jvm.Cond.code ({ cls := "java/lang/Record", name := "<init>", desc := "()V" } : Jvm.MethodName) jdk_30_method_1_code (1 : Nat) (Option.none : Option Jvm.ClassFile.FieldType), Jvm.Cond.code ({ cls := "java/lang/Object", name := "<init>", desc := "()V" } : Jvm.MethodName) object_method_1_code (1 : Nat) (Option.none : Option Jvm.ClassFile.FieldType), Jvm.Cond.code ({ cls := "com/example/breakwater/breakwater/core/CircuitHealth", name := "errorPercentage", desc := "()I" } : Jvm.MethodName) prog_33_method_2_code (2 : Nat) (Option.some Jvm.ClassFile.FieldType.int)]
set_option maxRecDepth 65536 in
theorem codes_eq : words1.filter isCode = codes1 := rfl
theorem w_codes : ∀ c ∈ words1.filter isCode, c.before args0 about1 = true := by
  rw [codes_eq]
  intro c hc
  simp only [codes1, List.mem_cons, List.not_mem_nil, or_false] at hc
  rcases hc with rfl | rfl | rfl | rfl | rfl
  · exact w_c0
  · exact w_c1
  · exact w_c2
  · exact w_c3
  · exact w_c4
set_option maxRecDepth 65536 in
theorem w_t1 : (words1.take 24).all (fun c => isCode c || c.before args0 about1) = true := by decide +kernel
set_option maxRecDepth 65536 in
theorem w_t2 : (words1.drop 24).all (fun c => isCode c || c.before args0 about1) = true := by decide +kernel
theorem w_tables : (allAtoms (Jvm.Cond.code x code maxLocals ret :: tables_1)).before args0 about1 = true := by
  rw [allAtoms_all]
  show words1.all (fun c => c.before args0 about1) = true
  refine all_split ?_ w_codes
  rw [← List.take_append_drop 24 words1, List.all_append, w_t1, w_t2]
  rfl
set_option maxRecDepth 65536 in
theorem w_case : (Jvm.Cond.and given_1 narrow_1).before args0 about1 = true := by decide +kernel
theorem w_applies : (headSpec (Jvm.Cond.code x code maxLocals ret :: tables_1) room_1).applies x e0.platform about1 = true :=
  (Spec.applies_iff w_frames).mpr ⟨w_running, w_runnable, w_alone, w_named, w_hears, w_ripe, w_room, w_tables⟩
theorem atStart : AtStart classFile x code maxLocals ret World_1 tables_1 room_1 Calls_1 rest_1 Pre_1 launch0 p0 e0 about1 theMethod args0 below0 :=
  ⟨lists_1, trivial, launch0.admits_env _ _ _, launch0.least_env, fairChoices_fair.cas, fairChoices_fair.clock, w_frames, w_args, w_heap, w_applies, trivial, trivial, w_case⟩
end start1
theorem witness_1 : WitnessClaimed_1 := ⟨start1.p0, start1.e0, start1.about1, start1.theMethod, start1.args0, start1.below0, start1.atStart⟩
end Jvm.Pilot.@@N@@
