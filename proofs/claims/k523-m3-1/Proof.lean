import JvmDerived
import JvmDerived.Pilot.@@N@@Statement
import JvmDerived.Pilot.@@N@@Code
set_option linter.unusedVariables false
set_option linter.unusedSimpArgs false
namespace Jvm.RoadKit
open Sem ClassFile Op Lib Jvm.Stand Jvm.Free Jvm.LawKit
section Own
variable {p : Program} {l : Launch} {e : Env} {R : Room} {s : State} {m : MethodId} {args : Array Value} {below : List Frame} {meth : Method} {c : Code} {T : State} {locs : List Loc} {cells slots : Nat}
theorem retI (X : Stand p l e R s m args below meth c T locs cells slots) (hx : p.tables.exec = Jvm.exec) {pc : Nat} {Ls : Array Slot} {z : Int32} {rest : List Value} (hret : meth.sig.returnType = some .int) (hd : decode c.code pc = .ok (.ireturn, 1)) {fs : List Frame}
    (hl : ∀ (f : JFrame) (acts : List Action), f.method = m → f.locked = none → f.entered = [] → (doReturn e (T.setTop f) acts (some (.int z))).1 = T.setFrames fs) : Steps p.tables e below (T.setTop (mkF m pc Ls (.int z :: rest))) (T.setFrames fs) :=
  retOut X hx hret rfl (Or.inl ⟨rfl, Or.inl rfl, z, rfl⟩) hd hl
theorem lremM {g : JFrame} {target : State} (X : Stand p l e R s m args below meth c T locs cells slots) (hx : p.tables.exec = Jvm.exec) (hg : g.method = m) {x y : Int64} {rest : List Value} (hd : decode c.code g.pc = .ok (.lrem, 1)) (hs : g.stack = .long y :: .long x :: rest) (hy : y ≠ 0)
    (hr : Steps p.tables e below (T.setTop { g with pc := g.pc + 1, stack := .long (x % y) :: rest }) target) : Steps p.tables e below (T.setTop g) target :=
  XS.lrem X.here hx hg hd hs hy (by rw [lrem_mod]; exact hr)
/-- the walk from S on ends in a return of which Q holds -/
def Goes (p : Program) (e : Env) (below : List Frame) (s : State) (k n : Nat) (Q : Option Value → Heap → List Loc → Prop) (S : State) : Prop :=
  ∃ t o, Steps p.tables e below S t ∧ t.status = .running ∧ Ended t below o ∧ ∃ v L, o = .returned v ∧ Q v t.heap L ∧ FrameEnd s o t L k n
variable {kc kn : Nat} {Q : Option Value → Heap → List Loc → Prop}
theorem Goes.step {A B : State} (h : ∀ t, Steps p.tables e below B t → Steps p.tables e below A t) (g : Goes p e below s kc kn Q B) : Goes p e below s kc kn Q A := by
  obtain ⟨t, o, h1, h2⟩ := g; exact ⟨t, o, h t h1, h2⟩
theorem Goes.to {A B : State} (h : Steps p.tables e below A B) (g : Goes p e below s kc kn Q B) : Goes p e below s kc kn Q A := by
  obtain ⟨t, o, h1, h2⟩ := g; exact ⟨t, o, h.trans h1, h2⟩
theorem Goes.out (X : Stand p l e R s m args below meth c T locs cells slots) {g : JFrame} {v : Option Value} (hlk : meth.locks = false) (hv : meth.sig.returnType = none → v = none)
    (hs : ∀ fs : List Frame, (∀ (f : JFrame) (acts : List Action), f.method = m → f.locked = none → f.entered = [] → (doReturn e (T.setTop f) acts v).1 = T.setFrames fs) → Steps p.tables e below (T.setTop g) (T.setFrames fs))
    (hq : Q v T.heap locs) (hk : cells ≤ kc) (hn : slots ≤ kn) : Goes p e below s kc kn Q (T.setTop g) := by
  obtain ⟨fs, hr, hrun, hended, hW, hsame⟩ := X.leave (v := v) hv hlk
  exact ⟨_, _, hs fs hr, hrun, hended, v, locs, rfl, hq, ⟨_, rfl⟩, hW, hsame.mono hk hn⟩
theorem Goes.retI (X : Stand p l e R s m args below meth c T locs cells slots) (hx : p.tables.exec = Jvm.exec) (hlk : meth.locks = false) {pc : Nat} {Ls : Array Slot} {z : Int32} {rest : List Value} (hret : meth.sig.returnType = some .int) (hd : decode c.code pc = .ok (.ireturn, 1))
    (hq : Q (some (.int z)) T.heap locs) (hk : cells ≤ kc) (hn : slots ≤ kn) : Goes p e below s kc kn Q (T.setTop (mkF m pc Ls (.int z :: rest))) :=
  Goes.out X hlk (fun h => by rw [hret] at h; cases h) (fun fs hr => Jvm.RoadKit.retI X hx hret hd hr) hq hk hn
theorem Goes.retN (X : Stand p l e R s m args below meth c T locs cells slots) (hx : p.tables.exec = Jvm.exec) (hlk : meth.locks = false) {pc : Nat} {Ls : Array Slot} {z : Int32} {t : FieldType} {rest : List Value} (hret : meth.sig.returnType = some t) (ht : t = .boolean ∨ t = .byte ∨ t = .char ∨ t = .short) (hd : decode c.code pc = .ok (.ireturn, 1))
    (hq : Q (some (.int (nar t z))) T.heap locs) (hk : cells ≤ kc) (hn : slots ≤ kn) : Goes p e below s kc kn Q (T.setTop (mkF m pc Ls (.int z :: rest))) :=
  Goes.out X hlk (fun h => by rw [hret] at h; cases h) (fun fs hr => Jvm.RoadKit.retN X hx hret ht hd hr) hq hk hn
theorem Goes.retJ (X : Stand p l e R s m args below meth c T locs cells slots) (hx : p.tables.exec = Jvm.exec) (hlk : meth.locks = false) {pc : Nat} {Ls : Array Slot} {z : Int64} {rest : List Value} (hret : meth.sig.returnType = some .long) (hd : decode c.code pc = .ok (.lreturn, 1))
    (hq : Q (some (.long z)) T.heap locs) (hk : cells ≤ kc) (hn : slots ≤ kn) : Goes p e below s kc kn Q (T.setTop (mkF m pc Ls (.long z :: rest))) :=
  Goes.out X hlk (fun h => by rw [hret] at h; cases h) (fun fs hr => retOut X hx hret rfl (Or.inr (Or.inl ⟨rfl, rfl, z, rfl⟩)) hd hr) hq hk hn
theorem Goes.retR (X : Stand p l e R s m args below meth c T locs cells slots) (hx : p.tables.exec = Jvm.exec) (hlk : meth.locks = false) {pc : Nat} {Ls : Array Slot} {w : Value} {t : FieldType} {rest : List Value} (hret : meth.sig.returnType = some t) (ht : t.isReference = true) (hw : w.isRef = true) (hn' : narrow t w = w) (hd : decode c.code pc = .ok (.areturn, 1))
    (hq : Q (some w) T.heap locs) (hk : cells ≤ kc) (hn : slots ≤ kn) : Goes p e below s kc kn Q (T.setTop (mkF m pc Ls (w :: rest))) :=
  Goes.out X hlk (fun h => by rw [hret] at h; cases h) (fun fs hr => retOut X hx hret hn' (Or.inr (Or.inr (Or.inr (Or.inr ⟨rfl, ht, hw⟩)))) hd hr) hq hk hn
theorem Goes.retV (X : Stand p l e R s m args below meth c T locs cells slots) (hx : p.tables.exec = Jvm.exec) (hlk : meth.locks = false) {pc : Nat} {Ls : Array Slot} (hret : meth.sig.returnType = none) (hd : decode c.code pc = .ok (.return_, 1))
    (hq : Q none T.heap locs) (hk : cells ≤ kc) (hn : slots ≤ kn) : Goes p e below s kc kn Q (T.setTop (mkF m pc Ls [])) :=
  Goes.out X hlk (fun _ => rfl) (fun fs hr => X.returnOut hx hret hd hr) hq hk hn
theorem Goes.enter {s₁ : State} {maxL : Nat} {g : JFrame} (h : entryFrame m args maxL = g) (k : Goes p e below s kc kn Q (s₁.setTop g)) :
    ∃ t o, Steps p.tables e below (s₁.setTop (entryFrame m args maxL)) t ∧ t.status = .running ∧ Ended t below o ∧ ∃ v L, o = .returned v ∧ Q v t.heap L ∧ FrameEnd s o t L kc kn := by rw [h]; exact k
theorem nm0 {b : Addr} : b ∉ ([] : List Addr) := List.not_mem_nil
theorem nm1 {b a : Addr} (h : b ≠ a) : b ∉ [a] := fun q => h (List.mem_singleton.mp q)
theorem nm2 {b a a' : Addr} (h : b ≠ a) (h' : b ≠ a') : b ∉ [a, a'] := fun q => (List.mem_cons.mp q).elim h (fun q => h' (List.mem_singleton.mp q))
theorem nm3 {b a a' a'' : Addr} (h : b ≠ a) (h' : b ≠ a') (h'' : b ≠ a'') : b ∉ [a, a', a''] := fun q => (List.mem_cons.mp q).elim h (fun q => nm2 h' h'' q)
theorem Sta.keepN {Z : State} {h h' : Heap} {C n d : String} {v : Value} {ws : List Addr} (F : Sta Z h C n d v) (K : Keep h h' ws) (hn : ∀ a ∈ ws, ∀ cell : Cell, h[a]? = some cell → cell.vm.isStatics = false) : Sta Z h' C n d v := by
  obtain ⟨cf, i, k, f, st, cell, h1, h2, h3, h4, h5, h6, r⟩ := F
  exact ⟨cf, i, k, f, st, cell, h1, h2, h3, h4, K.2.1 st cell h5 (fun q => by have := hn st q cell h5; rw [h6] at this; cases this), h6, r⟩
theorem Exa.plainN {Z : State} {h : Heap} {a : Addr} {C : String} (E : Exa Z h a C) : ∀ cell : Cell, h[a]? = some cell → cell.vm.isStatics = false := fun cell q => by
  obtain ⟨c, k, h1, h2, h3, h4, h5⟩ := E; cases h1.symm.trans q; exact h4
theorem Arv.plainN {Z : State} {h : Heap} {a : Addr} {k : ClassId} {ty : FieldType} {z : Int32} {vs : List Value} {d : Value} (A : Arv Z h a k ty z vs d) : ∀ cell : Cell, h[a]? = some cell → cell.vm.isStatics = false := fun cell q => by
  obtain ⟨c, A, r⟩ := A; cases A.1.symm.trans q; exact A.plain
end Own
end Jvm.RoadKit
namespace Jvm.Pilot.@@N@@
open Jvm Jvm.ClassFile Sem Op Lib Jvm.Free Jvm.Stand Jvm.LawKit Jvm.RoadKit Bundle Jvm.Pilot.@@N@@.Jvm.D
theorem d_jdk_30_method_1_code_0 : decode jdk_30_method_1_code 0 = .ok (.aload_n 0, 1) := by decide +kernel
theorem d_jdk_30_method_1_code_1 : decode jdk_30_method_1_code 1 = .ok (.invokespecial 1, 3) := by decide +kernel
theorem d_jdk_30_method_1_code_4 : decode jdk_30_method_1_code 4 = .ok (.return_, 1) := by decide +kernel
def own_rec_Q (Z : State) (o0 : Addr)  (h0 : Heap) (n0 : Nat) (v : Option Value) (h : Heap) (L : List Loc) : Prop := v = none ∧ Fr n0 L ∧ h = h0
theorem own_rec_ef (m : MethodId) (o0 : Addr) : entryFrame m #[(.ref o0)] 1 = mkF m 0 #[.val (.ref o0)] [] := by first | (simp [entryFrame, mkF, argsToLocals, Value.category]; done) | rfl
theorem pn_Record : plainName "java/lang/Record" = true := by first | (simp [plainName, overriddenIn]; done) | decide +kernel
set_option maxRecDepth 65536 in
set_option maxHeartbeats 40000000 in
theorem own_rec_rm (l : Launch) (Z : State) (a0 : Array Value) (hw : ∀ d ∈ tables_1, d.before a0 Z = true) (ws : List Jvm.Cond) (o0 : Addr)  (h0 : Heap) (n0 : Nat) (Z0 : n0 ≤ h0.size)  :
    MetFree l (⟨"java/lang/Record", "<init>", "()V"⟩ : MethodName) (head1 (Jvm.Cond.code (⟨"java/lang/Record", "<init>", "()V"⟩ : MethodName) jdk_30_method_1_code 1 none :: ws) ({ frames := 1, cells := 0, slots := 0, locals := 12 } : Room)) (fun a U => a = #[(.ref o0)] ∧ Z.Warmed39 U.vm ∧ U.heap = h0) (fun _ _ _ _ _ => True) (fun _ U o U' => ∃ v L, o = .returned v ∧ own_rec_Q Z o0 h0 n0 v U'.heap L ∧ FrameEnd U o U' L ({ frames := 1, cells := 0, slots := 0, locals := 12 } : Room).cells ({ frames := 1, cells := 0, slots := 0, locals := 12 } : Room).slots) := by
  refine MetFree.of_bodySF (plainFor_of_name pn_Record) hisR ?_
  intro p e s m args below meth c s₁ Bd hml0 hP hK
  obtain ⟨rfl, hZ, hh⟩ := hP
  have hx := Bd.exec
  have hby := Bd.bytes
  have hml : c.maxLocals = 1 := hml0
  have hown : s.vm.findClass "java/lang/Record" = some m.cls := findClass_of_methodNamed Bd.named
  have hnm := (name_of_methodNamed Bd.named Bd.method).1
  have hlk : meth.locks = false := BodyLoose.notSynchronized Bd
  have hrt := Bd.returns
  have X0 : Stand p l e ({ frames := 1, cells := 0, slots := 0, locals := 12 } : Room) s m #[(.ref o0)] below meth c s₁ [] 0 0 := Stand.of_body Bd
  have e0 : s₁.heap = h0 := by rw [← hh, Bd.state]; rfl
  have N0 := Fr.nil n0
  refine Goes.enter (kc := ({ frames := 1, cells := 0, slots := 0, locals := 12 } : Room).cells) (kn := ({ frames := 1, cells := 0, slots := 0, locals := 12 } : Room).slots) (Q := own_rec_Q Z o0 h0 n0) (own_rec_ef m o0) ?_
  refine Goes.step (B := (s₁.setTop (mkF m 1 #[.val (.ref o0)] [(.ref o0)]))) (fun _ k => XS.aloadN X0.here hx rfl (hb hby d_jdk_30_method_1_code_0) rfl rfl k) ?_
  obtain ⟨T101, X101, e101, st101⟩ := initO X0 hx hZ hown (hw _ (List.mem_of_getElem? (i := 38) rfl)) (hw _ (List.mem_of_getElem? (i := 19) rfl)) (hw _ (List.mem_of_getElem? (i := 20) rfl)) e0 (g := (mkF m 1 #[.val (.ref o0)] [(.ref o0)])) rfl (by rw [hml]; rfl) rfl (hb hby d_jdk_30_method_1_code_1) (by decide) (W := 0) (by show 2 * 0 + _ ≤ _; exact Nat.le_of_eq rfl) (by decide)
  refine Goes.step (B := (T101.setTop (mkF m 4 #[.val (.ref o0)] []))) (fun _ k => st101 _ k) ?_
  refine Goes.retV X101 hx hlk hrt (hb hby d_jdk_30_method_1_code_4) ?_ (by decide) (by decide)
  rw [e101]
  exact ⟨rfl, N0, rfl⟩
theorem d_jdk_22_method_1_code_0 : decode jdk_22_method_1_code 0 = .ok (.aload_n 0, 1) := by decide +kernel
theorem d_jdk_22_method_1_code_1 : decode jdk_22_method_1_code 1 = .ok (.invokespecial 1, 3) := by decide +kernel
theorem d_jdk_22_method_1_code_4 : decode jdk_22_method_1_code 4 = .ok (.return_, 1) := by decide +kernel
def own_acl_Q (Z : State) (o0 : Addr)  (h0 : Heap) (n0 : Nat) (v : Option Value) (h : Heap) (L : List Loc) : Prop := v = none ∧ Fr n0 L ∧ h = h0
theorem own_acl_ef (m : MethodId) (o0 : Addr) : entryFrame m #[(.ref o0)] 1 = mkF m 0 #[.val (.ref o0)] [] := by first | (simp [entryFrame, mkF, argsToLocals, Value.category]; done) | rfl
theorem pn_AbstractCollection : plainName "java/util/AbstractCollection" = true := by first | (simp [plainName, overriddenIn]; done) | decide +kernel
set_option maxRecDepth 65536 in
set_option maxHeartbeats 40000000 in
theorem own_acl_rm (l : Launch) (Z : State) (a0 : Array Value) (hw : ∀ d ∈ tables_1, d.before a0 Z = true) (ws : List Jvm.Cond) (o0 : Addr)  (h0 : Heap) (n0 : Nat) (Z0 : n0 ≤ h0.size)  :
    MetFree l (⟨"java/util/AbstractCollection", "<init>", "()V"⟩ : MethodName) (head1 (Jvm.Cond.code (⟨"java/util/AbstractCollection", "<init>", "()V"⟩ : MethodName) jdk_22_method_1_code 1 none :: ws) ({ frames := 1, cells := 0, slots := 0, locals := 12 } : Room)) (fun a U => a = #[(.ref o0)] ∧ Z.Warmed39 U.vm ∧ U.heap = h0) (fun _ _ _ _ _ => True) (fun _ U o U' => ∃ v L, o = .returned v ∧ own_acl_Q Z o0 h0 n0 v U'.heap L ∧ FrameEnd U o U' L ({ frames := 1, cells := 0, slots := 0, locals := 12 } : Room).cells ({ frames := 1, cells := 0, slots := 0, locals := 12 } : Room).slots) := by
  refine MetFree.of_bodySF (plainFor_of_name pn_AbstractCollection) hisR ?_
  intro p e s m args below meth c s₁ Bd hml0 hP hK
  obtain ⟨rfl, hZ, hh⟩ := hP
  have hx := Bd.exec
  have hby := Bd.bytes
  have hml : c.maxLocals = 1 := hml0
  have hown : s.vm.findClass "java/util/AbstractCollection" = some m.cls := findClass_of_methodNamed Bd.named
  have hnm := (name_of_methodNamed Bd.named Bd.method).1
  have hlk : meth.locks = false := BodyLoose.notSynchronized Bd
  have hrt := Bd.returns
  have X0 : Stand p l e ({ frames := 1, cells := 0, slots := 0, locals := 12 } : Room) s m #[(.ref o0)] below meth c s₁ [] 0 0 := Stand.of_body Bd
  have e0 : s₁.heap = h0 := by rw [← hh, Bd.state]; rfl
  have N0 := Fr.nil n0
  refine Goes.enter (kc := ({ frames := 1, cells := 0, slots := 0, locals := 12 } : Room).cells) (kn := ({ frames := 1, cells := 0, slots := 0, locals := 12 } : Room).slots) (Q := own_acl_Q Z o0 h0 n0) (own_acl_ef m o0) ?_
  refine Goes.step (B := (s₁.setTop (mkF m 1 #[.val (.ref o0)] [(.ref o0)]))) (fun _ k => XS.aloadN X0.here hx rfl (hb hby d_jdk_22_method_1_code_0) rfl rfl k) ?_
  obtain ⟨T101, X101, e101, st101⟩ := initO X0 hx hZ hown (hw _ (List.mem_of_getElem? (i := 18) rfl)) (hw _ (List.mem_of_getElem? (i := 19) rfl)) (hw _ (List.mem_of_getElem? (i := 20) rfl)) e0 (g := (mkF m 1 #[.val (.ref o0)] [(.ref o0)])) rfl (by rw [hml]; rfl) rfl (hb hby d_jdk_22_method_1_code_1) (by decide) (W := 0) (by show 2 * 0 + _ ≤ _; exact Nat.le_of_eq rfl) (by decide)
  refine Goes.step (B := (T101.setTop (mkF m 4 #[.val (.ref o0)] []))) (fun _ k => st101 _ k) ?_
  refine Goes.retV X101 hx hlk hrt (hb hby d_jdk_22_method_1_code_4) ?_ (by decide) (by decide)
  rw [e101]
  exact ⟨rfl, N0, rfl⟩
theorem d_jdk_29_method_65_code_0 : decode jdk_29_method_65_code 0 = .ok (.iload_n 0, 1) := by decide +kernel
theorem d_jdk_29_method_65_code_1 : decode jdk_29_method_65_code 1 = .ok (.iload_n 1, 1) := by decide +kernel
theorem d_jdk_29_method_65_code_2 : decode jdk_29_method_65_code 2 = .ok (.if_icmp .lt 7, 3) := by decide +kernel
theorem d_jdk_29_method_65_code_9 : decode jdk_29_method_65_code 9 = .ok (.iload_n 1, 1) := by decide +kernel
theorem d_jdk_29_method_65_code_10 : decode jdk_29_method_65_code 10 = .ok (.ireturn, 1) := by decide +kernel
theorem d_jdk_29_method_65_code_5 : decode jdk_29_method_65_code 5 = .ok (.iload_n 0, 1) := by decide +kernel
theorem d_jdk_29_method_65_code_6 : decode jdk_29_method_65_code 6 = .ok (.goto 4, 3) := by decide +kernel
def own_max_fn (u0 : Int32) (u1 : Int32) : Int32 := (if u0 < u1 then u1 else u0)
def own_max_Q (Z : State) (u0 : Int32) (u1 : Int32)  (h0 : Heap) (n0 : Nat) (v : Option Value) (h : Heap) (L : List Loc) : Prop := v = some (.int (own_max_fn u0 u1)) ∧ Fr n0 L ∧ h = h0
theorem own_max_ef (m : MethodId) (u0 : Int32) (u1 : Int32) : entryFrame m #[(.int u0), (.int u1)] 2 = mkF m 0 #[.val (.int u0), .val (.int u1)] [] := by first | (simp [entryFrame, mkF, argsToLocals, Value.category]; done) | rfl
set_option maxRecDepth 65536 in
set_option maxHeartbeats 40000000 in
theorem own_max_rm (l : Launch) (Z : State) (a0 : Array Value) (hw : ∀ d ∈ tables_1, d.before a0 Z = true) (ws : List Jvm.Cond) (u0 : Int32) (u1 : Int32)  (h0 : Heap) (n0 : Nat) (Z0 : n0 ≤ h0.size)  :
    MetFree l (⟨"java/lang/Math", "max", "(II)I"⟩ : MethodName) (head1 (Jvm.Cond.code (⟨"java/lang/Math", "max", "(II)I"⟩ : MethodName) jdk_29_method_65_code 2 (some .int) :: ws) ({ frames := 0, cells := 0, slots := 0, locals := 0 } : Room)) (fun a U => a = #[(.int u0), (.int u1)] ∧ Z.Warmed39 U.vm ∧ U.heap = h0) (fun _ _ _ _ _ => True) (fun _ U o U' => ∃ v L, o = .returned v ∧ own_max_Q Z u0 u1 h0 n0 v U'.heap L ∧ FrameEnd U o U' L ({ frames := 0, cells := 0, slots := 0, locals := 0 } : Room).cells ({ frames := 0, cells := 0, slots := 0, locals := 0 } : Room).slots) := by
  refine MetFree.of_bodySF (Jvm.Free.JP.mathPlain rfl (by decide +kernel)) hisR ?_
  intro p e s m args below meth c s₁ Bd hml0 hP hK
  obtain ⟨rfl, hZ, hh⟩ := hP
  have hx := Bd.exec
  have hby := Bd.bytes
  have hml : c.maxLocals = 2 := hml0
  have hown : s.vm.findClass "java/lang/Math" = some m.cls := findClass_of_methodNamed Bd.named
  have hnm := (name_of_methodNamed Bd.named Bd.method).1
  have hlk : meth.locks = false := BodyLoose.notSynchronized Bd
  have hrt := Bd.returns
  have X0 : Stand p l e ({ frames := 0, cells := 0, slots := 0, locals := 0 } : Room) s m #[(.int u0), (.int u1)] below meth c s₁ [] 0 0 := Stand.of_body Bd
  have e0 : s₁.heap = h0 := by rw [← hh, Bd.state]; rfl
  have N0 := Fr.nil n0
  refine Goes.enter (kc := ({ frames := 0, cells := 0, slots := 0, locals := 0 } : Room).cells) (kn := ({ frames := 0, cells := 0, slots := 0, locals := 0 } : Room).slots) (Q := own_max_Q Z u0 u1 h0 n0) (own_max_ef m u0 u1) ?_
  refine Goes.step (B := (s₁.setTop (mkF m 1 #[.val (.int u0), .val (.int u1)] [(.int u0)]))) (fun _ k => XS.iloadN X0.here hx rfl (hb hby d_jdk_29_method_65_code_0) rfl k) ?_
  refine Goes.step (B := (s₁.setTop (mkF m 2 #[.val (.int u0), .val (.int u1)] [(.int u1), (.int u0)]))) (fun _ k => XS.iloadN X0.here hx rfl (hb hby d_jdk_29_method_65_code_1) rfl k) ?_
  by_cases hc101 : u0 < u1
  · refine Goes.step (B := (s₁.setTop (mkF m 9 #[.val (.int u0), .val (.int u1)] []))) (fun _ k => XS.icmpYes X0.here hx rfl (pc0 := 2) (pc' := 9) rfl (hb hby d_jdk_29_method_65_code_2) rfl (tlt hc101).1 (by decide) (by decide) k) ?_
    refine Goes.step (B := (s₁.setTop (mkF m 10 #[.val (.int u0), .val (.int u1)] [(.int u1)]))) (fun _ k => XS.iloadN X0.here hx rfl (hb hby d_jdk_29_method_65_code_9) rfl k) ?_
    refine Goes.retI X0 hx hlk hrt (hb hby d_jdk_29_method_65_code_10) ?_ (by decide) (by decide)
    rw [e0]
    exact ⟨congrArg (fun z => some (Value.int z)) (show u1 = (own_max_fn u0 u1) from (show u1 = u1 from rfl).trans (by simp only [own_max_fn, if_pos hc101])), N0, rfl⟩
  · refine Goes.step (B := (s₁.setTop (mkF m 5 #[.val (.int u0), .val (.int u1)] []))) (fun _ k => XS.icmpNo X0.here hx rfl (hb hby d_jdk_29_method_65_code_2) rfl (flt hc101).1 k) ?_
    refine Goes.step (B := (s₁.setTop (mkF m 6 #[.val (.int u0), .val (.int u1)] [(.int u0)]))) (fun _ k => XS.iloadN X0.here hx rfl (hb hby d_jdk_29_method_65_code_5) rfl k) ?_
    refine Goes.step (B := (s₁.setTop (mkF m 10 #[.val (.int u0), .val (.int u1)] [(.int u0)]))) (fun _ k => XS.goto X0.here hx rfl (pc0 := 6) (pc' := 10) rfl (hb hby d_jdk_29_method_65_code_6) (by decide) (by decide) k) ?_
    refine Goes.retI X0 hx hlk hrt (hb hby d_jdk_29_method_65_code_10) ?_ (by decide) (by decide)
    rw [e0]
    exact ⟨congrArg (fun z => some (Value.int z)) (show u0 = (own_max_fn u0 u1) from (show u0 = u0 from rfl).trans (by simp only [own_max_fn, if_neg hc101])), N0, rfl⟩
theorem d_jdk_39_method_1_code_0 : decode jdk_39_method_1_code 0 = .ok (.aload_n 0, 1) := by decide +kernel
theorem d_jdk_39_method_1_code_1 : decode jdk_39_method_1_code 1 = .ok (.invokespecial 1, 3) := by decide +kernel
theorem pd___V : parseMethodDescriptor "()V" = some ⟨[], none⟩ := by decide +kernel
theorem d_jdk_39_method_1_code_4 : decode jdk_39_method_1_code 4 = .ok (.aload_n 0, 1) := by decide +kernel
theorem d_jdk_39_method_1_code_5 : decode jdk_39_method_1_code 5 = .ok (.iconst 0, 1) := by decide +kernel
theorem d_jdk_39_method_1_code_6 : decode jdk_39_method_1_code 6 = .ok (.putfield 7, 3) := by decide +kernel
theorem d_jdk_39_method_1_code_9 : decode jdk_39_method_1_code 9 = .ok (.return_, 1) := by decide +kernel
def own_abl_Q (Z : State) (o0 : Addr)  (h0 : Heap) (n0 : Nat) (v : Option Value) (h : Heap) (L : List Loc) : Prop := (v = none) ∧ (Fr n0 L) ∧ (Keep h0 h [o0]) ∧ (Exa Z h o0 "java/util/ArrayList") ∧ (Fld Z h o0 "java/util/AbstractList" "modCount" "I" (.int (0 : Int32)))
theorem own_abl_ef (m : MethodId) (o0 : Addr) : entryFrame m #[(.ref o0)] 1 = mkF m 0 #[.val (.ref o0)] [] := by first | (simp [entryFrame, mkF, argsToLocals, Value.category]; done) | rfl
theorem pn_AbstractList : plainName "java/util/AbstractList" = true := by first | (simp [plainName, overriddenIn]; done) | decide +kernel
set_option maxRecDepth 65536 in
set_option maxHeartbeats 40000000 in
theorem own_abl_rm (l : Launch) (Z : State) (a0 : Array Value) (hw : ∀ d ∈ tables_1, d.before a0 Z = true) (ws : List Jvm.Cond) (o0 : Addr)  (h0 : Heap) (n0 : Nat) (Z0 : n0 ≤ h0.size) (pr0 : Exa Z h0 o0 "java/util/ArrayList") (pr1 : Fld Z h0 o0 "java/util/AbstractList" "modCount" "I" (.int (0 : Int32))) (pr2 : n0 ≤ o0) :
    MetFree l (⟨"java/util/AbstractList", "<init>", "()V"⟩ : MethodName) (head1 (Jvm.Cond.code (⟨"java/util/AbstractList", "<init>", "()V"⟩ : MethodName) jdk_39_method_1_code 1 none :: ws) ({ frames := 2, cells := 0, slots := 0, locals := 24 } : Room)) (fun a U => a = #[(.ref o0)] ∧ Z.Warmed39 U.vm ∧ U.heap = h0) (fun _ _ _ _ _ => True) (fun _ U o U' => ∃ v L, o = .returned v ∧ own_abl_Q Z o0 h0 n0 v U'.heap L ∧ FrameEnd U o U' L ({ frames := 2, cells := 0, slots := 0, locals := 24 } : Room).cells ({ frames := 2, cells := 0, slots := 0, locals := 24 } : Room).slots) := by
  refine MetFree.of_bodySF (plainFor_of_name pn_AbstractList) hisR ?_
  intro p e s m args below meth c s₁ Bd hml0 hP hK
  obtain ⟨rfl, hZ, hh⟩ := hP
  have hx := Bd.exec
  have hby := Bd.bytes
  have hml : c.maxLocals = 1 := hml0
  have hown : s.vm.findClass "java/util/AbstractList" = some m.cls := findClass_of_methodNamed Bd.named
  have hnm := (name_of_methodNamed Bd.named Bd.method).1
  have hlk : meth.locks = false := BodyLoose.notSynchronized Bd
  have hrt := Bd.returns
  have X0 : Stand p l e ({ frames := 2, cells := 0, slots := 0, locals := 24 } : Room) s m #[(.ref o0)] below meth c s₁ [] 0 0 := Stand.of_body Bd
  have e0 : s₁.heap = h0 := by rw [← hh, Bd.state]; rfl
  have N0 := Fr.nil n0
  refine Goes.enter (kc := ({ frames := 2, cells := 0, slots := 0, locals := 24 } : Room).cells) (kn := ({ frames := 2, cells := 0, slots := 0, locals := 24 } : Room).slots) (Q := own_abl_Q Z o0 h0 n0) (own_abl_ef m o0) ?_
  refine Goes.step (B := (s₁.setTop (mkF m 1 #[.val (.ref o0)] [(.ref o0)]))) (fun _ k => XS.aloadN X0.here hx rfl (hb hby d_jdk_39_method_1_code_0) rfl rfl k) ?_
  obtain ⟨_, _, ⟨T101, L101, k101, n101⟩, -, X101, ⟨Lc101, hQ101, l101, y101, z101⟩, st101⟩ := X0.specialBack hx (y := (⟨"java/util/AbstractCollection", "<init>", "()V"⟩ : MethodName)) rfl hown (mvT hZ (hw _ (List.mem_of_getElem? (i := 12) rfl))) (mvT hZ (hw _ (List.mem_of_getElem? (i := 13) rfl))) (mvT hZ (hw _ (List.mem_of_getElem? (i := 17) rfl))) (by decide) (backOf (W := 0) (own_acl_rm l Z a0 hw [] o0  h0 n0 Z0 ) hZ (hw _ (List.mem_of_getElem? (i := 17) rfl)) (hw _ (List.mem_of_getElem? (i := 16) rfl)) (by decide) (by decide)) (g := (mkF m 1 #[.val (.ref o0)] [(.ref o0)])) rfl (by rw [hml]; rfl) (Steps.refl _) (a := o0) (argsL := []) (rest := []) (lenOf pd___V rfl) rfl (by show 2 * 0 + _ ≤ _; exact Nat.le_of_eq rfl) (hb hby d_jdk_39_method_1_code_1) (fun _ _ => ⟨rfl, e0, (by decide : 0 + 0 ≤ _), (by decide : 0 + 0 ≤ _)⟩)
  dsimp only [Pt.U, Pt.locs, Pt.cells, Pt.slots] at X101 l101 y101 z101 st101 hQ101
  subst l101 y101 z101
  obtain ⟨rfl, N101q, e101⟩ := hQ101
  have N101 := Fr.app N0 N101q
  refine Goes.to (B := (T101.setTop (mkF m 4 #[.val (.ref o0)] []))) st101 ?_
  refine Goes.step (B := (T101.setTop (mkF m 5 #[.val (.ref o0)] [(.ref o0)]))) (fun _ k => XS.aloadN X101.here hx rfl (hb hby d_jdk_39_method_1_code_4) rfl rfl k) ?_
  refine Goes.step (B := (T101.setTop (mkF m 6 #[.val (.ref o0)] [(.int (0 : Int32)), (.ref o0)]))) (fun _ k => XS.iconst X101.here hx rfl (hb hby d_jdk_39_method_1_code_5) k) ?_
  obtain ⟨T102, h102, X102, e102, W102, st102⟩ := putF X101 hx hZ hown (host := "") (Or.inl (hw _ (List.mem_of_getElem? (i := 21) rfl))) Via.refl e101 pr1 pr0 (Or.inl (hw _ (List.mem_of_getElem? (i := 22) rfl))) (hw _ (List.mem_of_getElem? (i := 1) rfl)) (ty := .int) (by decide) rfl rfl (g := (mkF m 6 #[.val (.ref o0)] [(.int (0 : Int32)), (.ref o0)])) rfl rfl (hb hby d_jdk_39_method_1_code_6)
  have f103 := pr0.wr W102
  have N102 := Fr.snoc X102 N101 pr2
  have K102 : Keep h0 h102 [o0] := (Keep.refl h0 [o0]).wr W102 (Or.inl (List.mem_of_getElem? (i := 0) rfl))
  have Z102 : n0 ≤ h102.size := Nat.le_trans Z0 (Nat.le_of_eq W102.size.symm)
  have f104 : Fld Z h102 o0 "java/util/AbstractList" "modCount" "I" (.int (0 : Int32)) := pr1.same W102
  refine Goes.step (B := (T102.setTop (mkF m 9 #[.val (.ref o0)] []))) (fun _ k => st102 _ k) ?_
  refine Goes.retV X102 hx hlk hrt (hb hby d_jdk_39_method_1_code_9) ?_ (by decide) (by decide)
  rw [e102]
  exact ⟨rfl, N102, K102, f103, f104⟩
def own_abl3_Q (Z : State) (o0 : Addr)  (h0 : Heap) (n0 : Nat) (v : Option Value) (h : Heap) (L : List Loc) : Prop := (v = none) ∧ (Fr n0 L) ∧ (Keep h0 h [o0]) ∧ (Exa Z h o0 "java/util/ArrayList") ∧ (Fld Z h o0 "java/util/AbstractList" "modCount" "I" (.int (0 : Int32))) ∧ (Fld Z h o0 "java/util/ArrayList" "elementData" "[Ljava/lang/Object;" .null) ∧ (Fld Z h o0 "java/util/ArrayList" "size" "I" (.int (0 : Int32)))
theorem own_abl3_ef (m : MethodId) (o0 : Addr) : entryFrame m #[(.ref o0)] 1 = mkF m 0 #[.val (.ref o0)] [] := by first | (simp [entryFrame, mkF, argsToLocals, Value.category]; done) | rfl
set_option maxRecDepth 65536 in
set_option maxHeartbeats 40000000 in
theorem own_abl3_rm (l : Launch) (Z : State) (a0 : Array Value) (hw : ∀ d ∈ tables_1, d.before a0 Z = true) (ws : List Jvm.Cond) (o0 : Addr)  (h0 : Heap) (n0 : Nat) (Z0 : n0 ≤ h0.size) (pr0 : Exa Z h0 o0 "java/util/ArrayList") (pr1 : Fld Z h0 o0 "java/util/AbstractList" "modCount" "I" (.int (0 : Int32))) (pr2 : Fld Z h0 o0 "java/util/ArrayList" "elementData" "[Ljava/lang/Object;" .null) (pr3 : Fld Z h0 o0 "java/util/ArrayList" "size" "I" (.int (0 : Int32))) (pr4 : n0 ≤ o0) :
    MetFree l (⟨"java/util/AbstractList", "<init>", "()V"⟩ : MethodName) (head1 (Jvm.Cond.code (⟨"java/util/AbstractList", "<init>", "()V"⟩ : MethodName) jdk_39_method_1_code 1 none :: ws) ({ frames := 2, cells := 0, slots := 0, locals := 24 } : Room)) (fun a U => a = #[(.ref o0)] ∧ Z.Warmed39 U.vm ∧ U.heap = h0) (fun _ _ _ _ _ => True) (fun _ U o U' => ∃ v L, o = .returned v ∧ own_abl3_Q Z o0 h0 n0 v U'.heap L ∧ FrameEnd U o U' L ({ frames := 2, cells := 0, slots := 0, locals := 24 } : Room).cells ({ frames := 2, cells := 0, slots := 0, locals := 24 } : Room).slots) := by
  refine MetFree.of_bodySF (plainFor_of_name pn_AbstractList) hisR ?_
  intro p e s m args below meth c s₁ Bd hml0 hP hK
  obtain ⟨rfl, hZ, hh⟩ := hP
  have hx := Bd.exec
  have hby := Bd.bytes
  have hml : c.maxLocals = 1 := hml0
  have hown : s.vm.findClass "java/util/AbstractList" = some m.cls := findClass_of_methodNamed Bd.named
  have hnm := (name_of_methodNamed Bd.named Bd.method).1
  have hlk : meth.locks = false := BodyLoose.notSynchronized Bd
  have hrt := Bd.returns
  have X0 : Stand p l e ({ frames := 2, cells := 0, slots := 0, locals := 24 } : Room) s m #[(.ref o0)] below meth c s₁ [] 0 0 := Stand.of_body Bd
  have e0 : s₁.heap = h0 := by rw [← hh, Bd.state]; rfl
  have N0 := Fr.nil n0
  refine Goes.enter (kc := ({ frames := 2, cells := 0, slots := 0, locals := 24 } : Room).cells) (kn := ({ frames := 2, cells := 0, slots := 0, locals := 24 } : Room).slots) (Q := own_abl3_Q Z o0 h0 n0) (own_abl3_ef m o0) ?_
  refine Goes.step (B := (s₁.setTop (mkF m 1 #[.val (.ref o0)] [(.ref o0)]))) (fun _ k => XS.aloadN X0.here hx rfl (hb hby d_jdk_39_method_1_code_0) rfl rfl k) ?_
  obtain ⟨_, _, ⟨T101, L101, k101, n101⟩, -, X101, ⟨Lc101, hQ101, l101, y101, z101⟩, st101⟩ := X0.specialBack hx (y := (⟨"java/util/AbstractCollection", "<init>", "()V"⟩ : MethodName)) rfl hown (mvT hZ (hw _ (List.mem_of_getElem? (i := 12) rfl))) (mvT hZ (hw _ (List.mem_of_getElem? (i := 13) rfl))) (mvT hZ (hw _ (List.mem_of_getElem? (i := 17) rfl))) (by decide) (backOf (W := 0) (own_acl_rm l Z a0 hw [] o0  h0 n0 Z0 ) hZ (hw _ (List.mem_of_getElem? (i := 17) rfl)) (hw _ (List.mem_of_getElem? (i := 16) rfl)) (by decide) (by decide)) (g := (mkF m 1 #[.val (.ref o0)] [(.ref o0)])) rfl (by rw [hml]; rfl) (Steps.refl _) (a := o0) (argsL := []) (rest := []) (lenOf pd___V rfl) rfl (by show 2 * 0 + _ ≤ _; exact Nat.le_of_eq rfl) (hb hby d_jdk_39_method_1_code_1) (fun _ _ => ⟨rfl, e0, (by decide : 0 + 0 ≤ _), (by decide : 0 + 0 ≤ _)⟩)
  dsimp only [Pt.U, Pt.locs, Pt.cells, Pt.slots] at X101 l101 y101 z101 st101 hQ101
  subst l101 y101 z101
  obtain ⟨rfl, N101q, e101⟩ := hQ101
  have N101 := Fr.app N0 N101q
  refine Goes.to (B := (T101.setTop (mkF m 4 #[.val (.ref o0)] []))) st101 ?_
  refine Goes.step (B := (T101.setTop (mkF m 5 #[.val (.ref o0)] [(.ref o0)]))) (fun _ k => XS.aloadN X101.here hx rfl (hb hby d_jdk_39_method_1_code_4) rfl rfl k) ?_
  refine Goes.step (B := (T101.setTop (mkF m 6 #[.val (.ref o0)] [(.int (0 : Int32)), (.ref o0)]))) (fun _ k => XS.iconst X101.here hx rfl (hb hby d_jdk_39_method_1_code_5) k) ?_
  obtain ⟨T102, h102, X102, e102, W102, st102⟩ := putF X101 hx hZ hown (host := "") (Or.inl (hw _ (List.mem_of_getElem? (i := 21) rfl))) Via.refl e101 pr1 pr0 (Or.inl (hw _ (List.mem_of_getElem? (i := 22) rfl))) (hw _ (List.mem_of_getElem? (i := 1) rfl)) (ty := .int) (by decide) rfl rfl (g := (mkF m 6 #[.val (.ref o0)] [(.int (0 : Int32)), (.ref o0)])) rfl rfl (hb hby d_jdk_39_method_1_code_6)
  have f103 := pr0.wr W102
  have f104 := pr2.other W102 (Or.inr (slot_ne (Or.inl (hw _ (List.mem_of_getElem? (i := 25) rfl))) (Or.inl (hw _ (List.mem_of_getElem? (i := 22) rfl))) (by decide) (t := (.array (.object "java/lang/Object"))) (t' := .int) (by decide) (by decide)))
  have f105 := pr3.other W102 (Or.inr (slot_ne (Or.inl (hw _ (List.mem_of_getElem? (i := 55) rfl))) (Or.inl (hw _ (List.mem_of_getElem? (i := 22) rfl))) (by decide) (t := .int) (t' := .int) (by decide) (by decide)))
  have N102 := Fr.snoc X102 N101 pr4
  have K102 : Keep h0 h102 [o0] := (Keep.refl h0 [o0]).wr W102 (Or.inl (List.mem_of_getElem? (i := 0) rfl))
  have Z102 : n0 ≤ h102.size := Nat.le_trans Z0 (Nat.le_of_eq W102.size.symm)
  have f106 : Fld Z h102 o0 "java/util/AbstractList" "modCount" "I" (.int (0 : Int32)) := pr1.same W102
  refine Goes.step (B := (T102.setTop (mkF m 9 #[.val (.ref o0)] []))) (fun _ k => st102 _ k) ?_
  refine Goes.retV X102 hx hlk hrt (hb hby d_jdk_39_method_1_code_9) ?_ (by decide) (by decide)
  rw [e102]
  exact ⟨rfl, N102, K102, f103, f106, f104, f105⟩
theorem d_jdk_38_method_2_code_0 : decode jdk_38_method_2_code 0 = .ok (.aload_n 0, 1) := by decide +kernel
theorem d_jdk_38_method_2_code_1 : decode jdk_38_method_2_code 1 = .ok (.invokespecial 1, 3) := by decide +kernel
theorem d_jdk_38_method_2_code_4 : decode jdk_38_method_2_code 4 = .ok (.aload_n 0, 1) := by decide +kernel
theorem d_jdk_38_method_2_code_5 : decode jdk_38_method_2_code 5 = .ok (.getstatic 39, 3) := by decide +kernel
theorem d_jdk_38_method_2_code_8 : decode jdk_38_method_2_code 8 = .ok (.putfield 9, 3) := by decide +kernel
theorem d_jdk_38_method_2_code_11 : decode jdk_38_method_2_code 11 = .ok (.return_, 1) := by decide +kernel
def own_in_Q (Z : State) (o0 : Addr) (d0 : Addr) (h0 : Heap) (n0 : Nat) (v : Option Value) (h : Heap) (L : List Loc) : Prop := (v = none) ∧ (Fr n0 L) ∧ (Keep h0 h [o0]) ∧ (Exa Z h o0 "java/util/ArrayList") ∧ (Fld Z h o0 "java/util/AbstractList" "modCount" "I" (.int (0 : Int32))) ∧ (Fld Z h o0 "java/util/ArrayList" "elementData" "[Ljava/lang/Object;" (.ref d0)) ∧ (Fld Z h o0 "java/util/ArrayList" "size" "I" (.int (0 : Int32)))
theorem own_in_ef (m : MethodId) (o0 : Addr) : entryFrame m #[(.ref o0)] 1 = mkF m 0 #[.val (.ref o0)] [] := by first | (simp [entryFrame, mkF, argsToLocals, Value.category]; done) | rfl
theorem pn_ArrayList : plainName "java/util/ArrayList" = true := by first | (simp [plainName, overriddenIn]; done) | decide +kernel
set_option maxRecDepth 65536 in
set_option maxHeartbeats 40000000 in
theorem own_in_rm (l : Launch) (Z : State) (a0 : Array Value) (hw : ∀ d ∈ tables_1, d.before a0 Z = true) (ws : List Jvm.Cond) (o0 : Addr) (d0 : Addr) (h0 : Heap) (n0 : Nat) (Z0 : n0 ≤ h0.size) (pr0 : Exa Z h0 o0 "java/util/ArrayList") (pr1 : Fld Z h0 o0 "java/util/AbstractList" "modCount" "I" (.int (0 : Int32))) (pr2 : Fld Z h0 o0 "java/util/ArrayList" "elementData" "[Ljava/lang/Object;" .null) (pr3 : Fld Z h0 o0 "java/util/ArrayList" "size" "I" (.int (0 : Int32))) (pr4 : Sta Z h0 "java/util/ArrayList" "DEFAULTCAPACITY_EMPTY_ELEMENTDATA" "[Ljava/lang/Object;" (.ref d0)) (pr5 : n0 ≤ o0) :
    MetFree l (⟨"java/util/ArrayList", "<init>", "()V"⟩ : MethodName) (head1 (Jvm.Cond.code (⟨"java/util/ArrayList", "<init>", "()V"⟩ : MethodName) jdk_38_method_2_code 1 none :: ws) ({ frames := 3, cells := 0, slots := 0, locals := 36 } : Room)) (fun a U => a = #[(.ref o0)] ∧ Z.Warmed39 U.vm ∧ U.heap = h0) (fun _ _ _ _ _ => True) (fun _ U o U' => ∃ v L, o = .returned v ∧ own_in_Q Z o0 d0 h0 n0 v U'.heap L ∧ FrameEnd U o U' L ({ frames := 3, cells := 0, slots := 0, locals := 36 } : Room).cells ({ frames := 3, cells := 0, slots := 0, locals := 36 } : Room).slots) := by
  refine MetFree.of_bodySF (plainFor_of_name pn_ArrayList) hisR ?_
  intro p e s m args below meth c s₁ Bd hml0 hP hK
  obtain ⟨rfl, hZ, hh⟩ := hP
  have hx := Bd.exec
  have hby := Bd.bytes
  have hml : c.maxLocals = 1 := hml0
  have hown : s.vm.findClass "java/util/ArrayList" = some m.cls := findClass_of_methodNamed Bd.named
  have hnm := (name_of_methodNamed Bd.named Bd.method).1
  have hlk : meth.locks = false := BodyLoose.notSynchronized Bd
  have hrt := Bd.returns
  have X0 : Stand p l e ({ frames := 3, cells := 0, slots := 0, locals := 36 } : Room) s m #[(.ref o0)] below meth c s₁ [] 0 0 := Stand.of_body Bd
  have e0 : s₁.heap = h0 := by rw [← hh, Bd.state]; rfl
  have N0 := Fr.nil n0
  refine Goes.enter (kc := ({ frames := 3, cells := 0, slots := 0, locals := 36 } : Room).cells) (kn := ({ frames := 3, cells := 0, slots := 0, locals := 36 } : Room).slots) (Q := own_in_Q Z o0 d0 h0 n0) (own_in_ef m o0) ?_
  refine Goes.step (B := (s₁.setTop (mkF m 1 #[.val (.ref o0)] [(.ref o0)]))) (fun _ k => XS.aloadN X0.here hx rfl (hb hby d_jdk_38_method_2_code_0) rfl rfl k) ?_
  obtain ⟨_, _, ⟨T101, L101, k101, n101⟩, -, X101, ⟨Lc101, hQ101, l101, y101, z101⟩, st101⟩ := X0.specialBack hx (y := (⟨"java/util/AbstractList", "<init>", "()V"⟩ : MethodName)) rfl hown (mvT hZ (hw _ (List.mem_of_getElem? (i := 6) rfl))) (mvT hZ (hw _ (List.mem_of_getElem? (i := 7) rfl))) (mvT hZ (hw _ (List.mem_of_getElem? (i := 11) rfl))) (by decide) (backOf (W := 0) (own_abl3_rm l Z a0 hw [] o0  h0 n0 Z0 pr0 pr1 pr2 pr3 pr5) hZ (hw _ (List.mem_of_getElem? (i := 11) rfl)) (hw _ (List.mem_of_getElem? (i := 10) rfl)) (by decide) (by decide)) (g := (mkF m 1 #[.val (.ref o0)] [(.ref o0)])) rfl (by rw [hml]; rfl) (Steps.refl _) (a := o0) (argsL := []) (rest := []) (lenOf pd___V rfl) rfl (by show 2 * 0 + _ ≤ _; exact Nat.le_of_eq rfl) (hb hby d_jdk_38_method_2_code_1) (fun _ _ => ⟨rfl, e0, (by decide : 0 + 0 ≤ _), (by decide : 0 + 0 ≤ _)⟩)
  dsimp only [Pt.U, Pt.locs, Pt.cells, Pt.slots] at X101 l101 y101 z101 st101 hQ101
  subst l101 y101 z101
  obtain ⟨rfl, N101q, K101q, p101_0, p101_1, p101_2, p101_3⟩ := hQ101
  have N101 := Fr.app N0 N101q
  have f102 := pr0.keep K101q
  have f103 := pr4.keepN K101q (fun y q => by cases List.mem_singleton.mp q; exact pr0.plainN)
  have K101 : Keep h0 T101.heap [o0] := Keep.trans (Keep.refl h0 [o0]) K101q (fun y q => by cases List.mem_singleton.mp q; exact (Or.inl (List.mem_of_getElem? (i := 0) rfl)))
  have Z101 : n0 ≤ T101.heap.size := Nat.le_trans Z0 K101q.1
  refine Goes.to (B := (T101.setTop (mkF m 4 #[.val (.ref o0)] []))) st101 ?_
  refine Goes.step (B := (T101.setTop (mkF m 5 #[.val (.ref o0)] [(.ref o0)]))) (fun _ k => XS.aloadN X101.here hx rfl (hb hby d_jdk_38_method_2_code_4) rfl rfl k) ?_
  obtain ⟨T104, X104, e104, st104⟩ := getS2 X101 hx hZ hown (host := "") (Or.inl (hw _ (List.mem_of_getElem? (i := 23) rfl))) Via.refl rfl f103 (g := (mkF m 5 #[.val (.ref o0)] [(.ref o0)])) rfl (hb hby d_jdk_38_method_2_code_5)
  refine Goes.step (B := (T104.setTop (mkF m 8 #[.val (.ref o0)] [(.ref d0), (.ref o0)]))) (fun _ k => st104 _ k) ?_
  obtain ⟨T105, h105, X105, e105, W105, st105⟩ := putF X104 hx hZ hown (host := "") (Or.inl (hw _ (List.mem_of_getElem? (i := 24) rfl))) Via.refl e104 p101_2 p101_0 (Or.inl (hw _ (List.mem_of_getElem? (i := 25) rfl))) (hw _ (List.mem_of_getElem? (i := 1) rfl)) (ty := (.array (.object "java/lang/Object"))) (by decide) rfl rfl (g := (mkF m 8 #[.val (.ref o0)] [(.ref d0), (.ref o0)])) rfl rfl (hb hby d_jdk_38_method_2_code_8)
  have f106 := p101_0.wr W105
  have f107 := f103.wr W105
  have f108 := p101_1.other W105 (Or.inr (slot_ne (Or.inl (hw _ (List.mem_of_getElem? (i := 22) rfl))) (Or.inl (hw _ (List.mem_of_getElem? (i := 25) rfl))) (by decide) (t := .int) (t' := (.array (.object "java/lang/Object"))) (by decide) (by decide)))
  have f109 := p101_3.other W105 (Or.inr (slot_ne (Or.inl (hw _ (List.mem_of_getElem? (i := 55) rfl))) (Or.inl (hw _ (List.mem_of_getElem? (i := 25) rfl))) (by decide) (t := .int) (t' := (.array (.object "java/lang/Object"))) (by decide) (by decide)))
  have N105 := Fr.snoc X105 N101 pr5
  have K105 : Keep h0 h105 [o0] := K101.wr W105 (Or.inl (List.mem_of_getElem? (i := 0) rfl))
  have Z105 : n0 ≤ h105.size := Nat.le_trans Z101 (Nat.le_of_eq W105.size.symm)
  have f110 : Fld Z h105 o0 "java/util/ArrayList" "elementData" "[Ljava/lang/Object;" (.ref d0) := p101_2.same W105
  refine Goes.step (B := (T105.setTop (mkF m 11 #[.val (.ref o0)] []))) (fun _ k => st105 _ k) ?_
  refine Goes.retV X105 hx hlk hrt (hb hby d_jdk_38_method_2_code_11) ?_ (by decide) (by decide)
  rw [e105]
  exact ⟨rfl, N105, K105, f106, f108, f110, f109⟩
theorem d_jdk_38_method_6_code_0 : decode jdk_38_method_6_code 0 = .ok (.aload_n 0, 1) := by decide +kernel
theorem d_jdk_38_method_6_code_1 : decode jdk_38_method_6_code 1 = .ok (.getfield 9, 3) := by decide +kernel
theorem d_jdk_38_method_6_code_4 : decode jdk_38_method_6_code 4 = .ok (.arraylength, 1) := by decide +kernel
theorem d_jdk_38_method_6_code_5 : decode jdk_38_method_6_code 5 = .ok (.istore_n 2, 1) := by decide +kernel
theorem d_jdk_38_method_6_code_6 : decode jdk_38_method_6_code 6 = .ok (.iload_n 2, 1) := by decide +kernel
theorem d_jdk_38_method_6_code_7 : decode jdk_38_method_6_code 7 = .ok (.ifCond .gt 13, 3) := by decide +kernel
theorem d_jdk_38_method_6_code_10 : decode jdk_38_method_6_code 10 = .ok (.aload_n 0, 1) := by decide +kernel
theorem d_jdk_38_method_6_code_11 : decode jdk_38_method_6_code 11 = .ok (.getfield 9, 3) := by decide +kernel
theorem d_jdk_38_method_6_code_14 : decode jdk_38_method_6_code 14 = .ok (.getstatic 39, 3) := by decide +kernel
theorem d_jdk_38_method_6_code_17 : decode jdk_38_method_6_code 17 = .ok (.if_acmp .eq 28, 3) := by decide +kernel
theorem d_jdk_38_method_6_code_45 : decode jdk_38_method_6_code 45 = .ok (.aload_n 0, 1) := by decide +kernel
theorem d_jdk_38_method_6_code_46 : decode jdk_38_method_6_code 46 = .ok (.bipush 10, 2) := by decide +kernel
theorem d_jdk_38_method_6_code_48 : decode jdk_38_method_6_code 48 = .ok (.iload_n 1, 1) := by decide +kernel
theorem d_jdk_38_method_6_code_49 : decode jdk_38_method_6_code 49 = .ok (.invokestatic 79, 3) := by decide +kernel
theorem pd__II_I : parseMethodDescriptor "(II)I" = some ⟨[.int, .int], some .int⟩ := by decide +kernel
theorem d_jdk_38_method_6_code_52 : decode jdk_38_method_6_code 52 = .ok (.anewarray 7, 3) := by decide +kernel
theorem d_jdk_38_method_6_code_55 : decode jdk_38_method_6_code 55 = .ok (.dup_x1, 1) := by decide +kernel
theorem d_jdk_38_method_6_code_56 : decode jdk_38_method_6_code 56 = .ok (.putfield 9, 3) := by decide +kernel
theorem d_jdk_38_method_6_code_59 : decode jdk_38_method_6_code 59 = .ok (.areturn, 1) := by decide +kernel
def own_gr1_Q (Z : State) (o0 : Addr) (d0 : Addr) (kd : ClassId) (h0 : Heap) (n0 : Nat) (v : Option Value) (h : Heap) (L : List Loc) : Prop := ∃ (b : Addr), ∃ (k1 : ClassId), (v = some (.ref b)) ∧ (Fr n0 L) ∧ (Keep h0 h [o0]) ∧ (n0 ≤ b) ∧ (h0.size ≤ b) ∧ (Exa Z h o0 "java/util/ArrayList") ∧ (Fld Z h o0 "java/util/ArrayList" "size" "I" (.int (0 : Int32))) ∧ (Arv Z h b k1 (.object "java/lang/Object") (own_max_fn (10 : Int32) (1 : Int32)) [] .null) ∧ (Ovr Z k1 "java/lang/Object") ∧ (b ≠ o0)
theorem own_gr1_ef (m : MethodId) (o0 : Addr) : entryFrame m #[(.ref o0), (.int (1 : Int32))] 4 = mkF m 0 #[.val (.ref o0), .val (.int (1 : Int32)), .unset, .unset] [] := by first | (simp [entryFrame, mkF, argsToLocals, Value.category]; done) | rfl
set_option maxRecDepth 65536 in
set_option maxHeartbeats 40000000 in
theorem own_gr1_rm (l : Launch) (Z : State) (a0 : Array Value) (hw : ∀ d ∈ tables_1, d.before a0 Z = true) (ws : List Jvm.Cond) (o0 : Addr) (d0 : Addr) (kd : ClassId) (h0 : Heap) (n0 : Nat) (Z0 : n0 ≤ h0.size) (pr0 : Exa Z h0 o0 "java/util/ArrayList") (pr1 : Fld Z h0 o0 "java/util/ArrayList" "elementData" "[Ljava/lang/Object;" (.ref d0)) (pr2 : Fld Z h0 o0 "java/util/ArrayList" "size" "I" (.int (0 : Int32))) (pr3 : Sta Z h0 "java/util/ArrayList" "DEFAULTCAPACITY_EMPTY_ELEMENTDATA" "[Ljava/lang/Object;" (.ref d0)) (pr4 : Arv Z h0 d0 kd (.object "java/lang/Object") (0 : Int32) [] .null) (pr5 : n0 ≤ o0) (pr6 : d0 ≠ o0) :
    MetFree l (⟨"java/util/ArrayList", "grow", "(I)[Ljava/lang/Object;"⟩ : MethodName) (head1 (Jvm.Cond.code (⟨"java/util/ArrayList", "grow", "(I)[Ljava/lang/Object;"⟩ : MethodName) jdk_38_method_6_code 4 (some (.array (.object "java/lang/Object"))) :: ws) ({ frames := 1, cells := 1, slots := 10, locals := 14 } : Room)) (fun a U => a = #[(.ref o0), (.int (1 : Int32))] ∧ Z.Warmed39 U.vm ∧ U.heap = h0) (fun _ _ _ _ _ => True) (fun _ U o U' => ∃ v L, o = .returned v ∧ own_gr1_Q Z o0 d0 kd h0 n0 v U'.heap L ∧ FrameEnd U o U' L ({ frames := 1, cells := 1, slots := 10, locals := 14 } : Room).cells ({ frames := 1, cells := 1, slots := 10, locals := 14 } : Room).slots) := by
  refine MetFree.of_bodySF (plainFor_of_name pn_ArrayList) hisR ?_
  intro p e s m args below meth c s₁ Bd hml0 hP hK
  obtain ⟨rfl, hZ, hh⟩ := hP
  have hx := Bd.exec
  have hby := Bd.bytes
  have hml : c.maxLocals = 4 := hml0
  have hown : s.vm.findClass "java/util/ArrayList" = some m.cls := findClass_of_methodNamed Bd.named
  have hnm := (name_of_methodNamed Bd.named Bd.method).1
  have hlk : meth.locks = false := BodyLoose.notSynchronized Bd
  have hrt := Bd.returns
  have X0 : Stand p l e ({ frames := 1, cells := 1, slots := 10, locals := 14 } : Room) s m #[(.ref o0), (.int (1 : Int32))] below meth c s₁ [] 0 0 := Stand.of_body Bd
  have e0 : s₁.heap = h0 := by rw [← hh, Bd.state]; rfl
  have N0 := Fr.nil n0
  refine Goes.enter (kc := ({ frames := 1, cells := 1, slots := 10, locals := 14 } : Room).cells) (kn := ({ frames := 1, cells := 1, slots := 10, locals := 14 } : Room).slots) (Q := own_gr1_Q Z o0 d0 kd h0 n0) (own_gr1_ef m o0) ?_
  refine Goes.step (B := (s₁.setTop (mkF m 1 #[.val (.ref o0), .val (.int (1 : Int32)), .unset, .unset] [(.ref o0)]))) (fun _ k => XS.aloadN X0.here hx rfl (hb hby d_jdk_38_method_6_code_0) rfl rfl k) ?_
  obtain ⟨T101, X101, e101, st101⟩ := getF X0 hx hZ hown (host := "") (Or.inl (hw _ (List.mem_of_getElem? (i := 24) rfl))) Via.refl e0 pr1 (g := (mkF m 1 #[.val (.ref o0), .val (.int (1 : Int32)), .unset, .unset] [(.ref o0)])) rfl rfl (hb hby d_jdk_38_method_6_code_1)
  refine Goes.step (B := (T101.setTop (mkF m 4 #[.val (.ref o0), .val (.int (1 : Int32)), .unset, .unset] [(.ref d0)]))) (fun _ k => st101 _ k) ?_
  obtain ⟨cl102, Ar102, q102, S102, M102, H102, G102⟩ := id pr4
  refine Goes.step (B := (T101.setTop (mkF m 5 #[.val (.ref o0), .val (.int (1 : Int32)), .unset, .unset] [(.int (0 : Int32))]))) (fun _ k => X101.arraylength hx (by rw [e101]; exact Ar102.1) (State.isArrayOf_alike hZ.alike Ar102.2.1) (g := (mkF m 4 #[.val (.ref o0), .val (.int (1 : Int32)), .unset, .unset] [(.ref d0)])) rfl rfl (hb hby d_jdk_38_method_6_code_4) _ (by rw [len_of S102 M102]; exact k)) ?_
  refine Goes.step (B := (T101.setTop (mkF m 6 #[.val (.ref o0), .val (.int (1 : Int32)), .val (.int (0 : Int32)), .unset] []))) (fun _ k => XS.istoreN X101.here hx rfl (hb hby d_jdk_38_method_6_code_5) rfl (l' := #[.val (.ref o0), .val (.int (1 : Int32)), .val (.int (0 : Int32)), .unset]) rfl k) ?_
  refine Goes.step (B := (T101.setTop (mkF m 7 #[.val (.ref o0), .val (.int (1 : Int32)), .val (.int (0 : Int32)), .unset] [(.int (0 : Int32))]))) (fun _ k => XS.iloadN X101.here hx rfl (hb hby d_jdk_38_method_6_code_6) rfl k) ?_
  have hc103 : ¬ ((0 : Int32) < (0 : Int32)) := by decide
  refine Goes.step (B := (T101.setTop (mkF m 10 #[.val (.ref o0), .val (.int (1 : Int32)), .val (.int (0 : Int32)), .unset] []))) (fun _ k => XS.ifNo X101.here hx rfl (hb hby d_jdk_38_method_6_code_7) rfl ((if0 _ _).trans (flt hc103).2.2.1) k) ?_
  refine Goes.step (B := (T101.setTop (mkF m 11 #[.val (.ref o0), .val (.int (1 : Int32)), .val (.int (0 : Int32)), .unset] [(.ref o0)]))) (fun _ k => XS.aloadN X101.here hx rfl (hb hby d_jdk_38_method_6_code_10) rfl rfl k) ?_
  obtain ⟨T104, X104, e104, st104⟩ := getF X101 hx hZ hown (host := "") (Or.inl (hw _ (List.mem_of_getElem? (i := 24) rfl))) Via.refl e101 pr1 (g := (mkF m 11 #[.val (.ref o0), .val (.int (1 : Int32)), .val (.int (0 : Int32)), .unset] [(.ref o0)])) rfl rfl (hb hby d_jdk_38_method_6_code_11)
  refine Goes.step (B := (T104.setTop (mkF m 14 #[.val (.ref o0), .val (.int (1 : Int32)), .val (.int (0 : Int32)), .unset] [(.ref d0)]))) (fun _ k => st104 _ k) ?_
  obtain ⟨T105, X105, e105, st105⟩ := getS2 X104 hx hZ hown (host := "") (Or.inl (hw _ (List.mem_of_getElem? (i := 23) rfl))) Via.refl e104 pr3 (g := (mkF m 14 #[.val (.ref o0), .val (.int (1 : Int32)), .val (.int (0 : Int32)), .unset] [(.ref d0)])) rfl (hb hby d_jdk_38_method_6_code_14)
  refine Goes.step (B := (T105.setTop (mkF m 17 #[.val (.ref o0), .val (.int (1 : Int32)), .val (.int (0 : Int32)), .unset] [(.ref d0), (.ref d0)]))) (fun _ k => st105 _ k) ?_
  refine Goes.step (B := (T105.setTop (mkF m 45 #[.val (.ref o0), .val (.int (1 : Int32)), .val (.int (0 : Int32)), .unset] []))) (fun _ k => Jvm.RoadKit.acmp (g := (mkF m 17 #[.val (.ref o0), .val (.int (1 : Int32)), .val (.int (0 : Int32)), .unset] [(.ref d0), (.ref d0)])) X105 hx rfl rfl rfl (pc0 := 17) (pc' := 45) (same := true) rfl (hb hby d_jdk_38_method_6_code_17) rfl (decide_eq_true rfl) (by decide) (by decide) k) ?_
  refine Goes.step (B := (T105.setTop (mkF m 46 #[.val (.ref o0), .val (.int (1 : Int32)), .val (.int (0 : Int32)), .unset] [(.ref o0)]))) (fun _ k => XS.aloadN X105.here hx rfl (hb hby d_jdk_38_method_6_code_45) rfl rfl k) ?_
  refine Goes.step (B := (T105.setTop (mkF m 48 #[.val (.ref o0), .val (.int (1 : Int32)), .val (.int (0 : Int32)), .unset] [(.int (10 : Int32)), (.ref o0)]))) (fun _ k => XS.bipush X105.here hx rfl (hb hby d_jdk_38_method_6_code_46) k) ?_
  refine Goes.step (B := (T105.setTop (mkF m 49 #[.val (.ref o0), .val (.int (1 : Int32)), .val (.int (0 : Int32)), .unset] [(.int (1 : Int32)), (.int (10 : Int32)), (.ref o0)]))) (fun _ k => XS.iloadN X105.here hx rfl (hb hby d_jdk_38_method_6_code_48) rfl k) ?_
  obtain ⟨_, _, ⟨T106, L106, k106, n106⟩, -, X106, ⟨Lc106, hQ106, l106, y106, z106⟩, st106⟩ := Jvm.LawKit.callS X105 hx (y := (⟨"java/lang/Math", "max", "(II)I"⟩ : MethodName)) hown (mvT hZ (hw _ (List.mem_of_getElem? (i := 71) rfl))) (mvT hZ (hw _ (List.mem_of_getElem? (i := 72) rfl))) (mvT hZ (hw _ (List.mem_of_getElem? (i := 73) rfl))) (mvT hZ (hw _ (List.mem_of_getElem? (i := 74) rfl))) (by decide) (backOf (W := 1) (own_max_rm l Z a0 hw [] (10 : Int32) (1 : Int32)  h0 n0 Z0 ) hZ (hw _ (List.mem_of_getElem? (i := 74) rfl)) (hw _ (List.mem_of_getElem? (i := 73) rfl)) (by decide) (by decide)) (g := (mkF m 49 #[.val (.ref o0), .val (.int (1 : Int32)), .val (.int (0 : Int32)), .unset] [(.int (1 : Int32)), (.int (10 : Int32)), (.ref o0)])) rfl (by rw [hml]; rfl) (argsL := [(.int (10 : Int32)), (.int (1 : Int32))]) (rest := [(.ref o0)]) (lenOf pd__II_I rfl) rfl (by show 2 * 0 + _ ≤ _; exact Nat.le_of_eq rfl) (hb hby d_jdk_38_method_6_code_49) (fun _ _ => ⟨rfl, e105, (by decide : 0 + 0 ≤ _), (by decide : 0 + 0 ≤ _)⟩)
  dsimp only [Pt.U, Pt.locs, Pt.cells, Pt.slots] at X106 l106 y106 z106 st106 hQ106
  subst l106 y106 z106
  obtain ⟨rfl, N106q, e106⟩ := hQ106
  have N106 := Fr.app N0 N106q
  refine Goes.step (B := (T106.setTop (mkF m 52 #[.val (.ref o0), .val (.int (1 : Int32)), .val (.int (0 : Int32)), .unset] [(.int (own_max_fn (10 : Int32) (1 : Int32))), (.ref o0)]))) (fun _ k => st106 _ k) ?_
  obtain ⟨T107, h107, k107, X107, e107, E107, A107, O107, st107⟩ := newR X106 hx hZ hown (hw _ (List.mem_of_getElem? (i := 75) rfl)) (hw _ (List.mem_of_getElem? (i := 76) rfl)) e106 (g := (mkF m 52 #[.val (.ref o0), .val (.int (1 : Int32)), .val (.int (0 : Int32)), .unset] [(.int (own_max_fn (10 : Int32) (1 : Int32))), (.ref o0)])) rfl (hb hby d_jdk_38_method_6_code_52) rfl (by decide) (cap := 10) (by decide) (by decide) (by decide) (by decide)
  obtain ⟨b107, g107⟩ : ∃ z, z = h0.size := ⟨_, rfl⟩
  rw [← g107] at A107 st107
  have gn107 : n0 ≤ b107 := Nat.le_trans Z0 (Nat.le_of_eq g107.symm)
  have sz107 : h0.size ≤ b107 := Nat.le_trans (Keep.refl h0 [o0]).1 (Nat.le_of_eq g107.symm)
  have ne108 : o0 ≠ b107 := Nat.ne_of_lt (Nat.lt_of_lt_of_le pr0.lt (Nat.le_of_eq g107.symm))
  have ne109 : d0 ≠ b107 := Nat.ne_of_lt (Nat.lt_of_lt_of_le pr4.lt (Nat.le_of_eq g107.symm))
  have f110 := pr0.ext E107
  have f111 := pr1.ext E107
  have f112 := pr2.ext E107
  have f113 := pr3.ext E107
  have f114 := pr4.ext E107
  have V107 : Arv Z h107 b107 k107 (.object "java/lang/Object") (own_max_fn (10 : Int32) (1 : Int32)) [] .null := Arv.new A107 (by decide)
  have Z107 : n0 ≤ h107.size := Nat.le_trans Z0 E107.1
  have K107 : Keep h0 h107 [o0] := (Keep.refl h0 [o0]).ext E107
  refine Goes.step (B := (T107.setTop (mkF m 55 #[.val (.ref o0), .val (.int (1 : Int32)), .val (.int (0 : Int32)), .unset] [(.ref b107), (.ref o0)]))) (fun _ k => st107 _ k) ?_
  refine Goes.step (B := (T107.setTop (mkF m 56 #[.val (.ref o0), .val (.int (1 : Int32)), .val (.int (0 : Int32)), .unset] [(.ref b107), (.ref o0), (.ref b107)]))) (fun _ k => XS.dupX1 X107.here hx rfl (hb hby d_jdk_38_method_6_code_55) rfl rfl rfl k) ?_
  obtain ⟨T115, h115, X115, e115, W115, st115⟩ := putF X107 hx hZ hown (host := "") (Or.inl (hw _ (List.mem_of_getElem? (i := 24) rfl))) Via.refl e107 f111 f110 (Or.inl (hw _ (List.mem_of_getElem? (i := 25) rfl))) (hw _ (List.mem_of_getElem? (i := 1) rfl)) (ty := (.array (.object "java/lang/Object"))) (by decide) rfl rfl (g := (mkF m 56 #[.val (.ref o0), .val (.int (1 : Int32)), .val (.int (0 : Int32)), .unset] [(.ref b107), (.ref o0), (.ref b107)])) rfl rfl (hb hby d_jdk_38_method_6_code_56)
  have f116 := f110.wr W115
  have f117 := f112.other W115 (Or.inr (slot_ne (Or.inl (hw _ (List.mem_of_getElem? (i := 55) rfl))) (Or.inl (hw _ (List.mem_of_getElem? (i := 25) rfl))) (by decide) (t := .int) (t' := (.array (.object "java/lang/Object"))) (by decide) (by decide)))
  have f118 := f113.wr W115
  have f119 := f114.other W115 pr6
  have f120 := V107.other W115 (Ne.symm ne108)
  have N115 := Fr.snoc X115 N106 pr5
  have K115 : Keep h0 h115 [o0] := K107.wr W115 (Or.inl (List.mem_of_getElem? (i := 0) rfl))
  have Z115 : n0 ≤ h115.size := Nat.le_trans Z107 (Nat.le_of_eq W115.size.symm)
  have f121 : Fld Z h115 o0 "java/util/ArrayList" "elementData" "[Ljava/lang/Object;" (.ref b107) := f111.same W115
  refine Goes.step (B := (T115.setTop (mkF m 59 #[.val (.ref o0), .val (.int (1 : Int32)), .val (.int (0 : Int32)), .unset] [(.ref b107)]))) (fun _ k => st115 _ k) ?_
  refine Goes.retR X115 hx hlk hrt rfl rfl rfl (hb hby d_jdk_38_method_6_code_59) ?_ (by decide) (by decide)
  rw [e115]
  exact ⟨b107, k107, rfl, N115, K115, gn107, sz107, f116, f117, f120, O107, (Ne.symm ne108)⟩
theorem d_jdk_38_method_7_code_0 : decode jdk_38_method_7_code 0 = .ok (.aload_n 0, 1) := by decide +kernel
theorem d_jdk_38_method_7_code_1 : decode jdk_38_method_7_code 1 = .ok (.aload_n 0, 1) := by decide +kernel
theorem d_jdk_38_method_7_code_2 : decode jdk_38_method_7_code 2 = .ok (.getfield 48, 3) := by decide +kernel
theorem d_jdk_38_method_7_code_5 : decode jdk_38_method_7_code 5 = .ok (.iconst 1, 1) := by decide +kernel
theorem d_jdk_38_method_7_code_6 : decode jdk_38_method_7_code 6 = .ok (.iadd, 1) := by decide +kernel
theorem d_jdk_38_method_7_code_7 : decode jdk_38_method_7_code 7 = .ok (.invokevirtual 69, 3) := by decide +kernel
theorem pd__I_ALjava_lang_Object_ : parseMethodDescriptor "(I)[Ljava/lang/Object;" = some ⟨[.int], some (.array (.object "java/lang/Object"))⟩ := by decide +kernel
theorem d_jdk_38_method_7_code_10 : decode jdk_38_method_7_code 10 = .ok (.areturn, 1) := by decide +kernel
def own_gr0_Q (Z : State) (o0 : Addr) (d0 : Addr) (kd : ClassId) (h0 : Heap) (n0 : Nat) (v : Option Value) (h : Heap) (L : List Loc) : Prop := ∃ (b : Addr), ∃ (k1 : ClassId), (v = some (.ref b)) ∧ (Fr n0 L) ∧ (Keep h0 h [o0]) ∧ (n0 ≤ b) ∧ (h0.size ≤ b) ∧ (Exa Z h o0 "java/util/ArrayList") ∧ (Fld Z h o0 "java/util/ArrayList" "size" "I" (.int (0 : Int32))) ∧ (Arv Z h b k1 (.object "java/lang/Object") (own_max_fn (10 : Int32) (1 : Int32)) [] .null) ∧ (Ovr Z k1 "java/lang/Object") ∧ (b ≠ o0)
theorem own_gr0_ef (m : MethodId) (o0 : Addr) : entryFrame m #[(.ref o0)] 1 = mkF m 0 #[.val (.ref o0)] [] := by first | (simp [entryFrame, mkF, argsToLocals, Value.category]; done) | rfl
set_option maxRecDepth 65536 in
set_option maxHeartbeats 40000000 in
theorem own_gr0_rm (l : Launch) (Z : State) (a0 : Array Value) (hw : ∀ d ∈ tables_1, d.before a0 Z = true) (ws : List Jvm.Cond) (o0 : Addr) (d0 : Addr) (kd : ClassId) (h0 : Heap) (n0 : Nat) (Z0 : n0 ≤ h0.size) (pr0 : Exa Z h0 o0 "java/util/ArrayList") (pr1 : Fld Z h0 o0 "java/util/ArrayList" "elementData" "[Ljava/lang/Object;" (.ref d0)) (pr2 : Fld Z h0 o0 "java/util/ArrayList" "size" "I" (.int (0 : Int32))) (pr3 : Sta Z h0 "java/util/ArrayList" "DEFAULTCAPACITY_EMPTY_ELEMENTDATA" "[Ljava/lang/Object;" (.ref d0)) (pr4 : Arv Z h0 d0 kd (.object "java/lang/Object") (0 : Int32) [] .null) (pr5 : n0 ≤ o0) (pr6 : d0 ≠ o0) :
    MetFree l (⟨"java/util/ArrayList", "grow", "()[Ljava/lang/Object;"⟩ : MethodName) (head1 (Jvm.Cond.code (⟨"java/util/ArrayList", "grow", "()[Ljava/lang/Object;"⟩ : MethodName) jdk_38_method_7_code 1 (some (.array (.object "java/lang/Object"))) :: ws) ({ frames := 2, cells := 1, slots := 10, locals := 29 } : Room)) (fun a U => a = #[(.ref o0)] ∧ Z.Warmed39 U.vm ∧ U.heap = h0) (fun _ _ _ _ _ => True) (fun _ U o U' => ∃ v L, o = .returned v ∧ own_gr0_Q Z o0 d0 kd h0 n0 v U'.heap L ∧ FrameEnd U o U' L ({ frames := 2, cells := 1, slots := 10, locals := 29 } : Room).cells ({ frames := 2, cells := 1, slots := 10, locals := 29 } : Room).slots) := by
  refine MetFree.of_bodySF (plainFor_of_name pn_ArrayList) hisR ?_
  intro p e s m args below meth c s₁ Bd hml0 hP hK
  obtain ⟨rfl, hZ, hh⟩ := hP
  have hx := Bd.exec
  have hby := Bd.bytes
  have hml : c.maxLocals = 1 := hml0
  have hown : s.vm.findClass "java/util/ArrayList" = some m.cls := findClass_of_methodNamed Bd.named
  have hnm := (name_of_methodNamed Bd.named Bd.method).1
  have hlk : meth.locks = false := BodyLoose.notSynchronized Bd
  have hrt := Bd.returns
  have X0 : Stand p l e ({ frames := 2, cells := 1, slots := 10, locals := 29 } : Room) s m #[(.ref o0)] below meth c s₁ [] 0 0 := Stand.of_body Bd
  have e0 : s₁.heap = h0 := by rw [← hh, Bd.state]; rfl
  have N0 := Fr.nil n0
  refine Goes.enter (kc := ({ frames := 2, cells := 1, slots := 10, locals := 29 } : Room).cells) (kn := ({ frames := 2, cells := 1, slots := 10, locals := 29 } : Room).slots) (Q := own_gr0_Q Z o0 d0 kd h0 n0) (own_gr0_ef m o0) ?_
  refine Goes.step (B := (s₁.setTop (mkF m 1 #[.val (.ref o0)] [(.ref o0)]))) (fun _ k => XS.aloadN X0.here hx rfl (hb hby d_jdk_38_method_7_code_0) rfl rfl k) ?_
  refine Goes.step (B := (s₁.setTop (mkF m 2 #[.val (.ref o0)] [(.ref o0), (.ref o0)]))) (fun _ k => XS.aloadN X0.here hx rfl (hb hby d_jdk_38_method_7_code_1) rfl rfl k) ?_
  obtain ⟨T101, X101, e101, st101⟩ := getF X0 hx hZ hown (host := "") (Or.inl (hw _ (List.mem_of_getElem? (i := 54) rfl))) Via.refl e0 pr2 (g := (mkF m 2 #[.val (.ref o0)] [(.ref o0), (.ref o0)])) rfl rfl (hb hby d_jdk_38_method_7_code_2)
  refine Goes.step (B := (T101.setTop (mkF m 5 #[.val (.ref o0)] [(.int (0 : Int32)), (.ref o0)]))) (fun _ k => st101 _ k) ?_
  refine Goes.step (B := (T101.setTop (mkF m 6 #[.val (.ref o0)] [(.int (1 : Int32)), (.int (0 : Int32)), (.ref o0)]))) (fun _ k => XS.iconst X101.here hx rfl (hb hby d_jdk_38_method_7_code_5) k) ?_
  refine Goes.step (B := (T101.setTop (mkF m 7 #[.val (.ref o0)] [(.int (1 : Int32)), (.ref o0)]))) (fun _ k => XS.iadd X101.here hx rfl (hb hby d_jdk_38_method_7_code_6) rfl k) ?_
  obtain ⟨cq102, q102, q102'⟩ := pr0.cell
  obtain ⟨_, _, ⟨T102, L102, k102, n102⟩, -, X102, ⟨Lc102, hQ102, l102, y102, z102⟩, st102⟩ := X101.privateBack hx (y := (⟨"java/util/ArrayList", "grow", "(I)[Ljava/lang/Object;"⟩ : MethodName)) hown (mvT hZ (hw _ (List.mem_of_getElem? (i := 66) rfl))) (mvT hZ (hw _ (List.mem_of_getElem? (i := 67) rfl))) (mvT hZ (hw _ (List.mem_of_getElem? (i := 69) rfl))) (Cond.privateMethod_at (mvP hZ (hw _ (List.mem_of_getElem? (i := 68) rfl)) (args := #[]))) (mvT hZ (hw _ (List.mem_of_getElem? (i := 70) rfl))) (by decide) (backOf (W := 0) (own_gr1_rm l Z a0 hw [] o0 d0 kd h0 n0 Z0 pr0 pr1 pr2 pr3 pr4 pr5 pr6) hZ (hw _ (List.mem_of_getElem? (i := 70) rfl)) (hw _ (List.mem_of_getElem? (i := 2) rfl)) (by decide) (by decide)) (g := (mkF m 7 #[.val (.ref o0)] [(.int (1 : Int32)), (.ref o0)])) rfl (by rw [hml]; rfl) (Steps.refl _) (a := o0) (by rw [e101]; exact q102) q102' (argsL := [(.int (1 : Int32))]) (rest := []) (lenOf pd__I_ALjava_lang_Object_ rfl) rfl (by show 2 * 0 + _ ≤ _; exact Nat.le_of_eq rfl) (hb hby d_jdk_38_method_7_code_7) (fun _ _ => ⟨rfl, e101, (by decide : 0 + 1 ≤ _), (by decide : 0 + 10 ≤ _)⟩)
  dsimp only [Pt.U, Pt.locs, Pt.cells, Pt.slots] at X102 l102 y102 z102 st102 hQ102
  subst l102 y102 z102
  obtain ⟨b_102, k1_102, rfl, N102q, K102q, gn102_b, sz102_b, p102_0, p102_1, p102_2, p102_3, p102_4⟩ := hQ102
  have N102 := Fr.app N0 N102q
  have ne103 : o0 ≠ b_102 := Nat.ne_of_lt (Nat.lt_of_lt_of_le pr0.lt sz102_b)
  have ne104 : d0 ≠ b_102 := Nat.ne_of_lt (Nat.lt_of_lt_of_le pr4.lt sz102_b)
  have f105 := pr0.keep K102q
  have f106 := pr3.keepN K102q (fun y q => by cases List.mem_singleton.mp q; exact pr0.plainN)
  have f107 := pr4.keep K102q (nm1 pr6)
  have K102 : Keep h0 T102.heap [o0] := Keep.trans (Keep.refl h0 [o0]) K102q (fun y q => by cases List.mem_singleton.mp q; exact (Or.inl (List.mem_of_getElem? (i := 0) rfl)))
  have Z102 : n0 ≤ T102.heap.size := Nat.le_trans Z0 K102q.1
  have szz102_b : h0.size ≤ b_102 := Nat.le_trans (Keep.refl h0 [o0]).1 sz102_b
  refine Goes.to (B := (T102.setTop (mkF m 10 #[.val (.ref o0)] [(.ref b_102)]))) st102 ?_
  refine Goes.retR X102 hx hlk hrt rfl rfl rfl (hb hby d_jdk_38_method_7_code_10) ?_ (by decide) (by decide)
  exact ⟨b_102, k1_102, rfl, N102, K102, gn102_b, szz102_b, p102_0, p102_1, p102_2, p102_3, p102_4⟩
theorem d_jdk_38_method_24_code_0 : decode jdk_38_method_24_code 0 = .ok (.iload_n 3, 1) := by decide +kernel
theorem d_jdk_38_method_24_code_1 : decode jdk_38_method_24_code 1 = .ok (.aload_n 2, 1) := by decide +kernel
theorem d_jdk_38_method_24_code_2 : decode jdk_38_method_24_code 2 = .ok (.arraylength, 1) := by decide +kernel
theorem d_jdk_38_method_24_code_3 : decode jdk_38_method_24_code 3 = .ok (.if_icmp .ne 8, 3) := by decide +kernel
theorem d_jdk_38_method_24_code_6 : decode jdk_38_method_24_code 6 = .ok (.aload_n 0, 1) := by decide +kernel
theorem d_jdk_38_method_24_code_7 : decode jdk_38_method_24_code 7 = .ok (.invokevirtual 129, 3) := by decide +kernel
theorem pd___ALjava_lang_Object_ : parseMethodDescriptor "()[Ljava/lang/Object;" = some ⟨[], some (.array (.object "java/lang/Object"))⟩ := by decide +kernel
theorem d_jdk_38_method_24_code_10 : decode jdk_38_method_24_code 10 = .ok (.astore_n 2, 1) := by decide +kernel
theorem d_jdk_38_method_24_code_11 : decode jdk_38_method_24_code 11 = .ok (.aload_n 2, 1) := by decide +kernel
theorem d_jdk_38_method_24_code_12 : decode jdk_38_method_24_code 12 = .ok (.iload_n 3, 1) := by decide +kernel
theorem d_jdk_38_method_24_code_13 : decode jdk_38_method_24_code 13 = .ok (.aload_n 1, 1) := by decide +kernel
theorem d_jdk_38_method_24_code_14 : decode jdk_38_method_24_code 14 = .ok (.aastore, 1) := by decide +kernel
theorem d_jdk_38_method_24_code_15 : decode jdk_38_method_24_code 15 = .ok (.aload_n 0, 1) := by decide +kernel
theorem d_jdk_38_method_24_code_16 : decode jdk_38_method_24_code 16 = .ok (.iload_n 3, 1) := by decide +kernel
theorem d_jdk_38_method_24_code_17 : decode jdk_38_method_24_code 17 = .ok (.iconst 1, 1) := by decide +kernel
theorem d_jdk_38_method_24_code_18 : decode jdk_38_method_24_code 18 = .ok (.iadd, 1) := by decide +kernel
theorem d_jdk_38_method_24_code_19 : decode jdk_38_method_24_code 19 = .ok (.putfield 48, 3) := by decide +kernel
theorem d_jdk_38_method_24_code_22 : decode jdk_38_method_24_code 22 = .ok (.return_, 1) := by decide +kernel
def own_ad3_Q (Z : State) (o0 : Addr) (e1 : Addr) (d0 : Addr) (kd : ClassId) (h0 : Heap) (n0 : Nat) (v : Option Value) (h : Heap) (L : List Loc) : Prop := (v = none) ∧ (Fr n0 L) ∧ (Keep h0 h [o0]) ∧ (Exa Z h o0 "java/util/ArrayList")
theorem own_ad3_ef (m : MethodId) (o0 : Addr) (e1 : Addr) (d0 : Addr) : entryFrame m #[(.ref o0), (.ref e1), (.ref d0), (.int (0 : Int32))] 4 = mkF m 0 #[.val (.ref o0), .val (.ref e1), .val (.ref d0), .val (.int (0 : Int32))] [] := by first | (simp [entryFrame, mkF, argsToLocals, Value.category]; done) | rfl
set_option maxRecDepth 65536 in
set_option maxHeartbeats 40000000 in
theorem own_ad3_rm (l : Launch) (Z : State) (a0 : Array Value) (hw : ∀ d ∈ tables_1, d.before a0 Z = true) (ws : List Jvm.Cond) (o0 : Addr) (e1 : Addr) (d0 : Addr) (kd : ClassId) (h0 : Heap) (n0 : Nat) (Z0 : n0 ≤ h0.size) (pr0 : Exa Z h0 o0 "java/util/ArrayList") (pr1 : Fld Z h0 o0 "java/util/ArrayList" "elementData" "[Ljava/lang/Object;" (.ref d0)) (pr2 : Fld Z h0 o0 "java/util/ArrayList" "size" "I" (.int (0 : Int32))) (pr3 : Sta Z h0 "java/util/ArrayList" "DEFAULTCAPACITY_EMPTY_ELEMENTDATA" "[Ljava/lang/Object;" (.ref d0)) (pr4 : Arv Z h0 d0 kd (.object "java/lang/Object") (0 : Int32) [] .null) (pr5 : n0 ≤ o0) (pr6 : d0 ≠ o0) (pr7 : Exa Z h0 e1 "com/example/portcullis/portcullis/wire/Gsup$Element") (pr8 : e1 ≠ o0) :
    MetFree l (⟨"java/util/ArrayList", "add", "(Ljava/lang/Object;[Ljava/lang/Object;I)V"⟩ : MethodName) (head1 (Jvm.Cond.code (⟨"java/util/ArrayList", "add", "(Ljava/lang/Object;[Ljava/lang/Object;I)V"⟩ : MethodName) jdk_38_method_24_code 4 none :: ws) ({ frames := 3, cells := 1, slots := 10, locals := 41 } : Room)) (fun a U => a = #[(.ref o0), (.ref e1), (.ref d0), (.int (0 : Int32))] ∧ Z.Warmed39 U.vm ∧ U.heap = h0) (fun _ _ _ _ _ => True) (fun _ U o U' => ∃ v L, o = .returned v ∧ own_ad3_Q Z o0 e1 d0 kd h0 n0 v U'.heap L ∧ FrameEnd U o U' L ({ frames := 3, cells := 1, slots := 10, locals := 41 } : Room).cells ({ frames := 3, cells := 1, slots := 10, locals := 41 } : Room).slots) := by
  refine MetFree.of_bodySF (plainFor_of_name pn_ArrayList) hisR ?_
  intro p e s m args below meth c s₁ Bd hml0 hP hK
  obtain ⟨rfl, hZ, hh⟩ := hP
  have hx := Bd.exec
  have hby := Bd.bytes
  have hml : c.maxLocals = 4 := hml0
  have hown : s.vm.findClass "java/util/ArrayList" = some m.cls := findClass_of_methodNamed Bd.named
  have hnm := (name_of_methodNamed Bd.named Bd.method).1
  have hlk : meth.locks = false := BodyLoose.notSynchronized Bd
  have hrt := Bd.returns
  have X0 : Stand p l e ({ frames := 3, cells := 1, slots := 10, locals := 41 } : Room) s m #[(.ref o0), (.ref e1), (.ref d0), (.int (0 : Int32))] below meth c s₁ [] 0 0 := Stand.of_body Bd
  have e0 : s₁.heap = h0 := by rw [← hh, Bd.state]; rfl
  have N0 := Fr.nil n0
  refine Goes.enter (kc := ({ frames := 3, cells := 1, slots := 10, locals := 41 } : Room).cells) (kn := ({ frames := 3, cells := 1, slots := 10, locals := 41 } : Room).slots) (Q := own_ad3_Q Z o0 e1 d0 kd h0 n0) (own_ad3_ef m o0 e1 d0) ?_
  refine Goes.step (B := (s₁.setTop (mkF m 1 #[.val (.ref o0), .val (.ref e1), .val (.ref d0), .val (.int (0 : Int32))] [(.int (0 : Int32))]))) (fun _ k => XS.iloadN X0.here hx rfl (hb hby d_jdk_38_method_24_code_0) rfl k) ?_
  refine Goes.step (B := (s₁.setTop (mkF m 2 #[.val (.ref o0), .val (.ref e1), .val (.ref d0), .val (.int (0 : Int32))] [(.ref d0), (.int (0 : Int32))]))) (fun _ k => XS.aloadN X0.here hx rfl (hb hby d_jdk_38_method_24_code_1) rfl rfl k) ?_
  obtain ⟨cl101, Ar101, q101, S101, M101, H101, G101⟩ := id pr4
  refine Goes.step (B := (s₁.setTop (mkF m 3 #[.val (.ref o0), .val (.ref e1), .val (.ref d0), .val (.int (0 : Int32))] [(.int (0 : Int32)), (.int (0 : Int32))]))) (fun _ k => X0.arraylength hx (by rw [e0]; exact Ar101.1) (State.isArrayOf_alike hZ.alike Ar101.2.1) (g := (mkF m 2 #[.val (.ref o0), .val (.ref e1), .val (.ref d0), .val (.int (0 : Int32))] [(.ref d0), (.int (0 : Int32))])) rfl rfl (hb hby d_jdk_38_method_24_code_2) _ (by rw [len_of S101 M101]; exact k)) ?_
  have hc102 : (0 : Int32) = (0 : Int32) := by decide
  refine Goes.step (B := (s₁.setTop (mkF m 6 #[.val (.ref o0), .val (.ref e1), .val (.ref d0), .val (.int (0 : Int32))] []))) (fun _ k => XS.icmpNo X0.here hx rfl (hb hby d_jdk_38_method_24_code_3) rfl (teq hc102).2 k) ?_
  refine Goes.step (B := (s₁.setTop (mkF m 7 #[.val (.ref o0), .val (.ref e1), .val (.ref d0), .val (.int (0 : Int32))] [(.ref o0)]))) (fun _ k => XS.aloadN X0.here hx rfl (hb hby d_jdk_38_method_24_code_6) rfl rfl k) ?_
  obtain ⟨cq103, q103, q103'⟩ := pr0.cell
  obtain ⟨_, _, ⟨T103, L103, k103, n103⟩, -, X103, ⟨Lc103, hQ103, l103, y103, z103⟩, st103⟩ := X0.privateBack hx (y := (⟨"java/util/ArrayList", "grow", "()[Ljava/lang/Object;"⟩ : MethodName)) hown (mvT hZ (hw _ (List.mem_of_getElem? (i := 61) rfl))) (mvT hZ (hw _ (List.mem_of_getElem? (i := 62) rfl))) (mvT hZ (hw _ (List.mem_of_getElem? (i := 64) rfl))) (Cond.privateMethod_at (mvP hZ (hw _ (List.mem_of_getElem? (i := 63) rfl)) (args := #[]))) (mvT hZ (hw _ (List.mem_of_getElem? (i := 65) rfl))) (by decide) (backOf (W := 0) (own_gr0_rm l Z a0 hw [] o0 d0 kd h0 n0 Z0 pr0 pr1 pr2 pr3 pr4 pr5 pr6) hZ (hw _ (List.mem_of_getElem? (i := 65) rfl)) (hw _ (List.mem_of_getElem? (i := 2) rfl)) (by decide) (by decide)) (g := (mkF m 7 #[.val (.ref o0), .val (.ref e1), .val (.ref d0), .val (.int (0 : Int32))] [(.ref o0)])) rfl (by rw [hml]; rfl) (Steps.refl _) (a := o0) (by rw [e0]; exact q103) q103' (argsL := []) (rest := []) (lenOf pd___ALjava_lang_Object_ rfl) rfl (by show 2 * 0 + _ ≤ _; exact Nat.le_of_eq rfl) (hb hby d_jdk_38_method_24_code_7) (fun _ _ => ⟨rfl, e0, (by decide : 0 + 1 ≤ _), (by decide : 0 + 10 ≤ _)⟩)
  dsimp only [Pt.U, Pt.locs, Pt.cells, Pt.slots] at X103 l103 y103 z103 st103 hQ103
  subst l103 y103 z103
  obtain ⟨b_103, k1_103, rfl, N103q, K103q, gn103_b, sz103_b, p103_0, p103_1, p103_2, p103_3, p103_4⟩ := hQ103
  have N103 := Fr.app N0 N103q
  have ne104 : o0 ≠ b_103 := Nat.ne_of_lt (Nat.lt_of_lt_of_le pr0.lt sz103_b)
  have ne105 : d0 ≠ b_103 := Nat.ne_of_lt (Nat.lt_of_lt_of_le pr4.lt sz103_b)
  have ne106 : e1 ≠ b_103 := Nat.ne_of_lt (Nat.lt_of_lt_of_le pr7.lt sz103_b)
  have f107 := pr0.keep K103q
  have f108 := pr3.keepN K103q (fun y q => by cases List.mem_singleton.mp q; exact pr0.plainN)
  have f109 := pr4.keep K103q (nm1 pr6)
  have f110 := pr7.keep K103q
  have K103 : Keep h0 T103.heap [o0] := Keep.trans (Keep.refl h0 [o0]) K103q (fun y q => by cases List.mem_singleton.mp q; exact (Or.inl (List.mem_of_getElem? (i := 0) rfl)))
  have Z103 : n0 ≤ T103.heap.size := Nat.le_trans Z0 K103q.1
  have szz103_b : h0.size ≤ b_103 := Nat.le_trans (Keep.refl h0 [o0]).1 sz103_b
  refine Goes.to (B := (T103.setTop (mkF m 10 #[.val (.ref o0), .val (.ref e1), .val (.ref d0), .val (.int (0 : Int32))] [(.ref b_103)]))) st103 ?_
  refine Goes.step (B := (T103.setTop (mkF m 11 #[.val (.ref o0), .val (.ref e1), .val (.ref b_103), .val (.int (0 : Int32))] []))) (fun _ k => XS.astoreN X103.here hx rfl (hb hby d_jdk_38_method_24_code_10) rfl rfl (l' := #[.val (.ref o0), .val (.ref e1), .val (.ref b_103), .val (.int (0 : Int32))]) rfl k) ?_
  refine Goes.step (B := (T103.setTop (mkF m 12 #[.val (.ref o0), .val (.ref e1), .val (.ref b_103), .val (.int (0 : Int32))] [(.ref b_103)]))) (fun _ k => XS.aloadN X103.here hx rfl (hb hby d_jdk_38_method_24_code_11) rfl rfl k) ?_
  refine Goes.step (B := (T103.setTop (mkF m 13 #[.val (.ref o0), .val (.ref e1), .val (.ref b_103), .val (.int (0 : Int32))] [(.int (0 : Int32)), (.ref b_103)]))) (fun _ k => XS.iloadN X103.here hx rfl (hb hby d_jdk_38_method_24_code_12) rfl k) ?_
  refine Goes.step (B := (T103.setTop (mkF m 14 #[.val (.ref o0), .val (.ref e1), .val (.ref b_103), .val (.int (0 : Int32))] [(.ref e1), (.int (0 : Int32)), (.ref b_103)]))) (fun _ k => XS.aloadN X103.here hx rfl (hb hby d_jdk_38_method_24_code_13) rfl rfl k) ?_
  obtain ⟨cl111, Ar111, q111, S111, M111, H111, G111⟩ := id p103_2
  have hin111 : ¬ ((0 : Int32) < 0 ∨ cl111.slots.size ≤ ((0 : Int32)).toNatClampNeg) := inb_of S111 ⟨by decide, by decide⟩
  obtain ⟨T111, h111, X111, e111, W111, st111⟩ := stR X103 hx hZ rfl Ar111 (j := (0 : Int32)) hin111 rfl (Sto.ofV Ar111 q111 p103_3 (Ins.of_exa f110 (hw _ (List.mem_of_getElem? (i := 77) rfl)))) (g := (mkF m 14 #[.val (.ref o0), .val (.ref e1), .val (.ref b_103), .val (.int (0 : Int32))] [(.ref e1), (.int (0 : Int32)), (.ref b_103)])) rfl rfl (hb hby d_jdk_38_method_24_code_14)
  have f112 := p103_0.wr W111
  have f113 := f108.wr W111
  have f114 := f109.other W111 ne105
  have f115 := f110.wr W111
  have f116 := p103_1.other W111 (Or.inl ne104)
  have N111 := Fr.snoc X111 N103 gn103_b
  have K111 : Keep h0 h111 [o0] := K103.wr W111 (Or.inr szz103_b)
  have Z111 : n0 ≤ h111.size := Nat.le_trans Z103 (Nat.le_of_eq W111.size.symm)
  refine Goes.step (B := (T111.setTop (mkF m 15 #[.val (.ref o0), .val (.ref e1), .val (.ref b_103), .val (.int (0 : Int32))] []))) (fun _ k => st111 _ k) ?_
  refine Goes.step (B := (T111.setTop (mkF m 16 #[.val (.ref o0), .val (.ref e1), .val (.ref b_103), .val (.int (0 : Int32))] [(.ref o0)]))) (fun _ k => XS.aloadN X111.here hx rfl (hb hby d_jdk_38_method_24_code_15) rfl rfl k) ?_
  refine Goes.step (B := (T111.setTop (mkF m 17 #[.val (.ref o0), .val (.ref e1), .val (.ref b_103), .val (.int (0 : Int32))] [(.int (0 : Int32)), (.ref o0)]))) (fun _ k => XS.iloadN X111.here hx rfl (hb hby d_jdk_38_method_24_code_16) rfl k) ?_
  refine Goes.step (B := (T111.setTop (mkF m 18 #[.val (.ref o0), .val (.ref e1), .val (.ref b_103), .val (.int (0 : Int32))] [(.int (1 : Int32)), (.int (0 : Int32)), (.ref o0)]))) (fun _ k => XS.iconst X111.here hx rfl (hb hby d_jdk_38_method_24_code_17) k) ?_
  refine Goes.step (B := (T111.setTop (mkF m 19 #[.val (.ref o0), .val (.ref e1), .val (.ref b_103), .val (.int (0 : Int32))] [(.int (1 : Int32)), (.ref o0)]))) (fun _ k => XS.iadd X111.here hx rfl (hb hby d_jdk_38_method_24_code_18) rfl k) ?_
  obtain ⟨T117, h117, X117, e117, W117, st117⟩ := putF X111 hx hZ hown (host := "") (Or.inl (hw _ (List.mem_of_getElem? (i := 54) rfl))) Via.refl e111 f116 f112 (Or.inl (hw _ (List.mem_of_getElem? (i := 55) rfl))) (hw _ (List.mem_of_getElem? (i := 1) rfl)) (ty := .int) (by decide) rfl rfl (g := (mkF m 19 #[.val (.ref o0), .val (.ref e1), .val (.ref b_103), .val (.int (0 : Int32))] [(.int (1 : Int32)), (.ref o0)])) rfl rfl (hb hby d_jdk_38_method_24_code_19)
  have f118 := f112.wr W117
  have f119 := f113.wr W117
  have f120 := f114.other W117 pr6
  have f121 := f115.wr W117
  have N117 := Fr.snoc X117 N111 pr5
  have K117 : Keep h0 h117 [o0] := K111.wr W117 (Or.inl (List.mem_of_getElem? (i := 0) rfl))
  have Z117 : n0 ≤ h117.size := Nat.le_trans Z111 (Nat.le_of_eq W117.size.symm)
  have f122 : Fld Z h117 o0 "java/util/ArrayList" "size" "I" (.int (1 : Int32)) := f116.same W117
  refine Goes.step (B := (T117.setTop (mkF m 22 #[.val (.ref o0), .val (.ref e1), .val (.ref b_103), .val (.int (0 : Int32))] []))) (fun _ k => st117 _ k) ?_
  refine Goes.retV X117 hx hlk hrt (hb hby d_jdk_38_method_24_code_22) ?_ (by decide) (by decide)
  rw [e117]
  exact ⟨rfl, N117, K117, f118⟩
theorem d_jdk_38_method_25_code_0 : decode jdk_38_method_25_code 0 = .ok (.aload_n 0, 1) := by decide +kernel
theorem d_jdk_38_method_25_code_1 : decode jdk_38_method_25_code 1 = .ok (.dup, 1) := by decide +kernel
theorem d_jdk_38_method_25_code_2 : decode jdk_38_method_25_code 2 = .ok (.getfield 63, 3) := by decide +kernel
theorem d_jdk_38_method_25_code_5 : decode jdk_38_method_25_code 5 = .ok (.iconst 1, 1) := by decide +kernel
theorem d_jdk_38_method_25_code_6 : decode jdk_38_method_25_code 6 = .ok (.iadd, 1) := by decide +kernel
theorem d_jdk_38_method_25_code_7 : decode jdk_38_method_25_code 7 = .ok (.putfield 63, 3) := by decide +kernel
theorem d_jdk_38_method_25_code_10 : decode jdk_38_method_25_code 10 = .ok (.aload_n 0, 1) := by decide +kernel
theorem d_jdk_38_method_25_code_11 : decode jdk_38_method_25_code 11 = .ok (.aload_n 1, 1) := by decide +kernel
theorem d_jdk_38_method_25_code_12 : decode jdk_38_method_25_code 12 = .ok (.aload_n 0, 1) := by decide +kernel
theorem d_jdk_38_method_25_code_13 : decode jdk_38_method_25_code 13 = .ok (.getfield 9, 3) := by decide +kernel
theorem d_jdk_38_method_25_code_16 : decode jdk_38_method_25_code 16 = .ok (.aload_n 0, 1) := by decide +kernel
theorem d_jdk_38_method_25_code_17 : decode jdk_38_method_25_code 17 = .ok (.getfield 48, 3) := by decide +kernel
theorem d_jdk_38_method_25_code_20 : decode jdk_38_method_25_code 20 = .ok (.invokevirtual 131, 3) := by decide +kernel
theorem pd__Ljava_lang_Object_ALjava_lang_Object_I_V : parseMethodDescriptor "(Ljava/lang/Object;[Ljava/lang/Object;I)V" = some ⟨[(.object "java/lang/Object"), (.array (.object "java/lang/Object")), .int], none⟩ := by decide +kernel
theorem d_jdk_38_method_25_code_23 : decode jdk_38_method_25_code 23 = .ok (.iconst 1, 1) := by decide +kernel
theorem d_jdk_38_method_25_code_24 : decode jdk_38_method_25_code 24 = .ok (.ireturn, 1) := by decide +kernel
def own_ad1_Q (Z : State) (o0 : Addr) (e1 : Addr) (d0 : Addr) (kd : ClassId) (i1 : Int32) (h0 : Heap) (n0 : Nat) (v : Option Value) (h : Heap) (L : List Loc) : Prop := (v = some (.int (1 : Int32))) ∧ (Fr n0 L) ∧ (Keep h0 h [o0]) ∧ (Exa Z h o0 "java/util/ArrayList")
theorem own_ad1_ef (m : MethodId) (o0 : Addr) (e1 : Addr) : entryFrame m #[(.ref o0), (.ref e1)] 2 = mkF m 0 #[.val (.ref o0), .val (.ref e1)] [] := by first | (simp [entryFrame, mkF, argsToLocals, Value.category]; done) | rfl
set_option maxRecDepth 65536 in
set_option maxHeartbeats 40000000 in
theorem own_ad1_rm (l : Launch) (Z : State) (a0 : Array Value) (hw : ∀ d ∈ tables_1, d.before a0 Z = true) (ws : List Jvm.Cond) (o0 : Addr) (e1 : Addr) (d0 : Addr) (kd : ClassId) (i1 : Int32) (h0 : Heap) (n0 : Nat) (Z0 : n0 ≤ h0.size) (pr0 : Exa Z h0 o0 "java/util/ArrayList") (pr1 : Fld Z h0 o0 "java/util/ArrayList" "elementData" "[Ljava/lang/Object;" (.ref d0)) (pr2 : Fld Z h0 o0 "java/util/ArrayList" "size" "I" (.int (0 : Int32))) (pr3 : Sta Z h0 "java/util/ArrayList" "DEFAULTCAPACITY_EMPTY_ELEMENTDATA" "[Ljava/lang/Object;" (.ref d0)) (pr4 : Arv Z h0 d0 kd (.object "java/lang/Object") (0 : Int32) [] .null) (pr5 : n0 ≤ o0) (pr6 : d0 ≠ o0) (pr7 : Exa Z h0 e1 "com/example/portcullis/portcullis/wire/Gsup$Element") (pr8 : e1 ≠ o0) (pr9 : Fld Z h0 o0 "java/util/AbstractList" "modCount" "I" (.int i1)) :
    MetFree l (⟨"java/util/ArrayList", "add", "(Ljava/lang/Object;)Z"⟩ : MethodName) (head1 (Jvm.Cond.code (⟨"java/util/ArrayList", "add", "(Ljava/lang/Object;)Z"⟩ : MethodName) jdk_38_method_25_code 2 (some .boolean) :: ws) ({ frames := 4, cells := 1, slots := 10, locals := 56 } : Room)) (fun a U => a = #[(.ref o0), (.ref e1)] ∧ Z.Warmed39 U.vm ∧ U.heap = h0) (fun _ _ _ _ _ => True) (fun _ U o U' => ∃ v L, o = .returned v ∧ own_ad1_Q Z o0 e1 d0 kd i1 h0 n0 v U'.heap L ∧ FrameEnd U o U' L ({ frames := 4, cells := 1, slots := 10, locals := 56 } : Room).cells ({ frames := 4, cells := 1, slots := 10, locals := 56 } : Room).slots) := by
  refine MetFree.of_bodySF (plainFor_of_name pn_ArrayList) hisR ?_
  intro p e s m args below meth c s₁ Bd hml0 hP hK
  obtain ⟨rfl, hZ, hh⟩ := hP
  have hx := Bd.exec
  have hby := Bd.bytes
  have hml : c.maxLocals = 2 := hml0
  have hown : s.vm.findClass "java/util/ArrayList" = some m.cls := findClass_of_methodNamed Bd.named
  have hnm := (name_of_methodNamed Bd.named Bd.method).1
  have hlk : meth.locks = false := BodyLoose.notSynchronized Bd
  have hrt := Bd.returns
  have X0 : Stand p l e ({ frames := 4, cells := 1, slots := 10, locals := 56 } : Room) s m #[(.ref o0), (.ref e1)] below meth c s₁ [] 0 0 := Stand.of_body Bd
  have e0 : s₁.heap = h0 := by rw [← hh, Bd.state]; rfl
  have N0 := Fr.nil n0
  refine Goes.enter (kc := ({ frames := 4, cells := 1, slots := 10, locals := 56 } : Room).cells) (kn := ({ frames := 4, cells := 1, slots := 10, locals := 56 } : Room).slots) (Q := own_ad1_Q Z o0 e1 d0 kd i1 h0 n0) (own_ad1_ef m o0 e1) ?_
  refine Goes.step (B := (s₁.setTop (mkF m 1 #[.val (.ref o0), .val (.ref e1)] [(.ref o0)]))) (fun _ k => XS.aloadN X0.here hx rfl (hb hby d_jdk_38_method_25_code_0) rfl rfl k) ?_
  refine Goes.step (B := (s₁.setTop (mkF m 2 #[.val (.ref o0), .val (.ref e1)] [(.ref o0), (.ref o0)]))) (fun _ k => XS.dup X0.here hx rfl (hb hby d_jdk_38_method_25_code_1) rfl rfl k) ?_
  obtain ⟨T101, X101, e101, st101⟩ := getF X0 hx hZ hown (host := "") (Or.inl (hw _ (List.mem_of_getElem? (i := 52) rfl))) (Via.of (hw _ (List.mem_of_getElem? (i := 53) rfl))) e0 pr9 (g := (mkF m 2 #[.val (.ref o0), .val (.ref e1)] [(.ref o0), (.ref o0)])) rfl rfl (hb hby d_jdk_38_method_25_code_2)
  refine Goes.step (B := (T101.setTop (mkF m 5 #[.val (.ref o0), .val (.ref e1)] [(.int i1), (.ref o0)]))) (fun _ k => st101 _ k) ?_
  refine Goes.step (B := (T101.setTop (mkF m 6 #[.val (.ref o0), .val (.ref e1)] [(.int (1 : Int32)), (.int i1), (.ref o0)]))) (fun _ k => XS.iconst X101.here hx rfl (hb hby d_jdk_38_method_25_code_5) k) ?_
  refine Goes.step (B := (T101.setTop (mkF m 7 #[.val (.ref o0), .val (.ref e1)] [(.int (i1 + (1 : Int32))), (.ref o0)]))) (fun _ k => XS.iadd X101.here hx rfl (hb hby d_jdk_38_method_25_code_6) rfl k) ?_
  obtain ⟨T102, h102, X102, e102, W102, st102⟩ := putF X101 hx hZ hown (host := "") (Or.inl (hw _ (List.mem_of_getElem? (i := 52) rfl))) (Via.of (hw _ (List.mem_of_getElem? (i := 53) rfl))) e101 pr9 pr0 (Or.inl (hw _ (List.mem_of_getElem? (i := 22) rfl))) (hw _ (List.mem_of_getElem? (i := 1) rfl)) (ty := .int) (by decide) rfl rfl (g := (mkF m 7 #[.val (.ref o0), .val (.ref e1)] [(.int (i1 + (1 : Int32))), (.ref o0)])) rfl rfl (hb hby d_jdk_38_method_25_code_7)
  have f103 := pr0.wr W102
  have f104 := pr1.other W102 (Or.inr (slot_ne (Or.inl (hw _ (List.mem_of_getElem? (i := 25) rfl))) (Or.inl (hw _ (List.mem_of_getElem? (i := 22) rfl))) (by decide) (t := (.array (.object "java/lang/Object"))) (t' := .int) (by decide) (by decide)))
  have f105 := pr2.other W102 (Or.inr (slot_ne (Or.inl (hw _ (List.mem_of_getElem? (i := 55) rfl))) (Or.inl (hw _ (List.mem_of_getElem? (i := 22) rfl))) (by decide) (t := .int) (t' := .int) (by decide) (by decide)))
  have f106 := pr3.wr W102
  have f107 := pr4.other W102 pr6
  have f108 := pr7.wr W102
  have N102 := Fr.snoc X102 N0 pr5
  have K102 : Keep h0 h102 [o0] := (Keep.refl h0 [o0]).wr W102 (Or.inl (List.mem_of_getElem? (i := 0) rfl))
  have Z102 : n0 ≤ h102.size := Nat.le_trans Z0 (Nat.le_of_eq W102.size.symm)
  have f109 : Fld Z h102 o0 "java/util/AbstractList" "modCount" "I" (.int (i1 + (1 : Int32))) := pr9.same W102
  refine Goes.step (B := (T102.setTop (mkF m 10 #[.val (.ref o0), .val (.ref e1)] []))) (fun _ k => st102 _ k) ?_
  refine Goes.step (B := (T102.setTop (mkF m 11 #[.val (.ref o0), .val (.ref e1)] [(.ref o0)]))) (fun _ k => XS.aloadN X102.here hx rfl (hb hby d_jdk_38_method_25_code_10) rfl rfl k) ?_
  refine Goes.step (B := (T102.setTop (mkF m 12 #[.val (.ref o0), .val (.ref e1)] [(.ref e1), (.ref o0)]))) (fun _ k => XS.aloadN X102.here hx rfl (hb hby d_jdk_38_method_25_code_11) rfl rfl k) ?_
  refine Goes.step (B := (T102.setTop (mkF m 13 #[.val (.ref o0), .val (.ref e1)] [(.ref o0), (.ref e1), (.ref o0)]))) (fun _ k => XS.aloadN X102.here hx rfl (hb hby d_jdk_38_method_25_code_12) rfl rfl k) ?_
  obtain ⟨T110, X110, e110, st110⟩ := getF X102 hx hZ hown (host := "") (Or.inl (hw _ (List.mem_of_getElem? (i := 24) rfl))) Via.refl e102 f104 (g := (mkF m 13 #[.val (.ref o0), .val (.ref e1)] [(.ref o0), (.ref e1), (.ref o0)])) rfl rfl (hb hby d_jdk_38_method_25_code_13)
  refine Goes.step (B := (T110.setTop (mkF m 16 #[.val (.ref o0), .val (.ref e1)] [(.ref d0), (.ref e1), (.ref o0)]))) (fun _ k => st110 _ k) ?_
  refine Goes.step (B := (T110.setTop (mkF m 17 #[.val (.ref o0), .val (.ref e1)] [(.ref o0), (.ref d0), (.ref e1), (.ref o0)]))) (fun _ k => XS.aloadN X110.here hx rfl (hb hby d_jdk_38_method_25_code_16) rfl rfl k) ?_
  obtain ⟨T111, X111, e111, st111⟩ := getF X110 hx hZ hown (host := "") (Or.inl (hw _ (List.mem_of_getElem? (i := 54) rfl))) Via.refl e110 f105 (g := (mkF m 17 #[.val (.ref o0), .val (.ref e1)] [(.ref o0), (.ref d0), (.ref e1), (.ref o0)])) rfl rfl (hb hby d_jdk_38_method_25_code_17)
  refine Goes.step (B := (T111.setTop (mkF m 20 #[.val (.ref o0), .val (.ref e1)] [(.int (0 : Int32)), (.ref d0), (.ref e1), (.ref o0)]))) (fun _ k => st111 _ k) ?_
  obtain ⟨cq112, q112, q112'⟩ := f103.cell
  obtain ⟨_, _, ⟨T112, L112, k112, n112⟩, -, X112, ⟨Lc112, hQ112, l112, y112, z112⟩, st112⟩ := X111.privateBack hx (y := (⟨"java/util/ArrayList", "add", "(Ljava/lang/Object;[Ljava/lang/Object;I)V"⟩ : MethodName)) hown (mvT hZ (hw _ (List.mem_of_getElem? (i := 56) rfl))) (mvT hZ (hw _ (List.mem_of_getElem? (i := 57) rfl))) (mvT hZ (hw _ (List.mem_of_getElem? (i := 59) rfl))) (Cond.privateMethod_at (mvP hZ (hw _ (List.mem_of_getElem? (i := 58) rfl)) (args := #[]))) (mvT hZ (hw _ (List.mem_of_getElem? (i := 60) rfl))) (by decide) (backOf (W := 0) (own_ad3_rm l Z a0 hw [] o0 e1 d0 kd h102 n0 Z102 f103 f104 f105 f106 f107 pr5 pr6 f108 pr8) hZ (hw _ (List.mem_of_getElem? (i := 60) rfl)) (hw _ (List.mem_of_getElem? (i := 2) rfl)) (by decide) (by decide)) (g := (mkF m 20 #[.val (.ref o0), .val (.ref e1)] [(.int (0 : Int32)), (.ref d0), (.ref e1), (.ref o0)])) rfl (by rw [hml]; rfl) (Steps.refl _) (a := o0) (by rw [e111]; exact q112) q112' (argsL := [(.ref e1), (.ref d0), (.int (0 : Int32))]) (rest := []) (lenOf pd__Ljava_lang_Object_ALjava_lang_Object_I_V rfl) rfl (by show 2 * 0 + _ ≤ _; exact Nat.le_of_eq rfl) (hb hby d_jdk_38_method_25_code_20) (fun _ _ => ⟨rfl, e111, (by decide : 0 + 1 ≤ _), (by decide : 0 + 10 ≤ _)⟩)
  dsimp only [Pt.U, Pt.locs, Pt.cells, Pt.slots] at X112 l112 y112 z112 st112 hQ112
  subst l112 y112 z112
  obtain ⟨rfl, N112q, K112q, p112_0⟩ := hQ112
  have N112 := Fr.app N102 N112q
  have f113 := f103.keep K112q
  have f114 := f106.keepN K112q (fun y q => by cases List.mem_singleton.mp q; exact f103.plainN)
  have f115 := f107.keep K112q (nm1 pr6)
  have f116 := f108.keep K112q
  have K112 : Keep h0 T112.heap [o0] := Keep.trans K102 K112q (fun y q => by cases List.mem_singleton.mp q; exact (Or.inl (List.mem_of_getElem? (i := 0) rfl)))
  have Z112 : n0 ≤ T112.heap.size := Nat.le_trans Z102 K112q.1
  refine Goes.to (B := (T112.setTop (mkF m 23 #[.val (.ref o0), .val (.ref e1)] []))) st112 ?_
  refine Goes.step (B := (T112.setTop (mkF m 24 #[.val (.ref o0), .val (.ref e1)] [(.int (1 : Int32))]))) (fun _ k => XS.iconst X112.here hx rfl (hb hby d_jdk_38_method_25_code_23) k) ?_
  refine Goes.retN X112 hx hlk (t := .boolean) hrt (by simp) (hb hby d_jdk_38_method_25_code_24) ?_ (by decide) (by decide)
  exact ⟨rfl, N112, K112, p112_0⟩
theorem d_prog_91_method_1_code_0 : decode prog_91_method_1_code 0 = .ok (.aload_n 0, 1) := by decide +kernel
theorem d_prog_91_method_1_code_1 : decode prog_91_method_1_code 1 = .ok (.invokespecial 1, 3) := by decide +kernel
theorem d_prog_91_method_1_code_4 : decode prog_91_method_1_code 4 = .ok (.aload_n 0, 1) := by decide +kernel
theorem d_prog_91_method_1_code_5 : decode prog_91_method_1_code 5 = .ok (.iload_n 1, 1) := by decide +kernel
theorem d_prog_91_method_1_code_6 : decode prog_91_method_1_code 6 = .ok (.putfield 7, 3) := by decide +kernel
theorem d_prog_91_method_1_code_9 : decode prog_91_method_1_code 9 = .ok (.aload_n 0, 1) := by decide +kernel
theorem d_prog_91_method_1_code_10 : decode prog_91_method_1_code 10 = .ok (.aload_n 2, 1) := by decide +kernel
theorem d_prog_91_method_1_code_11 : decode prog_91_method_1_code 11 = .ok (.putfield 13, 3) := by decide +kernel
theorem d_prog_91_method_1_code_14 : decode prog_91_method_1_code 14 = .ok (.return_, 1) := by decide +kernel
def own_el_Q (Z : State) (o0 : Addr) (u0 : Int32) (c0 : Addr)  (h0 : Heap) (n0 : Nat) (v : Option Value) (h : Heap) (L : List Loc) : Prop := (v = none) ∧ (Fr n0 L) ∧ (Keep h0 h [o0]) ∧ (Exa Z h o0 "com/example/portcullis/portcullis/wire/Gsup$Element")
theorem own_el_ef (m : MethodId) (o0 : Addr) (u0 : Int32) (c0 : Addr) : entryFrame m #[(.ref o0), (.int u0), (.ref c0)] 3 = mkF m 0 #[.val (.ref o0), .val (.int u0), .val (.ref c0)] [] := by first | (simp [entryFrame, mkF, argsToLocals, Value.category]; done) | rfl
theorem pn_Gsup_Element : plainName "com/example/portcullis/portcullis/wire/Gsup$Element" = true := by first | (simp [plainName, overriddenIn]; done) | decide +kernel
set_option maxRecDepth 65536 in
set_option maxHeartbeats 40000000 in
theorem own_el_rm (l : Launch) (Z : State) (a0 : Array Value) (hw : ∀ d ∈ tables_1, d.before a0 Z = true) (ws : List Jvm.Cond) (o0 : Addr) (u0 : Int32) (c0 : Addr)  (h0 : Heap) (n0 : Nat) (Z0 : n0 ≤ h0.size) (pr0 : Exa Z h0 o0 "com/example/portcullis/portcullis/wire/Gsup$Element") (pr1 : Fld Z h0 o0 "com/example/portcullis/portcullis/wire/Gsup$Element" "tag" "I" (.int (0 : Int32))) (pr2 : Fld Z h0 o0 "com/example/portcullis/portcullis/wire/Gsup$Element" "value" "[B" .null) (pr3 : n0 ≤ o0) :
    MetFree l (⟨"com/example/portcullis/portcullis/wire/Gsup$Element", "<init>", "(I[B)V"⟩ : MethodName) (head1 (Jvm.Cond.code (⟨"com/example/portcullis/portcullis/wire/Gsup$Element", "<init>", "(I[B)V"⟩ : MethodName) prog_91_method_1_code 3 none :: ws) ({ frames := 2, cells := 0, slots := 0, locals := 24 } : Room)) (fun a U => a = #[(.ref o0), (.int u0), (.ref c0)] ∧ Z.Warmed39 U.vm ∧ U.heap = h0) (fun _ _ _ _ _ => True) (fun _ U o U' => ∃ v L, o = .returned v ∧ own_el_Q Z o0 u0 c0 h0 n0 v U'.heap L ∧ FrameEnd U o U' L ({ frames := 2, cells := 0, slots := 0, locals := 24 } : Room).cells ({ frames := 2, cells := 0, slots := 0, locals := 24 } : Room).slots) := by
  refine MetFree.of_bodySF (plainFor_of_name pn_Gsup_Element) hisR ?_
  intro p e s m args below meth c s₁ Bd hml0 hP hK
  obtain ⟨rfl, hZ, hh⟩ := hP
  have hx := Bd.exec
  have hby := Bd.bytes
  have hml : c.maxLocals = 3 := hml0
  have hown : s.vm.findClass "com/example/portcullis/portcullis/wire/Gsup$Element" = some m.cls := findClass_of_methodNamed Bd.named
  have hnm := (name_of_methodNamed Bd.named Bd.method).1
  have hlk : meth.locks = false := BodyLoose.notSynchronized Bd
  have hrt := Bd.returns
  have X0 : Stand p l e ({ frames := 2, cells := 0, slots := 0, locals := 24 } : Room) s m #[(.ref o0), (.int u0), (.ref c0)] below meth c s₁ [] 0 0 := Stand.of_body Bd
  have e0 : s₁.heap = h0 := by rw [← hh, Bd.state]; rfl
  have N0 := Fr.nil n0
  refine Goes.enter (kc := ({ frames := 2, cells := 0, slots := 0, locals := 24 } : Room).cells) (kn := ({ frames := 2, cells := 0, slots := 0, locals := 24 } : Room).slots) (Q := own_el_Q Z o0 u0 c0 h0 n0) (own_el_ef m o0 u0 c0) ?_
  refine Goes.step (B := (s₁.setTop (mkF m 1 #[.val (.ref o0), .val (.int u0), .val (.ref c0)] [(.ref o0)]))) (fun _ k => XS.aloadN X0.here hx rfl (hb hby d_prog_91_method_1_code_0) rfl rfl k) ?_
  obtain ⟨_, _, ⟨T101, L101, k101, n101⟩, -, X101, ⟨Lc101, hQ101, l101, y101, z101⟩, st101⟩ := X0.specialBack hx (y := (⟨"java/lang/Record", "<init>", "()V"⟩ : MethodName)) rfl hown (mvT hZ (hw _ (List.mem_of_getElem? (i := 33) rfl))) (mvT hZ (hw _ (List.mem_of_getElem? (i := 34) rfl))) (mvT hZ (hw _ (List.mem_of_getElem? (i := 37) rfl))) (by decide) (backOf (W := 0) (own_rec_rm l Z a0 hw [] o0  h0 n0 Z0 ) hZ (hw _ (List.mem_of_getElem? (i := 37) rfl)) (hw _ (List.mem_of_getElem? (i := 36) rfl)) (by decide) (by decide)) (g := (mkF m 1 #[.val (.ref o0), .val (.int u0), .val (.ref c0)] [(.ref o0)])) rfl (by rw [hml]; rfl) (Steps.refl _) (a := o0) (argsL := []) (rest := []) (lenOf pd___V rfl) rfl (by show 2 * 0 + _ ≤ _; exact Nat.le_of_eq rfl) (hb hby d_prog_91_method_1_code_1) (fun _ _ => ⟨rfl, e0, (by decide : 0 + 0 ≤ _), (by decide : 0 + 0 ≤ _)⟩)
  dsimp only [Pt.U, Pt.locs, Pt.cells, Pt.slots] at X101 l101 y101 z101 st101 hQ101
  subst l101 y101 z101
  obtain ⟨rfl, N101q, e101⟩ := hQ101
  have N101 := Fr.app N0 N101q
  refine Goes.to (B := (T101.setTop (mkF m 4 #[.val (.ref o0), .val (.int u0), .val (.ref c0)] []))) st101 ?_
  refine Goes.step (B := (T101.setTop (mkF m 5 #[.val (.ref o0), .val (.int u0), .val (.ref c0)] [(.ref o0)]))) (fun _ k => XS.aloadN X101.here hx rfl (hb hby d_prog_91_method_1_code_4) rfl rfl k) ?_
  refine Goes.step (B := (T101.setTop (mkF m 6 #[.val (.ref o0), .val (.int u0), .val (.ref c0)] [(.int u0), (.ref o0)]))) (fun _ k => XS.iloadN X101.here hx rfl (hb hby d_prog_91_method_1_code_5) rfl k) ?_
  obtain ⟨T102, h102, X102, e102, W102, st102⟩ := putF X101 hx hZ hown (host := "") (Or.inl (hw _ (List.mem_of_getElem? (i := 39) rfl))) Via.refl e101 pr1 pr0 (Or.inr ⟨(hw _ (List.mem_of_getElem? (i := 40) rfl)), rfl, hnm⟩) (hw _ (List.mem_of_getElem? (i := 28) rfl)) (ty := .int) (by decide) rfl rfl (g := (mkF m 6 #[.val (.ref o0), .val (.int u0), .val (.ref c0)] [(.int u0), (.ref o0)])) rfl rfl (hb hby d_prog_91_method_1_code_6)
  have f103 := pr0.wr W102
  have f104 := pr2.other W102 (Or.inr (slot_ne (Or.inr (hw _ (List.mem_of_getElem? (i := 42) rfl))) (Or.inr (hw _ (List.mem_of_getElem? (i := 40) rfl))) (by decide) (t := (.array .byte)) (t' := .int) (by decide) (by decide)))
  have N102 := Fr.snoc X102 N101 pr3
  have K102 : Keep h0 h102 [o0] := (Keep.refl h0 [o0]).wr W102 (Or.inl (List.mem_of_getElem? (i := 0) rfl))
  have Z102 : n0 ≤ h102.size := Nat.le_trans Z0 (Nat.le_of_eq W102.size.symm)
  have f105 : Fld Z h102 o0 "com/example/portcullis/portcullis/wire/Gsup$Element" "tag" "I" (.int u0) := pr1.same W102
  refine Goes.step (B := (T102.setTop (mkF m 9 #[.val (.ref o0), .val (.int u0), .val (.ref c0)] []))) (fun _ k => st102 _ k) ?_
  refine Goes.step (B := (T102.setTop (mkF m 10 #[.val (.ref o0), .val (.int u0), .val (.ref c0)] [(.ref o0)]))) (fun _ k => XS.aloadN X102.here hx rfl (hb hby d_prog_91_method_1_code_9) rfl rfl k) ?_
  refine Goes.step (B := (T102.setTop (mkF m 11 #[.val (.ref o0), .val (.int u0), .val (.ref c0)] [(.ref c0), (.ref o0)]))) (fun _ k => XS.aloadN X102.here hx rfl (hb hby d_prog_91_method_1_code_10) rfl rfl k) ?_
  obtain ⟨T106, h106, X106, e106, W106, st106⟩ := putF X102 hx hZ hown (host := "") (Or.inl (hw _ (List.mem_of_getElem? (i := 41) rfl))) Via.refl e102 f104 f103 (Or.inr ⟨(hw _ (List.mem_of_getElem? (i := 42) rfl)), rfl, hnm⟩) (hw _ (List.mem_of_getElem? (i := 28) rfl)) (ty := (.array .byte)) (by decide) rfl rfl (g := (mkF m 11 #[.val (.ref o0), .val (.int u0), .val (.ref c0)] [(.ref c0), (.ref o0)])) rfl rfl (hb hby d_prog_91_method_1_code_11)
  have f107 := f103.wr W106
  have f108 := f105.other W106 (Or.inr (slot_ne (Or.inr (hw _ (List.mem_of_getElem? (i := 40) rfl))) (Or.inr (hw _ (List.mem_of_getElem? (i := 42) rfl))) (by decide) (t := .int) (t' := (.array .byte)) (by decide) (by decide)))
  have N106 := Fr.snoc X106 N102 pr3
  have K106 : Keep h0 h106 [o0] := K102.wr W106 (Or.inl (List.mem_of_getElem? (i := 0) rfl))
  have Z106 : n0 ≤ h106.size := Nat.le_trans Z102 (Nat.le_of_eq W106.size.symm)
  have f109 : Fld Z h106 o0 "com/example/portcullis/portcullis/wire/Gsup$Element" "value" "[B" (.ref c0) := f104.same W106
  refine Goes.step (B := (T106.setTop (mkF m 14 #[.val (.ref o0), .val (.int u0), .val (.ref c0)] []))) (fun _ k => st106 _ k) ?_
  refine Goes.retV X106 hx hlk hrt (hb hby d_prog_91_method_1_code_14) ?_ (by decide) (by decide)
  rw [e106]
  exact ⟨rfl, N106, K106, f107⟩
theorem d_prog_92_method_1_code_0 : decode prog_92_method_1_code 0 = .ok (.aload_n 0, 1) := by decide +kernel
theorem d_prog_92_method_1_code_1 : decode prog_92_method_1_code 1 = .ok (.invokespecial 3, 3) := by decide +kernel
theorem d_prog_92_method_1_code_4 : decode prog_92_method_1_code 4 = .ok (.aload_n 0, 1) := by decide +kernel
theorem d_prog_92_method_1_code_5 : decode prog_92_method_1_code 5 = .ok (.iload_n 1, 1) := by decide +kernel
theorem d_prog_92_method_1_code_6 : decode prog_92_method_1_code 6 = .ok (.putfield 9, 3) := by decide +kernel
theorem d_prog_92_method_1_code_9 : decode prog_92_method_1_code 9 = .ok (.aload_n 0, 1) := by decide +kernel
theorem d_prog_92_method_1_code_10 : decode prog_92_method_1_code 10 = .ok (.aload_n 2, 1) := by decide +kernel
theorem d_prog_92_method_1_code_11 : decode prog_92_method_1_code 11 = .ok (.putfield 15, 3) := by decide +kernel
theorem d_prog_92_method_1_code_14 : decode prog_92_method_1_code 14 = .ok (.return_, 1) := by decide +kernel
def own_me_Q (Z : State) (o0 : Addr) (u0 : Int32) (c0 : Addr)  (h0 : Heap) (n0 : Nat) (v : Option Value) (h : Heap) (L : List Loc) : Prop := (v = none) ∧ (Fr n0 L) ∧ (Keep h0 h [o0]) ∧ (Exa Z h o0 "com/example/portcullis/portcullis/wire/Gsup$Message") ∧ (Fld Z h o0 "com/example/portcullis/portcullis/wire/Gsup$Message" "type" "I" (.int u0))
theorem own_me_ef (m : MethodId) (o0 : Addr) (u0 : Int32) (c0 : Addr) : entryFrame m #[(.ref o0), (.int u0), (.ref c0)] 3 = mkF m 0 #[.val (.ref o0), .val (.int u0), .val (.ref c0)] [] := by first | (simp [entryFrame, mkF, argsToLocals, Value.category]; done) | rfl
theorem pn_Gsup_Message : plainName "com/example/portcullis/portcullis/wire/Gsup$Message" = true := by first | (simp [plainName, overriddenIn]; done) | decide +kernel
set_option maxRecDepth 65536 in
set_option maxHeartbeats 40000000 in
theorem own_me_rm (l : Launch) (Z : State) (a0 : Array Value) (hw : ∀ d ∈ tables_1, d.before a0 Z = true) (ws : List Jvm.Cond) (o0 : Addr) (u0 : Int32) (c0 : Addr)  (h0 : Heap) (n0 : Nat) (Z0 : n0 ≤ h0.size) (pr0 : Exa Z h0 o0 "com/example/portcullis/portcullis/wire/Gsup$Message") (pr1 : Fld Z h0 o0 "com/example/portcullis/portcullis/wire/Gsup$Message" "type" "I" (.int (0 : Int32))) (pr2 : Fld Z h0 o0 "com/example/portcullis/portcullis/wire/Gsup$Message" "elements" "Ljava/util/List;" .null) (pr3 : n0 ≤ o0) :
    MetFree l (⟨"com/example/portcullis/portcullis/wire/Gsup$Message", "<init>", "(ILjava/util/List;)V"⟩ : MethodName) (head1 (Jvm.Cond.code (⟨"com/example/portcullis/portcullis/wire/Gsup$Message", "<init>", "(ILjava/util/List;)V"⟩ : MethodName) prog_92_method_1_code 3 none :: ws) ({ frames := 2, cells := 0, slots := 0, locals := 24 } : Room)) (fun a U => a = #[(.ref o0), (.int u0), (.ref c0)] ∧ Z.Warmed39 U.vm ∧ U.heap = h0) (fun _ _ _ _ _ => True) (fun _ U o U' => ∃ v L, o = .returned v ∧ own_me_Q Z o0 u0 c0 h0 n0 v U'.heap L ∧ FrameEnd U o U' L ({ frames := 2, cells := 0, slots := 0, locals := 24 } : Room).cells ({ frames := 2, cells := 0, slots := 0, locals := 24 } : Room).slots) := by
  refine MetFree.of_bodySF (plainFor_of_name pn_Gsup_Message) hisR ?_
  intro p e s m args below meth c s₁ Bd hml0 hP hK
  obtain ⟨rfl, hZ, hh⟩ := hP
  have hx := Bd.exec
  have hby := Bd.bytes
  have hml : c.maxLocals = 3 := hml0
  have hown : s.vm.findClass "com/example/portcullis/portcullis/wire/Gsup$Message" = some m.cls := findClass_of_methodNamed Bd.named
  have hnm := (name_of_methodNamed Bd.named Bd.method).1
  have hlk : meth.locks = false := BodyLoose.notSynchronized Bd
  have hrt := Bd.returns
  have X0 : Stand p l e ({ frames := 2, cells := 0, slots := 0, locals := 24 } : Room) s m #[(.ref o0), (.int u0), (.ref c0)] below meth c s₁ [] 0 0 := Stand.of_body Bd
  have e0 : s₁.heap = h0 := by rw [← hh, Bd.state]; rfl
  have N0 := Fr.nil n0
  refine Goes.enter (kc := ({ frames := 2, cells := 0, slots := 0, locals := 24 } : Room).cells) (kn := ({ frames := 2, cells := 0, slots := 0, locals := 24 } : Room).slots) (Q := own_me_Q Z o0 u0 c0 h0 n0) (own_me_ef m o0 u0 c0) ?_
  refine Goes.step (B := (s₁.setTop (mkF m 1 #[.val (.ref o0), .val (.int u0), .val (.ref c0)] [(.ref o0)]))) (fun _ k => XS.aloadN X0.here hx rfl (hb hby d_prog_92_method_1_code_0) rfl rfl k) ?_
  obtain ⟨_, _, ⟨T101, L101, k101, n101⟩, -, X101, ⟨Lc101, hQ101, l101, y101, z101⟩, st101⟩ := X0.specialBack hx (y := (⟨"java/lang/Record", "<init>", "()V"⟩ : MethodName)) rfl hown (mvT hZ (hw _ (List.mem_of_getElem? (i := 84) rfl))) (mvT hZ (hw _ (List.mem_of_getElem? (i := 34) rfl))) (mvT hZ (hw _ (List.mem_of_getElem? (i := 37) rfl))) (by decide) (backOf (W := 0) (own_rec_rm l Z a0 hw [] o0  h0 n0 Z0 ) hZ (hw _ (List.mem_of_getElem? (i := 37) rfl)) (hw _ (List.mem_of_getElem? (i := 36) rfl)) (by decide) (by decide)) (g := (mkF m 1 #[.val (.ref o0), .val (.int u0), .val (.ref c0)] [(.ref o0)])) rfl (by rw [hml]; rfl) (Steps.refl _) (a := o0) (argsL := []) (rest := []) (lenOf pd___V rfl) rfl (by show 2 * 0 + _ ≤ _; exact Nat.le_of_eq rfl) (hb hby d_prog_92_method_1_code_1) (fun _ _ => ⟨rfl, e0, (by decide : 0 + 0 ≤ _), (by decide : 0 + 0 ≤ _)⟩)
  dsimp only [Pt.U, Pt.locs, Pt.cells, Pt.slots] at X101 l101 y101 z101 st101 hQ101
  subst l101 y101 z101
  obtain ⟨rfl, N101q, e101⟩ := hQ101
  have N101 := Fr.app N0 N101q
  refine Goes.to (B := (T101.setTop (mkF m 4 #[.val (.ref o0), .val (.int u0), .val (.ref c0)] []))) st101 ?_
  refine Goes.step (B := (T101.setTop (mkF m 5 #[.val (.ref o0), .val (.int u0), .val (.ref c0)] [(.ref o0)]))) (fun _ k => XS.aloadN X101.here hx rfl (hb hby d_prog_92_method_1_code_4) rfl rfl k) ?_
  refine Goes.step (B := (T101.setTop (mkF m 6 #[.val (.ref o0), .val (.int u0), .val (.ref c0)] [(.int u0), (.ref o0)]))) (fun _ k => XS.iloadN X101.here hx rfl (hb hby d_prog_92_method_1_code_5) rfl k) ?_
  obtain ⟨T102, h102, X102, e102, W102, st102⟩ := putF X101 hx hZ hown (host := "") (Or.inl (hw _ (List.mem_of_getElem? (i := 85) rfl))) Via.refl e101 pr1 pr0 (Or.inr ⟨(hw _ (List.mem_of_getElem? (i := 86) rfl)), rfl, hnm⟩) (hw _ (List.mem_of_getElem? (i := 79) rfl)) (ty := .int) (by decide) rfl rfl (g := (mkF m 6 #[.val (.ref o0), .val (.int u0), .val (.ref c0)] [(.int u0), (.ref o0)])) rfl rfl (hb hby d_prog_92_method_1_code_6)
  have f103 := pr0.wr W102
  have f104 := pr2.other W102 (Or.inr (slot_ne (Or.inr (hw _ (List.mem_of_getElem? (i := 88) rfl))) (Or.inr (hw _ (List.mem_of_getElem? (i := 86) rfl))) (by decide) (t := (.object "java/util/List")) (t' := .int) (by decide) (by decide)))
  have N102 := Fr.snoc X102 N101 pr3
  have K102 : Keep h0 h102 [o0] := (Keep.refl h0 [o0]).wr W102 (Or.inl (List.mem_of_getElem? (i := 0) rfl))
  have Z102 : n0 ≤ h102.size := Nat.le_trans Z0 (Nat.le_of_eq W102.size.symm)
  have f105 : Fld Z h102 o0 "com/example/portcullis/portcullis/wire/Gsup$Message" "type" "I" (.int u0) := pr1.same W102
  refine Goes.step (B := (T102.setTop (mkF m 9 #[.val (.ref o0), .val (.int u0), .val (.ref c0)] []))) (fun _ k => st102 _ k) ?_
  refine Goes.step (B := (T102.setTop (mkF m 10 #[.val (.ref o0), .val (.int u0), .val (.ref c0)] [(.ref o0)]))) (fun _ k => XS.aloadN X102.here hx rfl (hb hby d_prog_92_method_1_code_9) rfl rfl k) ?_
  refine Goes.step (B := (T102.setTop (mkF m 11 #[.val (.ref o0), .val (.int u0), .val (.ref c0)] [(.ref c0), (.ref o0)]))) (fun _ k => XS.aloadN X102.here hx rfl (hb hby d_prog_92_method_1_code_10) rfl rfl k) ?_
  obtain ⟨T106, h106, X106, e106, W106, st106⟩ := putF X102 hx hZ hown (host := "") (Or.inl (hw _ (List.mem_of_getElem? (i := 87) rfl))) Via.refl e102 f104 f103 (Or.inr ⟨(hw _ (List.mem_of_getElem? (i := 88) rfl)), rfl, hnm⟩) (hw _ (List.mem_of_getElem? (i := 79) rfl)) (ty := (.object "java/util/List")) (by decide) rfl rfl (g := (mkF m 11 #[.val (.ref o0), .val (.int u0), .val (.ref c0)] [(.ref c0), (.ref o0)])) rfl rfl (hb hby d_prog_92_method_1_code_11)
  have f107 := f103.wr W106
  have f108 := f105.other W106 (Or.inr (slot_ne (Or.inr (hw _ (List.mem_of_getElem? (i := 86) rfl))) (Or.inr (hw _ (List.mem_of_getElem? (i := 88) rfl))) (by decide) (t := .int) (t' := (.object "java/util/List")) (by decide) (by decide)))
  have N106 := Fr.snoc X106 N102 pr3
  have K106 : Keep h0 h106 [o0] := K102.wr W106 (Or.inl (List.mem_of_getElem? (i := 0) rfl))
  have Z106 : n0 ≤ h106.size := Nat.le_trans Z102 (Nat.le_of_eq W106.size.symm)
  have f109 : Fld Z h106 o0 "com/example/portcullis/portcullis/wire/Gsup$Message" "elements" "Ljava/util/List;" (.ref c0) := f104.same W106
  refine Goes.step (B := (T106.setTop (mkF m 14 #[.val (.ref o0), .val (.int u0), .val (.ref c0)] []))) (fun _ k => st106 _ k) ?_
  refine Goes.retV X106 hx hlk hrt (hb hby d_prog_92_method_1_code_14) ?_ (by decide) (by decide)
  rw [e106]
  exact ⟨rfl, N106, K106, f107, f108⟩
theorem d_prog_92_method_3_code_0 : decode prog_92_method_3_code 0 = .ok (.aload_n 0, 1) := by decide +kernel
theorem d_prog_92_method_3_code_1 : decode prog_92_method_3_code 1 = .ok (.getfield 9, 3) := by decide +kernel
theorem d_prog_92_method_3_code_4 : decode prog_92_method_3_code 4 = .ok (.iconst 3, 1) := by decide +kernel
theorem d_prog_92_method_3_code_5 : decode prog_92_method_3_code 5 = .ok (.iand, 1) := by decide +kernel
theorem d_prog_92_method_3_code_6 : decode prog_92_method_3_code 6 = .ok (.ifCond .ne 7, 3) := by decide +kernel
theorem d_prog_92_method_3_code_9 : decode prog_92_method_3_code 9 = .ok (.iconst 1, 1) := by decide +kernel
theorem d_prog_92_method_3_code_10 : decode prog_92_method_3_code 10 = .ok (.goto 4, 3) := by decide +kernel
theorem d_prog_92_method_3_code_14 : decode prog_92_method_3_code 14 = .ok (.ireturn, 1) := by decide +kernel
theorem d_prog_92_method_3_code_13 : decode prog_92_method_3_code 13 = .ok (.iconst 0, 1) := by decide +kernel
def own_ir_fn (i1 : Int32) : Int32 := (if (i1 &&& (3 : Int32)) = (0 : Int32) then (1 : Int32) else (0 : Int32))
def own_ir_Q (Z : State) (o0 : Addr) (i1 : Int32) (h0 : Heap) (n0 : Nat) (v : Option Value) (h : Heap) (L : List Loc) : Prop := v = some (.int (own_ir_fn i1)) ∧ Fr n0 L ∧ h = h0
theorem own_ir_ef (m : MethodId) (o0 : Addr) : entryFrame m #[(.ref o0)] 1 = mkF m 0 #[.val (.ref o0)] [] := by first | (simp [entryFrame, mkF, argsToLocals, Value.category]; done) | rfl
set_option maxRecDepth 65536 in
set_option maxHeartbeats 40000000 in
theorem own_ir_rm (l : Launch) (Z : State) (a0 : Array Value) (hw : ∀ d ∈ tables_1, d.before a0 Z = true) (ws : List Jvm.Cond) (o0 : Addr) (i1 : Int32) (h0 : Heap) (n0 : Nat) (Z0 : n0 ≤ h0.size) (pr0 : Fld Z h0 o0 "com/example/portcullis/portcullis/wire/Gsup$Message" "type" "I" (.int i1)) :
    MetFree l (⟨"com/example/portcullis/portcullis/wire/Gsup$Message", "isRequest", "()Z"⟩ : MethodName) (head1 (Jvm.Cond.code (⟨"com/example/portcullis/portcullis/wire/Gsup$Message", "isRequest", "()Z"⟩ : MethodName) prog_92_method_3_code 1 (some .boolean) :: ws) ({ frames := 0, cells := 0, slots := 0, locals := 0 } : Room)) (fun a U => a = #[(.ref o0)] ∧ Z.Warmed39 U.vm ∧ U.heap = h0) (fun _ _ _ _ _ => True) (fun _ U o U' => ∃ v L, o = .returned v ∧ own_ir_Q Z o0 i1 h0 n0 v U'.heap L ∧ FrameEnd U o U' L ({ frames := 0, cells := 0, slots := 0, locals := 0 } : Room).cells ({ frames := 0, cells := 0, slots := 0, locals := 0 } : Room).slots) := by
  refine MetFree.of_bodySF (plainFor_of_name pn_Gsup_Message) hisR ?_
  intro p e s m args below meth c s₁ Bd hml0 hP hK
  obtain ⟨rfl, hZ, hh⟩ := hP
  have hx := Bd.exec
  have hby := Bd.bytes
  have hml : c.maxLocals = 1 := hml0
  have hown : s.vm.findClass "com/example/portcullis/portcullis/wire/Gsup$Message" = some m.cls := findClass_of_methodNamed Bd.named
  have hnm := (name_of_methodNamed Bd.named Bd.method).1
  have hlk : meth.locks = false := BodyLoose.notSynchronized Bd
  have hrt := Bd.returns
  have X0 : Stand p l e ({ frames := 0, cells := 0, slots := 0, locals := 0 } : Room) s m #[(.ref o0)] below meth c s₁ [] 0 0 := Stand.of_body Bd
  have e0 : s₁.heap = h0 := by rw [← hh, Bd.state]; rfl
  have N0 := Fr.nil n0
  refine Goes.enter (kc := ({ frames := 0, cells := 0, slots := 0, locals := 0 } : Room).cells) (kn := ({ frames := 0, cells := 0, slots := 0, locals := 0 } : Room).slots) (Q := own_ir_Q Z o0 i1 h0 n0) (own_ir_ef m o0) ?_
  refine Goes.step (B := (s₁.setTop (mkF m 1 #[.val (.ref o0)] [(.ref o0)]))) (fun _ k => XS.aloadN X0.here hx rfl (hb hby d_prog_92_method_3_code_0) rfl rfl k) ?_
  obtain ⟨T101, X101, e101, st101⟩ := getF X0 hx hZ hown (host := "") (Or.inl (hw _ (List.mem_of_getElem? (i := 85) rfl))) Via.refl e0 pr0 (g := (mkF m 1 #[.val (.ref o0)] [(.ref o0)])) rfl rfl (hb hby d_prog_92_method_3_code_1)
  refine Goes.step (B := (T101.setTop (mkF m 4 #[.val (.ref o0)] [(.int i1)]))) (fun _ k => st101 _ k) ?_
  refine Goes.step (B := (T101.setTop (mkF m 5 #[.val (.ref o0)] [(.int (3 : Int32)), (.int i1)]))) (fun _ k => XS.iconst X101.here hx rfl (hb hby d_prog_92_method_3_code_4) k) ?_
  refine Goes.step (B := (T101.setTop (mkF m 6 #[.val (.ref o0)] [(.int (i1 &&& (3 : Int32)))]))) (fun _ k => XS.iand X101.here hx rfl (hb hby d_prog_92_method_3_code_5) rfl k) ?_
  by_cases hc102 : (i1 &&& (3 : Int32)) = (0 : Int32)
  · refine Goes.step (B := (T101.setTop (mkF m 9 #[.val (.ref o0)] []))) (fun _ k => XS.ifNo X101.here hx rfl (hb hby d_prog_92_method_3_code_6) rfl ((if0 _ _).trans (teq hc102).2) k) ?_
    refine Goes.step (B := (T101.setTop (mkF m 10 #[.val (.ref o0)] [(.int (1 : Int32))]))) (fun _ k => XS.iconst X101.here hx rfl (hb hby d_prog_92_method_3_code_9) k) ?_
    refine Goes.step (B := (T101.setTop (mkF m 14 #[.val (.ref o0)] [(.int (1 : Int32))]))) (fun _ k => XS.goto X101.here hx rfl (pc0 := 10) (pc' := 14) rfl (hb hby d_prog_92_method_3_code_10) (by decide) (by decide) k) ?_
    refine Goes.retN X101 hx hlk (t := .boolean) hrt (by simp) (hb hby d_prog_92_method_3_code_14) ?_ (by decide) (by decide)
    rw [e101]
    exact ⟨congrArg (fun z => some (Value.int z)) (show nar .boolean (1 : Int32) = (own_ir_fn i1) from (show nar .boolean (1 : Int32) = (1 : Int32) from rfl).trans (by simp only [own_ir_fn, if_pos hc102])), N0, rfl⟩
  · refine Goes.step (B := (T101.setTop (mkF m 13 #[.val (.ref o0)] []))) (fun _ k => XS.ifYes X101.here hx rfl (pc0 := 6) (pc' := 13) rfl (hb hby d_prog_92_method_3_code_6) rfl ((if0 _ _).trans (feq hc102).2) (by decide) (by decide) k) ?_
    refine Goes.step (B := (T101.setTop (mkF m 14 #[.val (.ref o0)] [(.int (0 : Int32))]))) (fun _ k => XS.iconst X101.here hx rfl (hb hby d_prog_92_method_3_code_13) k) ?_
    refine Goes.retN X101 hx hlk (t := .boolean) hrt (by simp) (hb hby d_prog_92_method_3_code_14) ?_ (by decide) (by decide)
    rw [e101]
    exact ⟨congrArg (fun z => some (Value.int z)) (show nar .boolean (0 : Int32) = (own_ir_fn i1) from (show nar .boolean (0 : Int32) = (0 : Int32) from rfl).trans (by simp only [own_ir_fn, if_neg hc102])), N0, rfl⟩
theorem own_len0 {args : Array Value} {s : State} {t : Term} {a : Addr} {cl : Cell} {ty : FieldType} (ev : t.eval args s none [] s = some (.ref a)) (A : Arr s s.heap a cl ty) (h : (Jvm.Cond.eq (.length t) (.int 0)).value args s none s [] = some true) : cl.slots.size = 0 := by
  have ha : s.arrayAt? a = some cl := A.fin (Vm.Alike.refl _)
  by_cases q : cl.slots.size < 2 ^ 31
  · have e := len_f ev ha q
    have e2 : (Term.int 0).eval args s none [] s = some (.int 0) := rfl
    have h2 : cl.slots.size.toInt32 = 0 := by simp only [Cond.value, e, e2] at h; simpa using h
    have h3 : cl.slots.size.toInt32.toInt = cl.slots.size := len_toInt (by omega)
    rw [h2] at h3
    have k : (0 : Int32).toInt = 0 := by decide
    omega
  · exfalso
    simp [Cond.value, Term.eval, ev, ha, q] at h
def own_law_j61 (x0 : Int32) : Int32 := (if (x0 % (4 : Int32)) = (0 : Int32) then (1 : Int32) else (0 : Int32))
theorem own_t (x0 : Int32) : (own_ir_fn x0) = (own_law_j61 x0) := by
  have h1 := c_mask x0 3 2 (by decide) (by decide)
  have h2 := c_irem x0 4 4 (by decide)
  have k : (0 : Int32).toInt = 0 := by decide
  have e : ((x0 &&& 3) = (0 : Int32)) ↔ ((x0 % 4) = (0 : Int32)) := by
    rw [← Int32.toInt_inj, ← Int32.toInt_inj, k]
    by_cases q : 0 ≤ x0.toInt
    · have := h2.1 q; omega
    · have := h2.2 (by omega); omega
  unfold own_ir_fn own_law_j61
  by_cases p : (x0 &&& 3) = (0 : Int32)
  · rw [if_pos p, if_pos (e.mp p)]
  · rw [if_neg p, if_neg (fun q => p (e.mpr q))]

theorem pd__ILjava_util_List__V : parseMethodDescriptor "(ILjava/util/List;)V" = some ⟨[.int, (.object "java/util/List")], none⟩ := by decide +kernel
theorem pd___Z : parseMethodDescriptor "()Z" = some ⟨[], some .boolean⟩ := by decide +kernel
theorem pd__IAB_V : parseMethodDescriptor "(I[B)V" = some ⟨[.int, (.array .byte)], none⟩ := by decide +kernel
theorem pd__Ljava_lang_Object__Z : parseMethodDescriptor "(Ljava/lang/Object;)Z" = some ⟨[(.object "java/lang/Object")], some .boolean⟩ := by decide +kernel
def own_law_Q (Z : State) (x0 : Int32) (x1 : Int32) (d0 : Addr) (kd : ClassId) (h0 : Heap) (n0 : Nat) (v : Option Value) (h : Heap) (L : List Loc) : Prop := v = some (.int 1) ∧ Fr n0 L
theorem own_law_ef (m : MethodId) (x0 : Int32) (x1 : Int32) : entryFrame m #[(.int x0), (.int x1)] maxLocals = mkF m 0 #[.val (.int x0), .val (.int x1), .unset, .unset, .unset] [] := by first | (simp [entryFrame, mkF, argsToLocals, Value.category, maxLocals]; done) | rfl
theorem pn_MessageIsRequestPinLaw : plainName "com/example/portcullis/portcullis/wire/MessageIsRequestPinLaw" = true := by first | (simp [plainName, overriddenIn]; done) | decide +kernel
set_option maxRecDepth 65536 in
set_option maxHeartbeats 40000000 in
theorem own_law_rm (l : Launch) (Z : State) (a0 : Array Value) (hw : ∀ d ∈ tables_1, d.before a0 Z = true) (ws : List Jvm.Cond) (x0 : Int32) (x1 : Int32) (d0 : Addr) (kd : ClassId) (h0 : Heap) (n0 : Nat) (Z0 : n0 ≤ h0.size) (pr0 : Sta Z h0 "java/util/ArrayList" "DEFAULTCAPACITY_EMPTY_ELEMENTDATA" "[Ljava/lang/Object;" (.ref d0)) (pr1 : Arv Z h0 d0 kd (.object "java/lang/Object") (0 : Int32) [] .null) :
    MetFree l x (head1 (Jvm.Cond.code x code maxLocals ret :: ws) room_1) (fun a U => a = #[(.int x0), (.int x1)] ∧ Z.Warmed39 U.vm ∧ U.heap = h0) (fun _ _ _ _ _ => True) (fun _ U o U' => ∃ v L, o = .returned v ∧ own_law_Q Z x0 x1 d0 kd h0 n0 v U'.heap L ∧ FrameEnd U o U' L room_1.cells room_1.slots) := by
  refine MetFree.of_bodySF (plainFor_of_name pn_MessageIsRequestPinLaw) hisR ?_
  intro p e s m args below meth c s₁ Bd hml0 hP hK
  obtain ⟨rfl, hZ, hh⟩ := hP
  have hx := Bd.exec
  have hby := Bd.bytes
  have hml : c.maxLocals = 5 := hml0
  have hown : s.vm.findClass "com/example/portcullis/portcullis/wire/MessageIsRequestPinLaw" = some m.cls := findClass_of_methodNamed Bd.named
  have hnm := (name_of_methodNamed Bd.named Bd.method).1
  have hlk : meth.locks = false := BodyLoose.notSynchronized Bd
  have hrt := Bd.returns
  have X0 : Stand p l e room_1 s m #[(.int x0), (.int x1)] below meth c s₁ [] 0 0 := Stand.of_body Bd
  have e0 : s₁.heap = h0 := by rw [← hh, Bd.state]; rfl
  have N0 := Fr.nil n0
  refine Goes.enter (kc := room_1.cells) (kn := room_1.slots) (Q := own_law_Q Z x0 x1 d0 kd h0 n0) (own_law_ef m x0 x1) ?_
  obtain ⟨T101, h101, X101, e101, E101, A101, D101, -, st101⟩ := newO X0 hx hZ hown (hw _ (List.mem_of_getElem? (i := 0) rfl)) (hw _ (List.mem_of_getElem? (i := 1) rfl)) (hw _ (List.mem_of_getElem? (i := 2) rfl)) e0 (g := (mkF m 0 #[.val (.int x0), .val (.int x1), .unset, .unset, .unset] [])) rfl (hb hby at_0) (by decide) (by decide)
  obtain ⟨b101, g101⟩ : ∃ z, z = h0.size := ⟨_, rfl⟩
  rw [← g101] at A101 D101 st101
  have gn101 : n0 ≤ b101 := Nat.le_trans Z0 (Nat.le_of_eq g101.symm)
  have sz101 : h0.size ≤ b101 := Nat.le_trans (Keep.refl h0 []).1 (Nat.le_of_eq g101.symm)
  have ne102 : d0 ≠ b101 := Nat.ne_of_lt (Nat.lt_of_lt_of_le pr1.lt (Nat.le_of_eq g101.symm))
  have f103 := pr0.ext E101
  have f104 := pr1.ext E101
  have f105 : Fld Z h101 b101 "java/util/AbstractList" "modCount" "I" (.int (0 : Int32)) := D101 (Or.inl (hw _ (List.mem_of_getElem? (i := 22) rfl))) (ty := .int) (by decide)
  have f106 : Fld Z h101 b101 "java/util/ArrayList" "elementData" "[Ljava/lang/Object;" .null := D101 (Or.inl (hw _ (List.mem_of_getElem? (i := 25) rfl))) (ty := (.array (.object "java/lang/Object"))) (by decide)
  have f107 : Fld Z h101 b101 "java/util/ArrayList" "size" "I" (.int (0 : Int32)) := D101 (Or.inl (hw _ (List.mem_of_getElem? (i := 55) rfl))) (ty := .int) (by decide)
  have Z101 : n0 ≤ h101.size := Nat.le_trans Z0 E101.1
  have K101 : Keep h0 h101 [] := (Keep.refl h0 []).ext E101
  refine Goes.step (B := (T101.setTop (mkF m 3 #[.val (.int x0), .val (.int x1), .unset, .unset, .unset] [(.ref b101)]))) (fun _ k => st101 _ k) ?_
  refine Goes.step (B := (T101.setTop (mkF m 4 #[.val (.int x0), .val (.int x1), .unset, .unset, .unset] [(.ref b101), (.ref b101)]))) (fun _ k => XS.dup X101.here hx rfl (hb hby at_3) rfl rfl k) ?_
  obtain ⟨_, _, ⟨T108, L108, k108, n108⟩, -, X108, ⟨Lc108, hQ108, l108, y108, z108⟩, st108⟩ := X101.specialBack hx (y := (⟨"java/util/ArrayList", "<init>", "()V"⟩ : MethodName)) rfl hown (mvT hZ (hw _ (List.mem_of_getElem? (i := 3) rfl))) (mvT hZ (hw _ (List.mem_of_getElem? (i := 4) rfl))) (mvT hZ (hw _ (List.mem_of_getElem? (i := 5) rfl))) (by decide) (backOf (W := 1) (own_in_rm l Z a0 hw [] b101 d0 h101 n0 Z101 A101 f105 f106 f107 f103 gn101) hZ (hw _ (List.mem_of_getElem? (i := 5) rfl)) (hw _ (List.mem_of_getElem? (i := 2) rfl)) (by decide) (by decide)) (g := (mkF m 4 #[.val (.int x0), .val (.int x1), .unset, .unset, .unset] [(.ref b101), (.ref b101)])) rfl (by rw [hml]; rfl) (Steps.refl _) (a := b101) (argsL := []) (rest := [(.ref b101)]) (lenOf pd___V rfl) rfl (by show 2 * 0 + _ ≤ _; exact Nat.le_of_eq rfl) (hb hby at_4) (fun _ _ => ⟨rfl, e101, (by decide : 1 + 0 ≤ _), (by decide : 3 + 0 ≤ _)⟩)
  dsimp only [Pt.U, Pt.locs, Pt.cells, Pt.slots] at X108 l108 y108 z108 st108 hQ108
  subst l108 y108 z108
  obtain ⟨rfl, N108q, K108q, p108_0, p108_1, p108_2, p108_3⟩ := hQ108
  have N108 := Fr.app N0 N108q
  have f109 := f103.keepN K108q (fun y q => by cases List.mem_singleton.mp q; exact A101.plainN)
  have f110 := f104.keep K108q (nm1 ne102)
  have f111 := A101.keep K108q
  have K108 : Keep h0 T108.heap [] := Keep.trans K101 K108q (fun y q => by cases List.mem_singleton.mp q; exact (Or.inr sz101))
  have Z108 : n0 ≤ T108.heap.size := Nat.le_trans Z101 K108q.1
  refine Goes.to (B := (T108.setTop (mkF m 7 #[.val (.int x0), .val (.int x1), .unset, .unset, .unset] [(.ref b101)]))) st108 ?_
  refine Goes.step (B := (T108.setTop (mkF m 8 #[.val (.int x0), .val (.int x1), .val (.ref b101), .unset, .unset] []))) (fun _ k => XS.astoreN X108.here hx rfl (hb hby at_7) rfl rfl (l' := #[.val (.int x0), .val (.int x1), .val (.ref b101), .unset, .unset]) rfl k) ?_
  refine Goes.step (B := (T108.setTop (mkF m 9 #[.val (.int x0), .val (.int x1), .val (.ref b101), .unset, .unset] [(.int x1)]))) (fun _ k => XS.iloadN X108.here hx rfl (hb hby at_8) rfl k) ?_
  refine Goes.step (B := (T108.setTop (mkF m 10 #[.val (.int x0), .val (.int x1), .val (.ref b101), .unset, .unset] [(.int (1 : Int32)), (.int x1)]))) (fun _ k => XS.iconst X108.here hx rfl (hb hby at_9) k) ?_
  refine Goes.step (B := (T108.setTop (mkF m 11 #[.val (.int x0), .val (.int x1), .val (.ref b101), .unset, .unset] [(.int (x1 &&& (1 : Int32)))]))) (fun _ k => XS.iand X108.here hx rfl (hb hby at_10) rfl k) ?_
  by_cases hc112 : (x1 &&& (1 : Int32)) = (0 : Int32)
  · refine Goes.step (B := (T108.setTop (mkF m 48 #[.val (.int x0), .val (.int x1), .val (.ref b101), .unset, .unset] []))) (fun _ k => XS.ifYes X108.here hx rfl (pc0 := 11) (pc' := 48) rfl (hb hby at_11) rfl ((if0 _ _).trans (teq hc112).1) (by decide) (by decide) k) ?_
    obtain ⟨T113, h113, X113, e113, E113, A113, D113, -, st113⟩ := newO X108 hx hZ hown (hw _ (List.mem_of_getElem? (i := 78) rfl)) (hw _ (List.mem_of_getElem? (i := 79) rfl)) (hw _ (List.mem_of_getElem? (i := 80) rfl)) rfl (g := (mkF m 48 #[.val (.int x0), .val (.int x1), .val (.ref b101), .unset, .unset] [])) rfl (hb hby at_48) (by decide) (by decide)
    obtain ⟨b113, g113⟩ : ∃ z, z = T108.heap.size := ⟨_, rfl⟩
    rw [← g113] at A113 D113 st113
    have gn113 : n0 ≤ b113 := Nat.le_trans Z108 (Nat.le_of_eq g113.symm)
    have sz113 : h0.size ≤ b113 := Nat.le_trans K108.1 (Nat.le_of_eq g113.symm)
    have ne114 : d0 ≠ b113 := Nat.ne_of_lt (Nat.lt_of_lt_of_le f110.lt (Nat.le_of_eq g113.symm))
    have ne115 : b101 ≠ b113 := Nat.ne_of_lt (Nat.lt_of_lt_of_le p108_0.lt (Nat.le_of_eq g113.symm))
    have f116 := f109.ext E113
    have f117 := f110.ext E113
    have f118 := p108_0.ext E113
    have f119 := p108_1.ext E113
    have f120 := p108_2.ext E113
    have f121 := p108_3.ext E113
    have f122 : Fld Z h113 b113 "com/example/portcullis/portcullis/wire/Gsup$Message" "type" "I" (.int (0 : Int32)) := D113 (Or.inr (hw _ (List.mem_of_getElem? (i := 86) rfl))) (ty := .int) (by decide)
    have f123 : Fld Z h113 b113 "com/example/portcullis/portcullis/wire/Gsup$Message" "elements" "Ljava/util/List;" .null := D113 (Or.inr (hw _ (List.mem_of_getElem? (i := 88) rfl))) (ty := (.object "java/util/List")) (by decide)
    have Z113 : n0 ≤ h113.size := Nat.le_trans Z108 E113.1
    have K113 : Keep h0 h113 [] := K108.ext E113
    refine Goes.step (B := (T113.setTop (mkF m 51 #[.val (.int x0), .val (.int x1), .val (.ref b101), .unset, .unset] [(.ref b113)]))) (fun _ k => st113 _ k) ?_
    refine Goes.step (B := (T113.setTop (mkF m 52 #[.val (.int x0), .val (.int x1), .val (.ref b101), .unset, .unset] [(.ref b113), (.ref b113)]))) (fun _ k => XS.dup X113.here hx rfl (hb hby at_51) rfl rfl k) ?_
    refine Goes.step (B := (T113.setTop (mkF m 53 #[.val (.int x0), .val (.int x1), .val (.ref b101), .unset, .unset] [(.int x0), (.ref b113), (.ref b113)]))) (fun _ k => XS.iloadN X113.here hx rfl (hb hby at_52) rfl k) ?_
    refine Goes.step (B := (T113.setTop (mkF m 54 #[.val (.int x0), .val (.int x1), .val (.ref b101), .unset, .unset] [(.ref b101), (.int x0), (.ref b113), (.ref b113)]))) (fun _ k => XS.aloadN X113.here hx rfl (hb hby at_53) rfl rfl k) ?_
    obtain ⟨_, _, ⟨T124, L124, k124, n124⟩, -, X124, ⟨Lc124, hQ124, l124, y124, z124⟩, st124⟩ := X113.specialBack hx (y := (⟨"com/example/portcullis/portcullis/wire/Gsup$Message", "<init>", "(ILjava/util/List;)V"⟩ : MethodName)) rfl hown (mvT hZ (hw _ (List.mem_of_getElem? (i := 81) rfl))) (mvT hZ (hw _ (List.mem_of_getElem? (i := 82) rfl))) (mvT hZ (hw _ (List.mem_of_getElem? (i := 83) rfl))) (by decide) (backOf (W := 1) (own_me_rm l Z a0 hw [] b113 x0 b101  h113 n0 Z113 A113 f122 f123 gn113) hZ (hw _ (List.mem_of_getElem? (i := 83) rfl)) (hw _ (List.mem_of_getElem? (i := 80) rfl)) (by decide) (by decide)) (g := (mkF m 54 #[.val (.int x0), .val (.int x1), .val (.ref b101), .unset, .unset] [(.ref b101), (.int x0), (.ref b113), (.ref b113)])) rfl (by rw [hml]; rfl) (Steps.refl _) (a := b113) (argsL := [(.int x0), (.ref b101)]) (rest := [(.ref b113)]) (lenOf pd__ILjava_util_List__V rfl) rfl (by show 2 * 0 + _ ≤ _; exact Nat.le_of_eq rfl) (hb hby at_54) (fun _ _ => ⟨rfl, e113, (by decide : 2 + 0 ≤ _), (by decide : 5 + 0 ≤ _)⟩)
    dsimp only [Pt.U, Pt.locs, Pt.cells, Pt.slots] at X124 l124 y124 z124 st124 hQ124
    subst l124 y124 z124
    obtain ⟨rfl, N124q, K124q, p124_0, p124_1⟩ := hQ124
    have N124 := Fr.app N108 N124q
    have f125 := f116.keepN K124q (fun y q => by cases List.mem_singleton.mp q; exact A113.plainN)
    have f126 := f117.keep K124q (nm1 ne114)
    have f127 := f118.keep K124q
    have f128 := f119.keep K124q (nm1 ne115)
    have f129 := f120.keep K124q (nm1 ne115)
    have f130 := f121.keep K124q (nm1 ne115)
    have f131 := A113.keep K124q
    have K124 : Keep h0 T124.heap [] := Keep.trans K113 K124q (fun y q => by cases List.mem_singleton.mp q; exact (Or.inr sz113))
    have Z124 : n0 ≤ T124.heap.size := Nat.le_trans Z113 K124q.1
    refine Goes.to (B := (T124.setTop (mkF m 57 #[.val (.int x0), .val (.int x1), .val (.ref b101), .unset, .unset] [(.ref b113)]))) st124 ?_
    refine Goes.step (B := (T124.setTop (mkF m 58 #[.val (.int x0), .val (.int x1), .val (.ref b101), .val (.ref b113), .unset] []))) (fun _ k => XS.astoreN X124.here hx rfl (hb hby at_57) rfl rfl (l' := #[.val (.int x0), .val (.int x1), .val (.ref b101), .val (.ref b113), .unset]) rfl k) ?_
    refine Goes.step (B := (T124.setTop (mkF m 59 #[.val (.int x0), .val (.int x1), .val (.ref b101), .val (.ref b113), .unset] [(.int x0)]))) (fun _ k => XS.iloadN X124.here hx rfl (hb hby at_58) rfl k) ?_
    refine Goes.step (B := (T124.setTop (mkF m 60 #[.val (.int x0), .val (.int x1), .val (.ref b101), .val (.ref b113), .unset] [(.int (4 : Int32)), (.int x0)]))) (fun _ k => XS.iconst X124.here hx rfl (hb hby at_59) k) ?_
    refine Goes.step (B := (T124.setTop (mkF m 61 #[.val (.int x0), .val (.int x1), .val (.ref b101), .val (.ref b113), .unset] [(.int (x0 % (4 : Int32)))]))) (fun _ k => iremM X124 hx rfl (hb hby at_60) rfl (by decide) k) ?_
    have J132 : Goes p e below s room_1.cells room_1.slots (own_law_Q Z x0 x1 d0 kd h0 n0) (T124.setTop (mkF m 69 #[.val (.int x0), .val (.int x1), .val (.ref b101), .val (.ref b113), .unset] [(.int (own_law_j61 x0))])) := by
      refine Goes.step (B := (T124.setTop (mkF m 71 #[.val (.int x0), .val (.int x1), .val (.ref b101), .val (.ref b113), .val (.int (own_law_j61 x0))] []))) (fun _ k => XS.istore X124.here hx rfl (hb hby at_69) rfl (l' := #[.val (.int x0), .val (.int x1), .val (.ref b101), .val (.ref b113), .val (.int (own_law_j61 x0))]) rfl k) ?_
      refine Goes.step (B := (T124.setTop (mkF m 72 #[.val (.int x0), .val (.int x1), .val (.ref b101), .val (.ref b113), .val (.int (own_law_j61 x0))] [(.ref b113)]))) (fun _ k => XS.aloadN X124.here hx rfl (hb hby at_71) rfl rfl k) ?_
      obtain ⟨cq133, kq133, q133a, q133b, q133c⟩ := isOf hZ rfl p124_0
      obtain ⟨_, _, ⟨T133, L133, k133, n133⟩, -, X133, ⟨Lc133, hQ133, l133, y133, z133⟩, st133⟩ := X124.virtualBack hx (y := (⟨"com/example/portcullis/portcullis/wire/Gsup$Message", "isRequest", "()Z"⟩ : MethodName)) (z := (⟨"com/example/portcullis/portcullis/wire/Gsup$Message", "isRequest", "()Z"⟩ : MethodName)) hown (mvT hZ (hw _ (List.mem_of_getElem? (i := 89) rfl))) (mvT hZ (hw _ (List.mem_of_getElem? (i := 90) rfl))) (notFace_of_selects (args := #[]) (mvT hZ (hw _ (List.mem_of_getElem? (i := 92) rfl)))) (mvT hZ (hw _ (List.mem_of_getElem? (i := 92) rfl))) (mvT hZ (hw _ (List.mem_of_getElem? (i := 91) rfl))) (by decide) (backOf (W := 0) (own_ir_rm l Z a0 hw [] b113 x0 T124.heap n0 Z124 p124_1) hZ (hw _ (List.mem_of_getElem? (i := 93) rfl)) (hw _ (List.mem_of_getElem? (i := 80) rfl)) (by decide) (by decide)) q133a q133c (g := (mkF m 72 #[.val (.int x0), .val (.int x1), .val (.ref b101), .val (.ref b113), .val (.int (own_law_j61 x0))] [(.ref b113)])) rfl (by rw [hml]; rfl) (Steps.refl _) (argsL := []) (rest := []) (lenOf pd___Z rfl) rfl (by show 2 * 0 + _ ≤ _; exact Nat.le_of_eq rfl) (hb hby at_72) (fun _ _ => ⟨rfl, rfl, (by decide : 2 + 0 ≤ _), (by decide : 5 + 0 ≤ _)⟩)
      dsimp only [Pt.U, Pt.locs, Pt.cells, Pt.slots] at X133 l133 y133 z133 st133 hQ133
      subst l133 y133 z133
      obtain ⟨rfl, N133q, e133⟩ := hQ133
      have N133 := Fr.app N124 N133q
      refine Goes.to (B := (T133.setTop (mkF m 75 #[.val (.int x0), .val (.int x1), .val (.ref b101), .val (.ref b113), .val (.int (own_law_j61 x0))] [(.int (own_ir_fn x0))]))) st133 ?_
      refine Goes.step (B := (T133.setTop (mkF m 77 #[.val (.int x0), .val (.int x1), .val (.ref b101), .val (.ref b113), .val (.int (own_law_j61 x0))] [(.int (own_law_j61 x0)), (.int (own_ir_fn x0))]))) (fun _ k => XS.iload X133.here hx rfl (hb hby at_75) rfl k) ?_
      have hc134 : (own_ir_fn x0) = (own_law_j61 x0) := own_t x0
      refine Goes.step (B := (T133.setTop (mkF m 80 #[.val (.int x0), .val (.int x1), .val (.ref b101), .val (.ref b113), .val (.int (own_law_j61 x0))] []))) (fun _ k => XS.icmpNo X133.here hx rfl (hb hby at_77) rfl (teq hc134).2 k) ?_
      refine Goes.step (B := (T133.setTop (mkF m 81 #[.val (.int x0), .val (.int x1), .val (.ref b101), .val (.ref b113), .val (.int (own_law_j61 x0))] [(.int (1 : Int32))]))) (fun _ k => XS.iconst X133.here hx rfl (hb hby at_80) k) ?_
      refine Goes.step (B := (T133.setTop (mkF m 85 #[.val (.int x0), .val (.int x1), .val (.ref b101), .val (.ref b113), .val (.int (own_law_j61 x0))] [(.int (1 : Int32))]))) (fun _ k => XS.goto X133.here hx rfl (pc0 := 81) (pc' := 85) rfl (hb hby at_81) (by decide) (by decide) k) ?_
      refine Goes.retN X133 hx hlk (t := .boolean) hrt (by simp) (hb hby at_85) ?_ (by decide) (by decide)
      rw [e133]
      exact ⟨rfl, N133⟩
    by_cases hc135 : (x0 % (4 : Int32)) = (0 : Int32)
    · refine Goes.step (B := (T124.setTop (mkF m 64 #[.val (.int x0), .val (.int x1), .val (.ref b101), .val (.ref b113), .unset] []))) (fun _ k => XS.ifNo X124.here hx rfl (hb hby at_61) rfl ((if0 _ _).trans (teq hc135).2) k) ?_
      refine Goes.step (B := (T124.setTop (mkF m 65 #[.val (.int x0), .val (.int x1), .val (.ref b101), .val (.ref b113), .unset] [(.int (1 : Int32))]))) (fun _ k => XS.iconst X124.here hx rfl (hb hby at_64) k) ?_
      refine Goes.step (B := (T124.setTop (mkF m 69 #[.val (.int x0), .val (.int x1), .val (.ref b101), .val (.ref b113), .unset] [(.int (1 : Int32))]))) (fun _ k => XS.goto X124.here hx rfl (pc0 := 65) (pc' := 69) rfl (hb hby at_65) (by decide) (by decide) k) ?_
      rw [show own_law_j61 x0 = (1 : Int32) from by simp only [own_law_j61, if_pos hc135]] at J132
      exact J132
    · refine Goes.step (B := (T124.setTop (mkF m 68 #[.val (.int x0), .val (.int x1), .val (.ref b101), .val (.ref b113), .unset] []))) (fun _ k => XS.ifYes X124.here hx rfl (pc0 := 61) (pc' := 68) rfl (hb hby at_61) rfl ((if0 _ _).trans (feq hc135).2) (by decide) (by decide) k) ?_
      refine Goes.step (B := (T124.setTop (mkF m 69 #[.val (.int x0), .val (.int x1), .val (.ref b101), .val (.ref b113), .unset] [(.int (0 : Int32))]))) (fun _ k => XS.iconst X124.here hx rfl (hb hby at_68) k) ?_
      rw [show own_law_j61 x0 = (0 : Int32) from by simp only [own_law_j61, if_neg hc135]] at J132
      exact J132
  · refine Goes.step (B := (T108.setTop (mkF m 14 #[.val (.int x0), .val (.int x1), .val (.ref b101), .unset, .unset] []))) (fun _ k => XS.ifNo X108.here hx rfl (hb hby at_11) rfl ((if0 _ _).trans (feq hc112).1) k) ?_
    refine Goes.step (B := (T108.setTop (mkF m 15 #[.val (.int x0), .val (.int x1), .val (.ref b101), .unset, .unset] [(.int (1 : Int32))]))) (fun _ k => XS.iconst X108.here hx rfl (hb hby at_14) k) ?_
    obtain ⟨T136, h136, k136, X136, e136, E136, A136, st136⟩ := newP X108 hx hZ (hw _ (List.mem_of_getElem? (i := 26) rfl)) rfl (g := (mkF m 15 #[.val (.int x0), .val (.int x1), .val (.ref b101), .unset, .unset] [(.int (1 : Int32))])) rfl (hb hby at_15) rfl (by decide) (cap := 1) (by decide) (by decide) (by decide) (by decide)
    obtain ⟨b136, g136⟩ : ∃ z, z = T108.heap.size := ⟨_, rfl⟩
    rw [← g136] at A136 st136
    have gn136 : n0 ≤ b136 := Nat.le_trans Z108 (Nat.le_of_eq g136.symm)
    have sz136 : h0.size ≤ b136 := Nat.le_trans K108.1 (Nat.le_of_eq g136.symm)
    have ne137 : d0 ≠ b136 := Nat.ne_of_lt (Nat.lt_of_lt_of_le f110.lt (Nat.le_of_eq g136.symm))
    have ne138 : b101 ≠ b136 := Nat.ne_of_lt (Nat.lt_of_lt_of_le p108_0.lt (Nat.le_of_eq g136.symm))
    have f139 := f109.ext E136
    have f140 := f110.ext E136
    have f141 := p108_0.ext E136
    have f142 := p108_1.ext E136
    have f143 := p108_2.ext E136
    have f144 := p108_3.ext E136
    have V136 : Arv Z h136 b136 k136 .byte (1 : Int32) [(.int (0 : Int32))] (.int (0 : Int32)) := (Arv.new A136 (by decide)).pad (pad_rep [] (.int (0 : Int32)) 1)
    have Z136 : n0 ≤ h136.size := Nat.le_trans Z108 E136.1
    have K136 : Keep h0 h136 [] := K108.ext E136
    refine Goes.step (B := (T136.setTop (mkF m 17 #[.val (.int x0), .val (.int x1), .val (.ref b101), .unset, .unset] [(.ref b136)]))) (fun _ k => st136 _ k) ?_
    refine Goes.step (B := (T136.setTop (mkF m 18 #[.val (.int x0), .val (.int x1), .val (.ref b101), .unset, .unset] [(.ref b136), (.ref b136)]))) (fun _ k => XS.dup X136.here hx rfl (hb hby at_17) rfl rfl k) ?_
    refine Goes.step (B := (T136.setTop (mkF m 19 #[.val (.int x0), .val (.int x1), .val (.ref b101), .unset, .unset] [(.int (0 : Int32)), (.ref b136), (.ref b136)]))) (fun _ k => XS.iconst X136.here hx rfl (hb hby at_18) k) ?_
    refine Goes.step (B := (T136.setTop (mkF m 20 #[.val (.int x0), .val (.int x1), .val (.ref b101), .unset, .unset] [(.int x1), (.int (0 : Int32)), (.ref b136), (.ref b136)]))) (fun _ k => XS.iloadN X136.here hx rfl (hb hby at_19) rfl k) ?_
    refine Goes.step (B := (T136.setTop (mkF m 22 #[.val (.int x0), .val (.int x1), .val (.ref b101), .unset, .unset] [(.int (8 : Int32)), (.int x1), (.int (0 : Int32)), (.ref b136), (.ref b136)]))) (fun _ k => XS.bipush X136.here hx rfl (hb hby at_20) k) ?_
    refine Goes.step (B := (T136.setTop (mkF m 23 #[.val (.int x0), .val (.int x1), .val (.ref b101), .unset, .unset] [(.int (x1.toUInt32 >>> ((8 : Int32) &&& 31).toUInt32).toInt32), (.int (0 : Int32)), (.ref b136), (.ref b136)]))) (fun _ k => XS.iushr X136.here hx rfl (hb hby at_22) rfl k) ?_
    refine Goes.step (B := (T136.setTop (mkF m 24 #[.val (.int x0), .val (.int x1), .val (.ref b101), .unset, .unset] [(.int ((x1.toUInt32 >>> ((8 : Int32) &&& 31).toUInt32).toInt32).toInt8.toInt32), (.int (0 : Int32)), (.ref b136), (.ref b136)]))) (fun _ k => XS.i2b X136.here hx rfl (hb hby at_23) rfl k) ?_
    obtain ⟨cl145, Ar145, q145, S145, M145, H145, G145⟩ := id V136
    have hin145 : ¬ ((0 : Int32) < 0 ∨ cl145.slots.size ≤ ((0 : Int32)).toNatClampNeg) := inb_of S145 ⟨by decide, by decide⟩
    obtain ⟨T145, h145, X145, e145, W145, st145⟩ := stB X136 hx hZ e136 Ar145 (j := (0 : Int32)) hin145 (g := (mkF m 24 #[.val (.int x0), .val (.int x1), .val (.ref b101), .unset, .unset] [(.int ((x1.toUInt32 >>> ((8 : Int32) &&& 31).toUInt32).toInt32).toInt8.toInt32), (.int (0 : Int32)), (.ref b136), (.ref b136)])) rfl rfl (hb hby at_24)
    have f146 := f139.wr W145
    have f147 := f140.other W145 ne137
    have f148 := f141.wr W145
    have f149 := f142.other W145 (Or.inl ne138)
    have f150 := f143.other W145 (Or.inl ne138)
    have f151 := f144.other W145 (Or.inl ne138)
    have N145 := Fr.snoc X145 N108 gn136
    have K145 : Keep h0 h145 [] := K136.wr W145 (Or.inr sz136)
    have Z145 : n0 ≤ h145.size := Nat.le_trans Z136 (Nat.le_of_eq W145.size.symm)
    have V145 : Arv Z h145 b136 k136 .byte (1 : Int32) [(.int (nar .byte ((x1.toUInt32 >>> ((8 : Int32) &&& 31).toUInt32).toInt32).toInt8.toInt32))] (.int (0 : Int32)) := Arv.set Ar145 q145 S145 M145 H145 G145 (fits_nar_byte _) W145 0 rfl (Nat.le_of_ble_eq_true rfl)
    refine Goes.step (B := (T145.setTop (mkF m 25 #[.val (.int x0), .val (.int x1), .val (.ref b101), .unset, .unset] [(.ref b136)]))) (fun _ k => st145 _ k) ?_
    refine Goes.step (B := (T145.setTop (mkF m 26 #[.val (.int x0), .val (.int x1), .val (.ref b101), .val (.ref b136), .unset] []))) (fun _ k => XS.astoreN X145.here hx rfl (hb hby at_25) rfl rfl (l' := #[.val (.int x0), .val (.int x1), .val (.ref b101), .val (.ref b136), .unset]) rfl k) ?_
    refine Goes.step (B := (T145.setTop (mkF m 27 #[.val (.int x0), .val (.int x1), .val (.ref b101), .val (.ref b136), .unset] [(.ref b101)]))) (fun _ k => XS.aloadN X145.here hx rfl (hb hby at_26) rfl rfl k) ?_
    obtain ⟨T152, h152, X152, e152, E152, A152, D152, -, st152⟩ := newO X145 hx hZ hown (hw _ (List.mem_of_getElem? (i := 27) rfl)) (hw _ (List.mem_of_getElem? (i := 28) rfl)) (hw _ (List.mem_of_getElem? (i := 29) rfl)) e145 (g := (mkF m 27 #[.val (.int x0), .val (.int x1), .val (.ref b101), .val (.ref b136), .unset] [(.ref b101)])) rfl (hb hby at_27) (by decide) (by decide)
    obtain ⟨b152, g152⟩ : ∃ z, z = h145.size := ⟨_, rfl⟩
    rw [← g152] at A152 D152 st152
    have gn152 : n0 ≤ b152 := Nat.le_trans Z145 (Nat.le_of_eq g152.symm)
    have sz152 : h0.size ≤ b152 := Nat.le_trans K145.1 (Nat.le_of_eq g152.symm)
    have ne153 : d0 ≠ b152 := Nat.ne_of_lt (Nat.lt_of_lt_of_le f147.lt (Nat.le_of_eq g152.symm))
    have ne154 : b101 ≠ b152 := Nat.ne_of_lt (Nat.lt_of_lt_of_le f148.lt (Nat.le_of_eq g152.symm))
    have ne155 : b136 ≠ b152 := Nat.ne_of_lt (Nat.lt_of_lt_of_le V145.lt (Nat.le_of_eq g152.symm))
    have f156 := f146.ext E152
    have f157 := f147.ext E152
    have f158 := f148.ext E152
    have f159 := f149.ext E152
    have f160 := f150.ext E152
    have f161 := f151.ext E152
    have f162 := V145.ext E152
    have f163 : Fld Z h152 b152 "com/example/portcullis/portcullis/wire/Gsup$Element" "tag" "I" (.int (0 : Int32)) := D152 (Or.inr (hw _ (List.mem_of_getElem? (i := 40) rfl))) (ty := .int) (by decide)
    have f164 : Fld Z h152 b152 "com/example/portcullis/portcullis/wire/Gsup$Element" "value" "[B" .null := D152 (Or.inr (hw _ (List.mem_of_getElem? (i := 42) rfl))) (ty := (.array .byte)) (by decide)
    have Z152 : n0 ≤ h152.size := Nat.le_trans Z145 E152.1
    have K152 : Keep h0 h152 [] := K145.ext E152
    refine Goes.step (B := (T152.setTop (mkF m 30 #[.val (.int x0), .val (.int x1), .val (.ref b101), .val (.ref b136), .unset] [(.ref b152), (.ref b101)]))) (fun _ k => st152 _ k) ?_
    refine Goes.step (B := (T152.setTop (mkF m 31 #[.val (.int x0), .val (.int x1), .val (.ref b101), .val (.ref b136), .unset] [(.ref b152), (.ref b152), (.ref b101)]))) (fun _ k => XS.dup X152.here hx rfl (hb hby at_30) rfl rfl k) ?_
    refine Goes.step (B := (T152.setTop (mkF m 32 #[.val (.int x0), .val (.int x1), .val (.ref b101), .val (.ref b136), .unset] [(.int x1), (.ref b152), (.ref b152), (.ref b101)]))) (fun _ k => XS.iloadN X152.here hx rfl (hb hby at_31) rfl k) ?_
    refine Goes.step (B := (T152.setTop (mkF m 33 #[.val (.int x0), .val (.int x1), .val (.ref b101), .val (.ref b136), .unset] [(.int (1 : Int32)), (.int x1), (.ref b152), (.ref b152), (.ref b101)]))) (fun _ k => XS.iconst X152.here hx rfl (hb hby at_32) k) ?_
    refine Goes.step (B := (T152.setTop (mkF m 34 #[.val (.int x0), .val (.int x1), .val (.ref b101), .val (.ref b136), .unset] [(.int (x1.toUInt32 >>> ((1 : Int32) &&& 31).toUInt32).toInt32), (.ref b152), (.ref b152), (.ref b101)]))) (fun _ k => XS.iushr X152.here hx rfl (hb hby at_33) rfl k) ?_
    refine Goes.step (B := (T152.setTop (mkF m 37 #[.val (.int x0), .val (.int x1), .val (.ref b101), .val (.ref b136), .unset] [(.int (255 : Int32)), (.int (x1.toUInt32 >>> ((1 : Int32) &&& 31).toUInt32).toInt32), (.ref b152), (.ref b152), (.ref b101)]))) (fun _ k => XS.sipush X152.here hx rfl (hb hby at_34) k) ?_
    refine Goes.step (B := (T152.setTop (mkF m 38 #[.val (.int x0), .val (.int x1), .val (.ref b101), .val (.ref b136), .unset] [(.int ((x1.toUInt32 >>> ((1 : Int32) &&& 31).toUInt32).toInt32 &&& (255 : Int32))), (.ref b152), (.ref b152), (.ref b101)]))) (fun _ k => XS.iand X152.here hx rfl (hb hby at_37) rfl k) ?_
    refine Goes.step (B := (T152.setTop (mkF m 39 #[.val (.int x0), .val (.int x1), .val (.ref b101), .val (.ref b136), .unset] [(.ref b136), (.int ((x1.toUInt32 >>> ((1 : Int32) &&& 31).toUInt32).toInt32 &&& (255 : Int32))), (.ref b152), (.ref b152), (.ref b101)]))) (fun _ k => XS.aloadN X152.here hx rfl (hb hby at_38) rfl rfl k) ?_
    obtain ⟨_, _, ⟨T165, L165, k165, n165⟩, -, X165, ⟨Lc165, hQ165, l165, y165, z165⟩, st165⟩ := X152.specialBack hx (y := (⟨"com/example/portcullis/portcullis/wire/Gsup$Element", "<init>", "(I[B)V"⟩ : MethodName)) rfl hown (mvT hZ (hw _ (List.mem_of_getElem? (i := 30) rfl))) (mvT hZ (hw _ (List.mem_of_getElem? (i := 31) rfl))) (mvT hZ (hw _ (List.mem_of_getElem? (i := 32) rfl))) (by decide) (backOf (W := 2) (own_el_rm l Z a0 hw [] b152 ((x1.toUInt32 >>> ((1 : Int32) &&& 31).toUInt32).toInt32 &&& (255 : Int32)) b136  h152 n0 Z152 A152 f163 f164 gn152) hZ (hw _ (List.mem_of_getElem? (i := 32) rfl)) (hw _ (List.mem_of_getElem? (i := 29) rfl)) (by decide) (by decide)) (g := (mkF m 39 #[.val (.int x0), .val (.int x1), .val (.ref b101), .val (.ref b136), .unset] [(.ref b136), (.int ((x1.toUInt32 >>> ((1 : Int32) &&& 31).toUInt32).toInt32 &&& (255 : Int32))), (.ref b152), (.ref b152), (.ref b101)])) rfl (by rw [hml]; rfl) (Steps.refl _) (a := b152) (argsL := [(.int ((x1.toUInt32 >>> ((1 : Int32) &&& 31).toUInt32).toInt32 &&& (255 : Int32))), (.ref b136)]) (rest := [(.ref b152), (.ref b101)]) (lenOf pd__IAB_V rfl) rfl (by show 2 * 0 + _ ≤ _; exact Nat.le_of_eq rfl) (hb hby at_39) (fun _ _ => ⟨rfl, e152, (by decide : 3 + 0 ≤ _), (by decide : 6 + 0 ≤ _)⟩)
    dsimp only [Pt.U, Pt.locs, Pt.cells, Pt.slots] at X165 l165 y165 z165 st165 hQ165
    subst l165 y165 z165
    obtain ⟨rfl, N165q, K165q, p165_0⟩ := hQ165
    have N165 := Fr.app N145 N165q
    have f166 := f156.keepN K165q (fun y q => by cases List.mem_singleton.mp q; exact A152.plainN)
    have f167 := f157.keep K165q (nm1 ne153)
    have f168 := f158.keep K165q
    have f169 := f159.keep K165q (nm1 ne154)
    have f170 := f160.keep K165q (nm1 ne154)
    have f171 := f161.keep K165q (nm1 ne154)
    have f172 := f162.keep K165q (nm1 ne155)
    have f173 := A152.keep K165q
    have K165 : Keep h0 T165.heap [] := Keep.trans K152 K165q (fun y q => by cases List.mem_singleton.mp q; exact (Or.inr sz152))
    have Z165 : n0 ≤ T165.heap.size := Nat.le_trans Z152 K165q.1
    refine Goes.to (B := (T165.setTop (mkF m 42 #[.val (.int x0), .val (.int x1), .val (.ref b101), .val (.ref b136), .unset] [(.ref b152), (.ref b101)]))) st165 ?_
    obtain ⟨cq174, kq174, q174a, q174b, q174c⟩ := isOf hZ rfl f168
    obtain ⟨_, _, ⟨T174, L174, k174, n174⟩, -, X174, ⟨Lc174, hQ174, l174, y174, z174⟩, st174⟩ := X165.interfaceBack hx (xi := (⟨"java/util/List", "add", "(Ljava/lang/Object;)Z"⟩ : MethodName)) (y := (⟨"java/util/ArrayList", "add", "(Ljava/lang/Object;)Z"⟩ : MethodName)) hown (mvT hZ (hw _ (List.mem_of_getElem? (i := 43) rfl))) (mvT hZ (hw _ (List.mem_of_getElem? (i := 44) rfl))) (mvT hZ (hw _ (List.mem_of_getElem? (i := 45) rfl))) (mvT hZ (hw _ (List.mem_of_getElem? (i := 46) rfl))) (mvT hZ (hw _ (List.mem_of_getElem? (i := 47) rfl))) (mvT hZ (hw _ (List.mem_of_getElem? (i := 48) rfl))) (mvT hZ (hw _ (List.mem_of_getElem? (i := 49) rfl))) (mvT hZ (hw _ (List.mem_of_getElem? (i := 50) rfl))) (by decide) (backOf (W := 0) (own_ad1_rm l Z a0 hw [] b101 b152 d0 kd (0 : Int32) T165.heap n0 Z165 f168 f170 f171 f166 f167 gn101 ne102 p165_0 (Ne.symm ne154) f169) hZ (hw _ (List.mem_of_getElem? (i := 51) rfl)) (hw _ (List.mem_of_getElem? (i := 2) rfl)) (by decide) (by decide)) q174a q174b q174c (g := (mkF m 42 #[.val (.int x0), .val (.int x1), .val (.ref b101), .val (.ref b136), .unset] [(.ref b152), (.ref b101)])) rfl (by rw [hml]; rfl) (Steps.refl _) (argsL := [(.ref b152)]) (rest := []) (lenOf pd__Ljava_lang_Object__Z rfl) rfl (by show 2 * 0 + _ ≤ _; exact Nat.le_of_eq rfl) (hb hby at_42) (fun _ _ => ⟨rfl, rfl, (by decide : 3 + 1 ≤ _), (by decide : 6 + 10 ≤ _)⟩)
    dsimp only [Pt.U, Pt.locs, Pt.cells, Pt.slots] at X174 l174 y174 z174 st174 hQ174
    subst l174 y174 z174
    obtain ⟨rfl, N174q, K174q, p174_0⟩ := hQ174
    have N174 := Fr.app N165 N174q
    have f175 := f166.keepN K174q (fun y q => by cases List.mem_singleton.mp q; exact f168.plainN)
    have f176 := f167.keep K174q (nm1 ne102)
    have f177 := f168.keep K174q
    have f178 := f172.keep K174q (nm1 (Ne.symm ne138))
    have f179 := p165_0.keep K174q
    have K174 : Keep h0 T174.heap [] := Keep.trans K165 K174q (fun y q => by cases List.mem_singleton.mp q; exact (Or.inr sz101))
    have Z174 : n0 ≤ T174.heap.size := Nat.le_trans Z165 K174q.1
    refine Goes.to (B := (T174.setTop (mkF m 47 #[.val (.int x0), .val (.int x1), .val (.ref b101), .val (.ref b136), .unset] [(.int (1 : Int32))]))) st174 ?_
    refine Goes.step (B := (T174.setTop (mkF m 48 #[.val (.int x0), .val (.int x1), .val (.ref b101), .val (.ref b136), .unset] []))) (fun _ k => XS.pop X174.here hx rfl (hb hby at_47) rfl rfl k) ?_
    obtain ⟨T180, h180, X180, e180, E180, A180, D180, -, st180⟩ := newO X174 hx hZ hown (hw _ (List.mem_of_getElem? (i := 78) rfl)) (hw _ (List.mem_of_getElem? (i := 79) rfl)) (hw _ (List.mem_of_getElem? (i := 80) rfl)) rfl (g := (mkF m 48 #[.val (.int x0), .val (.int x1), .val (.ref b101), .val (.ref b136), .unset] [])) rfl (hb hby at_48) (by decide) (by decide)
    obtain ⟨b180, g180⟩ : ∃ z, z = T174.heap.size := ⟨_, rfl⟩
    rw [← g180] at A180 D180 st180
    have gn180 : n0 ≤ b180 := Nat.le_trans Z174 (Nat.le_of_eq g180.symm)
    have sz180 : h0.size ≤ b180 := Nat.le_trans K174.1 (Nat.le_of_eq g180.symm)
    have ne181 : d0 ≠ b180 := Nat.ne_of_lt (Nat.lt_of_lt_of_le f176.lt (Nat.le_of_eq g180.symm))
    have ne182 : b101 ≠ b180 := Nat.ne_of_lt (Nat.lt_of_lt_of_le p174_0.lt (Nat.le_of_eq g180.symm))
    have ne183 : b136 ≠ b180 := Nat.ne_of_lt (Nat.lt_of_lt_of_le f178.lt (Nat.le_of_eq g180.symm))
    have ne184 : b152 ≠ b180 := Nat.ne_of_lt (Nat.lt_of_lt_of_le f179.lt (Nat.le_of_eq g180.symm))
    have f185 := f175.ext E180
    have f186 := f176.ext E180
    have f187 := p174_0.ext E180
    have f188 := f178.ext E180
    have f189 := f179.ext E180
    have f190 : Fld Z h180 b180 "com/example/portcullis/portcullis/wire/Gsup$Message" "type" "I" (.int (0 : Int32)) := D180 (Or.inr (hw _ (List.mem_of_getElem? (i := 86) rfl))) (ty := .int) (by decide)
    have f191 : Fld Z h180 b180 "com/example/portcullis/portcullis/wire/Gsup$Message" "elements" "Ljava/util/List;" .null := D180 (Or.inr (hw _ (List.mem_of_getElem? (i := 88) rfl))) (ty := (.object "java/util/List")) (by decide)
    have Z180 : n0 ≤ h180.size := Nat.le_trans Z174 E180.1
    have K180 : Keep h0 h180 [] := K174.ext E180
    refine Goes.step (B := (T180.setTop (mkF m 51 #[.val (.int x0), .val (.int x1), .val (.ref b101), .val (.ref b136), .unset] [(.ref b180)]))) (fun _ k => st180 _ k) ?_
    refine Goes.step (B := (T180.setTop (mkF m 52 #[.val (.int x0), .val (.int x1), .val (.ref b101), .val (.ref b136), .unset] [(.ref b180), (.ref b180)]))) (fun _ k => XS.dup X180.here hx rfl (hb hby at_51) rfl rfl k) ?_
    refine Goes.step (B := (T180.setTop (mkF m 53 #[.val (.int x0), .val (.int x1), .val (.ref b101), .val (.ref b136), .unset] [(.int x0), (.ref b180), (.ref b180)]))) (fun _ k => XS.iloadN X180.here hx rfl (hb hby at_52) rfl k) ?_
    refine Goes.step (B := (T180.setTop (mkF m 54 #[.val (.int x0), .val (.int x1), .val (.ref b101), .val (.ref b136), .unset] [(.ref b101), (.int x0), (.ref b180), (.ref b180)]))) (fun _ k => XS.aloadN X180.here hx rfl (hb hby at_53) rfl rfl k) ?_
    obtain ⟨_, _, ⟨T192, L192, k192, n192⟩, -, X192, ⟨Lc192, hQ192, l192, y192, z192⟩, st192⟩ := X180.specialBack hx (y := (⟨"com/example/portcullis/portcullis/wire/Gsup$Message", "<init>", "(ILjava/util/List;)V"⟩ : MethodName)) rfl hown (mvT hZ (hw _ (List.mem_of_getElem? (i := 81) rfl))) (mvT hZ (hw _ (List.mem_of_getElem? (i := 82) rfl))) (mvT hZ (hw _ (List.mem_of_getElem? (i := 83) rfl))) (by decide) (backOf (W := 1) (own_me_rm l Z a0 hw [] b180 x0 b101  h180 n0 Z180 A180 f190 f191 gn180) hZ (hw _ (List.mem_of_getElem? (i := 83) rfl)) (hw _ (List.mem_of_getElem? (i := 80) rfl)) (by decide) (by decide)) (g := (mkF m 54 #[.val (.int x0), .val (.int x1), .val (.ref b101), .val (.ref b136), .unset] [(.ref b101), (.int x0), (.ref b180), (.ref b180)])) rfl (by rw [hml]; rfl) (Steps.refl _) (a := b180) (argsL := [(.int x0), (.ref b101)]) (rest := [(.ref b180)]) (lenOf pd__ILjava_util_List__V rfl) rfl (by show 2 * 0 + _ ≤ _; exact Nat.le_of_eq rfl) (hb hby at_54) (fun _ _ => ⟨rfl, e180, (by decide : 5 + 0 ≤ _), (by decide : 18 + 0 ≤ _)⟩)
    dsimp only [Pt.U, Pt.locs, Pt.cells, Pt.slots] at X192 l192 y192 z192 st192 hQ192
    subst l192 y192 z192
    obtain ⟨rfl, N192q, K192q, p192_0, p192_1⟩ := hQ192
    have N192 := Fr.app N174 N192q
    have f193 := f185.keepN K192q (fun y q => by cases List.mem_singleton.mp q; exact A180.plainN)
    have f194 := f186.keep K192q (nm1 ne181)
    have f195 := f187.keep K192q
    have f196 := f188.keep K192q (nm1 ne183)
    have f197 := f189.keep K192q
    have f198 := A180.keep K192q
    have K192 : Keep h0 T192.heap [] := Keep.trans K180 K192q (fun y q => by cases List.mem_singleton.mp q; exact (Or.inr sz180))
    have Z192 : n0 ≤ T192.heap.size := Nat.le_trans Z180 K192q.1
    refine Goes.to (B := (T192.setTop (mkF m 57 #[.val (.int x0), .val (.int x1), .val (.ref b101), .val (.ref b136), .unset] [(.ref b180)]))) st192 ?_
    refine Goes.step (B := (T192.setTop (mkF m 58 #[.val (.int x0), .val (.int x1), .val (.ref b101), .val (.ref b180), .unset] []))) (fun _ k => XS.astoreN X192.here hx rfl (hb hby at_57) rfl rfl (l' := #[.val (.int x0), .val (.int x1), .val (.ref b101), .val (.ref b180), .unset]) rfl k) ?_
    refine Goes.step (B := (T192.setTop (mkF m 59 #[.val (.int x0), .val (.int x1), .val (.ref b101), .val (.ref b180), .unset] [(.int x0)]))) (fun _ k => XS.iloadN X192.here hx rfl (hb hby at_58) rfl k) ?_
    refine Goes.step (B := (T192.setTop (mkF m 60 #[.val (.int x0), .val (.int x1), .val (.ref b101), .val (.ref b180), .unset] [(.int (4 : Int32)), (.int x0)]))) (fun _ k => XS.iconst X192.here hx rfl (hb hby at_59) k) ?_
    refine Goes.step (B := (T192.setTop (mkF m 61 #[.val (.int x0), .val (.int x1), .val (.ref b101), .val (.ref b180), .unset] [(.int (x0 % (4 : Int32)))]))) (fun _ k => iremM X192 hx rfl (hb hby at_60) rfl (by decide) k) ?_
    have J199 : Goes p e below s room_1.cells room_1.slots (own_law_Q Z x0 x1 d0 kd h0 n0) (T192.setTop (mkF m 69 #[.val (.int x0), .val (.int x1), .val (.ref b101), .val (.ref b180), .unset] [(.int (own_law_j61 x0))])) := by
      refine Goes.step (B := (T192.setTop (mkF m 71 #[.val (.int x0), .val (.int x1), .val (.ref b101), .val (.ref b180), .val (.int (own_law_j61 x0))] []))) (fun _ k => XS.istore X192.here hx rfl (hb hby at_69) rfl (l' := #[.val (.int x0), .val (.int x1), .val (.ref b101), .val (.ref b180), .val (.int (own_law_j61 x0))]) rfl k) ?_
      refine Goes.step (B := (T192.setTop (mkF m 72 #[.val (.int x0), .val (.int x1), .val (.ref b101), .val (.ref b180), .val (.int (own_law_j61 x0))] [(.ref b180)]))) (fun _ k => XS.aloadN X192.here hx rfl (hb hby at_71) rfl rfl k) ?_
      obtain ⟨cq200, kq200, q200a, q200b, q200c⟩ := isOf hZ rfl p192_0
      obtain ⟨_, _, ⟨T200, L200, k200, n200⟩, -, X200, ⟨Lc200, hQ200, l200, y200, z200⟩, st200⟩ := X192.virtualBack hx (y := (⟨"com/example/portcullis/portcullis/wire/Gsup$Message", "isRequest", "()Z"⟩ : MethodName)) (z := (⟨"com/example/portcullis/portcullis/wire/Gsup$Message", "isRequest", "()Z"⟩ : MethodName)) hown (mvT hZ (hw _ (List.mem_of_getElem? (i := 89) rfl))) (mvT hZ (hw _ (List.mem_of_getElem? (i := 90) rfl))) (notFace_of_selects (args := #[]) (mvT hZ (hw _ (List.mem_of_getElem? (i := 92) rfl)))) (mvT hZ (hw _ (List.mem_of_getElem? (i := 92) rfl))) (mvT hZ (hw _ (List.mem_of_getElem? (i := 91) rfl))) (by decide) (backOf (W := 0) (own_ir_rm l Z a0 hw [] b180 x0 T192.heap n0 Z192 p192_1) hZ (hw _ (List.mem_of_getElem? (i := 93) rfl)) (hw _ (List.mem_of_getElem? (i := 80) rfl)) (by decide) (by decide)) q200a q200c (g := (mkF m 72 #[.val (.int x0), .val (.int x1), .val (.ref b101), .val (.ref b180), .val (.int (own_law_j61 x0))] [(.ref b180)])) rfl (by rw [hml]; rfl) (Steps.refl _) (argsL := []) (rest := []) (lenOf pd___Z rfl) rfl (by show 2 * 0 + _ ≤ _; exact Nat.le_of_eq rfl) (hb hby at_72) (fun _ _ => ⟨rfl, rfl, (by decide : 5 + 0 ≤ _), (by decide : 18 + 0 ≤ _)⟩)
      dsimp only [Pt.U, Pt.locs, Pt.cells, Pt.slots] at X200 l200 y200 z200 st200 hQ200
      subst l200 y200 z200
      obtain ⟨rfl, N200q, e200⟩ := hQ200
      have N200 := Fr.app N192 N200q
      refine Goes.to (B := (T200.setTop (mkF m 75 #[.val (.int x0), .val (.int x1), .val (.ref b101), .val (.ref b180), .val (.int (own_law_j61 x0))] [(.int (own_ir_fn x0))]))) st200 ?_
      refine Goes.step (B := (T200.setTop (mkF m 77 #[.val (.int x0), .val (.int x1), .val (.ref b101), .val (.ref b180), .val (.int (own_law_j61 x0))] [(.int (own_law_j61 x0)), (.int (own_ir_fn x0))]))) (fun _ k => XS.iload X200.here hx rfl (hb hby at_75) rfl k) ?_
      have hc201 : (own_ir_fn x0) = (own_law_j61 x0) := own_t x0
      refine Goes.step (B := (T200.setTop (mkF m 80 #[.val (.int x0), .val (.int x1), .val (.ref b101), .val (.ref b180), .val (.int (own_law_j61 x0))] []))) (fun _ k => XS.icmpNo X200.here hx rfl (hb hby at_77) rfl (teq hc201).2 k) ?_
      refine Goes.step (B := (T200.setTop (mkF m 81 #[.val (.int x0), .val (.int x1), .val (.ref b101), .val (.ref b180), .val (.int (own_law_j61 x0))] [(.int (1 : Int32))]))) (fun _ k => XS.iconst X200.here hx rfl (hb hby at_80) k) ?_
      refine Goes.step (B := (T200.setTop (mkF m 85 #[.val (.int x0), .val (.int x1), .val (.ref b101), .val (.ref b180), .val (.int (own_law_j61 x0))] [(.int (1 : Int32))]))) (fun _ k => XS.goto X200.here hx rfl (pc0 := 81) (pc' := 85) rfl (hb hby at_81) (by decide) (by decide) k) ?_
      refine Goes.retN X200 hx hlk (t := .boolean) hrt (by simp) (hb hby at_85) ?_ (by decide) (by decide)
      rw [e200]
      exact ⟨rfl, N200⟩
    by_cases hc202 : (x0 % (4 : Int32)) = (0 : Int32)
    · refine Goes.step (B := (T192.setTop (mkF m 64 #[.val (.int x0), .val (.int x1), .val (.ref b101), .val (.ref b180), .unset] []))) (fun _ k => XS.ifNo X192.here hx rfl (hb hby at_61) rfl ((if0 _ _).trans (teq hc202).2) k) ?_
      refine Goes.step (B := (T192.setTop (mkF m 65 #[.val (.int x0), .val (.int x1), .val (.ref b101), .val (.ref b180), .unset] [(.int (1 : Int32))]))) (fun _ k => XS.iconst X192.here hx rfl (hb hby at_64) k) ?_
      refine Goes.step (B := (T192.setTop (mkF m 69 #[.val (.int x0), .val (.int x1), .val (.ref b101), .val (.ref b180), .unset] [(.int (1 : Int32))]))) (fun _ k => XS.goto X192.here hx rfl (pc0 := 65) (pc' := 69) rfl (hb hby at_65) (by decide) (by decide) k) ?_
      rw [show own_law_j61 x0 = (1 : Int32) from by simp only [own_law_j61, if_pos hc202]] at J199
      exact J199
    · refine Goes.step (B := (T192.setTop (mkF m 68 #[.val (.int x0), .val (.int x1), .val (.ref b101), .val (.ref b180), .unset] []))) (fun _ k => XS.ifYes X192.here hx rfl (pc0 := 61) (pc' := 68) rfl (hb hby at_61) rfl ((if0 _ _).trans (feq hc202).2) (by decide) (by decide) k) ?_
      refine Goes.step (B := (T192.setTop (mkF m 69 #[.val (.int x0), .val (.int x1), .val (.ref b101), .val (.ref b180), .unset] [(.int (0 : Int32))]))) (fun _ k => XS.iconst X192.here hx rfl (hb hby at_68) k) ?_
      rw [show own_law_j61 x0 = (0 : Int32) from by simp only [own_law_j61, if_neg hc202]] at J199
      exact J199
set_option maxRecDepth 65536 in
set_option maxHeartbeats 40000000 in
theorem comes_1 {Post : Tables → Env → Array Value → State → Outcome → State → Prop} (hpost : ∀ tb e args s v u, (limb_1_1.after args s (.returned v) u = true ∧ limb_1_2.after args s (.returned v) u = true ∧ True) → FrameEnd s (.returned v) u (Jvm.fieldLocs frame_1_writes args s ++ Jvm.arrayLocs frame_1_arrays args s ++ Jvm.staticLocs frame_1_statics s) 24 128 → Post tb e args s (.returned v) u) :
    ArmFor flags0 classFile x code maxLocals ret World_1 tables_1 room_1 Calls_1 rest_1 Pre_1 Post := by
  intro l hfl _ _ p e ha hc hk s m args below hf hA hF happ hP
  obtain ⟨hcalls, hrest, hpre⟩ := hP
  obtain ⟨-, -, -, hnamed, -, -, -, hat⟩ := (Spec.applies_iff hf).mp happ
  obtain ⟨hg, hn⟩ := and_e (Cond.before_iff.mp (show (Jvm.Cond.and given_1 narrow_1).before args s = true from hpre))
  obtain ⟨hg1, hg2⟩ := and_e hg
  obtain ⟨hg3, hg4⟩ := and_e hg2
  obtain ⟨w0, w1, rfl⟩ : ∃ w0 w1 : Value, args = #[w0, w1] := by
    have hs : args.size = 2 := by simpa [Cond.value, given_1] using hg1
    obtain ⟨L⟩ := args
    match L, hs with
    | [w0, w1], _ => exact ⟨w0, w1, rfl⟩
  have hw := fun d (hd : d ∈ tables_1) => atoms_spec (ws := Jvm.Cond.code x code maxLocals ret :: tables_1) hat d (List.mem_cons_of_mem _ hd)
  have hfit : Fit s := fun {y c} hc i hi => by
    obtain ⟨ha, rfl⟩ := Array.getElem?_eq_some_iff.mp hc
    have q := List.all_eq_true.mp ((Array.all_eq_true_iff_forall_mem.mp hF) _ (Array.getElem_mem ha)) i (List.mem_range.mpr hi)
    simpa [Array.getElem?_eq_getElem hi] using q
  obtain ⟨hsets, hown0⟩ := atoms_of _ (rest_1_c_eq ▸ (show rest_1_c.before _ s = true from hrest))
  obtain ⟨i0, ei0⟩ := is_v hg3
  obtain rfl : w0 = (.int i0) := Option.some.inj ei0
  obtain ⟨i1, ei1⟩ := is_v hg4
  obtain rfl : w1 = (.int i1) := Option.some.inj ei1
  obtain ⟨dd, ed⟩ := arr_v (Cond.before_iff.mp (hsets _ (List.mem_of_getElem? (i := 6) rfl)))
  obtain ⟨cd, Ad⟩ := Arr.start ed (Cond.before_iff.mp (hsets _ (List.mem_of_getElem? (i := 6) rfl)))
  have SD := Sta.start ed (Or.inr ⟨(hw _ (List.mem_of_getElem? (i := 2) rfl)), hsets _ (List.mem_of_getElem? (i := 2) rfl)⟩)
  have zd := own_len0 ed Ad (Cond.before_iff.mp (hsets _ (List.mem_of_getElem? (i := 8) rfl)))
  have VD : Arv s s.heap dd cd.cls (.object "java/lang/Object") (0 : Int32) [] .null := Arv.start (fun {y c} hc i hi => hfit hc hi) Ad (by rw [zd]; decide) (by rw [zd]; rfl) (by decide) rfl trivial
  obtain ⟨n, o, h1, h2, h3, _, L, rfl, ⟨hv, N⟩, hq⟩ := own_law_rm l s _ hw tables_1 i0 i1 dd cd.cls s.heap s.heap.size (Nat.le_refl _) SD VD p e ha hc hk s m _ below hf ((Spec.applies_iff_loose hf).mp happ).1 ⟨rfl, State.Warmed39.refl s, rfl⟩ trivial
  subst hv
  refine ⟨n, _, h1, h2, h3, hpost _ _ _ _ _ _ ⟨Cond.after_iff.mpr rfl, Cond.after_iff.mpr (eq_i res_at (Term.int_eval (1)) rfl), trivial⟩ ⟨hq.1, hq.2.1, (hq.2.2.sift fun y hy => Or.inr (N y hy)).mono (by decide) (by decide)⟩⟩
theorem main_1_1 : Claimed_1_1 := comes_1 fun _ _ _ _ _ _ h hF => ⟨h.1, hF⟩
theorem main_1_2 : Claimed_1_2 := comes_1 fun _ _ _ _ _ _ h hF => ⟨h.2.1, hF⟩
end Jvm.Pilot.@@N@@
namespace Jvm.Pilot.@@N@@
open Jvm Jvm.ClassFile Sem Op Lib Jvm.Free Jvm.Stand Jvm.Pilot.@@N@@.Jvm.D
/-! MADE BY PROGRAM (witnessworld.py) out of the Statement's table words and the real class files: 21 classes; the members and pool entries that the words name. The judged class is class 1, her method 1. -/
namespace start1
open Jvm.ClassFile
def u (s : String) : CpInfo := .utf8 (stringToUtf16 s)
/-- a pool by its gaps: so many unusable entries, then the entry; so many at the end -/
def gap : Nat → List CpInfo → List CpInfo
  | 0, r => r
  | n + 1, r => .unusable :: gap n r
def poolList (es : List (Nat × CpInfo)) (last : Nat) : List CpInfo := es.foldr (fun e r => gap e.1 (e.2 :: r)) (gap last [])
def pool (es : List (Nat × CpInfo)) (last : Nat) : Array CpInfo := ⟨poolList es last⟩
def fileOf (pool : Array CpInfo) (this : Nat) (attrs : Array Attribute := #[]) (ms : Array MethodInfo := #[]) (fl : Nat := 33) (sup : Nat := 0) (ifs : Array Nat := #[]) (fds : Array FieldInfo := #[]) : ClassFile where
  minorVersion := 0
  majorVersion := 65
  constantPool := pool
  accessFlags := fl
  thisClass := this
  superClass := sup
  interfaces := ifs
  fields := fds
  methods := ms
  attributes := attrs
def plain (name : String) (sup : Option ClassId) : Class where
  name := name
  kind := .ordinary
  loader := none
  accessFlags := 33
  super := sup
  interfaces := #[]
  cf := none
  fields := #[]
  methods := #[]
  instanceTypes := #[]
  staticTypes := #[]
  resolved := #[]
  callSites := []
  init := .initialized
  statics := none
  mirror := none

def pool0 : Array CpInfo := pool [(5, u "<init>"), (0, u "()V"), (1, .class_ 10), (1, u "java/lang/Object")] 113

def k0c0 : Code := { maxStack := 0, maxLocals := 1, code := object_method_1_code, exceptionTable := #[], attributes := #[] }
def k0m0 : Method := { name := "<init>", desc := "()V", sig := { parameters := [], returnType := none }, accessFlags := 1, code := some k0c0 }
/-- java/lang/Object -/
def k0 : Class := { plain "java/lang/Object" none with
  accessFlags := 33
  interfaces := #[]
  cf := some (fileOf pool0 8 #[] #[{ accessFlags := 1, nameIndex := 5, descriptorIndex := 6, attributes := #[] }] 33 0 #[] #[])
  fields := #[]
  methods := #[k0m0]
  instanceTypes := #[]
  staticTypes := #[]
  resolved := Array.replicate 124 none
  statics := none }

def pool1 : Array CpInfo := pool [(2, .class_ 4), (0, .nameAndType 5 6), (0, u "java/lang/Object"), (0, u "<init>"), (0, u "()V"), (0, .class_ 8), (0, u "java/util/ArrayList"), (0, .methodref 7 3), (0, .class_ 11), (0, u "com/example/portcullis/portcullis/wire/Gsup$Element"), (0, .methodref 10 13), (0, .nameAndType 5 14), (0, u "(I[B)V"), (0, .interfaceMethodref 16 17), (0, .class_ 18), (0, .nameAndType 19 20), (0, u "java/util/List"), (0, u "add"), (0, u "(Ljava/lang/Object;)Z"), (0, .class_ 22), (0, u "com/example/portcullis/portcullis/wire/Gsup$Message"), (0, .methodref 21 24), (0, .nameAndType 5 25), (0, u "(ILjava/util/List;)V"), (0, .methodref 21 27), (0, .nameAndType 28 29), (0, u "isRequest"), (0, u "()Z"), (0, .class_ 31), (0, u "com/example/portcullis/portcullis/wire/MessageIsRequestPinLaw"), (2, u "law"), (0, u "(II)Z")] 8

def k1m0 : Method := { name := "<init>", desc := "()V", sig := { parameters := [], returnType := none }, accessFlags := 2, code := none }
def k1c1 : Code := { maxStack := 5, maxLocals := 5, code := code, exceptionTable := #[], attributes := #[] }
def k1m1 : Method := { name := "law", desc := "(II)Z", sig := { parameters := [.int, .int], returnType := some .boolean }, accessFlags := 9, code := some k1c1 }
/-- com/example/portcullis/portcullis/wire/MessageIsRequestPinLaw -/
def k1 : Class := { plain "com/example/portcullis/portcullis/wire/MessageIsRequestPinLaw" (some 0) with
  accessFlags := 49
  interfaces := #[]
  cf := some (fileOf pool1 30 #[] #[{ accessFlags := 2, nameIndex := 5, descriptorIndex := 6, attributes := #[] }, { accessFlags := 9, nameIndex := 34, descriptorIndex := 35, attributes := #[] }] 49 2 #[] #[])
  fields := #[]
  methods := #[k1m0, k1m1]
  instanceTypes := #[]
  staticTypes := #[]
  resolved := Array.replicate 44 none
  statics := none }

def pool2 : Array CpInfo := pool [(8, .class_ 10), (1, u "java/lang/Iterable"), (24, .class_ 36), (0, u "java/lang/Object")] 25

/-- java/lang/Iterable -/
def k2 : Class := { plain "java/lang/Iterable" (some 0) with
  accessFlags := 1537
  interfaces := #[]
  cf := some (fileOf pool2 8 #[] #[] 1537 35 #[] #[])
  fields := #[]
  methods := #[]
  instanceTypes := #[]
  staticTypes := #[]
  resolved := Array.replicate 62 none
  statics := none }

def pool3 : Array CpInfo := pool [(10, .class_ 12), (1, u "java/util/Collection"), (47, .class_ 61), (0, u "java/lang/Object"), (0, .class_ 63), (0, u "java/lang/Iterable")] 51

/-- java/util/Collection -/
def k3 : Class := { plain "java/util/Collection" (some 0) with
  accessFlags := 1537
  interfaces := #[2]
  cf := some (fileOf pool3 10 #[] #[] 1537 60 #[62] #[])
  fields := #[]
  methods := #[]
  instanceTypes := #[]
  staticTypes := #[]
  resolved := Array.replicate 115 none
  statics := none }

def pool4 : Array CpInfo := pool [(1, .methodref 2 3), (0, .class_ 4), (0, .nameAndType 5 6), (0, u "java/lang/Object"), (0, u "<init>"), (0, u "()V"), (1, .class_ 10), (1, u "java/util/AbstractCollection"), (66, .class_ 78), (0, u "java/util/Collection")] 81

def k4c0 : Code := { maxStack := 1, maxLocals := 1, code := jdk_22_method_1_code, exceptionTable := #[], attributes := #[] }
def k4m0 : Method := { name := "<init>", desc := "()V", sig := { parameters := [], returnType := none }, accessFlags := 4, code := some k4c0 }
/-- java/util/AbstractCollection -/
def k4 : Class := { plain "java/util/AbstractCollection" (some 0) with
  accessFlags := 1057
  interfaces := #[3]
  cf := some (fileOf pool4 8 #[] #[{ accessFlags := 4, nameIndex := 5, descriptorIndex := 6, attributes := #[] }] 1057 2 #[77] #[])
  fields := #[]
  methods := #[k4m0]
  instanceTypes := #[]
  staticTypes := #[]
  resolved := Array.replicate 160 none
  statics := none }

def pool5 : Array CpInfo := pool [(8, .class_ 10), (1, u "java/util/SequencedCollection"), (15, .class_ 27), (0, u "java/lang/Object"), (0, .class_ 29), (0, u "java/util/Collection")] 27

/-- java/util/SequencedCollection -/
def k5 : Class := { plain "java/util/SequencedCollection" (some 0) with
  accessFlags := 1537
  interfaces := #[3]
  cf := some (fileOf pool5 8 #[] #[] 1537 26 #[28] #[])
  fields := #[]
  methods := #[]
  instanceTypes := #[]
  staticTypes := #[]
  resolved := Array.replicate 57 none
  statics := none }

def pool6 : Array CpInfo := pool [(8, .class_ 10), (1, u "java/util/List"), (49, u "add"), (3, u "(Ljava/lang/Object;)Z"), (38, .class_ 104), (0, u "java/lang/Object"), (15, .class_ 121), (0, u "java/util/SequencedCollection")] 129

def k6m0 : Method := { name := "add", desc := "(Ljava/lang/Object;)Z", sig := { parameters := [(.object "java/lang/Object")], returnType := some .boolean }, accessFlags := 1025, code := none }
/-- java/util/List -/
def k6 : Class := { plain "java/util/List" (some 0) with
  accessFlags := 1537
  interfaces := #[5]
  cf := some (fileOf pool6 8 #[] #[{ accessFlags := 1025, nameIndex := 60, descriptorIndex := 64, attributes := #[] }] 1537 103 #[120] #[])
  fields := #[]
  methods := #[k6m0]
  instanceTypes := #[]
  staticTypes := #[]
  resolved := Array.replicate 251 none
  statics := none }

def pool7 : Array CpInfo := pool [(1, .methodref 2 3), (0, .class_ 4), (0, .nameAndType 5 6), (0, u "java/util/AbstractCollection"), (0, u "<init>"), (0, u "()V"), (0, .fieldref 8 9), (0, .class_ 10), (0, .nameAndType 11 12), (0, u "java/util/AbstractList"), (0, u "modCount"), (0, u "I"), (64, .class_ 78), (0, u "java/util/AbstractList$Itr"), (3, .class_ 83), (0, u "java/util/AbstractList$ListItr"), (9, .class_ 94), (0, u "java/util/AbstractList$RandomAccessSubList"), (3, .class_ 99), (0, u "java/util/AbstractList$SubList"), (33, .class_ 134), (0, u "java/util/List"), (73, .class_ 209), (0, u "java/util/AbstractList$SubList$1"), (0, .class_ 211), (0, u "java/util/AbstractList$RandomAccessSpliterator")] 6

def k7c0 : Code := { maxStack := 2, maxLocals := 1, code := jdk_39_method_1_code, exceptionTable := #[], attributes := #[] }
def k7m0 : Method := { name := "<init>", desc := "()V", sig := { parameters := [], returnType := none }, accessFlags := 4, code := some k7c0 }
/-- java/util/AbstractList -/
def k7 : Class := { plain "java/util/AbstractList" (some 4) with
  accessFlags := 1057
  interfaces := #[6]
  cf := some (fileOf pool7 8 #[.nestMembers #[93, 98, 208, 210, 82, 77]] #[{ accessFlags := 4, nameIndex := 5, descriptorIndex := 6, attributes := #[] }] 1057 2 #[133] #[{ accessFlags := 132, nameIndex := 11, descriptorIndex := 12, attributes := #[] }])
  fields := #[{ name := "modCount", type := .int, accessFlags := 132, slot := 0, constantValue := 0 }]
  methods := #[k7m0]
  instanceTypes := #[.int]
  staticTypes := #[]
  resolved := Array.replicate 218 none
  statics := none }

def pool8 : Array CpInfo := pool [(1, .class_ 2), (0, u "java/util/RandomAccess"), (0, .class_ 4), (0, u "java/lang/Object")] 2

/-- java/util/RandomAccess -/
def k8 : Class := { plain "java/util/RandomAccess" (some 0) with
  accessFlags := 1537
  interfaces := #[]
  cf := some (fileOf pool8 1 #[] #[] 1537 3 #[] #[])
  fields := #[]
  methods := #[]
  instanceTypes := #[]
  staticTypes := #[]
  resolved := Array.replicate 7 none
  statics := none }

def pool9 : Array CpInfo := pool [(1, .class_ 2), (0, u "java/lang/Cloneable"), (0, .class_ 4), (0, u "java/lang/Object")] 2

/-- java/lang/Cloneable -/
def k9 : Class := { plain "java/lang/Cloneable" (some 0) with
  accessFlags := 1537
  interfaces := #[]
  cf := some (fileOf pool9 1 #[] #[] 1537 3 #[] #[])
  fields := #[]
  methods := #[]
  instanceTypes := #[]
  staticTypes := #[]
  resolved := Array.replicate 7 none
  statics := none }

def pool10 : Array CpInfo := pool [(1, .class_ 2), (0, u "java/io/Serializable"), (0, .class_ 4), (0, u "java/lang/Object")] 2

/-- java/io/Serializable -/
def k10 : Class := { plain "java/io/Serializable" (some 0) with
  accessFlags := 1537
  interfaces := #[]
  cf := some (fileOf pool10 1 #[] #[] 1537 3 #[] #[])
  fields := #[]
  methods := #[]
  instanceTypes := #[]
  staticTypes := #[]
  resolved := Array.replicate 7 none
  statics := none }

def pool11 : Array CpInfo := pool [(1, .methodref 2 3), (0, .class_ 4), (0, .nameAndType 5 6), (0, u "java/util/AbstractList"), (0, u "<init>"), (0, u "()V"), (0, .class_ 8), (0, u "java/lang/Object"), (0, .fieldref 10 11), (0, .class_ 12), (0, .nameAndType 13 14), (0, u "java/util/ArrayList"), (0, u "elementData"), (0, u "[Ljava/lang/Object;"), (2, u "EMPTY_ELEMENTDATA"), (21, .fieldref 10 40), (0, .nameAndType 41 14), (0, u "DEFAULTCAPACITY_EMPTY_ELEMENTDATA"), (5, u "()[Ljava/lang/Object;"), (0, .fieldref 10 49), (0, .nameAndType 50 51), (0, u "size"), (0, u "I"), (11, .fieldref 10 64), (0, .nameAndType 65 51), (0, u "modCount"), (3, .methodref 10 70), (0, .nameAndType 71 72), (0, u "grow"), (0, u "(I)[Ljava/lang/Object;"), (6, .methodref 80 81), (0, .class_ 82), (0, .nameAndType 83 84), (0, u "java/lang/Math"), (0, u "max"), (0, u "(II)I"), (11, u "(Ljava/lang/Object;)Z"), (32, .methodref 10 130), (0, .nameAndType 71 47), (0, .methodref 10 132), (0, .nameAndType 133 134), (0, u "add"), (0, u "(Ljava/lang/Object;[Ljava/lang/Object;I)V"), (13, .class_ 149), (0, u "java/util/List"), (112, .class_ 263), (0, u "java/util/ArrayList$ListItr"), (3, .class_ 268), (0, u "java/util/ArrayList$Itr"), (7, .class_ 277), (0, u "java/util/ArrayList$SubList"), (12, .class_ 291), (0, u "java/util/ArrayList$ArrayListSpliterator"), (37, .class_ 330), (0, u "java/util/RandomAccess"), (0, .class_ 332), (0, u "java/lang/Cloneable"), (0, .class_ 334), (0, u "java/io/Serializable"), (0, u "serialVersionUID"), (0, u "J"), (3, u "DEFAULT_CAPACITY"), (159, .class_ 501), (0, u "java/util/ArrayList$SubList$2"), (0, .class_ 503), (0, u "java/util/ArrayList$SubList$1")] 5

def k11c0 : Code := { maxStack := 2, maxLocals := 1, code := jdk_38_method_2_code, exceptionTable := #[], attributes := #[] }
def k11m0 : Method := { name := "<init>", desc := "()V", sig := { parameters := [], returnType := none }, accessFlags := 1, code := some k11c0 }
def k11c1 : Code := { maxStack := 4, maxLocals := 4, code := jdk_38_method_6_code, exceptionTable := #[], attributes := #[] }
def k11m1 : Method := { name := "grow", desc := "(I)[Ljava/lang/Object;", sig := { parameters := [.int], returnType := some (.array (.object "java/lang/Object")) }, accessFlags := 2, code := some k11c1 }
def k11c2 : Code := { maxStack := 3, maxLocals := 1, code := jdk_38_method_7_code, exceptionTable := #[], attributes := #[] }
def k11m2 : Method := { name := "grow", desc := "()[Ljava/lang/Object;", sig := { parameters := [], returnType := some (.array (.object "java/lang/Object")) }, accessFlags := 2, code := some k11c2 }
def k11c3 : Code := { maxStack := 3, maxLocals := 4, code := jdk_38_method_24_code, exceptionTable := #[], attributes := #[] }
def k11m3 : Method := { name := "add", desc := "(Ljava/lang/Object;[Ljava/lang/Object;I)V", sig := { parameters := [(.object "java/lang/Object"), (.array (.object "java/lang/Object")), .int], returnType := none }, accessFlags := 2, code := some k11c3 }
def k11c4 : Code := { maxStack := 4, maxLocals := 2, code := jdk_38_method_25_code, exceptionTable := #[], attributes := #[] }
def k11m4 : Method := { name := "add", desc := "(Ljava/lang/Object;)Z", sig := { parameters := [(.object "java/lang/Object")], returnType := some .boolean }, accessFlags := 1, code := some k11c4 }
/-- java/util/ArrayList -/
def k11 : Class := { plain "java/util/ArrayList" (some 7) with
  accessFlags := 33
  interfaces := #[6, 8, 9, 10]
  cf := some (fileOf pool11 10 #[.nestMembers #[290, 276, 500, 502, 262, 267]] #[{ accessFlags := 1, nameIndex := 5, descriptorIndex := 6, attributes := #[] }, { accessFlags := 2, nameIndex := 71, descriptorIndex := 72, attributes := #[] }, { accessFlags := 2, nameIndex := 71, descriptorIndex := 47, attributes := #[] }, { accessFlags := 2, nameIndex := 133, descriptorIndex := 134, attributes := #[] }, { accessFlags := 1, nameIndex := 133, descriptorIndex := 96, attributes := #[] }] 33 2 #[148, 329, 331, 333] #[{ accessFlags := 26, nameIndex := 335, descriptorIndex := 336, attributes := #[] }, { accessFlags := 26, nameIndex := 340, descriptorIndex := 51, attributes := #[] }, { accessFlags := 26, nameIndex := 17, descriptorIndex := 14, attributes := #[] }, { accessFlags := 26, nameIndex := 41, descriptorIndex := 14, attributes := #[] }, { accessFlags := 128, nameIndex := 13, descriptorIndex := 14, attributes := #[] }, { accessFlags := 2, nameIndex := 50, descriptorIndex := 51, attributes := #[] }])
  fields := #[{ name := "serialVersionUID", type := .long, accessFlags := 26, slot := 0, constantValue := 0 }, { name := "DEFAULT_CAPACITY", type := .int, accessFlags := 26, slot := 1, constantValue := 0 }, { name := "EMPTY_ELEMENTDATA", type := (.array (.object "java/lang/Object")), accessFlags := 26, slot := 2, constantValue := 0 }, { name := "DEFAULTCAPACITY_EMPTY_ELEMENTDATA", type := (.array (.object "java/lang/Object")), accessFlags := 26, slot := 3, constantValue := 0 }, { name := "elementData", type := (.array (.object "java/lang/Object")), accessFlags := 128, slot := 1, constantValue := 0 }, { name := "size", type := .int, accessFlags := 2, slot := 2, constantValue := 0 }]
  methods := #[k11m0, k11m1, k11m2, k11m3, k11m4]
  instanceTypes := #[.int, (.array (.object "java/lang/Object")), .int]
  staticTypes := #[.long, .int, (.array (.object "java/lang/Object")), (.array (.object "java/lang/Object"))]
  resolved := Array.replicate 509 none
  statics := some 0 }

def pool12 : Array CpInfo := pool [(1, .methodref 2 3), (0, .class_ 4), (0, .nameAndType 5 6), (0, u "java/lang/Object"), (0, u "<init>"), (0, u "()V"), (0, .class_ 8), (0, u "java/lang/Record")] 13

def k12c0 : Code := { maxStack := 1, maxLocals := 1, code := jdk_30_method_1_code, exceptionTable := #[], attributes := #[] }
def k12m0 : Method := { name := "<init>", desc := "()V", sig := { parameters := [], returnType := none }, accessFlags := 4, code := some k12c0 }
/-- java/lang/Record -/
def k12 : Class := { plain "java/lang/Record" (some 0) with
  accessFlags := 1057
  interfaces := #[]
  cf := some (fileOf pool12 7 #[] #[{ accessFlags := 4, nameIndex := 5, descriptorIndex := 6, attributes := #[] }] 1057 2 #[] #[])
  fields := #[]
  methods := #[k12m0]
  instanceTypes := #[]
  staticTypes := #[]
  resolved := Array.replicate 22 none
  statics := none }

def pool13 : Array CpInfo := pool [(1, .methodref 2 3), (0, .class_ 4), (0, .nameAndType 5 6), (0, u "java/lang/Record"), (0, u "<init>"), (0, u "()V"), (0, .fieldref 8 9), (0, .class_ 10), (0, .nameAndType 11 12), (0, u "com/example/portcullis/portcullis/wire/Gsup$Element"), (0, u "tag"), (0, u "I"), (0, .fieldref 8 14), (0, .nameAndType 15 16), (0, u "value"), (0, u "[B"), (12, u "(I[B)V"), (10, .class_ 41), (0, u "com/example/portcullis/portcullis/wire/Gsup")] 20

def k13c0 : Code := { maxStack := 2, maxLocals := 3, code := prog_91_method_1_code, exceptionTable := #[], attributes := #[] }
def k13m0 : Method := { name := "<init>", desc := "(I[B)V", sig := { parameters := [.int, (.array .byte)], returnType := none }, accessFlags := 1, code := some k13c0 }
/-- com/example/portcullis/portcullis/wire/Gsup$Element -/
def k13 : Class := { plain "com/example/portcullis/portcullis/wire/Gsup$Element" (some 12) with
  accessFlags := 49
  interfaces := #[]
  cf := some (fileOf pool13 8 #[.nestHost 40] #[{ accessFlags := 1, nameIndex := 5, descriptorIndex := 29, attributes := #[] }] 49 2 #[] #[{ accessFlags := 18, nameIndex := 11, descriptorIndex := 12, attributes := #[] }, { accessFlags := 18, nameIndex := 15, descriptorIndex := 16, attributes := #[] }])
  fields := #[{ name := "tag", type := .int, accessFlags := 18, slot := 0, constantValue := 0 }, { name := "value", type := (.array .byte), accessFlags := 18, slot := 1, constantValue := 0 }]
  methods := #[k13m0]
  instanceTypes := #[.int, (.array .byte)]
  staticTypes := #[]
  resolved := Array.replicate 62 none
  statics := none }

def pool14 : Array CpInfo := pool [(1, .class_ 2), (0, u "java/lang/Math"), (1, .class_ 6), (1, u "java/lang/Object"), (0, u "<init>"), (0, u "()V"), (89, .class_ 100), (1, u "java/lang/Math$RandomNumberGeneratorHolder"), (71, u "negativeZeroFloatBits"), (0, u "J"), (2, u "negativeZeroDoubleBits"), (21, u "max"), (46, u "$assertionsDisabled"), (0, u "Z"), (88, u "(II)I"), (2, u "twoToTheDoubleScaleDown"), (0, u "D"), (4, u "twoToTheDoubleScaleUp"), (9, u "E"), (3, u "PI"), (2, u "TAU"), (2, u "DEGREES_TO_RADIANS"), (0, u "RADIANS_TO_DEGREES")] 94

def k14m0 : Method := { name := "<init>", desc := "()V", sig := { parameters := [], returnType := none }, accessFlags := 2, code := none }
def k14c1 : Code := { maxStack := 2, maxLocals := 2, code := jdk_29_method_65_code, exceptionTable := #[], attributes := #[] }
def k14m1 : Method := { name := "max", desc := "(II)I", sig := { parameters := [.int, .int], returnType := some .int }, accessFlags := 9, code := some k14c1 }
/-- java/lang/Math -/
def k14 : Class := { plain "java/lang/Math" (some 0) with
  accessFlags := 49
  interfaces := #[]
  cf := some (fileOf pool14 1 #[.nestMembers #[98]] #[{ accessFlags := 2, nameIndex := 7, descriptorIndex := 8, attributes := #[] }, { accessFlags := 9, nameIndex := 198, descriptorIndex := 335, attributes := #[] }] 49 4 #[] #[{ accessFlags := 25, nameIndex := 354, descriptorIndex := 339, attributes := #[] }, { accessFlags := 25, nameIndex := 358, descriptorIndex := 339, attributes := #[] }, { accessFlags := 25, nameIndex := 361, descriptorIndex := 339, attributes := #[] }, { accessFlags := 26, nameIndex := 364, descriptorIndex := 339, attributes := #[] }, { accessFlags := 26, nameIndex := 365, descriptorIndex := 339, attributes := #[] }, { accessFlags := 26, nameIndex := 172, descriptorIndex := 173, attributes := #[] }, { accessFlags := 26, nameIndex := 176, descriptorIndex := 173, attributes := #[] }, { accessFlags := 8, nameIndex := 344, descriptorIndex := 339, attributes := #[] }, { accessFlags := 8, nameIndex := 338, descriptorIndex := 339, attributes := #[] }, { accessFlags := 4120, nameIndex := 245, descriptorIndex := 246, attributes := #[] }])
  fields := #[{ name := "E", type := .double, accessFlags := 25, slot := 0, constantValue := 0 }, { name := "PI", type := .double, accessFlags := 25, slot := 1, constantValue := 0 }, { name := "TAU", type := .double, accessFlags := 25, slot := 2, constantValue := 0 }, { name := "DEGREES_TO_RADIANS", type := .double, accessFlags := 26, slot := 3, constantValue := 0 }, { name := "RADIANS_TO_DEGREES", type := .double, accessFlags := 26, slot := 4, constantValue := 0 }, { name := "negativeZeroFloatBits", type := .long, accessFlags := 26, slot := 5, constantValue := 0 }, { name := "negativeZeroDoubleBits", type := .long, accessFlags := 26, slot := 6, constantValue := 0 }, { name := "twoToTheDoubleScaleUp", type := .double, accessFlags := 8, slot := 7, constantValue := 0 }, { name := "twoToTheDoubleScaleDown", type := .double, accessFlags := 8, slot := 8, constantValue := 0 }, { name := "$assertionsDisabled", type := .boolean, accessFlags := 4120, slot := 9, constantValue := 0 }]
  methods := #[k14m0, k14m1]
  instanceTypes := #[]
  staticTypes := #[.double, .double, .double, .double, .double, .long, .long, .double, .double, .boolean]
  resolved := Array.replicate 460 none
  statics := none }

def pool15 : Array CpInfo := pool [(1, .class_ 2), (0, u "com/example/portcullis/portcullis/wire/Gsup"), (0, .methodref 4 5), (0, .class_ 6), (0, .nameAndType 7 8), (0, u "java/lang/Record"), (0, u "<init>"), (0, u "()V"), (0, .fieldref 10 11), (0, .class_ 12), (0, .nameAndType 13 14), (0, u "com/example/portcullis/portcullis/wire/Gsup$Message"), (0, u "type"), (0, u "I"), (0, .fieldref 10 16), (0, .nameAndType 17 18), (0, u "elements"), (0, u "Ljava/util/List;"), (11, u "()Z"), (53, u "(ILjava/util/List;)V"), (8, u "isRequest")] 39

def k15c0 : Code := { maxStack := 2, maxLocals := 3, code := prog_92_method_1_code, exceptionTable := #[], attributes := #[] }
def k15m0 : Method := { name := "<init>", desc := "(ILjava/util/List;)V", sig := { parameters := [.int, (.object "java/util/List")], returnType := none }, accessFlags := 1, code := some k15c0 }
def k15c1 : Code := { maxStack := 2, maxLocals := 1, code := prog_92_method_3_code, exceptionTable := #[], attributes := #[] }
def k15m1 : Method := { name := "isRequest", desc := "()Z", sig := { parameters := [], returnType := some .boolean }, accessFlags := 1, code := some k15c1 }
/-- com/example/portcullis/portcullis/wire/Gsup$Message -/
def k15 : Class := { plain "com/example/portcullis/portcullis/wire/Gsup$Message" (some 12) with
  accessFlags := 49
  interfaces := #[]
  cf := some (fileOf pool15 10 #[.nestHost 1] #[{ accessFlags := 1, nameIndex := 7, descriptorIndex := 84, attributes := #[] }, { accessFlags := 1, nameIndex := 93, descriptorIndex := 30, attributes := #[] }] 49 4 #[] #[{ accessFlags := 18, nameIndex := 13, descriptorIndex := 14, attributes := #[] }, { accessFlags := 18, nameIndex := 17, descriptorIndex := 18, attributes := #[] }])
  fields := #[{ name := "type", type := .int, accessFlags := 18, slot := 0, constantValue := 0 }, { name := "elements", type := (.object "java/util/List"), accessFlags := 18, slot := 1, constantValue := 0 }]
  methods := #[k15m0, k15m1]
  instanceTypes := #[.int, (.object "java/util/List")]
  staticTypes := #[]
  resolved := Array.replicate 133 none
  statics := none }

/-- the primitive byte -/
def k16 : Class := { plain "byte" none with kind := .primitive 'B', accessFlags := 0x411 }
/-- [B -/
def k17 : Class := { plain "[B" (some 0) with kind := .array 16 .byte, interfaces := #[9, 10], accessFlags := 1041 }

/-- the primitive int -/
def k18 : Class := { plain "int" none with kind := .primitive 'I', accessFlags := 0x411 }
/-- [I -/
def k19 : Class := { plain "[I" (some 0) with kind := .array 18 .int, interfaces := #[9, 10], accessFlags := 1041 }

/-- [Ljava/lang/Object; -/
def k20 : Class := { plain "[Ljava/lang/Object;" (some 0) with kind := .array 0 (.object "java/lang/Object"), interfaces := #[9, 10], accessFlags := 1041 }

def heap : Heap := #[{ cls := 11, slots := #[.long 0, .int 0, .ref 1, .ref 2], vm := .statics 11 },
  { cls := 20, slots := #[], vm := .none },
  { cls := 20, slots := #[], vm := .none }]
def classes : Array Class := #[k0, k1, k2, k3, k4, k5, k6, k7, k8, k9, k10, k11, k12, k13, k14, k15, k16, k17, k18, k19, k20]
def interned : List (Array UInt16 × Addr) := []
def slotsUsed : Nat := 4
def theMethod : MethodId := ⟨1, 1⟩
def args0 : Array Value := #[.int 65, .int 65]
def aboutOver (below : List Frame) : State where
  vm := { classes := classes, interned := interned.toArray }
  heap := heap
  slotsUsed := slotsUsed
  threads := #[{ frames := .invoking theMethod args0 :: below }]
def below0 : List Frame := [.native { method := ⟨0, 0⟩, args := #[] }]
def about1 : State := aboutOver below0
def p0 : Program := .bare "" "" ""
def e0 : Env := launch0.env 0 0 0
theorem w_frames : about1.frames = Frame.invoking theMethod args0 :: below0 := rfl
set_option maxRecDepth 65536 in
theorem w_args : argsFit about1.vm theMethod args0 = true := by decide +kernel
set_option maxRecDepth 65536 in
theorem w_heap : heapFits about1 = true := by decide +kernel
set_option maxRecDepth 65536 in
theorem w_runnable : about1.curStatus? = some .runnable := by decide +kernel
set_option maxRecDepth 65536 in
theorem w_alone : about1.alone = true := by decide +kernel
set_option maxRecDepth 65536 in
theorem w_named : about1.methodNamed? x = some theMethod := by decide +kernel
set_option maxRecDepth 65536 in
theorem w_hears : about1.hears theMethod below0 = true := by decide +kernel
set_option maxRecDepth 65536 in
theorem w_ripe : about1.ripe theMethod args0 below0 = true := by decide +kernel
theorem w_running : about1.status = .running := rfl
set_option maxRecDepth 65536 in
theorem w_room : about1.hasRoom e0.platform room_1 = true :=
  launch0.hasRoom_least _ room_1 (by decide +kernel) (by decide +kernel) (by decide +kernel) (by decide +kernel) (by decide +kernel) (by decide +kernel)
theorem allAtoms_all (ts : List Jvm.Cond) (a : Array Jvm.Value) (st : Jvm.State) : (allAtoms ts).before a st = ts.all (fun c => c.before a st) := by
  induction ts with
  | nil => rfl
  | cons c t ih =>
    show (Jvm.Cond.and c (allAtoms t)).before a st = _
    rw [Jvm.Cond.before_and, ih, List.all_cons]
def words1 : List Jvm.Cond := Jvm.Cond.code x code maxLocals ret :: tables_1
/-- a 'code' word, met by the world's own term for the bytes: nothing is compared byte by byte -/
theorem code_word {y : MethodName} {bytes : ByteArray} {mx : Nat} {rt : Option FieldType} {a : Array Value} {s : State} {m : MethodId} {meth : Method} {c : Code} (h1 : s.methodNamed? y = some m) (h2 : s.vm.method? m = some meth) (h3 : meth.code = some c) (h4 : c.code = bytes)
    (h5 : (c.maxLocals == mx && c.exceptionTable.isEmpty && decide (c.maxStack ≤ mostOperands) && decide (meth.sig.returnType = rt) && !meth.locks && decide (parseMethodDescriptor y.desc = some meth.sig)) = true) : (Jvm.Cond.code y bytes mx rt).before a s = true := by
  simp only [Bool.and_eq_true, beq_iff_eq, Bool.not_eq_true', decide_eq_true_eq] at h5
  obtain ⟨⟨⟨⟨⟨g1, g2⟩, g3⟩, g4⟩, g5⟩, g6⟩ := h5
  simp [Cond.before, Cond.holds, Cond.value, h1, h2, h3, h4, g1, g2, g3, g4, g5, g6]
def isCode : Jvm.Cond → Bool
  | .code _ _ _ _ => true
  | _ => false
theorem all_split {L : List Jvm.Cond} {P : Jvm.Cond → Bool} (h1 : L.all (fun c => isCode c || P c) = true) (h2 : ∀ c ∈ L.filter isCode, P c = true) : L.all P = true := by
  refine List.all_eq_true.mpr fun c hc => ?_
  have h := List.all_eq_true.mp h1 c hc
  rcases Bool.eq_false_or_eq_true (isCode c) with hi | hi
  · exact h2 c (List.mem_filter.mpr ⟨hc, hi⟩)
  · simpa [hi] using h
set_option maxRecDepth 65536 in
theorem w_c0 : (Jvm.Cond.code x code maxLocals ret).before args0 about1 = true := code_word (m := ⟨1, 1⟩) (meth := k1m1) (c := k1c1) (by decide +kernel) rfl rfl rfl (by decide +kernel)
set_option maxRecDepth 65536 in
theorem w_c1 : (Jvm.Cond.code ({ cls := "java/util/ArrayList", name := "<init>", desc := "()V" } : Jvm.MethodName) jdk_38_method_2_code (1 : Nat) (Option.none : Option Jvm.ClassFile.FieldType)).before args0 about1 = true := code_word (m := ⟨11, 0⟩) (meth := k11m0) (c := k11c0) (by decide +kernel) rfl rfl rfl (by decide +kernel)
set_option maxRecDepth 65536 in
theorem w_c2 : (Jvm.Cond.code ({ cls := "java/util/AbstractList", name := "<init>", desc := "()V" } : Jvm.MethodName) jdk_39_method_1_code (1 : Nat) (Option.none : Option Jvm.ClassFile.FieldType)).before args0 about1 = true := code_word (m := ⟨7, 0⟩) (meth := k7m0) (c := k7c0) (by decide +kernel) rfl rfl rfl (by decide +kernel)
set_option maxRecDepth 65536 in
theorem w_c3 : (Jvm.Cond.code ({ cls := "java/util/AbstractCollection", name := "<init>", desc := "()V" } : Jvm.MethodName) jdk_22_method_1_code (1 : Nat) (Option.none : Option Jvm.ClassFile.FieldType)).before args0 about1 = true := code_word (m := ⟨4, 0⟩) (meth := k4m0) (c := k4c0) (by decide +kernel) rfl rfl rfl (by decide +kernel)
set_option maxRecDepth 65536 in
theorem w_c4 : (Jvm.Cond.code ({ cls := "java/lang/Object", name := "<init>", desc := "()V" } : Jvm.MethodName) object_method_1_code (1 : Nat) (Option.none : Option Jvm.ClassFile.FieldType)).before args0 about1 = true := code_word (m := ⟨0, 0⟩) (meth := k0m0) (c := k0c0) (by decide +kernel) rfl rfl rfl (by decide +kernel)
set_option maxRecDepth 65536 in
theorem w_c5 : (Jvm.Cond.code ({ cls := "com/example/portcullis/portcullis/wire/Gsup$Element", name := "<init>", desc := "(I[B)V" } : Jvm.MethodName) prog_91_method_1_code (3 : Nat) (Option.none : Option Jvm.ClassFile.FieldType)).before args0 about1 = true := code_word (m := ⟨13, 0⟩) (meth := k13m0) (c := k13c0) (by decide +kernel) rfl rfl rfl (by decide +kernel)
set_option maxRecDepth 65536 in
theorem w_c6 : (Jvm.Cond.code ({ cls := "java/lang/Record", name := "<init>", desc := "()V" } : Jvm.MethodName) jdk_30_method_1_code (1 : Nat) (Option.none : Option Jvm.ClassFile.FieldType)).before args0 about1 = true := code_word (m := ⟨12, 0⟩) (meth := k12m0) (c := k12c0) (by decide +kernel) rfl rfl rfl (by decide +kernel)
set_option maxRecDepth 65536 in
theorem w_c7 : (Jvm.Cond.code ({ cls := "java/util/ArrayList", name := "add", desc := "(Ljava/lang/Object;)Z" } : Jvm.MethodName) jdk_38_method_25_code (2 : Nat) (Option.some Jvm.ClassFile.FieldType.boolean)).before args0 about1 = true := code_word (m := ⟨11, 4⟩) (meth := k11m4) (c := k11c4) (by decide +kernel) rfl rfl rfl (by decide +kernel)
set_option maxRecDepth 65536 in
theorem w_c8 : (Jvm.Cond.code ({ cls := "java/util/ArrayList", name := "add", desc := "(Ljava/lang/Object;[Ljava/lang/Object;I)V" } : Jvm.MethodName) jdk_38_method_24_code (4 : Nat) (Option.none : Option Jvm.ClassFile.FieldType)).before args0 about1 = true := code_word (m := ⟨11, 3⟩) (meth := k11m3) (c := k11c3) (by decide +kernel) rfl rfl rfl (by decide +kernel)
set_option maxRecDepth 65536 in
theorem w_c9 : (Jvm.Cond.code ({ cls := "java/util/ArrayList", name := "grow", desc := "()[Ljava/lang/Object;" } : Jvm.MethodName) jdk_38_method_7_code (1 : Nat) (Option.some (Jvm.ClassFile.FieldType.array (Jvm.ClassFile.FieldType.object "java/lang/Object")))).before args0 about1 = true := code_word (m := ⟨11, 2⟩) (meth := k11m2) (c := k11c2) (by decide +kernel) rfl rfl rfl (by decide +kernel)
set_option maxRecDepth 65536 in
theorem w_c10 : (Jvm.Cond.code ({ cls := "java/util/ArrayList", name := "grow", desc := "(I)[Ljava/lang/Object;" } : Jvm.MethodName) jdk_38_method_6_code (4 : Nat) (Option.some (Jvm.ClassFile.FieldType.array (Jvm.ClassFile.FieldType.object "java/lang/Object")))).before args0 about1 = true := code_word (m := ⟨11, 1⟩) (meth := k11m1) (c := k11c1) (by decide +kernel) rfl rfl rfl (by decide +kernel)
set_option maxRecDepth 65536 in
theorem w_c11 : (Jvm.Cond.code ({ cls := "java/lang/Math", name := "max", desc := "(II)I" } : Jvm.MethodName) jdk_29_method_65_code (2 : Nat) (Option.some Jvm.ClassFile.FieldType.int)).before args0 about1 = true := code_word (m := ⟨14, 1⟩) (meth := k14m1) (c := k14c1) (by decide +kernel) rfl rfl rfl (by decide +kernel)
set_option maxRecDepth 65536 in
theorem w_c12 : (Jvm.Cond.code ({ cls := "com/example/portcullis/portcullis/wire/Gsup$Message", name := "<init>", desc := "(ILjava/util/List;)V" } : Jvm.MethodName) prog_92_method_1_code (3 : Nat) (Option.none : Option Jvm.ClassFile.FieldType)).before args0 about1 = true := code_word (m := ⟨15, 0⟩) (meth := k15m0) (c := k15c0) (by decide +kernel) rfl rfl rfl (by decide +kernel)
set_option maxRecDepth 65536 in
theorem w_c13 : (Jvm.Cond.code ({ cls := "com/example/portcullis/portcullis/wire/Gsup$Message", name := "isRequest", desc := "()Z" } : Jvm.MethodName) prog_92_method_3_code (1 : Nat) (Option.some Jvm.ClassFile.FieldType.boolean)).before args0 about1 = true := code_word (m := ⟨15, 1⟩) (meth := k15m1) (c := k15c1) (by decide +kernel) rfl rfl rfl (by decide +kernel)
def codes1 : List Jvm.Cond := [Jvm.Cond.code x code maxLocals ret, Jvm.Cond.code ({ cls := "java/util/ArrayList", name := "<init>", desc := "()V" } : Jvm.MethodName) jdk_38_method_2_code (1 : Nat) (Option.none : Option Jvm.ClassFile.FieldType), Jvm.Cond.code ({ cls := "java/util/AbstractList", name := "<init>", desc := "()V" } : Jvm.MethodName) jdk_39_method_1_code (1 : Nat) (Option.none : Option Jvm.ClassFile.FieldType), Jvm.Cond.code ({ cls := "java/util/AbstractCollection", name := "<init>", desc := "()V" } : Jvm.MethodName) jdk_22_method_1_code (1 : Nat) (Option.none : Option Jvm.ClassFile.FieldType), Jvm.Cond.code ({ cls := "java/lang/Object", name := "<init>", desc := "()V" } : Jvm.MethodName) object_method_1_code (1 : Nat) (Option.none : Option Jvm.ClassFile.FieldType), Jvm.Cond.code ({ cls := "com/example/portcullis/portcullis/wire/Gsup$Element", name := "<init>", desc := "(I[B)V" } : Jvm.MethodName) prog_91_method_1_code (3 : Nat) (Option.none : Option Jvm.ClassFile.FieldType), Jvm.Cond.code ({ cls := "java/lang/Record", name := "<init>", desc := "()V" } : Jvm.MethodName) jdk_30_method_1_code (1 : Nat) (Option.none : Option Jvm.ClassFile.FieldType), Jvm.Cond.code ({ cls := "java/util/ArrayList", name := "add", desc := "(Ljava/lang/Object;)Z" } : Jvm.MethodName) jdk_38_method_25_code (2 : Nat) (Option.some Jvm.ClassFile.FieldType.boolean), Jvm.Cond.code ({ cls := "java/util/ArrayList", name := "add", desc := "(Ljava/lang/Object;[Ljava/lang/Object;I)V" } : Jvm.MethodName) jdk_38_method_24_code (4 : Nat) (Option.none : Option Jvm.ClassFile.FieldType), Jvm.Cond.code ({ cls := "java/util/ArrayList", name := "grow", desc := "()[Ljava/lang/Object;" } : Jvm.MethodName) jdk_38_method_7_code (1 : Nat) (Option.some (Jvm.ClassFile.FieldType.array (Jvm.ClassFile.FieldType.object "java/lang/Object"))), Jvm.Cond.code ({ cls := "java/util/ArrayList", name := "grow", desc := "(I)[Ljava/lang/Object;" } : Jvm.MethodName) jdk_38_method_6_code (4 : Nat) (Option.some (Jvm.ClassFile.FieldType.array (Jvm.ClassFile.FieldType.object "java/lang/Object"))), Jvm.Cond.code ({ cls := "java/lang/Math", name := "max", desc := "(II)I" } : Jvm.MethodName) jdk_29_method_65_code (2 : Nat) (Option.some Jvm.ClassFile.FieldType.int), Jvm.Cond.code ({ cls := "com/example/portcullis/portcullis/wire/Gsup$Message", name := "<init>", desc := "(ILjava/util/List;)V" } : Jvm.MethodName) prog_92_method_1_code (3 : Nat) (Option.none : Option Jvm.ClassFile.FieldType), Jvm.Cond.code ({ cls := "com/example/portcullis/portcullis/wire/Gsup$Message", name := "isRequest", desc := "()Z" } : Jvm.MethodName) prog_92_method_3_code (1 : Nat) (Option.some Jvm.ClassFile.FieldType.boolean)]
set_option maxRecDepth 65536 in
theorem codes_eq : words1.filter isCode = codes1 := rfl
theorem w_codes : ∀ c ∈ words1.filter isCode, c.before args0 about1 = true := by
  rw [codes_eq]
  intro c hc
  simp only [codes1, List.mem_cons, List.not_mem_nil, or_false] at hc
  rcases hc with rfl | rfl | rfl | rfl | rfl | rfl | rfl | rfl | rfl | rfl | rfl | rfl | rfl | rfl
  · exact w_c0
  · exact w_c1
  · exact w_c2
  · exact w_c3
  · exact w_c4
  · exact w_c5
  · exact w_c6
  · exact w_c7
  · exact w_c8
  · exact w_c9
  · exact w_c10
  · exact w_c11
  · exact w_c12
  · exact w_c13
set_option maxRecDepth 65536 in
theorem w_t1 : (words1.take 24).all (fun c => isCode c || c.before args0 about1) = true := by decide +kernel
set_option maxRecDepth 65536 in
theorem w_t2 : ((words1.drop 24).take 24).all (fun c => isCode c || c.before args0 about1) = true := by decide +kernel
set_option maxRecDepth 65536 in
theorem w_t3 : (((words1.drop 24).drop 24).take 24).all (fun c => isCode c || c.before args0 about1) = true := by decide +kernel
set_option maxRecDepth 65536 in
theorem w_t4 : (((words1.drop 24).drop 24).drop 24).all (fun c => isCode c || c.before args0 about1) = true := by decide +kernel
theorem w_tables : (allAtoms (Jvm.Cond.code x code maxLocals ret :: tables_1)).before args0 about1 = true := by
  rw [allAtoms_all]
  show words1.all (fun c => c.before args0 about1) = true
  refine all_split ?_ w_codes
  rw [← List.take_append_drop 24 words1, List.all_append, w_t1, ← List.take_append_drop 24 (words1.drop 24), List.all_append, w_t2, ← List.take_append_drop 24 ((words1.drop 24).drop 24), List.all_append, w_t3, w_t4]
  rfl
set_option maxRecDepth 65536 in
theorem w_rest : rest_1_c.before args0 about1 = true := by decide +kernel
set_option maxRecDepth 65536 in
theorem w_case : (Jvm.Cond.and given_1 narrow_1).before args0 about1 = true := by decide +kernel
theorem w_applies : (headSpec (Jvm.Cond.code x code maxLocals ret :: tables_1) room_1).applies x e0.platform about1 = true :=
  (Spec.applies_iff w_frames).mpr ⟨w_running, w_runnable, w_alone, w_named, w_hears, w_ripe, w_room, w_tables⟩
theorem atStart : AtStart classFile x code maxLocals ret World_1 tables_1 room_1 Calls_1 rest_1 Pre_1 launch0 p0 e0 about1 theMethod args0 below0 :=
  ⟨lists_1, trivial, launch0.admits_env _ _ _, launch0.least_env, fairChoices_fair.cas, fairChoices_fair.clock, w_frames, w_args, w_heap, w_applies, trivial, w_rest, w_case⟩
end start1
theorem witness_1 : WitnessClaimed_1 := ⟨start1.p0, start1.e0, start1.about1, start1.theMethod, start1.args0, start1.below0, start1.atStart⟩
end Jvm.Pilot.@@N@@
