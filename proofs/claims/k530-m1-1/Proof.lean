import JvmDerived
import JvmDerived.Pilot.@@N@@Statement
import JvmDerived.Pilot.@@N@@Code
set_option linter.unusedVariables false
set_option linter.unusedSimpArgs false
namespace Jvm.RoadKit
open Sem ClassFile Op Lib Jvm.Stand Jvm.Free Jvm.LawKit
section Own
variable {p : Program} {l : Launch} {e : Env} {R : Room} {s : State} {m : MethodId} {args : Array Value} {below : List Frame} {meth : Method} {c : Code} {T : State} {locs : List Loc} {cells slots : Nat}
theorem retI (X : Stand p l e R s m args below meth c T locs cells slots) (hx : p.tables.exec = Jvm.exec) {pc : Nat} {Ls : Array Slot} {z : Int32} {rest : List Value} (hret : meth.sig.returnType = some .int) (hd : decode c.code pc = .ok (.ireturn, 1)) {fs : List Frame}
    (hl : ∀ (f : JFrame) (acts : List Action), f.method = m → f.locked = none → f.entered = [] → (doReturn e (T.setTop f) acts (some (.int z))).1 = T.setFrames fs) : Steps p.tables e below (T.setTop (mkF m pc Ls (.int z :: rest))) (T.setFrames fs) :=
  retOut X hx hret rfl (Or.inl ⟨rfl, Or.inl rfl, z, rfl⟩) hd hl
/-- the walk from S on ends in a return of which Q holds -/
def Goes (p : Program) (e : Env) (below : List Frame) (s : State) (k n : Nat) (Q : Option Value → Heap → List Loc → Prop) (S : State) : Prop :=
  ∃ t o, Steps p.tables e below S t ∧ t.status = .running ∧ Ended t below o ∧ ∃ v L, o = .returned v ∧ Q v t.heap L ∧ FrameEnd s o t L k n
variable {kc kn : Nat} {Q : Option Value → Heap → List Loc → Prop}
theorem Goes.step {A B : State} (h : ∀ t, Steps p.tables e below B t → Steps p.tables e below A t) (g : Goes p e below s kc kn Q B) : Goes p e below s kc kn Q A := by
  obtain ⟨t, o, h1, h2⟩ := g; exact ⟨t, o, h t h1, h2⟩
theorem Goes.to {A B : State} (h : Steps p.tables e below A B) (g : Goes p e below s kc kn Q B) : Goes p e below s kc kn Q A := by
  obtain ⟨t, o, h1, h2⟩ := g; exact ⟨t, o, h.trans h1, h2⟩
theorem Goes.out (X : Stand p l e R s m args below meth c T locs cells slots) {g : JFrame} {v : Option Value} (hlk : meth.locks = false) (hv : meth.sig.returnType = none → v = none)
    (hs : ∀ fs : List Frame, (∀ (f : JFrame) (acts : List Action), f.method = m → f.locked = none → f.entered = [] → (doReturn e (T.setTop f) acts v).1 = T.setFrames fs) → Steps p.tables e below (T.setTop g) (T.setFrames fs))
    (hq : Q v T.heap locs) (hk : cells ≤ kc) (hn : slots ≤ kn) : Goes p e below s kc kn Q (T.setTop g) := by
  obtain ⟨fs, hr, hrun, hended, hW, hsame⟩ := X.leave (v := v) hv hlk
  exact ⟨_, _, hs fs hr, hrun, hended, v, locs, rfl, hq, ⟨_, rfl⟩, hW, hsame.mono hk hn⟩
theorem Goes.retI (X : Stand p l e R s m args below meth c T locs cells slots) (hx : p.tables.exec = Jvm.exec) (hlk : meth.locks = false) {pc : Nat} {Ls : Array Slot} {z : Int32} {rest : List Value} (hret : meth.sig.returnType = some .int) (hd : decode c.code pc = .ok (.ireturn, 1))
    (hq : Q (some (.int z)) T.heap locs) (hk : cells ≤ kc) (hn : slots ≤ kn) : Goes p e below s kc kn Q (T.setTop (mkF m pc Ls (.int z :: rest))) :=
  Goes.out X hlk (fun h => by rw [hret] at h; cases h) (fun fs hr => Jvm.RoadKit.retI X hx hret hd hr) hq hk hn
theorem Goes.retN (X : Stand p l e R s m args below meth c T locs cells slots) (hx : p.tables.exec = Jvm.exec) (hlk : meth.locks = false) {pc : Nat} {Ls : Array Slot} {z : Int32} {t : FieldType} {rest : List Value} (hret : meth.sig.returnType = some t) (ht : t = .boolean ∨ t = .byte ∨ t = .char ∨ t = .short) (hd : decode c.code pc = .ok (.ireturn, 1))
    (hq : Q (some (.int (nar t z))) T.heap locs) (hk : cells ≤ kc) (hn : slots ≤ kn) : Goes p e below s kc kn Q (T.setTop (mkF m pc Ls (.int z :: rest))) :=
  Goes.out X hlk (fun h => by rw [hret] at h; cases h) (fun fs hr => Jvm.RoadKit.retN X hx hret ht hd hr) hq hk hn
theorem Goes.retJ (X : Stand p l e R s m args below meth c T locs cells slots) (hx : p.tables.exec = Jvm.exec) (hlk : meth.locks = false) {pc : Nat} {Ls : Array Slot} {z : Int64} {rest : List Value} (hret : meth.sig.returnType = some .long) (hd : decode c.code pc = .ok (.lreturn, 1))
    (hq : Q (some (.long z)) T.heap locs) (hk : cells ≤ kc) (hn : slots ≤ kn) : Goes p e below s kc kn Q (T.setTop (mkF m pc Ls (.long z :: rest))) :=
  Goes.out X hlk (fun h => by rw [hret] at h; cases h) (fun fs hr => retOut X hx hret rfl (Or.inr (Or.inl ⟨rfl, rfl, z, rfl⟩)) hd hr) hq hk hn
theorem Goes.retR (X : Stand p l e R s m args below meth c T locs cells slots) (hx : p.tables.exec = Jvm.exec) (hlk : meth.locks = false) {pc : Nat} {Ls : Array Slot} {w : Value} {t : FieldType} {rest : List Value} (hret : meth.sig.returnType = some t) (ht : t.isReference = true) (hw : w.isRef = true) (hn' : narrow t w = w) (hd : decode c.code pc = .ok (.areturn, 1))
    (hq : Q (some w) T.heap locs) (hk : cells ≤ kc) (hn : slots ≤ kn) : Goes p e below s kc kn Q (T.setTop (mkF m pc Ls (w :: rest))) :=
  Goes.out X hlk (fun h => by rw [hret] at h; cases h) (fun fs hr => retOut X hx hret hn' (Or.inr (Or.inr (Or.inr (Or.inr ⟨rfl, ht, hw⟩)))) hd hr) hq hk hn
theorem Goes.retV (X : Stand p l e R s m args below meth c T locs cells slots) (hx : p.tables.exec = Jvm.exec) (hlk : meth.locks = false) {pc : Nat} {Ls : Array Slot} (hret : meth.sig.returnType = none) (hd : decode c.code pc = .ok (.return_, 1))
    (hq : Q none T.heap locs) (hk : cells ≤ kc) (hn : slots ≤ kn) : Goes p e below s kc kn Q (T.setTop (mkF m pc Ls [])) :=
  Goes.out X hlk (fun _ => rfl) (fun fs hr => X.returnOut hx hret hd hr) hq hk hn
theorem Goes.enter {s₁ : State} {maxL : Nat} {g : JFrame} (h : entryFrame m args maxL = g) (k : Goes p e below s kc kn Q (s₁.setTop g)) :
    ∃ t o, Steps p.tables e below (s₁.setTop (entryFrame m args maxL)) t ∧ t.status = .running ∧ Ended t below o ∧ ∃ v L, o = .returned v ∧ Q v t.heap L ∧ FrameEnd s o t L kc kn := by rw [h]; exact k
theorem nm0 {b : Addr} : b ∉ ([] : List Addr) := List.not_mem_nil
theorem nm1 {b a : Addr} (h : b ≠ a) : b ∉ [a] := fun q => h (List.mem_singleton.mp q)
theorem nm2 {b a a' : Addr} (h : b ≠ a) (h' : b ≠ a') : b ∉ [a, a'] := fun q => (List.mem_cons.mp q).elim h (fun q => h' (List.mem_singleton.mp q))
theorem nm3 {b a a' a'' : Addr} (h : b ≠ a) (h' : b ≠ a') (h'' : b ≠ a'') : b ∉ [a, a', a''] := fun q => (List.mem_cons.mp q).elim h (fun q => nm2 h' h'' q)
theorem Sta.keepN {Z : State} {h h' : Heap} {C n d : String} {v : Value} {ws : List Addr} (F : Sta Z h C n d v) (K : Keep h h' ws) (hn : ∀ a ∈ ws, ∀ cell : Cell, h[a]? = some cell → cell.vm.isStatics = false) : Sta Z h' C n d v := by
  obtain ⟨cf, i, k, f, st, cell, h1, h2, h3, h4, h5, h6, r⟩ := F
  exact ⟨cf, i, k, f, st, cell, h1, h2, h3, h4, K.2.1 st cell h5 (fun q => by have := hn st q cell h5; rw [h6] at this; cases this), h6, r⟩
theorem Exa.plainN {Z : State} {h : Heap} {a : Addr} {C : String} (E : Exa Z h a C) : ∀ cell : Cell, h[a]? = some cell → cell.vm.isStatics = false := fun cell q => by
  obtain ⟨c, k, h1, h2, h3, h4, h5⟩ := E; cases h1.symm.trans q; exact h4
theorem Arv.plainN {Z : State} {h : Heap} {a : Addr} {k : ClassId} {ty : FieldType} {z : Int32} {vs : List Value} {d : Value} (A : Arv Z h a k ty z vs d) : ∀ cell : Cell, h[a]? = some cell → cell.vm.isStatics = false := fun cell q => by
  obtain ⟨c, A, r⟩ := A; cases A.1.symm.trans q; exact A.plain
end Own
end Jvm.RoadKit
namespace Jvm.Pilot.@@N@@
open Jvm Jvm.ClassFile Sem Op Lib Jvm.Free Jvm.Stand Jvm.LawKit Jvm.RoadKit Bundle Jvm.Pilot.@@N@@.Jvm.D
theorem d_prog_40_method_4_code_0 : decode prog_40_method_4_code 0 = .ok (.lload_n 0, 1) := by decide +kernel
theorem d_prog_40_method_4_code_1 : decode prog_40_method_4_code 1 = .ok (.iload_n 2, 1) := by decide +kernel
theorem d_prog_40_method_4_code_2 : decode prog_40_method_4_code 2 = .ok (.i2l, 1) := by decide +kernel
theorem d_prog_40_method_4_code_3 : decode prog_40_method_4_code 3 = .ok (.lconst 1, 1) := by decide +kernel
theorem d_prog_40_method_4_code_4 : decode prog_40_method_4_code 4 = .ok (.ladd, 1) := by decide +kernel
theorem d_prog_40_method_4_code_5 : decode prog_40_method_4_code 5 = .ok (.ldc2_w 98, 3) := by decide +kernel
theorem d_prog_40_method_4_code_8 : decode prog_40_method_4_code 8 = .ok (.lmul, 1) := by decide +kernel
theorem d_prog_40_method_4_code_9 : decode prog_40_method_4_code 9 = .ok (.ladd, 1) := by decide +kernel
theorem d_prog_40_method_4_code_10 : decode prog_40_method_4_code 10 = .ok (.lstore_n 3, 1) := by decide +kernel
theorem d_prog_40_method_4_code_11 : decode prog_40_method_4_code 11 = .ok (.lload_n 3, 1) := by decide +kernel
theorem d_prog_40_method_4_code_12 : decode prog_40_method_4_code 12 = .ok (.lload_n 3, 1) := by decide +kernel
theorem d_prog_40_method_4_code_13 : decode prog_40_method_4_code 13 = .ok (.bipush 30, 2) := by decide +kernel
theorem d_prog_40_method_4_code_15 : decode prog_40_method_4_code 15 = .ok (.lushr, 1) := by decide +kernel
theorem d_prog_40_method_4_code_16 : decode prog_40_method_4_code 16 = .ok (.lxor, 1) := by decide +kernel
theorem d_prog_40_method_4_code_17 : decode prog_40_method_4_code 17 = .ok (.ldc2_w 100, 3) := by decide +kernel
theorem d_prog_40_method_4_code_20 : decode prog_40_method_4_code 20 = .ok (.lmul, 1) := by decide +kernel
theorem d_prog_40_method_4_code_21 : decode prog_40_method_4_code 21 = .ok (.lstore_n 3, 1) := by decide +kernel
theorem d_prog_40_method_4_code_22 : decode prog_40_method_4_code 22 = .ok (.lload_n 3, 1) := by decide +kernel
theorem d_prog_40_method_4_code_23 : decode prog_40_method_4_code 23 = .ok (.lload_n 3, 1) := by decide +kernel
theorem d_prog_40_method_4_code_24 : decode prog_40_method_4_code 24 = .ok (.bipush 27, 2) := by decide +kernel
theorem d_prog_40_method_4_code_26 : decode prog_40_method_4_code 26 = .ok (.lushr, 1) := by decide +kernel
theorem d_prog_40_method_4_code_27 : decode prog_40_method_4_code 27 = .ok (.lxor, 1) := by decide +kernel
theorem d_prog_40_method_4_code_28 : decode prog_40_method_4_code 28 = .ok (.ldc2_w 102, 3) := by decide +kernel
theorem d_prog_40_method_4_code_31 : decode prog_40_method_4_code 31 = .ok (.lmul, 1) := by decide +kernel
theorem d_prog_40_method_4_code_32 : decode prog_40_method_4_code 32 = .ok (.lstore_n 3, 1) := by decide +kernel
theorem d_prog_40_method_4_code_33 : decode prog_40_method_4_code 33 = .ok (.lload_n 3, 1) := by decide +kernel
theorem d_prog_40_method_4_code_34 : decode prog_40_method_4_code 34 = .ok (.lload_n 3, 1) := by decide +kernel
theorem d_prog_40_method_4_code_35 : decode prog_40_method_4_code 35 = .ok (.bipush 31, 2) := by decide +kernel
theorem d_prog_40_method_4_code_37 : decode prog_40_method_4_code 37 = .ok (.lushr, 1) := by decide +kernel
theorem d_prog_40_method_4_code_38 : decode prog_40_method_4_code 38 = .ok (.lxor, 1) := by decide +kernel
theorem d_prog_40_method_4_code_39 : decode prog_40_method_4_code 39 = .ok (.lreturn, 1) := by decide +kernel
def own_n1 (q0 : Int64) (q1 : Int32) : Int64 := (q0 + ((q1.toInt64 + (1 : Int64)) * (-7046029254386353131 : Int64)))
def own_n2 (q0 : Int64) (q1 : Int32) : Int64 := (((own_n1 q0 q1) ^^^ ((own_n1 q0 q1).toUInt64 >>> ((30 : Int32) &&& 0x3f).toInt64.toUInt64).toInt64) * (-4658895280553007687 : Int64))
def own_n3 (q0 : Int64) (q1 : Int32) : Int64 := (((own_n2 q0 q1) ^^^ ((own_n2 q0 q1).toUInt64 >>> ((27 : Int32) &&& 0x3f).toInt64.toUInt64).toInt64) * (-7723592293110705685 : Int64))
def own_ns_fn (q0 : Int64) (q1 : Int32) : Int64 := ((own_n3 q0 q1) ^^^ ((own_n3 q0 q1).toUInt64 >>> ((31 : Int32) &&& 0x3f).toInt64.toUInt64).toInt64)
def own_ns_Q (Z : State) (q0 : Int64) (q1 : Int32)  (h0 : Heap) (n0 : Nat) (v : Option Value) (h : Heap) (L : List Loc) : Prop := v = some (.long (own_ns_fn q0 q1)) ∧ Fr n0 L ∧ h = h0
theorem own_ns_ef (m : MethodId) (q0 : Int64) (q1 : Int32) : entryFrame m #[(.long q0), (.int q1)] 5 = mkF m 0 #[.val (.long q0), .second, .val (.int q1), .unset, .unset] [] := by first | (simp [entryFrame, mkF, argsToLocals, Value.category]; done) | rfl
theorem pn_Simulation : plainName "com/example/virmex/virmex/simulation/Simulation" = true := by first | (simp [plainName, overriddenIn]; done) | decide +kernel
set_option maxRecDepth 65536 in
set_option maxHeartbeats 40000000 in
theorem own_ns_rm (l : Launch) (Z : State) (a0 : Array Value) (hw : ∀ d ∈ tables_1, d.before a0 Z = true) (ws : List Jvm.Cond) (q0 : Int64) (q1 : Int32)  (h0 : Heap) (n0 : Nat) (Z0 : n0 ≤ h0.size)  :
    MetFree l (⟨"com/example/virmex/virmex/simulation/Simulation", "nodeSeed", "(JI)J"⟩ : MethodName) (head1 (Jvm.Cond.code (⟨"com/example/virmex/virmex/simulation/Simulation", "nodeSeed", "(JI)J"⟩ : MethodName) prog_40_method_4_code 5 (some .long) :: ws) ({ frames := 0, cells := 0, slots := 0, locals := 0 } : Room)) (fun a U => a = #[(.long q0), (.int q1)] ∧ Z.Warmed39 U.vm ∧ U.heap = h0) (fun _ _ _ _ _ => True) (fun _ U o U' => ∃ v L, o = .returned v ∧ own_ns_Q Z q0 q1 h0 n0 v U'.heap L ∧ FrameEnd U o U' L ({ frames := 0, cells := 0, slots := 0, locals := 0 } : Room).cells ({ frames := 0, cells := 0, slots := 0, locals := 0 } : Room).slots) := by
  refine MetFree.of_bodySF (plainFor_of_name pn_Simulation) hisR ?_
  intro p e s m args below meth c s₁ Bd hml0 hP hK
  obtain ⟨rfl, hZ, hh⟩ := hP
  have hx := Bd.exec
  have hby := Bd.bytes
  have hml : c.maxLocals = 5 := hml0
  have hown : s.vm.findClass "com/example/virmex/virmex/simulation/Simulation" = some m.cls := findClass_of_methodNamed Bd.named
  have hnm := (name_of_methodNamed Bd.named Bd.method).1
  have hlk : meth.locks = false := BodyLoose.notSynchronized Bd
  have hrt := Bd.returns
  have X0 : Stand p l e ({ frames := 0, cells := 0, slots := 0, locals := 0 } : Room) s m #[(.long q0), (.int q1)] below meth c s₁ [] 0 0 := Stand.of_body Bd
  have e0 : s₁.heap = h0 := by rw [← hh, Bd.state]; rfl
  have N0 := Fr.nil n0
  refine Goes.enter (kc := ({ frames := 0, cells := 0, slots := 0, locals := 0 } : Room).cells) (kn := ({ frames := 0, cells := 0, slots := 0, locals := 0 } : Room).slots) (Q := own_ns_Q Z q0 q1 h0 n0) (own_ns_ef m q0 q1) ?_
  refine Goes.step (B := (s₁.setTop (mkF m 1 #[.val (.long q0), .second, .val (.int q1), .unset, .unset] [(.long q0)]))) (fun _ k => XS.lloadN X0.here hx rfl (hb hby d_prog_40_method_4_code_0) rfl k) ?_
  refine Goes.step (B := (s₁.setTop (mkF m 2 #[.val (.long q0), .second, .val (.int q1), .unset, .unset] [(.int q1), (.long q0)]))) (fun _ k => XS.iloadN X0.here hx rfl (hb hby d_prog_40_method_4_code_1) rfl k) ?_
  refine Goes.step (B := (s₁.setTop (mkF m 3 #[.val (.long q0), .second, .val (.int q1), .unset, .unset] [(.long q1.toInt64), (.long q0)]))) (fun _ k => XS.i2l X0.here hx rfl (hb hby d_prog_40_method_4_code_2) rfl k) ?_
  refine Goes.step (B := (s₁.setTop (mkF m 4 #[.val (.long q0), .second, .val (.int q1), .unset, .unset] [(.long (1 : Int64)), (.long q1.toInt64), (.long q0)]))) (fun _ k => XS.lconst X0.here hx rfl (hb hby d_prog_40_method_4_code_3) k) ?_
  refine Goes.step (B := (s₁.setTop (mkF m 5 #[.val (.long q0), .second, .val (.int q1), .unset, .unset] [(.long (q1.toInt64 + (1 : Int64))), (.long q0)]))) (fun _ k => XS.ladd X0.here hx rfl (hb hby d_prog_40_method_4_code_4) rfl k) ?_
  refine Goes.step (B := (s₁.setTop (mkF m 8 #[.val (.long q0), .second, .val (.int q1), .unset, .unset] [(.long (-7046029254386353131 : Int64)), (.long (q1.toInt64 + (1 : Int64))), (.long q0)]))) (fun _ k => X0.ldc2Long hx hown (mvT hZ (hw _ (List.mem_of_getElem? (i := 4) rfl))) (g := (mkF m 5 #[.val (.long q0), .second, .val (.int q1), .unset, .unset] [(.long (q1.toInt64 + (1 : Int64))), (.long q0)])) rfl (hb hby d_prog_40_method_4_code_5) _ k) ?_
  refine Goes.step (B := (s₁.setTop (mkF m 9 #[.val (.long q0), .second, .val (.int q1), .unset, .unset] [(.long ((q1.toInt64 + (1 : Int64)) * (-7046029254386353131 : Int64))), (.long q0)]))) (fun _ k => XS.lmul X0.here hx rfl (hb hby d_prog_40_method_4_code_8) rfl k) ?_
  refine Goes.step (B := (s₁.setTop (mkF m 10 #[.val (.long q0), .second, .val (.int q1), .unset, .unset] [(.long (q0 + ((q1.toInt64 + (1 : Int64)) * (-7046029254386353131 : Int64))))]))) (fun _ k => XS.ladd X0.here hx rfl (hb hby d_prog_40_method_4_code_9) rfl k) ?_
  refine Goes.step (B := (s₁.setTop (mkF m 11 #[.val (.long q0), .second, .val (.int q1), .val (.long (own_n1 q0 q1)), .second] []))) (fun _ k => XS.lstoreN X0.here hx rfl (hb hby d_prog_40_method_4_code_10) rfl (l' := #[.val (.long q0), .second, .val (.int q1), .val (.long (own_n1 q0 q1)), .second]) rfl k) ?_
  refine Goes.step (B := (s₁.setTop (mkF m 12 #[.val (.long q0), .second, .val (.int q1), .val (.long (own_n1 q0 q1)), .second] [(.long (own_n1 q0 q1))]))) (fun _ k => XS.lloadN X0.here hx rfl (hb hby d_prog_40_method_4_code_11) rfl k) ?_
  refine Goes.step (B := (s₁.setTop (mkF m 13 #[.val (.long q0), .second, .val (.int q1), .val (.long (own_n1 q0 q1)), .second] [(.long (own_n1 q0 q1)), (.long (own_n1 q0 q1))]))) (fun _ k => XS.lloadN X0.here hx rfl (hb hby d_prog_40_method_4_code_12) rfl k) ?_
  refine Goes.step (B := (s₁.setTop (mkF m 15 #[.val (.long q0), .second, .val (.int q1), .val (.long (own_n1 q0 q1)), .second] [(.int (30 : Int32)), (.long (own_n1 q0 q1)), (.long (own_n1 q0 q1))]))) (fun _ k => XS.bipush X0.here hx rfl (hb hby d_prog_40_method_4_code_13) k) ?_
  refine Goes.step (B := (s₁.setTop (mkF m 16 #[.val (.long q0), .second, .val (.int q1), .val (.long (own_n1 q0 q1)), .second] [(.long ((own_n1 q0 q1).toUInt64 >>> ((30 : Int32) &&& 0x3f).toInt64.toUInt64).toInt64), (.long (own_n1 q0 q1))]))) (fun _ k => XS.lushr X0.here hx rfl (hb hby d_prog_40_method_4_code_15) rfl k) ?_
  refine Goes.step (B := (s₁.setTop (mkF m 17 #[.val (.long q0), .second, .val (.int q1), .val (.long (own_n1 q0 q1)), .second] [(.long ((own_n1 q0 q1) ^^^ ((own_n1 q0 q1).toUInt64 >>> ((30 : Int32) &&& 0x3f).toInt64.toUInt64).toInt64))]))) (fun _ k => XS.lxor X0.here hx rfl (hb hby d_prog_40_method_4_code_16) rfl k) ?_
  refine Goes.step (B := (s₁.setTop (mkF m 20 #[.val (.long q0), .second, .val (.int q1), .val (.long (own_n1 q0 q1)), .second] [(.long (-4658895280553007687 : Int64)), (.long ((own_n1 q0 q1) ^^^ ((own_n1 q0 q1).toUInt64 >>> ((30 : Int32) &&& 0x3f).toInt64.toUInt64).toInt64))]))) (fun _ k => X0.ldc2Long hx hown (mvT hZ (hw _ (List.mem_of_getElem? (i := 5) rfl))) (g := (mkF m 17 #[.val (.long q0), .second, .val (.int q1), .val (.long (own_n1 q0 q1)), .second] [(.long ((own_n1 q0 q1) ^^^ ((own_n1 q0 q1).toUInt64 >>> ((30 : Int32) &&& 0x3f).toInt64.toUInt64).toInt64))])) rfl (hb hby d_prog_40_method_4_code_17) _ k) ?_
  refine Goes.step (B := (s₁.setTop (mkF m 21 #[.val (.long q0), .second, .val (.int q1), .val (.long (own_n1 q0 q1)), .second] [(.long (((own_n1 q0 q1) ^^^ ((own_n1 q0 q1).toUInt64 >>> ((30 : Int32) &&& 0x3f).toInt64.toUInt64).toInt64) * (-4658895280553007687 : Int64)))]))) (fun _ k => XS.lmul X0.here hx rfl (hb hby d_prog_40_method_4_code_20) rfl k) ?_
  refine Goes.step (B := (s₁.setTop (mkF m 22 #[.val (.long q0), .second, .val (.int q1), .val (.long (own_n2 q0 q1)), .second] []))) (fun _ k => XS.lstoreN X0.here hx rfl (hb hby d_prog_40_method_4_code_21) rfl (l' := #[.val (.long q0), .second, .val (.int q1), .val (.long (own_n2 q0 q1)), .second]) rfl k) ?_
  refine Goes.step (B := (s₁.setTop (mkF m 23 #[.val (.long q0), .second, .val (.int q1), .val (.long (own_n2 q0 q1)), .second] [(.long (own_n2 q0 q1))]))) (fun _ k => XS.lloadN X0.here hx rfl (hb hby d_prog_40_method_4_code_22) rfl k) ?_
  refine Goes.step (B := (s₁.setTop (mkF m 24 #[.val (.long q0), .second, .val (.int q1), .val (.long (own_n2 q0 q1)), .second] [(.long (own_n2 q0 q1)), (.long (own_n2 q0 q1))]))) (fun _ k => XS.lloadN X0.here hx rfl (hb hby d_prog_40_method_4_code_23) rfl k) ?_
  refine Goes.step (B := (s₁.setTop (mkF m 26 #[.val (.long q0), .second, .val (.int q1), .val (.long (own_n2 q0 q1)), .second] [(.int (27 : Int32)), (.long (own_n2 q0 q1)), (.long (own_n2 q0 q1))]))) (fun _ k => XS.bipush X0.here hx rfl (hb hby d_prog_40_method_4_code_24) k) ?_
  refine Goes.step (B := (s₁.setTop (mkF m 27 #[.val (.long q0), .second, .val (.int q1), .val (.long (own_n2 q0 q1)), .second] [(.long ((own_n2 q0 q1).toUInt64 >>> ((27 : Int32) &&& 0x3f).toInt64.toUInt64).toInt64), (.long (own_n2 q0 q1))]))) (fun _ k => XS.lushr X0.here hx rfl (hb hby d_prog_40_method_4_code_26) rfl k) ?_
  refine Goes.step (B := (s₁.setTop (mkF m 28 #[.val (.long q0), .second, .val (.int q1), .val (.long (own_n2 q0 q1)), .second] [(.long ((own_n2 q0 q1) ^^^ ((own_n2 q0 q1).toUInt64 >>> ((27 : Int32) &&& 0x3f).toInt64.toUInt64).toInt64))]))) (fun _ k => XS.lxor X0.here hx rfl (hb hby d_prog_40_method_4_code_27) rfl k) ?_
  refine Goes.step (B := (s₁.setTop (mkF m 31 #[.val (.long q0), .second, .val (.int q1), .val (.long (own_n2 q0 q1)), .second] [(.long (-7723592293110705685 : Int64)), (.long ((own_n2 q0 q1) ^^^ ((own_n2 q0 q1).toUInt64 >>> ((27 : Int32) &&& 0x3f).toInt64.toUInt64).toInt64))]))) (fun _ k => X0.ldc2Long hx hown (mvT hZ (hw _ (List.mem_of_getElem? (i := 6) rfl))) (g := (mkF m 28 #[.val (.long q0), .second, .val (.int q1), .val (.long (own_n2 q0 q1)), .second] [(.long ((own_n2 q0 q1) ^^^ ((own_n2 q0 q1).toUInt64 >>> ((27 : Int32) &&& 0x3f).toInt64.toUInt64).toInt64))])) rfl (hb hby d_prog_40_method_4_code_28) _ k) ?_
  refine Goes.step (B := (s₁.setTop (mkF m 32 #[.val (.long q0), .second, .val (.int q1), .val (.long (own_n2 q0 q1)), .second] [(.long (((own_n2 q0 q1) ^^^ ((own_n2 q0 q1).toUInt64 >>> ((27 : Int32) &&& 0x3f).toInt64.toUInt64).toInt64) * (-7723592293110705685 : Int64)))]))) (fun _ k => XS.lmul X0.here hx rfl (hb hby d_prog_40_method_4_code_31) rfl k) ?_
  refine Goes.step (B := (s₁.setTop (mkF m 33 #[.val (.long q0), .second, .val (.int q1), .val (.long (own_n3 q0 q1)), .second] []))) (fun _ k => XS.lstoreN X0.here hx rfl (hb hby d_prog_40_method_4_code_32) rfl (l' := #[.val (.long q0), .second, .val (.int q1), .val (.long (own_n3 q0 q1)), .second]) rfl k) ?_
  refine Goes.step (B := (s₁.setTop (mkF m 34 #[.val (.long q0), .second, .val (.int q1), .val (.long (own_n3 q0 q1)), .second] [(.long (own_n3 q0 q1))]))) (fun _ k => XS.lloadN X0.here hx rfl (hb hby d_prog_40_method_4_code_33) rfl k) ?_
  refine Goes.step (B := (s₁.setTop (mkF m 35 #[.val (.long q0), .second, .val (.int q1), .val (.long (own_n3 q0 q1)), .second] [(.long (own_n3 q0 q1)), (.long (own_n3 q0 q1))]))) (fun _ k => XS.lloadN X0.here hx rfl (hb hby d_prog_40_method_4_code_34) rfl k) ?_
  refine Goes.step (B := (s₁.setTop (mkF m 37 #[.val (.long q0), .second, .val (.int q1), .val (.long (own_n3 q0 q1)), .second] [(.int (31 : Int32)), (.long (own_n3 q0 q1)), (.long (own_n3 q0 q1))]))) (fun _ k => XS.bipush X0.here hx rfl (hb hby d_prog_40_method_4_code_35) k) ?_
  refine Goes.step (B := (s₁.setTop (mkF m 38 #[.val (.long q0), .second, .val (.int q1), .val (.long (own_n3 q0 q1)), .second] [(.long ((own_n3 q0 q1).toUInt64 >>> ((31 : Int32) &&& 0x3f).toInt64.toUInt64).toInt64), (.long (own_n3 q0 q1))]))) (fun _ k => XS.lushr X0.here hx rfl (hb hby d_prog_40_method_4_code_37) rfl k) ?_
  refine Goes.step (B := (s₁.setTop (mkF m 39 #[.val (.long q0), .second, .val (.int q1), .val (.long (own_n3 q0 q1)), .second] [(.long ((own_n3 q0 q1) ^^^ ((own_n3 q0 q1).toUInt64 >>> ((31 : Int32) &&& 0x3f).toInt64.toUInt64).toInt64))]))) (fun _ k => XS.lxor X0.here hx rfl (hb hby d_prog_40_method_4_code_38) rfl k) ?_
  refine Goes.retJ X0 hx hlk hrt (hb hby d_prog_40_method_4_code_39) ?_ (by decide) (by decide)
  rw [e0]
  exact ⟨congrArg (fun z => some (Value.long z)) (show ((own_n3 q0 q1) ^^^ ((own_n3 q0 q1).toUInt64 >>> ((31 : Int32) &&& 0x3f).toInt64.toUInt64).toInt64) = (own_ns_fn q0 q1) from (show ((own_n3 q0 q1) ^^^ ((own_n3 q0 q1).toUInt64 >>> ((31 : Int32) &&& 0x3f).toInt64.toUInt64).toInt64) = ((own_n3 q0 q1) ^^^ ((own_n3 q0 q1).toUInt64 >>> ((31 : Int32) &&& 0x3f).toInt64.toUInt64).toInt64) from rfl).trans (by simp only [own_ns_fn])), N0, rfl⟩
theorem d_method_3_code_0 : decode method_3_code 0 = .ok (.lload_n 0, 1) := by decide +kernel
theorem d_method_3_code_1 : decode method_3_code 1 = .ok (.lstore_n 2, 1) := by decide +kernel
theorem d_method_3_code_2 : decode method_3_code 2 = .ok (.lload_n 2, 1) := by decide +kernel
theorem d_method_3_code_3 : decode method_3_code 3 = .ok (.ldc2_w 21, 3) := by decide +kernel
theorem d_method_3_code_6 : decode method_3_code 6 = .ok (.lload_n 0, 1) := by decide +kernel
theorem d_method_3_code_7 : decode method_3_code 7 = .ok (.lload_n 2, 1) := by decide +kernel
theorem d_method_3_code_8 : decode method_3_code 8 = .ok (.lmul, 1) := by decide +kernel
theorem d_method_3_code_9 : decode method_3_code 9 = .ok (.lsub, 1) := by decide +kernel
theorem d_method_3_code_10 : decode method_3_code 10 = .ok (.lmul, 1) := by decide +kernel
theorem d_method_3_code_11 : decode method_3_code 11 = .ok (.lstore_n 2, 1) := by decide +kernel
theorem d_method_3_code_12 : decode method_3_code 12 = .ok (.lload_n 2, 1) := by decide +kernel
theorem d_method_3_code_13 : decode method_3_code 13 = .ok (.ldc2_w 21, 3) := by decide +kernel
theorem d_method_3_code_16 : decode method_3_code 16 = .ok (.lload_n 0, 1) := by decide +kernel
theorem d_method_3_code_17 : decode method_3_code 17 = .ok (.lload_n 2, 1) := by decide +kernel
theorem d_method_3_code_18 : decode method_3_code 18 = .ok (.lmul, 1) := by decide +kernel
theorem d_method_3_code_19 : decode method_3_code 19 = .ok (.lsub, 1) := by decide +kernel
theorem d_method_3_code_20 : decode method_3_code 20 = .ok (.lmul, 1) := by decide +kernel
theorem d_method_3_code_21 : decode method_3_code 21 = .ok (.lstore_n 2, 1) := by decide +kernel
theorem d_method_3_code_22 : decode method_3_code 22 = .ok (.lload_n 2, 1) := by decide +kernel
theorem d_method_3_code_23 : decode method_3_code 23 = .ok (.ldc2_w 21, 3) := by decide +kernel
theorem d_method_3_code_26 : decode method_3_code 26 = .ok (.lload_n 0, 1) := by decide +kernel
theorem d_method_3_code_27 : decode method_3_code 27 = .ok (.lload_n 2, 1) := by decide +kernel
theorem d_method_3_code_28 : decode method_3_code 28 = .ok (.lmul, 1) := by decide +kernel
theorem d_method_3_code_29 : decode method_3_code 29 = .ok (.lsub, 1) := by decide +kernel
theorem d_method_3_code_30 : decode method_3_code 30 = .ok (.lmul, 1) := by decide +kernel
theorem d_method_3_code_31 : decode method_3_code 31 = .ok (.lstore_n 2, 1) := by decide +kernel
theorem d_method_3_code_32 : decode method_3_code 32 = .ok (.lload_n 2, 1) := by decide +kernel
theorem d_method_3_code_33 : decode method_3_code 33 = .ok (.ldc2_w 21, 3) := by decide +kernel
theorem d_method_3_code_36 : decode method_3_code 36 = .ok (.lload_n 0, 1) := by decide +kernel
theorem d_method_3_code_37 : decode method_3_code 37 = .ok (.lload_n 2, 1) := by decide +kernel
theorem d_method_3_code_38 : decode method_3_code 38 = .ok (.lmul, 1) := by decide +kernel
theorem d_method_3_code_39 : decode method_3_code 39 = .ok (.lsub, 1) := by decide +kernel
theorem d_method_3_code_40 : decode method_3_code 40 = .ok (.lmul, 1) := by decide +kernel
theorem d_method_3_code_41 : decode method_3_code 41 = .ok (.lstore_n 2, 1) := by decide +kernel
theorem d_method_3_code_42 : decode method_3_code 42 = .ok (.lload_n 2, 1) := by decide +kernel
theorem d_method_3_code_43 : decode method_3_code 43 = .ok (.ldc2_w 21, 3) := by decide +kernel
theorem d_method_3_code_46 : decode method_3_code 46 = .ok (.lload_n 0, 1) := by decide +kernel
theorem d_method_3_code_47 : decode method_3_code 47 = .ok (.lload_n 2, 1) := by decide +kernel
theorem d_method_3_code_48 : decode method_3_code 48 = .ok (.lmul, 1) := by decide +kernel
theorem d_method_3_code_49 : decode method_3_code 49 = .ok (.lsub, 1) := by decide +kernel
theorem d_method_3_code_50 : decode method_3_code 50 = .ok (.lmul, 1) := by decide +kernel
theorem d_method_3_code_51 : decode method_3_code 51 = .ok (.lstore_n 2, 1) := by decide +kernel
theorem d_method_3_code_52 : decode method_3_code 52 = .ok (.lload_n 2, 1) := by decide +kernel
theorem d_method_3_code_53 : decode method_3_code 53 = .ok (.lreturn, 1) := by decide +kernel
def own_i1 (c0 : Int64) : Int64 := (c0 * ((2 : Int64) - (c0 * c0)))
def own_i2 (c0 : Int64) : Int64 := ((own_i1 c0) * ((2 : Int64) - (c0 * (own_i1 c0))))
def own_i3 (c0 : Int64) : Int64 := ((own_i2 c0) * ((2 : Int64) - (c0 * (own_i2 c0))))
def own_i4 (c0 : Int64) : Int64 := ((own_i3 c0) * ((2 : Int64) - (c0 * (own_i3 c0))))
def own_i5 (c0 : Int64) : Int64 := ((own_i4 c0) * ((2 : Int64) - (c0 * (own_i4 c0))))
def own_inv_fn (c0 : Int64) : Int64 := (own_i5 c0)
def own_inv_Q (Z : State) (c0 : Int64)  (h0 : Heap) (n0 : Nat) (v : Option Value) (h : Heap) (L : List Loc) : Prop := v = some (.long (own_inv_fn c0)) ∧ Fr n0 L ∧ h = h0
theorem own_inv_ef (m : MethodId) (c0 : Int64) : entryFrame m #[(.long c0)] 4 = mkF m 0 #[.val (.long c0), .second, .unset, .unset] [] := by first | (simp [entryFrame, mkF, argsToLocals, Value.category]; done) | rfl
theorem pn_SimulationNodeSeedPinLaw : plainName "com/example/virmex/virmex/simulation/SimulationNodeSeedPinLaw" = true := by first | (simp [plainName, overriddenIn]; done) | decide +kernel
set_option maxRecDepth 65536 in
set_option maxHeartbeats 40000000 in
theorem own_inv_rm (l : Launch) (Z : State) (a0 : Array Value) (hw : ∀ d ∈ tables_1, d.before a0 Z = true) (ws : List Jvm.Cond) (c0 : Int64)  (h0 : Heap) (n0 : Nat) (Z0 : n0 ≤ h0.size)  :
    MetFree l (⟨"com/example/virmex/virmex/simulation/SimulationNodeSeedPinLaw", "inverse", "(J)J"⟩ : MethodName) (head1 (Jvm.Cond.code (⟨"com/example/virmex/virmex/simulation/SimulationNodeSeedPinLaw", "inverse", "(J)J"⟩ : MethodName) method_3_code 4 (some .long) :: ws) ({ frames := 0, cells := 0, slots := 0, locals := 0 } : Room)) (fun a U => a = #[(.long c0)] ∧ Z.Warmed39 U.vm ∧ U.heap = h0) (fun _ _ _ _ _ => True) (fun _ U o U' => ∃ v L, o = .returned v ∧ own_inv_Q Z c0 h0 n0 v U'.heap L ∧ FrameEnd U o U' L ({ frames := 0, cells := 0, slots := 0, locals := 0 } : Room).cells ({ frames := 0, cells := 0, slots := 0, locals := 0 } : Room).slots) := by
  refine MetFree.of_bodySF (plainFor_of_name pn_SimulationNodeSeedPinLaw) hisR ?_
  intro p e s m args below meth c s₁ Bd hml0 hP hK
  obtain ⟨rfl, hZ, hh⟩ := hP
  have hx := Bd.exec
  have hby := Bd.bytes
  have hml : c.maxLocals = 4 := hml0
  have hown : s.vm.findClass "com/example/virmex/virmex/simulation/SimulationNodeSeedPinLaw" = some m.cls := findClass_of_methodNamed Bd.named
  have hnm := (name_of_methodNamed Bd.named Bd.method).1
  have hlk : meth.locks = false := BodyLoose.notSynchronized Bd
  have hrt := Bd.returns
  have X0 : Stand p l e ({ frames := 0, cells := 0, slots := 0, locals := 0 } : Room) s m #[(.long c0)] below meth c s₁ [] 0 0 := Stand.of_body Bd
  have e0 : s₁.heap = h0 := by rw [← hh, Bd.state]; rfl
  have N0 := Fr.nil n0
  refine Goes.enter (kc := ({ frames := 0, cells := 0, slots := 0, locals := 0 } : Room).cells) (kn := ({ frames := 0, cells := 0, slots := 0, locals := 0 } : Room).slots) (Q := own_inv_Q Z c0 h0 n0) (own_inv_ef m c0) ?_
  refine Goes.step (B := (s₁.setTop (mkF m 1 #[.val (.long c0), .second, .unset, .unset] [(.long c0)]))) (fun _ k => XS.lloadN X0.here hx rfl (hb hby d_method_3_code_0) rfl k) ?_
  refine Goes.step (B := (s₁.setTop (mkF m 2 #[.val (.long c0), .second, .val (.long c0), .second] []))) (fun _ k => XS.lstoreN X0.here hx rfl (hb hby d_method_3_code_1) rfl (l' := #[.val (.long c0), .second, .val (.long c0), .second]) rfl k) ?_
  refine Goes.step (B := (s₁.setTop (mkF m 3 #[.val (.long c0), .second, .val (.long c0), .second] [(.long c0)]))) (fun _ k => XS.lloadN X0.here hx rfl (hb hby d_method_3_code_2) rfl k) ?_
  refine Goes.step (B := (s₁.setTop (mkF m 6 #[.val (.long c0), .second, .val (.long c0), .second] [(.long (2 : Int64)), (.long c0)]))) (fun _ k => X0.ldc2Long hx hown (mvT hZ (hw _ (List.mem_of_getElem? (i := 16) rfl))) (g := (mkF m 3 #[.val (.long c0), .second, .val (.long c0), .second] [(.long c0)])) rfl (hb hby d_method_3_code_3) _ k) ?_
  refine Goes.step (B := (s₁.setTop (mkF m 7 #[.val (.long c0), .second, .val (.long c0), .second] [(.long c0), (.long (2 : Int64)), (.long c0)]))) (fun _ k => XS.lloadN X0.here hx rfl (hb hby d_method_3_code_6) rfl k) ?_
  refine Goes.step (B := (s₁.setTop (mkF m 8 #[.val (.long c0), .second, .val (.long c0), .second] [(.long c0), (.long c0), (.long (2 : Int64)), (.long c0)]))) (fun _ k => XS.lloadN X0.here hx rfl (hb hby d_method_3_code_7) rfl k) ?_
  refine Goes.step (B := (s₁.setTop (mkF m 9 #[.val (.long c0), .second, .val (.long c0), .second] [(.long (c0 * c0)), (.long (2 : Int64)), (.long c0)]))) (fun _ k => XS.lmul X0.here hx rfl (hb hby d_method_3_code_8) rfl k) ?_
  refine Goes.step (B := (s₁.setTop (mkF m 10 #[.val (.long c0), .second, .val (.long c0), .second] [(.long ((2 : Int64) - (c0 * c0))), (.long c0)]))) (fun _ k => XS.lsub X0.here hx rfl (hb hby d_method_3_code_9) rfl k) ?_
  refine Goes.step (B := (s₁.setTop (mkF m 11 #[.val (.long c0), .second, .val (.long c0), .second] [(.long (c0 * ((2 : Int64) - (c0 * c0))))]))) (fun _ k => XS.lmul X0.here hx rfl (hb hby d_method_3_code_10) rfl k) ?_
  refine Goes.step (B := (s₁.setTop (mkF m 12 #[.val (.long c0), .second, .val (.long (own_i1 c0)), .second] []))) (fun _ k => XS.lstoreN X0.here hx rfl (hb hby d_method_3_code_11) rfl (l' := #[.val (.long c0), .second, .val (.long (own_i1 c0)), .second]) rfl k) ?_
  refine Goes.step (B := (s₁.setTop (mkF m 13 #[.val (.long c0), .second, .val (.long (own_i1 c0)), .second] [(.long (own_i1 c0))]))) (fun _ k => XS.lloadN X0.here hx rfl (hb hby d_method_3_code_12) rfl k) ?_
  refine Goes.step (B := (s₁.setTop (mkF m 16 #[.val (.long c0), .second, .val (.long (own_i1 c0)), .second] [(.long (2 : Int64)), (.long (own_i1 c0))]))) (fun _ k => X0.ldc2Long hx hown (mvT hZ (hw _ (List.mem_of_getElem? (i := 16) rfl))) (g := (mkF m 13 #[.val (.long c0), .second, .val (.long (own_i1 c0)), .second] [(.long (own_i1 c0))])) rfl (hb hby d_method_3_code_13) _ k) ?_
  refine Goes.step (B := (s₁.setTop (mkF m 17 #[.val (.long c0), .second, .val (.long (own_i1 c0)), .second] [(.long c0), (.long (2 : Int64)), (.long (own_i1 c0))]))) (fun _ k => XS.lloadN X0.here hx rfl (hb hby d_method_3_code_16) rfl k) ?_
  refine Goes.step (B := (s₁.setTop (mkF m 18 #[.val (.long c0), .second, .val (.long (own_i1 c0)), .second] [(.long (own_i1 c0)), (.long c0), (.long (2 : Int64)), (.long (own_i1 c0))]))) (fun _ k => XS.lloadN X0.here hx rfl (hb hby d_method_3_code_17) rfl k) ?_
  refine Goes.step (B := (s₁.setTop (mkF m 19 #[.val (.long c0), .second, .val (.long (own_i1 c0)), .second] [(.long (c0 * (own_i1 c0))), (.long (2 : Int64)), (.long (own_i1 c0))]))) (fun _ k => XS.lmul X0.here hx rfl (hb hby d_method_3_code_18) rfl k) ?_
  refine Goes.step (B := (s₁.setTop (mkF m 20 #[.val (.long c0), .second, .val (.long (own_i1 c0)), .second] [(.long ((2 : Int64) - (c0 * (own_i1 c0)))), (.long (own_i1 c0))]))) (fun _ k => XS.lsub X0.here hx rfl (hb hby d_method_3_code_19) rfl k) ?_
  refine Goes.step (B := (s₁.setTop (mkF m 21 #[.val (.long c0), .second, .val (.long (own_i1 c0)), .second] [(.long ((own_i1 c0) * ((2 : Int64) - (c0 * (own_i1 c0)))))]))) (fun _ k => XS.lmul X0.here hx rfl (hb hby d_method_3_code_20) rfl k) ?_
  refine Goes.step (B := (s₁.setTop (mkF m 22 #[.val (.long c0), .second, .val (.long (own_i2 c0)), .second] []))) (fun _ k => XS.lstoreN X0.here hx rfl (hb hby d_method_3_code_21) rfl (l' := #[.val (.long c0), .second, .val (.long (own_i2 c0)), .second]) rfl k) ?_
  refine Goes.step (B := (s₁.setTop (mkF m 23 #[.val (.long c0), .second, .val (.long (own_i2 c0)), .second] [(.long (own_i2 c0))]))) (fun _ k => XS.lloadN X0.here hx rfl (hb hby d_method_3_code_22) rfl k) ?_
  refine Goes.step (B := (s₁.setTop (mkF m 26 #[.val (.long c0), .second, .val (.long (own_i2 c0)), .second] [(.long (2 : Int64)), (.long (own_i2 c0))]))) (fun _ k => X0.ldc2Long hx hown (mvT hZ (hw _ (List.mem_of_getElem? (i := 16) rfl))) (g := (mkF m 23 #[.val (.long c0), .second, .val (.long (own_i2 c0)), .second] [(.long (own_i2 c0))])) rfl (hb hby d_method_3_code_23) _ k) ?_
  refine Goes.step (B := (s₁.setTop (mkF m 27 #[.val (.long c0), .second, .val (.long (own_i2 c0)), .second] [(.long c0), (.long (2 : Int64)), (.long (own_i2 c0))]))) (fun _ k => XS.lloadN X0.here hx rfl (hb hby d_method_3_code_26) rfl k) ?_
  refine Goes.step (B := (s₁.setTop (mkF m 28 #[.val (.long c0), .second, .val (.long (own_i2 c0)), .second] [(.long (own_i2 c0)), (.long c0), (.long (2 : Int64)), (.long (own_i2 c0))]))) (fun _ k => XS.lloadN X0.here hx rfl (hb hby d_method_3_code_27) rfl k) ?_
  refine Goes.step (B := (s₁.setTop (mkF m 29 #[.val (.long c0), .second, .val (.long (own_i2 c0)), .second] [(.long (c0 * (own_i2 c0))), (.long (2 : Int64)), (.long (own_i2 c0))]))) (fun _ k => XS.lmul X0.here hx rfl (hb hby d_method_3_code_28) rfl k) ?_
  refine Goes.step (B := (s₁.setTop (mkF m 30 #[.val (.long c0), .second, .val (.long (own_i2 c0)), .second] [(.long ((2 : Int64) - (c0 * (own_i2 c0)))), (.long (own_i2 c0))]))) (fun _ k => XS.lsub X0.here hx rfl (hb hby d_method_3_code_29) rfl k) ?_
  refine Goes.step (B := (s₁.setTop (mkF m 31 #[.val (.long c0), .second, .val (.long (own_i2 c0)), .second] [(.long ((own_i2 c0) * ((2 : Int64) - (c0 * (own_i2 c0)))))]))) (fun _ k => XS.lmul X0.here hx rfl (hb hby d_method_3_code_30) rfl k) ?_
  refine Goes.step (B := (s₁.setTop (mkF m 32 #[.val (.long c0), .second, .val (.long (own_i3 c0)), .second] []))) (fun _ k => XS.lstoreN X0.here hx rfl (hb hby d_method_3_code_31) rfl (l' := #[.val (.long c0), .second, .val (.long (own_i3 c0)), .second]) rfl k) ?_
  refine Goes.step (B := (s₁.setTop (mkF m 33 #[.val (.long c0), .second, .val (.long (own_i3 c0)), .second] [(.long (own_i3 c0))]))) (fun _ k => XS.lloadN X0.here hx rfl (hb hby d_method_3_code_32) rfl k) ?_
  refine Goes.step (B := (s₁.setTop (mkF m 36 #[.val (.long c0), .second, .val (.long (own_i3 c0)), .second] [(.long (2 : Int64)), (.long (own_i3 c0))]))) (fun _ k => X0.ldc2Long hx hown (mvT hZ (hw _ (List.mem_of_getElem? (i := 16) rfl))) (g := (mkF m 33 #[.val (.long c0), .second, .val (.long (own_i3 c0)), .second] [(.long (own_i3 c0))])) rfl (hb hby d_method_3_code_33) _ k) ?_
  refine Goes.step (B := (s₁.setTop (mkF m 37 #[.val (.long c0), .second, .val (.long (own_i3 c0)), .second] [(.long c0), (.long (2 : Int64)), (.long (own_i3 c0))]))) (fun _ k => XS.lloadN X0.here hx rfl (hb hby d_method_3_code_36) rfl k) ?_
  refine Goes.step (B := (s₁.setTop (mkF m 38 #[.val (.long c0), .second, .val (.long (own_i3 c0)), .second] [(.long (own_i3 c0)), (.long c0), (.long (2 : Int64)), (.long (own_i3 c0))]))) (fun _ k => XS.lloadN X0.here hx rfl (hb hby d_method_3_code_37) rfl k) ?_
  refine Goes.step (B := (s₁.setTop (mkF m 39 #[.val (.long c0), .second, .val (.long (own_i3 c0)), .second] [(.long (c0 * (own_i3 c0))), (.long (2 : Int64)), (.long (own_i3 c0))]))) (fun _ k => XS.lmul X0.here hx rfl (hb hby d_method_3_code_38) rfl k) ?_
  refine Goes.step (B := (s₁.setTop (mkF m 40 #[.val (.long c0), .second, .val (.long (own_i3 c0)), .second] [(.long ((2 : Int64) - (c0 * (own_i3 c0)))), (.long (own_i3 c0))]))) (fun _ k => XS.lsub X0.here hx rfl (hb hby d_method_3_code_39) rfl k) ?_
  refine Goes.step (B := (s₁.setTop (mkF m 41 #[.val (.long c0), .second, .val (.long (own_i3 c0)), .second] [(.long ((own_i3 c0) * ((2 : Int64) - (c0 * (own_i3 c0)))))]))) (fun _ k => XS.lmul X0.here hx rfl (hb hby d_method_3_code_40) rfl k) ?_
  refine Goes.step (B := (s₁.setTop (mkF m 42 #[.val (.long c0), .second, .val (.long (own_i4 c0)), .second] []))) (fun _ k => XS.lstoreN X0.here hx rfl (hb hby d_method_3_code_41) rfl (l' := #[.val (.long c0), .second, .val (.long (own_i4 c0)), .second]) rfl k) ?_
  refine Goes.step (B := (s₁.setTop (mkF m 43 #[.val (.long c0), .second, .val (.long (own_i4 c0)), .second] [(.long (own_i4 c0))]))) (fun _ k => XS.lloadN X0.here hx rfl (hb hby d_method_3_code_42) rfl k) ?_
  refine Goes.step (B := (s₁.setTop (mkF m 46 #[.val (.long c0), .second, .val (.long (own_i4 c0)), .second] [(.long (2 : Int64)), (.long (own_i4 c0))]))) (fun _ k => X0.ldc2Long hx hown (mvT hZ (hw _ (List.mem_of_getElem? (i := 16) rfl))) (g := (mkF m 43 #[.val (.long c0), .second, .val (.long (own_i4 c0)), .second] [(.long (own_i4 c0))])) rfl (hb hby d_method_3_code_43) _ k) ?_
  refine Goes.step (B := (s₁.setTop (mkF m 47 #[.val (.long c0), .second, .val (.long (own_i4 c0)), .second] [(.long c0), (.long (2 : Int64)), (.long (own_i4 c0))]))) (fun _ k => XS.lloadN X0.here hx rfl (hb hby d_method_3_code_46) rfl k) ?_
  refine Goes.step (B := (s₁.setTop (mkF m 48 #[.val (.long c0), .second, .val (.long (own_i4 c0)), .second] [(.long (own_i4 c0)), (.long c0), (.long (2 : Int64)), (.long (own_i4 c0))]))) (fun _ k => XS.lloadN X0.here hx rfl (hb hby d_method_3_code_47) rfl k) ?_
  refine Goes.step (B := (s₁.setTop (mkF m 49 #[.val (.long c0), .second, .val (.long (own_i4 c0)), .second] [(.long (c0 * (own_i4 c0))), (.long (2 : Int64)), (.long (own_i4 c0))]))) (fun _ k => XS.lmul X0.here hx rfl (hb hby d_method_3_code_48) rfl k) ?_
  refine Goes.step (B := (s₁.setTop (mkF m 50 #[.val (.long c0), .second, .val (.long (own_i4 c0)), .second] [(.long ((2 : Int64) - (c0 * (own_i4 c0)))), (.long (own_i4 c0))]))) (fun _ k => XS.lsub X0.here hx rfl (hb hby d_method_3_code_49) rfl k) ?_
  refine Goes.step (B := (s₁.setTop (mkF m 51 #[.val (.long c0), .second, .val (.long (own_i4 c0)), .second] [(.long ((own_i4 c0) * ((2 : Int64) - (c0 * (own_i4 c0)))))]))) (fun _ k => XS.lmul X0.here hx rfl (hb hby d_method_3_code_50) rfl k) ?_
  refine Goes.step (B := (s₁.setTop (mkF m 52 #[.val (.long c0), .second, .val (.long (own_i5 c0)), .second] []))) (fun _ k => XS.lstoreN X0.here hx rfl (hb hby d_method_3_code_51) rfl (l' := #[.val (.long c0), .second, .val (.long (own_i5 c0)), .second]) rfl k) ?_
  refine Goes.step (B := (s₁.setTop (mkF m 53 #[.val (.long c0), .second, .val (.long (own_i5 c0)), .second] [(.long (own_i5 c0))]))) (fun _ k => XS.lloadN X0.here hx rfl (hb hby d_method_3_code_52) rfl k) ?_
  refine Goes.retJ X0 hx hlk hrt (hb hby d_method_3_code_53) ?_ (by decide) (by decide)
  rw [e0]
  exact ⟨congrArg (fun z => some (Value.long z)) (show (own_i5 c0) = (own_inv_fn c0) from (show (own_i5 c0) = (own_i5 c0) from rfl).trans (by simp only [own_inv_fn])), N0, rfl⟩
theorem d_method_4_code_0 : decode method_4_code 0 = .ok (.lload_n 0, 1) := by decide +kernel
theorem d_method_4_code_1 : decode method_4_code 1 = .ok (.lload_n 0, 1) := by decide +kernel
theorem d_method_4_code_2 : decode method_4_code 2 = .ok (.bipush 31, 2) := by decide +kernel
theorem d_method_4_code_4 : decode method_4_code 4 = .ok (.lushr, 1) := by decide +kernel
theorem d_method_4_code_5 : decode method_4_code 5 = .ok (.lxor, 1) := by decide +kernel
theorem d_method_4_code_6 : decode method_4_code 6 = .ok (.lload_n 0, 1) := by decide +kernel
theorem d_method_4_code_7 : decode method_4_code 7 = .ok (.bipush 62, 2) := by decide +kernel
theorem d_method_4_code_9 : decode method_4_code 9 = .ok (.lushr, 1) := by decide +kernel
theorem d_method_4_code_10 : decode method_4_code 10 = .ok (.lxor, 1) := by decide +kernel
theorem d_method_4_code_11 : decode method_4_code 11 = .ok (.lstore_n 2, 1) := by decide +kernel
theorem d_method_4_code_12 : decode method_4_code 12 = .ok (.lload_n 2, 1) := by decide +kernel
theorem d_method_4_code_13 : decode method_4_code 13 = .ok (.ldc2_w 23, 3) := by decide +kernel
theorem d_method_4_code_16 : decode method_4_code 16 = .ok (.invokestatic 25, 3) := by decide +kernel
theorem pd__J_J : parseMethodDescriptor "(J)J" = some ⟨[.long], some .long⟩ := by decide +kernel
theorem d_method_4_code_19 : decode method_4_code 19 = .ok (.lmul, 1) := by decide +kernel
theorem d_method_4_code_20 : decode method_4_code 20 = .ok (.lstore_n 2, 1) := by decide +kernel
theorem d_method_4_code_21 : decode method_4_code 21 = .ok (.lload_n 2, 1) := by decide +kernel
theorem d_method_4_code_22 : decode method_4_code 22 = .ok (.lload_n 2, 1) := by decide +kernel
theorem d_method_4_code_23 : decode method_4_code 23 = .ok (.bipush 27, 2) := by decide +kernel
theorem d_method_4_code_25 : decode method_4_code 25 = .ok (.lushr, 1) := by decide +kernel
theorem d_method_4_code_26 : decode method_4_code 26 = .ok (.lxor, 1) := by decide +kernel
theorem d_method_4_code_27 : decode method_4_code 27 = .ok (.lload_n 2, 1) := by decide +kernel
theorem d_method_4_code_28 : decode method_4_code 28 = .ok (.bipush 54, 2) := by decide +kernel
theorem d_method_4_code_30 : decode method_4_code 30 = .ok (.lushr, 1) := by decide +kernel
theorem d_method_4_code_31 : decode method_4_code 31 = .ok (.lxor, 1) := by decide +kernel
theorem d_method_4_code_32 : decode method_4_code 32 = .ok (.lstore_n 2, 1) := by decide +kernel
theorem d_method_4_code_33 : decode method_4_code 33 = .ok (.lload_n 2, 1) := by decide +kernel
theorem d_method_4_code_34 : decode method_4_code 34 = .ok (.ldc2_w 28, 3) := by decide +kernel
theorem d_method_4_code_37 : decode method_4_code 37 = .ok (.invokestatic 25, 3) := by decide +kernel
theorem d_method_4_code_40 : decode method_4_code 40 = .ok (.lmul, 1) := by decide +kernel
theorem d_method_4_code_41 : decode method_4_code 41 = .ok (.lstore_n 2, 1) := by decide +kernel
theorem d_method_4_code_42 : decode method_4_code 42 = .ok (.lload_n 2, 1) := by decide +kernel
theorem d_method_4_code_43 : decode method_4_code 43 = .ok (.lload_n 2, 1) := by decide +kernel
theorem d_method_4_code_44 : decode method_4_code 44 = .ok (.bipush 30, 2) := by decide +kernel
theorem d_method_4_code_46 : decode method_4_code 46 = .ok (.lushr, 1) := by decide +kernel
theorem d_method_4_code_47 : decode method_4_code 47 = .ok (.lxor, 1) := by decide +kernel
theorem d_method_4_code_48 : decode method_4_code 48 = .ok (.lload_n 2, 1) := by decide +kernel
theorem d_method_4_code_49 : decode method_4_code 49 = .ok (.bipush 60, 2) := by decide +kernel
theorem d_method_4_code_51 : decode method_4_code 51 = .ok (.lushr, 1) := by decide +kernel
theorem d_method_4_code_52 : decode method_4_code 52 = .ok (.lxor, 1) := by decide +kernel
theorem d_method_4_code_53 : decode method_4_code 53 = .ok (.lreturn, 1) := by decide +kernel
def own_u1 (z0 : Int64) : Int64 := ((z0 ^^^ (z0.toUInt64 >>> ((31 : Int32) &&& 0x3f).toInt64.toUInt64).toInt64) ^^^ (z0.toUInt64 >>> ((62 : Int32) &&& 0x3f).toInt64.toUInt64).toInt64)
def own_u2 (z0 : Int64) : Int64 := ((own_u1 z0) * (own_inv_fn (-7723592293110705685 : Int64)))
def own_u3 (z0 : Int64) : Int64 := (((own_u2 z0) ^^^ ((own_u2 z0).toUInt64 >>> ((27 : Int32) &&& 0x3f).toInt64.toUInt64).toInt64) ^^^ ((own_u2 z0).toUInt64 >>> ((54 : Int32) &&& 0x3f).toInt64.toUInt64).toInt64)
def own_u4 (z0 : Int64) : Int64 := ((own_u3 z0) * (own_inv_fn (-4658895280553007687 : Int64)))
def own_um_fn (z0 : Int64) : Int64 := (((own_u4 z0) ^^^ ((own_u4 z0).toUInt64 >>> ((30 : Int32) &&& 0x3f).toInt64.toUInt64).toInt64) ^^^ ((own_u4 z0).toUInt64 >>> ((60 : Int32) &&& 0x3f).toInt64.toUInt64).toInt64)
def own_um_Q (Z : State) (z0 : Int64)  (h0 : Heap) (n0 : Nat) (v : Option Value) (h : Heap) (L : List Loc) : Prop := v = some (.long (own_um_fn z0)) ∧ Fr n0 L ∧ h = h0
theorem own_um_ef (m : MethodId) (z0 : Int64) : entryFrame m #[(.long z0)] 4 = mkF m 0 #[.val (.long z0), .second, .unset, .unset] [] := by first | (simp [entryFrame, mkF, argsToLocals, Value.category]; done) | rfl
set_option maxRecDepth 65536 in
set_option maxHeartbeats 40000000 in
theorem own_um_rm (l : Launch) (Z : State) (a0 : Array Value) (hw : ∀ d ∈ tables_1, d.before a0 Z = true) (ws : List Jvm.Cond) (z0 : Int64)  (h0 : Heap) (n0 : Nat) (Z0 : n0 ≤ h0.size)  :
    MetFree l (⟨"com/example/virmex/virmex/simulation/SimulationNodeSeedPinLaw", "unmix", "(J)J"⟩ : MethodName) (head1 (Jvm.Cond.code (⟨"com/example/virmex/virmex/simulation/SimulationNodeSeedPinLaw", "unmix", "(J)J"⟩ : MethodName) method_4_code 4 (some .long) :: ws) ({ frames := 1, cells := 0, slots := 0, locals := 17 } : Room)) (fun a U => a = #[(.long z0)] ∧ Z.Warmed39 U.vm ∧ U.heap = h0) (fun _ _ _ _ _ => True) (fun _ U o U' => ∃ v L, o = .returned v ∧ own_um_Q Z z0 h0 n0 v U'.heap L ∧ FrameEnd U o U' L ({ frames := 1, cells := 0, slots := 0, locals := 17 } : Room).cells ({ frames := 1, cells := 0, slots := 0, locals := 17 } : Room).slots) := by
  refine MetFree.of_bodySF (plainFor_of_name pn_SimulationNodeSeedPinLaw) hisR ?_
  intro p e s m args below meth c s₁ Bd hml0 hP hK
  obtain ⟨rfl, hZ, hh⟩ := hP
  have hx := Bd.exec
  have hby := Bd.bytes
  have hml : c.maxLocals = 4 := hml0
  have hown : s.vm.findClass "com/example/virmex/virmex/simulation/SimulationNodeSeedPinLaw" = some m.cls := findClass_of_methodNamed Bd.named
  have hnm := (name_of_methodNamed Bd.named Bd.method).1
  have hlk : meth.locks = false := BodyLoose.notSynchronized Bd
  have hrt := Bd.returns
  have X0 : Stand p l e ({ frames := 1, cells := 0, slots := 0, locals := 17 } : Room) s m #[(.long z0)] below meth c s₁ [] 0 0 := Stand.of_body Bd
  have e0 : s₁.heap = h0 := by rw [← hh, Bd.state]; rfl
  have N0 := Fr.nil n0
  refine Goes.enter (kc := ({ frames := 1, cells := 0, slots := 0, locals := 17 } : Room).cells) (kn := ({ frames := 1, cells := 0, slots := 0, locals := 17 } : Room).slots) (Q := own_um_Q Z z0 h0 n0) (own_um_ef m z0) ?_
  refine Goes.step (B := (s₁.setTop (mkF m 1 #[.val (.long z0), .second, .unset, .unset] [(.long z0)]))) (fun _ k => XS.lloadN X0.here hx rfl (hb hby d_method_4_code_0) rfl k) ?_
  refine Goes.step (B := (s₁.setTop (mkF m 2 #[.val (.long z0), .second, .unset, .unset] [(.long z0), (.long z0)]))) (fun _ k => XS.lloadN X0.here hx rfl (hb hby d_method_4_code_1) rfl k) ?_
  refine Goes.step (B := (s₁.setTop (mkF m 4 #[.val (.long z0), .second, .unset, .unset] [(.int (31 : Int32)), (.long z0), (.long z0)]))) (fun _ k => XS.bipush X0.here hx rfl (hb hby d_method_4_code_2) k) ?_
  refine Goes.step (B := (s₁.setTop (mkF m 5 #[.val (.long z0), .second, .unset, .unset] [(.long (z0.toUInt64 >>> ((31 : Int32) &&& 0x3f).toInt64.toUInt64).toInt64), (.long z0)]))) (fun _ k => XS.lushr X0.here hx rfl (hb hby d_method_4_code_4) rfl k) ?_
  refine Goes.step (B := (s₁.setTop (mkF m 6 #[.val (.long z0), .second, .unset, .unset] [(.long (z0 ^^^ (z0.toUInt64 >>> ((31 : Int32) &&& 0x3f).toInt64.toUInt64).toInt64))]))) (fun _ k => XS.lxor X0.here hx rfl (hb hby d_method_4_code_5) rfl k) ?_
  refine Goes.step (B := (s₁.setTop (mkF m 7 #[.val (.long z0), .second, .unset, .unset] [(.long z0), (.long (z0 ^^^ (z0.toUInt64 >>> ((31 : Int32) &&& 0x3f).toInt64.toUInt64).toInt64))]))) (fun _ k => XS.lloadN X0.here hx rfl (hb hby d_method_4_code_6) rfl k) ?_
  refine Goes.step (B := (s₁.setTop (mkF m 9 #[.val (.long z0), .second, .unset, .unset] [(.int (62 : Int32)), (.long z0), (.long (z0 ^^^ (z0.toUInt64 >>> ((31 : Int32) &&& 0x3f).toInt64.toUInt64).toInt64))]))) (fun _ k => XS.bipush X0.here hx rfl (hb hby d_method_4_code_7) k) ?_
  refine Goes.step (B := (s₁.setTop (mkF m 10 #[.val (.long z0), .second, .unset, .unset] [(.long (z0.toUInt64 >>> ((62 : Int32) &&& 0x3f).toInt64.toUInt64).toInt64), (.long (z0 ^^^ (z0.toUInt64 >>> ((31 : Int32) &&& 0x3f).toInt64.toUInt64).toInt64))]))) (fun _ k => XS.lushr X0.here hx rfl (hb hby d_method_4_code_9) rfl k) ?_
  refine Goes.step (B := (s₁.setTop (mkF m 11 #[.val (.long z0), .second, .unset, .unset] [(.long ((z0 ^^^ (z0.toUInt64 >>> ((31 : Int32) &&& 0x3f).toInt64.toUInt64).toInt64) ^^^ (z0.toUInt64 >>> ((62 : Int32) &&& 0x3f).toInt64.toUInt64).toInt64))]))) (fun _ k => XS.lxor X0.here hx rfl (hb hby d_method_4_code_10) rfl k) ?_
  refine Goes.step (B := (s₁.setTop (mkF m 12 #[.val (.long z0), .second, .val (.long (own_u1 z0)), .second] []))) (fun _ k => XS.lstoreN X0.here hx rfl (hb hby d_method_4_code_11) rfl (l' := #[.val (.long z0), .second, .val (.long (own_u1 z0)), .second]) rfl k) ?_
  refine Goes.step (B := (s₁.setTop (mkF m 13 #[.val (.long z0), .second, .val (.long (own_u1 z0)), .second] [(.long (own_u1 z0))]))) (fun _ k => XS.lloadN X0.here hx rfl (hb hby d_method_4_code_12) rfl k) ?_
  refine Goes.step (B := (s₁.setTop (mkF m 16 #[.val (.long z0), .second, .val (.long (own_u1 z0)), .second] [(.long (-7723592293110705685 : Int64)), (.long (own_u1 z0))]))) (fun _ k => X0.ldc2Long hx hown (mvT hZ (hw _ (List.mem_of_getElem? (i := 12) rfl))) (g := (mkF m 13 #[.val (.long z0), .second, .val (.long (own_u1 z0)), .second] [(.long (own_u1 z0))])) rfl (hb hby d_method_4_code_13) _ k) ?_
  obtain ⟨_, _, ⟨T1, L1, k1, n1⟩, -, X1, ⟨Lc1, hQ1, l1, y1, z1⟩, st1⟩ := Jvm.LawKit.callS X0 hx (y := (⟨"com/example/virmex/virmex/simulation/SimulationNodeSeedPinLaw", "inverse", "(J)J"⟩ : MethodName)) hown (mvT hZ (hw _ (List.mem_of_getElem? (i := 13) rfl))) (mvT hZ (hw _ (List.mem_of_getElem? (i := 14) rfl))) (mvT hZ (hw _ (List.mem_of_getElem? (i := 10) rfl))) (mvT hZ (hw _ (List.mem_of_getElem? (i := 15) rfl))) (by decide) (backOf (W := 2) (own_inv_rm l Z a0 hw [] (-7723592293110705685 : Int64)  h0 n0 Z0 ) hZ (hw _ (List.mem_of_getElem? (i := 15) rfl)) (hw _ (List.mem_of_getElem? (i := 10) rfl)) (by decide) (by decide)) (g := (mkF m 16 #[.val (.long z0), .second, .val (.long (own_u1 z0)), .second] [(.long (-7723592293110705685 : Int64)), (.long (own_u1 z0))])) rfl (by rw [hml]; rfl) (argsL := [(.long (-7723592293110705685 : Int64))]) (rest := [(.long (own_u1 z0))]) (lenOf pd__J_J rfl) rfl (by show 2 * 0 + _ ≤ _; exact Nat.le_of_eq rfl) (hb hby d_method_4_code_16) (fun _ _ => ⟨rfl, e0, (by decide : 0 + 0 ≤ _), (by decide : 0 + 0 ≤ _)⟩)
  dsimp only [Pt.U, Pt.locs, Pt.cells, Pt.slots] at X1 l1 y1 z1 st1 hQ1
  subst l1 y1 z1
  obtain ⟨rfl, N1q, e1⟩ := hQ1
  have N1 := Fr.app N0 N1q
  refine Goes.step (B := (T1.setTop (mkF m 19 #[.val (.long z0), .second, .val (.long (own_u1 z0)), .second] [(.long (own_inv_fn (-7723592293110705685 : Int64))), (.long (own_u1 z0))]))) (fun _ k => st1 _ k) ?_
  refine Goes.step (B := (T1.setTop (mkF m 20 #[.val (.long z0), .second, .val (.long (own_u1 z0)), .second] [(.long ((own_u1 z0) * (own_inv_fn (-7723592293110705685 : Int64))))]))) (fun _ k => XS.lmul X1.here hx rfl (hb hby d_method_4_code_19) rfl k) ?_
  refine Goes.step (B := (T1.setTop (mkF m 21 #[.val (.long z0), .second, .val (.long (own_u2 z0)), .second] []))) (fun _ k => XS.lstoreN X1.here hx rfl (hb hby d_method_4_code_20) rfl (l' := #[.val (.long z0), .second, .val (.long (own_u2 z0)), .second]) rfl k) ?_
  refine Goes.step (B := (T1.setTop (mkF m 22 #[.val (.long z0), .second, .val (.long (own_u2 z0)), .second] [(.long (own_u2 z0))]))) (fun _ k => XS.lloadN X1.here hx rfl (hb hby d_method_4_code_21) rfl k) ?_
  refine Goes.step (B := (T1.setTop (mkF m 23 #[.val (.long z0), .second, .val (.long (own_u2 z0)), .second] [(.long (own_u2 z0)), (.long (own_u2 z0))]))) (fun _ k => XS.lloadN X1.here hx rfl (hb hby d_method_4_code_22) rfl k) ?_
  refine Goes.step (B := (T1.setTop (mkF m 25 #[.val (.long z0), .second, .val (.long (own_u2 z0)), .second] [(.int (27 : Int32)), (.long (own_u2 z0)), (.long (own_u2 z0))]))) (fun _ k => XS.bipush X1.here hx rfl (hb hby d_method_4_code_23) k) ?_
  refine Goes.step (B := (T1.setTop (mkF m 26 #[.val (.long z0), .second, .val (.long (own_u2 z0)), .second] [(.long ((own_u2 z0).toUInt64 >>> ((27 : Int32) &&& 0x3f).toInt64.toUInt64).toInt64), (.long (own_u2 z0))]))) (fun _ k => XS.lushr X1.here hx rfl (hb hby d_method_4_code_25) rfl k) ?_
  refine Goes.step (B := (T1.setTop (mkF m 27 #[.val (.long z0), .second, .val (.long (own_u2 z0)), .second] [(.long ((own_u2 z0) ^^^ ((own_u2 z0).toUInt64 >>> ((27 : Int32) &&& 0x3f).toInt64.toUInt64).toInt64))]))) (fun _ k => XS.lxor X1.here hx rfl (hb hby d_method_4_code_26) rfl k) ?_
  refine Goes.step (B := (T1.setTop (mkF m 28 #[.val (.long z0), .second, .val (.long (own_u2 z0)), .second] [(.long (own_u2 z0)), (.long ((own_u2 z0) ^^^ ((own_u2 z0).toUInt64 >>> ((27 : Int32) &&& 0x3f).toInt64.toUInt64).toInt64))]))) (fun _ k => XS.lloadN X1.here hx rfl (hb hby d_method_4_code_27) rfl k) ?_
  refine Goes.step (B := (T1.setTop (mkF m 30 #[.val (.long z0), .second, .val (.long (own_u2 z0)), .second] [(.int (54 : Int32)), (.long (own_u2 z0)), (.long ((own_u2 z0) ^^^ ((own_u2 z0).toUInt64 >>> ((27 : Int32) &&& 0x3f).toInt64.toUInt64).toInt64))]))) (fun _ k => XS.bipush X1.here hx rfl (hb hby d_method_4_code_28) k) ?_
  refine Goes.step (B := (T1.setTop (mkF m 31 #[.val (.long z0), .second, .val (.long (own_u2 z0)), .second] [(.long ((own_u2 z0).toUInt64 >>> ((54 : Int32) &&& 0x3f).toInt64.toUInt64).toInt64), (.long ((own_u2 z0) ^^^ ((own_u2 z0).toUInt64 >>> ((27 : Int32) &&& 0x3f).toInt64.toUInt64).toInt64))]))) (fun _ k => XS.lushr X1.here hx rfl (hb hby d_method_4_code_30) rfl k) ?_
  refine Goes.step (B := (T1.setTop (mkF m 32 #[.val (.long z0), .second, .val (.long (own_u2 z0)), .second] [(.long (((own_u2 z0) ^^^ ((own_u2 z0).toUInt64 >>> ((27 : Int32) &&& 0x3f).toInt64.toUInt64).toInt64) ^^^ ((own_u2 z0).toUInt64 >>> ((54 : Int32) &&& 0x3f).toInt64.toUInt64).toInt64))]))) (fun _ k => XS.lxor X1.here hx rfl (hb hby d_method_4_code_31) rfl k) ?_
  refine Goes.step (B := (T1.setTop (mkF m 33 #[.val (.long z0), .second, .val (.long (own_u3 z0)), .second] []))) (fun _ k => XS.lstoreN X1.here hx rfl (hb hby d_method_4_code_32) rfl (l' := #[.val (.long z0), .second, .val (.long (own_u3 z0)), .second]) rfl k) ?_
  refine Goes.step (B := (T1.setTop (mkF m 34 #[.val (.long z0), .second, .val (.long (own_u3 z0)), .second] [(.long (own_u3 z0))]))) (fun _ k => XS.lloadN X1.here hx rfl (hb hby d_method_4_code_33) rfl k) ?_
  refine Goes.step (B := (T1.setTop (mkF m 37 #[.val (.long z0), .second, .val (.long (own_u3 z0)), .second] [(.long (-4658895280553007687 : Int64)), (.long (own_u3 z0))]))) (fun _ k => X1.ldc2Long hx hown (mvT hZ (hw _ (List.mem_of_getElem? (i := 17) rfl))) (g := (mkF m 34 #[.val (.long z0), .second, .val (.long (own_u3 z0)), .second] [(.long (own_u3 z0))])) rfl (hb hby d_method_4_code_34) _ k) ?_
  obtain ⟨_, _, ⟨T2, L2, k2, n2⟩, -, X2, ⟨Lc2, hQ2, l2, y2, z2⟩, st2⟩ := Jvm.LawKit.callS X1 hx (y := (⟨"com/example/virmex/virmex/simulation/SimulationNodeSeedPinLaw", "inverse", "(J)J"⟩ : MethodName)) hown (mvT hZ (hw _ (List.mem_of_getElem? (i := 13) rfl))) (mvT hZ (hw _ (List.mem_of_getElem? (i := 14) rfl))) (mvT hZ (hw _ (List.mem_of_getElem? (i := 10) rfl))) (mvT hZ (hw _ (List.mem_of_getElem? (i := 15) rfl))) (by decide) (backOf (W := 2) (own_inv_rm l Z a0 hw [] (-4658895280553007687 : Int64)  h0 n0 Z0 ) hZ (hw _ (List.mem_of_getElem? (i := 15) rfl)) (hw _ (List.mem_of_getElem? (i := 10) rfl)) (by decide) (by decide)) (g := (mkF m 37 #[.val (.long z0), .second, .val (.long (own_u3 z0)), .second] [(.long (-4658895280553007687 : Int64)), (.long (own_u3 z0))])) rfl (by rw [hml]; rfl) (argsL := [(.long (-4658895280553007687 : Int64))]) (rest := [(.long (own_u3 z0))]) (lenOf pd__J_J rfl) rfl (by show 2 * 0 + _ ≤ _; exact Nat.le_of_eq rfl) (hb hby d_method_4_code_37) (fun _ _ => ⟨rfl, e1, (by decide : 0 + 0 ≤ _), (by decide : 0 + 0 ≤ _)⟩)
  dsimp only [Pt.U, Pt.locs, Pt.cells, Pt.slots] at X2 l2 y2 z2 st2 hQ2
  subst l2 y2 z2
  obtain ⟨rfl, N2q, e2⟩ := hQ2
  have N2 := Fr.app N1 N2q
  refine Goes.step (B := (T2.setTop (mkF m 40 #[.val (.long z0), .second, .val (.long (own_u3 z0)), .second] [(.long (own_inv_fn (-4658895280553007687 : Int64))), (.long (own_u3 z0))]))) (fun _ k => st2 _ k) ?_
  refine Goes.step (B := (T2.setTop (mkF m 41 #[.val (.long z0), .second, .val (.long (own_u3 z0)), .second] [(.long ((own_u3 z0) * (own_inv_fn (-4658895280553007687 : Int64))))]))) (fun _ k => XS.lmul X2.here hx rfl (hb hby d_method_4_code_40) rfl k) ?_
  refine Goes.step (B := (T2.setTop (mkF m 42 #[.val (.long z0), .second, .val (.long (own_u4 z0)), .second] []))) (fun _ k => XS.lstoreN X2.here hx rfl (hb hby d_method_4_code_41) rfl (l' := #[.val (.long z0), .second, .val (.long (own_u4 z0)), .second]) rfl k) ?_
  refine Goes.step (B := (T2.setTop (mkF m 43 #[.val (.long z0), .second, .val (.long (own_u4 z0)), .second] [(.long (own_u4 z0))]))) (fun _ k => XS.lloadN X2.here hx rfl (hb hby d_method_4_code_42) rfl k) ?_
  refine Goes.step (B := (T2.setTop (mkF m 44 #[.val (.long z0), .second, .val (.long (own_u4 z0)), .second] [(.long (own_u4 z0)), (.long (own_u4 z0))]))) (fun _ k => XS.lloadN X2.here hx rfl (hb hby d_method_4_code_43) rfl k) ?_
  refine Goes.step (B := (T2.setTop (mkF m 46 #[.val (.long z0), .second, .val (.long (own_u4 z0)), .second] [(.int (30 : Int32)), (.long (own_u4 z0)), (.long (own_u4 z0))]))) (fun _ k => XS.bipush X2.here hx rfl (hb hby d_method_4_code_44) k) ?_
  refine Goes.step (B := (T2.setTop (mkF m 47 #[.val (.long z0), .second, .val (.long (own_u4 z0)), .second] [(.long ((own_u4 z0).toUInt64 >>> ((30 : Int32) &&& 0x3f).toInt64.toUInt64).toInt64), (.long (own_u4 z0))]))) (fun _ k => XS.lushr X2.here hx rfl (hb hby d_method_4_code_46) rfl k) ?_
  refine Goes.step (B := (T2.setTop (mkF m 48 #[.val (.long z0), .second, .val (.long (own_u4 z0)), .second] [(.long ((own_u4 z0) ^^^ ((own_u4 z0).toUInt64 >>> ((30 : Int32) &&& 0x3f).toInt64.toUInt64).toInt64))]))) (fun _ k => XS.lxor X2.here hx rfl (hb hby d_method_4_code_47) rfl k) ?_
  refine Goes.step (B := (T2.setTop (mkF m 49 #[.val (.long z0), .second, .val (.long (own_u4 z0)), .second] [(.long (own_u4 z0)), (.long ((own_u4 z0) ^^^ ((own_u4 z0).toUInt64 >>> ((30 : Int32) &&& 0x3f).toInt64.toUInt64).toInt64))]))) (fun _ k => XS.lloadN X2.here hx rfl (hb hby d_method_4_code_48) rfl k) ?_
  refine Goes.step (B := (T2.setTop (mkF m 51 #[.val (.long z0), .second, .val (.long (own_u4 z0)), .second] [(.int (60 : Int32)), (.long (own_u4 z0)), (.long ((own_u4 z0) ^^^ ((own_u4 z0).toUInt64 >>> ((30 : Int32) &&& 0x3f).toInt64.toUInt64).toInt64))]))) (fun _ k => XS.bipush X2.here hx rfl (hb hby d_method_4_code_49) k) ?_
  refine Goes.step (B := (T2.setTop (mkF m 52 #[.val (.long z0), .second, .val (.long (own_u4 z0)), .second] [(.long ((own_u4 z0).toUInt64 >>> ((60 : Int32) &&& 0x3f).toInt64.toUInt64).toInt64), (.long ((own_u4 z0) ^^^ ((own_u4 z0).toUInt64 >>> ((30 : Int32) &&& 0x3f).toInt64.toUInt64).toInt64))]))) (fun _ k => XS.lushr X2.here hx rfl (hb hby d_method_4_code_51) rfl k) ?_
  refine Goes.step (B := (T2.setTop (mkF m 53 #[.val (.long z0), .second, .val (.long (own_u4 z0)), .second] [(.long (((own_u4 z0) ^^^ ((own_u4 z0).toUInt64 >>> ((30 : Int32) &&& 0x3f).toInt64.toUInt64).toInt64) ^^^ ((own_u4 z0).toUInt64 >>> ((60 : Int32) &&& 0x3f).toInt64.toUInt64).toInt64))]))) (fun _ k => XS.lxor X2.here hx rfl (hb hby d_method_4_code_52) rfl k) ?_
  refine Goes.retJ X2 hx hlk hrt (hb hby d_method_4_code_53) ?_ (by decide) (by decide)
  rw [e2]
  exact ⟨congrArg (fun z => some (Value.long z)) (show (((own_u4 z0) ^^^ ((own_u4 z0).toUInt64 >>> ((30 : Int32) &&& 0x3f).toInt64.toUInt64).toInt64) ^^^ ((own_u4 z0).toUInt64 >>> ((60 : Int32) &&& 0x3f).toInt64.toUInt64).toInt64) = (own_um_fn z0) from (show (((own_u4 z0) ^^^ ((own_u4 z0).toUInt64 >>> ((30 : Int32) &&& 0x3f).toInt64.toUInt64).toInt64) ^^^ ((own_u4 z0).toUInt64 >>> ((60 : Int32) &&& 0x3f).toInt64.toUInt64).toInt64) = (((own_u4 z0) ^^^ ((own_u4 z0).toUInt64 >>> ((30 : Int32) &&& 0x3f).toInt64.toUInt64).toInt64) ^^^ ((own_u4 z0).toUInt64 >>> ((60 : Int32) &&& 0x3f).toInt64.toUInt64).toInt64) from rfl).trans (by simp only [own_um_fn])), N2, rfl⟩
theorem pd__JI_J : parseMethodDescriptor "(JI)J" = some ⟨[.long, .int], some .long⟩ := by decide +kernel
def own_st (x0 : Int64) (x1 : Int32) : Int64 := (x0 + ((x1.toInt64 + (1 : Int64)) * (-7046029254386353131 : Int64)))
def own_law_fn (x0 : Int64) (x1 : Int32) : Int32 := (if (own_um_fn (own_ns_fn x0 x1)) = (own_st x0 x1) then (1 : Int32) else (0 : Int32))
def own_law_Q (Z : State) (x0 : Int64) (x1 : Int32)  (h0 : Heap) (n0 : Nat) (v : Option Value) (h : Heap) (L : List Loc) : Prop := v = some (.int (own_law_fn x0 x1)) ∧ Fr n0 L ∧ h = h0
theorem own_law_ef (m : MethodId) (x0 : Int64) (x1 : Int32) : entryFrame m #[(.long x0), (.int x1)] maxLocals = mkF m 0 #[.val (.long x0), .second, .val (.int x1), .unset, .unset, .unset, .unset] [] := by first | (simp [entryFrame, mkF, argsToLocals, Value.category, maxLocals]; done) | rfl
set_option maxRecDepth 65536 in
set_option maxHeartbeats 40000000 in
theorem own_law_rm (l : Launch) (Z : State) (a0 : Array Value) (hw : ∀ d ∈ tables_1, d.before a0 Z = true) (ws : List Jvm.Cond) (x0 : Int64) (x1 : Int32)  (h0 : Heap) (n0 : Nat) (Z0 : n0 ≤ h0.size)  :
    MetFree l x (head1 (Jvm.Cond.code x code maxLocals ret :: ws) room_1) (fun a U => a = #[(.long x0), (.int x1)] ∧ Z.Warmed39 U.vm ∧ U.heap = h0) (fun _ _ _ _ _ => True) (fun _ U o U' => ∃ v L, o = .returned v ∧ own_law_Q Z x0 x1 h0 n0 v U'.heap L ∧ FrameEnd U o U' L room_1.cells room_1.slots) := by
  refine MetFree.of_bodySF (plainFor_of_name pn_SimulationNodeSeedPinLaw) hisR ?_
  intro p e s m args below meth c s₁ Bd hml0 hP hK
  obtain ⟨rfl, hZ, hh⟩ := hP
  have hx := Bd.exec
  have hby := Bd.bytes
  have hml : c.maxLocals = 7 := hml0
  have hown : s.vm.findClass "com/example/virmex/virmex/simulation/SimulationNodeSeedPinLaw" = some m.cls := findClass_of_methodNamed Bd.named
  have hnm := (name_of_methodNamed Bd.named Bd.method).1
  have hlk : meth.locks = false := BodyLoose.notSynchronized Bd
  have hrt := Bd.returns
  have X0 : Stand p l e room_1 s m #[(.long x0), (.int x1)] below meth c s₁ [] 0 0 := Stand.of_body Bd
  have e0 : s₁.heap = h0 := by rw [← hh, Bd.state]; rfl
  have N0 := Fr.nil n0
  refine Goes.enter (kc := room_1.cells) (kn := room_1.slots) (Q := own_law_Q Z x0 x1 h0 n0) (own_law_ef m x0 x1) ?_
  refine Goes.step (B := (s₁.setTop (mkF m 1 #[.val (.long x0), .second, .val (.int x1), .unset, .unset, .unset, .unset] [(.long x0)]))) (fun _ k => XS.lloadN X0.here hx rfl (hb hby at_0) rfl k) ?_
  refine Goes.step (B := (s₁.setTop (mkF m 2 #[.val (.long x0), .second, .val (.int x1), .unset, .unset, .unset, .unset] [(.int x1), (.long x0)]))) (fun _ k => XS.iloadN X0.here hx rfl (hb hby at_1) rfl k) ?_
  obtain ⟨_, _, ⟨T1, L1, k1, n1⟩, -, X1, ⟨Lc1, hQ1, l1, y1, z1⟩, st1⟩ := Jvm.LawKit.callS X0 hx (y := (⟨"com/example/virmex/virmex/simulation/Simulation", "nodeSeed", "(JI)J"⟩ : MethodName)) hown (mvT hZ (hw _ (List.mem_of_getElem? (i := 0) rfl))) (mvT hZ (hw _ (List.mem_of_getElem? (i := 1) rfl))) (mvT hZ (hw _ (List.mem_of_getElem? (i := 2) rfl))) (mvT hZ (hw _ (List.mem_of_getElem? (i := 3) rfl))) (by decide) (backOf (W := 0) (own_ns_rm l Z a0 hw [] x0 x1  h0 n0 Z0 ) hZ (hw _ (List.mem_of_getElem? (i := 3) rfl)) (hw _ (List.mem_of_getElem? (i := 2) rfl)) (by decide) (by decide)) (g := (mkF m 2 #[.val (.long x0), .second, .val (.int x1), .unset, .unset, .unset, .unset] [(.int x1), (.long x0)])) rfl (by rw [hml]; rfl) (argsL := [(.long x0), (.int x1)]) (rest := []) (lenOf pd__JI_J rfl) rfl (by show 2 * 0 + _ ≤ _; exact Nat.le_of_eq rfl) (hb hby at_2) (fun _ _ => ⟨rfl, e0, (by decide : 0 + 0 ≤ _), (by decide : 0 + 0 ≤ _)⟩)
  dsimp only [Pt.U, Pt.locs, Pt.cells, Pt.slots] at X1 l1 y1 z1 st1 hQ1
  subst l1 y1 z1
  obtain ⟨rfl, N1q, e1⟩ := hQ1
  have N1 := Fr.app N0 N1q
  refine Goes.step (B := (T1.setTop (mkF m 5 #[.val (.long x0), .second, .val (.int x1), .unset, .unset, .unset, .unset] [(.long (own_ns_fn x0 x1))]))) (fun _ k => st1 _ k) ?_
  refine Goes.step (B := (T1.setTop (mkF m 6 #[.val (.long x0), .second, .val (.int x1), .val (.long (own_ns_fn x0 x1)), .second, .unset, .unset] []))) (fun _ k => XS.lstoreN X1.here hx rfl (hb hby at_5) rfl (l' := #[.val (.long x0), .second, .val (.int x1), .val (.long (own_ns_fn x0 x1)), .second, .unset, .unset]) rfl k) ?_
  refine Goes.step (B := (T1.setTop (mkF m 7 #[.val (.long x0), .second, .val (.int x1), .val (.long (own_ns_fn x0 x1)), .second, .unset, .unset] [(.long x0)]))) (fun _ k => XS.lloadN X1.here hx rfl (hb hby at_6) rfl k) ?_
  refine Goes.step (B := (T1.setTop (mkF m 8 #[.val (.long x0), .second, .val (.int x1), .val (.long (own_ns_fn x0 x1)), .second, .unset, .unset] [(.int x1), (.long x0)]))) (fun _ k => XS.iloadN X1.here hx rfl (hb hby at_7) rfl k) ?_
  refine Goes.step (B := (T1.setTop (mkF m 9 #[.val (.long x0), .second, .val (.int x1), .val (.long (own_ns_fn x0 x1)), .second, .unset, .unset] [(.long x1.toInt64), (.long x0)]))) (fun _ k => XS.i2l X1.here hx rfl (hb hby at_8) rfl k) ?_
  refine Goes.step (B := (T1.setTop (mkF m 10 #[.val (.long x0), .second, .val (.int x1), .val (.long (own_ns_fn x0 x1)), .second, .unset, .unset] [(.long (1 : Int64)), (.long x1.toInt64), (.long x0)]))) (fun _ k => XS.lconst X1.here hx rfl (hb hby at_9) k) ?_
  refine Goes.step (B := (T1.setTop (mkF m 11 #[.val (.long x0), .second, .val (.int x1), .val (.long (own_ns_fn x0 x1)), .second, .unset, .unset] [(.long (x1.toInt64 + (1 : Int64))), (.long x0)]))) (fun _ k => XS.ladd X1.here hx rfl (hb hby at_10) rfl k) ?_
  refine Goes.step (B := (T1.setTop (mkF m 14 #[.val (.long x0), .second, .val (.int x1), .val (.long (own_ns_fn x0 x1)), .second, .unset, .unset] [(.long (-7046029254386353131 : Int64)), (.long (x1.toInt64 + (1 : Int64))), (.long x0)]))) (fun _ k => X1.ldc2Long hx hown (mvT hZ (hw _ (List.mem_of_getElem? (i := 7) rfl))) (g := (mkF m 11 #[.val (.long x0), .second, .val (.int x1), .val (.long (own_ns_fn x0 x1)), .second, .unset, .unset] [(.long (x1.toInt64 + (1 : Int64))), (.long x0)])) rfl (hb hby at_11) _ k) ?_
  refine Goes.step (B := (T1.setTop (mkF m 15 #[.val (.long x0), .second, .val (.int x1), .val (.long (own_ns_fn x0 x1)), .second, .unset, .unset] [(.long ((x1.toInt64 + (1 : Int64)) * (-7046029254386353131 : Int64))), (.long x0)]))) (fun _ k => XS.lmul X1.here hx rfl (hb hby at_14) rfl k) ?_
  refine Goes.step (B := (T1.setTop (mkF m 16 #[.val (.long x0), .second, .val (.int x1), .val (.long (own_ns_fn x0 x1)), .second, .unset, .unset] [(.long (x0 + ((x1.toInt64 + (1 : Int64)) * (-7046029254386353131 : Int64))))]))) (fun _ k => XS.ladd X1.here hx rfl (hb hby at_15) rfl k) ?_
  refine Goes.step (B := (T1.setTop (mkF m 18 #[.val (.long x0), .second, .val (.int x1), .val (.long (own_ns_fn x0 x1)), .second, .val (.long (own_st x0 x1)), .second] []))) (fun _ k => XS.lstore X1.here hx rfl (hb hby at_16) rfl (l' := #[.val (.long x0), .second, .val (.int x1), .val (.long (own_ns_fn x0 x1)), .second, .val (.long (own_st x0 x1)), .second]) rfl k) ?_
  refine Goes.step (B := (T1.setTop (mkF m 19 #[.val (.long x0), .second, .val (.int x1), .val (.long (own_ns_fn x0 x1)), .second, .val (.long (own_st x0 x1)), .second] [(.long (own_ns_fn x0 x1))]))) (fun _ k => XS.lloadN X1.here hx rfl (hb hby at_18) rfl k) ?_
  obtain ⟨_, _, ⟨T2, L2, k2, n2⟩, -, X2, ⟨Lc2, hQ2, l2, y2, z2⟩, st2⟩ := Jvm.LawKit.callS X1 hx (y := (⟨"com/example/virmex/virmex/simulation/SimulationNodeSeedPinLaw", "unmix", "(J)J"⟩ : MethodName)) hown (mvT hZ (hw _ (List.mem_of_getElem? (i := 8) rfl))) (mvT hZ (hw _ (List.mem_of_getElem? (i := 9) rfl))) (mvT hZ (hw _ (List.mem_of_getElem? (i := 10) rfl))) (mvT hZ (hw _ (List.mem_of_getElem? (i := 11) rfl))) (by decide) (backOf (W := 0) (own_um_rm l Z a0 hw [] (own_ns_fn x0 x1)  h0 n0 Z0 ) hZ (hw _ (List.mem_of_getElem? (i := 11) rfl)) (hw _ (List.mem_of_getElem? (i := 10) rfl)) (by decide) (by decide)) (g := (mkF m 19 #[.val (.long x0), .second, .val (.int x1), .val (.long (own_ns_fn x0 x1)), .second, .val (.long (own_st x0 x1)), .second] [(.long (own_ns_fn x0 x1))])) rfl (by rw [hml]; rfl) (argsL := [(.long (own_ns_fn x0 x1))]) (rest := []) (lenOf pd__J_J rfl) rfl (by show 2 * 0 + _ ≤ _; exact Nat.le_of_eq rfl) (hb hby at_19) (fun _ _ => ⟨rfl, e1, (by decide : 0 + 0 ≤ _), (by decide : 0 + 0 ≤ _)⟩)
  dsimp only [Pt.U, Pt.locs, Pt.cells, Pt.slots] at X2 l2 y2 z2 st2 hQ2
  subst l2 y2 z2
  obtain ⟨rfl, N2q, e2⟩ := hQ2
  have N2 := Fr.app N1 N2q
  refine Goes.step (B := (T2.setTop (mkF m 22 #[.val (.long x0), .second, .val (.int x1), .val (.long (own_ns_fn x0 x1)), .second, .val (.long (own_st x0 x1)), .second] [(.long (own_um_fn (own_ns_fn x0 x1)))]))) (fun _ k => st2 _ k) ?_
  refine Goes.step (B := (T2.setTop (mkF m 24 #[.val (.long x0), .second, .val (.int x1), .val (.long (own_ns_fn x0 x1)), .second, .val (.long (own_st x0 x1)), .second] [(.long (own_st x0 x1)), (.long (own_um_fn (own_ns_fn x0 x1)))]))) (fun _ k => XS.lload X2.here hx rfl (hb hby at_22) rfl k) ?_
  refine Goes.step (B := (T2.setTop (mkF m 25 #[.val (.long x0), .second, .val (.int x1), .val (.long (own_ns_fn x0 x1)), .second, .val (.long (own_st x0 x1)), .second] [(.int (lcmpW (own_um_fn (own_ns_fn x0 x1)) (own_st x0 x1)))]))) (fun _ k => XS.lcmp X2.here hx rfl (hb hby at_24) rfl k) ?_
  by_cases hc3 : (own_um_fn (own_ns_fn x0 x1)) = (own_st x0 x1)
  · refine Goes.step (B := (T2.setTop (mkF m 28 #[.val (.long x0), .second, .val (.int x1), .val (.long (own_ns_fn x0 x1)), .second, .val (.long (own_st x0 x1)), .second] []))) (fun _ k => XS.ifNo X2.here hx rfl (hb hby at_25) rfl ((if0 _ _).trans (teq ((lw_eq _ _).mpr hc3)).2) k) ?_
    refine Goes.step (B := (T2.setTop (mkF m 29 #[.val (.long x0), .second, .val (.int x1), .val (.long (own_ns_fn x0 x1)), .second, .val (.long (own_st x0 x1)), .second] [(.int (1 : Int32))]))) (fun _ k => XS.iconst X2.here hx rfl (hb hby at_28) k) ?_
    refine Goes.step (B := (T2.setTop (mkF m 33 #[.val (.long x0), .second, .val (.int x1), .val (.long (own_ns_fn x0 x1)), .second, .val (.long (own_st x0 x1)), .second] [(.int (1 : Int32))]))) (fun _ k => XS.goto X2.here hx rfl (pc0 := 29) (pc' := 33) rfl (hb hby at_29) (by decide) (by decide) k) ?_
    refine Goes.retN X2 hx hlk (t := .boolean) hrt (by simp) (hb hby at_33) ?_ (by decide) (by decide)
    rw [e2]
    exact ⟨congrArg (fun z => some (Value.int z)) (show nar .boolean (1 : Int32) = (own_law_fn x0 x1) from (show nar .boolean (1 : Int32) = (1 : Int32) from rfl).trans (by simp only [own_law_fn, if_pos hc3])), N2, rfl⟩
  · refine Goes.step (B := (T2.setTop (mkF m 32 #[.val (.long x0), .second, .val (.int x1), .val (.long (own_ns_fn x0 x1)), .second, .val (.long (own_st x0 x1)), .second] []))) (fun _ k => XS.ifYes X2.here hx rfl (pc0 := 25) (pc' := 32) rfl (hb hby at_25) rfl ((if0 _ _).trans (feq (mt (lw_eq _ _).mp hc3)).2) (by decide) (by decide) k) ?_
    refine Goes.step (B := (T2.setTop (mkF m 33 #[.val (.long x0), .second, .val (.int x1), .val (.long (own_ns_fn x0 x1)), .second, .val (.long (own_st x0 x1)), .second] [(.int (0 : Int32))]))) (fun _ k => XS.iconst X2.here hx rfl (hb hby at_32) k) ?_
    refine Goes.retN X2 hx hlk (t := .boolean) hrt (by simp) (hb hby at_33) ?_ (by decide) (by decide)
    rw [e2]
    exact ⟨congrArg (fun z => some (Value.int z)) (show nar .boolean (0 : Int32) = (own_law_fn x0 x1) from (show nar .boolean (0 : Int32) = (0 : Int32) from rfl).trans (by simp only [own_law_fn, if_neg hc3])), N2, rfl⟩
theorem own_sh (x : Int64) (q : Int32) (k : Nat) (hk : ((q &&& 0x3f).toInt64.toUInt64 % 64).toNat = k) : ((x.toUInt64 >>> (q &&& 0x3f).toInt64.toUInt64).toInt64).toBitVec = x.toBitVec >>> k := by
  subst hk; rfl
theorem own_xs (a : BitVec 64) (k : Nat) (h : 64 ≤ k + (k + k)) : ((a ^^^ (a >>> k)) ^^^ ((a ^^^ (a >>> k)) >>> k)) ^^^ ((a ^^^ (a >>> k)) >>> (k + k)) = a := by
  rw [BitVec.ushiftRight_xor_distrib, BitVec.ushiftRight_xor_distrib, ← BitVec.shiftRight_add, ← BitVec.shiftRight_add, BitVec.ushiftRight_eq_zero (x := a) h]
  generalize a >>> k = b
  generalize a >>> (k + k) = c
  rw [BitVec.xor_zero]
  have e1 : (a ^^^ b) ^^^ (b ^^^ c) = a ^^^ c := by
    rw [BitVec.xor_assoc, ← BitVec.xor_assoc b b c, BitVec.xor_self, BitVec.zero_xor]
  rw [e1, BitVec.xor_assoc, BitVec.xor_self, BitVec.xor_zero]
theorem own_un (a z : Int64) (q q2 : Int32) (k : Nat) (hk : ((q &&& 0x3f).toInt64.toUInt64 % 64).toNat = k) (hk2 : ((q2 &&& 0x3f).toInt64.toUInt64 % 64).toNat = k + k) (h : 64 ≤ k + (k + k))
    (hz : z = a ^^^ (a.toUInt64 >>> (q &&& 0x3f).toInt64.toUInt64).toInt64) :
    (z ^^^ (z.toUInt64 >>> (q &&& 0x3f).toInt64.toUInt64).toInt64) ^^^ (z.toUInt64 >>> (q2 &&& 0x3f).toInt64.toUInt64).toInt64 = a := by
  have e : z.toBitVec = a.toBitVec ^^^ (a.toBitVec >>> k) := by rw [hz, Int64.toBitVec_xor, own_sh a q k hk]
  apply Int64.toBitVec_inj.mp
  rw [Int64.toBitVec_xor, Int64.toBitVec_xor, own_sh z q k hk, own_sh z q2 _ hk2, e]
  exact own_xs a.toBitVec k h
theorem own_inv2 : (-7723592293110705685 : Int64) * own_inv_fn (-7723592293110705685) = 1 := by decide +kernel
theorem own_inv1 : (-4658895280553007687 : Int64) * own_inv_fn (-4658895280553007687) = 1 := by decide +kernel
theorem own_core (x0 : Int64) (x1 : Int32) : own_um_fn (own_ns_fn x0 x1) = own_n1 x0 x1 := by
  have h1 : own_u1 (own_ns_fn x0 x1) = own_n3 x0 x1 := own_un (own_n3 x0 x1) (own_ns_fn x0 x1) 31 62 31 (by decide) (by decide) (by decide) rfl
  have h2 : own_u2 (own_ns_fn x0 x1) = (own_n2 x0 x1) ^^^ ((own_n2 x0 x1).toUInt64 >>> ((27 : Int32) &&& 0x3f).toInt64.toUInt64).toInt64 := by
    show own_u1 (own_ns_fn x0 x1) * own_inv_fn (-7723592293110705685) = _
    rw [h1]
    show (_ * (-7723592293110705685 : Int64)) * own_inv_fn (-7723592293110705685) = _
    rw [Int64.mul_assoc, own_inv2, Int64.mul_one]
  have h3 : own_u3 (own_ns_fn x0 x1) = own_n2 x0 x1 := own_un (own_n2 x0 x1) (own_u2 (own_ns_fn x0 x1)) 27 54 27 (by decide) (by decide) (by decide) h2
  have h4 : own_u4 (own_ns_fn x0 x1) = (own_n1 x0 x1) ^^^ ((own_n1 x0 x1).toUInt64 >>> ((30 : Int32) &&& 0x3f).toInt64.toUInt64).toInt64 := by
    show own_u3 (own_ns_fn x0 x1) * own_inv_fn (-4658895280553007687) = _
    rw [h3]
    show (_ * (-4658895280553007687 : Int64)) * own_inv_fn (-4658895280553007687) = _
    rw [Int64.mul_assoc, own_inv1, Int64.mul_one]
  exact own_un (own_n1 x0 x1) (own_u4 (own_ns_fn x0 x1)) 30 60 30 (by decide) (by decide) (by decide) h4
theorem own_plain (x0 : Int64) (x1 : Int32) : own_law_fn x0 x1 = 1 := by
  rw [own_law_fn, if_pos (show own_um_fn (own_ns_fn x0 x1) = own_st x0 x1 from own_core x0 x1)]

set_option maxRecDepth 65536 in
set_option maxHeartbeats 40000000 in
theorem comes_1 {Post : Tables → Env → Array Value → State → Outcome → State → Prop} (hpost : ∀ tb e args s v u, (limb_1_1.after args s (.returned v) u = true ∧ limb_1_2.after args s (.returned v) u = true ∧ True) → FrameEnd s (.returned v) u (Jvm.fieldLocs frame_1_writes args s ++ Jvm.arrayLocs frame_1_arrays args s ++ Jvm.staticLocs frame_1_statics s) 0 0 → Post tb e args s (.returned v) u) :
    ArmFor flags0 classFile x code maxLocals ret World_1 tables_1 room_1 Calls_1 rest_1 Pre_1 Post := by
  intro l hfl _ _ p e ha hc hk s m args below hf hA hF happ hP
  obtain ⟨hcalls, hrest, hpre⟩ := hP
  obtain ⟨-, -, -, hnamed, -, -, -, hat⟩ := (Spec.applies_iff hf).mp happ
  obtain ⟨hg, hn⟩ := and_e (Cond.before_iff.mp (show (Jvm.Cond.and given_1 narrow_1).before args s = true from hpre))
  obtain ⟨hg1, hg2⟩ := and_e hg
  obtain ⟨hg3, hg4⟩ := and_e hg2
  obtain ⟨w0, w1, rfl⟩ : ∃ w0 w1 : Value, args = #[w0, w1] := by
    have hs : args.size = 2 := by simpa [Cond.value, given_1] using hg1
    obtain ⟨L⟩ := args
    match L, hs with
    | [w0, w1], _ => exact ⟨w0, w1, rfl⟩
  have hw := fun d (hd : d ∈ tables_1) => atoms_spec (ws := Jvm.Cond.code x code maxLocals ret :: tables_1) hat d (List.mem_cons_of_mem _ hd)
  have hfit : Fit s := fun {y c} hc i hi => by
    obtain ⟨ha, rfl⟩ := Array.getElem?_eq_some_iff.mp hc
    have q := List.all_eq_true.mp ((Array.all_eq_true_iff_forall_mem.mp hF) _ (Array.getElem_mem ha)) i (List.mem_range.mpr hi)
    simpa [Array.getElem?_eq_getElem hi] using q
  obtain ⟨i0, ei0⟩ := isL_v hg3
  obtain rfl : w0 = (.long i0) := Option.some.inj ei0
  obtain ⟨i1, ei1⟩ := is_v hg4
  obtain rfl : w1 = (.int i1) := Option.some.inj ei1
  obtain ⟨n, o, h1, h2, h3, _, L, rfl, ⟨hv, N, _⟩, hq⟩ := own_law_rm l s _ hw tables_1 i0 i1  s.heap s.heap.size (Nat.le_refl _)  p e ha hc hk s m _ below hf ((Spec.applies_iff_loose hf).mp happ).1 ⟨rfl, State.Warmed39.refl s, rfl⟩ trivial
  rw [own_plain i0 i1] at hv
  subst hv
  refine ⟨n, _, h1, h2, h3, hpost _ _ _ _ _ _ ⟨Cond.after_iff.mpr rfl, Cond.after_iff.mpr (eq_i res_at (Term.int_eval (1)) rfl), trivial⟩ ⟨hq.1, hq.2.1, (hq.2.2.sift fun y hy => Or.inr (N y hy)).mono (by decide) (by decide)⟩⟩
theorem main_1_1 : Claimed_1_1 := comes_1 fun _ _ _ _ _ _ h hF => ⟨h.1, hF⟩
theorem main_1_2 : Claimed_1_2 := comes_1 fun _ _ _ _ _ _ h hF => ⟨h.2.1, hF⟩
end Jvm.Pilot.@@N@@
namespace Jvm.Pilot.@@N@@
open Jvm Jvm.ClassFile Sem Op Lib Jvm.Free Jvm.Stand Jvm.Pilot.@@N@@.Jvm.D
/-! MADE BY PROGRAM (witnessworld.py) out of the Statement's table words and the real class files: 9 classes; the members and pool entries that the words name. The judged class is class 1, her method 1. -/
namespace start1
open Jvm.ClassFile
def u (s : String) : CpInfo := .utf8 (stringToUtf16 s)
/-- a pool by its gaps: so many unusable entries, then the entry; so many at the end -/
def gap : Nat → List CpInfo → List CpInfo
  | 0, r => r
  | n + 1, r => .unusable :: gap n r
def poolList (es : List (Nat × CpInfo)) (last : Nat) : List CpInfo := es.foldr (fun e r => gap e.1 (e.2 :: r)) (gap last [])
def pool (es : List (Nat × CpInfo)) (last : Nat) : Array CpInfo := ⟨poolList es last⟩
def fileOf (pool : Array CpInfo) (this : Nat) (attrs : Array Attribute := #[]) (ms : Array MethodInfo := #[]) (fl : Nat := 33) (sup : Nat := 0) (ifs : Array Nat := #[]) (fds : Array FieldInfo := #[]) : ClassFile where
  minorVersion := 0
  majorVersion := 65
  constantPool := pool
  accessFlags := fl
  thisClass := this
  superClass := sup
  interfaces := ifs
  fields := fds
  methods := ms
  attributes := attrs
def plain (name : String) (sup : Option ClassId) : Class where
  name := name
  kind := .ordinary
  loader := none
  accessFlags := 33
  super := sup
  interfaces := #[]
  cf := none
  fields := #[]
  methods := #[]
  instanceTypes := #[]
  staticTypes := #[]
  resolved := #[]
  callSites := []
  init := .initialized
  statics := none
  mirror := none

def pool0 : Array CpInfo := pool [(5, u "<init>"), (0, u "()V"), (1, .class_ 10), (1, u "java/lang/Object")] 113

def k0m0 : Method := { name := "<init>", desc := "()V", sig := { parameters := [], returnType := none }, accessFlags := 1, code := none }
/-- java/lang/Object -/
def k0 : Class := { plain "java/lang/Object" none with
  accessFlags := 33
  interfaces := #[]
  cf := some (fileOf pool0 8 #[] #[{ accessFlags := 1, nameIndex := 5, descriptorIndex := 6, attributes := #[] }] 33 0 #[] #[])
  fields := #[]
  methods := #[k0m0]
  instanceTypes := #[]
  staticTypes := #[]
  resolved := Array.replicate 124 none
  statics := none }

def pool1 : Array CpInfo := pool [(2, .class_ 4), (1, u "java/lang/Object"), (0, u "<init>"), (0, u "()V"), (0, .methodref 8 9), (0, .class_ 10), (0, .nameAndType 11 12), (0, u "com/example/virmex/virmex/simulation/Simulation"), (0, u "nodeSeed"), (0, u "(JI)J"), (0, .long 11400714819323198485), (1, .methodref 16 17), (0, .class_ 18), (0, .nameAndType 19 20), (0, u "com/example/virmex/virmex/simulation/SimulationNodeSeedPinLaw"), (0, u "unmix"), (0, u "(J)J"), (0, .long 2), (1, .long 10723151780598845931), (1, .methodref 16 26), (0, .nameAndType 27 20), (0, u "inverse"), (0, .long 13787848793156543929), (3, u "law"), (0, u "(JI)Z")] 3

def k1m0 : Method := { name := "<init>", desc := "()V", sig := { parameters := [], returnType := none }, accessFlags := 1, code := none }
def k1c1 : Code := { maxStack := 6, maxLocals := 7, code := code, exceptionTable := #[], attributes := #[] }
def k1m1 : Method := { name := "law", desc := "(JI)Z", sig := { parameters := [.long, .int], returnType := some .boolean }, accessFlags := 9, code := some k1c1 }
def k1c2 : Code := { maxStack := 8, maxLocals := 4, code := method_3_code, exceptionTable := #[], attributes := #[] }
def k1m2 : Method := { name := "inverse", desc := "(J)J", sig := { parameters := [.long], returnType := some .long }, accessFlags := 10, code := some k1c2 }
def k1c3 : Code := { maxStack := 5, maxLocals := 4, code := method_4_code, exceptionTable := #[], attributes := #[] }
def k1m3 : Method := { name := "unmix", desc := "(J)J", sig := { parameters := [.long], returnType := some .long }, accessFlags := 10, code := some k1c3 }
/-- com/example/virmex/virmex/simulation/SimulationNodeSeedPinLaw -/
def k1 : Class := { plain "com/example/virmex/virmex/simulation/SimulationNodeSeedPinLaw" (some 0) with
  accessFlags := 49
  interfaces := #[]
  cf := some (fileOf pool1 16 #[] #[{ accessFlags := 1, nameIndex := 5, descriptorIndex := 6, attributes := #[] }, { accessFlags := 9, nameIndex := 32, descriptorIndex := 33, attributes := #[] }, { accessFlags := 10, nameIndex := 27, descriptorIndex := 20, attributes := #[] }, { accessFlags := 10, nameIndex := 19, descriptorIndex := 20, attributes := #[] }] 49 2 #[] #[])
  fields := #[]
  methods := #[k1m0, k1m1, k1m2, k1m3]
  instanceTypes := #[]
  staticTypes := #[]
  resolved := Array.replicate 37 none
  statics := none }

def pool2 : Array CpInfo := pool [(2, .class_ 4), (1, u "java/lang/Object"), (3, u "algorithm"), (9, .class_ 20), (1, u "com/example/virmex/virmex/simulation/Simulation"), (0, u "Lcom/example/virmex/virmex/algorithm/Algorithm;"), (1, u "settings"), (4, u "Lcom/example/virmex/virmex/simulation/Settings;"), (1, u "workload"), (4, u "Lcom/example/virmex/virmex/simulation/Workload;"), (45, u "NONE"), (5, .class_ 88), (0, u "com/example/virmex/virmex/simulation/Simulation$Run"), (9, .long 11400714819323198485), (1, .long 13787848793156543929), (1, .long 10723151780598845931), (17, u "ORDER"), (0, u "Ljava/util/Comparator;"), (2, u "J"), (3, u "SEED_STEP"), (4, u "nodeSeed"), (0, u "(JI)J"), (4, .class_ 140), (0, u "com/example/virmex/virmex/simulation/Simulation$Run$Port"), (0, .class_ 142), (0, u "com/example/virmex/virmex/simulation/Simulation$Event"), (0, .class_ 144), (0, u "com/example/virmex/virmex/simulation/Simulation$Kind")] 39

def k2c0 : Code := { maxStack := 6, maxLocals := 5, code := prog_40_method_4_code, exceptionTable := #[], attributes := #[] }
def k2m0 : Method := { name := "nodeSeed", desc := "(JI)J", sig := { parameters := [.long, .int], returnType := some .long }, accessFlags := 8, code := some k2c0 }
/-- com/example/virmex/virmex/simulation/Simulation -/
def k2 : Class := { plain "com/example/virmex/virmex/simulation/Simulation" (some 0) with
  accessFlags := 49
  interfaces := #[]
  cf := some (fileOf pool2 18 #[.nestMembers #[87, 139, 141, 143]] #[{ accessFlags := 8, nameIndex := 133, descriptorIndex := 134, attributes := #[] }] 49 2 #[] #[{ accessFlags := 26, nameIndex := 120, descriptorIndex := 121, attributes := #[] }, { accessFlags := 26, nameIndex := 81, descriptorIndex := 124, attributes := #[] }, { accessFlags := 26, nameIndex := 128, descriptorIndex := 124, attributes := #[] }, { accessFlags := 18, nameIndex := 8, descriptorIndex := 21, attributes := #[] }, { accessFlags := 18, nameIndex := 23, descriptorIndex := 28, attributes := #[] }, { accessFlags := 18, nameIndex := 30, descriptorIndex := 35, attributes := #[] }])
  fields := #[{ name := "ORDER", type := (.object "java/util/Comparator"), accessFlags := 26, slot := 0, constantValue := 0 }, { name := "NONE", type := .long, accessFlags := 26, slot := 1, constantValue := 0 }, { name := "SEED_STEP", type := .long, accessFlags := 26, slot := 2, constantValue := 0 }, { name := "algorithm", type := (.object "com/example/virmex/virmex/algorithm/Algorithm"), accessFlags := 18, slot := 0, constantValue := 0 }, { name := "settings", type := (.object "com/example/virmex/virmex/simulation/Settings"), accessFlags := 18, slot := 1, constantValue := 0 }, { name := "workload", type := (.object "com/example/virmex/virmex/simulation/Workload"), accessFlags := 18, slot := 2, constantValue := 0 }]
  methods := #[k2m0]
  instanceTypes := #[(.object "com/example/virmex/virmex/algorithm/Algorithm"), (.object "com/example/virmex/virmex/simulation/Settings"), (.object "com/example/virmex/virmex/simulation/Workload")]
  staticTypes := #[(.object "java/util/Comparator"), .long, .long]
  resolved := Array.replicate 184 none
  statics := none }

def pool3 : Array CpInfo := pool [(1, u "java/lang/Cloneable"), (0, .class_ 1), (0, u "java/lang/Object"), (0, .class_ 3)] 3

/-- java/lang/Cloneable -/
def k3 : Class := { plain "java/lang/Cloneable" (some 0) with
  accessFlags := 1537
  interfaces := #[]
  cf := some (fileOf pool3 2 #[] #[] 1537 4 #[] #[])
  fields := #[]
  methods := #[]
  instanceTypes := #[]
  staticTypes := #[]
  resolved := Array.replicate 8 none
  statics := none }

def pool4 : Array CpInfo := pool [(1, u "java/io/Serializable"), (0, .class_ 1), (0, u "java/lang/Object"), (0, .class_ 3)] 3

/-- java/io/Serializable -/
def k4 : Class := { plain "java/io/Serializable" (some 0) with
  accessFlags := 1537
  interfaces := #[]
  cf := some (fileOf pool4 2 #[] #[] 1537 4 #[] #[])
  fields := #[]
  methods := #[]
  instanceTypes := #[]
  staticTypes := #[]
  resolved := Array.replicate 8 none
  statics := none }

/-- the primitive byte -/
def k5 : Class := { plain "byte" none with kind := .primitive 'B', accessFlags := 0x411 }
/-- [B -/
def k6 : Class := { plain "[B" (some 0) with kind := .array 5 .byte, interfaces := #[3, 4], accessFlags := 1041 }

/-- the primitive int -/
def k7 : Class := { plain "int" none with kind := .primitive 'I', accessFlags := 0x411 }
/-- [I -/
def k8 : Class := { plain "[I" (some 0) with kind := .array 7 .int, interfaces := #[3, 4], accessFlags := 1041 }

def heap : Heap := #[]
def classes : Array Class := #[k0, k1, k2, k3, k4, k5, k6, k7, k8]
def interned : List (Array UInt16 × Addr) := []
def slotsUsed : Nat := 0
def theMethod : MethodId := ⟨1, 1⟩
def args0 : Array Value := #[.long 65, .int 3]
def aboutOver (below : List Frame) : State where
  vm := { classes := classes, interned := interned.toArray }
  heap := heap
  slotsUsed := slotsUsed
  threads := #[{ frames := .invoking theMethod args0 :: below }]
def below0 : List Frame := [.native { method := ⟨0, 0⟩, args := #[] }]
def about1 : State := aboutOver below0
def p0 : Program := .bare "" "" ""
def e0 : Env := launch0.env 0 0 0
theorem w_frames : about1.frames = Frame.invoking theMethod args0 :: below0 := rfl
set_option maxRecDepth 65536 in
theorem w_args : argsFit about1.vm theMethod args0 = true := by decide +kernel
set_option maxRecDepth 65536 in
theorem w_heap : heapFits about1 = true := by decide +kernel
set_option maxRecDepth 65536 in
theorem w_runnable : about1.curStatus? = some .runnable := by decide +kernel
set_option maxRecDepth 65536 in
theorem w_alone : about1.alone = true := by decide +kernel
set_option maxRecDepth 65536 in
theorem w_named : about1.methodNamed? x = some theMethod := by decide +kernel
set_option maxRecDepth 65536 in
theorem w_hears : about1.hears theMethod below0 = true := by decide +kernel
set_option maxRecDepth 65536 in
theorem w_ripe : about1.ripe theMethod args0 below0 = true := by decide +kernel
theorem w_running : about1.status = .running := rfl
set_option maxRecDepth 65536 in
theorem w_room : about1.hasRoom e0.platform room_1 = true :=
  launch0.hasRoom_least _ room_1 (by decide +kernel) (by decide +kernel) (by decide +kernel) (by decide +kernel) (by decide +kernel) (by decide +kernel)
theorem allAtoms_all (ts : List Jvm.Cond) (a : Array Jvm.Value) (st : Jvm.State) : (allAtoms ts).before a st = ts.all (fun c => c.before a st) := by
  induction ts with
  | nil => rfl
  | cons c t ih =>
    show (Jvm.Cond.and c (allAtoms t)).before a st = _
    rw [Jvm.Cond.before_and, ih, List.all_cons]
def words1 : List Jvm.Cond := Jvm.Cond.code x code maxLocals ret :: tables_1
/-- a 'code' word, met by the world's own term for the bytes: nothing is compared byte by byte -/
theorem code_word {y : MethodName} {bytes : ByteArray} {mx : Nat} {rt : Option FieldType} {a : Array Value} {s : State} {m : MethodId} {meth : Method} {c : Code} (h1 : s.methodNamed? y = some m) (h2 : s.vm.method? m = some meth) (h3 : meth.code = some c) (h4 : c.code = bytes)
    (h5 : (c.maxLocals == mx && c.exceptionTable.isEmpty && decide (c.maxStack ≤ mostOperands) && decide (meth.sig.returnType = rt) && !meth.locks && decide (parseMethodDescriptor y.desc = some meth.sig)) = true) : (Jvm.Cond.code y bytes mx rt).before a s = true := by
  simp only [Bool.and_eq_true, beq_iff_eq, Bool.not_eq_true', decide_eq_true_eq] at h5
  obtain ⟨⟨⟨⟨⟨g1, g2⟩, g3⟩, g4⟩, g5⟩, g6⟩ := h5
  simp [Cond.before, Cond.holds, Cond.value, h1, h2, h3, h4, g1, g2, g3, g4, g5, g6]
def isCode : Jvm.Cond → Bool
  | .code _ _ _ _ => true
  | _ => false
theorem all_split {L : List Jvm.Cond} {P : Jvm.Cond → Bool} (h1 : L.all (fun c => isCode c || P c) = true) (h2 : ∀ c ∈ L.filter isCode, P c = true) : L.all P = true := by
  refine List.all_eq_true.mpr fun c hc => ?_
  have h := List.all_eq_true.mp h1 c hc
  rcases Bool.eq_false_or_eq_true (isCode c) with hi | hi
  · exact h2 c (List.mem_filter.mpr ⟨hc, hi⟩)
  · simpa [hi] using h
set_option maxRecDepth 65536 in
theorem w_c0 : (Jvm.Cond.code x code maxLocals ret).before args0 about1 = true := code_word (m := ⟨1, 1⟩) (meth := k1m1) (c := k1c1) (by decide +kernel) rfl rfl rfl (by decide +kernel)
set_option maxRecDepth 65536 in
theorem w_c1 : (Jvm.Cond.code ({ cls := "com/example/virmex/virmex/simulation/Simulation", name := "nodeSeed", desc := "(JI)J" } : Jvm.MethodName) prog_40_method_4_code (5 : Nat) (Option.some Jvm.ClassFile.FieldType.long)).before args0 about1 = true := code_word (m := ⟨2, 0⟩) (meth := k2m0) (c := k2c0) (by decide +kernel) rfl rfl rfl (by decide +kernel)
set_option maxRecDepth 65536 in
theorem w_c2 : (Jvm.Cond.code ({ cls := "com/example/virmex/virmex/simulation/SimulationNodeSeedPinLaw", name := "unmix", desc := "(J)J" } : Jvm.MethodName) method_4_code (4 : Nat) (Option.some Jvm.ClassFile.FieldType.long)).before args0 about1 = true := code_word (m := ⟨1, 3⟩) (meth := k1m3) (c := k1c3) (by decide +kernel) rfl rfl rfl (by decide +kernel)
set_option maxRecDepth 65536 in
theorem w_c3 : (Jvm.Cond.code ({ cls := "com/example/virmex/virmex/simulation/SimulationNodeSeedPinLaw", name := "inverse", desc := "(J)J" } : Jvm.MethodName) method_3_code (4 : Nat) (Option.some Jvm.ClassFile.FieldType.long)).before args0 about1 = true := code_word (m := ⟨1, 2⟩) (meth := k1m2) (c := k1c2) (by decide +kernel) rfl rfl rfl (by decide +kernel)
def codes1 : List Jvm.Cond := [Jvm.Cond.code x code maxLocals ret, Jvm.Cond.code ({ cls := "com/example/virmex/virmex/simulation/Simulation", name := "nodeSeed", desc := "(JI)J" } : Jvm.MethodName) prog_40_method_4_code (5 : Nat) (Option.some Jvm.ClassFile.FieldType.long), Jvm.Cond.code ({ cls := "com/example/virmex/virmex/simulation/SimulationNodeSeedPinLaw", name := "unmix", desc := "(J)J" } : Jvm.MethodName) method_4_code (4 : Nat) (Option.some Jvm.ClassFile.FieldType.long), Jvm.Cond.code ({ cls := "com/example/virmex/virmex/simulation/SimulationNodeSeedPinLaw", name := "inverse", desc := "(J)J" } : Jvm.MethodName) method_3_code (4 : Nat) (Option.some Jvm.ClassFile.FieldType.long)]
set_option maxRecDepth 65536 in
theorem codes_eq : words1.filter isCode = codes1 := rfl
theorem w_codes : ∀ c ∈ words1.filter isCode, c.before args0 about1 = true := by
  rw [codes_eq]
  intro c hc
  simp only [codes1, List.mem_cons, List.not_mem_nil, or_false] at hc
  rcases hc with rfl | rfl | rfl | rfl
  · exact w_c0
  · exact w_c1
  · exact w_c2
  · exact w_c3
set_option maxRecDepth 65536 in
theorem w_t1 : words1.all (fun c => isCode c || c.before args0 about1) = true := by decide +kernel
theorem w_tables : (allAtoms (Jvm.Cond.code x code maxLocals ret :: tables_1)).before args0 about1 = true := by
  rw [allAtoms_all]
  show words1.all (fun c => c.before args0 about1) = true
  refine all_split ?_ w_codes
  rw [w_t1]
set_option maxRecDepth 65536 in
theorem w_case : (Jvm.Cond.and given_1 narrow_1).before args0 about1 = true := by decide +kernel
theorem w_applies : (headSpec (Jvm.Cond.code x code maxLocals ret :: tables_1) room_1).applies x e0.platform about1 = true :=
  (Spec.applies_iff w_frames).mpr ⟨w_running, w_runnable, w_alone, w_named, w_hears, w_ripe, w_room, w_tables⟩
theorem atStart : AtStart classFile x code maxLocals ret World_1 tables_1 room_1 Calls_1 rest_1 Pre_1 launch0 p0 e0 about1 theMethod args0 below0 :=
  ⟨lists_1, trivial, launch0.admits_env _ _ _, launch0.least_env, fairChoices_fair.cas, fairChoices_fair.clock, w_frames, w_args, w_heap, w_applies, trivial, trivial, w_case⟩
end start1
theorem witness_1 : WitnessClaimed_1 := ⟨start1.p0, start1.e0, start1.about1, start1.theMethod, start1.args0, start1.below0, start1.atStart⟩
end Jvm.Pilot.@@N@@
