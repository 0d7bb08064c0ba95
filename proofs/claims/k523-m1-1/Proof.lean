import JvmDerived
import JvmDerived.Pilot.@@N@@Statement
import JvmDerived.Pilot.@@N@@Code
set_option linter.unusedVariables false
set_option linter.unusedSimpArgs false
namespace Jvm.RoadKit
open Sem ClassFile Op Lib Jvm.Stand Jvm.Free Jvm.LawKit
section Own
variable {p : Program} {l : Launch} {e : Env} {R : Room} {s : State} {m : MethodId} {args : Array Value} {below : List Frame} {meth : Method} {c : Code} {T : State} {locs : List Loc} {cells slots : Nat}
theorem retI (X : Stand p l e R s m args below meth c T locs cells slots) (hx : p.tables.exec = Jvm.exec) {pc : Nat} {Ls : Array Slot} {z : Int32} {rest : List Value} (hret : meth.sig.returnType = some .int) (hd : decode c.code pc = .ok (.ireturn, 1)) {fs : List Frame}
    (hl : ∀ (f : JFrame) (acts : List Action), f.method = m → f.locked = none → f.entered = [] → (doReturn e (T.setTop f) acts (some (.int z))).1 = T.setFrames fs) : Steps p.tables e below (T.setTop (mkF m pc Ls (.int z :: rest))) (T.setFrames fs) :=
  retOut X hx hret rfl (Or.inl ⟨rfl, Or.inl rfl, z, rfl⟩) hd hl
theorem lremM {g : JFrame} {target : State} (X : Stand p l e R s m args below meth c T locs cells slots) (hx : p.tables.exec = Jvm.exec) (hg : g.method = m) {x y : Int64} {rest : List Value} (hd : decode c.code g.pc = .ok (.lrem, 1)) (hs : g.stack = .long y :: .long x :: rest) (hy : y ≠ 0)
    (hr : Steps p.tables e below (T.setTop { g with pc := g.pc + 1, stack := .long (x % y) :: rest }) target) : Steps p.tables e below (T.setTop g) target :=
  XS.lrem X.here hx hg hd hs hy (by rw [lrem_mod]; exact hr)
/-- the walk from S on ends in a return of which Q holds -/
def Goes (p : Program) (e : Env) (below : List Frame) (s : State) (k n : Nat) (Q : Option Value → Heap → List Loc → Prop) (S : State) : Prop :=
  ∃ t o, Steps p.tables e below S t ∧ t.status = .running ∧ Ended t below o ∧ ∃ v L, o = .returned v ∧ Q v t.heap L ∧ FrameEnd s o t L k n
variable {kc kn : Nat} {Q : Option Value → Heap → List Loc → Prop}
theorem Goes.step {A B : State} (h : ∀ t, Steps p.tables e below B t → Steps p.tables e below A t) (g : Goes p e below s kc kn Q B) : Goes p e below s kc kn Q A := by
  obtain ⟨t, o, h1, h2⟩ := g; exact ⟨t, o, h t h1, h2⟩
theorem Goes.to {A B : State} (h : Steps p.tables e below A B) (g : Goes p e below s kc kn Q B) : Goes p e below s kc kn Q A := by
  obtain ⟨t, o, h1, h2⟩ := g; exact ⟨t, o, h.trans h1, h2⟩
theorem Goes.out (X : Stand p l e R s m args below meth c T locs cells slots) {g : JFrame} {v : Option Value} (hlk : meth.locks = false) (hv : meth.sig.returnType = none → v = none)
    (hs : ∀ fs : List Frame, (∀ (f : JFrame) (acts : List Action), f.method = m → f.locked = none → f.entered = [] → (doReturn e (T.setTop f) acts v).1 = T.setFrames fs) → Steps p.tables e below (T.setTop g) (T.setFrames fs))
    (hq : Q v T.heap locs) (hk : cells ≤ kc) (hn : slots ≤ kn) : Goes p e below s kc kn Q (T.setTop g) := by
  obtain ⟨fs, hr, hrun, hended, hW, hsame⟩ := X.leave (v := v) hv hlk
  exact ⟨_, _, hs fs hr, hrun, hended, v, locs, rfl, hq, ⟨_, rfl⟩, hW, hsame.mono hk hn⟩
theorem Goes.retI (X : Stand p l e R s m args below meth c T locs cells slots) (hx : p.tables.exec = Jvm.exec) (hlk : meth.locks = false) {pc : Nat} {Ls : Array Slot} {z : Int32} {rest : List Value} (hret : meth.sig.returnType = some .int) (hd : decode c.code pc = .ok (.ireturn, 1))
    (hq : Q (some (.int z)) T.heap locs) (hk : cells ≤ kc) (hn : slots ≤ kn) : Goes p e below s kc kn Q (T.setTop (mkF m pc Ls (.int z :: rest))) :=
  Goes.out X hlk (fun h => by rw [hret] at h; cases h) (fun fs hr => Jvm.RoadKit.retI X hx hret hd hr) hq hk hn
theorem Goes.retN (X : Stand p l e R s m args below meth c T locs cells slots) (hx : p.tables.exec = Jvm.exec) (hlk : meth.locks = false) {pc : Nat} {Ls : Array Slot} {z : Int32} {t : FieldType} {rest : List Value} (hret : meth.sig.returnType = some t) (ht : t = .boolean ∨ t = .byte ∨ t = .char ∨ t = .short) (hd : decode c.code pc = .ok (.ireturn, 1))
    (hq : Q (some (.int (nar t z))) T.heap locs) (hk : cells ≤ kc) (hn : slots ≤ kn) : Goes p e below s kc kn Q (T.setTop (mkF m pc Ls (.int z :: rest))) :=
  Goes.out X hlk (fun h => by rw [hret] at h; cases h) (fun fs hr => Jvm.RoadKit.retN X hx hret ht hd hr) hq hk hn
theorem Goes.retJ (X : Stand p l e R s m args below meth c T locs cells slots) (hx : p.tables.exec = Jvm.exec) (hlk : meth.locks = false) {pc : Nat} {Ls : Array Slot} {z : Int64} {rest : List Value} (hret : meth.sig.returnType = some .long) (hd : decode c.code pc = .ok (.lreturn, 1))
    (hq : Q (some (.long z)) T.heap locs) (hk : cells ≤ kc) (hn : slots ≤ kn) : Goes p e below s kc kn Q (T.setTop (mkF m pc Ls (.long z :: rest))) :=
  Goes.out X hlk (fun h => by rw [hret] at h; cases h) (fun fs hr => retOut X hx hret rfl (Or.inr (Or.inl ⟨rfl, rfl, z, rfl⟩)) hd hr) hq hk hn
theorem Goes.retR (X : Stand p l e R s m args below meth c T locs cells slots) (hx : p.tables.exec = Jvm.exec) (hlk : meth.locks = false) {pc : Nat} {Ls : Array Slot} {w : Value} {t : FieldType} {rest : List Value} (hret : meth.sig.returnType = some t) (ht : t.isReference = true) (hw : w.isRef = true) (hn' : narrow t w = w) (hd : decode c.code pc = .ok (.areturn, 1))
    (hq : Q (some w) T.heap locs) (hk : cells ≤ kc) (hn : slots ≤ kn) : Goes p e below s kc kn Q (T.setTop (mkF m pc Ls (w :: rest))) :=
  Goes.out X hlk (fun h => by rw [hret] at h; cases h) (fun fs hr => retOut X hx hret hn' (Or.inr (Or.inr (Or.inr (Or.inr ⟨rfl, ht, hw⟩)))) hd hr) hq hk hn
theorem Goes.retV (X : Stand p l e R s m args below meth c T locs cells slots) (hx : p.tables.exec = Jvm.exec) (hlk : meth.locks = false) {pc : Nat} {Ls : Array Slot} (hret : meth.sig.returnType = none) (hd : decode c.code pc = .ok (.return_, 1))
    (hq : Q none T.heap locs) (hk : cells ≤ kc) (hn : slots ≤ kn) : Goes p e below s kc kn Q (T.setTop (mkF m pc Ls [])) :=
  Goes.out X hlk (fun _ => rfl) (fun fs hr => X.returnOut hx hret hd hr) hq hk hn
theorem Goes.enter {s₁ : State} {maxL : Nat} {g : JFrame} (h : entryFrame m args maxL = g) (k : Goes p e below s kc kn Q (s₁.setTop g)) :
    ∃ t o, Steps p.tables e below (s₁.setTop (entryFrame m args maxL)) t ∧ t.status = .running ∧ Ended t below o ∧ ∃ v L, o = .returned v ∧ Q v t.heap L ∧ FrameEnd s o t L kc kn := by rw [h]; exact k
theorem nm0 {b : Addr} : b ∉ ([] : List Addr) := List.not_mem_nil
theorem nm1 {b a : Addr} (h : b ≠ a) : b ∉ [a] := fun q => h (List.mem_singleton.mp q)
theorem nm2 {b a a' : Addr} (h : b ≠ a) (h' : b ≠ a') : b ∉ [a, a'] := fun q => (List.mem_cons.mp q).elim h (fun q => h' (List.mem_singleton.mp q))
theorem nm3 {b a a' a'' : Addr} (h : b ≠ a) (h' : b ≠ a') (h'' : b ≠ a'') : b ∉ [a, a', a''] := fun q => (List.mem_cons.mp q).elim h (fun q => nm2 h' h'' q)
theorem Sta.keepN {Z : State} {h h' : Heap} {C n d : String} {v : Value} {ws : List Addr} (F : Sta Z h C n d v) (K : Keep h h' ws) (hn : ∀ a ∈ ws, ∀ cell : Cell, h[a]? = some cell → cell.vm.isStatics = false) : Sta Z h' C n d v := by
  obtain ⟨cf, i, k, f, st, cell, h1, h2, h3, h4, h5, h6, r⟩ := F
  exact ⟨cf, i, k, f, st, cell, h1, h2, h3, h4, K.2.1 st cell h5 (fun q => by have := hn st q cell h5; rw [h6] at this; cases this), h6, r⟩
theorem Exa.plainN {Z : State} {h : Heap} {a : Addr} {C : String} (E : Exa Z h a C) : ∀ cell : Cell, h[a]? = some cell → cell.vm.isStatics = false := fun cell q => by
  obtain ⟨c, k, h1, h2, h3, h4, h5⟩ := E; cases h1.symm.trans q; exact h4
theorem Arv.plainN {Z : State} {h : Heap} {a : Addr} {k : ClassId} {ty : FieldType} {z : Int32} {vs : List Value} {d : Value} (A : Arv Z h a k ty z vs d) : ∀ cell : Cell, h[a]? = some cell → cell.vm.isStatics = false := fun cell q => by
  obtain ⟨c, A, r⟩ := A; cases A.1.symm.trans q; exact A.plain
end Own
end Jvm.RoadKit
namespace Jvm.Pilot.@@N@@
open Jvm Jvm.ClassFile Sem Op Lib Jvm.Free Jvm.Stand Jvm.LawKit Jvm.RoadKit Bundle Jvm.Pilot.@@N@@.Jvm.D
theorem own_nz0 {args : Array Value} {s : State} {t : Term} {w : Int32} (ev : t.eval args s none [] s = some (.int w)) (h : (Jvm.Cond.not (.eq t (.int 0))).value args s none s [] = some true) : ¬ (w = (0 : Int32)) := fun q => by
  have h2 := not_v h
  have e2 : (Term.int 0).eval args s none [] s = some (.int 0) := rfl
  subst q
  simp only [Cond.value, ev, e2] at h2
  simp at h2
theorem own_ord {args : Array Value} {s : State} {a : Addr} {C n d : String} {z : Int32} (ev : (Term.static C n d).eval args s none [] s = some (.ref a)) (h : (Jvm.Cond.eq (.field (.static C n d) "java/lang/Enum" "ordinal" "I") (.int z)).value args s none s [] = some true) : s.fieldOf? a "java/lang/Enum" "ordinal" "I" = some (.int z) := by
  have e1 := fld_at (C := "java/lang/Enum") (n := "ordinal") (dd := "I") ev
  have e2 : (Term.int z).eval args s none [] s = some (.int z) := rfl
  cases hq : s.fieldOf? a "java/lang/Enum" "ordinal" "I" with
  | none => rw [hq] at e1; simp [Cond.value, e1] at h
  | some v =>
    rw [hq] at e1
    simp only [Cond.value, e1, e2] at h
    cases v <;> simp at h ⊢
    exact h
theorem own_ne {s : State} {a b : Addr} {y z : Int32} (h1 : s.fieldOf? a "java/lang/Enum" "ordinal" "I" = some (.int y)) (h2 : s.fieldOf? b "java/lang/Enum" "ordinal" "I" = some (.int z)) (hn : y ≠ z) : a ≠ b := fun q => by
  subst q; exact hn (Value.int.inj (Option.some.inj (h1.symm.trans h2)))
theorem own_NSroot {Z : State} {a0 : Array Value} {O K : String} {n : Nat} (w : (Jvm.Cond.noSuperclass O).before a0 Z = true) (wk : (Jvm.Cond.instantiable K n).before a0 Z = true) (hn : O ≠ K) : NS Z O K := by
  obtain ⟨c, k, h1, h2, h3, -, -⟩ := Cond.noSuperclass_spec w
  obtain ⟨t, kt, g1, -⟩ := Cond.instantiable_spec wk
  have ne := ids_ne h1 g1 hn
  refine ⟨c, t, h1, g1, fun fuel => ?_⟩
  cases fuel with
  | zero => rfl
  | succ f => simp [Vm.isSubclassAux, ne, h2, h3]
theorem own_NSno {Z : State} {a0 : Array Value} {C S K : String} {n : Nat} (w : (Jvm.Cond.superclass C S).before a0 Z = true) (wk : (Jvm.Cond.instantiable K n).before a0 Z = true) (h : NS Z C K) (hn : C ≠ K) : ∃ c t, Z.vm.findClass C = some c ∧ Z.vm.findClass K = some t ∧ Z.vm.assignable c t = false := by
  obtain ⟨c, t, h0, g0, n3⟩ := h
  obtain ⟨p, k, kp, h1, h2, h3, h4, h5, -, h7⟩ := Cond.superclass_spec h0 w
  obtain ⟨t', kt, g1, g2, g3, g4, -⟩ := Cond.instantiable_spec wk
  cases g0.symm.trans g1
  have ne := ids_ne h0 g0 hn
  have g5 : kt.isInterface = false := by
    cases hq : kt.isInterface
    · rfl
    · rw [hq] at g4; simp at g4
  refine ⟨c, t, h0, g0, ?_⟩
  show Z.vm.assignableAux (255 + 1) c t = false
  simp [Vm.assignableAux, ne, h2, g2, h5, g3, g5, Vm.isSubclass, n3]
def own_kd (aT aB : Addr) (u0 : Int32) : Addr := if (u0 &&& (1 : Int32)) = (0 : Int32) then aT else aB
def OwnCache (Z : State) (h : Heap) (a : Addr) : Prop := ∃ cl : Cell, Arr Z h a cl (.object "java/lang/Integer") ∧ cl.slots.size = 256 ∧ ∀ j : Nat, j < 256 → ∃ b : Addr, cl.slots[j]? = some (.ref b) ∧ Exa Z h b "java/lang/Integer"
theorem OwnCache.lt {Z : State} {h : Heap} {a : Addr} (F : OwnCache Z h a) : a < h.size := by obtain ⟨c, A, -⟩ := F; exact A.lt
theorem OwnCache.ext {Z : State} {h h' : Heap} {a : Addr} (F : OwnCache Z h a) (E : Ext h h') : OwnCache Z h' a := by
  obtain ⟨c, A, s, H⟩ := F; exact ⟨c, A.ext E, s, fun j hj => by obtain ⟨b, h1, h2⟩ := H j hj; exact ⟨b, h1, h2.ext E⟩⟩
theorem OwnCache.other {Z : State} {h h' : Heap} {a b : Addr} {sl : Nat} {v : Value} (F : OwnCache Z h a) (W : Wr h h' b sl v) (q : a ≠ b) : OwnCache Z h' a := by
  obtain ⟨c, A, s, H⟩ := F; exact ⟨c, A.other W q, s, fun j hj => by obtain ⟨b, h1, h2⟩ := H j hj; exact ⟨b, h1, h2.wr W⟩⟩
theorem OwnCache.keep {Z : State} {h h' : Heap} {a : Addr} {ws : List Addr} (F : OwnCache Z h a) (K : Keep h h' ws) (q : a ∉ ws) : OwnCache Z h' a := by
  obtain ⟨c, A, s, H⟩ := F; exact ⟨c, ⟨K.2.1 a c A.1 q, A.2⟩, s, fun j hj => by obtain ⟨b, h1, h2⟩ := H j hj; exact ⟨b, h1, h2.keep K⟩⟩
theorem OwnCache.plainN {Z : State} {h : Heap} {a : Addr} (F : OwnCache Z h a) : ∀ cell : Cell, h[a]? = some cell → cell.vm.isStatics = false := fun cell q => by
  obtain ⟨c, A, -⟩ := F; cases A.1.symm.trans q; exact A.plain
theorem own_cv {u0 : Int32} (h1 : ¬ u0 < (-128 : Int32)) (h2 : ¬ (127 : Int32) < u0) : (u0 + (128 : Int32)).toInt = u0.toInt + 128 ∧ 0 ≤ u0.toInt + 128 ∧ u0.toInt + 128 < 256 := by
  rw [Int32.lt_iff_toInt_lt] at h1 h2
  have k1 : (-128 : Int32).toInt = -128 := by decide
  have k2 : (127 : Int32).toInt = 127 := by decide
  have k3 : (128 : Int32).toInt = 128 := by decide
  have a := c_iadd u0 128
  have b := rng32 (u0 + 128)
  omega
theorem own_cidx {u0 : Int32} (h1 : ¬ u0 < (-128 : Int32)) (h2 : ¬ (127 : Int32) < u0) : (u0 + (128 : Int32)).toNatClampNeg < 256 := by
  have h := own_cv h1 h2
  simp only [Int32.toNatClampNeg]; omega
theorem own_cin {u0 : Int32} {c : Cell} (S : c.slots.size = 256) (h1 : ¬ u0 < (-128 : Int32)) (h2 : ¬ (127 : Int32) < u0) : ¬ ((u0 + (128 : Int32)) < 0 ∨ c.slots.size ≤ (u0 + (128 : Int32)).toNatClampNeg) := by
  have h := own_cv h1 h2
  have i := own_cidx h1 h2
  have k : (0 : Int32).toInt = 0 := by decide
  rw [S, Int32.lt_iff_toInt_lt]; omega
theorem own_stint {args : Array Value} {s : State} {t : Term} {z : Int32} (h : (Jvm.Cond.eq t (.int z)).value args s none s [] = some true) : t.eval args s none [] s = some (.int z) := by
  cases hq : t.eval args s none [] s with
  | none => simp [Cond.value, hq] at h
  | some v =>
    cases v <;> simp [Cond.value, hq, Term.eval] at h ⊢
    exact h
theorem own_lenV {args : Array Value} {s : State} {t : Term} {a : Addr} {cl : Cell} {ty : FieldType} {z : Int32} {n : Nat} (ev : t.eval args s none [] s = some (.ref a)) (A : Arr s s.heap a cl ty) (h : (Jvm.Cond.eq (.length t) (.int z)).value args s none s [] = some true) (hz : z.toInt = n) : cl.slots.size = n := by
  have ha : s.arrayAt? a = some cl := A.fin (Vm.Alike.refl _)
  by_cases q : cl.slots.size < 2 ^ 31
  · have e := len_f ev ha q
    have e2 : (Term.int z).eval args s none [] s = some (.int z) := rfl
    have h2 : cl.slots.size.toInt32 = z := by simp only [Cond.value, e, e2] at h; simpa using h
    have h3 : cl.slots.size.toInt32.toInt = cl.slots.size := len_toInt (by omega)
    rw [h2, hz] at h3
    omega
  · exfalso
    simp [Cond.value, Term.eval, ev, ha, q] at h

theorem d_jdk_30_method_1_code_0 : decode jdk_30_method_1_code 0 = .ok (.aload_n 0, 1) := by decide +kernel
theorem d_jdk_30_method_1_code_1 : decode jdk_30_method_1_code 1 = .ok (.invokespecial 1, 3) := by decide +kernel
theorem d_jdk_30_method_1_code_4 : decode jdk_30_method_1_code 4 = .ok (.return_, 1) := by decide +kernel
def own_rec_Q (Z : State) (o0 : Addr)  (h0 : Heap) (n0 : Nat) (v : Option Value) (h : Heap) (L : List Loc) : Prop := v = none ∧ Fr n0 L ∧ h = h0
theorem own_rec_ef (m : MethodId) (o0 : Addr) : entryFrame m #[(.ref o0)] 1 = mkF m 0 #[.val (.ref o0)] [] := by first | (simp [entryFrame, mkF, argsToLocals, Value.category]; done) | rfl
theorem pn_Record : plainName "java/lang/Record" = true := by first | (simp [plainName, overriddenIn]; done) | decide +kernel
set_option maxRecDepth 65536 in
set_option maxHeartbeats 40000000 in
theorem own_rec_rm (l : Launch) (Z : State) (a0 : Array Value) (hw : ∀ d ∈ tables_1, d.before a0 Z = true) (ws : List Jvm.Cond) (o0 : Addr)  (h0 : Heap) (n0 : Nat) (Z0 : n0 ≤ h0.size)  :
    MetFree l (⟨"java/lang/Record", "<init>", "()V"⟩ : MethodName) (head1 (Jvm.Cond.code (⟨"java/lang/Record", "<init>", "()V"⟩ : MethodName) jdk_30_method_1_code 1 none :: ws) ({ frames := 1, cells := 0, slots := 0, locals := 12 } : Room)) (fun a U => a = #[(.ref o0)] ∧ Z.Warmed39 U.vm ∧ U.heap = h0) (fun _ _ _ _ _ => True) (fun _ U o U' => ∃ v L, o = .returned v ∧ own_rec_Q Z o0 h0 n0 v U'.heap L ∧ FrameEnd U o U' L ({ frames := 1, cells := 0, slots := 0, locals := 12 } : Room).cells ({ frames := 1, cells := 0, slots := 0, locals := 12 } : Room).slots) := by
  refine MetFree.of_bodySF (plainFor_of_name pn_Record) hisR ?_
  intro p e s m args below meth c s₁ Bd hml0 hP hK
  obtain ⟨rfl, hZ, hh⟩ := hP
  have hx := Bd.exec
  have hby := Bd.bytes
  have hml : c.maxLocals = 1 := hml0
  have hown : s.vm.findClass "java/lang/Record" = some m.cls := findClass_of_methodNamed Bd.named
  have hnm := (name_of_methodNamed Bd.named Bd.method).1
  have hlk : meth.locks = false := BodyLoose.notSynchronized Bd
  have hrt := Bd.returns
  have X0 : Stand p l e ({ frames := 1, cells := 0, slots := 0, locals := 12 } : Room) s m #[(.ref o0)] below meth c s₁ [] 0 0 := Stand.of_body Bd
  have e0 : s₁.heap = h0 := by rw [← hh, Bd.state]; rfl
  have N0 := Fr.nil n0
  refine Goes.enter (kc := ({ frames := 1, cells := 0, slots := 0, locals := 12 } : Room).cells) (kn := ({ frames := 1, cells := 0, slots := 0, locals := 12 } : Room).slots) (Q := own_rec_Q Z o0 h0 n0) (own_rec_ef m o0) ?_
  refine Goes.step (B := (s₁.setTop (mkF m 1 #[.val (.ref o0)] [(.ref o0)]))) (fun _ k => XS.aloadN X0.here hx rfl (hb hby d_jdk_30_method_1_code_0) rfl rfl k) ?_
  obtain ⟨T101, X101, e101, st101⟩ := initO X0 hx hZ hown (hw _ (List.mem_of_getElem? (i := 18) rfl)) (hw _ (List.mem_of_getElem? (i := 19) rfl)) (hw _ (List.mem_of_getElem? (i := 20) rfl)) e0 (g := (mkF m 1 #[.val (.ref o0)] [(.ref o0)])) rfl (by rw [hml]; rfl) rfl (hb hby d_jdk_30_method_1_code_1) (by decide) (W := 0) (by show 2 * 0 + _ ≤ _; exact Nat.le_of_eq rfl) (by decide)
  refine Goes.step (B := (T101.setTop (mkF m 4 #[.val (.ref o0)] []))) (fun _ k => st101 _ k) ?_
  refine Goes.retV X101 hx hlk hrt (hb hby d_jdk_30_method_1_code_4) ?_ (by decide) (by decide)
  rw [e101]
  exact ⟨rfl, N0, rfl⟩
theorem d_jdk_18_method_1_code_0 : decode jdk_18_method_1_code 0 = .ok (.aload_n 0, 1) := by decide +kernel
theorem d_jdk_18_method_1_code_1 : decode jdk_18_method_1_code 1 = .ok (.invokespecial 1, 3) := by decide +kernel
theorem d_jdk_18_method_1_code_4 : decode jdk_18_method_1_code 4 = .ok (.return_, 1) := by decide +kernel
def own_num_Q (Z : State) (o0 : Addr)  (h0 : Heap) (n0 : Nat) (v : Option Value) (h : Heap) (L : List Loc) : Prop := v = none ∧ Fr n0 L ∧ h = h0
theorem own_num_ef (m : MethodId) (o0 : Addr) : entryFrame m #[(.ref o0)] 1 = mkF m 0 #[.val (.ref o0)] [] := by first | (simp [entryFrame, mkF, argsToLocals, Value.category]; done) | rfl
theorem pn_Number : plainName "java/lang/Number" = true := by first | (simp [plainName, overriddenIn]; done) | decide +kernel
set_option maxRecDepth 65536 in
set_option maxHeartbeats 40000000 in
theorem own_num_rm (l : Launch) (Z : State) (a0 : Array Value) (hw : ∀ d ∈ tables_1, d.before a0 Z = true) (ws : List Jvm.Cond) (o0 : Addr)  (h0 : Heap) (n0 : Nat) (Z0 : n0 ≤ h0.size)  :
    MetFree l (⟨"java/lang/Number", "<init>", "()V"⟩ : MethodName) (head1 (Jvm.Cond.code (⟨"java/lang/Number", "<init>", "()V"⟩ : MethodName) jdk_18_method_1_code 1 none :: ws) ({ frames := 1, cells := 0, slots := 0, locals := 12 } : Room)) (fun a U => a = #[(.ref o0)] ∧ Z.Warmed39 U.vm ∧ U.heap = h0) (fun _ _ _ _ _ => True) (fun _ U o U' => ∃ v L, o = .returned v ∧ own_num_Q Z o0 h0 n0 v U'.heap L ∧ FrameEnd U o U' L ({ frames := 1, cells := 0, slots := 0, locals := 12 } : Room).cells ({ frames := 1, cells := 0, slots := 0, locals := 12 } : Room).slots) := by
  refine MetFree.of_bodySF (plainFor_of_name pn_Number) hisR ?_
  intro p e s m args below meth c s₁ Bd hml0 hP hK
  obtain ⟨rfl, hZ, hh⟩ := hP
  have hx := Bd.exec
  have hby := Bd.bytes
  have hml : c.maxLocals = 1 := hml0
  have hown : s.vm.findClass "java/lang/Number" = some m.cls := findClass_of_methodNamed Bd.named
  have hnm := (name_of_methodNamed Bd.named Bd.method).1
  have hlk : meth.locks = false := BodyLoose.notSynchronized Bd
  have hrt := Bd.returns
  have X0 : Stand p l e ({ frames := 1, cells := 0, slots := 0, locals := 12 } : Room) s m #[(.ref o0)] below meth c s₁ [] 0 0 := Stand.of_body Bd
  have e0 : s₁.heap = h0 := by rw [← hh, Bd.state]; rfl
  have N0 := Fr.nil n0
  refine Goes.enter (kc := ({ frames := 1, cells := 0, slots := 0, locals := 12 } : Room).cells) (kn := ({ frames := 1, cells := 0, slots := 0, locals := 12 } : Room).slots) (Q := own_num_Q Z o0 h0 n0) (own_num_ef m o0) ?_
  refine Goes.step (B := (s₁.setTop (mkF m 1 #[.val (.ref o0)] [(.ref o0)]))) (fun _ k => XS.aloadN X0.here hx rfl (hb hby d_jdk_18_method_1_code_0) rfl rfl k) ?_
  obtain ⟨T101, X101, e101, st101⟩ := initO X0 hx hZ hown (hw _ (List.mem_of_getElem? (i := 82) rfl)) (hw _ (List.mem_of_getElem? (i := 19) rfl)) (hw _ (List.mem_of_getElem? (i := 20) rfl)) e0 (g := (mkF m 1 #[.val (.ref o0)] [(.ref o0)])) rfl (by rw [hml]; rfl) rfl (hb hby d_jdk_18_method_1_code_1) (by decide) (W := 0) (by show 2 * 0 + _ ≤ _; exact Nat.le_of_eq rfl) (by decide)
  refine Goes.step (B := (T101.setTop (mkF m 4 #[.val (.ref o0)] []))) (fun _ k => st101 _ k) ?_
  refine Goes.retV X101 hx hlk hrt (hb hby d_jdk_18_method_1_code_4) ?_ (by decide) (by decide)
  rw [e101]
  exact ⟨rfl, N0, rfl⟩
theorem d_method_2_code_0 : decode method_2_code 0 = .ok (.iload_n 0, 1) := by decide +kernel
theorem d_method_2_code_1 : decode method_2_code 1 = .ok (.iconst 1, 1) := by decide +kernel
theorem d_method_2_code_2 : decode method_2_code 2 = .ok (.iand, 1) := by decide +kernel
theorem d_method_2_code_3 : decode method_2_code 3 = .ok (.ifCond .ne 9, 3) := by decide +kernel
theorem d_method_2_code_6 : decode method_2_code 6 = .ok (.getstatic 7, 3) := by decide +kernel
theorem d_method_2_code_9 : decode method_2_code 9 = .ok (.goto 6, 3) := by decide +kernel
theorem d_method_2_code_15 : decode method_2_code 15 = .ok (.areturn, 1) := by decide +kernel
theorem d_method_2_code_12 : decode method_2_code 12 = .ok (.getstatic 13, 3) := by decide +kernel
def own_ko_Q (Z : State) (u0 : Int32) (aT : Addr) (aB : Addr) (h0 : Heap) (n0 : Nat) (v : Option Value) (h : Heap) (L : List Loc) : Prop := (v = some (.ref (own_kd aT aB u0))) ∧ (Fr n0 L) ∧ (h = h0)
theorem own_ko_ef (m : MethodId) (u0 : Int32) : entryFrame m #[(.int u0)] 1 = mkF m 0 #[.val (.int u0)] [] := by first | (simp [entryFrame, mkF, argsToLocals, Value.category]; done) | rfl
theorem pn_BasicServiceEqualsPinLaw : plainName "com/example/portcullis/portcullis/rules/BasicServiceEqualsPinLaw" = true := by first | (simp [plainName, overriddenIn]; done) | decide +kernel
set_option maxRecDepth 65536 in
set_option maxHeartbeats 40000000 in
theorem own_ko_rm (l : Launch) (Z : State) (a0 : Array Value) (hw : ∀ d ∈ tables_1, d.before a0 Z = true) (ws : List Jvm.Cond) (u0 : Int32) (aT : Addr) (aB : Addr) (h0 : Heap) (n0 : Nat) (Z0 : n0 ≤ h0.size) (pr0 : Sta Z h0 "com/example/portcullis/portcullis/rules/BasicService$Kind" "TELESERVICE" "Lcom/example/portcullis/portcullis/rules/BasicService$Kind;" (.ref aT)) (pr1 : Sta Z h0 "com/example/portcullis/portcullis/rules/BasicService$Kind" "BEARER_SERVICE" "Lcom/example/portcullis/portcullis/rules/BasicService$Kind;" (.ref aB)) :
    MetFree l (⟨"com/example/portcullis/portcullis/rules/BasicServiceEqualsPinLaw", "kindOf", "(I)Lcom/example/portcullis/portcullis/rules/BasicService$Kind;"⟩ : MethodName) (head1 (Jvm.Cond.code (⟨"com/example/portcullis/portcullis/rules/BasicServiceEqualsPinLaw", "kindOf", "(I)Lcom/example/portcullis/portcullis/rules/BasicService$Kind;"⟩ : MethodName) method_2_code 1 (some (.object "com/example/portcullis/portcullis/rules/BasicService$Kind")) :: ws) ({ frames := 0, cells := 0, slots := 0, locals := 0 } : Room)) (fun a U => a = #[(.int u0)] ∧ Z.Warmed39 U.vm ∧ U.heap = h0) (fun _ _ _ _ _ => True) (fun _ U o U' => ∃ v L, o = .returned v ∧ own_ko_Q Z u0 aT aB h0 n0 v U'.heap L ∧ FrameEnd U o U' L ({ frames := 0, cells := 0, slots := 0, locals := 0 } : Room).cells ({ frames := 0, cells := 0, slots := 0, locals := 0 } : Room).slots) := by
  refine MetFree.of_bodySF (plainFor_of_name pn_BasicServiceEqualsPinLaw) hisR ?_
  intro p e s m args below meth c s₁ Bd hml0 hP hK
  obtain ⟨rfl, hZ, hh⟩ := hP
  have hx := Bd.exec
  have hby := Bd.bytes
  have hml : c.maxLocals = 1 := hml0
  have hown : s.vm.findClass "com/example/portcullis/portcullis/rules/BasicServiceEqualsPinLaw" = some m.cls := findClass_of_methodNamed Bd.named
  have hnm := (name_of_methodNamed Bd.named Bd.method).1
  have hlk : meth.locks = false := BodyLoose.notSynchronized Bd
  have hrt := Bd.returns
  have X0 : Stand p l e ({ frames := 0, cells := 0, slots := 0, locals := 0 } : Room) s m #[(.int u0)] below meth c s₁ [] 0 0 := Stand.of_body Bd
  have e0 : s₁.heap = h0 := by rw [← hh, Bd.state]; rfl
  have N0 := Fr.nil n0
  refine Goes.enter (kc := ({ frames := 0, cells := 0, slots := 0, locals := 0 } : Room).cells) (kn := ({ frames := 0, cells := 0, slots := 0, locals := 0 } : Room).slots) (Q := own_ko_Q Z u0 aT aB h0 n0) (own_ko_ef m u0) ?_
  refine Goes.step (B := (s₁.setTop (mkF m 1 #[.val (.int u0)] [(.int u0)]))) (fun _ k => XS.iloadN X0.here hx rfl (hb hby d_method_2_code_0) rfl k) ?_
  refine Goes.step (B := (s₁.setTop (mkF m 2 #[.val (.int u0)] [(.int (1 : Int32)), (.int u0)]))) (fun _ k => XS.iconst X0.here hx rfl (hb hby d_method_2_code_1) k) ?_
  refine Goes.step (B := (s₁.setTop (mkF m 3 #[.val (.int u0)] [(.int (u0 &&& (1 : Int32)))]))) (fun _ k => XS.iand X0.here hx rfl (hb hby d_method_2_code_2) rfl k) ?_
  by_cases hc101 : (u0 &&& (1 : Int32)) = (0 : Int32)
  · refine Goes.step (B := (s₁.setTop (mkF m 6 #[.val (.int u0)] []))) (fun _ k => XS.ifNo X0.here hx rfl (hb hby d_method_2_code_3) rfl ((if0 _ _).trans (teq hc101).2) k) ?_
    obtain ⟨T102, X102, e102, st102⟩ := getS2 X0 hx hZ hown (host := "") (Or.inl (hw _ (List.mem_of_getElem? (i := 7) rfl))) Via.refl e0 pr0 (g := (mkF m 6 #[.val (.int u0)] [])) rfl (hb hby d_method_2_code_6)
    refine Goes.step (B := (T102.setTop (mkF m 9 #[.val (.int u0)] [(.ref aT)]))) (fun _ k => st102 _ k) ?_
    refine Goes.step (B := (T102.setTop (mkF m 15 #[.val (.int u0)] [(.ref aT)]))) (fun _ k => XS.goto X102.here hx rfl (pc0 := 9) (pc' := 15) rfl (hb hby d_method_2_code_9) (by decide) (by decide) k) ?_
    refine Goes.retR X102 hx hlk hrt rfl rfl rfl (hb hby d_method_2_code_15) ?_ (by decide) (by decide)
    rw [e102]
    exact ⟨by rw [own_kd, if_pos hc101], N0, rfl⟩
  · refine Goes.step (B := (s₁.setTop (mkF m 12 #[.val (.int u0)] []))) (fun _ k => XS.ifYes X0.here hx rfl (pc0 := 3) (pc' := 12) rfl (hb hby d_method_2_code_3) rfl ((if0 _ _).trans (feq hc101).2) (by decide) (by decide) k) ?_
    obtain ⟨T103, X103, e103, st103⟩ := getS2 X0 hx hZ hown (host := "") (Or.inl (hw _ (List.mem_of_getElem? (i := 32) rfl))) Via.refl e0 pr1 (g := (mkF m 12 #[.val (.int u0)] [])) rfl (hb hby d_method_2_code_12)
    refine Goes.step (B := (T103.setTop (mkF m 15 #[.val (.int u0)] [(.ref aB)]))) (fun _ k => st103 _ k) ?_
    refine Goes.retR X103 hx hlk hrt rfl rfl rfl (hb hby d_method_2_code_15) ?_ (by decide) (by decide)
    rw [e103]
    exact ⟨by rw [own_kd, if_neg hc101], N0, rfl⟩
theorem d_prog_26_method_1_code_0 : decode prog_26_method_1_code 0 = .ok (.aload_n 0, 1) := by decide +kernel
theorem d_prog_26_method_1_code_1 : decode prog_26_method_1_code 1 = .ok (.invokespecial 1, 3) := by decide +kernel
theorem pd___V : parseMethodDescriptor "()V" = some ⟨[], none⟩ := by decide +kernel
theorem d_prog_26_method_1_code_4 : decode prog_26_method_1_code 4 = .ok (.iload_n 2, 1) := by decide +kernel
theorem d_prog_26_method_1_code_5 : decode prog_26_method_1_code 5 = .ok (.ifCond .lt 10, 3) := by decide +kernel
theorem d_prog_26_method_1_code_8 : decode prog_26_method_1_code 8 = .ok (.iload_n 2, 1) := by decide +kernel
theorem d_prog_26_method_1_code_9 : decode prog_26_method_1_code 9 = .ok (.sipush 255, 3) := by decide +kernel
theorem d_prog_26_method_1_code_12 : decode prog_26_method_1_code 12 = .ok (.if_icmp .le 17, 3) := by decide +kernel
theorem d_prog_26_method_1_code_29 : decode prog_26_method_1_code 29 = .ok (.aload_n 0, 1) := by decide +kernel
theorem d_prog_26_method_1_code_30 : decode prog_26_method_1_code 30 = .ok (.aload_n 1, 1) := by decide +kernel
theorem d_prog_26_method_1_code_31 : decode prog_26_method_1_code 31 = .ok (.putfield 16, 3) := by decide +kernel
theorem d_prog_26_method_1_code_34 : decode prog_26_method_1_code 34 = .ok (.aload_n 0, 1) := by decide +kernel
theorem d_prog_26_method_1_code_35 : decode prog_26_method_1_code 35 = .ok (.iload_n 2, 1) := by decide +kernel
theorem d_prog_26_method_1_code_36 : decode prog_26_method_1_code 36 = .ok (.putfield 22, 3) := by decide +kernel
theorem d_prog_26_method_1_code_39 : decode prog_26_method_1_code 39 = .ok (.return_, 1) := by decide +kernel
def own_bi_Q (Z : State) (o0 : Addr) (c0 : Addr) (u0 : Int32)  (h0 : Heap) (n0 : Nat) (v : Option Value) (h : Heap) (L : List Loc) : Prop := (v = none) ∧ (Fr n0 L) ∧ (Keep h0 h [o0]) ∧ (Exa Z h o0 "com/example/portcullis/portcullis/rules/BasicService") ∧ (Fld Z h o0 "com/example/portcullis/portcullis/rules/BasicService" "kind" "Lcom/example/portcullis/portcullis/rules/BasicService$Kind;" (.ref c0)) ∧ (Fld Z h o0 "com/example/portcullis/portcullis/rules/BasicService" "code" "I" (.int u0))
theorem own_bi_ef (m : MethodId) (o0 : Addr) (c0 : Addr) (u0 : Int32) : entryFrame m #[(.ref o0), (.ref c0), (.int u0)] 3 = mkF m 0 #[.val (.ref o0), .val (.ref c0), .val (.int u0)] [] := by first | (simp [entryFrame, mkF, argsToLocals, Value.category]; done) | rfl
theorem pn_BasicService : plainName "com/example/portcullis/portcullis/rules/BasicService" = true := by first | (simp [plainName, overriddenIn]; done) | decide +kernel
set_option maxRecDepth 65536 in
set_option maxHeartbeats 40000000 in
theorem own_bi_rm (l : Launch) (Z : State) (a0 : Array Value) (hw : ∀ d ∈ tables_1, d.before a0 Z = true) (ws : List Jvm.Cond) (o0 : Addr) (c0 : Addr) (u0 : Int32)  (h0 : Heap) (n0 : Nat) (Z0 : n0 ≤ h0.size) (pr0 : Exa Z h0 o0 "com/example/portcullis/portcullis/rules/BasicService") (pr1 : Fld Z h0 o0 "com/example/portcullis/portcullis/rules/BasicService" "kind" "Lcom/example/portcullis/portcullis/rules/BasicService$Kind;" .null) (pr2 : Fld Z h0 o0 "com/example/portcullis/portcullis/rules/BasicService" "code" "I" (.int (0 : Int32))) (pr3 : n0 ≤ o0) (hu0 : ¬ u0 < (0 : Int32)) (hu1 : ¬ (255 : Int32) < u0) :
    MetFree l (⟨"com/example/portcullis/portcullis/rules/BasicService", "<init>", "(Lcom/example/portcullis/portcullis/rules/BasicService$Kind;I)V"⟩ : MethodName) (head1 (Jvm.Cond.code (⟨"com/example/portcullis/portcullis/rules/BasicService", "<init>", "(Lcom/example/portcullis/portcullis/rules/BasicService$Kind;I)V"⟩ : MethodName) prog_26_method_1_code 3 none :: ws) ({ frames := 2, cells := 0, slots := 0, locals := 24 } : Room)) (fun a U => a = #[(.ref o0), (.ref c0), (.int u0)] ∧ Z.Warmed39 U.vm ∧ U.heap = h0) (fun _ _ _ _ _ => True) (fun _ U o U' => ∃ v L, o = .returned v ∧ own_bi_Q Z o0 c0 u0 h0 n0 v U'.heap L ∧ FrameEnd U o U' L ({ frames := 2, cells := 0, slots := 0, locals := 24 } : Room).cells ({ frames := 2, cells := 0, slots := 0, locals := 24 } : Room).slots) := by
  refine MetFree.of_bodySF (plainFor_of_name pn_BasicService) hisR ?_
  intro p e s m args below meth c s₁ Bd hml0 hP hK
  obtain ⟨rfl, hZ, hh⟩ := hP
  have hx := Bd.exec
  have hby := Bd.bytes
  have hml : c.maxLocals = 3 := hml0
  have hown : s.vm.findClass "com/example/portcullis/portcullis/rules/BasicService" = some m.cls := findClass_of_methodNamed Bd.named
  have hnm := (name_of_methodNamed Bd.named Bd.method).1
  have hlk : meth.locks = false := BodyLoose.notSynchronized Bd
  have hrt := Bd.returns
  have X0 : Stand p l e ({ frames := 2, cells := 0, slots := 0, locals := 24 } : Room) s m #[(.ref o0), (.ref c0), (.int u0)] below meth c s₁ [] 0 0 := Stand.of_body Bd
  have e0 : s₁.heap = h0 := by rw [← hh, Bd.state]; rfl
  have N0 := Fr.nil n0
  refine Goes.enter (kc := ({ frames := 2, cells := 0, slots := 0, locals := 24 } : Room).cells) (kn := ({ frames := 2, cells := 0, slots := 0, locals := 24 } : Room).slots) (Q := own_bi_Q Z o0 c0 u0 h0 n0) (own_bi_ef m o0 c0 u0) ?_
  refine Goes.step (B := (s₁.setTop (mkF m 1 #[.val (.ref o0), .val (.ref c0), .val (.int u0)] [(.ref o0)]))) (fun _ k => XS.aloadN X0.here hx rfl (hb hby d_prog_26_method_1_code_0) rfl rfl k) ?_
  obtain ⟨_, _, ⟨T101, L101, k101, n101⟩, -, X101, ⟨Lc101, hQ101, l101, y101, z101⟩, st101⟩ := X0.specialBack hx (y := (⟨"java/lang/Record", "<init>", "()V"⟩ : MethodName)) rfl hown (mvT hZ (hw _ (List.mem_of_getElem? (i := 13) rfl))) (mvT hZ (hw _ (List.mem_of_getElem? (i := 14) rfl))) (mvT hZ (hw _ (List.mem_of_getElem? (i := 17) rfl))) (by decide) (backOf (W := 0) (own_rec_rm l Z a0 hw [] o0  h0 n0 Z0 ) hZ (hw _ (List.mem_of_getElem? (i := 17) rfl)) (hw _ (List.mem_of_getElem? (i := 16) rfl)) (by decide) (by decide)) (g := (mkF m 1 #[.val (.ref o0), .val (.ref c0), .val (.int u0)] [(.ref o0)])) rfl (by rw [hml]; rfl) (Steps.refl _) (a := o0) (argsL := []) (rest := []) (lenOf pd___V rfl) rfl (by show 2 * 0 + _ ≤ _; exact Nat.le_of_eq rfl) (hb hby d_prog_26_method_1_code_1) (fun _ _ => ⟨rfl, e0, (by decide : 0 + 0 ≤ _), (by decide : 0 + 0 ≤ _)⟩)
  dsimp only [Pt.U, Pt.locs, Pt.cells, Pt.slots] at X101 l101 y101 z101 st101 hQ101
  subst l101 y101 z101
  obtain ⟨rfl, N101q, e101⟩ := hQ101
  have N101 := Fr.app N0 N101q
  refine Goes.to (B := (T101.setTop (mkF m 4 #[.val (.ref o0), .val (.ref c0), .val (.int u0)] []))) st101 ?_
  refine Goes.step (B := (T101.setTop (mkF m 5 #[.val (.ref o0), .val (.ref c0), .val (.int u0)] [(.int u0)]))) (fun _ k => XS.iloadN X101.here hx rfl (hb hby d_prog_26_method_1_code_4) rfl k) ?_
  have hc102 : ¬ (u0 < (0 : Int32)) := hu0
  refine Goes.step (B := (T101.setTop (mkF m 8 #[.val (.ref o0), .val (.ref c0), .val (.int u0)] []))) (fun _ k => XS.ifNo X101.here hx rfl (hb hby d_prog_26_method_1_code_5) rfl ((if0 _ _).trans (flt hc102).1) k) ?_
  refine Goes.step (B := (T101.setTop (mkF m 9 #[.val (.ref o0), .val (.ref c0), .val (.int u0)] [(.int u0)]))) (fun _ k => XS.iloadN X101.here hx rfl (hb hby d_prog_26_method_1_code_8) rfl k) ?_
  refine Goes.step (B := (T101.setTop (mkF m 12 #[.val (.ref o0), .val (.ref c0), .val (.int u0)] [(.int (255 : Int32)), (.int u0)]))) (fun _ k => XS.sipush X101.here hx rfl (hb hby d_prog_26_method_1_code_9) k) ?_
  have hc103 : ¬ ((255 : Int32) < u0) := hu1
  refine Goes.step (B := (T101.setTop (mkF m 29 #[.val (.ref o0), .val (.ref c0), .val (.int u0)] []))) (fun _ k => XS.icmpYes X101.here hx rfl (pc0 := 12) (pc' := 29) rfl (hb hby d_prog_26_method_1_code_12) rfl (flt hc103).2.2.2 (by decide) (by decide) k) ?_
  refine Goes.step (B := (T101.setTop (mkF m 30 #[.val (.ref o0), .val (.ref c0), .val (.int u0)] [(.ref o0)]))) (fun _ k => XS.aloadN X101.here hx rfl (hb hby d_prog_26_method_1_code_29) rfl rfl k) ?_
  refine Goes.step (B := (T101.setTop (mkF m 31 #[.val (.ref o0), .val (.ref c0), .val (.int u0)] [(.ref c0), (.ref o0)]))) (fun _ k => XS.aloadN X101.here hx rfl (hb hby d_prog_26_method_1_code_30) rfl rfl k) ?_
  obtain ⟨T104, h104, X104, e104, W104, st104⟩ := putF X101 hx hZ hown (host := "") (Or.inl (hw _ (List.mem_of_getElem? (i := 21) rfl))) Via.refl e101 pr1 pr0 (Or.inr ⟨(hw _ (List.mem_of_getElem? (i := 22) rfl)), rfl, hnm⟩) (hw _ (List.mem_of_getElem? (i := 1) rfl)) (ty := (.object "com/example/portcullis/portcullis/rules/BasicService$Kind")) (by decide) rfl rfl (g := (mkF m 31 #[.val (.ref o0), .val (.ref c0), .val (.int u0)] [(.ref c0), (.ref o0)])) rfl rfl (hb hby d_prog_26_method_1_code_31)
  have f105 := pr0.wr W104
  have f106 := pr2.other W104 (Or.inr (slot_ne (Or.inr (hw _ (List.mem_of_getElem? (i := 24) rfl))) (Or.inr (hw _ (List.mem_of_getElem? (i := 22) rfl))) (by decide) (t := .int) (t' := (.object "com/example/portcullis/portcullis/rules/BasicService$Kind")) (by decide) (by decide)))
  have N104 := Fr.snoc X104 N101 pr3
  have K104 : Keep h0 h104 [o0] := (Keep.refl h0 [o0]).wr W104 (Or.inl (List.mem_of_getElem? (i := 0) rfl))
  have Z104 : n0 ≤ h104.size := Nat.le_trans Z0 (Nat.le_of_eq W104.size.symm)
  have f107 : Fld Z h104 o0 "com/example/portcullis/portcullis/rules/BasicService" "kind" "Lcom/example/portcullis/portcullis/rules/BasicService$Kind;" (.ref c0) := pr1.same W104
  refine Goes.step (B := (T104.setTop (mkF m 34 #[.val (.ref o0), .val (.ref c0), .val (.int u0)] []))) (fun _ k => st104 _ k) ?_
  refine Goes.step (B := (T104.setTop (mkF m 35 #[.val (.ref o0), .val (.ref c0), .val (.int u0)] [(.ref o0)]))) (fun _ k => XS.aloadN X104.here hx rfl (hb hby d_prog_26_method_1_code_34) rfl rfl k) ?_
  refine Goes.step (B := (T104.setTop (mkF m 36 #[.val (.ref o0), .val (.ref c0), .val (.int u0)] [(.int u0), (.ref o0)]))) (fun _ k => XS.iloadN X104.here hx rfl (hb hby d_prog_26_method_1_code_35) rfl k) ?_
  obtain ⟨T108, h108, X108, e108, W108, st108⟩ := putF X104 hx hZ hown (host := "") (Or.inl (hw _ (List.mem_of_getElem? (i := 23) rfl))) Via.refl e104 f106 f105 (Or.inr ⟨(hw _ (List.mem_of_getElem? (i := 24) rfl)), rfl, hnm⟩) (hw _ (List.mem_of_getElem? (i := 1) rfl)) (ty := .int) (by decide) rfl rfl (g := (mkF m 36 #[.val (.ref o0), .val (.ref c0), .val (.int u0)] [(.int u0), (.ref o0)])) rfl rfl (hb hby d_prog_26_method_1_code_36)
  have f109 := f105.wr W108
  have f110 := f107.other W108 (Or.inr (slot_ne (Or.inr (hw _ (List.mem_of_getElem? (i := 22) rfl))) (Or.inr (hw _ (List.mem_of_getElem? (i := 24) rfl))) (by decide) (t := (.object "com/example/portcullis/portcullis/rules/BasicService$Kind")) (t' := .int) (by decide) (by decide)))
  have N108 := Fr.snoc X108 N104 pr3
  have K108 : Keep h0 h108 [o0] := K104.wr W108 (Or.inl (List.mem_of_getElem? (i := 0) rfl))
  have Z108 : n0 ≤ h108.size := Nat.le_trans Z104 (Nat.le_of_eq W108.size.symm)
  have f111 : Fld Z h108 o0 "com/example/portcullis/portcullis/rules/BasicService" "code" "I" (.int u0) := f106.same W108
  refine Goes.step (B := (T108.setTop (mkF m 39 #[.val (.ref o0), .val (.ref c0), .val (.int u0)] []))) (fun _ k => st108 _ k) ?_
  refine Goes.retV X108 hx hlk hrt (hb hby d_prog_26_method_1_code_39) ?_ (by decide) (by decide)
  rw [e108]
  exact ⟨rfl, N108, K108, f109, f110, f111⟩
theorem d_prog_26_method_9_code_0 : decode prog_26_method_9_code 0 = .ok (.aload_n 1, 1) := by decide +kernel
theorem d_prog_26_method_9_code_1 : decode prog_26_method_9_code 1 = .ok (.instanceof 17, 3) := by decide +kernel
theorem d_prog_26_method_9_code_4 : decode prog_26_method_9_code 4 = .ok (.ifCond .eq 34, 3) := by decide +kernel
theorem d_prog_26_method_9_code_7 : decode prog_26_method_9_code 7 = .ok (.aload_n 1, 1) := by decide +kernel
theorem d_prog_26_method_9_code_8 : decode prog_26_method_9_code 8 = .ok (.checkcast 17, 3) := by decide +kernel
theorem d_prog_26_method_9_code_11 : decode prog_26_method_9_code 11 = .ok (.astore_n 2, 1) := by decide +kernel
theorem d_prog_26_method_9_code_12 : decode prog_26_method_9_code 12 = .ok (.aload_n 2, 1) := by decide +kernel
theorem d_prog_26_method_9_code_13 : decode prog_26_method_9_code 13 = .ok (.getfield 16, 3) := by decide +kernel
theorem d_prog_26_method_9_code_16 : decode prog_26_method_9_code 16 = .ok (.aload_n 0, 1) := by decide +kernel
theorem d_prog_26_method_9_code_17 : decode prog_26_method_9_code 17 = .ok (.getfield 16, 3) := by decide +kernel
theorem d_prog_26_method_9_code_20 : decode prog_26_method_9_code 20 = .ok (.if_acmp .ne 18, 3) := by decide +kernel
theorem d_prog_26_method_9_code_23 : decode prog_26_method_9_code 23 = .ok (.aload_n 2, 1) := by decide +kernel
theorem d_prog_26_method_9_code_24 : decode prog_26_method_9_code 24 = .ok (.getfield 22, 3) := by decide +kernel
theorem d_prog_26_method_9_code_27 : decode prog_26_method_9_code 27 = .ok (.aload_n 0, 1) := by decide +kernel
theorem d_prog_26_method_9_code_28 : decode prog_26_method_9_code 28 = .ok (.getfield 22, 3) := by decide +kernel
theorem d_prog_26_method_9_code_31 : decode prog_26_method_9_code 31 = .ok (.if_icmp .ne 7, 3) := by decide +kernel
theorem d_prog_26_method_9_code_34 : decode prog_26_method_9_code 34 = .ok (.iconst 1, 1) := by decide +kernel
theorem d_prog_26_method_9_code_35 : decode prog_26_method_9_code 35 = .ok (.goto 4, 3) := by decide +kernel
theorem d_prog_26_method_9_code_39 : decode prog_26_method_9_code 39 = .ok (.ireturn, 1) := by decide +kernel
theorem d_prog_26_method_9_code_38 : decode prog_26_method_9_code 38 = .ok (.iconst 0, 1) := by decide +kernel
def own_eqS_fn (i1 : Int32) (i2 : Int32) : Int32 := (if i2 = i1 then (1 : Int32) else (0 : Int32))
def own_eqS_Q (Z : State) (o0 : Addr) (e1 : Addr) (a1 : Addr) (a2 : Addr) (i1 : Int32) (i2 : Int32) (h0 : Heap) (n0 : Nat) (v : Option Value) (h : Heap) (L : List Loc) : Prop := v = some (.int (own_eqS_fn i1 i2)) ∧ Fr n0 L ∧ h = h0
theorem own_eqS_ef (m : MethodId) (o0 : Addr) (e1 : Addr) : entryFrame m #[(.ref o0), (.ref e1)] 3 = mkF m 0 #[.val (.ref o0), .val (.ref e1), .unset] [] := by first | (simp [entryFrame, mkF, argsToLocals, Value.category]; done) | rfl
set_option maxRecDepth 65536 in
set_option maxHeartbeats 40000000 in
theorem own_eqS_rm (l : Launch) (Z : State) (a0 : Array Value) (hw : ∀ d ∈ tables_1, d.before a0 Z = true) (ws : List Jvm.Cond) (o0 : Addr) (e1 : Addr) (a1 : Addr) (a2 : Addr) (i1 : Int32) (i2 : Int32) (h0 : Heap) (n0 : Nat) (Z0 : n0 ≤ h0.size) (pr0 : Exa Z h0 e1 "com/example/portcullis/portcullis/rules/BasicService") (pr1 : Fld Z h0 o0 "com/example/portcullis/portcullis/rules/BasicService" "kind" "Lcom/example/portcullis/portcullis/rules/BasicService$Kind;" (.ref a1)) (pr2 : Fld Z h0 e1 "com/example/portcullis/portcullis/rules/BasicService" "kind" "Lcom/example/portcullis/portcullis/rules/BasicService$Kind;" (.ref a2)) (pr3 : Fld Z h0 o0 "com/example/portcullis/portcullis/rules/BasicService" "code" "I" (.int i1)) (pr4 : Fld Z h0 e1 "com/example/portcullis/portcullis/rules/BasicService" "code" "I" (.int i2)) (hq : a2 = a1) :
    MetFree l (⟨"com/example/portcullis/portcullis/rules/BasicService", "equals", "(Ljava/lang/Object;)Z"⟩ : MethodName) (head1 (Jvm.Cond.code (⟨"com/example/portcullis/portcullis/rules/BasicService", "equals", "(Ljava/lang/Object;)Z"⟩ : MethodName) prog_26_method_9_code 3 (some .boolean) :: ws) ({ frames := 0, cells := 0, slots := 0, locals := 0 } : Room)) (fun a U => a = #[(.ref o0), (.ref e1)] ∧ Z.Warmed39 U.vm ∧ U.heap = h0) (fun _ _ _ _ _ => True) (fun _ U o U' => ∃ v L, o = .returned v ∧ own_eqS_Q Z o0 e1 a1 a2 i1 i2 h0 n0 v U'.heap L ∧ FrameEnd U o U' L ({ frames := 0, cells := 0, slots := 0, locals := 0 } : Room).cells ({ frames := 0, cells := 0, slots := 0, locals := 0 } : Room).slots) := by
  refine MetFree.of_bodySF (plainFor_of_name pn_BasicService) hisR ?_
  intro p e s m args below meth c s₁ Bd hml0 hP hK
  obtain ⟨rfl, hZ, hh⟩ := hP
  have hx := Bd.exec
  have hby := Bd.bytes
  have hml : c.maxLocals = 3 := hml0
  have hown : s.vm.findClass "com/example/portcullis/portcullis/rules/BasicService" = some m.cls := findClass_of_methodNamed Bd.named
  have hnm := (name_of_methodNamed Bd.named Bd.method).1
  have hlk : meth.locks = false := BodyLoose.notSynchronized Bd
  have hrt := Bd.returns
  have X0 : Stand p l e ({ frames := 0, cells := 0, slots := 0, locals := 0 } : Room) s m #[(.ref o0), (.ref e1)] below meth c s₁ [] 0 0 := Stand.of_body Bd
  have e0 : s₁.heap = h0 := by rw [← hh, Bd.state]; rfl
  have N0 := Fr.nil n0
  refine Goes.enter (kc := ({ frames := 0, cells := 0, slots := 0, locals := 0 } : Room).cells) (kn := ({ frames := 0, cells := 0, slots := 0, locals := 0 } : Room).slots) (Q := own_eqS_Q Z o0 e1 a1 a2 i1 i2 h0 n0) (own_eqS_ef m o0 e1) ?_
  refine Goes.step (B := (s₁.setTop (mkF m 1 #[.val (.ref o0), .val (.ref e1), .unset] [(.ref e1)]))) (fun _ k => XS.aloadN X0.here hx rfl (hb hby d_prog_26_method_9_code_0) rfl rfl k) ?_
  obtain ⟨T101, X101, e101, st101⟩ := instY X0 hx hZ hown (hw _ (List.mem_of_getElem? (i := 30) rfl)) e0 (Ins.self pr0) (g := (mkF m 1 #[.val (.ref o0), .val (.ref e1), .unset] [(.ref e1)])) rfl rfl (hb hby d_prog_26_method_9_code_1)
  refine Goes.step (B := (T101.setTop (mkF m 4 #[.val (.ref o0), .val (.ref e1), .unset] [(.int (1 : Int32))]))) (fun _ k => st101 _ k) ?_
  have hc102 : ¬ ((1 : Int32) = (0 : Int32)) := by decide
  refine Goes.step (B := (T101.setTop (mkF m 7 #[.val (.ref o0), .val (.ref e1), .unset] []))) (fun _ k => XS.ifNo X101.here hx rfl (hb hby d_prog_26_method_9_code_4) rfl ((if0 _ _).trans (feq hc102).1) k) ?_
  refine Goes.step (B := (T101.setTop (mkF m 8 #[.val (.ref o0), .val (.ref e1), .unset] [(.ref e1)]))) (fun _ k => XS.aloadN X101.here hx rfl (hb hby d_prog_26_method_9_code_7) rfl rfl k) ?_
  obtain ⟨T103, X103, e103, st103⟩ := castY X101 hx hZ hown (hw _ (List.mem_of_getElem? (i := 30) rfl)) e101 (Ins.self pr0) (g := (mkF m 8 #[.val (.ref o0), .val (.ref e1), .unset] [(.ref e1)])) rfl rfl (hb hby d_prog_26_method_9_code_8)
  refine Goes.step (B := (T103.setTop (mkF m 11 #[.val (.ref o0), .val (.ref e1), .unset] [(.ref e1)]))) (fun _ k => st103 _ k) ?_
  refine Goes.step (B := (T103.setTop (mkF m 12 #[.val (.ref o0), .val (.ref e1), .val (.ref e1)] []))) (fun _ k => XS.astoreN X103.here hx rfl (hb hby d_prog_26_method_9_code_11) rfl rfl (l' := #[.val (.ref o0), .val (.ref e1), .val (.ref e1)]) rfl k) ?_
  refine Goes.step (B := (T103.setTop (mkF m 13 #[.val (.ref o0), .val (.ref e1), .val (.ref e1)] [(.ref e1)]))) (fun _ k => XS.aloadN X103.here hx rfl (hb hby d_prog_26_method_9_code_12) rfl rfl k) ?_
  obtain ⟨T104, X104, e104, st104⟩ := getF X103 hx hZ hown (host := "") (Or.inl (hw _ (List.mem_of_getElem? (i := 21) rfl))) Via.refl e103 pr2 (g := (mkF m 13 #[.val (.ref o0), .val (.ref e1), .val (.ref e1)] [(.ref e1)])) rfl rfl (hb hby d_prog_26_method_9_code_13)
  refine Goes.step (B := (T104.setTop (mkF m 16 #[.val (.ref o0), .val (.ref e1), .val (.ref e1)] [(.ref a2)]))) (fun _ k => st104 _ k) ?_
  refine Goes.step (B := (T104.setTop (mkF m 17 #[.val (.ref o0), .val (.ref e1), .val (.ref e1)] [(.ref o0), (.ref a2)]))) (fun _ k => XS.aloadN X104.here hx rfl (hb hby d_prog_26_method_9_code_16) rfl rfl k) ?_
  obtain ⟨T105, X105, e105, st105⟩ := getF X104 hx hZ hown (host := "") (Or.inl (hw _ (List.mem_of_getElem? (i := 21) rfl))) Via.refl e104 pr1 (g := (mkF m 17 #[.val (.ref o0), .val (.ref e1), .val (.ref e1)] [(.ref o0), (.ref a2)])) rfl rfl (hb hby d_prog_26_method_9_code_17)
  refine Goes.step (B := (T105.setTop (mkF m 20 #[.val (.ref o0), .val (.ref e1), .val (.ref e1)] [(.ref a1), (.ref a2)]))) (fun _ k => st105 _ k) ?_
  refine Goes.step (B := (T105.setTop (mkF m 23 #[.val (.ref o0), .val (.ref e1), .val (.ref e1)] []))) (fun _ k => Jvm.RoadKit.acmp (g := (mkF m 20 #[.val (.ref o0), .val (.ref e1), .val (.ref e1)] [(.ref a1), (.ref a2)])) X105 hx rfl rfl rfl (pc0 := 20) (pc' := 23) (same := true) rfl (hb hby d_prog_26_method_9_code_20) rfl (decide_eq_true (congrArg Value.ref hq)) (by decide) (by decide) k) ?_
  refine Goes.step (B := (T105.setTop (mkF m 24 #[.val (.ref o0), .val (.ref e1), .val (.ref e1)] [(.ref e1)]))) (fun _ k => XS.aloadN X105.here hx rfl (hb hby d_prog_26_method_9_code_23) rfl rfl k) ?_
  obtain ⟨T106, X106, e106, st106⟩ := getF X105 hx hZ hown (host := "") (Or.inl (hw _ (List.mem_of_getElem? (i := 23) rfl))) Via.refl e105 pr4 (g := (mkF m 24 #[.val (.ref o0), .val (.ref e1), .val (.ref e1)] [(.ref e1)])) rfl rfl (hb hby d_prog_26_method_9_code_24)
  refine Goes.step (B := (T106.setTop (mkF m 27 #[.val (.ref o0), .val (.ref e1), .val (.ref e1)] [(.int i2)]))) (fun _ k => st106 _ k) ?_
  refine Goes.step (B := (T106.setTop (mkF m 28 #[.val (.ref o0), .val (.ref e1), .val (.ref e1)] [(.ref o0), (.int i2)]))) (fun _ k => XS.aloadN X106.here hx rfl (hb hby d_prog_26_method_9_code_27) rfl rfl k) ?_
  obtain ⟨T107, X107, e107, st107⟩ := getF X106 hx hZ hown (host := "") (Or.inl (hw _ (List.mem_of_getElem? (i := 23) rfl))) Via.refl e106 pr3 (g := (mkF m 28 #[.val (.ref o0), .val (.ref e1), .val (.ref e1)] [(.ref o0), (.int i2)])) rfl rfl (hb hby d_prog_26_method_9_code_28)
  refine Goes.step (B := (T107.setTop (mkF m 31 #[.val (.ref o0), .val (.ref e1), .val (.ref e1)] [(.int i1), (.int i2)]))) (fun _ k => st107 _ k) ?_
  by_cases hc108 : i2 = i1
  · refine Goes.step (B := (T107.setTop (mkF m 34 #[.val (.ref o0), .val (.ref e1), .val (.ref e1)] []))) (fun _ k => XS.icmpNo X107.here hx rfl (hb hby d_prog_26_method_9_code_31) rfl (teq hc108).2 k) ?_
    refine Goes.step (B := (T107.setTop (mkF m 35 #[.val (.ref o0), .val (.ref e1), .val (.ref e1)] [(.int (1 : Int32))]))) (fun _ k => XS.iconst X107.here hx rfl (hb hby d_prog_26_method_9_code_34) k) ?_
    refine Goes.step (B := (T107.setTop (mkF m 39 #[.val (.ref o0), .val (.ref e1), .val (.ref e1)] [(.int (1 : Int32))]))) (fun _ k => XS.goto X107.here hx rfl (pc0 := 35) (pc' := 39) rfl (hb hby d_prog_26_method_9_code_35) (by decide) (by decide) k) ?_
    refine Goes.retN X107 hx hlk (t := .boolean) hrt (by simp) (hb hby d_prog_26_method_9_code_39) ?_ (by decide) (by decide)
    rw [e107]
    exact ⟨congrArg (fun z => some (Value.int z)) (show nar .boolean (1 : Int32) = (own_eqS_fn i1 i2) from (show nar .boolean (1 : Int32) = (1 : Int32) from rfl).trans (by simp only [own_eqS_fn, if_pos hc108])), N0, rfl⟩
  · refine Goes.step (B := (T107.setTop (mkF m 38 #[.val (.ref o0), .val (.ref e1), .val (.ref e1)] []))) (fun _ k => XS.icmpYes X107.here hx rfl (pc0 := 31) (pc' := 38) rfl (hb hby d_prog_26_method_9_code_31) rfl (feq hc108).2 (by decide) (by decide) k) ?_
    refine Goes.step (B := (T107.setTop (mkF m 39 #[.val (.ref o0), .val (.ref e1), .val (.ref e1)] [(.int (0 : Int32))]))) (fun _ k => XS.iconst X107.here hx rfl (hb hby d_prog_26_method_9_code_38) k) ?_
    refine Goes.retN X107 hx hlk (t := .boolean) hrt (by simp) (hb hby d_prog_26_method_9_code_39) ?_ (by decide) (by decide)
    rw [e107]
    exact ⟨congrArg (fun z => some (Value.int z)) (show nar .boolean (0 : Int32) = (own_eqS_fn i1 i2) from (show nar .boolean (0 : Int32) = (0 : Int32) from rfl).trans (by simp only [own_eqS_fn, if_neg hc108])), N0, rfl⟩
def own_eqD_fn (i1 : Int32) (i2 : Int32) : Int32 := (0 : Int32)
def own_eqD_Q (Z : State) (o0 : Addr) (e1 : Addr) (a1 : Addr) (a2 : Addr) (i1 : Int32) (i2 : Int32) (h0 : Heap) (n0 : Nat) (v : Option Value) (h : Heap) (L : List Loc) : Prop := v = some (.int (own_eqD_fn i1 i2)) ∧ Fr n0 L ∧ h = h0
theorem own_eqD_ef (m : MethodId) (o0 : Addr) (e1 : Addr) : entryFrame m #[(.ref o0), (.ref e1)] 3 = mkF m 0 #[.val (.ref o0), .val (.ref e1), .unset] [] := by first | (simp [entryFrame, mkF, argsToLocals, Value.category]; done) | rfl
set_option maxRecDepth 65536 in
set_option maxHeartbeats 40000000 in
theorem own_eqD_rm (l : Launch) (Z : State) (a0 : Array Value) (hw : ∀ d ∈ tables_1, d.before a0 Z = true) (ws : List Jvm.Cond) (o0 : Addr) (e1 : Addr) (a1 : Addr) (a2 : Addr) (i1 : Int32) (i2 : Int32) (h0 : Heap) (n0 : Nat) (Z0 : n0 ≤ h0.size) (pr0 : Exa Z h0 e1 "com/example/portcullis/portcullis/rules/BasicService") (pr1 : Fld Z h0 o0 "com/example/portcullis/portcullis/rules/BasicService" "kind" "Lcom/example/portcullis/portcullis/rules/BasicService$Kind;" (.ref a1)) (pr2 : Fld Z h0 e1 "com/example/portcullis/portcullis/rules/BasicService" "kind" "Lcom/example/portcullis/portcullis/rules/BasicService$Kind;" (.ref a2)) (pr3 : Fld Z h0 o0 "com/example/portcullis/portcullis/rules/BasicService" "code" "I" (.int i1)) (pr4 : Fld Z h0 e1 "com/example/portcullis/portcullis/rules/BasicService" "code" "I" (.int i2)) (hq : a2 ≠ a1) :
    MetFree l (⟨"com/example/portcullis/portcullis/rules/BasicService", "equals", "(Ljava/lang/Object;)Z"⟩ : MethodName) (head1 (Jvm.Cond.code (⟨"com/example/portcullis/portcullis/rules/BasicService", "equals", "(Ljava/lang/Object;)Z"⟩ : MethodName) prog_26_method_9_code 3 (some .boolean) :: ws) ({ frames := 0, cells := 0, slots := 0, locals := 0 } : Room)) (fun a U => a = #[(.ref o0), (.ref e1)] ∧ Z.Warmed39 U.vm ∧ U.heap = h0) (fun _ _ _ _ _ => True) (fun _ U o U' => ∃ v L, o = .returned v ∧ own_eqD_Q Z o0 e1 a1 a2 i1 i2 h0 n0 v U'.heap L ∧ FrameEnd U o U' L ({ frames := 0, cells := 0, slots := 0, locals := 0 } : Room).cells ({ frames := 0, cells := 0, slots := 0, locals := 0 } : Room).slots) := by
  refine MetFree.of_bodySF (plainFor_of_name pn_BasicService) hisR ?_
  intro p e s m args below meth c s₁ Bd hml0 hP hK
  obtain ⟨rfl, hZ, hh⟩ := hP
  have hx := Bd.exec
  have hby := Bd.bytes
  have hml : c.maxLocals = 3 := hml0
  have hown : s.vm.findClass "com/example/portcullis/portcullis/rules/BasicService" = some m.cls := findClass_of_methodNamed Bd.named
  have hnm := (name_of_methodNamed Bd.named Bd.method).1
  have hlk : meth.locks = false := BodyLoose.notSynchronized Bd
  have hrt := Bd.returns
  have X0 : Stand p l e ({ frames := 0, cells := 0, slots := 0, locals := 0 } : Room) s m #[(.ref o0), (.ref e1)] below meth c s₁ [] 0 0 := Stand.of_body Bd
  have e0 : s₁.heap = h0 := by rw [← hh, Bd.state]; rfl
  have N0 := Fr.nil n0
  refine Goes.enter (kc := ({ frames := 0, cells := 0, slots := 0, locals := 0 } : Room).cells) (kn := ({ frames := 0, cells := 0, slots := 0, locals := 0 } : Room).slots) (Q := own_eqD_Q Z o0 e1 a1 a2 i1 i2 h0 n0) (own_eqD_ef m o0 e1) ?_
  refine Goes.step (B := (s₁.setTop (mkF m 1 #[.val (.ref o0), .val (.ref e1), .unset] [(.ref e1)]))) (fun _ k => XS.aloadN X0.here hx rfl (hb hby d_prog_26_method_9_code_0) rfl rfl k) ?_
  obtain ⟨T101, X101, e101, st101⟩ := instY X0 hx hZ hown (hw _ (List.mem_of_getElem? (i := 30) rfl)) e0 (Ins.self pr0) (g := (mkF m 1 #[.val (.ref o0), .val (.ref e1), .unset] [(.ref e1)])) rfl rfl (hb hby d_prog_26_method_9_code_1)
  refine Goes.step (B := (T101.setTop (mkF m 4 #[.val (.ref o0), .val (.ref e1), .unset] [(.int (1 : Int32))]))) (fun _ k => st101 _ k) ?_
  have hc102 : ¬ ((1 : Int32) = (0 : Int32)) := by decide
  refine Goes.step (B := (T101.setTop (mkF m 7 #[.val (.ref o0), .val (.ref e1), .unset] []))) (fun _ k => XS.ifNo X101.here hx rfl (hb hby d_prog_26_method_9_code_4) rfl ((if0 _ _).trans (feq hc102).1) k) ?_
  refine Goes.step (B := (T101.setTop (mkF m 8 #[.val (.ref o0), .val (.ref e1), .unset] [(.ref e1)]))) (fun _ k => XS.aloadN X101.here hx rfl (hb hby d_prog_26_method_9_code_7) rfl rfl k) ?_
  obtain ⟨T103, X103, e103, st103⟩ := castY X101 hx hZ hown (hw _ (List.mem_of_getElem? (i := 30) rfl)) e101 (Ins.self pr0) (g := (mkF m 8 #[.val (.ref o0), .val (.ref e1), .unset] [(.ref e1)])) rfl rfl (hb hby d_prog_26_method_9_code_8)
  refine Goes.step (B := (T103.setTop (mkF m 11 #[.val (.ref o0), .val (.ref e1), .unset] [(.ref e1)]))) (fun _ k => st103 _ k) ?_
  refine Goes.step (B := (T103.setTop (mkF m 12 #[.val (.ref o0), .val (.ref e1), .val (.ref e1)] []))) (fun _ k => XS.astoreN X103.here hx rfl (hb hby d_prog_26_method_9_code_11) rfl rfl (l' := #[.val (.ref o0), .val (.ref e1), .val (.ref e1)]) rfl k) ?_
  refine Goes.step (B := (T103.setTop (mkF m 13 #[.val (.ref o0), .val (.ref e1), .val (.ref e1)] [(.ref e1)]))) (fun _ k => XS.aloadN X103.here hx rfl (hb hby d_prog_26_method_9_code_12) rfl rfl k) ?_
  obtain ⟨T104, X104, e104, st104⟩ := getF X103 hx hZ hown (host := "") (Or.inl (hw _ (List.mem_of_getElem? (i := 21) rfl))) Via.refl e103 pr2 (g := (mkF m 13 #[.val (.ref o0), .val (.ref e1), .val (.ref e1)] [(.ref e1)])) rfl rfl (hb hby d_prog_26_method_9_code_13)
  refine Goes.step (B := (T104.setTop (mkF m 16 #[.val (.ref o0), .val (.ref e1), .val (.ref e1)] [(.ref a2)]))) (fun _ k => st104 _ k) ?_
  refine Goes.step (B := (T104.setTop (mkF m 17 #[.val (.ref o0), .val (.ref e1), .val (.ref e1)] [(.ref o0), (.ref a2)]))) (fun _ k => XS.aloadN X104.here hx rfl (hb hby d_prog_26_method_9_code_16) rfl rfl k) ?_
  obtain ⟨T105, X105, e105, st105⟩ := getF X104 hx hZ hown (host := "") (Or.inl (hw _ (List.mem_of_getElem? (i := 21) rfl))) Via.refl e104 pr1 (g := (mkF m 17 #[.val (.ref o0), .val (.ref e1), .val (.ref e1)] [(.ref o0), (.ref a2)])) rfl rfl (hb hby d_prog_26_method_9_code_17)
  refine Goes.step (B := (T105.setTop (mkF m 20 #[.val (.ref o0), .val (.ref e1), .val (.ref e1)] [(.ref a1), (.ref a2)]))) (fun _ k => st105 _ k) ?_
  refine Goes.step (B := (T105.setTop (mkF m 38 #[.val (.ref o0), .val (.ref e1), .val (.ref e1)] []))) (fun _ k => Jvm.RoadKit.acmp (g := (mkF m 20 #[.val (.ref o0), .val (.ref e1), .val (.ref e1)] [(.ref a1), (.ref a2)])) X105 hx rfl rfl rfl (pc0 := 20) (pc' := 38) (same := false) rfl (hb hby d_prog_26_method_9_code_20) rfl (decide_eq_false fun q => hq (Value.ref.inj q)) (by decide) (by decide) k) ?_
  refine Goes.step (B := (T105.setTop (mkF m 39 #[.val (.ref o0), .val (.ref e1), .val (.ref e1)] [(.int (0 : Int32))]))) (fun _ k => XS.iconst X105.here hx rfl (hb hby d_prog_26_method_9_code_38) k) ?_
  refine Goes.retN X105 hx hlk (t := .boolean) hrt (by simp) (hb hby d_prog_26_method_9_code_39) ?_ (by decide) (by decide)
  rw [e105]
  exact ⟨congrArg (fun z => some (Value.int z)) (show nar .boolean (0 : Int32) = (own_eqD_fn i1 i2) from (show nar .boolean (0 : Int32) = (0 : Int32) from rfl).trans (by simp only [own_eqD_fn])), N0, rfl⟩
def own_eqN_fn  : Int32 := (0 : Int32)
def own_eqN_Q (Z : State) (o0 : Addr)  (h0 : Heap) (n0 : Nat) (v : Option Value) (h : Heap) (L : List Loc) : Prop := v = some (.int (own_eqN_fn)) ∧ Fr n0 L ∧ h = h0
theorem own_eqN_ef (m : MethodId) (o0 : Addr) : entryFrame m #[(.ref o0), .null] 3 = mkF m 0 #[.val (.ref o0), .val .null, .unset] [] := by first | (simp [entryFrame, mkF, argsToLocals, Value.category]; done) | rfl
set_option maxRecDepth 65536 in
set_option maxHeartbeats 40000000 in
theorem own_eqN_rm (l : Launch) (Z : State) (a0 : Array Value) (hw : ∀ d ∈ tables_1, d.before a0 Z = true) (ws : List Jvm.Cond) (o0 : Addr)  (h0 : Heap) (n0 : Nat) (Z0 : n0 ≤ h0.size)  :
    MetFree l (⟨"com/example/portcullis/portcullis/rules/BasicService", "equals", "(Ljava/lang/Object;)Z"⟩ : MethodName) (head1 (Jvm.Cond.code (⟨"com/example/portcullis/portcullis/rules/BasicService", "equals", "(Ljava/lang/Object;)Z"⟩ : MethodName) prog_26_method_9_code 3 (some .boolean) :: ws) ({ frames := 0, cells := 0, slots := 0, locals := 0 } : Room)) (fun a U => a = #[(.ref o0), .null] ∧ Z.Warmed39 U.vm ∧ U.heap = h0) (fun _ _ _ _ _ => True) (fun _ U o U' => ∃ v L, o = .returned v ∧ own_eqN_Q Z o0 h0 n0 v U'.heap L ∧ FrameEnd U o U' L ({ frames := 0, cells := 0, slots := 0, locals := 0 } : Room).cells ({ frames := 0, cells := 0, slots := 0, locals := 0 } : Room).slots) := by
  refine MetFree.of_bodySF (plainFor_of_name pn_BasicService) hisR ?_
  intro p e s m args below meth c s₁ Bd hml0 hP hK
  obtain ⟨rfl, hZ, hh⟩ := hP
  have hx := Bd.exec
  have hby := Bd.bytes
  have hml : c.maxLocals = 3 := hml0
  have hown : s.vm.findClass "com/example/portcullis/portcullis/rules/BasicService" = some m.cls := findClass_of_methodNamed Bd.named
  have hnm := (name_of_methodNamed Bd.named Bd.method).1
  have hlk : meth.locks = false := BodyLoose.notSynchronized Bd
  have hrt := Bd.returns
  have X0 : Stand p l e ({ frames := 0, cells := 0, slots := 0, locals := 0 } : Room) s m #[(.ref o0), .null] below meth c s₁ [] 0 0 := Stand.of_body Bd
  have e0 : s₁.heap = h0 := by rw [← hh, Bd.state]; rfl
  have N0 := Fr.nil n0
  refine Goes.enter (kc := ({ frames := 0, cells := 0, slots := 0, locals := 0 } : Room).cells) (kn := ({ frames := 0, cells := 0, slots := 0, locals := 0 } : Room).slots) (Q := own_eqN_Q Z o0 h0 n0) (own_eqN_ef m o0) ?_
  refine Goes.step (B := (s₁.setTop (mkF m 1 #[.val (.ref o0), .val .null, .unset] [.null]))) (fun _ k => XS.aloadN X0.here hx rfl (hb hby d_prog_26_method_9_code_0) rfl rfl k) ?_
  refine Goes.step (B := (s₁.setTop (mkF m 4 #[.val (.ref o0), .val .null, .unset] [(.int (0 : Int32))]))) (fun _ k => X0.instanceofNull hx (g := (mkF m 1 #[.val (.ref o0), .val .null, .unset] [.null])) rfl rfl (hb hby d_prog_26_method_9_code_1) _ k) ?_
  have hc102 : (0 : Int32) = (0 : Int32) := by decide
  refine Goes.step (B := (s₁.setTop (mkF m 38 #[.val (.ref o0), .val .null, .unset] []))) (fun _ k => XS.ifYes X0.here hx rfl (pc0 := 4) (pc' := 38) rfl (hb hby d_prog_26_method_9_code_4) rfl ((if0 _ _).trans (teq hc102).1) (by decide) (by decide) k) ?_
  refine Goes.step (B := (s₁.setTop (mkF m 39 #[.val (.ref o0), .val .null, .unset] [(.int (0 : Int32))]))) (fun _ k => XS.iconst X0.here hx rfl (hb hby d_prog_26_method_9_code_38) k) ?_
  refine Goes.retN X0 hx hlk (t := .boolean) hrt (by simp) (hb hby d_prog_26_method_9_code_39) ?_ (by decide) (by decide)
  rw [e0]
  exact ⟨congrArg (fun z => some (Value.int z)) (show nar .boolean (0 : Int32) = (own_eqN_fn) from (show nar .boolean (0 : Int32) = (0 : Int32) from rfl).trans (by simp only [own_eqN_fn])), N0, rfl⟩
def own_eqX_fn  : Int32 := (0 : Int32)
def own_eqX_Q (Z : State) (o0 : Addr) (e1 : Addr)  (h0 : Heap) (n0 : Nat) (v : Option Value) (h : Heap) (L : List Loc) : Prop := v = some (.int (own_eqX_fn)) ∧ Fr n0 L ∧ h = h0
theorem own_eqX_ef (m : MethodId) (o0 : Addr) (e1 : Addr) : entryFrame m #[(.ref o0), (.ref e1)] 3 = mkF m 0 #[.val (.ref o0), .val (.ref e1), .unset] [] := by first | (simp [entryFrame, mkF, argsToLocals, Value.category]; done) | rfl
set_option maxRecDepth 65536 in
set_option maxHeartbeats 40000000 in
theorem own_eqX_rm (l : Launch) (Z : State) (a0 : Array Value) (hw : ∀ d ∈ tables_1, d.before a0 Z = true) (ws : List Jvm.Cond) (o0 : Addr) (e1 : Addr)  (h0 : Heap) (n0 : Nat) (Z0 : n0 ≤ h0.size) (pr0 : Exa Z h0 e1 "java/lang/String") :
    MetFree l (⟨"com/example/portcullis/portcullis/rules/BasicService", "equals", "(Ljava/lang/Object;)Z"⟩ : MethodName) (head1 (Jvm.Cond.code (⟨"com/example/portcullis/portcullis/rules/BasicService", "equals", "(Ljava/lang/Object;)Z"⟩ : MethodName) prog_26_method_9_code 3 (some .boolean) :: ws) ({ frames := 0, cells := 0, slots := 0, locals := 0 } : Room)) (fun a U => a = #[(.ref o0), (.ref e1)] ∧ Z.Warmed39 U.vm ∧ U.heap = h0) (fun _ _ _ _ _ => True) (fun _ U o U' => ∃ v L, o = .returned v ∧ own_eqX_Q Z o0 e1 h0 n0 v U'.heap L ∧ FrameEnd U o U' L ({ frames := 0, cells := 0, slots := 0, locals := 0 } : Room).cells ({ frames := 0, cells := 0, slots := 0, locals := 0 } : Room).slots) := by
  refine MetFree.of_bodySF (plainFor_of_name pn_BasicService) hisR ?_
  intro p e s m args below meth c s₁ Bd hml0 hP hK
  obtain ⟨rfl, hZ, hh⟩ := hP
  have hx := Bd.exec
  have hby := Bd.bytes
  have hml : c.maxLocals = 3 := hml0
  have hown : s.vm.findClass "com/example/portcullis/portcullis/rules/BasicService" = some m.cls := findClass_of_methodNamed Bd.named
  have hnm := (name_of_methodNamed Bd.named Bd.method).1
  have hlk : meth.locks = false := BodyLoose.notSynchronized Bd
  have hrt := Bd.returns
  have X0 : Stand p l e ({ frames := 0, cells := 0, slots := 0, locals := 0 } : Room) s m #[(.ref o0), (.ref e1)] below meth c s₁ [] 0 0 := Stand.of_body Bd
  have e0 : s₁.heap = h0 := by rw [← hh, Bd.state]; rfl
  have N0 := Fr.nil n0
  refine Goes.enter (kc := ({ frames := 0, cells := 0, slots := 0, locals := 0 } : Room).cells) (kn := ({ frames := 0, cells := 0, slots := 0, locals := 0 } : Room).slots) (Q := own_eqX_Q Z o0 e1 h0 n0) (own_eqX_ef m o0 e1) ?_
  refine Goes.step (B := (s₁.setTop (mkF m 1 #[.val (.ref o0), .val (.ref e1), .unset] [(.ref e1)]))) (fun _ k => XS.aloadN X0.here hx rfl (hb hby d_prog_26_method_9_code_0) rfl rfl k) ?_
  obtain ⟨T101, X101, e101, st101⟩ := instNo X0 hx hZ hown (hw _ (List.mem_of_getElem? (i := 30) rfl)) e0 pr0 (own_NSno (hw _ (List.mem_of_getElem? (i := 62) rfl)) (hw _ (List.mem_of_getElem? (i := 1) rfl)) (NS.step (hw _ (List.mem_of_getElem? (i := 62) rfl)) (own_NSroot (hw _ (List.mem_of_getElem? (i := 63) rfl)) (hw _ (List.mem_of_getElem? (i := 1) rfl)) (by decide)) (by decide)) (by decide)) (g := (mkF m 1 #[.val (.ref o0), .val (.ref e1), .unset] [(.ref e1)])) rfl rfl (hb hby d_prog_26_method_9_code_1)
  refine Goes.step (B := (T101.setTop (mkF m 4 #[.val (.ref o0), .val (.ref e1), .unset] [(.int (0 : Int32))]))) (fun _ k => st101 _ k) ?_
  have hc102 : (0 : Int32) = (0 : Int32) := by decide
  refine Goes.step (B := (T101.setTop (mkF m 38 #[.val (.ref o0), .val (.ref e1), .unset] []))) (fun _ k => XS.ifYes X101.here hx rfl (pc0 := 4) (pc' := 38) rfl (hb hby d_prog_26_method_9_code_4) rfl ((if0 _ _).trans (teq hc102).1) (by decide) (by decide) k) ?_
  refine Goes.step (B := (T101.setTop (mkF m 39 #[.val (.ref o0), .val (.ref e1), .unset] [(.int (0 : Int32))]))) (fun _ k => XS.iconst X101.here hx rfl (hb hby d_prog_26_method_9_code_38) k) ?_
  refine Goes.retN X101 hx hlk (t := .boolean) hrt (by simp) (hb hby d_prog_26_method_9_code_39) ?_ (by decide) (by decide)
  rw [e101]
  exact ⟨congrArg (fun z => some (Value.int z)) (show nar .boolean (0 : Int32) = (own_eqX_fn) from (show nar .boolean (0 : Int32) = (0 : Int32) from rfl).trans (by simp only [own_eqX_fn])), N0, rfl⟩
def own_eqI_fn  : Int32 := (0 : Int32)
def own_eqI_Q (Z : State) (o0 : Addr) (e1 : Addr)  (h0 : Heap) (n0 : Nat) (v : Option Value) (h : Heap) (L : List Loc) : Prop := v = some (.int (own_eqI_fn)) ∧ Fr n0 L ∧ h = h0
theorem own_eqI_ef (m : MethodId) (o0 : Addr) (e1 : Addr) : entryFrame m #[(.ref o0), (.ref e1)] 3 = mkF m 0 #[.val (.ref o0), .val (.ref e1), .unset] [] := by first | (simp [entryFrame, mkF, argsToLocals, Value.category]; done) | rfl
set_option maxRecDepth 65536 in
set_option maxHeartbeats 40000000 in
theorem own_eqI_rm (l : Launch) (Z : State) (a0 : Array Value) (hw : ∀ d ∈ tables_1, d.before a0 Z = true) (ws : List Jvm.Cond) (o0 : Addr) (e1 : Addr)  (h0 : Heap) (n0 : Nat) (Z0 : n0 ≤ h0.size) (pr0 : Exa Z h0 e1 "java/lang/Integer") :
    MetFree l (⟨"com/example/portcullis/portcullis/rules/BasicService", "equals", "(Ljava/lang/Object;)Z"⟩ : MethodName) (head1 (Jvm.Cond.code (⟨"com/example/portcullis/portcullis/rules/BasicService", "equals", "(Ljava/lang/Object;)Z"⟩ : MethodName) prog_26_method_9_code 3 (some .boolean) :: ws) ({ frames := 0, cells := 0, slots := 0, locals := 0 } : Room)) (fun a U => a = #[(.ref o0), (.ref e1)] ∧ Z.Warmed39 U.vm ∧ U.heap = h0) (fun _ _ _ _ _ => True) (fun _ U o U' => ∃ v L, o = .returned v ∧ own_eqI_Q Z o0 e1 h0 n0 v U'.heap L ∧ FrameEnd U o U' L ({ frames := 0, cells := 0, slots := 0, locals := 0 } : Room).cells ({ frames := 0, cells := 0, slots := 0, locals := 0 } : Room).slots) := by
  refine MetFree.of_bodySF (plainFor_of_name pn_BasicService) hisR ?_
  intro p e s m args below meth c s₁ Bd hml0 hP hK
  obtain ⟨rfl, hZ, hh⟩ := hP
  have hx := Bd.exec
  have hby := Bd.bytes
  have hml : c.maxLocals = 3 := hml0
  have hown : s.vm.findClass "com/example/portcullis/portcullis/rules/BasicService" = some m.cls := findClass_of_methodNamed Bd.named
  have hnm := (name_of_methodNamed Bd.named Bd.method).1
  have hlk : meth.locks = false := BodyLoose.notSynchronized Bd
  have hrt := Bd.returns
  have X0 : Stand p l e ({ frames := 0, cells := 0, slots := 0, locals := 0 } : Room) s m #[(.ref o0), (.ref e1)] below meth c s₁ [] 0 0 := Stand.of_body Bd
  have e0 : s₁.heap = h0 := by rw [← hh, Bd.state]; rfl
  have N0 := Fr.nil n0
  refine Goes.enter (kc := ({ frames := 0, cells := 0, slots := 0, locals := 0 } : Room).cells) (kn := ({ frames := 0, cells := 0, slots := 0, locals := 0 } : Room).slots) (Q := own_eqI_Q Z o0 e1 h0 n0) (own_eqI_ef m o0 e1) ?_
  refine Goes.step (B := (s₁.setTop (mkF m 1 #[.val (.ref o0), .val (.ref e1), .unset] [(.ref e1)]))) (fun _ k => XS.aloadN X0.here hx rfl (hb hby d_prog_26_method_9_code_0) rfl rfl k) ?_
  obtain ⟨T101, X101, e101, st101⟩ := instNo X0 hx hZ hown (hw _ (List.mem_of_getElem? (i := 30) rfl)) e0 pr0 (own_NSno (hw _ (List.mem_of_getElem? (i := 85) rfl)) (hw _ (List.mem_of_getElem? (i := 1) rfl)) (NS.step (hw _ (List.mem_of_getElem? (i := 85) rfl)) (NS.step (hw _ (List.mem_of_getElem? (i := 86) rfl)) (own_NSroot (hw _ (List.mem_of_getElem? (i := 63) rfl)) (hw _ (List.mem_of_getElem? (i := 1) rfl)) (by decide)) (by decide)) (by decide)) (by decide)) (g := (mkF m 1 #[.val (.ref o0), .val (.ref e1), .unset] [(.ref e1)])) rfl rfl (hb hby d_prog_26_method_9_code_1)
  refine Goes.step (B := (T101.setTop (mkF m 4 #[.val (.ref o0), .val (.ref e1), .unset] [(.int (0 : Int32))]))) (fun _ k => st101 _ k) ?_
  have hc102 : (0 : Int32) = (0 : Int32) := by decide
  refine Goes.step (B := (T101.setTop (mkF m 38 #[.val (.ref o0), .val (.ref e1), .unset] []))) (fun _ k => XS.ifYes X101.here hx rfl (pc0 := 4) (pc' := 38) rfl (hb hby d_prog_26_method_9_code_4) rfl ((if0 _ _).trans (teq hc102).1) (by decide) (by decide) k) ?_
  refine Goes.step (B := (T101.setTop (mkF m 39 #[.val (.ref o0), .val (.ref e1), .unset] [(.int (0 : Int32))]))) (fun _ k => XS.iconst X101.here hx rfl (hb hby d_prog_26_method_9_code_38) k) ?_
  refine Goes.retN X101 hx hlk (t := .boolean) hrt (by simp) (hb hby d_prog_26_method_9_code_39) ?_ (by decide) (by decide)
  rw [e101]
  exact ⟨congrArg (fun z => some (Value.int z)) (show nar .boolean (0 : Int32) = (own_eqI_fn) from (show nar .boolean (0 : Int32) = (0 : Int32) from rfl).trans (by simp only [own_eqI_fn])), N0, rfl⟩
theorem d_jdk_52_method_21_code_0 : decode jdk_52_method_21_code 0 = .ok (.iconst 0, 1) := by decide +kernel
theorem d_jdk_52_method_21_code_1 : decode jdk_52_method_21_code 1 = .ok (.istore 5, 2) := by decide +kernel
theorem d_jdk_52_method_21_code_3 : decode jdk_52_method_21_code 3 = .ok (.iload 5, 2) := by decide +kernel
theorem d_jdk_52_method_21_code_5 : decode jdk_52_method_21_code 5 = .ok (.iload 4, 2) := by decide +kernel
theorem d_jdk_52_method_21_code_7 : decode jdk_52_method_21_code 7 = .ok (.if_icmp .ge 37, 3) := by decide +kernel
theorem d_jdk_52_method_21_code_10 : decode jdk_52_method_21_code 10 = .ok (.aload_n 0, 1) := by decide +kernel
theorem d_jdk_52_method_21_code_11 : decode jdk_52_method_21_code 11 = .ok (.iload_n 1, 1) := by decide +kernel
theorem d_jdk_52_method_21_code_12 : decode jdk_52_method_21_code 12 = .ok (.caload, 1) := by decide +kernel
theorem d_jdk_52_method_21_code_13 : decode jdk_52_method_21_code 13 = .ok (.istore 6, 2) := by decide +kernel
theorem d_jdk_52_method_21_code_15 : decode jdk_52_method_21_code 15 = .ok (.iload 6, 2) := by decide +kernel
theorem d_jdk_52_method_21_code_17 : decode jdk_52_method_21_code 17 = .ok (.sipush 255, 3) := by decide +kernel
theorem d_jdk_52_method_21_code_20 : decode jdk_52_method_21_code 20 = .ok (.if_icmp .le 6, 3) := by decide +kernel
theorem d_jdk_52_method_21_code_26 : decode jdk_52_method_21_code 26 = .ok (.aload_n 2, 1) := by decide +kernel
theorem d_jdk_52_method_21_code_27 : decode jdk_52_method_21_code 27 = .ok (.iload_n 3, 1) := by decide +kernel
theorem d_jdk_52_method_21_code_28 : decode jdk_52_method_21_code 28 = .ok (.iload 6, 2) := by decide +kernel
theorem d_jdk_52_method_21_code_30 : decode jdk_52_method_21_code 30 = .ok (.i2b, 1) := by decide +kernel
theorem d_jdk_52_method_21_code_31 : decode jdk_52_method_21_code 31 = .ok (.bastore, 1) := by decide +kernel
theorem d_jdk_52_method_21_code_32 : decode jdk_52_method_21_code 32 = .ok (.iinc 1 1, 3) := by decide +kernel
theorem d_jdk_52_method_21_code_35 : decode jdk_52_method_21_code 35 = .ok (.iinc 3 1, 3) := by decide +kernel
theorem d_jdk_52_method_21_code_38 : decode jdk_52_method_21_code 38 = .ok (.iinc 5 1, 3) := by decide +kernel
theorem d_jdk_52_method_21_code_41 : decode jdk_52_method_21_code 41 = .ok (.goto (-38), 3) := by decide +kernel
theorem d_jdk_52_method_21_code_44 : decode jdk_52_method_21_code 44 = .ok (.iload 4, 2) := by decide +kernel
theorem d_jdk_52_method_21_code_46 : decode jdk_52_method_21_code 46 = .ok (.ireturn, 1) := by decide +kernel
def own_c2_Q (Z : State) (c0 : Addr) (d0 : Addr) (k1 : ClassId) (v0 : Int32) (k2 : ClassId) (h0 : Heap) (n0 : Nat) (v : Option Value) (h : Heap) (L : List Loc) : Prop := (v = some (.int (1 : Int32))) ∧ (Fr n0 L) ∧ (Keep h0 h [d0]) ∧ (Arv Z h d0 k2 .byte (1 : Int32) [(.int (nar .byte v0.toInt8.toInt32))] (.int (0 : Int32)))
theorem own_c2_ef (m : MethodId) (c0 : Addr) (d0 : Addr) : entryFrame m #[(.ref c0), (.int (0 : Int32)), (.ref d0), (.int (0 : Int32)), (.int (1 : Int32))] 7 = mkF m 0 #[.val (.ref c0), .val (.int (0 : Int32)), .val (.ref d0), .val (.int (0 : Int32)), .val (.int (1 : Int32)), .unset, .unset] [] := by first | (simp [entryFrame, mkF, argsToLocals, Value.category]; done) | rfl
theorem pn_StringUTF16 : plainName "java/lang/StringUTF16" = true := by first | (simp [plainName, overriddenIn]; done) | decide +kernel
set_option maxRecDepth 65536 in
set_option maxHeartbeats 40000000 in
theorem own_c2_rm (l : Launch) (Z : State) (a0 : Array Value) (hw : ∀ d ∈ tables_1, d.before a0 Z = true) (ws : List Jvm.Cond) (c0 : Addr) (d0 : Addr) (k1 : ClassId) (v0 : Int32) (k2 : ClassId) (h0 : Heap) (n0 : Nat) (Z0 : n0 ≤ h0.size) (pr0 : Arv Z h0 c0 k1 .char (1 : Int32) [(.int v0)] (.int (0 : Int32))) (pr1 : Arv Z h0 d0 k2 .byte (1 : Int32) [(.int (0 : Int32))] (.int (0 : Int32))) (pr2 : n0 ≤ d0) (pr3 : c0 ≠ d0) (hv0 : ¬ (255 : Int32) < v0) :
    MetFree l (⟨"java/lang/StringUTF16", "compress", "([CI[BII)I"⟩ : MethodName) (head1 (Jvm.Cond.code (⟨"java/lang/StringUTF16", "compress", "([CI[BII)I"⟩ : MethodName) jdk_52_method_21_code 7 (some .int) :: ws) ({ frames := 0, cells := 0, slots := 0, locals := 0 } : Room)) (fun a U => a = #[(.ref c0), (.int (0 : Int32)), (.ref d0), (.int (0 : Int32)), (.int (1 : Int32))] ∧ Z.Warmed39 U.vm ∧ U.heap = h0) (fun _ _ _ _ _ => True) (fun _ U o U' => ∃ v L, o = .returned v ∧ own_c2_Q Z c0 d0 k1 v0 k2 h0 n0 v U'.heap L ∧ FrameEnd U o U' L ({ frames := 0, cells := 0, slots := 0, locals := 0 } : Room).cells ({ frames := 0, cells := 0, slots := 0, locals := 0 } : Room).slots) := by
  refine MetFree.of_bodySF (plainFor_of_name pn_StringUTF16) hisR ?_
  intro p e s m args below meth c s₁ Bd hml0 hP hK
  obtain ⟨rfl, hZ, hh⟩ := hP
  have hx := Bd.exec
  have hby := Bd.bytes
  have hml : c.maxLocals = 7 := hml0
  have hown : s.vm.findClass "java/lang/StringUTF16" = some m.cls := findClass_of_methodNamed Bd.named
  have hnm := (name_of_methodNamed Bd.named Bd.method).1
  have hlk : meth.locks = false := BodyLoose.notSynchronized Bd
  have hrt := Bd.returns
  have X0 : Stand p l e ({ frames := 0, cells := 0, slots := 0, locals := 0 } : Room) s m #[(.ref c0), (.int (0 : Int32)), (.ref d0), (.int (0 : Int32)), (.int (1 : Int32))] below meth c s₁ [] 0 0 := Stand.of_body Bd
  have e0 : s₁.heap = h0 := by rw [← hh, Bd.state]; rfl
  have N0 := Fr.nil n0
  refine Goes.enter (kc := ({ frames := 0, cells := 0, slots := 0, locals := 0 } : Room).cells) (kn := ({ frames := 0, cells := 0, slots := 0, locals := 0 } : Room).slots) (Q := own_c2_Q Z c0 d0 k1 v0 k2 h0 n0) (own_c2_ef m c0 d0) ?_
  refine Goes.step (B := (s₁.setTop (mkF m 1 #[.val (.ref c0), .val (.int (0 : Int32)), .val (.ref d0), .val (.int (0 : Int32)), .val (.int (1 : Int32)), .unset, .unset] [(.int (0 : Int32))]))) (fun _ k => XS.iconst X0.here hx rfl (hb hby d_jdk_52_method_21_code_0) k) ?_
  refine Goes.step (B := (s₁.setTop (mkF m 3 #[.val (.ref c0), .val (.int (0 : Int32)), .val (.ref d0), .val (.int (0 : Int32)), .val (.int (1 : Int32)), .val (.int (0 : Int32)), .unset] []))) (fun _ k => XS.istore X0.here hx rfl (hb hby d_jdk_52_method_21_code_1) rfl (l' := #[.val (.ref c0), .val (.int (0 : Int32)), .val (.ref d0), .val (.int (0 : Int32)), .val (.int (1 : Int32)), .val (.int (0 : Int32)), .unset]) rfl k) ?_
  refine Goes.step (B := (s₁.setTop (mkF m 5 #[.val (.ref c0), .val (.int (0 : Int32)), .val (.ref d0), .val (.int (0 : Int32)), .val (.int (1 : Int32)), .val (.int (0 : Int32)), .unset] [(.int (0 : Int32))]))) (fun _ k => XS.iload X0.here hx rfl (hb hby d_jdk_52_method_21_code_3) rfl k) ?_
  refine Goes.step (B := (s₁.setTop (mkF m 7 #[.val (.ref c0), .val (.int (0 : Int32)), .val (.ref d0), .val (.int (0 : Int32)), .val (.int (1 : Int32)), .val (.int (0 : Int32)), .unset] [(.int (1 : Int32)), (.int (0 : Int32))]))) (fun _ k => XS.iload X0.here hx rfl (hb hby d_jdk_52_method_21_code_5) rfl k) ?_
  have hc101 : (0 : Int32) < (1 : Int32) := by decide
  refine Goes.step (B := (s₁.setTop (mkF m 10 #[.val (.ref c0), .val (.int (0 : Int32)), .val (.ref d0), .val (.int (0 : Int32)), .val (.int (1 : Int32)), .val (.int (0 : Int32)), .unset] []))) (fun _ k => XS.icmpNo X0.here hx rfl (hb hby d_jdk_52_method_21_code_7) rfl (tlt hc101).2.1 k) ?_
  refine Goes.step (B := (s₁.setTop (mkF m 11 #[.val (.ref c0), .val (.int (0 : Int32)), .val (.ref d0), .val (.int (0 : Int32)), .val (.int (1 : Int32)), .val (.int (0 : Int32)), .unset] [(.ref c0)]))) (fun _ k => XS.aloadN X0.here hx rfl (hb hby d_jdk_52_method_21_code_10) rfl rfl k) ?_
  refine Goes.step (B := (s₁.setTop (mkF m 12 #[.val (.ref c0), .val (.int (0 : Int32)), .val (.ref d0), .val (.int (0 : Int32)), .val (.int (1 : Int32)), .val (.int (0 : Int32)), .unset] [(.int (0 : Int32)), (.ref c0)]))) (fun _ k => XS.iloadN X0.here hx rfl (hb hby d_jdk_52_method_21_code_11) rfl k) ?_
  obtain ⟨cl102, Ar102, q102, S102, M102, H102, G102⟩ := id pr0
  have hin102 : ¬ ((0 : Int32) < 0 ∨ cl102.slots.size ≤ ((0 : Int32)).toNatClampNeg) := inb_of S102 ⟨by decide, by decide⟩
  have hat102 : cl102.slots[((0 : Int32)).toNatClampNeg]? = some (.int v0) := H102 0 (by rw [S102]; decide)
  refine Goes.step (B := (s₁.setTop (mkF m 13 #[.val (.ref c0), .val (.int (0 : Int32)), .val (.ref d0), .val (.int (0 : Int32)), .val (.int (1 : Int32)), .val (.int (0 : Int32)), .unset] [(.int v0)]))) (fun _ k => X0.caload hx (j := (0 : Int32)) (v := (.int v0)) (by rw [e0]; exact Ar102.1) (State.isArrayOf_alike hZ.alike Ar102.2.1) Ar102.2.2 hin102 hat102 (g := (mkF m 12 #[.val (.ref c0), .val (.int (0 : Int32)), .val (.ref d0), .val (.int (0 : Int32)), .val (.int (1 : Int32)), .val (.int (0 : Int32)), .unset] [(.int (0 : Int32)), (.ref c0)])) rfl rfl (hb hby d_jdk_52_method_21_code_12) _ k) ?_
  refine Goes.step (B := (s₁.setTop (mkF m 15 #[.val (.ref c0), .val (.int (0 : Int32)), .val (.ref d0), .val (.int (0 : Int32)), .val (.int (1 : Int32)), .val (.int (0 : Int32)), .val (.int v0)] []))) (fun _ k => XS.istore X0.here hx rfl (hb hby d_jdk_52_method_21_code_13) rfl (l' := #[.val (.ref c0), .val (.int (0 : Int32)), .val (.ref d0), .val (.int (0 : Int32)), .val (.int (1 : Int32)), .val (.int (0 : Int32)), .val (.int v0)]) rfl k) ?_
  refine Goes.step (B := (s₁.setTop (mkF m 17 #[.val (.ref c0), .val (.int (0 : Int32)), .val (.ref d0), .val (.int (0 : Int32)), .val (.int (1 : Int32)), .val (.int (0 : Int32)), .val (.int v0)] [(.int v0)]))) (fun _ k => XS.iload X0.here hx rfl (hb hby d_jdk_52_method_21_code_15) rfl k) ?_
  refine Goes.step (B := (s₁.setTop (mkF m 20 #[.val (.ref c0), .val (.int (0 : Int32)), .val (.ref d0), .val (.int (0 : Int32)), .val (.int (1 : Int32)), .val (.int (0 : Int32)), .val (.int v0)] [(.int (255 : Int32)), (.int v0)]))) (fun _ k => XS.sipush X0.here hx rfl (hb hby d_jdk_52_method_21_code_17) k) ?_
  have hc103 : ¬ ((255 : Int32) < v0) := hv0
  refine Goes.step (B := (s₁.setTop (mkF m 26 #[.val (.ref c0), .val (.int (0 : Int32)), .val (.ref d0), .val (.int (0 : Int32)), .val (.int (1 : Int32)), .val (.int (0 : Int32)), .val (.int v0)] []))) (fun _ k => XS.icmpYes X0.here hx rfl (pc0 := 20) (pc' := 26) rfl (hb hby d_jdk_52_method_21_code_20) rfl (flt hc103).2.2.2 (by decide) (by decide) k) ?_
  refine Goes.step (B := (s₁.setTop (mkF m 27 #[.val (.ref c0), .val (.int (0 : Int32)), .val (.ref d0), .val (.int (0 : Int32)), .val (.int (1 : Int32)), .val (.int (0 : Int32)), .val (.int v0)] [(.ref d0)]))) (fun _ k => XS.aloadN X0.here hx rfl (hb hby d_jdk_52_method_21_code_26) rfl rfl k) ?_
  refine Goes.step (B := (s₁.setTop (mkF m 28 #[.val (.ref c0), .val (.int (0 : Int32)), .val (.ref d0), .val (.int (0 : Int32)), .val (.int (1 : Int32)), .val (.int (0 : Int32)), .val (.int v0)] [(.int (0 : Int32)), (.ref d0)]))) (fun _ k => XS.iloadN X0.here hx rfl (hb hby d_jdk_52_method_21_code_27) rfl k) ?_
  refine Goes.step (B := (s₁.setTop (mkF m 30 #[.val (.ref c0), .val (.int (0 : Int32)), .val (.ref d0), .val (.int (0 : Int32)), .val (.int (1 : Int32)), .val (.int (0 : Int32)), .val (.int v0)] [(.int v0), (.int (0 : Int32)), (.ref d0)]))) (fun _ k => XS.iload X0.here hx rfl (hb hby d_jdk_52_method_21_code_28) rfl k) ?_
  refine Goes.step (B := (s₁.setTop (mkF m 31 #[.val (.ref c0), .val (.int (0 : Int32)), .val (.ref d0), .val (.int (0 : Int32)), .val (.int (1 : Int32)), .val (.int (0 : Int32)), .val (.int v0)] [(.int v0.toInt8.toInt32), (.int (0 : Int32)), (.ref d0)]))) (fun _ k => XS.i2b X0.here hx rfl (hb hby d_jdk_52_method_21_code_30) rfl k) ?_
  obtain ⟨cl104, Ar104, q104, S104, M104, H104, G104⟩ := id pr1
  have hin104 : ¬ ((0 : Int32) < 0 ∨ cl104.slots.size ≤ ((0 : Int32)).toNatClampNeg) := inb_of S104 ⟨by decide, by decide⟩
  obtain ⟨T104, h104, X104, e104, W104, st104⟩ := stB X0 hx hZ e0 Ar104 (j := (0 : Int32)) hin104 (g := (mkF m 31 #[.val (.ref c0), .val (.int (0 : Int32)), .val (.ref d0), .val (.int (0 : Int32)), .val (.int (1 : Int32)), .val (.int (0 : Int32)), .val (.int v0)] [(.int v0.toInt8.toInt32), (.int (0 : Int32)), (.ref d0)])) rfl rfl (hb hby d_jdk_52_method_21_code_31)
  have f105 := pr0.other W104 pr3
  have N104 := Fr.snoc X104 N0 pr2
  have K104 : Keep h0 h104 [d0] := (Keep.refl h0 [d0]).wr W104 (Or.inl (List.mem_of_getElem? (i := 0) rfl))
  have Z104 : n0 ≤ h104.size := Nat.le_trans Z0 (Nat.le_of_eq W104.size.symm)
  have V104 : Arv Z h104 d0 k2 .byte (1 : Int32) [(.int (nar .byte v0.toInt8.toInt32))] (.int (0 : Int32)) := Arv.set Ar104 q104 S104 M104 H104 G104 (fits_nar_byte _) W104 0 rfl (Nat.le_of_ble_eq_true rfl)
  refine Goes.step (B := (T104.setTop (mkF m 32 #[.val (.ref c0), .val (.int (0 : Int32)), .val (.ref d0), .val (.int (0 : Int32)), .val (.int (1 : Int32)), .val (.int (0 : Int32)), .val (.int v0)] []))) (fun _ k => st104 _ k) ?_
  refine Goes.step (B := (T104.setTop (mkF m 35 #[.val (.ref c0), .val (.int (1 : Int32)), .val (.ref d0), .val (.int (0 : Int32)), .val (.int (1 : Int32)), .val (.int (0 : Int32)), .val (.int v0)] []))) (fun _ k => XS.iinc X104.here hx rfl (hb hby d_jdk_52_method_21_code_32) rfl (l' := #[.val (.ref c0), .val (.int (1 : Int32)), .val (.ref d0), .val (.int (0 : Int32)), .val (.int (1 : Int32)), .val (.int (0 : Int32)), .val (.int v0)]) rfl k) ?_
  refine Goes.step (B := (T104.setTop (mkF m 38 #[.val (.ref c0), .val (.int (1 : Int32)), .val (.ref d0), .val (.int (1 : Int32)), .val (.int (1 : Int32)), .val (.int (0 : Int32)), .val (.int v0)] []))) (fun _ k => XS.iinc X104.here hx rfl (hb hby d_jdk_52_method_21_code_35) rfl (l' := #[.val (.ref c0), .val (.int (1 : Int32)), .val (.ref d0), .val (.int (1 : Int32)), .val (.int (1 : Int32)), .val (.int (0 : Int32)), .val (.int v0)]) rfl k) ?_
  refine Goes.step (B := (T104.setTop (mkF m 41 #[.val (.ref c0), .val (.int (1 : Int32)), .val (.ref d0), .val (.int (1 : Int32)), .val (.int (1 : Int32)), .val (.int (1 : Int32)), .val (.int v0)] []))) (fun _ k => XS.iinc X104.here hx rfl (hb hby d_jdk_52_method_21_code_38) rfl (l' := #[.val (.ref c0), .val (.int (1 : Int32)), .val (.ref d0), .val (.int (1 : Int32)), .val (.int (1 : Int32)), .val (.int (1 : Int32)), .val (.int v0)]) rfl k) ?_
  refine Goes.step (B := (T104.setTop (mkF m 3 #[.val (.ref c0), .val (.int (1 : Int32)), .val (.ref d0), .val (.int (1 : Int32)), .val (.int (1 : Int32)), .val (.int (1 : Int32)), .val (.int v0)] []))) (fun _ k => XS.goto X104.here hx rfl (pc0 := 41) (pc' := 3) rfl (hb hby d_jdk_52_method_21_code_41) (by decide) (by decide) k) ?_
  refine Goes.step (B := (T104.setTop (mkF m 5 #[.val (.ref c0), .val (.int (1 : Int32)), .val (.ref d0), .val (.int (1 : Int32)), .val (.int (1 : Int32)), .val (.int (1 : Int32)), .val (.int v0)] [(.int (1 : Int32))]))) (fun _ k => XS.iload X104.here hx rfl (hb hby d_jdk_52_method_21_code_3) rfl k) ?_
  refine Goes.step (B := (T104.setTop (mkF m 7 #[.val (.ref c0), .val (.int (1 : Int32)), .val (.ref d0), .val (.int (1 : Int32)), .val (.int (1 : Int32)), .val (.int (1 : Int32)), .val (.int v0)] [(.int (1 : Int32)), (.int (1 : Int32))]))) (fun _ k => XS.iload X104.here hx rfl (hb hby d_jdk_52_method_21_code_5) rfl k) ?_
  have hc106 : ¬ ((1 : Int32) < (1 : Int32)) := by decide
  refine Goes.step (B := (T104.setTop (mkF m 44 #[.val (.ref c0), .val (.int (1 : Int32)), .val (.ref d0), .val (.int (1 : Int32)), .val (.int (1 : Int32)), .val (.int (1 : Int32)), .val (.int v0)] []))) (fun _ k => XS.icmpYes X104.here hx rfl (pc0 := 7) (pc' := 44) rfl (hb hby d_jdk_52_method_21_code_7) rfl (flt hc106).2.1 (by decide) (by decide) k) ?_
  refine Goes.step (B := (T104.setTop (mkF m 46 #[.val (.ref c0), .val (.int (1 : Int32)), .val (.ref d0), .val (.int (1 : Int32)), .val (.int (1 : Int32)), .val (.int (1 : Int32)), .val (.int v0)] [(.int (1 : Int32))]))) (fun _ k => XS.iload X104.here hx rfl (hb hby d_jdk_52_method_21_code_44) rfl k) ?_
  refine Goes.retI X104 hx hlk hrt (hb hby d_jdk_52_method_21_code_46) ?_ (by decide) (by decide)
  rw [e104]
  exact ⟨rfl, N104, K104, V104⟩
theorem d_jdk_52_method_16_code_0 : decode jdk_52_method_16_code 0 = .ok (.iload_n 2, 1) := by decide +kernel
theorem d_jdk_52_method_16_code_1 : decode jdk_52_method_16_code 1 = .ok (.newarray .byte, 2) := by decide +kernel
theorem d_jdk_52_method_16_code_3 : decode jdk_52_method_16_code 3 = .ok (.astore_n 3, 1) := by decide +kernel
theorem d_jdk_52_method_16_code_4 : decode jdk_52_method_16_code 4 = .ok (.aload_n 0, 1) := by decide +kernel
theorem d_jdk_52_method_16_code_5 : decode jdk_52_method_16_code 5 = .ok (.iload_n 1, 1) := by decide +kernel
theorem d_jdk_52_method_16_code_6 : decode jdk_52_method_16_code 6 = .ok (.aload_n 3, 1) := by decide +kernel
theorem d_jdk_52_method_16_code_7 : decode jdk_52_method_16_code 7 = .ok (.iconst 0, 1) := by decide +kernel
theorem d_jdk_52_method_16_code_8 : decode jdk_52_method_16_code 8 = .ok (.iload_n 2, 1) := by decide +kernel
theorem d_jdk_52_method_16_code_9 : decode jdk_52_method_16_code 9 = .ok (.invokestatic 115, 3) := by decide +kernel
theorem pd__ACIABII_I : parseMethodDescriptor "([CI[BII)I" = some ⟨[(.array .char), .int, (.array .byte), .int, .int], some .int⟩ := by decide +kernel
theorem d_jdk_52_method_16_code_12 : decode jdk_52_method_16_code 12 = .ok (.istore 4, 2) := by decide +kernel
theorem d_jdk_52_method_16_code_14 : decode jdk_52_method_16_code 14 = .ok (.iload 4, 2) := by decide +kernel
theorem d_jdk_52_method_16_code_16 : decode jdk_52_method_16_code 16 = .ok (.iload_n 2, 1) := by decide +kernel
theorem d_jdk_52_method_16_code_17 : decode jdk_52_method_16_code 17 = .ok (.if_icmp .eq 40, 3) := by decide +kernel
theorem d_jdk_52_method_16_code_57 : decode jdk_52_method_16_code 57 = .ok (.aload_n 3, 1) := by decide +kernel
theorem d_jdk_52_method_16_code_58 : decode jdk_52_method_16_code 58 = .ok (.areturn, 1) := by decide +kernel
def own_c1_Q (Z : State) (c0 : Addr) (k1 : ClassId) (v0 : Int32) (h0 : Heap) (n0 : Nat) (v : Option Value) (h : Heap) (L : List Loc) : Prop := ∃ (b : Addr), ∃ (k2 : ClassId), (v = some (.ref b)) ∧ (Fr n0 L) ∧ (Keep h0 h []) ∧ (n0 ≤ b) ∧ (h0.size ≤ b) ∧ (Arv Z h b k2 .byte (1 : Int32) [(.int (nar .byte v0.toInt8.toInt32))] (.int (0 : Int32)))
theorem own_c1_ef (m : MethodId) (c0 : Addr) : entryFrame m #[(.ref c0), (.int (0 : Int32)), (.int (1 : Int32))] 6 = mkF m 0 #[.val (.ref c0), .val (.int (0 : Int32)), .val (.int (1 : Int32)), .unset, .unset, .unset] [] := by first | (simp [entryFrame, mkF, argsToLocals, Value.category]; done) | rfl
set_option maxRecDepth 65536 in
set_option maxHeartbeats 40000000 in
theorem own_c1_rm (l : Launch) (Z : State) (a0 : Array Value) (hw : ∀ d ∈ tables_1, d.before a0 Z = true) (ws : List Jvm.Cond) (c0 : Addr) (k1 : ClassId) (v0 : Int32) (h0 : Heap) (n0 : Nat) (Z0 : n0 ≤ h0.size) (pr0 : Arv Z h0 c0 k1 .char (1 : Int32) [(.int v0)] (.int (0 : Int32))) (hv0 : ¬ (255 : Int32) < v0) :
    MetFree l (⟨"java/lang/StringUTF16", "compress", "([CII)[B"⟩ : MethodName) (head1 (Jvm.Cond.code (⟨"java/lang/StringUTF16", "compress", "([CII)[B"⟩ : MethodName) jdk_52_method_16_code 6 (some (.array .byte)) :: ws) ({ frames := 1, cells := 1, slots := 1, locals := 18 } : Room)) (fun a U => a = #[(.ref c0), (.int (0 : Int32)), (.int (1 : Int32))] ∧ Z.Warmed39 U.vm ∧ U.heap = h0) (fun _ _ _ _ _ => True) (fun _ U o U' => ∃ v L, o = .returned v ∧ own_c1_Q Z c0 k1 v0 h0 n0 v U'.heap L ∧ FrameEnd U o U' L ({ frames := 1, cells := 1, slots := 1, locals := 18 } : Room).cells ({ frames := 1, cells := 1, slots := 1, locals := 18 } : Room).slots) := by
  refine MetFree.of_bodySF (plainFor_of_name pn_StringUTF16) hisR ?_
  intro p e s m args below meth c s₁ Bd hml0 hP hK
  obtain ⟨rfl, hZ, hh⟩ := hP
  have hx := Bd.exec
  have hby := Bd.bytes
  have hml : c.maxLocals = 6 := hml0
  have hown : s.vm.findClass "java/lang/StringUTF16" = some m.cls := findClass_of_methodNamed Bd.named
  have hnm := (name_of_methodNamed Bd.named Bd.method).1
  have hlk : meth.locks = false := BodyLoose.notSynchronized Bd
  have hrt := Bd.returns
  have X0 : Stand p l e ({ frames := 1, cells := 1, slots := 1, locals := 18 } : Room) s m #[(.ref c0), (.int (0 : Int32)), (.int (1 : Int32))] below meth c s₁ [] 0 0 := Stand.of_body Bd
  have e0 : s₁.heap = h0 := by rw [← hh, Bd.state]; rfl
  have N0 := Fr.nil n0
  refine Goes.enter (kc := ({ frames := 1, cells := 1, slots := 1, locals := 18 } : Room).cells) (kn := ({ frames := 1, cells := 1, slots := 1, locals := 18 } : Room).slots) (Q := own_c1_Q Z c0 k1 v0 h0 n0) (own_c1_ef m c0) ?_
  refine Goes.step (B := (s₁.setTop (mkF m 1 #[.val (.ref c0), .val (.int (0 : Int32)), .val (.int (1 : Int32)), .unset, .unset, .unset] [(.int (1 : Int32))]))) (fun _ k => XS.iloadN X0.here hx rfl (hb hby d_jdk_52_method_16_code_0) rfl k) ?_
  obtain ⟨T101, h101, k101, X101, e101, E101, A101, st101⟩ := newP X0 hx hZ (hw _ (List.mem_of_getElem? (i := 51) rfl)) e0 (g := (mkF m 1 #[.val (.ref c0), .val (.int (0 : Int32)), .val (.int (1 : Int32)), .unset, .unset, .unset] [(.int (1 : Int32))])) rfl (hb hby d_jdk_52_method_16_code_1) rfl (by decide) (cap := 1) (by decide) (by decide) (by decide) (by decide)
  obtain ⟨b101, g101⟩ : ∃ z, z = h0.size := ⟨_, rfl⟩
  rw [← g101] at A101 st101
  have gn101 : n0 ≤ b101 := Nat.le_trans Z0 (Nat.le_of_eq g101.symm)
  have sz101 : h0.size ≤ b101 := Nat.le_trans (Keep.refl h0 []).1 (Nat.le_of_eq g101.symm)
  have ne102 : c0 ≠ b101 := Nat.ne_of_lt (Nat.lt_of_lt_of_le pr0.lt (Nat.le_of_eq g101.symm))
  have f103 := pr0.ext E101
  have V101 : Arv Z h101 b101 k101 .byte (1 : Int32) [(.int (0 : Int32))] (.int (0 : Int32)) := (Arv.new A101 (by decide)).pad (pad_rep [] (.int (0 : Int32)) 1)
  have Z101 : n0 ≤ h101.size := Nat.le_trans Z0 E101.1
  have K101 : Keep h0 h101 [] := (Keep.refl h0 []).ext E101
  refine Goes.step (B := (T101.setTop (mkF m 3 #[.val (.ref c0), .val (.int (0 : Int32)), .val (.int (1 : Int32)), .unset, .unset, .unset] [(.ref b101)]))) (fun _ k => st101 _ k) ?_
  refine Goes.step (B := (T101.setTop (mkF m 4 #[.val (.ref c0), .val (.int (0 : Int32)), .val (.int (1 : Int32)), .val (.ref b101), .unset, .unset] []))) (fun _ k => XS.astoreN X101.here hx rfl (hb hby d_jdk_52_method_16_code_3) rfl rfl (l' := #[.val (.ref c0), .val (.int (0 : Int32)), .val (.int (1 : Int32)), .val (.ref b101), .unset, .unset]) rfl k) ?_
  refine Goes.step (B := (T101.setTop (mkF m 5 #[.val (.ref c0), .val (.int (0 : Int32)), .val (.int (1 : Int32)), .val (.ref b101), .unset, .unset] [(.ref c0)]))) (fun _ k => XS.aloadN X101.here hx rfl (hb hby d_jdk_52_method_16_code_4) rfl rfl k) ?_
  refine Goes.step (B := (T101.setTop (mkF m 6 #[.val (.ref c0), .val (.int (0 : Int32)), .val (.int (1 : Int32)), .val (.ref b101), .unset, .unset] [(.int (0 : Int32)), (.ref c0)]))) (fun _ k => XS.iloadN X101.here hx rfl (hb hby d_jdk_52_method_16_code_5) rfl k) ?_
  refine Goes.step (B := (T101.setTop (mkF m 7 #[.val (.ref c0), .val (.int (0 : Int32)), .val (.int (1 : Int32)), .val (.ref b101), .unset, .unset] [(.ref b101), (.int (0 : Int32)), (.ref c0)]))) (fun _ k => XS.aloadN X101.here hx rfl (hb hby d_jdk_52_method_16_code_6) rfl rfl k) ?_
  refine Goes.step (B := (T101.setTop (mkF m 8 #[.val (.ref c0), .val (.int (0 : Int32)), .val (.int (1 : Int32)), .val (.ref b101), .unset, .unset] [(.int (0 : Int32)), (.ref b101), (.int (0 : Int32)), (.ref c0)]))) (fun _ k => XS.iconst X101.here hx rfl (hb hby d_jdk_52_method_16_code_7) k) ?_
  refine Goes.step (B := (T101.setTop (mkF m 9 #[.val (.ref c0), .val (.int (0 : Int32)), .val (.int (1 : Int32)), .val (.ref b101), .unset, .unset] [(.int (1 : Int32)), (.int (0 : Int32)), (.ref b101), (.int (0 : Int32)), (.ref c0)]))) (fun _ k => XS.iloadN X101.here hx rfl (hb hby d_jdk_52_method_16_code_8) rfl k) ?_
  obtain ⟨_, _, ⟨T104, L104, k104, n104⟩, -, X104, ⟨Lc104, hQ104, l104, y104, z104⟩, st104⟩ := Jvm.LawKit.callS X101 hx (y := (⟨"java/lang/StringUTF16", "compress", "([CI[BII)I"⟩ : MethodName)) hown (mvT hZ (hw _ (List.mem_of_getElem? (i := 52) rfl))) (mvT hZ (hw _ (List.mem_of_getElem? (i := 53) rfl))) (mvT hZ (hw _ (List.mem_of_getElem? (i := 49) rfl))) (mvT hZ (hw _ (List.mem_of_getElem? (i := 54) rfl))) (by decide) (backOf (W := 0) (own_c2_rm l Z a0 hw [] c0 b101 k1 v0 k101 h101 n0 Z101 f103 V101 gn101 ne102 hv0) hZ (hw _ (List.mem_of_getElem? (i := 54) rfl)) (hw _ (List.mem_of_getElem? (i := 49) rfl)) (by decide) (by decide)) (g := (mkF m 9 #[.val (.ref c0), .val (.int (0 : Int32)), .val (.int (1 : Int32)), .val (.ref b101), .unset, .unset] [(.int (1 : Int32)), (.int (0 : Int32)), (.ref b101), (.int (0 : Int32)), (.ref c0)])) rfl (by rw [hml]; rfl) (argsL := [(.ref c0), (.int (0 : Int32)), (.ref b101), (.int (0 : Int32)), (.int (1 : Int32))]) (rest := []) (lenOf pd__ACIABII_I rfl) rfl (by show 2 * 0 + _ ≤ _; exact Nat.le_of_eq rfl) (hb hby d_jdk_52_method_16_code_9) (fun _ _ => ⟨rfl, e101, (by decide : 1 + 0 ≤ _), (by decide : 1 + 0 ≤ _)⟩)
  dsimp only [Pt.U, Pt.locs, Pt.cells, Pt.slots] at X104 l104 y104 z104 st104 hQ104
  subst l104 y104 z104
  obtain ⟨rfl, N104q, K104q, p104_0⟩ := hQ104
  have N104 := Fr.app N0 N104q
  have f105 := f103.keep K104q (nm1 ne102)
  have K104 : Keep h0 T104.heap [] := Keep.trans K101 K104q (fun y q => by cases List.mem_singleton.mp q; exact (Or.inr sz101))
  have Z104 : n0 ≤ T104.heap.size := Nat.le_trans Z101 K104q.1
  refine Goes.step (B := (T104.setTop (mkF m 12 #[.val (.ref c0), .val (.int (0 : Int32)), .val (.int (1 : Int32)), .val (.ref b101), .unset, .unset] [(.int (1 : Int32))]))) (fun _ k => st104 _ k) ?_
  refine Goes.step (B := (T104.setTop (mkF m 14 #[.val (.ref c0), .val (.int (0 : Int32)), .val (.int (1 : Int32)), .val (.ref b101), .val (.int (1 : Int32)), .unset] []))) (fun _ k => XS.istore X104.here hx rfl (hb hby d_jdk_52_method_16_code_12) rfl (l' := #[.val (.ref c0), .val (.int (0 : Int32)), .val (.int (1 : Int32)), .val (.ref b101), .val (.int (1 : Int32)), .unset]) rfl k) ?_
  refine Goes.step (B := (T104.setTop (mkF m 16 #[.val (.ref c0), .val (.int (0 : Int32)), .val (.int (1 : Int32)), .val (.ref b101), .val (.int (1 : Int32)), .unset] [(.int (1 : Int32))]))) (fun _ k => XS.iload X104.here hx rfl (hb hby d_jdk_52_method_16_code_14) rfl k) ?_
  refine Goes.step (B := (T104.setTop (mkF m 17 #[.val (.ref c0), .val (.int (0 : Int32)), .val (.int (1 : Int32)), .val (.ref b101), .val (.int (1 : Int32)), .unset] [(.int (1 : Int32)), (.int (1 : Int32))]))) (fun _ k => XS.iloadN X104.here hx rfl (hb hby d_jdk_52_method_16_code_16) rfl k) ?_
  have hc106 : (1 : Int32) = (1 : Int32) := by decide
  refine Goes.step (B := (T104.setTop (mkF m 57 #[.val (.ref c0), .val (.int (0 : Int32)), .val (.int (1 : Int32)), .val (.ref b101), .val (.int (1 : Int32)), .unset] []))) (fun _ k => XS.icmpYes X104.here hx rfl (pc0 := 17) (pc' := 57) rfl (hb hby d_jdk_52_method_16_code_17) rfl (teq hc106).1 (by decide) (by decide) k) ?_
  refine Goes.step (B := (T104.setTop (mkF m 58 #[.val (.ref c0), .val (.int (0 : Int32)), .val (.int (1 : Int32)), .val (.ref b101), .val (.int (1 : Int32)), .unset] [(.ref b101)]))) (fun _ k => XS.aloadN X104.here hx rfl (hb hby d_jdk_52_method_16_code_57) rfl rfl k) ?_
  refine Goes.retR X104 hx hlk hrt rfl rfl rfl (hb hby d_jdk_52_method_16_code_58) ?_ (by decide) (by decide)
  exact ⟨b101, k101, rfl, N104, K104, gn101, sz101, p104_0⟩
theorem d_jdk_52_method_15_code_0 : decode jdk_52_method_15_code 0 = .ok (.iload_n 1, 1) := by decide +kernel
theorem d_jdk_52_method_15_code_1 : decode jdk_52_method_15_code 1 = .ok (.aload_n 0, 1) := by decide +kernel
theorem d_jdk_52_method_15_code_2 : decode jdk_52_method_15_code 2 = .ok (.arraylength, 1) := by decide +kernel
theorem d_jdk_52_method_15_code_3 : decode jdk_52_method_15_code 3 = .ok (.isub, 1) := by decide +kernel
theorem d_jdk_52_method_15_code_4 : decode jdk_52_method_15_code 4 = .ok (.bipush 31, 2) := by decide +kernel
theorem d_jdk_52_method_15_code_6 : decode jdk_52_method_15_code 6 = .ok (.iushr, 1) := by decide +kernel
theorem d_jdk_52_method_15_code_7 : decode jdk_52_method_15_code 7 = .ok (.i2b, 1) := by decide +kernel
theorem d_jdk_52_method_15_code_8 : decode jdk_52_method_15_code 8 = .ok (.ireturn, 1) := by decide +kernel
def own_cf_fn  : Int32 := (nar .byte (((0 : Int32).toUInt32 >>> ((31 : Int32) &&& 31).toUInt32).toInt32).toInt8.toInt32)
def own_cf_Q (Z : State) (d0 : Addr) (k2 : ClassId) (l2 : List Value) (h0 : Heap) (n0 : Nat) (v : Option Value) (h : Heap) (L : List Loc) : Prop := v = some (.int (own_cf_fn)) ∧ Fr n0 L ∧ h = h0
theorem own_cf_ef (m : MethodId) (d0 : Addr) : entryFrame m #[(.ref d0), (.int (1 : Int32))] 2 = mkF m 0 #[.val (.ref d0), .val (.int (1 : Int32))] [] := by first | (simp [entryFrame, mkF, argsToLocals, Value.category]; done) | rfl
set_option maxRecDepth 65536 in
set_option maxHeartbeats 40000000 in
theorem own_cf_rm (l : Launch) (Z : State) (a0 : Array Value) (hw : ∀ d ∈ tables_1, d.before a0 Z = true) (ws : List Jvm.Cond) (d0 : Addr) (k2 : ClassId) (l2 : List Value) (h0 : Heap) (n0 : Nat) (Z0 : n0 ≤ h0.size) (pr0 : Arv Z h0 d0 k2 .byte (1 : Int32) l2 (.int (0 : Int32))) :
    MetFree l (⟨"java/lang/StringUTF16", "coderFromArrayLen", "([BI)B"⟩ : MethodName) (head1 (Jvm.Cond.code (⟨"java/lang/StringUTF16", "coderFromArrayLen", "([BI)B"⟩ : MethodName) jdk_52_method_15_code 2 (some .byte) :: ws) ({ frames := 0, cells := 0, slots := 0, locals := 0 } : Room)) (fun a U => a = #[(.ref d0), (.int (1 : Int32))] ∧ Z.Warmed39 U.vm ∧ U.heap = h0) (fun _ _ _ _ _ => True) (fun _ U o U' => ∃ v L, o = .returned v ∧ own_cf_Q Z d0 k2 l2 h0 n0 v U'.heap L ∧ FrameEnd U o U' L ({ frames := 0, cells := 0, slots := 0, locals := 0 } : Room).cells ({ frames := 0, cells := 0, slots := 0, locals := 0 } : Room).slots) := by
  refine MetFree.of_bodySF (plainFor_of_name pn_StringUTF16) hisR ?_
  intro p e s m args below meth c s₁ Bd hml0 hP hK
  obtain ⟨rfl, hZ, hh⟩ := hP
  have hx := Bd.exec
  have hby := Bd.bytes
  have hml : c.maxLocals = 2 := hml0
  have hown : s.vm.findClass "java/lang/StringUTF16" = some m.cls := findClass_of_methodNamed Bd.named
  have hnm := (name_of_methodNamed Bd.named Bd.method).1
  have hlk : meth.locks = false := BodyLoose.notSynchronized Bd
  have hrt := Bd.returns
  have X0 : Stand p l e ({ frames := 0, cells := 0, slots := 0, locals := 0 } : Room) s m #[(.ref d0), (.int (1 : Int32))] below meth c s₁ [] 0 0 := Stand.of_body Bd
  have e0 : s₁.heap = h0 := by rw [← hh, Bd.state]; rfl
  have N0 := Fr.nil n0
  refine Goes.enter (kc := ({ frames := 0, cells := 0, slots := 0, locals := 0 } : Room).cells) (kn := ({ frames := 0, cells := 0, slots := 0, locals := 0 } : Room).slots) (Q := own_cf_Q Z d0 k2 l2 h0 n0) (own_cf_ef m d0) ?_
  refine Goes.step (B := (s₁.setTop (mkF m 1 #[.val (.ref d0), .val (.int (1 : Int32))] [(.int (1 : Int32))]))) (fun _ k => XS.iloadN X0.here hx rfl (hb hby d_jdk_52_method_15_code_0) rfl k) ?_
  refine Goes.step (B := (s₁.setTop (mkF m 2 #[.val (.ref d0), .val (.int (1 : Int32))] [(.ref d0), (.int (1 : Int32))]))) (fun _ k => XS.aloadN X0.here hx rfl (hb hby d_jdk_52_method_15_code_1) rfl rfl k) ?_
  obtain ⟨cl101, Ar101, q101, S101, M101, H101, G101⟩ := id pr0
  refine Goes.step (B := (s₁.setTop (mkF m 3 #[.val (.ref d0), .val (.int (1 : Int32))] [(.int (1 : Int32)), (.int (1 : Int32))]))) (fun _ k => X0.arraylength hx (by rw [e0]; exact Ar101.1) (State.isArrayOf_alike hZ.alike Ar101.2.1) (g := (mkF m 2 #[.val (.ref d0), .val (.int (1 : Int32))] [(.ref d0), (.int (1 : Int32))])) rfl rfl (hb hby d_jdk_52_method_15_code_2) _ (by rw [len_of S101 M101]; exact k)) ?_
  refine Goes.step (B := (s₁.setTop (mkF m 4 #[.val (.ref d0), .val (.int (1 : Int32))] [(.int (0 : Int32))]))) (fun _ k => XS.isub X0.here hx rfl (hb hby d_jdk_52_method_15_code_3) rfl k) ?_
  refine Goes.step (B := (s₁.setTop (mkF m 6 #[.val (.ref d0), .val (.int (1 : Int32))] [(.int (31 : Int32)), (.int (0 : Int32))]))) (fun _ k => XS.bipush X0.here hx rfl (hb hby d_jdk_52_method_15_code_4) k) ?_
  refine Goes.step (B := (s₁.setTop (mkF m 7 #[.val (.ref d0), .val (.int (1 : Int32))] [(.int ((0 : Int32).toUInt32 >>> ((31 : Int32) &&& 31).toUInt32).toInt32)]))) (fun _ k => XS.iushr X0.here hx rfl (hb hby d_jdk_52_method_15_code_6) rfl k) ?_
  refine Goes.step (B := (s₁.setTop (mkF m 8 #[.val (.ref d0), .val (.int (1 : Int32))] [(.int (((0 : Int32).toUInt32 >>> ((31 : Int32) &&& 31).toUInt32).toInt32).toInt8.toInt32)]))) (fun _ k => XS.i2b X0.here hx rfl (hb hby d_jdk_52_method_15_code_7) rfl k) ?_
  refine Goes.retN X0 hx hlk (t := .byte) hrt (by simp) (hb hby d_jdk_52_method_15_code_8) ?_ (by decide) (by decide)
  rw [e0]
  exact ⟨congrArg (fun z => some (Value.int z)) (show nar .byte (((0 : Int32).toUInt32 >>> ((31 : Int32) &&& 31).toUInt32).toInt32).toInt8.toInt32 = (own_cf_fn) from (show nar .byte (((0 : Int32).toUInt32 >>> ((31 : Int32) &&& 31).toUInt32).toInt32).toInt8.toInt32 = (nar .byte (((0 : Int32).toUInt32 >>> ((31 : Int32) &&& 31).toUInt32).toInt32).toInt8.toInt32) from rfl).trans (by simp only [own_cf_fn])), N0, rfl⟩
theorem d_jdk_42_method_149_code_0 : decode jdk_42_method_149_code 0 = .ok (.aload_n 0, 1) := by decide +kernel
theorem d_jdk_42_method_149_code_1 : decode jdk_42_method_149_code 1 = .ok (.invokespecial 1, 3) := by decide +kernel
theorem d_jdk_42_method_149_code_4 : decode jdk_42_method_149_code 4 = .ok (.iload_n 3, 1) := by decide +kernel
theorem d_jdk_42_method_149_code_5 : decode jdk_42_method_149_code 5 = .ok (.ifCond .ne 22, 3) := by decide +kernel
theorem d_jdk_42_method_149_code_27 : decode jdk_42_method_149_code 27 = .ok (.getstatic 38, 3) := by decide +kernel
theorem d_jdk_42_method_149_code_30 : decode jdk_42_method_149_code 30 = .ok (.ifCond .eq 28, 3) := by decide +kernel
theorem d_jdk_42_method_149_code_33 : decode jdk_42_method_149_code 33 = .ok (.aload_n 1, 1) := by decide +kernel
theorem d_jdk_42_method_149_code_34 : decode jdk_42_method_149_code 34 = .ok (.iload_n 2, 1) := by decide +kernel
theorem d_jdk_42_method_149_code_35 : decode jdk_42_method_149_code 35 = .ok (.iload_n 3, 1) := by decide +kernel
theorem d_jdk_42_method_149_code_36 : decode jdk_42_method_149_code 36 = .ok (.invokestatic 177, 3) := by decide +kernel
theorem pd__ACII_AB : parseMethodDescriptor "([CII)[B" = some ⟨[(.array .char), .int, .int], some (.array .byte)⟩ := by decide +kernel
theorem d_jdk_42_method_149_code_39 : decode jdk_42_method_149_code 39 = .ok (.astore 5, 2) := by decide +kernel
theorem d_jdk_42_method_149_code_41 : decode jdk_42_method_149_code 41 = .ok (.aload_n 0, 1) := by decide +kernel
theorem d_jdk_42_method_149_code_42 : decode jdk_42_method_149_code 42 = .ok (.aload 5, 2) := by decide +kernel
theorem d_jdk_42_method_149_code_44 : decode jdk_42_method_149_code 44 = .ok (.iload_n 3, 1) := by decide +kernel
theorem d_jdk_42_method_149_code_45 : decode jdk_42_method_149_code 45 = .ok (.invokestatic 47, 3) := by decide +kernel
theorem pd__ABI_B : parseMethodDescriptor "([BI)B" = some ⟨[(.array .byte), .int], some .byte⟩ := by decide +kernel
theorem d_jdk_42_method_149_code_48 : decode jdk_42_method_149_code 48 = .ok (.putfield 15, 3) := by decide +kernel
theorem d_jdk_42_method_149_code_51 : decode jdk_42_method_149_code 51 = .ok (.aload_n 0, 1) := by decide +kernel
theorem d_jdk_42_method_149_code_52 : decode jdk_42_method_149_code 52 = .ok (.aload 5, 2) := by decide +kernel
theorem d_jdk_42_method_149_code_54 : decode jdk_42_method_149_code 54 = .ok (.putfield 9, 3) := by decide +kernel
theorem d_jdk_42_method_149_code_57 : decode jdk_42_method_149_code 57 = .ok (.return_, 1) := by decide +kernel
def own_s4_Q (Z : State) (o0 : Addr) (c0 : Addr) (w0 : Int32) (k1 : ClassId) (v0 : Int32) (h0 : Heap) (n0 : Nat) (v : Option Value) (h : Heap) (L : List Loc) : Prop := (v = none) ∧ (Fr n0 L) ∧ (Keep h0 h [o0]) ∧ (Exa Z h o0 "java/lang/String")
theorem own_s4_ef (m : MethodId) (o0 : Addr) (c0 : Addr) : entryFrame m #[(.ref o0), (.ref c0), (.int (0 : Int32)), (.int (1 : Int32)), .null] 6 = mkF m 0 #[.val (.ref o0), .val (.ref c0), .val (.int (0 : Int32)), .val (.int (1 : Int32)), .val .null, .unset] [] := by first | (simp [entryFrame, mkF, argsToLocals, Value.category]; done) | rfl
theorem pn_String : plainName "java/lang/String" = true := by first | (simp [plainName, overriddenIn]; done) | decide +kernel
set_option maxRecDepth 65536 in
set_option maxHeartbeats 40000000 in
theorem own_s4_rm (l : Launch) (Z : State) (a0 : Array Value) (hw : ∀ d ∈ tables_1, d.before a0 Z = true) (ws : List Jvm.Cond) (o0 : Addr) (c0 : Addr) (w0 : Int32) (k1 : ClassId) (v0 : Int32) (h0 : Heap) (n0 : Nat) (Z0 : n0 ≤ h0.size) (pr0 : Exa Z h0 o0 "java/lang/String") (pr1 : Fld Z h0 o0 "java/lang/String" "value" "[B" .null) (pr2 : Fld Z h0 o0 "java/lang/String" "coder" "B" (.int (0 : Int32))) (pr3 : Sta Z h0 "java/lang/String" "COMPACT_STRINGS" "Z" (.int w0)) (pr4 : Arv Z h0 c0 k1 .char (1 : Int32) [(.int v0)] (.int (0 : Int32))) (pr5 : n0 ≤ o0) (pr6 : c0 ≠ o0) (hw0 : ¬ (w0 = (0 : Int32))) (hv0 : ¬ (255 : Int32) < v0) :
    MetFree l (⟨"java/lang/String", "<init>", "([CIILjava/lang/Void;)V"⟩ : MethodName) (head1 (Jvm.Cond.code (⟨"java/lang/String", "<init>", "([CIILjava/lang/Void;)V"⟩ : MethodName) jdk_42_method_149_code 6 none :: ws) ({ frames := 2, cells := 1, slots := 1, locals := 35 } : Room)) (fun a U => a = #[(.ref o0), (.ref c0), (.int (0 : Int32)), (.int (1 : Int32)), .null] ∧ Z.Warmed39 U.vm ∧ U.heap = h0) (fun _ _ _ _ _ => True) (fun _ U o U' => ∃ v L, o = .returned v ∧ own_s4_Q Z o0 c0 w0 k1 v0 h0 n0 v U'.heap L ∧ FrameEnd U o U' L ({ frames := 2, cells := 1, slots := 1, locals := 35 } : Room).cells ({ frames := 2, cells := 1, slots := 1, locals := 35 } : Room).slots) := by
  refine MetFree.of_bodySF (plainFor_of_name pn_String) hisR ?_
  intro p e s m args below meth c s₁ Bd hml0 hP hK
  obtain ⟨rfl, hZ, hh⟩ := hP
  have hx := Bd.exec
  have hby := Bd.bytes
  have hml : c.maxLocals = 6 := hml0
  have hown : s.vm.findClass "java/lang/String" = some m.cls := findClass_of_methodNamed Bd.named
  have hnm := (name_of_methodNamed Bd.named Bd.method).1
  have hlk : meth.locks = false := BodyLoose.notSynchronized Bd
  have hrt := Bd.returns
  have X0 : Stand p l e ({ frames := 2, cells := 1, slots := 1, locals := 35 } : Room) s m #[(.ref o0), (.ref c0), (.int (0 : Int32)), (.int (1 : Int32)), .null] below meth c s₁ [] 0 0 := Stand.of_body Bd
  have e0 : s₁.heap = h0 := by rw [← hh, Bd.state]; rfl
  have N0 := Fr.nil n0
  refine Goes.enter (kc := ({ frames := 2, cells := 1, slots := 1, locals := 35 } : Room).cells) (kn := ({ frames := 2, cells := 1, slots := 1, locals := 35 } : Room).slots) (Q := own_s4_Q Z o0 c0 w0 k1 v0 h0 n0) (own_s4_ef m o0 c0) ?_
  refine Goes.step (B := (s₁.setTop (mkF m 1 #[.val (.ref o0), .val (.ref c0), .val (.int (0 : Int32)), .val (.int (1 : Int32)), .val .null, .unset] [(.ref o0)]))) (fun _ k => XS.aloadN X0.here hx rfl (hb hby d_jdk_42_method_149_code_0) rfl rfl k) ?_
  obtain ⟨T101, X101, e101, st101⟩ := initO X0 hx hZ hown (hw _ (List.mem_of_getElem? (i := 45) rfl)) (hw _ (List.mem_of_getElem? (i := 19) rfl)) (hw _ (List.mem_of_getElem? (i := 20) rfl)) e0 (g := (mkF m 1 #[.val (.ref o0), .val (.ref c0), .val (.int (0 : Int32)), .val (.int (1 : Int32)), .val .null, .unset] [(.ref o0)])) rfl (by rw [hml]; rfl) rfl (hb hby d_jdk_42_method_149_code_1) (by decide) (W := 0) (by show 2 * 0 + _ ≤ _; exact Nat.le_of_eq rfl) (by decide)
  refine Goes.step (B := (T101.setTop (mkF m 4 #[.val (.ref o0), .val (.ref c0), .val (.int (0 : Int32)), .val (.int (1 : Int32)), .val .null, .unset] []))) (fun _ k => st101 _ k) ?_
  refine Goes.step (B := (T101.setTop (mkF m 5 #[.val (.ref o0), .val (.ref c0), .val (.int (0 : Int32)), .val (.int (1 : Int32)), .val .null, .unset] [(.int (1 : Int32))]))) (fun _ k => XS.iloadN X101.here hx rfl (hb hby d_jdk_42_method_149_code_4) rfl k) ?_
  have hc102 : ¬ ((1 : Int32) = (0 : Int32)) := by decide
  refine Goes.step (B := (T101.setTop (mkF m 27 #[.val (.ref o0), .val (.ref c0), .val (.int (0 : Int32)), .val (.int (1 : Int32)), .val .null, .unset] []))) (fun _ k => XS.ifYes X101.here hx rfl (pc0 := 5) (pc' := 27) rfl (hb hby d_jdk_42_method_149_code_5) rfl ((if0 _ _).trans (feq hc102).2) (by decide) (by decide) k) ?_
  obtain ⟨T103, X103, e103, st103⟩ := getS2 X101 hx hZ hown (host := "") (Or.inl (hw _ (List.mem_of_getElem? (i := 46) rfl))) Via.refl e101 pr3 (g := (mkF m 27 #[.val (.ref o0), .val (.ref c0), .val (.int (0 : Int32)), .val (.int (1 : Int32)), .val .null, .unset] [])) rfl (hb hby d_jdk_42_method_149_code_27)
  refine Goes.step (B := (T103.setTop (mkF m 30 #[.val (.ref o0), .val (.ref c0), .val (.int (0 : Int32)), .val (.int (1 : Int32)), .val .null, .unset] [(.int w0)]))) (fun _ k => st103 _ k) ?_
  have hc104 : ¬ (w0 = (0 : Int32)) := hw0
  refine Goes.step (B := (T103.setTop (mkF m 33 #[.val (.ref o0), .val (.ref c0), .val (.int (0 : Int32)), .val (.int (1 : Int32)), .val .null, .unset] []))) (fun _ k => XS.ifNo X103.here hx rfl (hb hby d_jdk_42_method_149_code_30) rfl ((if0 _ _).trans (feq hc104).1) k) ?_
  refine Goes.step (B := (T103.setTop (mkF m 34 #[.val (.ref o0), .val (.ref c0), .val (.int (0 : Int32)), .val (.int (1 : Int32)), .val .null, .unset] [(.ref c0)]))) (fun _ k => XS.aloadN X103.here hx rfl (hb hby d_jdk_42_method_149_code_33) rfl rfl k) ?_
  refine Goes.step (B := (T103.setTop (mkF m 35 #[.val (.ref o0), .val (.ref c0), .val (.int (0 : Int32)), .val (.int (1 : Int32)), .val .null, .unset] [(.int (0 : Int32)), (.ref c0)]))) (fun _ k => XS.iloadN X103.here hx rfl (hb hby d_jdk_42_method_149_code_34) rfl k) ?_
  refine Goes.step (B := (T103.setTop (mkF m 36 #[.val (.ref o0), .val (.ref c0), .val (.int (0 : Int32)), .val (.int (1 : Int32)), .val .null, .unset] [(.int (1 : Int32)), (.int (0 : Int32)), (.ref c0)]))) (fun _ k => XS.iloadN X103.here hx rfl (hb hby d_jdk_42_method_149_code_35) rfl k) ?_
  obtain ⟨_, _, ⟨T105, L105, k105, n105⟩, -, X105, ⟨Lc105, hQ105, l105, y105, z105⟩, st105⟩ := Jvm.LawKit.callS X103 hx (y := (⟨"java/lang/StringUTF16", "compress", "([CII)[B"⟩ : MethodName)) hown (mvT hZ (hw _ (List.mem_of_getElem? (i := 47) rfl))) (mvT hZ (hw _ (List.mem_of_getElem? (i := 48) rfl))) (mvT hZ (hw _ (List.mem_of_getElem? (i := 49) rfl))) (mvT hZ (hw _ (List.mem_of_getElem? (i := 50) rfl))) (by decide) (backOf (W := 0) (own_c1_rm l Z a0 hw [] c0 k1 v0 h0 n0 Z0 pr4 hv0) hZ (hw _ (List.mem_of_getElem? (i := 50) rfl)) (hw _ (List.mem_of_getElem? (i := 49) rfl)) (by decide) (by decide)) (g := (mkF m 36 #[.val (.ref o0), .val (.ref c0), .val (.int (0 : Int32)), .val (.int (1 : Int32)), .val .null, .unset] [(.int (1 : Int32)), (.int (0 : Int32)), (.ref c0)])) rfl (by rw [hml]; rfl) (argsL := [(.ref c0), (.int (0 : Int32)), (.int (1 : Int32))]) (rest := []) (lenOf pd__ACII_AB rfl) rfl (by show 2 * 0 + _ ≤ _; exact Nat.le_of_eq rfl) (hb hby d_jdk_42_method_149_code_36) (fun _ _ => ⟨rfl, e103, (by decide : 0 + 1 ≤ _), (by decide : 0 + 1 ≤ _)⟩)
  dsimp only [Pt.U, Pt.locs, Pt.cells, Pt.slots] at X105 l105 y105 z105 st105 hQ105
  subst l105 y105 z105
  obtain ⟨b_105, k2_105, rfl, N105q, K105q, gn105_b, sz105_b, p105_0⟩ := hQ105
  have N105 := Fr.app N0 N105q
  have ne106 : o0 ≠ b_105 := Nat.ne_of_lt (Nat.lt_of_lt_of_le pr0.lt sz105_b)
  have ne107 : c0 ≠ b_105 := Nat.ne_of_lt (Nat.lt_of_lt_of_le pr4.lt sz105_b)
  have f108 := pr0.keep K105q
  have f109 := pr1.keep K105q nm0
  have f110 := pr2.keep K105q nm0
  have f111 := pr3.keepN K105q (fun _ q => nomatch q)
  have f112 := pr4.keep K105q nm0
  have K105 : Keep h0 T105.heap [o0] := Keep.trans (Keep.refl h0 [o0]) K105q (fun _ q => nomatch q)
  have Z105 : n0 ≤ T105.heap.size := Nat.le_trans Z0 K105q.1
  have szz105_b : h0.size ≤ b_105 := Nat.le_trans (Keep.refl h0 [o0]).1 sz105_b
  refine Goes.step (B := (T105.setTop (mkF m 39 #[.val (.ref o0), .val (.ref c0), .val (.int (0 : Int32)), .val (.int (1 : Int32)), .val .null, .unset] [(.ref b_105)]))) (fun _ k => st105 _ k) ?_
  refine Goes.step (B := (T105.setTop (mkF m 41 #[.val (.ref o0), .val (.ref c0), .val (.int (0 : Int32)), .val (.int (1 : Int32)), .val .null, .val (.ref b_105)] []))) (fun _ k => XS.astore X105.here hx rfl (hb hby d_jdk_42_method_149_code_39) rfl rfl (l' := #[.val (.ref o0), .val (.ref c0), .val (.int (0 : Int32)), .val (.int (1 : Int32)), .val .null, .val (.ref b_105)]) rfl k) ?_
  refine Goes.step (B := (T105.setTop (mkF m 42 #[.val (.ref o0), .val (.ref c0), .val (.int (0 : Int32)), .val (.int (1 : Int32)), .val .null, .val (.ref b_105)] [(.ref o0)]))) (fun _ k => XS.aloadN X105.here hx rfl (hb hby d_jdk_42_method_149_code_41) rfl rfl k) ?_
  refine Goes.step (B := (T105.setTop (mkF m 44 #[.val (.ref o0), .val (.ref c0), .val (.int (0 : Int32)), .val (.int (1 : Int32)), .val .null, .val (.ref b_105)] [(.ref b_105), (.ref o0)]))) (fun _ k => XS.aload X105.here hx rfl (hb hby d_jdk_42_method_149_code_42) rfl rfl k) ?_
  refine Goes.step (B := (T105.setTop (mkF m 45 #[.val (.ref o0), .val (.ref c0), .val (.int (0 : Int32)), .val (.int (1 : Int32)), .val .null, .val (.ref b_105)] [(.int (1 : Int32)), (.ref b_105), (.ref o0)]))) (fun _ k => XS.iloadN X105.here hx rfl (hb hby d_jdk_42_method_149_code_44) rfl k) ?_
  obtain ⟨_, _, ⟨T113, L113, k113, n113⟩, -, X113, ⟨Lc113, hQ113, l113, y113, z113⟩, st113⟩ := Jvm.LawKit.callS X105 hx (y := (⟨"java/lang/StringUTF16", "coderFromArrayLen", "([BI)B"⟩ : MethodName)) hown (mvT hZ (hw _ (List.mem_of_getElem? (i := 55) rfl))) (mvT hZ (hw _ (List.mem_of_getElem? (i := 56) rfl))) (mvT hZ (hw _ (List.mem_of_getElem? (i := 49) rfl))) (mvT hZ (hw _ (List.mem_of_getElem? (i := 57) rfl))) (by decide) (backOf (W := 1) (own_cf_rm l Z a0 hw [] b_105 k2_105 ([(.int (nar .byte v0.toInt8.toInt32))]) T105.heap n0 Z105 p105_0) hZ (hw _ (List.mem_of_getElem? (i := 57) rfl)) (hw _ (List.mem_of_getElem? (i := 49) rfl)) (by decide) (by decide)) (g := (mkF m 45 #[.val (.ref o0), .val (.ref c0), .val (.int (0 : Int32)), .val (.int (1 : Int32)), .val .null, .val (.ref b_105)] [(.int (1 : Int32)), (.ref b_105), (.ref o0)])) rfl (by rw [hml]; rfl) (argsL := [(.ref b_105), (.int (1 : Int32))]) (rest := [(.ref o0)]) (lenOf pd__ABI_B rfl) rfl (by show 2 * 0 + _ ≤ _; exact Nat.le_of_eq rfl) (hb hby d_jdk_42_method_149_code_45) (fun _ _ => ⟨rfl, rfl, (by decide : 1 + 0 ≤ _), (by decide : 1 + 0 ≤ _)⟩)
  dsimp only [Pt.U, Pt.locs, Pt.cells, Pt.slots] at X113 l113 y113 z113 st113 hQ113
  subst l113 y113 z113
  obtain ⟨rfl, N113q, e113⟩ := hQ113
  have N113 := Fr.app N105 N113q
  refine Goes.step (B := (T113.setTop (mkF m 48 #[.val (.ref o0), .val (.ref c0), .val (.int (0 : Int32)), .val (.int (1 : Int32)), .val .null, .val (.ref b_105)] [(.int (own_cf_fn)), (.ref o0)]))) (fun _ k => st113 _ k) ?_
  obtain ⟨T114, h114, X114, e114, W114, st114⟩ := putFN X113 hx hZ hown (hw _ (List.mem_of_getElem? (i := 58) rfl)) Via.refl e113 f110 f108 (Or.inr ⟨(hw _ (List.mem_of_getElem? (i := 59) rfl)), rfl, hnm⟩) (hw _ (List.mem_of_getElem? (i := 36) rfl)) (ty := .byte) (v' := (.int (nar .byte (own_cf_fn)))) (by decide) rfl (fits_nar_byte _) (g := (mkF m 48 #[.val (.ref o0), .val (.ref c0), .val (.int (0 : Int32)), .val (.int (1 : Int32)), .val .null, .val (.ref b_105)] [(.int (own_cf_fn)), (.ref o0)])) rfl rfl (hb hby d_jdk_42_method_149_code_48)
  have f115 := f108.wr W114
  have f116 := f109.other W114 (Or.inr (slot_ne (Or.inr (hw _ (List.mem_of_getElem? (i := 61) rfl))) (Or.inr (hw _ (List.mem_of_getElem? (i := 59) rfl))) (by decide) (t := (.array .byte)) (t' := .byte) (by decide) (by decide)))
  have f117 := f111.wr W114
  have f118 := f112.other W114 pr6
  have f119 := p105_0.other W114 (Ne.symm ne106)
  have N114 := Fr.snoc X114 N113 pr5
  have K114 : Keep h0 h114 [o0] := K105.wr W114 (Or.inl (List.mem_of_getElem? (i := 0) rfl))
  have Z114 : n0 ≤ h114.size := Nat.le_trans Z105 (Nat.le_of_eq W114.size.symm)
  have f120 : Fld Z h114 o0 "java/lang/String" "coder" "B" (.int (nar .byte (own_cf_fn))) := f110.same W114
  refine Goes.step (B := (T114.setTop (mkF m 51 #[.val (.ref o0), .val (.ref c0), .val (.int (0 : Int32)), .val (.int (1 : Int32)), .val .null, .val (.ref b_105)] []))) (fun _ k => st114 _ k) ?_
  refine Goes.step (B := (T114.setTop (mkF m 52 #[.val (.ref o0), .val (.ref c0), .val (.int (0 : Int32)), .val (.int (1 : Int32)), .val .null, .val (.ref b_105)] [(.ref o0)]))) (fun _ k => XS.aloadN X114.here hx rfl (hb hby d_jdk_42_method_149_code_51) rfl rfl k) ?_
  refine Goes.step (B := (T114.setTop (mkF m 54 #[.val (.ref o0), .val (.ref c0), .val (.int (0 : Int32)), .val (.int (1 : Int32)), .val .null, .val (.ref b_105)] [(.ref b_105), (.ref o0)]))) (fun _ k => XS.aload X114.here hx rfl (hb hby d_jdk_42_method_149_code_52) rfl rfl k) ?_
  obtain ⟨T121, h121, X121, e121, W121, st121⟩ := putF X114 hx hZ hown (host := "") (Or.inl (hw _ (List.mem_of_getElem? (i := 60) rfl))) Via.refl e114 f116 f115 (Or.inr ⟨(hw _ (List.mem_of_getElem? (i := 61) rfl)), rfl, hnm⟩) (hw _ (List.mem_of_getElem? (i := 36) rfl)) (ty := (.array .byte)) (by decide) rfl rfl (g := (mkF m 54 #[.val (.ref o0), .val (.ref c0), .val (.int (0 : Int32)), .val (.int (1 : Int32)), .val .null, .val (.ref b_105)] [(.ref b_105), (.ref o0)])) rfl rfl (hb hby d_jdk_42_method_149_code_54)
  have f122 := f115.wr W121
  have f123 := f120.other W121 (Or.inr (slot_ne (Or.inr (hw _ (List.mem_of_getElem? (i := 59) rfl))) (Or.inr (hw _ (List.mem_of_getElem? (i := 61) rfl))) (by decide) (t := .byte) (t' := (.array .byte)) (by decide) (by decide)))
  have f124 := f117.wr W121
  have f125 := f118.other W121 pr6
  have f126 := f119.other W121 (Ne.symm ne106)
  have N121 := Fr.snoc X121 N114 pr5
  have K121 : Keep h0 h121 [o0] := K114.wr W121 (Or.inl (List.mem_of_getElem? (i := 0) rfl))
  have Z121 : n0 ≤ h121.size := Nat.le_trans Z114 (Nat.le_of_eq W121.size.symm)
  have f127 : Fld Z h121 o0 "java/lang/String" "value" "[B" (.ref b_105) := f116.same W121
  refine Goes.step (B := (T121.setTop (mkF m 57 #[.val (.ref o0), .val (.ref c0), .val (.int (0 : Int32)), .val (.int (1 : Int32)), .val .null, .val (.ref b_105)] []))) (fun _ k => st121 _ k) ?_
  refine Goes.retV X121 hx hlk hrt (hb hby d_jdk_42_method_149_code_57) ?_ (by decide) (by decide)
  rw [e121]
  exact ⟨rfl, N121, K121, f122⟩
theorem d_jdk_42_method_3_code_0 : decode jdk_42_method_3_code 0 = .ok (.aload_n 0, 1) := by decide +kernel
theorem d_jdk_42_method_3_code_1 : decode jdk_42_method_3_code 1 = .ok (.aload_n 1, 1) := by decide +kernel
theorem d_jdk_42_method_3_code_2 : decode jdk_42_method_3_code 2 = .ok (.iconst 0, 1) := by decide +kernel
theorem d_jdk_42_method_3_code_3 : decode jdk_42_method_3_code 3 = .ok (.aload_n 1, 1) := by decide +kernel
theorem d_jdk_42_method_3_code_4 : decode jdk_42_method_3_code 4 = .ok (.arraylength, 1) := by decide +kernel
theorem d_jdk_42_method_3_code_5 : decode jdk_42_method_3_code 5 = .ok (.aconst_null, 1) := by decide +kernel
theorem d_jdk_42_method_3_code_6 : decode jdk_42_method_3_code 6 = .ok (.invokespecial 27, 3) := by decide +kernel
theorem pd__ACIILjava_lang_Void__V : parseMethodDescriptor "([CIILjava/lang/Void;)V" = some ⟨[(.array .char), .int, .int, (.object "java/lang/Void")], none⟩ := by decide +kernel
theorem d_jdk_42_method_3_code_9 : decode jdk_42_method_3_code 9 = .ok (.return_, 1) := by decide +kernel
def own_s1_Q (Z : State) (o0 : Addr) (c0 : Addr) (w0 : Int32) (k1 : ClassId) (v0 : Int32) (h0 : Heap) (n0 : Nat) (v : Option Value) (h : Heap) (L : List Loc) : Prop := (v = none) ∧ (Fr n0 L) ∧ (Keep h0 h [o0]) ∧ (Exa Z h o0 "java/lang/String")
theorem own_s1_ef (m : MethodId) (o0 : Addr) (c0 : Addr) : entryFrame m #[(.ref o0), (.ref c0)] 2 = mkF m 0 #[.val (.ref o0), .val (.ref c0)] [] := by first | (simp [entryFrame, mkF, argsToLocals, Value.category]; done) | rfl
set_option maxRecDepth 65536 in
set_option maxHeartbeats 40000000 in
theorem own_s1_rm (l : Launch) (Z : State) (a0 : Array Value) (hw : ∀ d ∈ tables_1, d.before a0 Z = true) (ws : List Jvm.Cond) (o0 : Addr) (c0 : Addr) (w0 : Int32) (k1 : ClassId) (v0 : Int32) (h0 : Heap) (n0 : Nat) (Z0 : n0 ≤ h0.size) (pr0 : Exa Z h0 o0 "java/lang/String") (pr1 : Fld Z h0 o0 "java/lang/String" "value" "[B" .null) (pr2 : Fld Z h0 o0 "java/lang/String" "coder" "B" (.int (0 : Int32))) (pr3 : Sta Z h0 "java/lang/String" "COMPACT_STRINGS" "Z" (.int w0)) (pr4 : Arv Z h0 c0 k1 .char (1 : Int32) [(.int v0)] (.int (0 : Int32))) (pr5 : n0 ≤ o0) (pr6 : c0 ≠ o0) (hw0 : ¬ (w0 = (0 : Int32))) (hv0 : ¬ (255 : Int32) < v0) :
    MetFree l (⟨"java/lang/String", "<init>", "([C)V"⟩ : MethodName) (head1 (Jvm.Cond.code (⟨"java/lang/String", "<init>", "([C)V"⟩ : MethodName) jdk_42_method_3_code 2 none :: ws) ({ frames := 3, cells := 1, slots := 1, locals := 52 } : Room)) (fun a U => a = #[(.ref o0), (.ref c0)] ∧ Z.Warmed39 U.vm ∧ U.heap = h0) (fun _ _ _ _ _ => True) (fun _ U o U' => ∃ v L, o = .returned v ∧ own_s1_Q Z o0 c0 w0 k1 v0 h0 n0 v U'.heap L ∧ FrameEnd U o U' L ({ frames := 3, cells := 1, slots := 1, locals := 52 } : Room).cells ({ frames := 3, cells := 1, slots := 1, locals := 52 } : Room).slots) := by
  refine MetFree.of_bodySF (plainFor_of_name pn_String) hisR ?_
  intro p e s m args below meth c s₁ Bd hml0 hP hK
  obtain ⟨rfl, hZ, hh⟩ := hP
  have hx := Bd.exec
  have hby := Bd.bytes
  have hml : c.maxLocals = 2 := hml0
  have hown : s.vm.findClass "java/lang/String" = some m.cls := findClass_of_methodNamed Bd.named
  have hnm := (name_of_methodNamed Bd.named Bd.method).1
  have hlk : meth.locks = false := BodyLoose.notSynchronized Bd
  have hrt := Bd.returns
  have X0 : Stand p l e ({ frames := 3, cells := 1, slots := 1, locals := 52 } : Room) s m #[(.ref o0), (.ref c0)] below meth c s₁ [] 0 0 := Stand.of_body Bd
  have e0 : s₁.heap = h0 := by rw [← hh, Bd.state]; rfl
  have N0 := Fr.nil n0
  refine Goes.enter (kc := ({ frames := 3, cells := 1, slots := 1, locals := 52 } : Room).cells) (kn := ({ frames := 3, cells := 1, slots := 1, locals := 52 } : Room).slots) (Q := own_s1_Q Z o0 c0 w0 k1 v0 h0 n0) (own_s1_ef m o0 c0) ?_
  refine Goes.step (B := (s₁.setTop (mkF m 1 #[.val (.ref o0), .val (.ref c0)] [(.ref o0)]))) (fun _ k => XS.aloadN X0.here hx rfl (hb hby d_jdk_42_method_3_code_0) rfl rfl k) ?_
  refine Goes.step (B := (s₁.setTop (mkF m 2 #[.val (.ref o0), .val (.ref c0)] [(.ref c0), (.ref o0)]))) (fun _ k => XS.aloadN X0.here hx rfl (hb hby d_jdk_42_method_3_code_1) rfl rfl k) ?_
  refine Goes.step (B := (s₁.setTop (mkF m 3 #[.val (.ref o0), .val (.ref c0)] [(.int (0 : Int32)), (.ref c0), (.ref o0)]))) (fun _ k => XS.iconst X0.here hx rfl (hb hby d_jdk_42_method_3_code_2) k) ?_
  refine Goes.step (B := (s₁.setTop (mkF m 4 #[.val (.ref o0), .val (.ref c0)] [(.ref c0), (.int (0 : Int32)), (.ref c0), (.ref o0)]))) (fun _ k => XS.aloadN X0.here hx rfl (hb hby d_jdk_42_method_3_code_3) rfl rfl k) ?_
  obtain ⟨cl101, Ar101, q101, S101, M101, H101, G101⟩ := id pr4
  refine Goes.step (B := (s₁.setTop (mkF m 5 #[.val (.ref o0), .val (.ref c0)] [(.int (1 : Int32)), (.int (0 : Int32)), (.ref c0), (.ref o0)]))) (fun _ k => X0.arraylength hx (by rw [e0]; exact Ar101.1) (State.isArrayOf_alike hZ.alike Ar101.2.1) (g := (mkF m 4 #[.val (.ref o0), .val (.ref c0)] [(.ref c0), (.int (0 : Int32)), (.ref c0), (.ref o0)])) rfl rfl (hb hby d_jdk_42_method_3_code_4) _ (by rw [len_of S101 M101]; exact k)) ?_
  refine Goes.step (B := (s₁.setTop (mkF m 6 #[.val (.ref o0), .val (.ref c0)] [.null, (.int (1 : Int32)), (.int (0 : Int32)), (.ref c0), (.ref o0)]))) (fun _ k => XS.aconstNull X0.here hx rfl (hb hby d_jdk_42_method_3_code_5) k) ?_
  obtain ⟨_, _, ⟨T102, L102, k102, n102⟩, -, X102, ⟨Lc102, hQ102, l102, y102, z102⟩, st102⟩ := X0.specialBack hx (y := (⟨"java/lang/String", "<init>", "([CIILjava/lang/Void;)V"⟩ : MethodName)) rfl hown (mvT hZ (hw _ (List.mem_of_getElem? (i := 41) rfl))) (mvT hZ (hw _ (List.mem_of_getElem? (i := 42) rfl))) (mvT hZ (hw _ (List.mem_of_getElem? (i := 44) rfl))) (by decide) (backOf (W := 0) (own_s4_rm l Z a0 hw [] o0 c0 w0 k1 v0 h0 n0 Z0 pr0 pr1 pr2 pr3 pr4 pr5 pr6 hw0 hv0) hZ (hw _ (List.mem_of_getElem? (i := 44) rfl)) (hw _ (List.mem_of_getElem? (i := 37) rfl)) (by decide) (by decide)) (g := (mkF m 6 #[.val (.ref o0), .val (.ref c0)] [.null, (.int (1 : Int32)), (.int (0 : Int32)), (.ref c0), (.ref o0)])) rfl (by rw [hml]; rfl) (Steps.refl _) (a := o0) (argsL := [(.ref c0), (.int (0 : Int32)), (.int (1 : Int32)), .null]) (rest := []) (lenOf pd__ACIILjava_lang_Void__V rfl) rfl (by show 2 * 0 + _ ≤ _; exact Nat.le_of_eq rfl) (hb hby d_jdk_42_method_3_code_6) (fun _ _ => ⟨rfl, e0, (by decide : 0 + 1 ≤ _), (by decide : 0 + 1 ≤ _)⟩)
  dsimp only [Pt.U, Pt.locs, Pt.cells, Pt.slots] at X102 l102 y102 z102 st102 hQ102
  subst l102 y102 z102
  obtain ⟨rfl, N102q, K102q, p102_0⟩ := hQ102
  have N102 := Fr.app N0 N102q
  have f103 := pr0.keep K102q
  have f104 := pr3.keepN K102q (fun y q => by cases List.mem_singleton.mp q; exact pr0.plainN)
  have f105 := pr4.keep K102q (nm1 pr6)
  have K102 : Keep h0 T102.heap [o0] := Keep.trans (Keep.refl h0 [o0]) K102q (fun y q => by cases List.mem_singleton.mp q; exact (Or.inl (List.mem_of_getElem? (i := 0) rfl)))
  have Z102 : n0 ≤ T102.heap.size := Nat.le_trans Z0 K102q.1
  refine Goes.to (B := (T102.setTop (mkF m 9 #[.val (.ref o0), .val (.ref c0)] []))) st102 ?_
  refine Goes.retV X102 hx hlk hrt (hb hby d_jdk_42_method_3_code_9) ?_ (by decide) (by decide)
  exact ⟨rfl, N102, K102, p102_0⟩
theorem d_jdk_33_method_23_code_0 : decode jdk_33_method_23_code 0 = .ok (.aload_n 0, 1) := by decide +kernel
theorem d_jdk_33_method_23_code_1 : decode jdk_33_method_23_code 1 = .ok (.invokespecial 202, 3) := by decide +kernel
theorem d_jdk_33_method_23_code_4 : decode jdk_33_method_23_code 4 = .ok (.aload_n 0, 1) := by decide +kernel
theorem d_jdk_33_method_23_code_5 : decode jdk_33_method_23_code 5 = .ok (.iload_n 1, 1) := by decide +kernel
theorem d_jdk_33_method_23_code_6 : decode jdk_33_method_23_code 6 = .ok (.putfield 205, 3) := by decide +kernel
theorem d_jdk_33_method_23_code_9 : decode jdk_33_method_23_code 9 = .ok (.return_, 1) := by decide +kernel
def own_ii_Q (Z : State) (o0 : Addr) (u0 : Int32)  (h0 : Heap) (n0 : Nat) (v : Option Value) (h : Heap) (L : List Loc) : Prop := (v = none) ∧ (Fr n0 L) ∧ (Keep h0 h [o0]) ∧ (Exa Z h o0 "java/lang/Integer")
theorem own_ii_ef (m : MethodId) (o0 : Addr) (u0 : Int32) : entryFrame m #[(.ref o0), (.int u0)] 2 = mkF m 0 #[.val (.ref o0), .val (.int u0)] [] := by first | (simp [entryFrame, mkF, argsToLocals, Value.category]; done) | rfl
theorem pn_Integer : plainName "java/lang/Integer" = true := by first | (simp [plainName, overriddenIn]; done) | decide +kernel
set_option maxRecDepth 65536 in
set_option maxHeartbeats 40000000 in
theorem own_ii_rm (l : Launch) (Z : State) (a0 : Array Value) (hw : ∀ d ∈ tables_1, d.before a0 Z = true) (ws : List Jvm.Cond) (o0 : Addr) (u0 : Int32)  (h0 : Heap) (n0 : Nat) (Z0 : n0 ≤ h0.size) (pr0 : Exa Z h0 o0 "java/lang/Integer") (pr1 : Fld Z h0 o0 "java/lang/Integer" "value" "I" (.int (0 : Int32))) (pr2 : n0 ≤ o0) :
    MetFree l (⟨"java/lang/Integer", "<init>", "(I)V"⟩ : MethodName) (head1 (Jvm.Cond.code (⟨"java/lang/Integer", "<init>", "(I)V"⟩ : MethodName) jdk_33_method_23_code 2 none :: ws) ({ frames := 2, cells := 0, slots := 0, locals := 24 } : Room)) (fun a U => a = #[(.ref o0), (.int u0)] ∧ Z.Warmed39 U.vm ∧ U.heap = h0) (fun _ _ _ _ _ => True) (fun _ U o U' => ∃ v L, o = .returned v ∧ own_ii_Q Z o0 u0 h0 n0 v U'.heap L ∧ FrameEnd U o U' L ({ frames := 2, cells := 0, slots := 0, locals := 24 } : Room).cells ({ frames := 2, cells := 0, slots := 0, locals := 24 } : Room).slots) := by
  refine MetFree.of_bodySF (plainFor_of_name pn_Integer) hisR ?_
  intro p e s m args below meth c s₁ Bd hml0 hP hK
  obtain ⟨rfl, hZ, hh⟩ := hP
  have hx := Bd.exec
  have hby := Bd.bytes
  have hml : c.maxLocals = 2 := hml0
  have hown : s.vm.findClass "java/lang/Integer" = some m.cls := findClass_of_methodNamed Bd.named
  have hnm := (name_of_methodNamed Bd.named Bd.method).1
  have hlk : meth.locks = false := BodyLoose.notSynchronized Bd
  have hrt := Bd.returns
  have X0 : Stand p l e ({ frames := 2, cells := 0, slots := 0, locals := 24 } : Room) s m #[(.ref o0), (.int u0)] below meth c s₁ [] 0 0 := Stand.of_body Bd
  have e0 : s₁.heap = h0 := by rw [← hh, Bd.state]; rfl
  have N0 := Fr.nil n0
  refine Goes.enter (kc := ({ frames := 2, cells := 0, slots := 0, locals := 24 } : Room).cells) (kn := ({ frames := 2, cells := 0, slots := 0, locals := 24 } : Room).slots) (Q := own_ii_Q Z o0 u0 h0 n0) (own_ii_ef m o0 u0) ?_
  refine Goes.step (B := (s₁.setTop (mkF m 1 #[.val (.ref o0), .val (.int u0)] [(.ref o0)]))) (fun _ k => XS.aloadN X0.here hx rfl (hb hby d_jdk_33_method_23_code_0) rfl rfl k) ?_
  obtain ⟨_, _, ⟨T101, L101, k101, n101⟩, -, X101, ⟨Lc101, hQ101, l101, y101, z101⟩, st101⟩ := X0.specialBack hx (y := (⟨"java/lang/Number", "<init>", "()V"⟩ : MethodName)) rfl hown (mvT hZ (hw _ (List.mem_of_getElem? (i := 76) rfl))) (mvT hZ (hw _ (List.mem_of_getElem? (i := 77) rfl))) (mvT hZ (hw _ (List.mem_of_getElem? (i := 81) rfl))) (by decide) (backOf (W := 0) (own_num_rm l Z a0 hw [] o0  h0 n0 Z0 ) hZ (hw _ (List.mem_of_getElem? (i := 81) rfl)) (hw _ (List.mem_of_getElem? (i := 80) rfl)) (by decide) (by decide)) (g := (mkF m 1 #[.val (.ref o0), .val (.int u0)] [(.ref o0)])) rfl (by rw [hml]; rfl) (Steps.refl _) (a := o0) (argsL := []) (rest := []) (lenOf pd___V rfl) rfl (by show 2 * 0 + _ ≤ _; exact Nat.le_of_eq rfl) (hb hby d_jdk_33_method_23_code_1) (fun _ _ => ⟨rfl, e0, (by decide : 0 + 0 ≤ _), (by decide : 0 + 0 ≤ _)⟩)
  dsimp only [Pt.U, Pt.locs, Pt.cells, Pt.slots] at X101 l101 y101 z101 st101 hQ101
  subst l101 y101 z101
  obtain ⟨rfl, N101q, e101⟩ := hQ101
  have N101 := Fr.app N0 N101q
  refine Goes.to (B := (T101.setTop (mkF m 4 #[.val (.ref o0), .val (.int u0)] []))) st101 ?_
  refine Goes.step (B := (T101.setTop (mkF m 5 #[.val (.ref o0), .val (.int u0)] [(.ref o0)]))) (fun _ k => XS.aloadN X101.here hx rfl (hb hby d_jdk_33_method_23_code_4) rfl rfl k) ?_
  refine Goes.step (B := (T101.setTop (mkF m 6 #[.val (.ref o0), .val (.int u0)] [(.int u0), (.ref o0)]))) (fun _ k => XS.iloadN X101.here hx rfl (hb hby d_jdk_33_method_23_code_5) rfl k) ?_
  obtain ⟨T102, h102, X102, e102, W102, st102⟩ := putF X101 hx hZ hown (host := "") (Or.inl (hw _ (List.mem_of_getElem? (i := 83) rfl))) Via.refl e101 pr1 pr0 (Or.inr ⟨(hw _ (List.mem_of_getElem? (i := 84) rfl)), rfl, hnm⟩) (hw _ (List.mem_of_getElem? (i := 71) rfl)) (ty := .int) (by decide) rfl rfl (g := (mkF m 6 #[.val (.ref o0), .val (.int u0)] [(.int u0), (.ref o0)])) rfl rfl (hb hby d_jdk_33_method_23_code_6)
  have f103 := pr0.wr W102
  have N102 := Fr.snoc X102 N101 pr2
  have K102 : Keep h0 h102 [o0] := (Keep.refl h0 [o0]).wr W102 (Or.inl (List.mem_of_getElem? (i := 0) rfl))
  have Z102 : n0 ≤ h102.size := Nat.le_trans Z0 (Nat.le_of_eq W102.size.symm)
  have f104 : Fld Z h102 o0 "java/lang/Integer" "value" "I" (.int u0) := pr1.same W102
  refine Goes.step (B := (T102.setTop (mkF m 9 #[.val (.ref o0), .val (.int u0)] []))) (fun _ k => st102 _ k) ?_
  refine Goes.retV X102 hx hlk hrt (hb hby d_jdk_33_method_23_code_9) ?_ (by decide) (by decide)
  rw [e102]
  exact ⟨rfl, N102, K102, f103⟩
theorem d_jdk_33_method_22_code_0 : decode jdk_33_method_22_code 0 = .ok (.iload_n 0, 1) := by decide +kernel
theorem d_jdk_33_method_22_code_1 : decode jdk_33_method_22_code 1 = .ok (.bipush (-128), 2) := by decide +kernel
theorem d_jdk_33_method_22_code_3 : decode jdk_33_method_22_code 3 = .ok (.if_icmp .lt 20, 3) := by decide +kernel
theorem d_jdk_33_method_22_code_6 : decode jdk_33_method_22_code 6 = .ok (.iload_n 0, 1) := by decide +kernel
theorem d_jdk_33_method_22_code_7 : decode jdk_33_method_22_code 7 = .ok (.getstatic 191, 3) := by decide +kernel
theorem d_jdk_33_method_22_code_10 : decode jdk_33_method_22_code 10 = .ok (.if_icmp .gt 13, 3) := by decide +kernel
theorem d_jdk_33_method_22_code_23 : decode jdk_33_method_22_code 23 = .ok (.new 1, 3) := by decide +kernel
theorem d_jdk_33_method_22_code_26 : decode jdk_33_method_22_code 26 = .ok (.dup, 1) := by decide +kernel
theorem d_jdk_33_method_22_code_27 : decode jdk_33_method_22_code 27 = .ok (.iload_n 0, 1) := by decide +kernel
theorem d_jdk_33_method_22_code_28 : decode jdk_33_method_22_code 28 = .ok (.invokespecial 199, 3) := by decide +kernel
theorem pd__I_V : parseMethodDescriptor "(I)V" = some ⟨[.int], none⟩ := by decide +kernel
theorem d_jdk_33_method_22_code_31 : decode jdk_33_method_22_code 31 = .ok (.areturn, 1) := by decide +kernel
theorem d_jdk_33_method_22_code_13 : decode jdk_33_method_22_code 13 = .ok (.getstatic 195, 3) := by decide +kernel
theorem d_jdk_33_method_22_code_16 : decode jdk_33_method_22_code 16 = .ok (.iload_n 0, 1) := by decide +kernel
theorem d_jdk_33_method_22_code_17 : decode jdk_33_method_22_code 17 = .ok (.sipush 128, 3) := by decide +kernel
theorem d_jdk_33_method_22_code_20 : decode jdk_33_method_22_code 20 = .ok (.iadd, 1) := by decide +kernel
theorem d_jdk_33_method_22_code_21 : decode jdk_33_method_22_code 21 = .ok (.aaload, 1) := by decide +kernel
theorem d_jdk_33_method_22_code_22 : decode jdk_33_method_22_code 22 = .ok (.areturn, 1) := by decide +kernel
def own_vo_Q (Z : State) (u0 : Int32) (cA : Addr) (h0 : Heap) (n0 : Nat) (v : Option Value) (h : Heap) (L : List Loc) : Prop := ∃ (b : Nat), (v = some (.ref b)) ∧ (Fr n0 L) ∧ (Keep h0 h []) ∧ (Exa Z h b "java/lang/Integer")
theorem own_vo_ef (m : MethodId) (u0 : Int32) : entryFrame m #[(.int u0)] 1 = mkF m 0 #[.val (.int u0)] [] := by first | (simp [entryFrame, mkF, argsToLocals, Value.category]; done) | rfl
set_option maxRecDepth 65536 in
set_option maxHeartbeats 40000000 in
theorem own_vo_rm (l : Launch) (Z : State) (a0 : Array Value) (hw : ∀ d ∈ tables_1, d.before a0 Z = true) (ws : List Jvm.Cond) (u0 : Int32) (cA : Addr) (h0 : Heap) (n0 : Nat) (Z0 : n0 ≤ h0.size) (pr0 : Sta Z h0 "java/lang/Integer$IntegerCache" "high" "I" (.int (127 : Int32))) (pr1 : Sta Z h0 "java/lang/Integer$IntegerCache" "cache" "[Ljava/lang/Integer;" (.ref cA)) (pr2 : OwnCache Z h0 cA) (hu0 : ¬ u0 < (-128 : Int32)) :
    MetFree l (⟨"java/lang/Integer", "valueOf", "(I)Ljava/lang/Integer;"⟩ : MethodName) (head1 (Jvm.Cond.code (⟨"java/lang/Integer", "valueOf", "(I)Ljava/lang/Integer;"⟩ : MethodName) jdk_33_method_22_code 1 (some (.object "java/lang/Integer")) :: ws) ({ frames := 3, cells := 1, slots := 1, locals := 38 } : Room)) (fun a U => a = #[(.int u0)] ∧ Z.Warmed39 U.vm ∧ U.heap = h0) (fun _ _ _ _ _ => True) (fun _ U o U' => ∃ v L, o = .returned v ∧ own_vo_Q Z u0 cA h0 n0 v U'.heap L ∧ FrameEnd U o U' L ({ frames := 3, cells := 1, slots := 1, locals := 38 } : Room).cells ({ frames := 3, cells := 1, slots := 1, locals := 38 } : Room).slots) := by
  refine MetFree.of_bodySF (plainFor_of_name pn_Integer) hisR ?_
  intro p e s m args below meth c s₁ Bd hml0 hP hK
  obtain ⟨rfl, hZ, hh⟩ := hP
  have hx := Bd.exec
  have hby := Bd.bytes
  have hml : c.maxLocals = 1 := hml0
  have hown : s.vm.findClass "java/lang/Integer" = some m.cls := findClass_of_methodNamed Bd.named
  have hnm := (name_of_methodNamed Bd.named Bd.method).1
  have hlk : meth.locks = false := BodyLoose.notSynchronized Bd
  have hrt := Bd.returns
  have X0 : Stand p l e ({ frames := 3, cells := 1, slots := 1, locals := 38 } : Room) s m #[(.int u0)] below meth c s₁ [] 0 0 := Stand.of_body Bd
  have e0 : s₁.heap = h0 := by rw [← hh, Bd.state]; rfl
  have N0 := Fr.nil n0
  refine Goes.enter (kc := ({ frames := 3, cells := 1, slots := 1, locals := 38 } : Room).cells) (kn := ({ frames := 3, cells := 1, slots := 1, locals := 38 } : Room).slots) (Q := own_vo_Q Z u0 cA h0 n0) (own_vo_ef m u0) ?_
  refine Goes.step (B := (s₁.setTop (mkF m 1 #[.val (.int u0)] [(.int u0)]))) (fun _ k => XS.iloadN X0.here hx rfl (hb hby d_jdk_33_method_22_code_0) rfl k) ?_
  refine Goes.step (B := (s₁.setTop (mkF m 3 #[.val (.int u0)] [(.int (-128 : Int32)), (.int u0)]))) (fun _ k => XS.bipush X0.here hx rfl (hb hby d_jdk_33_method_22_code_1) k) ?_
  have hc101 : ¬ (u0 < (-128 : Int32)) := hu0
  refine Goes.step (B := (s₁.setTop (mkF m 6 #[.val (.int u0)] []))) (fun _ k => XS.icmpNo X0.here hx rfl (hb hby d_jdk_33_method_22_code_3) rfl (flt hc101).1 k) ?_
  refine Goes.step (B := (s₁.setTop (mkF m 7 #[.val (.int u0)] [(.int u0)]))) (fun _ k => XS.iloadN X0.here hx rfl (hb hby d_jdk_33_method_22_code_6) rfl k) ?_
  obtain ⟨T102, X102, e102, st102⟩ := getS2 X0 hx hZ hown (host := "") (Or.inl (hw _ (List.mem_of_getElem? (i := 68) rfl))) Via.refl e0 pr0 (g := (mkF m 7 #[.val (.int u0)] [(.int u0)])) rfl (hb hby d_jdk_33_method_22_code_7)
  refine Goes.step (B := (T102.setTop (mkF m 10 #[.val (.int u0)] [(.int (127 : Int32)), (.int u0)]))) (fun _ k => st102 _ k) ?_
  by_cases hc103 : (127 : Int32) < u0
  · refine Goes.step (B := (T102.setTop (mkF m 23 #[.val (.int u0)] []))) (fun _ k => XS.icmpYes X102.here hx rfl (pc0 := 10) (pc' := 23) rfl (hb hby d_jdk_33_method_22_code_10) rfl (tlt hc103).2.2.1 (by decide) (by decide) k) ?_
    obtain ⟨T104, h104, X104, e104, E104, A104, D104, -, st104⟩ := newO X102 hx hZ hown (hw _ (List.mem_of_getElem? (i := 70) rfl)) (hw _ (List.mem_of_getElem? (i := 71) rfl)) (hw _ (List.mem_of_getElem? (i := 66) rfl)) e102 (g := (mkF m 23 #[.val (.int u0)] [])) rfl (hb hby d_jdk_33_method_22_code_23) (by decide) (by decide)
    obtain ⟨b104, g104⟩ : ∃ z, z = h0.size := ⟨_, rfl⟩
    rw [← g104] at A104 D104 st104
    have gn104 : n0 ≤ b104 := Nat.le_trans Z0 (Nat.le_of_eq g104.symm)
    have sz104 : h0.size ≤ b104 := Nat.le_trans (Keep.refl h0 []).1 (Nat.le_of_eq g104.symm)
    have ne105 : cA ≠ b104 := Nat.ne_of_lt (Nat.lt_of_lt_of_le pr2.lt (Nat.le_of_eq g104.symm))
    have f106 := pr0.ext E104
    have f107 := pr1.ext E104
    have f108 := pr2.ext E104
    have f109 : Fld Z h104 b104 "java/lang/Integer" "value" "I" (.int (0 : Int32)) := D104 (Or.inr (hw _ (List.mem_of_getElem? (i := 84) rfl))) (ty := .int) (by decide)
    have Z104 : n0 ≤ h104.size := Nat.le_trans Z0 E104.1
    have K104 : Keep h0 h104 [] := (Keep.refl h0 []).ext E104
    refine Goes.step (B := (T104.setTop (mkF m 26 #[.val (.int u0)] [(.ref b104)]))) (fun _ k => st104 _ k) ?_
    refine Goes.step (B := (T104.setTop (mkF m 27 #[.val (.int u0)] [(.ref b104), (.ref b104)]))) (fun _ k => XS.dup X104.here hx rfl (hb hby d_jdk_33_method_22_code_26) rfl rfl k) ?_
    refine Goes.step (B := (T104.setTop (mkF m 28 #[.val (.int u0)] [(.int u0), (.ref b104), (.ref b104)]))) (fun _ k => XS.iloadN X104.here hx rfl (hb hby d_jdk_33_method_22_code_27) rfl k) ?_
    obtain ⟨_, _, ⟨T110, L110, k110, n110⟩, -, X110, ⟨Lc110, hQ110, l110, y110, z110⟩, st110⟩ := X104.specialBack hx (y := (⟨"java/lang/Integer", "<init>", "(I)V"⟩ : MethodName)) rfl hown (mvT hZ (hw _ (List.mem_of_getElem? (i := 72) rfl))) (mvT hZ (hw _ (List.mem_of_getElem? (i := 73) rfl))) (mvT hZ (hw _ (List.mem_of_getElem? (i := 75) rfl))) (by decide) (backOf (W := 1) (own_ii_rm l Z a0 hw [] b104 u0  h104 n0 Z104 A104 f109 gn104) hZ (hw _ (List.mem_of_getElem? (i := 75) rfl)) (hw _ (List.mem_of_getElem? (i := 66) rfl)) (by decide) (by decide)) (g := (mkF m 28 #[.val (.int u0)] [(.int u0), (.ref b104), (.ref b104)])) rfl (by rw [hml]; rfl) (Steps.refl _) (a := b104) (argsL := [(.int u0)]) (rest := [(.ref b104)]) (lenOf pd__I_V rfl) rfl (by show 2 * 0 + _ ≤ _; exact Nat.le_of_eq rfl) (hb hby d_jdk_33_method_22_code_28) (fun _ _ => ⟨rfl, e104, (by decide : 1 + 0 ≤ _), (by decide : 1 + 0 ≤ _)⟩)
    dsimp only [Pt.U, Pt.locs, Pt.cells, Pt.slots] at X110 l110 y110 z110 st110 hQ110
    subst l110 y110 z110
    obtain ⟨rfl, N110q, K110q, p110_0⟩ := hQ110
    have N110 := Fr.app N0 N110q
    have f111 := f106.keepN K110q (fun y q => by cases List.mem_singleton.mp q; exact A104.plainN)
    have f112 := f107.keepN K110q (fun y q => by cases List.mem_singleton.mp q; exact A104.plainN)
    have f113 := f108.keep K110q (nm1 ne105)
    have f114 := A104.keep K110q
    have K110 : Keep h0 T110.heap [] := Keep.trans K104 K110q (fun y q => by cases List.mem_singleton.mp q; exact (Or.inr sz104))
    have Z110 : n0 ≤ T110.heap.size := Nat.le_trans Z104 K110q.1
    refine Goes.to (B := (T110.setTop (mkF m 31 #[.val (.int u0)] [(.ref b104)]))) st110 ?_
    refine Goes.retR X110 hx hlk hrt rfl rfl rfl (hb hby d_jdk_33_method_22_code_31) ?_ (by decide) (by decide)
    exact ⟨b104, rfl, N110, K110, p110_0⟩
  · refine Goes.step (B := (T102.setTop (mkF m 13 #[.val (.int u0)] []))) (fun _ k => XS.icmpNo X102.here hx rfl (hb hby d_jdk_33_method_22_code_10) rfl (flt hc103).2.2.1 k) ?_
    obtain ⟨T115, X115, e115, st115⟩ := getS2 X102 hx hZ hown (host := "") (Or.inl (hw _ (List.mem_of_getElem? (i := 87) rfl))) Via.refl e102 pr1 (g := (mkF m 13 #[.val (.int u0)] [])) rfl (hb hby d_jdk_33_method_22_code_13)
    refine Goes.step (B := (T115.setTop (mkF m 16 #[.val (.int u0)] [(.ref cA)]))) (fun _ k => st115 _ k) ?_
    refine Goes.step (B := (T115.setTop (mkF m 17 #[.val (.int u0)] [(.int u0), (.ref cA)]))) (fun _ k => XS.iloadN X115.here hx rfl (hb hby d_jdk_33_method_22_code_16) rfl k) ?_
    refine Goes.step (B := (T115.setTop (mkF m 20 #[.val (.int u0)] [(.int (128 : Int32)), (.int u0), (.ref cA)]))) (fun _ k => XS.sipush X115.here hx rfl (hb hby d_jdk_33_method_22_code_17) k) ?_
    refine Goes.step (B := (T115.setTop (mkF m 21 #[.val (.int u0)] [(.int (u0 + (128 : Int32))), (.ref cA)]))) (fun _ k => XS.iadd X115.here hx rfl (hb hby d_jdk_33_method_22_code_20) rfl k) ?_
    obtain ⟨cl116, Ar116, S116, Hc116⟩ := id pr2
    obtain ⟨bb116, hat116, Eb116⟩ := Hc116 (((u0 + (128 : Int32))).toNatClampNeg) (own_cidx hc101 hc103)
    have hin116 : ¬ ((u0 + (128 : Int32)) < 0 ∨ cl116.slots.size ≤ ((u0 + (128 : Int32))).toNatClampNeg) := own_cin S116 hc101 hc103
    refine Goes.step (B := (T115.setTop (mkF m 22 #[.val (.int u0)] [(.ref bb116)]))) (fun _ k => X115.aaload hx (j := (u0 + (128 : Int32))) (v := (.ref bb116)) (by rw [e115]; exact Ar116.1) (State.isArrayOf_alike hZ.alike Ar116.2.1) rfl Ar116.2.2 hin116 hat116 (g := (mkF m 21 #[.val (.int u0)] [(.int (u0 + (128 : Int32))), (.ref cA)])) rfl rfl (hb hby d_jdk_33_method_22_code_21) _ k) ?_
    refine Goes.retR X115 hx hlk hrt rfl rfl rfl (hb hby d_jdk_33_method_22_code_22) ?_ (by decide) (by decide)
    rw [e115]
    exact ⟨bb116, rfl, N0, (Keep.refl h0 []), Eb116⟩
theorem own_cache {args : Array Value} {s : State} {C n d : String} {a : Addr} {cl : Cell} {c2 : Jvm.Cond} (ev : (Term.static C n d).eval args s none [] s = some (.ref a)) (A : Arr s s.heap a cl (.object "java/lang/Integer"))
    (hl : (Jvm.Cond.eq (.length (.static C n d)) (.int 256)).value args s none s [] = some true) (h : (Jvm.Cond.all (.static C n d) (.and (.exactly (.elem (.static C n d) (.index 0)) "java/lang/Integer") c2)).value args s none s [] = some true) : OwnCache s s.heap a := by
  have hs : cl.slots.size = 256 := own_lenV (n := 256) ev A hl (by decide)
  have ha : s.arrayAt? a = some cl := A.fin (Vm.Alike.refl _)
  refine ⟨cl, A, hs, fun i hi => ?_⟩
  have hv := Cond.all_elim ev ha h i (by rw [hs]; exact hi)
  obtain ⟨h1, -⟩ := and_e hv
  obtain ⟨x, ex⟩ := exa_v h1
  have ev' : (Term.static C n d).eval args s none [i] s = some (.ref a) := ev
  have hj : i.toInt32.toInt = i := len_toInt (by omega)
  have hn : ¬ i.toInt32 < 0 := by
    rw [Int32.lt_iff_toInt_lt, hj]; have k : (0 : Int32).toInt = 0 := by decide
    omega
  have hc : i.toInt32.toNatClampNeg = i := by simp only [Int32.toNatClampNeg, hj]; omega
  have ei : (Term.index 0).eval args s none [i] s = some (.int i.toInt32) := by simp [Term.eval]
  have el := elem_f ev' ei ha hn
  rw [ex, hc] at el
  have ev2 : (Term.elem (.static C n d) (.int i.toInt32)).eval args s none [] s = some (.ref x) := by
    rw [elem_f ev rfl ha hn, hc]; exact el.symm
  have hx2 : (Jvm.Cond.exactly (Term.elem (.static C n d) (.int i.toInt32)) "java/lang/Integer").value args s none s [] = some true := by
    rw [← h1]; simp only [Cond.value, ex, ev2]
  exact ⟨x, el.symm, Exa.start ev2 hx2⟩
def own_a1 (x1 : Int32) : Int32 := (x1 &&& (255 : Int32))
def own_law_j11 (x0 : Int32) (x2 : Int32) (x4 : Int32) : Int32 := (if (x4 &&& (1 : Int32)) = (0 : Int32) then x2 else x0)
def own_law_j25 (x1 : Int32) (x3 : Int32) (x4 : Int32) : Int32 := (if (x4 &&& (2 : Int32)) = (0 : Int32) then (x3 &&& (255 : Int32)) else (own_a1 x1))
def own_law_j77 (x0 : Int32) (x1 : Int32) (x2 : Int32) (x3 : Int32) (x4 : Int32) : Int32 := (if ((x0 ^^^ (own_law_j11 x0 x2 x4)) &&& (1 : Int32)) = (0 : Int32) then (if (own_a1 x1) = (own_law_j25 x1 x3 x4) then (1 : Int32) else (0 : Int32)) else (0 : Int32))
def own_ot (x4 : Int32) : Int32 := ((x4.toUInt32 >>> ((2 : Int32) &&& 31).toUInt32).toInt32 &&& (3 : Int32))
theorem own_m255 (x : Int32) : ¬ (x &&& (255 : Int32)) < (0 : Int32) ∧ ¬ (255 : Int32) < (x &&& (255 : Int32)) := by
  have h := c_mask x 255 8 (by decide) (by decide)
  have k : (0 : Int32).toInt = 0 := by decide
  have k2 : (255 : Int32).toInt = 255 := by decide
  rw [Int32.lt_iff_toInt_lt, Int32.lt_iff_toInt_lt]; omega
theorem own_lo (x1 : Int32) : ¬ own_a1 x1 < (0 : Int32) := (own_m255 x1).1
theorem own_hi (x1 : Int32) : ¬ (255 : Int32) < own_a1 x1 := (own_m255 x1).2
theorem own_lo2 (x1 x3 x4 : Int32) : ¬ own_law_j25 x1 x3 x4 < (0 : Int32) := by
  unfold own_law_j25; split
  · exact (own_m255 x3).1
  · exact own_lo x1
theorem own_hi2 (x1 x3 x4 : Int32) : ¬ (255 : Int32) < own_law_j25 x1 x3 x4 := by
  unfold own_law_j25; split
  · exact (own_m255 x3).2
  · exact own_hi x1
theorem own_ch (x3 : Int32) : ¬ (255 : Int32) < nar .char (x3 &&& (255 : Int32)).toUInt32.toUInt16.toUInt32.toInt32 := by
  have h1 := c_mask x3 255 8 (by decide) (by decide)
  have h2 := c_i2c (x3 &&& 255)
  have h3 := c_i2c (x3 &&& (255 : Int32)).toUInt32.toUInt16.toUInt32.toInt32
  have k : (255 : Int32).toInt = 255 := by decide
  show ¬ (255 : Int32) < (x3 &&& (255 : Int32)).toUInt32.toUInt16.toUInt32.toInt32.toUInt32.toUInt16.toUInt32.toInt32
  rw [Int32.lt_iff_toInt_lt]; omega
theorem own_vlo (x0 x1 : Int32) : ¬ (((x0 &&& (1 : Int32)) <<< ((8 : Int32) &&& 31)) ||| (own_a1 x1)) < (-128 : Int32) := by
  have h1 := c_mask x0 1 1 (by decide) (by decide)
  have h2 := c_ishl (x0 &&& 1) 8 8 (by decide)
  have h3 := rng32 ((x0 &&& (1 : Int32)) <<< ((8 : Int32) &&& 31))
  have h4 := (c_orS ((x0 &&& (1 : Int32)) <<< ((8 : Int32) &&& 31)) (own_a1 x1)).1 (by omega) (by
    have := c_mask x1 255 8 (by decide) (by decide)
    show 0 ≤ (x1 &&& 255).toInt
    omega)
  have k : (-128 : Int32).toInt = -128 := by decide
  rw [Int32.lt_iff_toInt_lt]; omega
theorem own_se (u : Int32) : ¬ ((own_eqS_fn u u) = (0 : Int32)) := by rw [own_eqS_fn, if_pos rfl]; decide
theorem own_par (x : Int32) : (x &&& (1 : Int32)) = (0 : Int32) ↔ x.toInt % 2 = 0 := by
  have h := c_mask x 1 1 (by decide) (by decide)
  have k : (0 : Int32).toInt = 0 := by decide
  rw [← Int32.toInt_inj, k]; omega
theorem own_kdx {aT aB : Addr} (u w : Int32) (hTB : aT ≠ aB) : own_kd aT aB u = own_kd aT aB w ↔ ((u ^^^ w) &&& (1 : Int32)) = (0 : Int32) := by
  have hx := c_xor2 u w
  rw [own_par, hx]
  unfold own_kd
  by_cases p : (u &&& (1 : Int32)) = (0 : Int32) <;> by_cases q : (w &&& (1 : Int32)) = (0 : Int32)
  · rw [if_pos p, if_pos q]; rw [own_par] at p q; exact ⟨fun _ => by omega, fun _ => rfl⟩
  · rw [if_pos p, if_neg q]; rw [own_par] at p q; exact ⟨fun r => absurd r hTB, fun r => by omega⟩
  · rw [if_neg p, if_pos q]; rw [own_par] at p q; exact ⟨fun r => absurd r.symm hTB, fun r => by omega⟩
  · rw [if_neg p, if_neg q]; rw [own_par] at p q; exact ⟨fun _ => by omega, fun _ => rfl⟩
theorem own_tS {aT aB : Addr} (x0 x1 x2 x3 x4 : Int32) (hTB : aT ≠ aB) (hkk : own_kd aT aB x0 = own_kd aT aB (own_law_j11 x0 x2 x4)) : (own_eqS_fn (own_a1 x1) (own_law_j25 x1 x3 x4)) = (own_law_j77 x0 x1 x2 x3 x4) := by
  have h := (own_kdx x0 (own_law_j11 x0 x2 x4) hTB).mp hkk
  rw [own_law_j77, if_pos h, own_eqS_fn]
  by_cases q : own_a1 x1 = own_law_j25 x1 x3 x4
  · rw [if_pos q, if_pos q.symm]
  · rw [if_neg q, if_neg (fun r => q r.symm)]
theorem own_tS2 {aT aB : Addr} (x0 x1 x2 x3 x4 : Int32) (hTB : aT ≠ aB) (hkk : own_kd aT aB x0 = own_kd aT aB (own_law_j11 x0 x2 x4)) : (own_eqS_fn (own_law_j25 x1 x3 x4) (own_a1 x1)) = (own_law_j77 x0 x1 x2 x3 x4) := by
  have h := (own_kdx x0 (own_law_j11 x0 x2 x4) hTB).mp hkk
  rw [own_law_j77, if_pos h, own_eqS_fn]
theorem own_tD {aT aB : Addr} (x0 x1 x2 x3 x4 : Int32) (hTB : aT ≠ aB) (hkk : ¬ own_kd aT aB x0 = own_kd aT aB (own_law_j11 x0 x2 x4)) : (0 : Int32) = (own_law_j77 x0 x1 x2 x3 x4) := by
  have h : ¬ ((x0 ^^^ (own_law_j11 x0 x2 x4)) &&& (1 : Int32)) = (0 : Int32) := fun q => hkk ((own_kdx x0 (own_law_j11 x0 x2 x4) hTB).mpr q)
  rw [own_law_j77, if_neg h]

theorem pd__I_Lportcullis_portcullis_rules_BasicService_Kind_ : parseMethodDescriptor "(I)Lcom/example/portcullis/portcullis/rules/BasicService$Kind;" = some ⟨[.int], some (.object "com/example/portcullis/portcullis/rules/BasicService$Kind")⟩ := by decide +kernel
theorem pd__Lportcullis_portcullis_rules_BasicService_Kind_I_V : parseMethodDescriptor "(Lcom/example/portcullis/portcullis/rules/BasicService$Kind;I)V" = some ⟨[(.object "com/example/portcullis/portcullis/rules/BasicService$Kind"), .int], none⟩ := by decide +kernel
theorem pd__Ljava_lang_Object__Z : parseMethodDescriptor "(Ljava/lang/Object;)Z" = some ⟨[(.object "java/lang/Object")], some .boolean⟩ := by decide +kernel
theorem pd__AC_V : parseMethodDescriptor "([C)V" = some ⟨[(.array .char)], none⟩ := by decide +kernel
theorem pd__I_Ljava_lang_Integer_ : parseMethodDescriptor "(I)Ljava/lang/Integer;" = some ⟨[.int], some (.object "java/lang/Integer")⟩ := by decide +kernel
def own_law_Q (Z : State) (x0 : Int32) (x1 : Int32) (x2 : Int32) (x3 : Int32) (x4 : Int32) (aT : Addr) (aB : Addr) (w0 : Int32) (cA : Addr) (h0 : Heap) (n0 : Nat) (v : Option Value) (h : Heap) (L : List Loc) : Prop := v = some (.int 1) ∧ Fr n0 L
theorem own_law_ef (m : MethodId) (x0 : Int32) (x1 : Int32) (x2 : Int32) (x3 : Int32) (x4 : Int32) : entryFrame m #[(.int x0), (.int x1), (.int x2), (.int x3), (.int x4)] maxLocals = mkF m 0 #[.val (.int x0), .val (.int x1), .val (.int x2), .val (.int x3), .val (.int x4), .unset, .unset, .unset, .unset, .unset, .unset, .unset, .unset, .unset] [] := by first | (simp [entryFrame, mkF, argsToLocals, Value.category, maxLocals]; done) | rfl
set_option maxRecDepth 65536 in
set_option maxHeartbeats 40000000 in
theorem own_law_rm (l : Launch) (Z : State) (a0 : Array Value) (hw : ∀ d ∈ tables_1, d.before a0 Z = true) (ws : List Jvm.Cond) (x0 : Int32) (x1 : Int32) (x2 : Int32) (x3 : Int32) (x4 : Int32) (aT : Addr) (aB : Addr) (w0 : Int32) (cA : Addr) (h0 : Heap) (n0 : Nat) (Z0 : n0 ≤ h0.size) (pr0 : Sta Z h0 "com/example/portcullis/portcullis/rules/BasicService$Kind" "TELESERVICE" "Lcom/example/portcullis/portcullis/rules/BasicService$Kind;" (.ref aT)) (pr1 : Sta Z h0 "com/example/portcullis/portcullis/rules/BasicService$Kind" "BEARER_SERVICE" "Lcom/example/portcullis/portcullis/rules/BasicService$Kind;" (.ref aB)) (pr2 : Sta Z h0 "java/lang/String" "COMPACT_STRINGS" "Z" (.int w0)) (pr3 : Sta Z h0 "java/lang/Integer$IntegerCache" "high" "I" (.int (127 : Int32))) (pr4 : Sta Z h0 "java/lang/Integer$IntegerCache" "cache" "[Ljava/lang/Integer;" (.ref cA)) (pr5 : OwnCache Z h0 cA) (hTB : aT ≠ aB) (hw0 : ¬ (w0 = (0 : Int32))) :
    MetFree l x (head1 (Jvm.Cond.code x code maxLocals ret :: ws) room_1) (fun a U => a = #[(.int x0), (.int x1), (.int x2), (.int x3), (.int x4)] ∧ Z.Warmed39 U.vm ∧ U.heap = h0) (fun _ _ _ _ _ => True) (fun _ U o U' => ∃ v L, o = .returned v ∧ own_law_Q Z x0 x1 x2 x3 x4 aT aB w0 cA h0 n0 v U'.heap L ∧ FrameEnd U o U' L room_1.cells room_1.slots) := by
  refine MetFree.of_bodySF (plainFor_of_name pn_BasicServiceEqualsPinLaw) hisR ?_
  intro p e s m args below meth c s₁ Bd hml0 hP hK
  obtain ⟨rfl, hZ, hh⟩ := hP
  have hx := Bd.exec
  have hby := Bd.bytes
  have hml : c.maxLocals = 14 := hml0
  have hown : s.vm.findClass "com/example/portcullis/portcullis/rules/BasicServiceEqualsPinLaw" = some m.cls := findClass_of_methodNamed Bd.named
  have hnm := (name_of_methodNamed Bd.named Bd.method).1
  have hlk : meth.locks = false := BodyLoose.notSynchronized Bd
  have hrt := Bd.returns
  have X0 : Stand p l e room_1 s m #[(.int x0), (.int x1), (.int x2), (.int x3), (.int x4)] below meth c s₁ [] 0 0 := Stand.of_body Bd
  have e0 : s₁.heap = h0 := by rw [← hh, Bd.state]; rfl
  have N0 := Fr.nil n0
  refine Goes.enter (kc := room_1.cells) (kn := room_1.slots) (Q := own_law_Q Z x0 x1 x2 x3 x4 aT aB w0 cA h0 n0) (own_law_ef m x0 x1 x2 x3 x4) ?_
  refine Goes.step (B := (s₁.setTop (mkF m 1 #[.val (.int x0), .val (.int x1), .val (.int x2), .val (.int x3), .val (.int x4), .unset, .unset, .unset, .unset, .unset, .unset, .unset, .unset, .unset] [(.int x1)]))) (fun _ k => XS.iloadN X0.here hx rfl (hb hby at_0) rfl k) ?_
  refine Goes.step (B := (s₁.setTop (mkF m 4 #[.val (.int x0), .val (.int x1), .val (.int x2), .val (.int x3), .val (.int x4), .unset, .unset, .unset, .unset, .unset, .unset, .unset, .unset, .unset] [(.int (255 : Int32)), (.int x1)]))) (fun _ k => XS.sipush X0.here hx rfl (hb hby at_1) k) ?_
  refine Goes.step (B := (s₁.setTop (mkF m 5 #[.val (.int x0), .val (.int x1), .val (.int x2), .val (.int x3), .val (.int x4), .unset, .unset, .unset, .unset, .unset, .unset, .unset, .unset, .unset] [(.int (x1 &&& (255 : Int32)))]))) (fun _ k => XS.iand X0.here hx rfl (hb hby at_4) rfl k) ?_
  refine Goes.step (B := (s₁.setTop (mkF m 7 #[.val (.int x0), .val (.int x1), .val (.int x2), .val (.int x3), .val (.int x4), .val (.int (own_a1 x1)), .unset, .unset, .unset, .unset, .unset, .unset, .unset, .unset] []))) (fun _ k => XS.istore X0.here hx rfl (hb hby at_5) rfl (l' := #[.val (.int x0), .val (.int x1), .val (.int x2), .val (.int x3), .val (.int x4), .val (.int (own_a1 x1)), .unset, .unset, .unset, .unset, .unset, .unset, .unset, .unset]) rfl k) ?_
  refine Goes.step (B := (s₁.setTop (mkF m 9 #[.val (.int x0), .val (.int x1), .val (.int x2), .val (.int x3), .val (.int x4), .val (.int (own_a1 x1)), .unset, .unset, .unset, .unset, .unset, .unset, .unset, .unset] [(.int x4)]))) (fun _ k => XS.iload X0.here hx rfl (hb hby at_7) rfl k) ?_
  refine Goes.step (B := (s₁.setTop (mkF m 10 #[.val (.int x0), .val (.int x1), .val (.int x2), .val (.int x3), .val (.int x4), .val (.int (own_a1 x1)), .unset, .unset, .unset, .unset, .unset, .unset, .unset, .unset] [(.int (1 : Int32)), (.int x4)]))) (fun _ k => XS.iconst X0.here hx rfl (hb hby at_9) k) ?_
  refine Goes.step (B := (s₁.setTop (mkF m 11 #[.val (.int x0), .val (.int x1), .val (.int x2), .val (.int x3), .val (.int x4), .val (.int (own_a1 x1)), .unset, .unset, .unset, .unset, .unset, .unset, .unset, .unset] [(.int (x4 &&& (1 : Int32)))]))) (fun _ k => XS.iand X0.here hx rfl (hb hby at_10) rfl k) ?_
  have J101 : Goes p e below s room_1.cells room_1.slots (own_law_Q Z x0 x1 x2 x3 x4 aT aB w0 cA h0 n0) (s₁.setTop (mkF m 19 #[.val (.int x0), .val (.int x1), .val (.int x2), .val (.int x3), .val (.int x4), .val (.int (own_a1 x1)), .unset, .unset, .unset, .unset, .unset, .unset, .unset, .unset] [(.int (own_law_j11 x0 x2 x4))])) := by
    refine Goes.step (B := (s₁.setTop (mkF m 21 #[.val (.int x0), .val (.int x1), .val (.int x2), .val (.int x3), .val (.int x4), .val (.int (own_a1 x1)), .val (.int (own_law_j11 x0 x2 x4)), .unset, .unset, .unset, .unset, .unset, .unset, .unset] []))) (fun _ k => XS.istore X0.here hx rfl (hb hby at_19) rfl (l' := #[.val (.int x0), .val (.int x1), .val (.int x2), .val (.int x3), .val (.int x4), .val (.int (own_a1 x1)), .val (.int (own_law_j11 x0 x2 x4)), .unset, .unset, .unset, .unset, .unset, .unset, .unset]) rfl k) ?_
    refine Goes.step (B := (s₁.setTop (mkF m 23 #[.val (.int x0), .val (.int x1), .val (.int x2), .val (.int x3), .val (.int x4), .val (.int (own_a1 x1)), .val (.int (own_law_j11 x0 x2 x4)), .unset, .unset, .unset, .unset, .unset, .unset, .unset] [(.int x4)]))) (fun _ k => XS.iload X0.here hx rfl (hb hby at_21) rfl k) ?_
    refine Goes.step (B := (s₁.setTop (mkF m 24 #[.val (.int x0), .val (.int x1), .val (.int x2), .val (.int x3), .val (.int x4), .val (.int (own_a1 x1)), .val (.int (own_law_j11 x0 x2 x4)), .unset, .unset, .unset, .unset, .unset, .unset, .unset] [(.int (2 : Int32)), (.int x4)]))) (fun _ k => XS.iconst X0.here hx rfl (hb hby at_23) k) ?_
    refine Goes.step (B := (s₁.setTop (mkF m 25 #[.val (.int x0), .val (.int x1), .val (.int x2), .val (.int x3), .val (.int x4), .val (.int (own_a1 x1)), .val (.int (own_law_j11 x0 x2 x4)), .unset, .unset, .unset, .unset, .unset, .unset, .unset] [(.int (x4 &&& (2 : Int32)))]))) (fun _ k => XS.iand X0.here hx rfl (hb hby at_24) rfl k) ?_
    have J102 : Goes p e below s room_1.cells room_1.slots (own_law_Q Z x0 x1 x2 x3 x4 aT aB w0 cA h0 n0) (s₁.setTop (mkF m 38 #[.val (.int x0), .val (.int x1), .val (.int x2), .val (.int x3), .val (.int x4), .val (.int (own_a1 x1)), .val (.int (own_law_j11 x0 x2 x4)), .unset, .unset, .unset, .unset, .unset, .unset, .unset] [(.int (own_law_j25 x1 x3 x4))])) := by
      refine Goes.step (B := (s₁.setTop (mkF m 40 #[.val (.int x0), .val (.int x1), .val (.int x2), .val (.int x3), .val (.int x4), .val (.int (own_a1 x1)), .val (.int (own_law_j11 x0 x2 x4)), .val (.int (own_law_j25 x1 x3 x4)), .unset, .unset, .unset, .unset, .unset, .unset] []))) (fun _ k => XS.istore X0.here hx rfl (hb hby at_38) rfl (l' := #[.val (.int x0), .val (.int x1), .val (.int x2), .val (.int x3), .val (.int x4), .val (.int (own_a1 x1)), .val (.int (own_law_j11 x0 x2 x4)), .val (.int (own_law_j25 x1 x3 x4)), .unset, .unset, .unset, .unset, .unset, .unset]) rfl k) ?_
      obtain ⟨T103, h103, X103, e103, E103, A103, D103, -, st103⟩ := newO X0 hx hZ hown (hw _ (List.mem_of_getElem? (i := 0) rfl)) (hw _ (List.mem_of_getElem? (i := 1) rfl)) (hw _ (List.mem_of_getElem? (i := 2) rfl)) e0 (g := (mkF m 40 #[.val (.int x0), .val (.int x1), .val (.int x2), .val (.int x3), .val (.int x4), .val (.int (own_a1 x1)), .val (.int (own_law_j11 x0 x2 x4)), .val (.int (own_law_j25 x1 x3 x4)), .unset, .unset, .unset, .unset, .unset, .unset] [])) rfl (hb hby at_40) (by decide) (by decide)
      obtain ⟨b103, g103⟩ : ∃ z, z = h0.size := ⟨_, rfl⟩
      rw [← g103] at A103 D103 st103
      have gn103 : n0 ≤ b103 := Nat.le_trans Z0 (Nat.le_of_eq g103.symm)
      have sz103 : h0.size ≤ b103 := Nat.le_trans (Keep.refl h0 []).1 (Nat.le_of_eq g103.symm)
      have ne104 : cA ≠ b103 := Nat.ne_of_lt (Nat.lt_of_lt_of_le pr5.lt (Nat.le_of_eq g103.symm))
      have f105 := pr0.ext E103
      have f106 := pr1.ext E103
      have f107 := pr2.ext E103
      have f108 := pr3.ext E103
      have f109 := pr4.ext E103
      have f110 := pr5.ext E103
      have f111 : Fld Z h103 b103 "com/example/portcullis/portcullis/rules/BasicService" "kind" "Lcom/example/portcullis/portcullis/rules/BasicService$Kind;" .null := D103 (Or.inr (hw _ (List.mem_of_getElem? (i := 22) rfl))) (ty := (.object "com/example/portcullis/portcullis/rules/BasicService$Kind")) (by decide)
      have f112 : Fld Z h103 b103 "com/example/portcullis/portcullis/rules/BasicService" "code" "I" (.int (0 : Int32)) := D103 (Or.inr (hw _ (List.mem_of_getElem? (i := 24) rfl))) (ty := .int) (by decide)
      have Z103 : n0 ≤ h103.size := Nat.le_trans Z0 E103.1
      have K103 : Keep h0 h103 [] := (Keep.refl h0 []).ext E103
      refine Goes.step (B := (T103.setTop (mkF m 43 #[.val (.int x0), .val (.int x1), .val (.int x2), .val (.int x3), .val (.int x4), .val (.int (own_a1 x1)), .val (.int (own_law_j11 x0 x2 x4)), .val (.int (own_law_j25 x1 x3 x4)), .unset, .unset, .unset, .unset, .unset, .unset] [(.ref b103)]))) (fun _ k => st103 _ k) ?_
      refine Goes.step (B := (T103.setTop (mkF m 44 #[.val (.int x0), .val (.int x1), .val (.int x2), .val (.int x3), .val (.int x4), .val (.int (own_a1 x1)), .val (.int (own_law_j11 x0 x2 x4)), .val (.int (own_law_j25 x1 x3 x4)), .unset, .unset, .unset, .unset, .unset, .unset] [(.ref b103), (.ref b103)]))) (fun _ k => XS.dup X103.here hx rfl (hb hby at_43) rfl rfl k) ?_
      refine Goes.step (B := (T103.setTop (mkF m 45 #[.val (.int x0), .val (.int x1), .val (.int x2), .val (.int x3), .val (.int x4), .val (.int (own_a1 x1)), .val (.int (own_law_j11 x0 x2 x4)), .val (.int (own_law_j25 x1 x3 x4)), .unset, .unset, .unset, .unset, .unset, .unset] [(.int x0), (.ref b103), (.ref b103)]))) (fun _ k => XS.iloadN X103.here hx rfl (hb hby at_44) rfl k) ?_
      obtain ⟨_, _, ⟨T113, L113, k113, n113⟩, -, X113, ⟨Lc113, hQ113, l113, y113, z113⟩, st113⟩ := Jvm.LawKit.callS X103 hx (y := (⟨"com/example/portcullis/portcullis/rules/BasicServiceEqualsPinLaw", "kindOf", "(I)Lcom/example/portcullis/portcullis/rules/BasicService$Kind;"⟩ : MethodName)) hown (mvT hZ (hw _ (List.mem_of_getElem? (i := 3) rfl))) (mvT hZ (hw _ (List.mem_of_getElem? (i := 4) rfl))) (mvT hZ (hw _ (List.mem_of_getElem? (i := 5) rfl))) (mvT hZ (hw _ (List.mem_of_getElem? (i := 6) rfl))) (by decide) (backOf (W := 2) (own_ko_rm l Z a0 hw [] x0 aT aB h103 n0 Z103 f105 f106) hZ (hw _ (List.mem_of_getElem? (i := 6) rfl)) (hw _ (List.mem_of_getElem? (i := 5) rfl)) (by decide) (by decide)) (g := (mkF m 45 #[.val (.int x0), .val (.int x1), .val (.int x2), .val (.int x3), .val (.int x4), .val (.int (own_a1 x1)), .val (.int (own_law_j11 x0 x2 x4)), .val (.int (own_law_j25 x1 x3 x4)), .unset, .unset, .unset, .unset, .unset, .unset] [(.int x0), (.ref b103), (.ref b103)])) rfl (by rw [hml]; rfl) (argsL := [(.int x0)]) (rest := [(.ref b103), (.ref b103)]) (lenOf pd__I_Lportcullis_portcullis_rules_BasicService_Kind_ rfl) rfl (by show 2 * 0 + _ ≤ _; exact Nat.le_of_eq rfl) (hb hby at_45) (fun _ _ => ⟨rfl, e103, (by decide : 1 + 0 ≤ _), (by decide : 2 + 0 ≤ _)⟩)
      dsimp only [Pt.U, Pt.locs, Pt.cells, Pt.slots] at X113 l113 y113 z113 st113 hQ113
      subst l113 y113 z113
      obtain ⟨rfl, N113q, e113⟩ := hQ113
      have N113 := Fr.app N0 N113q
      refine Goes.step (B := (T113.setTop (mkF m 48 #[.val (.int x0), .val (.int x1), .val (.int x2), .val (.int x3), .val (.int x4), .val (.int (own_a1 x1)), .val (.int (own_law_j11 x0 x2 x4)), .val (.int (own_law_j25 x1 x3 x4)), .unset, .unset, .unset, .unset, .unset, .unset] [(.ref (own_kd aT aB x0)), (.ref b103), (.ref b103)]))) (fun _ k => st113 _ k) ?_
      refine Goes.step (B := (T113.setTop (mkF m 50 #[.val (.int x0), .val (.int x1), .val (.int x2), .val (.int x3), .val (.int x4), .val (.int (own_a1 x1)), .val (.int (own_law_j11 x0 x2 x4)), .val (.int (own_law_j25 x1 x3 x4)), .unset, .unset, .unset, .unset, .unset, .unset] [(.int (own_a1 x1)), (.ref (own_kd aT aB x0)), (.ref b103), (.ref b103)]))) (fun _ k => XS.iload X113.here hx rfl (hb hby at_48) rfl k) ?_
      obtain ⟨_, _, ⟨T114, L114, k114, n114⟩, -, X114, ⟨Lc114, hQ114, l114, y114, z114⟩, st114⟩ := X113.specialBack hx (y := (⟨"com/example/portcullis/portcullis/rules/BasicService", "<init>", "(Lcom/example/portcullis/portcullis/rules/BasicService$Kind;I)V"⟩ : MethodName)) rfl hown (mvT hZ (hw _ (List.mem_of_getElem? (i := 10) rfl))) (mvT hZ (hw _ (List.mem_of_getElem? (i := 11) rfl))) (mvT hZ (hw _ (List.mem_of_getElem? (i := 12) rfl))) (by decide) (backOf (W := 1) (own_bi_rm l Z a0 hw [] b103 (own_kd aT aB x0) (own_a1 x1)  h103 n0 Z103 A103 f111 f112 gn103 (own_lo _) (own_hi _)) hZ (hw _ (List.mem_of_getElem? (i := 12) rfl)) (hw _ (List.mem_of_getElem? (i := 2) rfl)) (by decide) (by decide)) (g := (mkF m 50 #[.val (.int x0), .val (.int x1), .val (.int x2), .val (.int x3), .val (.int x4), .val (.int (own_a1 x1)), .val (.int (own_law_j11 x0 x2 x4)), .val (.int (own_law_j25 x1 x3 x4)), .unset, .unset, .unset, .unset, .unset, .unset] [(.int (own_a1 x1)), (.ref (own_kd aT aB x0)), (.ref b103), (.ref b103)])) rfl (by rw [hml]; rfl) (Steps.refl _) (a := b103) (argsL := [(.ref (own_kd aT aB x0)), (.int (own_a1 x1))]) (rest := [(.ref b103)]) (lenOf pd__Lportcullis_portcullis_rules_BasicService_Kind_I_V rfl) rfl (by show 2 * 0 + _ ≤ _; exact Nat.le_of_eq rfl) (hb hby at_50) (fun _ _ => ⟨rfl, e113, (by decide : 1 + 0 ≤ _), (by decide : 2 + 0 ≤ _)⟩)
      dsimp only [Pt.U, Pt.locs, Pt.cells, Pt.slots] at X114 l114 y114 z114 st114 hQ114
      subst l114 y114 z114
      obtain ⟨rfl, N114q, K114q, p114_0, p114_1, p114_2⟩ := hQ114
      have N114 := Fr.app N113 N114q
      have f115 := f105.keepN K114q (fun y q => by cases List.mem_singleton.mp q; exact A103.plainN)
      have f116 := f106.keepN K114q (fun y q => by cases List.mem_singleton.mp q; exact A103.plainN)
      have f117 := f107.keepN K114q (fun y q => by cases List.mem_singleton.mp q; exact A103.plainN)
      have f118 := f108.keepN K114q (fun y q => by cases List.mem_singleton.mp q; exact A103.plainN)
      have f119 := f109.keepN K114q (fun y q => by cases List.mem_singleton.mp q; exact A103.plainN)
      have f120 := f110.keep K114q (nm1 ne104)
      have f121 := A103.keep K114q
      have K114 : Keep h0 T114.heap [] := Keep.trans K103 K114q (fun y q => by cases List.mem_singleton.mp q; exact (Or.inr sz103))
      have Z114 : n0 ≤ T114.heap.size := Nat.le_trans Z103 K114q.1
      refine Goes.to (B := (T114.setTop (mkF m 53 #[.val (.int x0), .val (.int x1), .val (.int x2), .val (.int x3), .val (.int x4), .val (.int (own_a1 x1)), .val (.int (own_law_j11 x0 x2 x4)), .val (.int (own_law_j25 x1 x3 x4)), .unset, .unset, .unset, .unset, .unset, .unset] [(.ref b103)]))) st114 ?_
      refine Goes.step (B := (T114.setTop (mkF m 55 #[.val (.int x0), .val (.int x1), .val (.int x2), .val (.int x3), .val (.int x4), .val (.int (own_a1 x1)), .val (.int (own_law_j11 x0 x2 x4)), .val (.int (own_law_j25 x1 x3 x4)), .val (.ref b103), .unset, .unset, .unset, .unset, .unset] []))) (fun _ k => XS.astore X114.here hx rfl (hb hby at_53) rfl rfl (l' := #[.val (.int x0), .val (.int x1), .val (.int x2), .val (.int x3), .val (.int x4), .val (.int (own_a1 x1)), .val (.int (own_law_j11 x0 x2 x4)), .val (.int (own_law_j25 x1 x3 x4)), .val (.ref b103), .unset, .unset, .unset, .unset, .unset]) rfl k) ?_
      obtain ⟨T122, h122, X122, e122, E122, A122, D122, -, st122⟩ := newO X114 hx hZ hown (hw _ (List.mem_of_getElem? (i := 0) rfl)) (hw _ (List.mem_of_getElem? (i := 1) rfl)) (hw _ (List.mem_of_getElem? (i := 2) rfl)) rfl (g := (mkF m 55 #[.val (.int x0), .val (.int x1), .val (.int x2), .val (.int x3), .val (.int x4), .val (.int (own_a1 x1)), .val (.int (own_law_j11 x0 x2 x4)), .val (.int (own_law_j25 x1 x3 x4)), .val (.ref b103), .unset, .unset, .unset, .unset, .unset] [])) rfl (hb hby at_55) (by decide) (by decide)
      obtain ⟨b122, g122⟩ : ∃ z, z = T114.heap.size := ⟨_, rfl⟩
      rw [← g122] at A122 D122 st122
      have gn122 : n0 ≤ b122 := Nat.le_trans Z114 (Nat.le_of_eq g122.symm)
      have sz122 : h0.size ≤ b122 := Nat.le_trans K114.1 (Nat.le_of_eq g122.symm)
      have ne123 : cA ≠ b122 := Nat.ne_of_lt (Nat.lt_of_lt_of_le f120.lt (Nat.le_of_eq g122.symm))
      have ne124 : b103 ≠ b122 := Nat.ne_of_lt (Nat.lt_of_lt_of_le p114_0.lt (Nat.le_of_eq g122.symm))
      have f125 := f115.ext E122
      have f126 := f116.ext E122
      have f127 := f117.ext E122
      have f128 := f118.ext E122
      have f129 := f119.ext E122
      have f130 := f120.ext E122
      have f131 := p114_0.ext E122
      have f132 := p114_1.ext E122
      have f133 := p114_2.ext E122
      have f134 : Fld Z h122 b122 "com/example/portcullis/portcullis/rules/BasicService" "kind" "Lcom/example/portcullis/portcullis/rules/BasicService$Kind;" .null := D122 (Or.inr (hw _ (List.mem_of_getElem? (i := 22) rfl))) (ty := (.object "com/example/portcullis/portcullis/rules/BasicService$Kind")) (by decide)
      have f135 : Fld Z h122 b122 "com/example/portcullis/portcullis/rules/BasicService" "code" "I" (.int (0 : Int32)) := D122 (Or.inr (hw _ (List.mem_of_getElem? (i := 24) rfl))) (ty := .int) (by decide)
      have Z122 : n0 ≤ h122.size := Nat.le_trans Z114 E122.1
      have K122 : Keep h0 h122 [] := K114.ext E122
      refine Goes.step (B := (T122.setTop (mkF m 58 #[.val (.int x0), .val (.int x1), .val (.int x2), .val (.int x3), .val (.int x4), .val (.int (own_a1 x1)), .val (.int (own_law_j11 x0 x2 x4)), .val (.int (own_law_j25 x1 x3 x4)), .val (.ref b103), .unset, .unset, .unset, .unset, .unset] [(.ref b122)]))) (fun _ k => st122 _ k) ?_
      refine Goes.step (B := (T122.setTop (mkF m 59 #[.val (.int x0), .val (.int x1), .val (.int x2), .val (.int x3), .val (.int x4), .val (.int (own_a1 x1)), .val (.int (own_law_j11 x0 x2 x4)), .val (.int (own_law_j25 x1 x3 x4)), .val (.ref b103), .unset, .unset, .unset, .unset, .unset] [(.ref b122), (.ref b122)]))) (fun _ k => XS.dup X122.here hx rfl (hb hby at_58) rfl rfl k) ?_
      refine Goes.step (B := (T122.setTop (mkF m 61 #[.val (.int x0), .val (.int x1), .val (.int x2), .val (.int x3), .val (.int x4), .val (.int (own_a1 x1)), .val (.int (own_law_j11 x0 x2 x4)), .val (.int (own_law_j25 x1 x3 x4)), .val (.ref b103), .unset, .unset, .unset, .unset, .unset] [(.int (own_law_j11 x0 x2 x4)), (.ref b122), (.ref b122)]))) (fun _ k => XS.iload X122.here hx rfl (hb hby at_59) rfl k) ?_
      obtain ⟨_, _, ⟨T136, L136, k136, n136⟩, -, X136, ⟨Lc136, hQ136, l136, y136, z136⟩, st136⟩ := Jvm.LawKit.callS X122 hx (y := (⟨"com/example/portcullis/portcullis/rules/BasicServiceEqualsPinLaw", "kindOf", "(I)Lcom/example/portcullis/portcullis/rules/BasicService$Kind;"⟩ : MethodName)) hown (mvT hZ (hw _ (List.mem_of_getElem? (i := 3) rfl))) (mvT hZ (hw _ (List.mem_of_getElem? (i := 4) rfl))) (mvT hZ (hw _ (List.mem_of_getElem? (i := 5) rfl))) (mvT hZ (hw _ (List.mem_of_getElem? (i := 6) rfl))) (by decide) (backOf (W := 2) (own_ko_rm l Z a0 hw [] (own_law_j11 x0 x2 x4) aT aB h122 n0 Z122 f125 f126) hZ (hw _ (List.mem_of_getElem? (i := 6) rfl)) (hw _ (List.mem_of_getElem? (i := 5) rfl)) (by decide) (by decide)) (g := (mkF m 61 #[.val (.int x0), .val (.int x1), .val (.int x2), .val (.int x3), .val (.int x4), .val (.int (own_a1 x1)), .val (.int (own_law_j11 x0 x2 x4)), .val (.int (own_law_j25 x1 x3 x4)), .val (.ref b103), .unset, .unset, .unset, .unset, .unset] [(.int (own_law_j11 x0 x2 x4)), (.ref b122), (.ref b122)])) rfl (by rw [hml]; rfl) (argsL := [(.int (own_law_j11 x0 x2 x4))]) (rest := [(.ref b122), (.ref b122)]) (lenOf pd__I_Lportcullis_portcullis_rules_BasicService_Kind_ rfl) rfl (by show 2 * 0 + _ ≤ _; exact Nat.le_of_eq rfl) (hb hby at_61) (fun _ _ => ⟨rfl, e122, (by decide : 2 + 0 ≤ _), (by decide : 4 + 0 ≤ _)⟩)
      dsimp only [Pt.U, Pt.locs, Pt.cells, Pt.slots] at X136 l136 y136 z136 st136 hQ136
      subst l136 y136 z136
      obtain ⟨rfl, N136q, e136⟩ := hQ136
      have N136 := Fr.app N114 N136q
      refine Goes.step (B := (T136.setTop (mkF m 64 #[.val (.int x0), .val (.int x1), .val (.int x2), .val (.int x3), .val (.int x4), .val (.int (own_a1 x1)), .val (.int (own_law_j11 x0 x2 x4)), .val (.int (own_law_j25 x1 x3 x4)), .val (.ref b103), .unset, .unset, .unset, .unset, .unset] [(.ref (own_kd aT aB (own_law_j11 x0 x2 x4))), (.ref b122), (.ref b122)]))) (fun _ k => st136 _ k) ?_
      refine Goes.step (B := (T136.setTop (mkF m 66 #[.val (.int x0), .val (.int x1), .val (.int x2), .val (.int x3), .val (.int x4), .val (.int (own_a1 x1)), .val (.int (own_law_j11 x0 x2 x4)), .val (.int (own_law_j25 x1 x3 x4)), .val (.ref b103), .unset, .unset, .unset, .unset, .unset] [(.int (own_law_j25 x1 x3 x4)), (.ref (own_kd aT aB (own_law_j11 x0 x2 x4))), (.ref b122), (.ref b122)]))) (fun _ k => XS.iload X136.here hx rfl (hb hby at_64) rfl k) ?_
      obtain ⟨_, _, ⟨T137, L137, k137, n137⟩, -, X137, ⟨Lc137, hQ137, l137, y137, z137⟩, st137⟩ := X136.specialBack hx (y := (⟨"com/example/portcullis/portcullis/rules/BasicService", "<init>", "(Lcom/example/portcullis/portcullis/rules/BasicService$Kind;I)V"⟩ : MethodName)) rfl hown (mvT hZ (hw _ (List.mem_of_getElem? (i := 10) rfl))) (mvT hZ (hw _ (List.mem_of_getElem? (i := 11) rfl))) (mvT hZ (hw _ (List.mem_of_getElem? (i := 12) rfl))) (by decide) (backOf (W := 1) (own_bi_rm l Z a0 hw [] b122 (own_kd aT aB (own_law_j11 x0 x2 x4)) (own_law_j25 x1 x3 x4)  h122 n0 Z122 A122 f134 f135 gn122 (own_lo2 x1 x3 x4) (own_hi2 x1 x3 x4)) hZ (hw _ (List.mem_of_getElem? (i := 12) rfl)) (hw _ (List.mem_of_getElem? (i := 2) rfl)) (by decide) (by decide)) (g := (mkF m 66 #[.val (.int x0), .val (.int x1), .val (.int x2), .val (.int x3), .val (.int x4), .val (.int (own_a1 x1)), .val (.int (own_law_j11 x0 x2 x4)), .val (.int (own_law_j25 x1 x3 x4)), .val (.ref b103), .unset, .unset, .unset, .unset, .unset] [(.int (own_law_j25 x1 x3 x4)), (.ref (own_kd aT aB (own_law_j11 x0 x2 x4))), (.ref b122), (.ref b122)])) rfl (by rw [hml]; rfl) (Steps.refl _) (a := b122) (argsL := [(.ref (own_kd aT aB (own_law_j11 x0 x2 x4))), (.int (own_law_j25 x1 x3 x4))]) (rest := [(.ref b122)]) (lenOf pd__Lportcullis_portcullis_rules_BasicService_Kind_I_V rfl) rfl (by show 2 * 0 + _ ≤ _; exact Nat.le_of_eq rfl) (hb hby at_66) (fun _ _ => ⟨rfl, e136, (by decide : 2 + 0 ≤ _), (by decide : 4 + 0 ≤ _)⟩)
      dsimp only [Pt.U, Pt.locs, Pt.cells, Pt.slots] at X137 l137 y137 z137 st137 hQ137
      subst l137 y137 z137
      obtain ⟨rfl, N137q, K137q, p137_0, p137_1, p137_2⟩ := hQ137
      have N137 := Fr.app N136 N137q
      have f138 := f125.keepN K137q (fun y q => by cases List.mem_singleton.mp q; exact A122.plainN)
      have f139 := f126.keepN K137q (fun y q => by cases List.mem_singleton.mp q; exact A122.plainN)
      have f140 := f127.keepN K137q (fun y q => by cases List.mem_singleton.mp q; exact A122.plainN)
      have f141 := f128.keepN K137q (fun y q => by cases List.mem_singleton.mp q; exact A122.plainN)
      have f142 := f129.keepN K137q (fun y q => by cases List.mem_singleton.mp q; exact A122.plainN)
      have f143 := f130.keep K137q (nm1 ne123)
      have f144 := f131.keep K137q
      have f145 := f132.keep K137q (nm1 ne124)
      have f146 := f133.keep K137q (nm1 ne124)
      have f147 := A122.keep K137q
      have K137 : Keep h0 T137.heap [] := Keep.trans K122 K137q (fun y q => by cases List.mem_singleton.mp q; exact (Or.inr sz122))
      have Z137 : n0 ≤ T137.heap.size := Nat.le_trans Z122 K137q.1
      refine Goes.to (B := (T137.setTop (mkF m 69 #[.val (.int x0), .val (.int x1), .val (.int x2), .val (.int x3), .val (.int x4), .val (.int (own_a1 x1)), .val (.int (own_law_j11 x0 x2 x4)), .val (.int (own_law_j25 x1 x3 x4)), .val (.ref b103), .unset, .unset, .unset, .unset, .unset] [(.ref b122)]))) st137 ?_
      refine Goes.step (B := (T137.setTop (mkF m 71 #[.val (.int x0), .val (.int x1), .val (.int x2), .val (.int x3), .val (.int x4), .val (.int (own_a1 x1)), .val (.int (own_law_j11 x0 x2 x4)), .val (.int (own_law_j25 x1 x3 x4)), .val (.ref b103), .val (.ref b122), .unset, .unset, .unset, .unset] []))) (fun _ k => XS.astore X137.here hx rfl (hb hby at_69) rfl rfl (l' := #[.val (.int x0), .val (.int x1), .val (.int x2), .val (.int x3), .val (.int x4), .val (.int (own_a1 x1)), .val (.int (own_law_j11 x0 x2 x4)), .val (.int (own_law_j25 x1 x3 x4)), .val (.ref b103), .val (.ref b122), .unset, .unset, .unset, .unset]) rfl k) ?_
      refine Goes.step (B := (T137.setTop (mkF m 72 #[.val (.int x0), .val (.int x1), .val (.int x2), .val (.int x3), .val (.int x4), .val (.int (own_a1 x1)), .val (.int (own_law_j11 x0 x2 x4)), .val (.int (own_law_j25 x1 x3 x4)), .val (.ref b103), .val (.ref b122), .unset, .unset, .unset, .unset] [(.int x0)]))) (fun _ k => XS.iloadN X137.here hx rfl (hb hby at_71) rfl k) ?_
      refine Goes.step (B := (T137.setTop (mkF m 74 #[.val (.int x0), .val (.int x1), .val (.int x2), .val (.int x3), .val (.int x4), .val (.int (own_a1 x1)), .val (.int (own_law_j11 x0 x2 x4)), .val (.int (own_law_j25 x1 x3 x4)), .val (.ref b103), .val (.ref b122), .unset, .unset, .unset, .unset] [(.int (own_law_j11 x0 x2 x4)), (.int x0)]))) (fun _ k => XS.iload X137.here hx rfl (hb hby at_72) rfl k) ?_
      refine Goes.step (B := (T137.setTop (mkF m 75 #[.val (.int x0), .val (.int x1), .val (.int x2), .val (.int x3), .val (.int x4), .val (.int (own_a1 x1)), .val (.int (own_law_j11 x0 x2 x4)), .val (.int (own_law_j25 x1 x3 x4)), .val (.ref b103), .val (.ref b122), .unset, .unset, .unset, .unset] [(.int (x0 ^^^ (own_law_j11 x0 x2 x4)))]))) (fun _ k => XS.ixor X137.here hx rfl (hb hby at_74) rfl k) ?_
      refine Goes.step (B := (T137.setTop (mkF m 76 #[.val (.int x0), .val (.int x1), .val (.int x2), .val (.int x3), .val (.int x4), .val (.int (own_a1 x1)), .val (.int (own_law_j11 x0 x2 x4)), .val (.int (own_law_j25 x1 x3 x4)), .val (.ref b103), .val (.ref b122), .unset, .unset, .unset, .unset] [(.int (1 : Int32)), (.int (x0 ^^^ (own_law_j11 x0 x2 x4)))]))) (fun _ k => XS.iconst X137.here hx rfl (hb hby at_75) k) ?_
      refine Goes.step (B := (T137.setTop (mkF m 77 #[.val (.int x0), .val (.int x1), .val (.int x2), .val (.int x3), .val (.int x4), .val (.int (own_a1 x1)), .val (.int (own_law_j11 x0 x2 x4)), .val (.int (own_law_j25 x1 x3 x4)), .val (.ref b103), .val (.ref b122), .unset, .unset, .unset, .unset] [(.int ((x0 ^^^ (own_law_j11 x0 x2 x4)) &&& (1 : Int32)))]))) (fun _ k => XS.iand X137.here hx rfl (hb hby at_76) rfl k) ?_
      have J148 : Goes p e below s room_1.cells room_1.slots (own_law_Q Z x0 x1 x2 x3 x4 aT aB w0 cA h0 n0) (T137.setTop (mkF m 92 #[.val (.int x0), .val (.int x1), .val (.int x2), .val (.int x3), .val (.int x4), .val (.int (own_a1 x1)), .val (.int (own_law_j11 x0 x2 x4)), .val (.int (own_law_j25 x1 x3 x4)), .val (.ref b103), .val (.ref b122), .unset, .unset, .unset, .unset] [(.int (own_law_j77 x0 x1 x2 x3 x4))])) := by
        refine Goes.step (B := (T137.setTop (mkF m 94 #[.val (.int x0), .val (.int x1), .val (.int x2), .val (.int x3), .val (.int x4), .val (.int (own_a1 x1)), .val (.int (own_law_j11 x0 x2 x4)), .val (.int (own_law_j25 x1 x3 x4)), .val (.ref b103), .val (.ref b122), .val (.int (own_law_j77 x0 x1 x2 x3 x4)), .unset, .unset, .unset] []))) (fun _ k => XS.istore X137.here hx rfl (hb hby at_92) rfl (l' := #[.val (.int x0), .val (.int x1), .val (.int x2), .val (.int x3), .val (.int x4), .val (.int (own_a1 x1)), .val (.int (own_law_j11 x0 x2 x4)), .val (.int (own_law_j25 x1 x3 x4)), .val (.ref b103), .val (.ref b122), .val (.int (own_law_j77 x0 x1 x2 x3 x4)), .unset, .unset, .unset]) rfl k) ?_
        refine Goes.step (B := (T137.setTop (mkF m 96 #[.val (.int x0), .val (.int x1), .val (.int x2), .val (.int x3), .val (.int x4), .val (.int (own_a1 x1)), .val (.int (own_law_j11 x0 x2 x4)), .val (.int (own_law_j25 x1 x3 x4)), .val (.ref b103), .val (.ref b122), .val (.int (own_law_j77 x0 x1 x2 x3 x4)), .unset, .unset, .unset] [(.int x4)]))) (fun _ k => XS.iload X137.here hx rfl (hb hby at_94) rfl k) ?_
        refine Goes.step (B := (T137.setTop (mkF m 97 #[.val (.int x0), .val (.int x1), .val (.int x2), .val (.int x3), .val (.int x4), .val (.int (own_a1 x1)), .val (.int (own_law_j11 x0 x2 x4)), .val (.int (own_law_j25 x1 x3 x4)), .val (.ref b103), .val (.ref b122), .val (.int (own_law_j77 x0 x1 x2 x3 x4)), .unset, .unset, .unset] [(.int (2 : Int32)), (.int x4)]))) (fun _ k => XS.iconst X137.here hx rfl (hb hby at_96) k) ?_
        refine Goes.step (B := (T137.setTop (mkF m 98 #[.val (.int x0), .val (.int x1), .val (.int x2), .val (.int x3), .val (.int x4), .val (.int (own_a1 x1)), .val (.int (own_law_j11 x0 x2 x4)), .val (.int (own_law_j25 x1 x3 x4)), .val (.ref b103), .val (.ref b122), .val (.int (own_law_j77 x0 x1 x2 x3 x4)), .unset, .unset, .unset] [(.int (x4.toUInt32 >>> ((2 : Int32) &&& 31).toUInt32).toInt32)]))) (fun _ k => XS.iushr X137.here hx rfl (hb hby at_97) rfl k) ?_
        refine Goes.step (B := (T137.setTop (mkF m 99 #[.val (.int x0), .val (.int x1), .val (.int x2), .val (.int x3), .val (.int x4), .val (.int (own_a1 x1)), .val (.int (own_law_j11 x0 x2 x4)), .val (.int (own_law_j25 x1 x3 x4)), .val (.ref b103), .val (.ref b122), .val (.int (own_law_j77 x0 x1 x2 x3 x4)), .unset, .unset, .unset] [(.int (3 : Int32)), (.int (x4.toUInt32 >>> ((2 : Int32) &&& 31).toUInt32).toInt32)]))) (fun _ k => XS.iconst X137.here hx rfl (hb hby at_98) k) ?_
        refine Goes.step (B := (T137.setTop (mkF m 100 #[.val (.int x0), .val (.int x1), .val (.int x2), .val (.int x3), .val (.int x4), .val (.int (own_a1 x1)), .val (.int (own_law_j11 x0 x2 x4)), .val (.int (own_law_j25 x1 x3 x4)), .val (.ref b103), .val (.ref b122), .val (.int (own_law_j77 x0 x1 x2 x3 x4)), .unset, .unset, .unset] [(.int ((x4.toUInt32 >>> ((2 : Int32) &&& 31).toUInt32).toInt32 &&& (3 : Int32)))]))) (fun _ k => XS.iand X137.here hx rfl (hb hby at_99) rfl k) ?_
        refine Goes.step (B := (T137.setTop (mkF m 102 #[.val (.int x0), .val (.int x1), .val (.int x2), .val (.int x3), .val (.int x4), .val (.int (own_a1 x1)), .val (.int (own_law_j11 x0 x2 x4)), .val (.int (own_law_j25 x1 x3 x4)), .val (.ref b103), .val (.ref b122), .val (.int (own_law_j77 x0 x1 x2 x3 x4)), .val (.int (own_ot x4)), .unset, .unset] []))) (fun _ k => XS.istore X137.here hx rfl (hb hby at_100) rfl (l' := #[.val (.int x0), .val (.int x1), .val (.int x2), .val (.int x3), .val (.int x4), .val (.int (own_a1 x1)), .val (.int (own_law_j11 x0 x2 x4)), .val (.int (own_law_j25 x1 x3 x4)), .val (.ref b103), .val (.ref b122), .val (.int (own_law_j77 x0 x1 x2 x3 x4)), .val (.int (own_ot x4)), .unset, .unset]) rfl k) ?_
        refine Goes.step (B := (T137.setTop (mkF m 104 #[.val (.int x0), .val (.int x1), .val (.int x2), .val (.int x3), .val (.int x4), .val (.int (own_a1 x1)), .val (.int (own_law_j11 x0 x2 x4)), .val (.int (own_law_j25 x1 x3 x4)), .val (.ref b103), .val (.ref b122), .val (.int (own_law_j77 x0 x1 x2 x3 x4)), .val (.int (own_ot x4)), .unset, .unset] [(.int (own_ot x4))]))) (fun _ k => XS.iload X137.here hx rfl (hb hby at_102) rfl k) ?_
        refine Goes.step (B := (T137.setTop (mkF m 105 #[.val (.int x0), .val (.int x1), .val (.int x2), .val (.int x3), .val (.int x4), .val (.int (own_a1 x1)), .val (.int (own_law_j11 x0 x2 x4)), .val (.int (own_law_j25 x1 x3 x4)), .val (.ref b103), .val (.ref b122), .val (.int (own_law_j77 x0 x1 x2 x3 x4)), .val (.int (own_ot x4)), .unset, .unset] [(.int (1 : Int32)), (.int (own_ot x4))]))) (fun _ k => XS.iconst X137.here hx rfl (hb hby at_104) k) ?_
        by_cases hc149 : (own_ot x4) = (1 : Int32)
        · refine Goes.step (B := (T137.setTop (mkF m 108 #[.val (.int x0), .val (.int x1), .val (.int x2), .val (.int x3), .val (.int x4), .val (.int (own_a1 x1)), .val (.int (own_law_j11 x0 x2 x4)), .val (.int (own_law_j25 x1 x3 x4)), .val (.ref b103), .val (.ref b122), .val (.int (own_law_j77 x0 x1 x2 x3 x4)), .val (.int (own_ot x4)), .unset, .unset] []))) (fun _ k => XS.icmpNo X137.here hx rfl (hb hby at_105) rfl (teq hc149).2 k) ?_
          refine Goes.step (B := (T137.setTop (mkF m 110 #[.val (.int x0), .val (.int x1), .val (.int x2), .val (.int x3), .val (.int x4), .val (.int (own_a1 x1)), .val (.int (own_law_j11 x0 x2 x4)), .val (.int (own_law_j25 x1 x3 x4)), .val (.ref b103), .val (.ref b122), .val (.int (own_law_j77 x0 x1 x2 x3 x4)), .val (.int (own_ot x4)), .unset, .unset] [(.ref b103)]))) (fun _ k => XS.aload X137.here hx rfl (hb hby at_108) rfl rfl k) ?_
          refine Goes.step (B := (T137.setTop (mkF m 111 #[.val (.int x0), .val (.int x1), .val (.int x2), .val (.int x3), .val (.int x4), .val (.int (own_a1 x1)), .val (.int (own_law_j11 x0 x2 x4)), .val (.int (own_law_j25 x1 x3 x4)), .val (.ref b103), .val (.ref b122), .val (.int (own_law_j77 x0 x1 x2 x3 x4)), .val (.int (own_ot x4)), .unset, .unset] [.null, (.ref b103)]))) (fun _ k => XS.aconstNull X137.here hx rfl (hb hby at_110) k) ?_
          obtain ⟨cq150, kq150, q150a, q150b, q150c⟩ := isOf hZ rfl f144
          obtain ⟨_, _, ⟨T150, L150, k150, n150⟩, -, X150, ⟨Lc150, hQ150, l150, y150, z150⟩, st150⟩ := X137.virtualBack hx (y := (⟨"com/example/portcullis/portcullis/rules/BasicService", "equals", "(Ljava/lang/Object;)Z"⟩ : MethodName)) (z := (⟨"com/example/portcullis/portcullis/rules/BasicService", "equals", "(Ljava/lang/Object;)Z"⟩ : MethodName)) hown (mvT hZ (hw _ (List.mem_of_getElem? (i := 25) rfl))) (mvT hZ (hw _ (List.mem_of_getElem? (i := 26) rfl))) (notFace_of_selects (args := #[]) (mvT hZ (hw _ (List.mem_of_getElem? (i := 28) rfl)))) (mvT hZ (hw _ (List.mem_of_getElem? (i := 28) rfl))) (mvT hZ (hw _ (List.mem_of_getElem? (i := 27) rfl))) (by decide) (backOf (W := 0) (own_eqN_rm l Z a0 hw [] b103  T137.heap n0 Z137 ) hZ (hw _ (List.mem_of_getElem? (i := 29) rfl)) (hw _ (List.mem_of_getElem? (i := 2) rfl)) (by decide) (by decide)) q150a q150c (g := (mkF m 111 #[.val (.int x0), .val (.int x1), .val (.int x2), .val (.int x3), .val (.int x4), .val (.int (own_a1 x1)), .val (.int (own_law_j11 x0 x2 x4)), .val (.int (own_law_j25 x1 x3 x4)), .val (.ref b103), .val (.ref b122), .val (.int (own_law_j77 x0 x1 x2 x3 x4)), .val (.int (own_ot x4)), .unset, .unset] [.null, (.ref b103)])) rfl (by rw [hml]; rfl) (Steps.refl _) (argsL := [.null]) (rest := []) (lenOf pd__Ljava_lang_Object__Z rfl) rfl (by show 2 * 0 + _ ≤ _; exact Nat.le_of_eq rfl) (hb hby at_111) (fun _ _ => ⟨rfl, rfl, (by decide : 2 + 0 ≤ _), (by decide : 4 + 0 ≤ _)⟩)
          dsimp only [Pt.U, Pt.locs, Pt.cells, Pt.slots] at X150 l150 y150 z150 st150 hQ150
          subst l150 y150 z150
          obtain ⟨rfl, N150q, e150⟩ := hQ150
          have N150 := Fr.app N137 N150q
          refine Goes.to (B := (T150.setTop (mkF m 114 #[.val (.int x0), .val (.int x1), .val (.int x2), .val (.int x3), .val (.int x4), .val (.int (own_a1 x1)), .val (.int (own_law_j11 x0 x2 x4)), .val (.int (own_law_j25 x1 x3 x4)), .val (.ref b103), .val (.ref b122), .val (.int (own_law_j77 x0 x1 x2 x3 x4)), .val (.int (own_ot x4)), .unset, .unset] [(.int (own_eqN_fn))]))) st150 ?_
          have hc151 : (own_eqN_fn) = (0 : Int32) := rfl
          refine Goes.step (B := (T150.setTop (mkF m 117 #[.val (.int x0), .val (.int x1), .val (.int x2), .val (.int x3), .val (.int x4), .val (.int (own_a1 x1)), .val (.int (own_law_j11 x0 x2 x4)), .val (.int (own_law_j25 x1 x3 x4)), .val (.ref b103), .val (.ref b122), .val (.int (own_law_j77 x0 x1 x2 x3 x4)), .val (.int (own_ot x4)), .unset, .unset] []))) (fun _ k => XS.ifNo X150.here hx rfl (hb hby at_114) rfl ((if0 _ _).trans (teq hc151).2) k) ?_
          refine Goes.step (B := (T150.setTop (mkF m 119 #[.val (.int x0), .val (.int x1), .val (.int x2), .val (.int x3), .val (.int x4), .val (.int (own_a1 x1)), .val (.int (own_law_j11 x0 x2 x4)), .val (.int (own_law_j25 x1 x3 x4)), .val (.ref b103), .val (.ref b122), .val (.int (own_law_j77 x0 x1 x2 x3 x4)), .val (.int (own_ot x4)), .unset, .unset] [(.ref b103)]))) (fun _ k => XS.aload X150.here hx rfl (hb hby at_117) rfl rfl k) ?_
          refine Goes.step (B := (T150.setTop (mkF m 121 #[.val (.int x0), .val (.int x1), .val (.int x2), .val (.int x3), .val (.int x4), .val (.int (own_a1 x1)), .val (.int (own_law_j11 x0 x2 x4)), .val (.int (own_law_j25 x1 x3 x4)), .val (.ref b103), .val (.ref b122), .val (.int (own_law_j77 x0 x1 x2 x3 x4)), .val (.int (own_ot x4)), .unset, .unset] [(.ref b103), (.ref b103)]))) (fun _ k => XS.aload X150.here hx rfl (hb hby at_119) rfl rfl k) ?_
          obtain ⟨cq152, kq152, q152a, q152b, q152c⟩ := isOf hZ e150 f144
          obtain ⟨_, _, ⟨T152, L152, k152, n152⟩, -, X152, ⟨Lc152, hQ152, l152, y152, z152⟩, st152⟩ := X150.virtualBack hx (y := (⟨"com/example/portcullis/portcullis/rules/BasicService", "equals", "(Ljava/lang/Object;)Z"⟩ : MethodName)) (z := (⟨"com/example/portcullis/portcullis/rules/BasicService", "equals", "(Ljava/lang/Object;)Z"⟩ : MethodName)) hown (mvT hZ (hw _ (List.mem_of_getElem? (i := 25) rfl))) (mvT hZ (hw _ (List.mem_of_getElem? (i := 26) rfl))) (notFace_of_selects (args := #[]) (mvT hZ (hw _ (List.mem_of_getElem? (i := 28) rfl)))) (mvT hZ (hw _ (List.mem_of_getElem? (i := 28) rfl))) (mvT hZ (hw _ (List.mem_of_getElem? (i := 27) rfl))) (by decide) (backOf (W := 0) (own_eqS_rm l Z a0 hw [] b103 b103 (own_kd aT aB x0) (own_kd aT aB x0) (own_a1 x1) (own_a1 x1) T137.heap n0 Z137 f144 f145 f145 f146 f146 rfl) hZ (hw _ (List.mem_of_getElem? (i := 29) rfl)) (hw _ (List.mem_of_getElem? (i := 2) rfl)) (by decide) (by decide)) q152a q152c (g := (mkF m 121 #[.val (.int x0), .val (.int x1), .val (.int x2), .val (.int x3), .val (.int x4), .val (.int (own_a1 x1)), .val (.int (own_law_j11 x0 x2 x4)), .val (.int (own_law_j25 x1 x3 x4)), .val (.ref b103), .val (.ref b122), .val (.int (own_law_j77 x0 x1 x2 x3 x4)), .val (.int (own_ot x4)), .unset, .unset] [(.ref b103), (.ref b103)])) rfl (by rw [hml]; rfl) (Steps.refl _) (argsL := [(.ref b103)]) (rest := []) (lenOf pd__Ljava_lang_Object__Z rfl) rfl (by show 2 * 0 + _ ≤ _; exact Nat.le_of_eq rfl) (hb hby at_121) (fun _ _ => ⟨rfl, e150, (by decide : 2 + 0 ≤ _), (by decide : 4 + 0 ≤ _)⟩)
          dsimp only [Pt.U, Pt.locs, Pt.cells, Pt.slots] at X152 l152 y152 z152 st152 hQ152
          subst l152 y152 z152
          obtain ⟨rfl, N152q, e152⟩ := hQ152
          have N152 := Fr.app N150 N152q
          refine Goes.to (B := (T152.setTop (mkF m 124 #[.val (.int x0), .val (.int x1), .val (.int x2), .val (.int x3), .val (.int x4), .val (.int (own_a1 x1)), .val (.int (own_law_j11 x0 x2 x4)), .val (.int (own_law_j25 x1 x3 x4)), .val (.ref b103), .val (.ref b122), .val (.int (own_law_j77 x0 x1 x2 x3 x4)), .val (.int (own_ot x4)), .unset, .unset] [(.int (own_eqS_fn (own_a1 x1) (own_a1 x1)))]))) st152 ?_
          have hc153 : ¬ ((own_eqS_fn (own_a1 x1) (own_a1 x1)) = (0 : Int32)) := own_se _
          refine Goes.step (B := (T152.setTop (mkF m 127 #[.val (.int x0), .val (.int x1), .val (.int x2), .val (.int x3), .val (.int x4), .val (.int (own_a1 x1)), .val (.int (own_law_j11 x0 x2 x4)), .val (.int (own_law_j25 x1 x3 x4)), .val (.ref b103), .val (.ref b122), .val (.int (own_law_j77 x0 x1 x2 x3 x4)), .val (.int (own_ot x4)), .unset, .unset] []))) (fun _ k => XS.ifNo X152.here hx rfl (hb hby at_124) rfl ((if0 _ _).trans (feq hc153).1) k) ?_
          refine Goes.step (B := (T152.setTop (mkF m 128 #[.val (.int x0), .val (.int x1), .val (.int x2), .val (.int x3), .val (.int x4), .val (.int (own_a1 x1)), .val (.int (own_law_j11 x0 x2 x4)), .val (.int (own_law_j25 x1 x3 x4)), .val (.ref b103), .val (.ref b122), .val (.int (own_law_j77 x0 x1 x2 x3 x4)), .val (.int (own_ot x4)), .unset, .unset] [(.int (1 : Int32))]))) (fun _ k => XS.iconst X152.here hx rfl (hb hby at_127) k) ?_
          refine Goes.step (B := (T152.setTop (mkF m 132 #[.val (.int x0), .val (.int x1), .val (.int x2), .val (.int x3), .val (.int x4), .val (.int (own_a1 x1)), .val (.int (own_law_j11 x0 x2 x4)), .val (.int (own_law_j25 x1 x3 x4)), .val (.ref b103), .val (.ref b122), .val (.int (own_law_j77 x0 x1 x2 x3 x4)), .val (.int (own_ot x4)), .unset, .unset] [(.int (1 : Int32))]))) (fun _ k => XS.goto X152.here hx rfl (pc0 := 128) (pc' := 132) rfl (hb hby at_128) (by decide) (by decide) k) ?_
          refine Goes.retN X152 hx hlk (t := .boolean) hrt (by simp) (hb hby at_132) ?_ (by decide) (by decide)
          rw [e152]
          exact ⟨rfl, N152⟩
        · refine Goes.step (B := (T137.setTop (mkF m 133 #[.val (.int x0), .val (.int x1), .val (.int x2), .val (.int x3), .val (.int x4), .val (.int (own_a1 x1)), .val (.int (own_law_j11 x0 x2 x4)), .val (.int (own_law_j25 x1 x3 x4)), .val (.ref b103), .val (.ref b122), .val (.int (own_law_j77 x0 x1 x2 x3 x4)), .val (.int (own_ot x4)), .unset, .unset] []))) (fun _ k => XS.icmpYes X137.here hx rfl (pc0 := 105) (pc' := 133) rfl (hb hby at_105) rfl (feq hc149).2 (by decide) (by decide) k) ?_
          refine Goes.step (B := (T137.setTop (mkF m 135 #[.val (.int x0), .val (.int x1), .val (.int x2), .val (.int x3), .val (.int x4), .val (.int (own_a1 x1)), .val (.int (own_law_j11 x0 x2 x4)), .val (.int (own_law_j25 x1 x3 x4)), .val (.ref b103), .val (.ref b122), .val (.int (own_law_j77 x0 x1 x2 x3 x4)), .val (.int (own_ot x4)), .unset, .unset] [(.int (own_ot x4))]))) (fun _ k => XS.iload X137.here hx rfl (hb hby at_133) rfl k) ?_
          refine Goes.step (B := (T137.setTop (mkF m 136 #[.val (.int x0), .val (.int x1), .val (.int x2), .val (.int x3), .val (.int x4), .val (.int (own_a1 x1)), .val (.int (own_law_j11 x0 x2 x4)), .val (.int (own_law_j25 x1 x3 x4)), .val (.ref b103), .val (.ref b122), .val (.int (own_law_j77 x0 x1 x2 x3 x4)), .val (.int (own_ot x4)), .unset, .unset] [(.int (2 : Int32)), (.int (own_ot x4))]))) (fun _ k => XS.iconst X137.here hx rfl (hb hby at_135) k) ?_
          by_cases hc154 : (own_ot x4) = (2 : Int32)
          · refine Goes.step (B := (T137.setTop (mkF m 139 #[.val (.int x0), .val (.int x1), .val (.int x2), .val (.int x3), .val (.int x4), .val (.int (own_a1 x1)), .val (.int (own_law_j11 x0 x2 x4)), .val (.int (own_law_j25 x1 x3 x4)), .val (.ref b103), .val (.ref b122), .val (.int (own_law_j77 x0 x1 x2 x3 x4)), .val (.int (own_ot x4)), .unset, .unset] []))) (fun _ k => XS.icmpNo X137.here hx rfl (hb hby at_136) rfl (teq hc154).2 k) ?_
            refine Goes.step (B := (T137.setTop (mkF m 140 #[.val (.int x0), .val (.int x1), .val (.int x2), .val (.int x3), .val (.int x4), .val (.int (own_a1 x1)), .val (.int (own_law_j11 x0 x2 x4)), .val (.int (own_law_j25 x1 x3 x4)), .val (.ref b103), .val (.ref b122), .val (.int (own_law_j77 x0 x1 x2 x3 x4)), .val (.int (own_ot x4)), .unset, .unset] [(.int (1 : Int32))]))) (fun _ k => XS.iconst X137.here hx rfl (hb hby at_139) k) ?_
            obtain ⟨T155, h155, k155, X155, e155, E155, A155, st155⟩ := newP X137 hx hZ (hw _ (List.mem_of_getElem? (i := 34) rfl)) rfl (g := (mkF m 140 #[.val (.int x0), .val (.int x1), .val (.int x2), .val (.int x3), .val (.int x4), .val (.int (own_a1 x1)), .val (.int (own_law_j11 x0 x2 x4)), .val (.int (own_law_j25 x1 x3 x4)), .val (.ref b103), .val (.ref b122), .val (.int (own_law_j77 x0 x1 x2 x3 x4)), .val (.int (own_ot x4)), .unset, .unset] [(.int (1 : Int32))])) rfl (hb hby at_140) rfl (by decide) (cap := 1) (by decide) (by decide) (by decide) (by decide)
            obtain ⟨b155, g155⟩ : ∃ z, z = T137.heap.size := ⟨_, rfl⟩
            rw [← g155] at A155 st155
            have gn155 : n0 ≤ b155 := Nat.le_trans Z137 (Nat.le_of_eq g155.symm)
            have sz155 : h0.size ≤ b155 := Nat.le_trans K137.1 (Nat.le_of_eq g155.symm)
            have ne156 : cA ≠ b155 := Nat.ne_of_lt (Nat.lt_of_lt_of_le f143.lt (Nat.le_of_eq g155.symm))
            have ne157 : b103 ≠ b155 := Nat.ne_of_lt (Nat.lt_of_lt_of_le f144.lt (Nat.le_of_eq g155.symm))
            have ne158 : b122 ≠ b155 := Nat.ne_of_lt (Nat.lt_of_lt_of_le p137_0.lt (Nat.le_of_eq g155.symm))
            have f159 := f138.ext E155
            have f160 := f139.ext E155
            have f161 := f140.ext E155
            have f162 := f141.ext E155
            have f163 := f142.ext E155
            have f164 := f143.ext E155
            have f165 := f144.ext E155
            have f166 := f145.ext E155
            have f167 := f146.ext E155
            have f168 := p137_0.ext E155
            have f169 := p137_1.ext E155
            have f170 := p137_2.ext E155
            have V155 : Arv Z h155 b155 k155 .char (1 : Int32) [(.int (0 : Int32))] (.int (0 : Int32)) := (Arv.new A155 (by decide)).pad (pad_rep [] (.int (0 : Int32)) 1)
            have Z155 : n0 ≤ h155.size := Nat.le_trans Z137 E155.1
            have K155 : Keep h0 h155 [] := K137.ext E155
            refine Goes.step (B := (T155.setTop (mkF m 142 #[.val (.int x0), .val (.int x1), .val (.int x2), .val (.int x3), .val (.int x4), .val (.int (own_a1 x1)), .val (.int (own_law_j11 x0 x2 x4)), .val (.int (own_law_j25 x1 x3 x4)), .val (.ref b103), .val (.ref b122), .val (.int (own_law_j77 x0 x1 x2 x3 x4)), .val (.int (own_ot x4)), .unset, .unset] [(.ref b155)]))) (fun _ k => st155 _ k) ?_
            refine Goes.step (B := (T155.setTop (mkF m 143 #[.val (.int x0), .val (.int x1), .val (.int x2), .val (.int x3), .val (.int x4), .val (.int (own_a1 x1)), .val (.int (own_law_j11 x0 x2 x4)), .val (.int (own_law_j25 x1 x3 x4)), .val (.ref b103), .val (.ref b122), .val (.int (own_law_j77 x0 x1 x2 x3 x4)), .val (.int (own_ot x4)), .unset, .unset] [(.ref b155), (.ref b155)]))) (fun _ k => XS.dup X155.here hx rfl (hb hby at_142) rfl rfl k) ?_
            refine Goes.step (B := (T155.setTop (mkF m 144 #[.val (.int x0), .val (.int x1), .val (.int x2), .val (.int x3), .val (.int x4), .val (.int (own_a1 x1)), .val (.int (own_law_j11 x0 x2 x4)), .val (.int (own_law_j25 x1 x3 x4)), .val (.ref b103), .val (.ref b122), .val (.int (own_law_j77 x0 x1 x2 x3 x4)), .val (.int (own_ot x4)), .unset, .unset] [(.int (0 : Int32)), (.ref b155), (.ref b155)]))) (fun _ k => XS.iconst X155.here hx rfl (hb hby at_143) k) ?_
            refine Goes.step (B := (T155.setTop (mkF m 145 #[.val (.int x0), .val (.int x1), .val (.int x2), .val (.int x3), .val (.int x4), .val (.int (own_a1 x1)), .val (.int (own_law_j11 x0 x2 x4)), .val (.int (own_law_j25 x1 x3 x4)), .val (.ref b103), .val (.ref b122), .val (.int (own_law_j77 x0 x1 x2 x3 x4)), .val (.int (own_ot x4)), .unset, .unset] [(.int x3), (.int (0 : Int32)), (.ref b155), (.ref b155)]))) (fun _ k => XS.iloadN X155.here hx rfl (hb hby at_144) rfl k) ?_
            refine Goes.step (B := (T155.setTop (mkF m 148 #[.val (.int x0), .val (.int x1), .val (.int x2), .val (.int x3), .val (.int x4), .val (.int (own_a1 x1)), .val (.int (own_law_j11 x0 x2 x4)), .val (.int (own_law_j25 x1 x3 x4)), .val (.ref b103), .val (.ref b122), .val (.int (own_law_j77 x0 x1 x2 x3 x4)), .val (.int (own_ot x4)), .unset, .unset] [(.int (255 : Int32)), (.int x3), (.int (0 : Int32)), (.ref b155), (.ref b155)]))) (fun _ k => XS.sipush X155.here hx rfl (hb hby at_145) k) ?_
            refine Goes.step (B := (T155.setTop (mkF m 149 #[.val (.int x0), .val (.int x1), .val (.int x2), .val (.int x3), .val (.int x4), .val (.int (own_a1 x1)), .val (.int (own_law_j11 x0 x2 x4)), .val (.int (own_law_j25 x1 x3 x4)), .val (.ref b103), .val (.ref b122), .val (.int (own_law_j77 x0 x1 x2 x3 x4)), .val (.int (own_ot x4)), .unset, .unset] [(.int (x3 &&& (255 : Int32))), (.int (0 : Int32)), (.ref b155), (.ref b155)]))) (fun _ k => XS.iand X155.here hx rfl (hb hby at_148) rfl k) ?_
            refine Goes.step (B := (T155.setTop (mkF m 150 #[.val (.int x0), .val (.int x1), .val (.int x2), .val (.int x3), .val (.int x4), .val (.int (own_a1 x1)), .val (.int (own_law_j11 x0 x2 x4)), .val (.int (own_law_j25 x1 x3 x4)), .val (.ref b103), .val (.ref b122), .val (.int (own_law_j77 x0 x1 x2 x3 x4)), .val (.int (own_ot x4)), .unset, .unset] [(.int (x3 &&& (255 : Int32)).toUInt32.toUInt16.toUInt32.toInt32), (.int (0 : Int32)), (.ref b155), (.ref b155)]))) (fun _ k => XS.i2c X155.here hx rfl (hb hby at_149) rfl k) ?_
            obtain ⟨cl171, Ar171, q171, S171, M171, H171, G171⟩ := id V155
            have hin171 : ¬ ((0 : Int32) < 0 ∨ cl171.slots.size ≤ ((0 : Int32)).toNatClampNeg) := inb_of S171 ⟨by decide, by decide⟩
            obtain ⟨T171, h171, X171, e171, W171, st171⟩ := stC X155 hx hZ e155 Ar171 (j := (0 : Int32)) hin171 (g := (mkF m 150 #[.val (.int x0), .val (.int x1), .val (.int x2), .val (.int x3), .val (.int x4), .val (.int (own_a1 x1)), .val (.int (own_law_j11 x0 x2 x4)), .val (.int (own_law_j25 x1 x3 x4)), .val (.ref b103), .val (.ref b122), .val (.int (own_law_j77 x0 x1 x2 x3 x4)), .val (.int (own_ot x4)), .unset, .unset] [(.int (x3 &&& (255 : Int32)).toUInt32.toUInt16.toUInt32.toInt32), (.int (0 : Int32)), (.ref b155), (.ref b155)])) rfl rfl (hb hby at_150)
            have f172 := f159.wr W171
            have f173 := f160.wr W171
            have f174 := f161.wr W171
            have f175 := f162.wr W171
            have f176 := f163.wr W171
            have f177 := f164.other W171 ne156
            have f178 := f165.wr W171
            have f179 := f166.other W171 (Or.inl ne157)
            have f180 := f167.other W171 (Or.inl ne157)
            have f181 := f168.wr W171
            have f182 := f169.other W171 (Or.inl ne158)
            have f183 := f170.other W171 (Or.inl ne158)
            have N171 := Fr.snoc X171 N137 gn155
            have K171 : Keep h0 h171 [] := K155.wr W171 (Or.inr sz155)
            have Z171 : n0 ≤ h171.size := Nat.le_trans Z155 (Nat.le_of_eq W171.size.symm)
            have V171 : Arv Z h171 b155 k155 .char (1 : Int32) [(.int (nar .char (x3 &&& (255 : Int32)).toUInt32.toUInt16.toUInt32.toInt32))] (.int (0 : Int32)) := Arv.set Ar171 q171 S171 M171 H171 G171 (fits_nar_char _) W171 0 rfl (Nat.le_of_ble_eq_true rfl)
            refine Goes.step (B := (T171.setTop (mkF m 151 #[.val (.int x0), .val (.int x1), .val (.int x2), .val (.int x3), .val (.int x4), .val (.int (own_a1 x1)), .val (.int (own_law_j11 x0 x2 x4)), .val (.int (own_law_j25 x1 x3 x4)), .val (.ref b103), .val (.ref b122), .val (.int (own_law_j77 x0 x1 x2 x3 x4)), .val (.int (own_ot x4)), .unset, .unset] [(.ref b155)]))) (fun _ k => st171 _ k) ?_
            refine Goes.step (B := (T171.setTop (mkF m 153 #[.val (.int x0), .val (.int x1), .val (.int x2), .val (.int x3), .val (.int x4), .val (.int (own_a1 x1)), .val (.int (own_law_j11 x0 x2 x4)), .val (.int (own_law_j25 x1 x3 x4)), .val (.ref b103), .val (.ref b122), .val (.int (own_law_j77 x0 x1 x2 x3 x4)), .val (.int (own_ot x4)), .val (.ref b155), .unset] []))) (fun _ k => XS.astore X171.here hx rfl (hb hby at_151) rfl rfl (l' := #[.val (.int x0), .val (.int x1), .val (.int x2), .val (.int x3), .val (.int x4), .val (.int (own_a1 x1)), .val (.int (own_law_j11 x0 x2 x4)), .val (.int (own_law_j25 x1 x3 x4)), .val (.ref b103), .val (.ref b122), .val (.int (own_law_j77 x0 x1 x2 x3 x4)), .val (.int (own_ot x4)), .val (.ref b155), .unset]) rfl k) ?_
            obtain ⟨T184, h184, X184, e184, E184, A184, D184, -, st184⟩ := newO X171 hx hZ hown (hw _ (List.mem_of_getElem? (i := 35) rfl)) (hw _ (List.mem_of_getElem? (i := 36) rfl)) (hw _ (List.mem_of_getElem? (i := 37) rfl)) e171 (g := (mkF m 153 #[.val (.int x0), .val (.int x1), .val (.int x2), .val (.int x3), .val (.int x4), .val (.int (own_a1 x1)), .val (.int (own_law_j11 x0 x2 x4)), .val (.int (own_law_j25 x1 x3 x4)), .val (.ref b103), .val (.ref b122), .val (.int (own_law_j77 x0 x1 x2 x3 x4)), .val (.int (own_ot x4)), .val (.ref b155), .unset] [])) rfl (hb hby at_153) (by decide) (by decide)
            obtain ⟨b184, g184⟩ : ∃ z, z = h171.size := ⟨_, rfl⟩
            rw [← g184] at A184 D184 st184
            have gn184 : n0 ≤ b184 := Nat.le_trans Z171 (Nat.le_of_eq g184.symm)
            have sz184 : h0.size ≤ b184 := Nat.le_trans K171.1 (Nat.le_of_eq g184.symm)
            have ne185 : cA ≠ b184 := Nat.ne_of_lt (Nat.lt_of_lt_of_le f177.lt (Nat.le_of_eq g184.symm))
            have ne186 : b103 ≠ b184 := Nat.ne_of_lt (Nat.lt_of_lt_of_le f178.lt (Nat.le_of_eq g184.symm))
            have ne187 : b122 ≠ b184 := Nat.ne_of_lt (Nat.lt_of_lt_of_le f181.lt (Nat.le_of_eq g184.symm))
            have ne188 : b155 ≠ b184 := Nat.ne_of_lt (Nat.lt_of_lt_of_le V171.lt (Nat.le_of_eq g184.symm))
            have f189 := f172.ext E184
            have f190 := f173.ext E184
            have f191 := f174.ext E184
            have f192 := f175.ext E184
            have f193 := f176.ext E184
            have f194 := f177.ext E184
            have f195 := f178.ext E184
            have f196 := f179.ext E184
            have f197 := f180.ext E184
            have f198 := f181.ext E184
            have f199 := f182.ext E184
            have f200 := f183.ext E184
            have f201 := V171.ext E184
            have f202 : Fld Z h184 b184 "java/lang/String" "coder" "B" (.int (0 : Int32)) := D184 (Or.inr (hw _ (List.mem_of_getElem? (i := 59) rfl))) (ty := .byte) (by decide)
            have f203 : Fld Z h184 b184 "java/lang/String" "value" "[B" .null := D184 (Or.inr (hw _ (List.mem_of_getElem? (i := 61) rfl))) (ty := (.array .byte)) (by decide)
            have Z184 : n0 ≤ h184.size := Nat.le_trans Z171 E184.1
            have K184 : Keep h0 h184 [] := K171.ext E184
            refine Goes.step (B := (T184.setTop (mkF m 156 #[.val (.int x0), .val (.int x1), .val (.int x2), .val (.int x3), .val (.int x4), .val (.int (own_a1 x1)), .val (.int (own_law_j11 x0 x2 x4)), .val (.int (own_law_j25 x1 x3 x4)), .val (.ref b103), .val (.ref b122), .val (.int (own_law_j77 x0 x1 x2 x3 x4)), .val (.int (own_ot x4)), .val (.ref b155), .unset] [(.ref b184)]))) (fun _ k => st184 _ k) ?_
            refine Goes.step (B := (T184.setTop (mkF m 157 #[.val (.int x0), .val (.int x1), .val (.int x2), .val (.int x3), .val (.int x4), .val (.int (own_a1 x1)), .val (.int (own_law_j11 x0 x2 x4)), .val (.int (own_law_j25 x1 x3 x4)), .val (.ref b103), .val (.ref b122), .val (.int (own_law_j77 x0 x1 x2 x3 x4)), .val (.int (own_ot x4)), .val (.ref b155), .unset] [(.ref b184), (.ref b184)]))) (fun _ k => XS.dup X184.here hx rfl (hb hby at_156) rfl rfl k) ?_
            refine Goes.step (B := (T184.setTop (mkF m 159 #[.val (.int x0), .val (.int x1), .val (.int x2), .val (.int x3), .val (.int x4), .val (.int (own_a1 x1)), .val (.int (own_law_j11 x0 x2 x4)), .val (.int (own_law_j25 x1 x3 x4)), .val (.ref b103), .val (.ref b122), .val (.int (own_law_j77 x0 x1 x2 x3 x4)), .val (.int (own_ot x4)), .val (.ref b155), .unset] [(.ref b155), (.ref b184), (.ref b184)]))) (fun _ k => XS.aload X184.here hx rfl (hb hby at_157) rfl rfl k) ?_
            obtain ⟨_, _, ⟨T204, L204, k204, n204⟩, -, X204, ⟨Lc204, hQ204, l204, y204, z204⟩, st204⟩ := X184.specialBack hx (y := (⟨"java/lang/String", "<init>", "([C)V"⟩ : MethodName)) rfl hown (mvT hZ (hw _ (List.mem_of_getElem? (i := 38) rfl))) (mvT hZ (hw _ (List.mem_of_getElem? (i := 39) rfl))) (mvT hZ (hw _ (List.mem_of_getElem? (i := 40) rfl))) (by decide) (backOf (W := 1) (own_s1_rm l Z a0 hw [] b184 b155 w0 k155 (nar .char (x3 &&& (255 : Int32)).toUInt32.toUInt16.toUInt32.toInt32) h184 n0 Z184 A184 f203 f202 f191 f201 gn184 ne188 hw0 (own_ch x3)) hZ (hw _ (List.mem_of_getElem? (i := 40) rfl)) (hw _ (List.mem_of_getElem? (i := 37) rfl)) (by decide) (by decide)) (g := (mkF m 159 #[.val (.int x0), .val (.int x1), .val (.int x2), .val (.int x3), .val (.int x4), .val (.int (own_a1 x1)), .val (.int (own_law_j11 x0 x2 x4)), .val (.int (own_law_j25 x1 x3 x4)), .val (.ref b103), .val (.ref b122), .val (.int (own_law_j77 x0 x1 x2 x3 x4)), .val (.int (own_ot x4)), .val (.ref b155), .unset] [(.ref b155), (.ref b184), (.ref b184)])) rfl (by rw [hml]; rfl) (Steps.refl _) (a := b184) (argsL := [(.ref b155)]) (rest := [(.ref b184)]) (lenOf pd__AC_V rfl) rfl (by show 2 * 0 + _ ≤ _; exact Nat.le_of_eq rfl) (hb hby at_159) (fun _ _ => ⟨rfl, e184, (by decide : 4 + 1 ≤ _), (by decide : 9 + 1 ≤ _)⟩)
            dsimp only [Pt.U, Pt.locs, Pt.cells, Pt.slots] at X204 l204 y204 z204 st204 hQ204
            subst l204 y204 z204
            obtain ⟨rfl, N204q, K204q, p204_0⟩ := hQ204
            have N204 := Fr.app N171 N204q
            have f205 := f189.keepN K204q (fun y q => by cases List.mem_singleton.mp q; exact A184.plainN)
            have f206 := f190.keepN K204q (fun y q => by cases List.mem_singleton.mp q; exact A184.plainN)
            have f207 := f191.keepN K204q (fun y q => by cases List.mem_singleton.mp q; exact A184.plainN)
            have f208 := f192.keepN K204q (fun y q => by cases List.mem_singleton.mp q; exact A184.plainN)
            have f209 := f193.keepN K204q (fun y q => by cases List.mem_singleton.mp q; exact A184.plainN)
            have f210 := f194.keep K204q (nm1 ne185)
            have f211 := f195.keep K204q
            have f212 := f196.keep K204q (nm1 ne186)
            have f213 := f197.keep K204q (nm1 ne186)
            have f214 := f198.keep K204q
            have f215 := f199.keep K204q (nm1 ne187)
            have f216 := f200.keep K204q (nm1 ne187)
            have f217 := f201.keep K204q (nm1 ne188)
            have f218 := A184.keep K204q
            have K204 : Keep h0 T204.heap [] := Keep.trans K184 K204q (fun y q => by cases List.mem_singleton.mp q; exact (Or.inr sz184))
            have Z204 : n0 ≤ T204.heap.size := Nat.le_trans Z184 K204q.1
            refine Goes.to (B := (T204.setTop (mkF m 162 #[.val (.int x0), .val (.int x1), .val (.int x2), .val (.int x3), .val (.int x4), .val (.int (own_a1 x1)), .val (.int (own_law_j11 x0 x2 x4)), .val (.int (own_law_j25 x1 x3 x4)), .val (.ref b103), .val (.ref b122), .val (.int (own_law_j77 x0 x1 x2 x3 x4)), .val (.int (own_ot x4)), .val (.ref b155), .unset] [(.ref b184)]))) st204 ?_
            refine Goes.step (B := (T204.setTop (mkF m 164 #[.val (.int x0), .val (.int x1), .val (.int x2), .val (.int x3), .val (.int x4), .val (.int (own_a1 x1)), .val (.int (own_law_j11 x0 x2 x4)), .val (.int (own_law_j25 x1 x3 x4)), .val (.ref b103), .val (.ref b122), .val (.int (own_law_j77 x0 x1 x2 x3 x4)), .val (.int (own_ot x4)), .val (.ref b155), .val (.ref b184)] []))) (fun _ k => XS.astore X204.here hx rfl (hb hby at_162) rfl rfl (l' := #[.val (.int x0), .val (.int x1), .val (.int x2), .val (.int x3), .val (.int x4), .val (.int (own_a1 x1)), .val (.int (own_law_j11 x0 x2 x4)), .val (.int (own_law_j25 x1 x3 x4)), .val (.ref b103), .val (.ref b122), .val (.int (own_law_j77 x0 x1 x2 x3 x4)), .val (.int (own_ot x4)), .val (.ref b155), .val (.ref b184)]) rfl k) ?_
            refine Goes.step (B := (T204.setTop (mkF m 166 #[.val (.int x0), .val (.int x1), .val (.int x2), .val (.int x3), .val (.int x4), .val (.int (own_a1 x1)), .val (.int (own_law_j11 x0 x2 x4)), .val (.int (own_law_j25 x1 x3 x4)), .val (.ref b103), .val (.ref b122), .val (.int (own_law_j77 x0 x1 x2 x3 x4)), .val (.int (own_ot x4)), .val (.ref b155), .val (.ref b184)] [(.ref b103)]))) (fun _ k => XS.aload X204.here hx rfl (hb hby at_164) rfl rfl k) ?_
            refine Goes.step (B := (T204.setTop (mkF m 168 #[.val (.int x0), .val (.int x1), .val (.int x2), .val (.int x3), .val (.int x4), .val (.int (own_a1 x1)), .val (.int (own_law_j11 x0 x2 x4)), .val (.int (own_law_j25 x1 x3 x4)), .val (.ref b103), .val (.ref b122), .val (.int (own_law_j77 x0 x1 x2 x3 x4)), .val (.int (own_ot x4)), .val (.ref b155), .val (.ref b184)] [(.ref b184), (.ref b103)]))) (fun _ k => XS.aload X204.here hx rfl (hb hby at_166) rfl rfl k) ?_
            obtain ⟨cq219, kq219, q219a, q219b, q219c⟩ := isOf hZ rfl f211
            obtain ⟨_, _, ⟨T219, L219, k219, n219⟩, -, X219, ⟨Lc219, hQ219, l219, y219, z219⟩, st219⟩ := X204.virtualBack hx (y := (⟨"com/example/portcullis/portcullis/rules/BasicService", "equals", "(Ljava/lang/Object;)Z"⟩ : MethodName)) (z := (⟨"com/example/portcullis/portcullis/rules/BasicService", "equals", "(Ljava/lang/Object;)Z"⟩ : MethodName)) hown (mvT hZ (hw _ (List.mem_of_getElem? (i := 25) rfl))) (mvT hZ (hw _ (List.mem_of_getElem? (i := 26) rfl))) (notFace_of_selects (args := #[]) (mvT hZ (hw _ (List.mem_of_getElem? (i := 28) rfl)))) (mvT hZ (hw _ (List.mem_of_getElem? (i := 28) rfl))) (mvT hZ (hw _ (List.mem_of_getElem? (i := 27) rfl))) (by decide) (backOf (W := 0) (own_eqX_rm l Z a0 hw [] b103 b184  T204.heap n0 Z204 p204_0) hZ (hw _ (List.mem_of_getElem? (i := 29) rfl)) (hw _ (List.mem_of_getElem? (i := 2) rfl)) (by decide) (by decide)) q219a q219c (g := (mkF m 168 #[.val (.int x0), .val (.int x1), .val (.int x2), .val (.int x3), .val (.int x4), .val (.int (own_a1 x1)), .val (.int (own_law_j11 x0 x2 x4)), .val (.int (own_law_j25 x1 x3 x4)), .val (.ref b103), .val (.ref b122), .val (.int (own_law_j77 x0 x1 x2 x3 x4)), .val (.int (own_ot x4)), .val (.ref b155), .val (.ref b184)] [(.ref b184), (.ref b103)])) rfl (by rw [hml]; rfl) (Steps.refl _) (argsL := [(.ref b184)]) (rest := []) (lenOf pd__Ljava_lang_Object__Z rfl) rfl (by show 2 * 0 + _ ≤ _; exact Nat.le_of_eq rfl) (hb hby at_168) (fun _ _ => ⟨rfl, rfl, (by decide : 5 + 0 ≤ _), (by decide : 10 + 0 ≤ _)⟩)
            dsimp only [Pt.U, Pt.locs, Pt.cells, Pt.slots] at X219 l219 y219 z219 st219 hQ219
            subst l219 y219 z219
            obtain ⟨rfl, N219q, e219⟩ := hQ219
            have N219 := Fr.app N204 N219q
            refine Goes.to (B := (T219.setTop (mkF m 171 #[.val (.int x0), .val (.int x1), .val (.int x2), .val (.int x3), .val (.int x4), .val (.int (own_a1 x1)), .val (.int (own_law_j11 x0 x2 x4)), .val (.int (own_law_j25 x1 x3 x4)), .val (.ref b103), .val (.ref b122), .val (.int (own_law_j77 x0 x1 x2 x3 x4)), .val (.int (own_ot x4)), .val (.ref b155), .val (.ref b184)] [(.int (own_eqX_fn))]))) st219 ?_
            have hc220 : (own_eqX_fn) = (0 : Int32) := rfl
            refine Goes.step (B := (T219.setTop (mkF m 174 #[.val (.int x0), .val (.int x1), .val (.int x2), .val (.int x3), .val (.int x4), .val (.int (own_a1 x1)), .val (.int (own_law_j11 x0 x2 x4)), .val (.int (own_law_j25 x1 x3 x4)), .val (.ref b103), .val (.ref b122), .val (.int (own_law_j77 x0 x1 x2 x3 x4)), .val (.int (own_ot x4)), .val (.ref b155), .val (.ref b184)] []))) (fun _ k => XS.ifNo X219.here hx rfl (hb hby at_171) rfl ((if0 _ _).trans (teq hc220).2) k) ?_
            refine Goes.step (B := (T219.setTop (mkF m 175 #[.val (.int x0), .val (.int x1), .val (.int x2), .val (.int x3), .val (.int x4), .val (.int (own_a1 x1)), .val (.int (own_law_j11 x0 x2 x4)), .val (.int (own_law_j25 x1 x3 x4)), .val (.ref b103), .val (.ref b122), .val (.int (own_law_j77 x0 x1 x2 x3 x4)), .val (.int (own_ot x4)), .val (.ref b155), .val (.ref b184)] [(.int (1 : Int32))]))) (fun _ k => XS.iconst X219.here hx rfl (hb hby at_174) k) ?_
            refine Goes.step (B := (T219.setTop (mkF m 179 #[.val (.int x0), .val (.int x1), .val (.int x2), .val (.int x3), .val (.int x4), .val (.int (own_a1 x1)), .val (.int (own_law_j11 x0 x2 x4)), .val (.int (own_law_j25 x1 x3 x4)), .val (.ref b103), .val (.ref b122), .val (.int (own_law_j77 x0 x1 x2 x3 x4)), .val (.int (own_ot x4)), .val (.ref b155), .val (.ref b184)] [(.int (1 : Int32))]))) (fun _ k => XS.goto X219.here hx rfl (pc0 := 175) (pc' := 179) rfl (hb hby at_175) (by decide) (by decide) k) ?_
            refine Goes.retN X219 hx hlk (t := .boolean) hrt (by simp) (hb hby at_179) ?_ (by decide) (by decide)
            rw [e219]
            exact ⟨rfl, N219⟩
          · refine Goes.step (B := (T137.setTop (mkF m 180 #[.val (.int x0), .val (.int x1), .val (.int x2), .val (.int x3), .val (.int x4), .val (.int (own_a1 x1)), .val (.int (own_law_j11 x0 x2 x4)), .val (.int (own_law_j25 x1 x3 x4)), .val (.ref b103), .val (.ref b122), .val (.int (own_law_j77 x0 x1 x2 x3 x4)), .val (.int (own_ot x4)), .unset, .unset] []))) (fun _ k => XS.icmpYes X137.here hx rfl (pc0 := 136) (pc' := 180) rfl (hb hby at_136) rfl (feq hc154).2 (by decide) (by decide) k) ?_
            refine Goes.step (B := (T137.setTop (mkF m 182 #[.val (.int x0), .val (.int x1), .val (.int x2), .val (.int x3), .val (.int x4), .val (.int (own_a1 x1)), .val (.int (own_law_j11 x0 x2 x4)), .val (.int (own_law_j25 x1 x3 x4)), .val (.ref b103), .val (.ref b122), .val (.int (own_law_j77 x0 x1 x2 x3 x4)), .val (.int (own_ot x4)), .unset, .unset] [(.int (own_ot x4))]))) (fun _ k => XS.iload X137.here hx rfl (hb hby at_180) rfl k) ?_
            refine Goes.step (B := (T137.setTop (mkF m 183 #[.val (.int x0), .val (.int x1), .val (.int x2), .val (.int x3), .val (.int x4), .val (.int (own_a1 x1)), .val (.int (own_law_j11 x0 x2 x4)), .val (.int (own_law_j25 x1 x3 x4)), .val (.ref b103), .val (.ref b122), .val (.int (own_law_j77 x0 x1 x2 x3 x4)), .val (.int (own_ot x4)), .unset, .unset] [(.int (3 : Int32)), (.int (own_ot x4))]))) (fun _ k => XS.iconst X137.here hx rfl (hb hby at_182) k) ?_
            by_cases hc221 : (own_ot x4) = (3 : Int32)
            · refine Goes.step (B := (T137.setTop (mkF m 186 #[.val (.int x0), .val (.int x1), .val (.int x2), .val (.int x3), .val (.int x4), .val (.int (own_a1 x1)), .val (.int (own_law_j11 x0 x2 x4)), .val (.int (own_law_j25 x1 x3 x4)), .val (.ref b103), .val (.ref b122), .val (.int (own_law_j77 x0 x1 x2 x3 x4)), .val (.int (own_ot x4)), .unset, .unset] []))) (fun _ k => XS.icmpNo X137.here hx rfl (hb hby at_183) rfl (teq hc221).2 k) ?_
              refine Goes.step (B := (T137.setTop (mkF m 187 #[.val (.int x0), .val (.int x1), .val (.int x2), .val (.int x3), .val (.int x4), .val (.int (own_a1 x1)), .val (.int (own_law_j11 x0 x2 x4)), .val (.int (own_law_j25 x1 x3 x4)), .val (.ref b103), .val (.ref b122), .val (.int (own_law_j77 x0 x1 x2 x3 x4)), .val (.int (own_ot x4)), .unset, .unset] [(.int x0)]))) (fun _ k => XS.iloadN X137.here hx rfl (hb hby at_186) rfl k) ?_
              refine Goes.step (B := (T137.setTop (mkF m 188 #[.val (.int x0), .val (.int x1), .val (.int x2), .val (.int x3), .val (.int x4), .val (.int (own_a1 x1)), .val (.int (own_law_j11 x0 x2 x4)), .val (.int (own_law_j25 x1 x3 x4)), .val (.ref b103), .val (.ref b122), .val (.int (own_law_j77 x0 x1 x2 x3 x4)), .val (.int (own_ot x4)), .unset, .unset] [(.int (1 : Int32)), (.int x0)]))) (fun _ k => XS.iconst X137.here hx rfl (hb hby at_187) k) ?_
              refine Goes.step (B := (T137.setTop (mkF m 189 #[.val (.int x0), .val (.int x1), .val (.int x2), .val (.int x3), .val (.int x4), .val (.int (own_a1 x1)), .val (.int (own_law_j11 x0 x2 x4)), .val (.int (own_law_j25 x1 x3 x4)), .val (.ref b103), .val (.ref b122), .val (.int (own_law_j77 x0 x1 x2 x3 x4)), .val (.int (own_ot x4)), .unset, .unset] [(.int (x0 &&& (1 : Int32)))]))) (fun _ k => XS.iand X137.here hx rfl (hb hby at_188) rfl k) ?_
              refine Goes.step (B := (T137.setTop (mkF m 191 #[.val (.int x0), .val (.int x1), .val (.int x2), .val (.int x3), .val (.int x4), .val (.int (own_a1 x1)), .val (.int (own_law_j11 x0 x2 x4)), .val (.int (own_law_j25 x1 x3 x4)), .val (.ref b103), .val (.ref b122), .val (.int (own_law_j77 x0 x1 x2 x3 x4)), .val (.int (own_ot x4)), .unset, .unset] [(.int (8 : Int32)), (.int (x0 &&& (1 : Int32)))]))) (fun _ k => XS.bipush X137.here hx rfl (hb hby at_189) k) ?_
              refine Goes.step (B := (T137.setTop (mkF m 192 #[.val (.int x0), .val (.int x1), .val (.int x2), .val (.int x3), .val (.int x4), .val (.int (own_a1 x1)), .val (.int (own_law_j11 x0 x2 x4)), .val (.int (own_law_j25 x1 x3 x4)), .val (.ref b103), .val (.ref b122), .val (.int (own_law_j77 x0 x1 x2 x3 x4)), .val (.int (own_ot x4)), .unset, .unset] [(.int ((x0 &&& (1 : Int32)) <<< ((8 : Int32) &&& 31)))]))) (fun _ k => XS.ishl X137.here hx rfl (hb hby at_191) rfl k) ?_
              refine Goes.step (B := (T137.setTop (mkF m 194 #[.val (.int x0), .val (.int x1), .val (.int x2), .val (.int x3), .val (.int x4), .val (.int (own_a1 x1)), .val (.int (own_law_j11 x0 x2 x4)), .val (.int (own_law_j25 x1 x3 x4)), .val (.ref b103), .val (.ref b122), .val (.int (own_law_j77 x0 x1 x2 x3 x4)), .val (.int (own_ot x4)), .unset, .unset] [(.int (own_a1 x1)), (.int ((x0 &&& (1 : Int32)) <<< ((8 : Int32) &&& 31)))]))) (fun _ k => XS.iload X137.here hx rfl (hb hby at_192) rfl k) ?_
              refine Goes.step (B := (T137.setTop (mkF m 195 #[.val (.int x0), .val (.int x1), .val (.int x2), .val (.int x3), .val (.int x4), .val (.int (own_a1 x1)), .val (.int (own_law_j11 x0 x2 x4)), .val (.int (own_law_j25 x1 x3 x4)), .val (.ref b103), .val (.ref b122), .val (.int (own_law_j77 x0 x1 x2 x3 x4)), .val (.int (own_ot x4)), .unset, .unset] [(.int (((x0 &&& (1 : Int32)) <<< ((8 : Int32) &&& 31)) ||| (own_a1 x1)))]))) (fun _ k => XS.ior X137.here hx rfl (hb hby at_194) rfl k) ?_
              obtain ⟨_, _, ⟨T222, L222, k222, n222⟩, -, X222, ⟨Lc222, hQ222, l222, y222, z222⟩, st222⟩ := Jvm.LawKit.callS X137 hx (y := (⟨"java/lang/Integer", "valueOf", "(I)Ljava/lang/Integer;"⟩ : MethodName)) hown (mvT hZ (hw _ (List.mem_of_getElem? (i := 64) rfl))) (mvT hZ (hw _ (List.mem_of_getElem? (i := 65) rfl))) (mvT hZ (hw _ (List.mem_of_getElem? (i := 66) rfl))) (mvT hZ (hw _ (List.mem_of_getElem? (i := 67) rfl))) (by decide) (backOf (W := 0) (own_vo_rm l Z a0 hw [] (((x0 &&& (1 : Int32)) <<< ((8 : Int32) &&& 31)) ||| (own_a1 x1)) cA T137.heap n0 Z137 f141 f142 f143 (own_vlo x0 x1)) hZ (hw _ (List.mem_of_getElem? (i := 67) rfl)) (hw _ (List.mem_of_getElem? (i := 66) rfl)) (by decide) (by decide)) (g := (mkF m 195 #[.val (.int x0), .val (.int x1), .val (.int x2), .val (.int x3), .val (.int x4), .val (.int (own_a1 x1)), .val (.int (own_law_j11 x0 x2 x4)), .val (.int (own_law_j25 x1 x3 x4)), .val (.ref b103), .val (.ref b122), .val (.int (own_law_j77 x0 x1 x2 x3 x4)), .val (.int (own_ot x4)), .unset, .unset] [(.int (((x0 &&& (1 : Int32)) <<< ((8 : Int32) &&& 31)) ||| (own_a1 x1)))])) rfl (by rw [hml]; rfl) (argsL := [(.int (((x0 &&& (1 : Int32)) <<< ((8 : Int32) &&& 31)) ||| (own_a1 x1)))]) (rest := []) (lenOf pd__I_Ljava_lang_Integer_ rfl) rfl (by show 2 * 0 + _ ≤ _; exact Nat.le_of_eq rfl) (hb hby at_195) (fun _ _ => ⟨rfl, rfl, (by decide : 2 + 1 ≤ _), (by decide : 4 + 1 ≤ _)⟩)
              dsimp only [Pt.U, Pt.locs, Pt.cells, Pt.slots] at X222 l222 y222 z222 st222 hQ222
              subst l222 y222 z222
              obtain ⟨b_222, rfl, N222q, K222q, p222_0⟩ := hQ222
              have N222 := Fr.app N137 N222q
              have f223 := f138.keepN K222q (fun _ q => nomatch q)
              have f224 := f139.keepN K222q (fun _ q => nomatch q)
              have f225 := f140.keepN K222q (fun _ q => nomatch q)
              have f226 := f141.keepN K222q (fun _ q => nomatch q)
              have f227 := f142.keepN K222q (fun _ q => nomatch q)
              have f228 := f143.keep K222q nm0
              have f229 := f144.keep K222q
              have f230 := f145.keep K222q nm0
              have f231 := f146.keep K222q nm0
              have f232 := p137_0.keep K222q
              have f233 := p137_1.keep K222q nm0
              have f234 := p137_2.keep K222q nm0
              have K222 : Keep h0 T222.heap [] := Keep.trans K137 K222q (fun _ q => nomatch q)
              have Z222 : n0 ≤ T222.heap.size := Nat.le_trans Z137 K222q.1
              refine Goes.step (B := (T222.setTop (mkF m 198 #[.val (.int x0), .val (.int x1), .val (.int x2), .val (.int x3), .val (.int x4), .val (.int (own_a1 x1)), .val (.int (own_law_j11 x0 x2 x4)), .val (.int (own_law_j25 x1 x3 x4)), .val (.ref b103), .val (.ref b122), .val (.int (own_law_j77 x0 x1 x2 x3 x4)), .val (.int (own_ot x4)), .unset, .unset] [(.ref b_222)]))) (fun _ k => st222 _ k) ?_
              refine Goes.step (B := (T222.setTop (mkF m 200 #[.val (.int x0), .val (.int x1), .val (.int x2), .val (.int x3), .val (.int x4), .val (.int (own_a1 x1)), .val (.int (own_law_j11 x0 x2 x4)), .val (.int (own_law_j25 x1 x3 x4)), .val (.ref b103), .val (.ref b122), .val (.int (own_law_j77 x0 x1 x2 x3 x4)), .val (.int (own_ot x4)), .val (.ref b_222), .unset] []))) (fun _ k => XS.astore X222.here hx rfl (hb hby at_198) rfl rfl (l' := #[.val (.int x0), .val (.int x1), .val (.int x2), .val (.int x3), .val (.int x4), .val (.int (own_a1 x1)), .val (.int (own_law_j11 x0 x2 x4)), .val (.int (own_law_j25 x1 x3 x4)), .val (.ref b103), .val (.ref b122), .val (.int (own_law_j77 x0 x1 x2 x3 x4)), .val (.int (own_ot x4)), .val (.ref b_222), .unset]) rfl k) ?_
              refine Goes.step (B := (T222.setTop (mkF m 202 #[.val (.int x0), .val (.int x1), .val (.int x2), .val (.int x3), .val (.int x4), .val (.int (own_a1 x1)), .val (.int (own_law_j11 x0 x2 x4)), .val (.int (own_law_j25 x1 x3 x4)), .val (.ref b103), .val (.ref b122), .val (.int (own_law_j77 x0 x1 x2 x3 x4)), .val (.int (own_ot x4)), .val (.ref b_222), .unset] [(.ref b103)]))) (fun _ k => XS.aload X222.here hx rfl (hb hby at_200) rfl rfl k) ?_
              refine Goes.step (B := (T222.setTop (mkF m 204 #[.val (.int x0), .val (.int x1), .val (.int x2), .val (.int x3), .val (.int x4), .val (.int (own_a1 x1)), .val (.int (own_law_j11 x0 x2 x4)), .val (.int (own_law_j25 x1 x3 x4)), .val (.ref b103), .val (.ref b122), .val (.int (own_law_j77 x0 x1 x2 x3 x4)), .val (.int (own_ot x4)), .val (.ref b_222), .unset] [(.ref b_222), (.ref b103)]))) (fun _ k => XS.aload X222.here hx rfl (hb hby at_202) rfl rfl k) ?_
              obtain ⟨cq235, kq235, q235a, q235b, q235c⟩ := isOf hZ rfl f229
              obtain ⟨_, _, ⟨T235, L235, k235, n235⟩, -, X235, ⟨Lc235, hQ235, l235, y235, z235⟩, st235⟩ := X222.virtualBack hx (y := (⟨"com/example/portcullis/portcullis/rules/BasicService", "equals", "(Ljava/lang/Object;)Z"⟩ : MethodName)) (z := (⟨"com/example/portcullis/portcullis/rules/BasicService", "equals", "(Ljava/lang/Object;)Z"⟩ : MethodName)) hown (mvT hZ (hw _ (List.mem_of_getElem? (i := 25) rfl))) (mvT hZ (hw _ (List.mem_of_getElem? (i := 26) rfl))) (notFace_of_selects (args := #[]) (mvT hZ (hw _ (List.mem_of_getElem? (i := 28) rfl)))) (mvT hZ (hw _ (List.mem_of_getElem? (i := 28) rfl))) (mvT hZ (hw _ (List.mem_of_getElem? (i := 27) rfl))) (by decide) (backOf (W := 0) (own_eqI_rm l Z a0 hw [] b103 b_222  T222.heap n0 Z222 p222_0) hZ (hw _ (List.mem_of_getElem? (i := 29) rfl)) (hw _ (List.mem_of_getElem? (i := 2) rfl)) (by decide) (by decide)) q235a q235c (g := (mkF m 204 #[.val (.int x0), .val (.int x1), .val (.int x2), .val (.int x3), .val (.int x4), .val (.int (own_a1 x1)), .val (.int (own_law_j11 x0 x2 x4)), .val (.int (own_law_j25 x1 x3 x4)), .val (.ref b103), .val (.ref b122), .val (.int (own_law_j77 x0 x1 x2 x3 x4)), .val (.int (own_ot x4)), .val (.ref b_222), .unset] [(.ref b_222), (.ref b103)])) rfl (by rw [hml]; rfl) (Steps.refl _) (argsL := [(.ref b_222)]) (rest := []) (lenOf pd__Ljava_lang_Object__Z rfl) rfl (by show 2 * 0 + _ ≤ _; exact Nat.le_of_eq rfl) (hb hby at_204) (fun _ _ => ⟨rfl, rfl, (by decide : 3 + 0 ≤ _), (by decide : 5 + 0 ≤ _)⟩)
              dsimp only [Pt.U, Pt.locs, Pt.cells, Pt.slots] at X235 l235 y235 z235 st235 hQ235
              subst l235 y235 z235
              obtain ⟨rfl, N235q, e235⟩ := hQ235
              have N235 := Fr.app N222 N235q
              refine Goes.to (B := (T235.setTop (mkF m 207 #[.val (.int x0), .val (.int x1), .val (.int x2), .val (.int x3), .val (.int x4), .val (.int (own_a1 x1)), .val (.int (own_law_j11 x0 x2 x4)), .val (.int (own_law_j25 x1 x3 x4)), .val (.ref b103), .val (.ref b122), .val (.int (own_law_j77 x0 x1 x2 x3 x4)), .val (.int (own_ot x4)), .val (.ref b_222), .unset] [(.int (own_eqI_fn))]))) st235 ?_
              have hc236 : (own_eqI_fn) = (0 : Int32) := rfl
              refine Goes.step (B := (T235.setTop (mkF m 210 #[.val (.int x0), .val (.int x1), .val (.int x2), .val (.int x3), .val (.int x4), .val (.int (own_a1 x1)), .val (.int (own_law_j11 x0 x2 x4)), .val (.int (own_law_j25 x1 x3 x4)), .val (.ref b103), .val (.ref b122), .val (.int (own_law_j77 x0 x1 x2 x3 x4)), .val (.int (own_ot x4)), .val (.ref b_222), .unset] []))) (fun _ k => XS.ifNo X235.here hx rfl (hb hby at_207) rfl ((if0 _ _).trans (teq hc236).2) k) ?_
              refine Goes.step (B := (T235.setTop (mkF m 211 #[.val (.int x0), .val (.int x1), .val (.int x2), .val (.int x3), .val (.int x4), .val (.int (own_a1 x1)), .val (.int (own_law_j11 x0 x2 x4)), .val (.int (own_law_j25 x1 x3 x4)), .val (.ref b103), .val (.ref b122), .val (.int (own_law_j77 x0 x1 x2 x3 x4)), .val (.int (own_ot x4)), .val (.ref b_222), .unset] [(.int (1 : Int32))]))) (fun _ k => XS.iconst X235.here hx rfl (hb hby at_210) k) ?_
              refine Goes.step (B := (T235.setTop (mkF m 215 #[.val (.int x0), .val (.int x1), .val (.int x2), .val (.int x3), .val (.int x4), .val (.int (own_a1 x1)), .val (.int (own_law_j11 x0 x2 x4)), .val (.int (own_law_j25 x1 x3 x4)), .val (.ref b103), .val (.ref b122), .val (.int (own_law_j77 x0 x1 x2 x3 x4)), .val (.int (own_ot x4)), .val (.ref b_222), .unset] [(.int (1 : Int32))]))) (fun _ k => XS.goto X235.here hx rfl (pc0 := 211) (pc' := 215) rfl (hb hby at_211) (by decide) (by decide) k) ?_
              refine Goes.retN X235 hx hlk (t := .boolean) hrt (by simp) (hb hby at_215) ?_ (by decide) (by decide)
              rw [e235]
              exact ⟨rfl, N235⟩
            · refine Goes.step (B := (T137.setTop (mkF m 216 #[.val (.int x0), .val (.int x1), .val (.int x2), .val (.int x3), .val (.int x4), .val (.int (own_a1 x1)), .val (.int (own_law_j11 x0 x2 x4)), .val (.int (own_law_j25 x1 x3 x4)), .val (.ref b103), .val (.ref b122), .val (.int (own_law_j77 x0 x1 x2 x3 x4)), .val (.int (own_ot x4)), .unset, .unset] []))) (fun _ k => XS.icmpYes X137.here hx rfl (pc0 := 183) (pc' := 216) rfl (hb hby at_183) rfl (feq hc221).2 (by decide) (by decide) k) ?_
              by_cases hkk : (own_kd aT aB x0) = (own_kd aT aB (own_law_j11 x0 x2 x4))
              · refine Goes.step (B := (T137.setTop (mkF m 218 #[.val (.int x0), .val (.int x1), .val (.int x2), .val (.int x3), .val (.int x4), .val (.int (own_a1 x1)), .val (.int (own_law_j11 x0 x2 x4)), .val (.int (own_law_j25 x1 x3 x4)), .val (.ref b103), .val (.ref b122), .val (.int (own_law_j77 x0 x1 x2 x3 x4)), .val (.int (own_ot x4)), .unset, .unset] [(.ref b103)]))) (fun _ k => XS.aload X137.here hx rfl (hb hby at_216) rfl rfl k) ?_
                refine Goes.step (B := (T137.setTop (mkF m 220 #[.val (.int x0), .val (.int x1), .val (.int x2), .val (.int x3), .val (.int x4), .val (.int (own_a1 x1)), .val (.int (own_law_j11 x0 x2 x4)), .val (.int (own_law_j25 x1 x3 x4)), .val (.ref b103), .val (.ref b122), .val (.int (own_law_j77 x0 x1 x2 x3 x4)), .val (.int (own_ot x4)), .unset, .unset] [(.ref b122), (.ref b103)]))) (fun _ k => XS.aload X137.here hx rfl (hb hby at_218) rfl rfl k) ?_
                obtain ⟨cq237, kq237, q237a, q237b, q237c⟩ := isOf hZ rfl f144
                obtain ⟨_, _, ⟨T237, L237, k237, n237⟩, -, X237, ⟨Lc237, hQ237, l237, y237, z237⟩, st237⟩ := X137.virtualBack hx (y := (⟨"com/example/portcullis/portcullis/rules/BasicService", "equals", "(Ljava/lang/Object;)Z"⟩ : MethodName)) (z := (⟨"com/example/portcullis/portcullis/rules/BasicService", "equals", "(Ljava/lang/Object;)Z"⟩ : MethodName)) hown (mvT hZ (hw _ (List.mem_of_getElem? (i := 25) rfl))) (mvT hZ (hw _ (List.mem_of_getElem? (i := 26) rfl))) (notFace_of_selects (args := #[]) (mvT hZ (hw _ (List.mem_of_getElem? (i := 28) rfl)))) (mvT hZ (hw _ (List.mem_of_getElem? (i := 28) rfl))) (mvT hZ (hw _ (List.mem_of_getElem? (i := 27) rfl))) (by decide) (backOf (W := 0) (own_eqS_rm l Z a0 hw [] b103 b122 (own_kd aT aB x0) (own_kd aT aB (own_law_j11 x0 x2 x4)) (own_a1 x1) (own_law_j25 x1 x3 x4) T137.heap n0 Z137 p137_0 f145 p137_1 f146 p137_2 hkk.symm) hZ (hw _ (List.mem_of_getElem? (i := 29) rfl)) (hw _ (List.mem_of_getElem? (i := 2) rfl)) (by decide) (by decide)) q237a q237c (g := (mkF m 220 #[.val (.int x0), .val (.int x1), .val (.int x2), .val (.int x3), .val (.int x4), .val (.int (own_a1 x1)), .val (.int (own_law_j11 x0 x2 x4)), .val (.int (own_law_j25 x1 x3 x4)), .val (.ref b103), .val (.ref b122), .val (.int (own_law_j77 x0 x1 x2 x3 x4)), .val (.int (own_ot x4)), .unset, .unset] [(.ref b122), (.ref b103)])) rfl (by rw [hml]; rfl) (Steps.refl _) (argsL := [(.ref b122)]) (rest := []) (lenOf pd__Ljava_lang_Object__Z rfl) rfl (by show 2 * 0 + _ ≤ _; exact Nat.le_of_eq rfl) (hb hby at_220) (fun _ _ => ⟨rfl, rfl, (by decide : 2 + 0 ≤ _), (by decide : 4 + 0 ≤ _)⟩)
                dsimp only [Pt.U, Pt.locs, Pt.cells, Pt.slots] at X237 l237 y237 z237 st237 hQ237
                subst l237 y237 z237
                obtain ⟨rfl, N237q, e237⟩ := hQ237
                have N237 := Fr.app N137 N237q
                refine Goes.to (B := (T237.setTop (mkF m 223 #[.val (.int x0), .val (.int x1), .val (.int x2), .val (.int x3), .val (.int x4), .val (.int (own_a1 x1)), .val (.int (own_law_j11 x0 x2 x4)), .val (.int (own_law_j25 x1 x3 x4)), .val (.ref b103), .val (.ref b122), .val (.int (own_law_j77 x0 x1 x2 x3 x4)), .val (.int (own_ot x4)), .unset, .unset] [(.int (own_eqS_fn (own_a1 x1) (own_law_j25 x1 x3 x4)))]))) st237 ?_
                refine Goes.step (B := (T237.setTop (mkF m 225 #[.val (.int x0), .val (.int x1), .val (.int x2), .val (.int x3), .val (.int x4), .val (.int (own_a1 x1)), .val (.int (own_law_j11 x0 x2 x4)), .val (.int (own_law_j25 x1 x3 x4)), .val (.ref b103), .val (.ref b122), .val (.int (own_law_j77 x0 x1 x2 x3 x4)), .val (.int (own_ot x4)), .unset, .unset] [(.int (own_law_j77 x0 x1 x2 x3 x4)), (.int (own_eqS_fn (own_a1 x1) (own_law_j25 x1 x3 x4)))]))) (fun _ k => XS.iload X237.here hx rfl (hb hby at_223) rfl k) ?_
                have hc238 : (own_eqS_fn (own_a1 x1) (own_law_j25 x1 x3 x4)) = (own_law_j77 x0 x1 x2 x3 x4) := own_tS x0 x1 x2 x3 x4 hTB hkk
                refine Goes.step (B := (T237.setTop (mkF m 228 #[.val (.int x0), .val (.int x1), .val (.int x2), .val (.int x3), .val (.int x4), .val (.int (own_a1 x1)), .val (.int (own_law_j11 x0 x2 x4)), .val (.int (own_law_j25 x1 x3 x4)), .val (.ref b103), .val (.ref b122), .val (.int (own_law_j77 x0 x1 x2 x3 x4)), .val (.int (own_ot x4)), .unset, .unset] []))) (fun _ k => XS.icmpNo X237.here hx rfl (hb hby at_225) rfl (teq hc238).2 k) ?_
                refine Goes.step (B := (T237.setTop (mkF m 230 #[.val (.int x0), .val (.int x1), .val (.int x2), .val (.int x3), .val (.int x4), .val (.int (own_a1 x1)), .val (.int (own_law_j11 x0 x2 x4)), .val (.int (own_law_j25 x1 x3 x4)), .val (.ref b103), .val (.ref b122), .val (.int (own_law_j77 x0 x1 x2 x3 x4)), .val (.int (own_ot x4)), .unset, .unset] [(.ref b122)]))) (fun _ k => XS.aload X237.here hx rfl (hb hby at_228) rfl rfl k) ?_
                refine Goes.step (B := (T237.setTop (mkF m 232 #[.val (.int x0), .val (.int x1), .val (.int x2), .val (.int x3), .val (.int x4), .val (.int (own_a1 x1)), .val (.int (own_law_j11 x0 x2 x4)), .val (.int (own_law_j25 x1 x3 x4)), .val (.ref b103), .val (.ref b122), .val (.int (own_law_j77 x0 x1 x2 x3 x4)), .val (.int (own_ot x4)), .unset, .unset] [(.ref b103), (.ref b122)]))) (fun _ k => XS.aload X237.here hx rfl (hb hby at_230) rfl rfl k) ?_
                obtain ⟨cq239, kq239, q239a, q239b, q239c⟩ := isOf hZ e237 p137_0
                obtain ⟨_, _, ⟨T239, L239, k239, n239⟩, -, X239, ⟨Lc239, hQ239, l239, y239, z239⟩, st239⟩ := X237.virtualBack hx (y := (⟨"com/example/portcullis/portcullis/rules/BasicService", "equals", "(Ljava/lang/Object;)Z"⟩ : MethodName)) (z := (⟨"com/example/portcullis/portcullis/rules/BasicService", "equals", "(Ljava/lang/Object;)Z"⟩ : MethodName)) hown (mvT hZ (hw _ (List.mem_of_getElem? (i := 25) rfl))) (mvT hZ (hw _ (List.mem_of_getElem? (i := 26) rfl))) (notFace_of_selects (args := #[]) (mvT hZ (hw _ (List.mem_of_getElem? (i := 28) rfl)))) (mvT hZ (hw _ (List.mem_of_getElem? (i := 28) rfl))) (mvT hZ (hw _ (List.mem_of_getElem? (i := 27) rfl))) (by decide) (backOf (W := 0) (own_eqS_rm l Z a0 hw [] b122 b103 (own_kd aT aB (own_law_j11 x0 x2 x4)) (own_kd aT aB x0) (own_law_j25 x1 x3 x4) (own_a1 x1) T137.heap n0 Z137 f144 p137_1 f145 p137_2 f146 hkk) hZ (hw _ (List.mem_of_getElem? (i := 29) rfl)) (hw _ (List.mem_of_getElem? (i := 2) rfl)) (by decide) (by decide)) q239a q239c (g := (mkF m 232 #[.val (.int x0), .val (.int x1), .val (.int x2), .val (.int x3), .val (.int x4), .val (.int (own_a1 x1)), .val (.int (own_law_j11 x0 x2 x4)), .val (.int (own_law_j25 x1 x3 x4)), .val (.ref b103), .val (.ref b122), .val (.int (own_law_j77 x0 x1 x2 x3 x4)), .val (.int (own_ot x4)), .unset, .unset] [(.ref b103), (.ref b122)])) rfl (by rw [hml]; rfl) (Steps.refl _) (argsL := [(.ref b103)]) (rest := []) (lenOf pd__Ljava_lang_Object__Z rfl) rfl (by show 2 * 0 + _ ≤ _; exact Nat.le_of_eq rfl) (hb hby at_232) (fun _ _ => ⟨rfl, e237, (by decide : 2 + 0 ≤ _), (by decide : 4 + 0 ≤ _)⟩)
                dsimp only [Pt.U, Pt.locs, Pt.cells, Pt.slots] at X239 l239 y239 z239 st239 hQ239
                subst l239 y239 z239
                obtain ⟨rfl, N239q, e239⟩ := hQ239
                have N239 := Fr.app N237 N239q
                refine Goes.to (B := (T239.setTop (mkF m 235 #[.val (.int x0), .val (.int x1), .val (.int x2), .val (.int x3), .val (.int x4), .val (.int (own_a1 x1)), .val (.int (own_law_j11 x0 x2 x4)), .val (.int (own_law_j25 x1 x3 x4)), .val (.ref b103), .val (.ref b122), .val (.int (own_law_j77 x0 x1 x2 x3 x4)), .val (.int (own_ot x4)), .unset, .unset] [(.int (own_eqS_fn (own_law_j25 x1 x3 x4) (own_a1 x1)))]))) st239 ?_
                refine Goes.step (B := (T239.setTop (mkF m 237 #[.val (.int x0), .val (.int x1), .val (.int x2), .val (.int x3), .val (.int x4), .val (.int (own_a1 x1)), .val (.int (own_law_j11 x0 x2 x4)), .val (.int (own_law_j25 x1 x3 x4)), .val (.ref b103), .val (.ref b122), .val (.int (own_law_j77 x0 x1 x2 x3 x4)), .val (.int (own_ot x4)), .unset, .unset] [(.int (own_law_j77 x0 x1 x2 x3 x4)), (.int (own_eqS_fn (own_law_j25 x1 x3 x4) (own_a1 x1)))]))) (fun _ k => XS.iload X239.here hx rfl (hb hby at_235) rfl k) ?_
                have hc240 : (own_eqS_fn (own_law_j25 x1 x3 x4) (own_a1 x1)) = (own_law_j77 x0 x1 x2 x3 x4) := own_tS2 x0 x1 x2 x3 x4 hTB hkk
                refine Goes.step (B := (T239.setTop (mkF m 240 #[.val (.int x0), .val (.int x1), .val (.int x2), .val (.int x3), .val (.int x4), .val (.int (own_a1 x1)), .val (.int (own_law_j11 x0 x2 x4)), .val (.int (own_law_j25 x1 x3 x4)), .val (.ref b103), .val (.ref b122), .val (.int (own_law_j77 x0 x1 x2 x3 x4)), .val (.int (own_ot x4)), .unset, .unset] []))) (fun _ k => XS.icmpNo X239.here hx rfl (hb hby at_237) rfl (teq hc240).2 k) ?_
                refine Goes.step (B := (T239.setTop (mkF m 242 #[.val (.int x0), .val (.int x1), .val (.int x2), .val (.int x3), .val (.int x4), .val (.int (own_a1 x1)), .val (.int (own_law_j11 x0 x2 x4)), .val (.int (own_law_j25 x1 x3 x4)), .val (.ref b103), .val (.ref b122), .val (.int (own_law_j77 x0 x1 x2 x3 x4)), .val (.int (own_ot x4)), .unset, .unset] [(.ref b103)]))) (fun _ k => XS.aload X239.here hx rfl (hb hby at_240) rfl rfl k) ?_
                refine Goes.step (B := (T239.setTop (mkF m 244 #[.val (.int x0), .val (.int x1), .val (.int x2), .val (.int x3), .val (.int x4), .val (.int (own_a1 x1)), .val (.int (own_law_j11 x0 x2 x4)), .val (.int (own_law_j25 x1 x3 x4)), .val (.ref b103), .val (.ref b122), .val (.int (own_law_j77 x0 x1 x2 x3 x4)), .val (.int (own_ot x4)), .unset, .unset] [(.ref b103), (.ref b103)]))) (fun _ k => XS.aload X239.here hx rfl (hb hby at_242) rfl rfl k) ?_
                obtain ⟨cq241, kq241, q241a, q241b, q241c⟩ := isOf hZ e239 f144
                obtain ⟨_, _, ⟨T241, L241, k241, n241⟩, -, X241, ⟨Lc241, hQ241, l241, y241, z241⟩, st241⟩ := X239.virtualBack hx (y := (⟨"com/example/portcullis/portcullis/rules/BasicService", "equals", "(Ljava/lang/Object;)Z"⟩ : MethodName)) (z := (⟨"com/example/portcullis/portcullis/rules/BasicService", "equals", "(Ljava/lang/Object;)Z"⟩ : MethodName)) hown (mvT hZ (hw _ (List.mem_of_getElem? (i := 25) rfl))) (mvT hZ (hw _ (List.mem_of_getElem? (i := 26) rfl))) (notFace_of_selects (args := #[]) (mvT hZ (hw _ (List.mem_of_getElem? (i := 28) rfl)))) (mvT hZ (hw _ (List.mem_of_getElem? (i := 28) rfl))) (mvT hZ (hw _ (List.mem_of_getElem? (i := 27) rfl))) (by decide) (backOf (W := 0) (own_eqS_rm l Z a0 hw [] b103 b103 (own_kd aT aB x0) (own_kd aT aB x0) (own_a1 x1) (own_a1 x1) T137.heap n0 Z137 f144 f145 f145 f146 f146 rfl) hZ (hw _ (List.mem_of_getElem? (i := 29) rfl)) (hw _ (List.mem_of_getElem? (i := 2) rfl)) (by decide) (by decide)) q241a q241c (g := (mkF m 244 #[.val (.int x0), .val (.int x1), .val (.int x2), .val (.int x3), .val (.int x4), .val (.int (own_a1 x1)), .val (.int (own_law_j11 x0 x2 x4)), .val (.int (own_law_j25 x1 x3 x4)), .val (.ref b103), .val (.ref b122), .val (.int (own_law_j77 x0 x1 x2 x3 x4)), .val (.int (own_ot x4)), .unset, .unset] [(.ref b103), (.ref b103)])) rfl (by rw [hml]; rfl) (Steps.refl _) (argsL := [(.ref b103)]) (rest := []) (lenOf pd__Ljava_lang_Object__Z rfl) rfl (by show 2 * 0 + _ ≤ _; exact Nat.le_of_eq rfl) (hb hby at_244) (fun _ _ => ⟨rfl, e239, (by decide : 2 + 0 ≤ _), (by decide : 4 + 0 ≤ _)⟩)
                dsimp only [Pt.U, Pt.locs, Pt.cells, Pt.slots] at X241 l241 y241 z241 st241 hQ241
                subst l241 y241 z241
                obtain ⟨rfl, N241q, e241⟩ := hQ241
                have N241 := Fr.app N239 N241q
                refine Goes.to (B := (T241.setTop (mkF m 247 #[.val (.int x0), .val (.int x1), .val (.int x2), .val (.int x3), .val (.int x4), .val (.int (own_a1 x1)), .val (.int (own_law_j11 x0 x2 x4)), .val (.int (own_law_j25 x1 x3 x4)), .val (.ref b103), .val (.ref b122), .val (.int (own_law_j77 x0 x1 x2 x3 x4)), .val (.int (own_ot x4)), .unset, .unset] [(.int (own_eqS_fn (own_a1 x1) (own_a1 x1)))]))) st241 ?_
                have hc242 : ¬ ((own_eqS_fn (own_a1 x1) (own_a1 x1)) = (0 : Int32)) := own_se _
                refine Goes.step (B := (T241.setTop (mkF m 250 #[.val (.int x0), .val (.int x1), .val (.int x2), .val (.int x3), .val (.int x4), .val (.int (own_a1 x1)), .val (.int (own_law_j11 x0 x2 x4)), .val (.int (own_law_j25 x1 x3 x4)), .val (.ref b103), .val (.ref b122), .val (.int (own_law_j77 x0 x1 x2 x3 x4)), .val (.int (own_ot x4)), .unset, .unset] []))) (fun _ k => XS.ifNo X241.here hx rfl (hb hby at_247) rfl ((if0 _ _).trans (feq hc242).1) k) ?_
                refine Goes.step (B := (T241.setTop (mkF m 251 #[.val (.int x0), .val (.int x1), .val (.int x2), .val (.int x3), .val (.int x4), .val (.int (own_a1 x1)), .val (.int (own_law_j11 x0 x2 x4)), .val (.int (own_law_j25 x1 x3 x4)), .val (.ref b103), .val (.ref b122), .val (.int (own_law_j77 x0 x1 x2 x3 x4)), .val (.int (own_ot x4)), .unset, .unset] [(.int (1 : Int32))]))) (fun _ k => XS.iconst X241.here hx rfl (hb hby at_250) k) ?_
                refine Goes.step (B := (T241.setTop (mkF m 255 #[.val (.int x0), .val (.int x1), .val (.int x2), .val (.int x3), .val (.int x4), .val (.int (own_a1 x1)), .val (.int (own_law_j11 x0 x2 x4)), .val (.int (own_law_j25 x1 x3 x4)), .val (.ref b103), .val (.ref b122), .val (.int (own_law_j77 x0 x1 x2 x3 x4)), .val (.int (own_ot x4)), .unset, .unset] [(.int (1 : Int32))]))) (fun _ k => XS.goto X241.here hx rfl (pc0 := 251) (pc' := 255) rfl (hb hby at_251) (by decide) (by decide) k) ?_
                refine Goes.retN X241 hx hlk (t := .boolean) hrt (by simp) (hb hby at_255) ?_ (by decide) (by decide)
                rw [e241]
                exact ⟨rfl, N241⟩
              · refine Goes.step (B := (T137.setTop (mkF m 218 #[.val (.int x0), .val (.int x1), .val (.int x2), .val (.int x3), .val (.int x4), .val (.int (own_a1 x1)), .val (.int (own_law_j11 x0 x2 x4)), .val (.int (own_law_j25 x1 x3 x4)), .val (.ref b103), .val (.ref b122), .val (.int (own_law_j77 x0 x1 x2 x3 x4)), .val (.int (own_ot x4)), .unset, .unset] [(.ref b103)]))) (fun _ k => XS.aload X137.here hx rfl (hb hby at_216) rfl rfl k) ?_
                refine Goes.step (B := (T137.setTop (mkF m 220 #[.val (.int x0), .val (.int x1), .val (.int x2), .val (.int x3), .val (.int x4), .val (.int (own_a1 x1)), .val (.int (own_law_j11 x0 x2 x4)), .val (.int (own_law_j25 x1 x3 x4)), .val (.ref b103), .val (.ref b122), .val (.int (own_law_j77 x0 x1 x2 x3 x4)), .val (.int (own_ot x4)), .unset, .unset] [(.ref b122), (.ref b103)]))) (fun _ k => XS.aload X137.here hx rfl (hb hby at_218) rfl rfl k) ?_
                obtain ⟨cq243, kq243, q243a, q243b, q243c⟩ := isOf hZ rfl f144
                obtain ⟨_, _, ⟨T243, L243, k243, n243⟩, -, X243, ⟨Lc243, hQ243, l243, y243, z243⟩, st243⟩ := X137.virtualBack hx (y := (⟨"com/example/portcullis/portcullis/rules/BasicService", "equals", "(Ljava/lang/Object;)Z"⟩ : MethodName)) (z := (⟨"com/example/portcullis/portcullis/rules/BasicService", "equals", "(Ljava/lang/Object;)Z"⟩ : MethodName)) hown (mvT hZ (hw _ (List.mem_of_getElem? (i := 25) rfl))) (mvT hZ (hw _ (List.mem_of_getElem? (i := 26) rfl))) (notFace_of_selects (args := #[]) (mvT hZ (hw _ (List.mem_of_getElem? (i := 28) rfl)))) (mvT hZ (hw _ (List.mem_of_getElem? (i := 28) rfl))) (mvT hZ (hw _ (List.mem_of_getElem? (i := 27) rfl))) (by decide) (backOf (W := 0) (own_eqD_rm l Z a0 hw [] b103 b122 (own_kd aT aB x0) (own_kd aT aB (own_law_j11 x0 x2 x4)) (own_a1 x1) (own_law_j25 x1 x3 x4) T137.heap n0 Z137 p137_0 f145 p137_1 f146 p137_2 (Ne.symm hkk)) hZ (hw _ (List.mem_of_getElem? (i := 29) rfl)) (hw _ (List.mem_of_getElem? (i := 2) rfl)) (by decide) (by decide)) q243a q243c (g := (mkF m 220 #[.val (.int x0), .val (.int x1), .val (.int x2), .val (.int x3), .val (.int x4), .val (.int (own_a1 x1)), .val (.int (own_law_j11 x0 x2 x4)), .val (.int (own_law_j25 x1 x3 x4)), .val (.ref b103), .val (.ref b122), .val (.int (own_law_j77 x0 x1 x2 x3 x4)), .val (.int (own_ot x4)), .unset, .unset] [(.ref b122), (.ref b103)])) rfl (by rw [hml]; rfl) (Steps.refl _) (argsL := [(.ref b122)]) (rest := []) (lenOf pd__Ljava_lang_Object__Z rfl) rfl (by show 2 * 0 + _ ≤ _; exact Nat.le_of_eq rfl) (hb hby at_220) (fun _ _ => ⟨rfl, rfl, (by decide : 2 + 0 ≤ _), (by decide : 4 + 0 ≤ _)⟩)
                dsimp only [Pt.U, Pt.locs, Pt.cells, Pt.slots] at X243 l243 y243 z243 st243 hQ243
                subst l243 y243 z243
                obtain ⟨rfl, N243q, e243⟩ := hQ243
                have N243 := Fr.app N137 N243q
                refine Goes.to (B := (T243.setTop (mkF m 223 #[.val (.int x0), .val (.int x1), .val (.int x2), .val (.int x3), .val (.int x4), .val (.int (own_a1 x1)), .val (.int (own_law_j11 x0 x2 x4)), .val (.int (own_law_j25 x1 x3 x4)), .val (.ref b103), .val (.ref b122), .val (.int (own_law_j77 x0 x1 x2 x3 x4)), .val (.int (own_ot x4)), .unset, .unset] [(.int (own_eqD_fn (own_a1 x1) (own_law_j25 x1 x3 x4)))]))) st243 ?_
                refine Goes.step (B := (T243.setTop (mkF m 225 #[.val (.int x0), .val (.int x1), .val (.int x2), .val (.int x3), .val (.int x4), .val (.int (own_a1 x1)), .val (.int (own_law_j11 x0 x2 x4)), .val (.int (own_law_j25 x1 x3 x4)), .val (.ref b103), .val (.ref b122), .val (.int (own_law_j77 x0 x1 x2 x3 x4)), .val (.int (own_ot x4)), .unset, .unset] [(.int (own_law_j77 x0 x1 x2 x3 x4)), (.int (own_eqD_fn (own_a1 x1) (own_law_j25 x1 x3 x4)))]))) (fun _ k => XS.iload X243.here hx rfl (hb hby at_223) rfl k) ?_
                have hc244 : (own_eqD_fn (own_a1 x1) (own_law_j25 x1 x3 x4)) = (own_law_j77 x0 x1 x2 x3 x4) := own_tD x0 x1 x2 x3 x4 hTB hkk
                refine Goes.step (B := (T243.setTop (mkF m 228 #[.val (.int x0), .val (.int x1), .val (.int x2), .val (.int x3), .val (.int x4), .val (.int (own_a1 x1)), .val (.int (own_law_j11 x0 x2 x4)), .val (.int (own_law_j25 x1 x3 x4)), .val (.ref b103), .val (.ref b122), .val (.int (own_law_j77 x0 x1 x2 x3 x4)), .val (.int (own_ot x4)), .unset, .unset] []))) (fun _ k => XS.icmpNo X243.here hx rfl (hb hby at_225) rfl (teq hc244).2 k) ?_
                refine Goes.step (B := (T243.setTop (mkF m 230 #[.val (.int x0), .val (.int x1), .val (.int x2), .val (.int x3), .val (.int x4), .val (.int (own_a1 x1)), .val (.int (own_law_j11 x0 x2 x4)), .val (.int (own_law_j25 x1 x3 x4)), .val (.ref b103), .val (.ref b122), .val (.int (own_law_j77 x0 x1 x2 x3 x4)), .val (.int (own_ot x4)), .unset, .unset] [(.ref b122)]))) (fun _ k => XS.aload X243.here hx rfl (hb hby at_228) rfl rfl k) ?_
                refine Goes.step (B := (T243.setTop (mkF m 232 #[.val (.int x0), .val (.int x1), .val (.int x2), .val (.int x3), .val (.int x4), .val (.int (own_a1 x1)), .val (.int (own_law_j11 x0 x2 x4)), .val (.int (own_law_j25 x1 x3 x4)), .val (.ref b103), .val (.ref b122), .val (.int (own_law_j77 x0 x1 x2 x3 x4)), .val (.int (own_ot x4)), .unset, .unset] [(.ref b103), (.ref b122)]))) (fun _ k => XS.aload X243.here hx rfl (hb hby at_230) rfl rfl k) ?_
                obtain ⟨cq245, kq245, q245a, q245b, q245c⟩ := isOf hZ e243 p137_0
                obtain ⟨_, _, ⟨T245, L245, k245, n245⟩, -, X245, ⟨Lc245, hQ245, l245, y245, z245⟩, st245⟩ := X243.virtualBack hx (y := (⟨"com/example/portcullis/portcullis/rules/BasicService", "equals", "(Ljava/lang/Object;)Z"⟩ : MethodName)) (z := (⟨"com/example/portcullis/portcullis/rules/BasicService", "equals", "(Ljava/lang/Object;)Z"⟩ : MethodName)) hown (mvT hZ (hw _ (List.mem_of_getElem? (i := 25) rfl))) (mvT hZ (hw _ (List.mem_of_getElem? (i := 26) rfl))) (notFace_of_selects (args := #[]) (mvT hZ (hw _ (List.mem_of_getElem? (i := 28) rfl)))) (mvT hZ (hw _ (List.mem_of_getElem? (i := 28) rfl))) (mvT hZ (hw _ (List.mem_of_getElem? (i := 27) rfl))) (by decide) (backOf (W := 0) (own_eqD_rm l Z a0 hw [] b122 b103 (own_kd aT aB (own_law_j11 x0 x2 x4)) (own_kd aT aB x0) (own_law_j25 x1 x3 x4) (own_a1 x1) T137.heap n0 Z137 f144 p137_1 f145 p137_2 f146 hkk) hZ (hw _ (List.mem_of_getElem? (i := 29) rfl)) (hw _ (List.mem_of_getElem? (i := 2) rfl)) (by decide) (by decide)) q245a q245c (g := (mkF m 232 #[.val (.int x0), .val (.int x1), .val (.int x2), .val (.int x3), .val (.int x4), .val (.int (own_a1 x1)), .val (.int (own_law_j11 x0 x2 x4)), .val (.int (own_law_j25 x1 x3 x4)), .val (.ref b103), .val (.ref b122), .val (.int (own_law_j77 x0 x1 x2 x3 x4)), .val (.int (own_ot x4)), .unset, .unset] [(.ref b103), (.ref b122)])) rfl (by rw [hml]; rfl) (Steps.refl _) (argsL := [(.ref b103)]) (rest := []) (lenOf pd__Ljava_lang_Object__Z rfl) rfl (by show 2 * 0 + _ ≤ _; exact Nat.le_of_eq rfl) (hb hby at_232) (fun _ _ => ⟨rfl, e243, (by decide : 2 + 0 ≤ _), (by decide : 4 + 0 ≤ _)⟩)
                dsimp only [Pt.U, Pt.locs, Pt.cells, Pt.slots] at X245 l245 y245 z245 st245 hQ245
                subst l245 y245 z245
                obtain ⟨rfl, N245q, e245⟩ := hQ245
                have N245 := Fr.app N243 N245q
                refine Goes.to (B := (T245.setTop (mkF m 235 #[.val (.int x0), .val (.int x1), .val (.int x2), .val (.int x3), .val (.int x4), .val (.int (own_a1 x1)), .val (.int (own_law_j11 x0 x2 x4)), .val (.int (own_law_j25 x1 x3 x4)), .val (.ref b103), .val (.ref b122), .val (.int (own_law_j77 x0 x1 x2 x3 x4)), .val (.int (own_ot x4)), .unset, .unset] [(.int (own_eqD_fn (own_law_j25 x1 x3 x4) (own_a1 x1)))]))) st245 ?_
                refine Goes.step (B := (T245.setTop (mkF m 237 #[.val (.int x0), .val (.int x1), .val (.int x2), .val (.int x3), .val (.int x4), .val (.int (own_a1 x1)), .val (.int (own_law_j11 x0 x2 x4)), .val (.int (own_law_j25 x1 x3 x4)), .val (.ref b103), .val (.ref b122), .val (.int (own_law_j77 x0 x1 x2 x3 x4)), .val (.int (own_ot x4)), .unset, .unset] [(.int (own_law_j77 x0 x1 x2 x3 x4)), (.int (own_eqD_fn (own_law_j25 x1 x3 x4) (own_a1 x1)))]))) (fun _ k => XS.iload X245.here hx rfl (hb hby at_235) rfl k) ?_
                have hc246 : (own_eqD_fn (own_law_j25 x1 x3 x4) (own_a1 x1)) = (own_law_j77 x0 x1 x2 x3 x4) := own_tD x0 x1 x2 x3 x4 hTB hkk
                refine Goes.step (B := (T245.setTop (mkF m 240 #[.val (.int x0), .val (.int x1), .val (.int x2), .val (.int x3), .val (.int x4), .val (.int (own_a1 x1)), .val (.int (own_law_j11 x0 x2 x4)), .val (.int (own_law_j25 x1 x3 x4)), .val (.ref b103), .val (.ref b122), .val (.int (own_law_j77 x0 x1 x2 x3 x4)), .val (.int (own_ot x4)), .unset, .unset] []))) (fun _ k => XS.icmpNo X245.here hx rfl (hb hby at_237) rfl (teq hc246).2 k) ?_
                refine Goes.step (B := (T245.setTop (mkF m 242 #[.val (.int x0), .val (.int x1), .val (.int x2), .val (.int x3), .val (.int x4), .val (.int (own_a1 x1)), .val (.int (own_law_j11 x0 x2 x4)), .val (.int (own_law_j25 x1 x3 x4)), .val (.ref b103), .val (.ref b122), .val (.int (own_law_j77 x0 x1 x2 x3 x4)), .val (.int (own_ot x4)), .unset, .unset] [(.ref b103)]))) (fun _ k => XS.aload X245.here hx rfl (hb hby at_240) rfl rfl k) ?_
                refine Goes.step (B := (T245.setTop (mkF m 244 #[.val (.int x0), .val (.int x1), .val (.int x2), .val (.int x3), .val (.int x4), .val (.int (own_a1 x1)), .val (.int (own_law_j11 x0 x2 x4)), .val (.int (own_law_j25 x1 x3 x4)), .val (.ref b103), .val (.ref b122), .val (.int (own_law_j77 x0 x1 x2 x3 x4)), .val (.int (own_ot x4)), .unset, .unset] [(.ref b103), (.ref b103)]))) (fun _ k => XS.aload X245.here hx rfl (hb hby at_242) rfl rfl k) ?_
                obtain ⟨cq247, kq247, q247a, q247b, q247c⟩ := isOf hZ e245 f144
                obtain ⟨_, _, ⟨T247, L247, k247, n247⟩, -, X247, ⟨Lc247, hQ247, l247, y247, z247⟩, st247⟩ := X245.virtualBack hx (y := (⟨"com/example/portcullis/portcullis/rules/BasicService", "equals", "(Ljava/lang/Object;)Z"⟩ : MethodName)) (z := (⟨"com/example/portcullis/portcullis/rules/BasicService", "equals", "(Ljava/lang/Object;)Z"⟩ : MethodName)) hown (mvT hZ (hw _ (List.mem_of_getElem? (i := 25) rfl))) (mvT hZ (hw _ (List.mem_of_getElem? (i := 26) rfl))) (notFace_of_selects (args := #[]) (mvT hZ (hw _ (List.mem_of_getElem? (i := 28) rfl)))) (mvT hZ (hw _ (List.mem_of_getElem? (i := 28) rfl))) (mvT hZ (hw _ (List.mem_of_getElem? (i := 27) rfl))) (by decide) (backOf (W := 0) (own_eqS_rm l Z a0 hw [] b103 b103 (own_kd aT aB x0) (own_kd aT aB x0) (own_a1 x1) (own_a1 x1) T137.heap n0 Z137 f144 f145 f145 f146 f146 rfl) hZ (hw _ (List.mem_of_getElem? (i := 29) rfl)) (hw _ (List.mem_of_getElem? (i := 2) rfl)) (by decide) (by decide)) q247a q247c (g := (mkF m 244 #[.val (.int x0), .val (.int x1), .val (.int x2), .val (.int x3), .val (.int x4), .val (.int (own_a1 x1)), .val (.int (own_law_j11 x0 x2 x4)), .val (.int (own_law_j25 x1 x3 x4)), .val (.ref b103), .val (.ref b122), .val (.int (own_law_j77 x0 x1 x2 x3 x4)), .val (.int (own_ot x4)), .unset, .unset] [(.ref b103), (.ref b103)])) rfl (by rw [hml]; rfl) (Steps.refl _) (argsL := [(.ref b103)]) (rest := []) (lenOf pd__Ljava_lang_Object__Z rfl) rfl (by show 2 * 0 + _ ≤ _; exact Nat.le_of_eq rfl) (hb hby at_244) (fun _ _ => ⟨rfl, e245, (by decide : 2 + 0 ≤ _), (by decide : 4 + 0 ≤ _)⟩)
                dsimp only [Pt.U, Pt.locs, Pt.cells, Pt.slots] at X247 l247 y247 z247 st247 hQ247
                subst l247 y247 z247
                obtain ⟨rfl, N247q, e247⟩ := hQ247
                have N247 := Fr.app N245 N247q
                refine Goes.to (B := (T247.setTop (mkF m 247 #[.val (.int x0), .val (.int x1), .val (.int x2), .val (.int x3), .val (.int x4), .val (.int (own_a1 x1)), .val (.int (own_law_j11 x0 x2 x4)), .val (.int (own_law_j25 x1 x3 x4)), .val (.ref b103), .val (.ref b122), .val (.int (own_law_j77 x0 x1 x2 x3 x4)), .val (.int (own_ot x4)), .unset, .unset] [(.int (own_eqS_fn (own_a1 x1) (own_a1 x1)))]))) st247 ?_
                have hc248 : ¬ ((own_eqS_fn (own_a1 x1) (own_a1 x1)) = (0 : Int32)) := own_se _
                refine Goes.step (B := (T247.setTop (mkF m 250 #[.val (.int x0), .val (.int x1), .val (.int x2), .val (.int x3), .val (.int x4), .val (.int (own_a1 x1)), .val (.int (own_law_j11 x0 x2 x4)), .val (.int (own_law_j25 x1 x3 x4)), .val (.ref b103), .val (.ref b122), .val (.int (own_law_j77 x0 x1 x2 x3 x4)), .val (.int (own_ot x4)), .unset, .unset] []))) (fun _ k => XS.ifNo X247.here hx rfl (hb hby at_247) rfl ((if0 _ _).trans (feq hc248).1) k) ?_
                refine Goes.step (B := (T247.setTop (mkF m 251 #[.val (.int x0), .val (.int x1), .val (.int x2), .val (.int x3), .val (.int x4), .val (.int (own_a1 x1)), .val (.int (own_law_j11 x0 x2 x4)), .val (.int (own_law_j25 x1 x3 x4)), .val (.ref b103), .val (.ref b122), .val (.int (own_law_j77 x0 x1 x2 x3 x4)), .val (.int (own_ot x4)), .unset, .unset] [(.int (1 : Int32))]))) (fun _ k => XS.iconst X247.here hx rfl (hb hby at_250) k) ?_
                refine Goes.step (B := (T247.setTop (mkF m 255 #[.val (.int x0), .val (.int x1), .val (.int x2), .val (.int x3), .val (.int x4), .val (.int (own_a1 x1)), .val (.int (own_law_j11 x0 x2 x4)), .val (.int (own_law_j25 x1 x3 x4)), .val (.ref b103), .val (.ref b122), .val (.int (own_law_j77 x0 x1 x2 x3 x4)), .val (.int (own_ot x4)), .unset, .unset] [(.int (1 : Int32))]))) (fun _ k => XS.goto X247.here hx rfl (pc0 := 251) (pc' := 255) rfl (hb hby at_251) (by decide) (by decide) k) ?_
                refine Goes.retN X247 hx hlk (t := .boolean) hrt (by simp) (hb hby at_255) ?_ (by decide) (by decide)
                rw [e247]
                exact ⟨rfl, N247⟩
      by_cases hc249 : ((x0 ^^^ (own_law_j11 x0 x2 x4)) &&& (1 : Int32)) = (0 : Int32)
      · refine Goes.step (B := (T137.setTop (mkF m 80 #[.val (.int x0), .val (.int x1), .val (.int x2), .val (.int x3), .val (.int x4), .val (.int (own_a1 x1)), .val (.int (own_law_j11 x0 x2 x4)), .val (.int (own_law_j25 x1 x3 x4)), .val (.ref b103), .val (.ref b122), .unset, .unset, .unset, .unset] []))) (fun _ k => XS.ifNo X137.here hx rfl (hb hby at_77) rfl ((if0 _ _).trans (teq hc249).2) k) ?_
        refine Goes.step (B := (T137.setTop (mkF m 82 #[.val (.int x0), .val (.int x1), .val (.int x2), .val (.int x3), .val (.int x4), .val (.int (own_a1 x1)), .val (.int (own_law_j11 x0 x2 x4)), .val (.int (own_law_j25 x1 x3 x4)), .val (.ref b103), .val (.ref b122), .unset, .unset, .unset, .unset] [(.int (own_a1 x1))]))) (fun _ k => XS.iload X137.here hx rfl (hb hby at_80) rfl k) ?_
        refine Goes.step (B := (T137.setTop (mkF m 84 #[.val (.int x0), .val (.int x1), .val (.int x2), .val (.int x3), .val (.int x4), .val (.int (own_a1 x1)), .val (.int (own_law_j11 x0 x2 x4)), .val (.int (own_law_j25 x1 x3 x4)), .val (.ref b103), .val (.ref b122), .unset, .unset, .unset, .unset] [(.int (own_law_j25 x1 x3 x4)), (.int (own_a1 x1))]))) (fun _ k => XS.iload X137.here hx rfl (hb hby at_82) rfl k) ?_
        by_cases hc250 : (own_a1 x1) = (own_law_j25 x1 x3 x4)
        · refine Goes.step (B := (T137.setTop (mkF m 87 #[.val (.int x0), .val (.int x1), .val (.int x2), .val (.int x3), .val (.int x4), .val (.int (own_a1 x1)), .val (.int (own_law_j11 x0 x2 x4)), .val (.int (own_law_j25 x1 x3 x4)), .val (.ref b103), .val (.ref b122), .unset, .unset, .unset, .unset] []))) (fun _ k => XS.icmpNo X137.here hx rfl (hb hby at_84) rfl (teq hc250).2 k) ?_
          refine Goes.step (B := (T137.setTop (mkF m 88 #[.val (.int x0), .val (.int x1), .val (.int x2), .val (.int x3), .val (.int x4), .val (.int (own_a1 x1)), .val (.int (own_law_j11 x0 x2 x4)), .val (.int (own_law_j25 x1 x3 x4)), .val (.ref b103), .val (.ref b122), .unset, .unset, .unset, .unset] [(.int (1 : Int32))]))) (fun _ k => XS.iconst X137.here hx rfl (hb hby at_87) k) ?_
          refine Goes.step (B := (T137.setTop (mkF m 92 #[.val (.int x0), .val (.int x1), .val (.int x2), .val (.int x3), .val (.int x4), .val (.int (own_a1 x1)), .val (.int (own_law_j11 x0 x2 x4)), .val (.int (own_law_j25 x1 x3 x4)), .val (.ref b103), .val (.ref b122), .unset, .unset, .unset, .unset] [(.int (1 : Int32))]))) (fun _ k => XS.goto X137.here hx rfl (pc0 := 88) (pc' := 92) rfl (hb hby at_88) (by decide) (by decide) k) ?_
          rw [show own_law_j77 x0 x1 x2 x3 x4 = (1 : Int32) from by simp only [own_law_j77, if_pos hc249, if_pos hc250]] at J148
          exact J148
        · refine Goes.step (B := (T137.setTop (mkF m 91 #[.val (.int x0), .val (.int x1), .val (.int x2), .val (.int x3), .val (.int x4), .val (.int (own_a1 x1)), .val (.int (own_law_j11 x0 x2 x4)), .val (.int (own_law_j25 x1 x3 x4)), .val (.ref b103), .val (.ref b122), .unset, .unset, .unset, .unset] []))) (fun _ k => XS.icmpYes X137.here hx rfl (pc0 := 84) (pc' := 91) rfl (hb hby at_84) rfl (feq hc250).2 (by decide) (by decide) k) ?_
          refine Goes.step (B := (T137.setTop (mkF m 92 #[.val (.int x0), .val (.int x1), .val (.int x2), .val (.int x3), .val (.int x4), .val (.int (own_a1 x1)), .val (.int (own_law_j11 x0 x2 x4)), .val (.int (own_law_j25 x1 x3 x4)), .val (.ref b103), .val (.ref b122), .unset, .unset, .unset, .unset] [(.int (0 : Int32))]))) (fun _ k => XS.iconst X137.here hx rfl (hb hby at_91) k) ?_
          rw [show own_law_j77 x0 x1 x2 x3 x4 = (0 : Int32) from by simp only [own_law_j77, if_pos hc249, if_neg hc250]] at J148
          exact J148
      · refine Goes.step (B := (T137.setTop (mkF m 91 #[.val (.int x0), .val (.int x1), .val (.int x2), .val (.int x3), .val (.int x4), .val (.int (own_a1 x1)), .val (.int (own_law_j11 x0 x2 x4)), .val (.int (own_law_j25 x1 x3 x4)), .val (.ref b103), .val (.ref b122), .unset, .unset, .unset, .unset] []))) (fun _ k => XS.ifYes X137.here hx rfl (pc0 := 77) (pc' := 91) rfl (hb hby at_77) rfl ((if0 _ _).trans (feq hc249).2) (by decide) (by decide) k) ?_
        refine Goes.step (B := (T137.setTop (mkF m 92 #[.val (.int x0), .val (.int x1), .val (.int x2), .val (.int x3), .val (.int x4), .val (.int (own_a1 x1)), .val (.int (own_law_j11 x0 x2 x4)), .val (.int (own_law_j25 x1 x3 x4)), .val (.ref b103), .val (.ref b122), .unset, .unset, .unset, .unset] [(.int (0 : Int32))]))) (fun _ k => XS.iconst X137.here hx rfl (hb hby at_91) k) ?_
        rw [show own_law_j77 x0 x1 x2 x3 x4 = (0 : Int32) from by simp only [own_law_j77, if_neg hc249]] at J148
        exact J148
    by_cases hc251 : (x4 &&& (2 : Int32)) = (0 : Int32)
    · refine Goes.step (B := (s₁.setTop (mkF m 33 #[.val (.int x0), .val (.int x1), .val (.int x2), .val (.int x3), .val (.int x4), .val (.int (own_a1 x1)), .val (.int (own_law_j11 x0 x2 x4)), .unset, .unset, .unset, .unset, .unset, .unset, .unset] []))) (fun _ k => XS.ifYes X0.here hx rfl (pc0 := 25) (pc' := 33) rfl (hb hby at_25) rfl ((if0 _ _).trans (teq hc251).1) (by decide) (by decide) k) ?_
      refine Goes.step (B := (s₁.setTop (mkF m 34 #[.val (.int x0), .val (.int x1), .val (.int x2), .val (.int x3), .val (.int x4), .val (.int (own_a1 x1)), .val (.int (own_law_j11 x0 x2 x4)), .unset, .unset, .unset, .unset, .unset, .unset, .unset] [(.int x3)]))) (fun _ k => XS.iloadN X0.here hx rfl (hb hby at_33) rfl k) ?_
      refine Goes.step (B := (s₁.setTop (mkF m 37 #[.val (.int x0), .val (.int x1), .val (.int x2), .val (.int x3), .val (.int x4), .val (.int (own_a1 x1)), .val (.int (own_law_j11 x0 x2 x4)), .unset, .unset, .unset, .unset, .unset, .unset, .unset] [(.int (255 : Int32)), (.int x3)]))) (fun _ k => XS.sipush X0.here hx rfl (hb hby at_34) k) ?_
      refine Goes.step (B := (s₁.setTop (mkF m 38 #[.val (.int x0), .val (.int x1), .val (.int x2), .val (.int x3), .val (.int x4), .val (.int (own_a1 x1)), .val (.int (own_law_j11 x0 x2 x4)), .unset, .unset, .unset, .unset, .unset, .unset, .unset] [(.int (x3 &&& (255 : Int32)))]))) (fun _ k => XS.iand X0.here hx rfl (hb hby at_37) rfl k) ?_
      rw [show own_law_j25 x1 x3 x4 = (x3 &&& (255 : Int32)) from by simp only [own_law_j25, if_pos hc251]] at J102
      exact J102
    · refine Goes.step (B := (s₁.setTop (mkF m 28 #[.val (.int x0), .val (.int x1), .val (.int x2), .val (.int x3), .val (.int x4), .val (.int (own_a1 x1)), .val (.int (own_law_j11 x0 x2 x4)), .unset, .unset, .unset, .unset, .unset, .unset, .unset] []))) (fun _ k => XS.ifNo X0.here hx rfl (hb hby at_25) rfl ((if0 _ _).trans (feq hc251).1) k) ?_
      refine Goes.step (B := (s₁.setTop (mkF m 30 #[.val (.int x0), .val (.int x1), .val (.int x2), .val (.int x3), .val (.int x4), .val (.int (own_a1 x1)), .val (.int (own_law_j11 x0 x2 x4)), .unset, .unset, .unset, .unset, .unset, .unset, .unset] [(.int (own_a1 x1))]))) (fun _ k => XS.iload X0.here hx rfl (hb hby at_28) rfl k) ?_
      refine Goes.step (B := (s₁.setTop (mkF m 38 #[.val (.int x0), .val (.int x1), .val (.int x2), .val (.int x3), .val (.int x4), .val (.int (own_a1 x1)), .val (.int (own_law_j11 x0 x2 x4)), .unset, .unset, .unset, .unset, .unset, .unset, .unset] [(.int (own_a1 x1))]))) (fun _ k => XS.goto X0.here hx rfl (pc0 := 30) (pc' := 38) rfl (hb hby at_30) (by decide) (by decide) k) ?_
      rw [show own_law_j25 x1 x3 x4 = (own_a1 x1) from by simp only [own_law_j25, if_neg hc251]] at J102
      exact J102
  by_cases hc252 : (x4 &&& (1 : Int32)) = (0 : Int32)
  · refine Goes.step (B := (s₁.setTop (mkF m 18 #[.val (.int x0), .val (.int x1), .val (.int x2), .val (.int x3), .val (.int x4), .val (.int (own_a1 x1)), .unset, .unset, .unset, .unset, .unset, .unset, .unset, .unset] []))) (fun _ k => XS.ifYes X0.here hx rfl (pc0 := 11) (pc' := 18) rfl (hb hby at_11) rfl ((if0 _ _).trans (teq hc252).1) (by decide) (by decide) k) ?_
    refine Goes.step (B := (s₁.setTop (mkF m 19 #[.val (.int x0), .val (.int x1), .val (.int x2), .val (.int x3), .val (.int x4), .val (.int (own_a1 x1)), .unset, .unset, .unset, .unset, .unset, .unset, .unset, .unset] [(.int x2)]))) (fun _ k => XS.iloadN X0.here hx rfl (hb hby at_18) rfl k) ?_
    rw [show own_law_j11 x0 x2 x4 = x2 from by simp only [own_law_j11, if_pos hc252]] at J101
    exact J101
  · refine Goes.step (B := (s₁.setTop (mkF m 14 #[.val (.int x0), .val (.int x1), .val (.int x2), .val (.int x3), .val (.int x4), .val (.int (own_a1 x1)), .unset, .unset, .unset, .unset, .unset, .unset, .unset, .unset] []))) (fun _ k => XS.ifNo X0.here hx rfl (hb hby at_11) rfl ((if0 _ _).trans (feq hc252).1) k) ?_
    refine Goes.step (B := (s₁.setTop (mkF m 15 #[.val (.int x0), .val (.int x1), .val (.int x2), .val (.int x3), .val (.int x4), .val (.int (own_a1 x1)), .unset, .unset, .unset, .unset, .unset, .unset, .unset, .unset] [(.int x0)]))) (fun _ k => XS.iloadN X0.here hx rfl (hb hby at_14) rfl k) ?_
    refine Goes.step (B := (s₁.setTop (mkF m 19 #[.val (.int x0), .val (.int x1), .val (.int x2), .val (.int x3), .val (.int x4), .val (.int (own_a1 x1)), .unset, .unset, .unset, .unset, .unset, .unset, .unset, .unset] [(.int x0)]))) (fun _ k => XS.goto X0.here hx rfl (pc0 := 15) (pc' := 19) rfl (hb hby at_15) (by decide) (by decide) k) ?_
    rw [show own_law_j11 x0 x2 x4 = x0 from by simp only [own_law_j11, if_neg hc252]] at J101
    exact J101
set_option maxRecDepth 65536 in
set_option maxHeartbeats 40000000 in
theorem comes_1 {Post : Tables → Env → Array Value → State → Outcome → State → Prop} (hpost : ∀ tb e args s v u, (limb_1_1.after args s (.returned v) u = true ∧ limb_1_2.after args s (.returned v) u = true ∧ True) → FrameEnd s (.returned v) u (Jvm.fieldLocs frame_1_writes args s ++ Jvm.arrayLocs frame_1_arrays args s ++ Jvm.staticLocs frame_1_statics s) 24 128 → Post tb e args s (.returned v) u) :
    ArmFor flags0 classFile x code maxLocals ret World_1 tables_1 room_1 Calls_1 rest_1 Pre_1 Post := by
  intro l hfl _ _ p e ha hc hk s m args below hf hA hF happ hP
  obtain ⟨hcalls, hrest, hpre⟩ := hP
  obtain ⟨-, -, -, hnamed, -, -, -, hat⟩ := (Spec.applies_iff hf).mp happ
  obtain ⟨hg, hn⟩ := and_e (Cond.before_iff.mp (show (Jvm.Cond.and given_1 narrow_1).before args s = true from hpre))
  obtain ⟨hg1, hg2⟩ := and_e hg
  obtain ⟨hg3, hg4⟩ := and_e hg2
  obtain ⟨hg5, hg6⟩ := and_e hg4
  obtain ⟨hg7, hg8⟩ := and_e hg6
  obtain ⟨hg9, hg10⟩ := and_e hg8
  obtain ⟨w0, w1, w2, w3, w4, rfl⟩ : ∃ w0 w1 w2 w3 w4 : Value, args = #[w0, w1, w2, w3, w4] := by
    have hs : args.size = 5 := by simpa [Cond.value, given_1] using hg1
    obtain ⟨L⟩ := args
    match L, hs with
    | [w0, w1, w2, w3, w4], _ => exact ⟨w0, w1, w2, w3, w4, rfl⟩
  have hw := fun d (hd : d ∈ tables_1) => atoms_spec (ws := Jvm.Cond.code x code maxLocals ret :: tables_1) hat d (List.mem_cons_of_mem _ hd)
  have hfit : Fit s := fun {y c} hc i hi => by
    obtain ⟨ha, rfl⟩ := Array.getElem?_eq_some_iff.mp hc
    have q := List.all_eq_true.mp ((Array.all_eq_true_iff_forall_mem.mp hF) _ (Array.getElem_mem ha)) i (List.mem_range.mpr hi)
    simpa [Array.getElem?_eq_getElem hi] using q
  obtain ⟨hsets, hown0⟩ := atoms_of _ (rest_1_c_eq ▸ (show rest_1_c.before _ s = true from hrest))
  obtain ⟨i0, ei0⟩ := is_v hg3
  obtain rfl : w0 = (.int i0) := Option.some.inj ei0
  obtain ⟨i1, ei1⟩ := is_v hg5
  obtain rfl : w1 = (.int i1) := Option.some.inj ei1
  obtain ⟨i2, ei2⟩ := is_v hg7
  obtain rfl : w2 = (.int i2) := Option.some.inj ei2
  obtain ⟨i3, ei3⟩ := is_v hg9
  obtain rfl : w3 = (.int i3) := Option.some.inj ei3
  obtain ⟨i4, ei4⟩ := is_v hg10
  obtain rfl : w4 = (.int i4) := Option.some.inj ei4
  obtain ⟨hn1, hn2⟩ := and_e hn
  obtain ⟨aT, ev_aT⟩ := exa_v hn1
  have S_aT := Sta.start ev_aT (Or.inr ⟨(hw _ (List.mem_of_getElem? (i := 8) rfl)), (hw _ (List.mem_of_getElem? (i := 9) rfl))⟩)
  have E_aT := Exa.start ev_aT hn1
  obtain ⟨hn3, hn4⟩ := and_e hn2
  obtain ⟨aB, ev_aB⟩ := exa_v hn3
  have S_aB := Sta.start ev_aB (Or.inr ⟨(hw _ (List.mem_of_getElem? (i := 8) rfl)), (hw _ (List.mem_of_getElem? (i := 33) rfl))⟩)
  have E_aB := Exa.start ev_aB hn3
  obtain ⟨hn5, hn6⟩ := and_e hn4
  have o_aB := own_ord ev_aB hn5
  have o_aT := own_ord ev_aT hn6
  obtain ⟨cw, ecw⟩ := is_v (Cond.before_iff.mp (hsets _ (List.mem_of_getElem? (i := 1) rfl)))
  have SC := Sta.start ecw (Or.inl (hsets _ (List.mem_of_getElem? (i := 0) rfl)))
  have hcw : ¬ (cw = (0 : Int32)) := own_nz0 ecw (Cond.before_iff.mp (hsets _ (List.mem_of_getElem? (i := 2) rfl)))
  have ehi := own_stint (Cond.before_iff.mp (hsets _ (List.mem_of_getElem? (i := 12) rfl)))
  have SHi := Sta.start ehi (Or.inl (hsets _ (List.mem_of_getElem? (i := 10) rfl)))
  obtain ⟨cc, ecc⟩ := arr_v (Cond.before_iff.mp (hsets _ (List.mem_of_getElem? (i := 13) rfl)))
  have SCa := Sta.start ecc (Or.inr ⟨(hw _ (List.mem_of_getElem? (i := 69) rfl)), (hsets _ (List.mem_of_getElem? (i := 11) rfl))⟩)
  obtain ⟨cl, Ac⟩ := Arr.start ecc (Cond.before_iff.mp (hsets _ (List.mem_of_getElem? (i := 13) rfl)))
  have VC : OwnCache s s.heap cc := own_cache ecc Ac (Cond.before_iff.mp (hsets _ (List.mem_of_getElem? (i := 15) rfl))) (Cond.before_iff.mp (hsets _ (List.mem_of_getElem? (i := 16) rfl)))
  obtain ⟨n, o, h1, h2, h3, _, L, rfl, ⟨hv, N⟩, hq⟩ := own_law_rm l s _ hw tables_1 i0 i1 i2 i3 i4 aT aB cw cc s.heap s.heap.size (Nat.le_refl _) S_aT S_aB SC SHi SCa VC (own_ne o_aT o_aB (by decide)) hcw p e ha hc hk s m _ below hf ((Spec.applies_iff_loose hf).mp happ).1 ⟨rfl, State.Warmed39.refl s, rfl⟩ trivial
  subst hv
  refine ⟨n, _, h1, h2, h3, hpost _ _ _ _ _ _ ⟨Cond.after_iff.mpr rfl, Cond.after_iff.mpr (eq_i res_at (Term.int_eval (1)) rfl), trivial⟩ ⟨hq.1, hq.2.1, (hq.2.2.sift fun y hy => Or.inr (N y hy)).mono (by decide) (by decide)⟩⟩
theorem main_1_1 : Claimed_1_1 := comes_1 fun _ _ _ _ _ _ h hF => ⟨h.1, hF⟩
theorem main_1_2 : Claimed_1_2 := comes_1 fun _ _ _ _ _ _ h hF => ⟨h.2.1, hF⟩
end Jvm.Pilot.@@N@@
namespace Jvm.Pilot.@@N@@
open Jvm Jvm.ClassFile Sem Op Lib Jvm.Free Jvm.Stand Jvm.Pilot.@@N@@.Jvm.D
/-! MADE BY PROGRAM (witnessworld.py) out of the Statement's table words and the real class files: 27 classes; the members and pool entries that the words name. The judged class is class 1, her method 2. -/
namespace start1
open Jvm.ClassFile
def u (s : String) : CpInfo := .utf8 (stringToUtf16 s)
/-- a pool by its gaps: so many unusable entries, then the entry; so many at the end -/
def gap : Nat → List CpInfo → List CpInfo
  | 0, r => r
  | n + 1, r => .unusable :: gap n r
def poolList (es : List (Nat × CpInfo)) (last : Nat) : List CpInfo := es.foldr (fun e r => gap e.1 (e.2 :: r)) (gap last [])
def pool (es : List (Nat × CpInfo)) (last : Nat) : Array CpInfo := ⟨poolList es last⟩
def fileOf (pool : Array CpInfo) (this : Nat) (attrs : Array Attribute := #[]) (ms : Array MethodInfo := #[]) (fl : Nat := 33) (sup : Nat := 0) (ifs : Array Nat := #[]) (fds : Array FieldInfo := #[]) : ClassFile where
  minorVersion := 0
  majorVersion := 65
  constantPool := pool
  accessFlags := fl
  thisClass := this
  superClass := sup
  interfaces := ifs
  fields := fds
  methods := ms
  attributes := attrs
def plain (name : String) (sup : Option ClassId) : Class where
  name := name
  kind := .ordinary
  loader := none
  accessFlags := 33
  super := sup
  interfaces := #[]
  cf := none
  fields := #[]
  methods := #[]
  instanceTypes := #[]
  staticTypes := #[]
  resolved := #[]
  callSites := []
  init := .initialized
  statics := none
  mirror := none

def pool0 : Array CpInfo := pool [(5, u "<init>"), (0, u "()V"), (1, .class_ 10), (1, u "java/lang/Object")] 113

def k0c0 : Code := { maxStack := 0, maxLocals := 1, code := object_method_1_code, exceptionTable := #[], attributes := #[] }
def k0m0 : Method := { name := "<init>", desc := "()V", sig := { parameters := [], returnType := none }, accessFlags := 1, code := some k0c0 }
/-- java/lang/Object -/
def k0 : Class := { plain "java/lang/Object" none with
  accessFlags := 33
  interfaces := #[]
  cf := some (fileOf pool0 8 #[] #[{ accessFlags := 1, nameIndex := 5, descriptorIndex := 6, attributes := #[] }] 33 0 #[] #[])
  fields := #[]
  methods := #[k0m0]
  instanceTypes := #[]
  staticTypes := #[]
  resolved := Array.replicate 124 none
  statics := none }

def pool1 : Array CpInfo := pool [(2, .class_ 4), (1, u "java/lang/Object"), (0, u "<init>"), (0, u "()V"), (0, .fieldref 8 9), (0, .class_ 10), (0, .nameAndType 11 12), (0, u "com/example/portcullis/portcullis/rules/BasicService$Kind"), (0, u "TELESERVICE"), (0, u "Lcom/example/portcullis/portcullis/rules/BasicService$Kind;"), (0, .fieldref 8 14), (0, .nameAndType 15 12), (0, u "BEARER_SERVICE"), (0, .class_ 17), (0, u "com/example/portcullis/portcullis/rules/BasicService"), (0, .methodref 19 20), (0, .class_ 21), (0, .nameAndType 22 23), (0, u "com/example/portcullis/portcullis/rules/BasicServiceEqualsPinLaw"), (0, u "kindOf"), (0, u "(I)Lcom/example/portcullis/portcullis/rules/BasicService$Kind;"), (0, .methodref 16 25), (0, .nameAndType 5 26), (0, u "(Lcom/example/portcullis/portcullis/rules/BasicService$Kind;I)V"), (0, .methodref 16 28), (0, .nameAndType 29 30), (0, u "equals"), (0, u "(Ljava/lang/Object;)Z"), (0, .class_ 32), (0, u "java/lang/String"), (0, .methodref 31 34), (0, .nameAndType 5 35), (0, u "([C)V"), (0, .methodref 37 38), (0, .class_ 39), (0, .nameAndType 40 41), (0, u "java/lang/Integer"), (0, u "valueOf"), (0, u "(I)Ljava/lang/Integer;"), (3, u "law"), (0, u "(IIIII)Z")] 6

def k1m0 : Method := { name := "<init>", desc := "()V", sig := { parameters := [], returnType := none }, accessFlags := 1, code := none }
def k1c1 : Code := { maxStack := 2, maxLocals := 1, code := method_2_code, exceptionTable := #[], attributes := #[] }
def k1m1 : Method := { name := "kindOf", desc := "(I)Lcom/example/portcullis/portcullis/rules/BasicService$Kind;", sig := { parameters := [.int], returnType := some (.object "com/example/portcullis/portcullis/rules/BasicService$Kind") }, accessFlags := 10, code := some k1c1 }
def k1c2 : Code := { maxStack := 5, maxLocals := 14, code := code, exceptionTable := #[], attributes := #[] }
def k1m2 : Method := { name := "law", desc := "(IIIII)Z", sig := { parameters := [.int, .int, .int, .int, .int], returnType := some .boolean }, accessFlags := 9, code := some k1c2 }
/-- com/example/portcullis/portcullis/rules/BasicServiceEqualsPinLaw -/
def k1 : Class := { plain "com/example/portcullis/portcullis/rules/BasicServiceEqualsPinLaw" (some 0) with
  accessFlags := 49
  interfaces := #[]
  cf := some (fileOf pool1 19 #[] #[{ accessFlags := 1, nameIndex := 5, descriptorIndex := 6, attributes := #[] }, { accessFlags := 10, nameIndex := 22, descriptorIndex := 23, attributes := #[] }, { accessFlags := 9, nameIndex := 45, descriptorIndex := 46, attributes := #[] }] 49 2 #[] #[])
  fields := #[]
  methods := #[k1m0, k1m1, k1m2]
  instanceTypes := #[]
  staticTypes := #[]
  resolved := Array.replicate 53 none
  statics := none }

def pool2 : Array CpInfo := pool [(1, .methodref 2 3), (0, .class_ 4), (0, .nameAndType 5 6), (0, u "java/lang/Object"), (0, u "<init>"), (0, u "()V"), (0, .class_ 8), (0, u "java/lang/Record")] 13

def k2c0 : Code := { maxStack := 1, maxLocals := 1, code := jdk_30_method_1_code, exceptionTable := #[], attributes := #[] }
def k2m0 : Method := { name := "<init>", desc := "()V", sig := { parameters := [], returnType := none }, accessFlags := 4, code := some k2c0 }
/-- java/lang/Record -/
def k2 : Class := { plain "java/lang/Record" (some 0) with
  accessFlags := 1057
  interfaces := #[]
  cf := some (fileOf pool2 7 #[] #[{ accessFlags := 4, nameIndex := 5, descriptorIndex := 6, attributes := #[] }] 1057 2 #[] #[])
  fields := #[]
  methods := #[k2m0]
  instanceTypes := #[]
  staticTypes := #[]
  resolved := Array.replicate 22 none
  statics := none }

def pool3 : Array CpInfo := pool [(1, .class_ 2), (0, u "java/lang/Comparable"), (0, .class_ 4), (0, u "java/lang/Object")] 7

/-- java/lang/Comparable -/
def k3 : Class := { plain "java/lang/Comparable" (some 0) with
  accessFlags := 1537
  interfaces := #[]
  cf := some (fileOf pool3 1 #[] #[] 1537 3 #[] #[])
  fields := #[]
  methods := #[]
  instanceTypes := #[]
  staticTypes := #[]
  resolved := Array.replicate 12 none
  statics := none }

def pool4 : Array CpInfo := pool [(1, .methodref 2 3), (0, .class_ 4), (0, .nameAndType 5 6), (0, u "java/lang/Record"), (0, u "<init>"), (0, u "()V"), (9, .fieldref 17 18), (0, .class_ 19), (0, .nameAndType 20 21), (0, u "com/example/portcullis/portcullis/rules/BasicService"), (0, u "kind"), (0, u "Lcom/example/portcullis/portcullis/rules/BasicService$Kind;"), (0, .fieldref 17 23), (0, .nameAndType 24 25), (0, u "code"), (0, u "I"), (1, .class_ 29), (1, u "com/example/portcullis/portcullis/rules/BasicService$Kind"), (37, u "(Lcom/example/portcullis/portcullis/rules/BasicService$Kind;I)V"), (22, u "SHORT_MESSAGE_SERVICES"), (0, u "Lcom/example/portcullis/portcullis/rules/BasicService;"), (14, u "ORDER"), (0, u "Ljava/util/Comparator;"), (24, u "EMERGENCY_CALLS"), (2, u "SHORT_MESSAGE_MT"), (2, u "SHORT_MESSAGE_MO"), (2, u "COUNT"), (13, .class_ 156), (0, u "java/lang/Comparable"), (15, u "equals"), (0, u "(Ljava/lang/Object;)Z")] 54

def k4c0 : Code := { maxStack := 3, maxLocals := 3, code := prog_26_method_1_code, exceptionTable := #[], attributes := #[] }
def k4m0 : Method := { name := "<init>", desc := "(Lcom/example/portcullis/portcullis/rules/BasicService$Kind;I)V", sig := { parameters := [(.object "com/example/portcullis/portcullis/rules/BasicService$Kind"), .int], returnType := none }, accessFlags := 1, code := some k4c0 }
def k4c1 : Code := { maxStack := 2, maxLocals := 3, code := prog_26_method_9_code, exceptionTable := #[], attributes := #[] }
def k4m1 : Method := { name := "equals", desc := "(Ljava/lang/Object;)Z", sig := { parameters := [(.object "java/lang/Object")], returnType := some .boolean }, accessFlags := 1, code := some k4c1 }
/-- com/example/portcullis/portcullis/rules/BasicService -/
def k4 : Class := { plain "com/example/portcullis/portcullis/rules/BasicService" (some 2) with
  accessFlags := 49
  interfaces := #[3]
  cf := some (fileOf pool4 17 #[.nestMembers #[27]] #[{ accessFlags := 1, nameIndex := 5, descriptorIndex := 67, attributes := #[] }, { accessFlags := 1, nameIndex := 172, descriptorIndex := 173, attributes := #[] }] 49 2 #[155] #[{ accessFlags := 18, nameIndex := 20, descriptorIndex := 21, attributes := #[] }, { accessFlags := 18, nameIndex := 24, descriptorIndex := 25, attributes := #[] }, { accessFlags := 25, nameIndex := 132, descriptorIndex := 91, attributes := #[] }, { accessFlags := 25, nameIndex := 90, descriptorIndex := 91, attributes := #[] }, { accessFlags := 25, nameIndex := 135, descriptorIndex := 91, attributes := #[] }, { accessFlags := 25, nameIndex := 138, descriptorIndex := 91, attributes := #[] }, { accessFlags := 24, nameIndex := 141, descriptorIndex := 25, attributes := #[] }, { accessFlags := 26, nameIndex := 106, descriptorIndex := 107, attributes := #[] }])
  fields := #[{ name := "kind", type := (.object "com/example/portcullis/portcullis/rules/BasicService$Kind"), accessFlags := 18, slot := 0, constantValue := 0 }, { name := "code", type := .int, accessFlags := 18, slot := 1, constantValue := 0 }, { name := "EMERGENCY_CALLS", type := (.object "com/example/portcullis/portcullis/rules/BasicService"), accessFlags := 25, slot := 0, constantValue := 0 }, { name := "SHORT_MESSAGE_SERVICES", type := (.object "com/example/portcullis/portcullis/rules/BasicService"), accessFlags := 25, slot := 1, constantValue := 0 }, { name := "SHORT_MESSAGE_MT", type := (.object "com/example/portcullis/portcullis/rules/BasicService"), accessFlags := 25, slot := 2, constantValue := 0 }, { name := "SHORT_MESSAGE_MO", type := (.object "com/example/portcullis/portcullis/rules/BasicService"), accessFlags := 25, slot := 3, constantValue := 0 }, { name := "COUNT", type := .int, accessFlags := 24, slot := 4, constantValue := 0 }, { name := "ORDER", type := (.object "java/util/Comparator"), accessFlags := 26, slot := 5, constantValue := 0 }]
  methods := #[k4m0, k4m1]
  instanceTypes := #[(.object "com/example/portcullis/portcullis/rules/BasicService$Kind"), .int]
  staticTypes := #[(.object "com/example/portcullis/portcullis/rules/BasicService"), (.object "com/example/portcullis/portcullis/rules/BasicService"), (.object "com/example/portcullis/portcullis/rules/BasicService"), (.object "com/example/portcullis/portcullis/rules/BasicService"), .int, (.object "java/util/Comparator")]
  resolved := Array.replicate 228 none
  statics := none }

def pool5 : Array CpInfo := pool [(1, .class_ 2), (0, u "java/lang/constant/Constable"), (0, .class_ 4), (0, u "java/lang/Object")] 6

/-- java/lang/constant/Constable -/
def k5 : Class := { plain "java/lang/constant/Constable" (some 0) with
  accessFlags := 1537
  interfaces := #[]
  cf := some (fileOf pool5 1 #[] #[] 1537 3 #[] #[])
  fields := #[]
  methods := #[]
  instanceTypes := #[]
  staticTypes := #[]
  resolved := Array.replicate 11 none
  statics := none }

def pool6 : Array CpInfo := pool [(1, .class_ 2), (0, u "java/io/Serializable"), (0, .class_ 4), (0, u "java/lang/Object")] 2

/-- java/io/Serializable -/
def k6 : Class := { plain "java/io/Serializable" (some 0) with
  accessFlags := 1537
  interfaces := #[]
  cf := some (fileOf pool6 1 #[] #[] 1537 3 #[] #[])
  fields := #[]
  methods := #[]
  instanceTypes := #[]
  staticTypes := #[]
  resolved := Array.replicate 7 none
  statics := none }

def pool7 : Array CpInfo := pool [(2, .class_ 4), (1, u "java/lang/Enum"), (0, u "name"), (0, u "Ljava/lang/String;"), (2, u "ordinal"), (0, u "I"), (1, .class_ 14), (1, u "java/lang/Object"), (4, u "hash"), (86, .class_ 108), (1, u "java/lang/Enum$EnumDesc"), (2, .class_ 112), (0, u "java/lang/constant/Constable"), (0, .class_ 114), (0, u "java/lang/Comparable"), (0, .class_ 116), (0, u "java/io/Serializable")] 87

/-- java/lang/Enum -/
def k7 : Class := { plain "java/lang/Enum" (some 0) with
  accessFlags := 1057
  interfaces := #[5, 3, 6]
  cf := some (fileOf pool7 2 #[.nestMembers #[106]] #[] 1057 12 #[111, 113, 115] #[{ accessFlags := 18, nameIndex := 5, descriptorIndex := 6, attributes := #[] }, { accessFlags := 18, nameIndex := 9, descriptorIndex := 10, attributes := #[] }, { accessFlags := 2, nameIndex := 19, descriptorIndex := 10, attributes := #[] }])
  fields := #[{ name := "name", type := (.object "java/lang/String"), accessFlags := 18, slot := 0, constantValue := 0 }, { name := "ordinal", type := .int, accessFlags := 18, slot := 1, constantValue := 0 }, { name := "hash", type := .int, accessFlags := 2, slot := 2, constantValue := 0 }]
  methods := #[]
  instanceTypes := #[(.object "java/lang/String"), .int, .int]
  staticTypes := #[]
  resolved := Array.replicate 204 none
  statics := none }

def pool8 : Array CpInfo := pool [(1, .class_ 2), (0, u "com/example/portcullis/portcullis/rules/BasicService$Kind"), (2, u "TELESERVICE"), (0, u "Lcom/example/portcullis/portcullis/rules/BasicService$Kind;"), (2, u "BEARER_SERVICE"), (2, u "$VALUES"), (0, u "[Lcom/example/portcullis/portcullis/rules/BasicService$Kind;"), (6, .class_ 22), (1, u "java/lang/Enum"), (8, u "prefix"), (0, u "Ljava/lang/String;"), (26, .class_ 60), (0, u "com/example/portcullis/portcullis/rules/BasicService")] 2

/-- com/example/portcullis/portcullis/rules/BasicService$Kind -/
def k8 : Class := { plain "com/example/portcullis/portcullis/rules/BasicService$Kind" (some 7) with
  accessFlags := 16433
  interfaces := #[]
  cf := some (fileOf pool8 1 #[.nestHost 59] #[] 16433 20 #[] #[{ accessFlags := 16409, nameIndex := 5, descriptorIndex := 6, attributes := #[] }, { accessFlags := 16409, nameIndex := 9, descriptorIndex := 6, attributes := #[] }, { accessFlags := 18, nameIndex := 31, descriptorIndex := 32, attributes := #[] }, { accessFlags := 4122, nameIndex := 12, descriptorIndex := 13, attributes := #[] }])
  fields := #[{ name := "TELESERVICE", type := (.object "com/example/portcullis/portcullis/rules/BasicService$Kind"), accessFlags := 16409, slot := 0, constantValue := 0 }, { name := "BEARER_SERVICE", type := (.object "com/example/portcullis/portcullis/rules/BasicService$Kind"), accessFlags := 16409, slot := 1, constantValue := 0 }, { name := "prefix", type := (.object "java/lang/String"), accessFlags := 18, slot := 3, constantValue := 0 }, { name := "$VALUES", type := (.array (.object "com/example/portcullis/portcullis/rules/BasicService$Kind")), accessFlags := 4122, slot := 2, constantValue := 0 }]
  methods := #[]
  instanceTypes := #[(.object "java/lang/String"), .int, .int, (.object "java/lang/String")]
  staticTypes := #[(.object "com/example/portcullis/portcullis/rules/BasicService$Kind"), (.object "com/example/portcullis/portcullis/rules/BasicService$Kind"), (.array (.object "com/example/portcullis/portcullis/rules/BasicService$Kind"))]
  resolved := Array.replicate 63 none
  statics := some 0 }

def pool9 : Array CpInfo := pool [(2, .class_ 4), (1, u "java/lang/CharSequence"), (42, .class_ 48), (0, u "java/lang/CharSequence$1CodePointIterator"), (10, .class_ 60), (0, u "java/lang/CharSequence$1CharIterator"), (5, .class_ 67), (0, u "java/lang/Object")] 63

/-- java/lang/CharSequence -/
def k9 : Class := { plain "java/lang/CharSequence" (some 0) with
  accessFlags := 1537
  interfaces := #[]
  cf := some (fileOf pool9 2 #[.nestMembers #[47, 59]] #[] 1537 66 #[] #[])
  fields := #[]
  methods := #[]
  instanceTypes := #[]
  staticTypes := #[]
  resolved := Array.replicate 131 none
  statics := none }

def pool10 : Array CpInfo := pool [(1, .class_ 2), (0, u "java/lang/constant/ConstantDesc"), (0, .class_ 4), (0, u "java/lang/Object")] 32

/-- java/lang/constant/ConstantDesc -/
def k10 : Class := { plain "java/lang/constant/ConstantDesc" (some 0) with
  accessFlags := 1537
  interfaces := #[]
  cf := some (fileOf pool10 1 #[] #[] 1537 3 #[] #[])
  fields := #[]
  methods := #[]
  instanceTypes := #[]
  staticTypes := #[]
  resolved := Array.replicate 37 none
  statics := none }

def pool11 : Array CpInfo := pool [(1, .methodref 2 3), (0, .class_ 4), (0, .nameAndType 5 6), (0, u "java/lang/Object"), (0, u "<init>"), (0, u "()V"), (2, .fieldref 10 11), (0, .class_ 12), (0, .nameAndType 13 14), (0, u "java/lang/String"), (0, u "value"), (0, u "[B"), (0, .fieldref 10 16), (0, .nameAndType 17 18), (0, u "coder"), (0, u "B"), (2, u "hash"), (0, u "I"), (2, u "hashIsZero"), (0, u "Z"), (0, .methodref 10 28), (0, .nameAndType 5 29), (0, u "([CIILjava/lang/Void;)V"), (8, .fieldref 10 39), (0, .nameAndType 40 26), (0, u "COMPACT_STRINGS"), (1, .class_ 44), (1, u "java/lang/StringUTF16"), (0, u "compress"), (1, .methodref 42 48), (0, .nameAndType 49 50), (0, u "coderFromArrayLen"), (0, u "([BI)B"), (126, .methodref 42 178), (0, .nameAndType 45 179), (0, u "([CII)[B"), (395, .class_ 576), (0, u "java/lang/CharSequence"), (22, u "CASE_INSENSITIVE_ORDER"), (0, u "Ljava/util/Comparator;"), (409, u "([C)V"), (90, u "serialPersistentFields"), (0, u "[Ljava/io/ObjectStreamField;"), (0, .class_ 1104), (0, u "java/lang/String$CaseInsensitiveComparator"), (1, .class_ 1107), (0, u "java/io/Serializable"), (0, .class_ 1109), (0, u "java/lang/Comparable"), (0, .class_ 1111), (0, u "java/lang/constant/Constable"), (0, .class_ 1113), (0, u "java/lang/constant/ConstantDesc"), (2, u "serialVersionUID"), (0, u "J"), (3, u "REPL"), (0, u "C"), (2, u "LATIN1"), (1, u "UTF16")] 323

def k11m0 : Method := { name := "<init>", desc := "()V", sig := { parameters := [], returnType := none }, accessFlags := 1, code := none }
def k11c1 : Code := { maxStack := 5, maxLocals := 2, code := jdk_42_method_3_code, exceptionTable := #[], attributes := #[] }
def k11m1 : Method := { name := "<init>", desc := "([C)V", sig := { parameters := [(.array .char)], returnType := none }, accessFlags := 1, code := some k11c1 }
def k11c2 : Code := { maxStack := 4, maxLocals := 6, code := jdk_42_method_149_code, exceptionTable := #[], attributes := #[] }
def k11m2 : Method := { name := "<init>", desc := "([CIILjava/lang/Void;)V", sig := { parameters := [(.array .char), .int, .int, (.object "java/lang/Void")], returnType := none }, accessFlags := 2, code := some k11c2 }
/-- java/lang/String -/
def k11 : Class := { plain "java/lang/String" (some 0) with
  accessFlags := 49
  interfaces := #[6, 3, 9, 5, 10]
  cf := some (fileOf pool11 10 #[.nestMembers #[1103]] #[{ accessFlags := 1, nameIndex := 5, descriptorIndex := 6, attributes := #[] }, { accessFlags := 1, nameIndex := 5, descriptorIndex := 1010, attributes := #[] }, { accessFlags := 2, nameIndex := 5, descriptorIndex := 29, attributes := #[] }] 49 2 #[1106, 1108, 575, 1110, 1112] #[{ accessFlags := 18, nameIndex := 13, descriptorIndex := 14, attributes := #[] }, { accessFlags := 18, nameIndex := 17, descriptorIndex := 18, attributes := #[] }, { accessFlags := 2, nameIndex := 21, descriptorIndex := 22, attributes := #[] }, { accessFlags := 2, nameIndex := 25, descriptorIndex := 26, attributes := #[] }, { accessFlags := 26, nameIndex := 1116, descriptorIndex := 1117, attributes := #[] }, { accessFlags := 24, nameIndex := 40, descriptorIndex := 26, attributes := #[] }, { accessFlags := 26, nameIndex := 1101, descriptorIndex := 1102, attributes := #[] }, { accessFlags := 26, nameIndex := 1121, descriptorIndex := 1122, attributes := #[] }, { accessFlags := 25, nameIndex := 599, descriptorIndex := 600, attributes := #[] }, { accessFlags := 24, nameIndex := 1125, descriptorIndex := 18, attributes := #[] }, { accessFlags := 24, nameIndex := 1127, descriptorIndex := 18, attributes := #[] }])
  fields := #[{ name := "value", type := (.array .byte), accessFlags := 18, slot := 0, constantValue := 0 }, { name := "coder", type := .byte, accessFlags := 18, slot := 1, constantValue := 0 }, { name := "hash", type := .int, accessFlags := 2, slot := 2, constantValue := 0 }, { name := "hashIsZero", type := .boolean, accessFlags := 2, slot := 3, constantValue := 0 }, { name := "serialVersionUID", type := .long, accessFlags := 26, slot := 0, constantValue := 0 }, { name := "COMPACT_STRINGS", type := .boolean, accessFlags := 24, slot := 1, constantValue := 0 }, { name := "serialPersistentFields", type := (.array (.object "java/io/ObjectStreamField")), accessFlags := 26, slot := 2, constantValue := 0 }, { name := "REPL", type := .char, accessFlags := 26, slot := 3, constantValue := 0 }, { name := "CASE_INSENSITIVE_ORDER", type := (.object "java/util/Comparator"), accessFlags := 25, slot := 4, constantValue := 0 }, { name := "LATIN1", type := .byte, accessFlags := 24, slot := 5, constantValue := 0 }, { name := "UTF16", type := .byte, accessFlags := 24, slot := 6, constantValue := 0 }]
  methods := #[k11m0, k11m1, k11m2]
  instanceTypes := #[(.array .byte), .byte, .int, .boolean]
  staticTypes := #[.long, .boolean, (.array (.object "java/io/ObjectStreamField")), .char, (.object "java/util/Comparator"), .byte, .byte]
  resolved := Array.replicate 1451 none
  statics := some 1 }

def pool12 : Array CpInfo := pool [(6, .class_ 8), (1, u "java/lang/Object"), (0, u "<init>"), (0, u "()V"), (1, .class_ 14), (1, u "java/lang/StringUTF16"), (31, u "$assertionsDisabled"), (0, u "Z"), (13, u "HI_BYTE_SHIFT"), (0, u "I"), (2, u "LO_BYTE_SHIFT"), (49, .methodref 12 116), (0, .nameAndType 117 118), (0, u "compress"), (0, u "([CI[BII)I"), (3, u "([CII)[B"), (138, u "coderFromArrayLen"), (0, u "([BI)B"), (106, .class_ 371), (1, u "java/lang/StringUTF16$LinesSpliterator"), (58, u "MAX_LENGTH"), (196, .class_ 628), (0, u "java/lang/StringUTF16$CodePointsSpliterator"), (0, .class_ 630), (0, u "java/lang/StringUTF16$CharsSpliterator")] 4

def k12m0 : Method := { name := "<init>", desc := "()V", sig := { parameters := [], returnType := none }, accessFlags := 0, code := none }
def k12c1 : Code := { maxStack := 2, maxLocals := 2, code := jdk_52_method_15_code, exceptionTable := #[], attributes := #[] }
def k12m1 : Method := { name := "coderFromArrayLen", desc := "([BI)B", sig := { parameters := [(.array .byte), .int], returnType := some .byte }, accessFlags := 8, code := some k12c1 }
def k12c2 : Code := { maxStack := 5, maxLocals := 6, code := jdk_52_method_16_code, exceptionTable := #[], attributes := #[] }
def k12m2 : Method := { name := "compress", desc := "([CII)[B", sig := { parameters := [(.array .char), .int, .int], returnType := some (.array .byte) }, accessFlags := 9, code := some k12c2 }
def k12c3 : Code := { maxStack := 3, maxLocals := 7, code := jdk_52_method_21_code, exceptionTable := #[], attributes := #[] }
def k12m3 : Method := { name := "compress", desc := "([CI[BII)I", sig := { parameters := [(.array .char), .int, (.array .byte), .int, .int], returnType := some .int }, accessFlags := 9, code := some k12c3 }
/-- java/lang/StringUTF16 -/
def k12 : Class := { plain "java/lang/StringUTF16" (some 0) with
  accessFlags := 48
  interfaces := #[]
  cf := some (fileOf pool12 12 #[.nestMembers #[627, 629, 369]] #[{ accessFlags := 0, nameIndex := 9, descriptorIndex := 10, attributes := #[] }, { accessFlags := 8, nameIndex := 261, descriptorIndex := 262, attributes := #[] }, { accessFlags := 9, nameIndex := 117, descriptorIndex := 122, attributes := #[] }, { accessFlags := 9, nameIndex := 117, descriptorIndex := 118, attributes := #[] }] 48 6 #[] #[{ accessFlags := 26, nameIndex := 61, descriptorIndex := 62, attributes := #[] }, { accessFlags := 26, nameIndex := 65, descriptorIndex := 62, attributes := #[] }, { accessFlags := 24, nameIndex := 430, descriptorIndex := 62, attributes := #[] }, { accessFlags := 4120, nameIndex := 46, descriptorIndex := 47, attributes := #[] }])
  fields := #[{ name := "HI_BYTE_SHIFT", type := .int, accessFlags := 26, slot := 0, constantValue := 0 }, { name := "LO_BYTE_SHIFT", type := .int, accessFlags := 26, slot := 1, constantValue := 0 }, { name := "MAX_LENGTH", type := .int, accessFlags := 24, slot := 2, constantValue := 0 }, { name := "$assertionsDisabled", type := .boolean, accessFlags := 4120, slot := 3, constantValue := 0 }]
  methods := #[k12m0, k12m1, k12m2, k12m3]
  instanceTypes := #[]
  staticTypes := #[.int, .int, .int, .boolean]
  resolved := Array.replicate 635 none
  statics := none }

def pool13 : Array CpInfo := pool [(1, .methodref 2 3), (0, .class_ 4), (0, .nameAndType 5 6), (0, u "java/lang/Object"), (0, u "<init>"), (0, u "()V"), (1, .class_ 10), (1, u "java/lang/Number"), (2, .class_ 14), (0, u "java/io/Serializable"), (0, u "serialVersionUID"), (0, u "J")] 20

def k13c0 : Code := { maxStack := 1, maxLocals := 1, code := jdk_18_method_1_code, exceptionTable := #[], attributes := #[] }
def k13m0 : Method := { name := "<init>", desc := "()V", sig := { parameters := [], returnType := none }, accessFlags := 1, code := some k13c0 }
/-- java/lang/Number -/
def k13 : Class := { plain "java/lang/Number" (some 0) with
  accessFlags := 1057
  interfaces := #[6]
  cf := some (fileOf pool13 8 #[] #[{ accessFlags := 1, nameIndex := 5, descriptorIndex := 6, attributes := #[] }] 1057 2 #[13] #[{ accessFlags := 26, nameIndex := 15, descriptorIndex := 16, attributes := #[] }])
  fields := #[{ name := "serialVersionUID", type := .long, accessFlags := 26, slot := 0, constantValue := 0 }]
  methods := #[k13m0]
  instanceTypes := #[]
  staticTypes := #[.long]
  resolved := Array.replicate 37 none
  statics := none }

def pool14 : Array CpInfo := pool [(1, .class_ 2), (0, u "java/lang/Integer"), (16, u "digits"), (0, u "[C"), (46, u "<init>"), (17, u "DigitOnes"), (0, u "[B"), (2, u "DigitTens"), (10, .nameAndType 67 101), (0, u "()V"), (85, u "valueOf"), (0, u "(I)Ljava/lang/Integer;"), (0, .class_ 190), (0, u "java/lang/Integer$IntegerCache"), (0, .fieldref 189 192), (0, .nameAndType 193 194), (0, u "high"), (0, u "I"), (0, .fieldref 189 196), (0, .nameAndType 197 198), (0, u "cache"), (0, u "[Ljava/lang/Integer;"), (0, .methodref 1 200), (0, .nameAndType 67 201), (0, u "(I)V"), (0, .methodref 203 100), (0, .class_ 204), (0, u "java/lang/Number"), (0, .fieldref 1 206), (0, .nameAndType 207 194), (0, u "value"), (94, u "TYPE"), (0, u "Ljava/lang/Class;"), (0, .class_ 305), (0, u "java/lang/Comparable"), (0, .class_ 307), (0, u "java/lang/constant/Constable"), (0, .class_ 309), (0, u "java/lang/constant/ConstantDesc"), (0, u "MIN_VALUE"), (1, u "MAX_VALUE"), (3, u "SIZE"), (1, u "BYTES"), (1, u "serialVersionUID"), (0, u "J")] 131

def k14c0 : Code := { maxStack := 3, maxLocals := 1, code := jdk_33_method_22_code, exceptionTable := #[], attributes := #[] }
def k14m0 : Method := { name := "valueOf", desc := "(I)Ljava/lang/Integer;", sig := { parameters := [.int], returnType := some (.object "java/lang/Integer") }, accessFlags := 9, code := some k14c0 }
def k14c1 : Code := { maxStack := 2, maxLocals := 2, code := jdk_33_method_23_code, exceptionTable := #[], attributes := #[] }
def k14m1 : Method := { name := "<init>", desc := "(I)V", sig := { parameters := [.int], returnType := none }, accessFlags := 1, code := some k14c1 }
/-- java/lang/Integer -/
def k14 : Class := { plain "java/lang/Integer" (some 13) with
  accessFlags := 49
  interfaces := #[3, 5, 10]
  cf := some (fileOf pool14 1 #[.nestMembers #[189]] #[{ accessFlags := 9, nameIndex := 187, descriptorIndex := 188, attributes := #[] }, { accessFlags := 1, nameIndex := 67, descriptorIndex := 201, attributes := #[] }] 49 203 #[304, 306, 308] #[{ accessFlags := 25, nameIndex := 310, descriptorIndex := 194, attributes := #[] }, { accessFlags := 25, nameIndex := 312, descriptorIndex := 194, attributes := #[] }, { accessFlags := 25, nameIndex := 302, descriptorIndex := 303, attributes := #[] }, { accessFlags := 24, nameIndex := 19, descriptorIndex := 20, attributes := #[] }, { accessFlags := 24, nameIndex := 89, descriptorIndex := 86, attributes := #[] }, { accessFlags := 24, nameIndex := 85, descriptorIndex := 86, attributes := #[] }, { accessFlags := 18, nameIndex := 207, descriptorIndex := 194, attributes := #[] }, { accessFlags := 25, nameIndex := 316, descriptorIndex := 194, attributes := #[] }, { accessFlags := 25, nameIndex := 318, descriptorIndex := 194, attributes := #[] }, { accessFlags := 26, nameIndex := 320, descriptorIndex := 321, attributes := #[] }])
  fields := #[{ name := "MIN_VALUE", type := .int, accessFlags := 25, slot := 0, constantValue := 0 }, { name := "MAX_VALUE", type := .int, accessFlags := 25, slot := 1, constantValue := 0 }, { name := "TYPE", type := (.object "java/lang/Class"), accessFlags := 25, slot := 2, constantValue := 0 }, { name := "digits", type := (.array .char), accessFlags := 24, slot := 3, constantValue := 0 }, { name := "DigitTens", type := (.array .byte), accessFlags := 24, slot := 4, constantValue := 0 }, { name := "DigitOnes", type := (.array .byte), accessFlags := 24, slot := 5, constantValue := 0 }, { name := "value", type := .int, accessFlags := 18, slot := 0, constantValue := 0 }, { name := "SIZE", type := .int, accessFlags := 25, slot := 6, constantValue := 0 }, { name := "BYTES", type := .int, accessFlags := 25, slot := 7, constantValue := 0 }, { name := "serialVersionUID", type := .long, accessFlags := 26, slot := 8, constantValue := 0 }]
  methods := #[k14m0, k14m1]
  instanceTypes := #[.int]
  staticTypes := #[.int, .int, (.object "java/lang/Class"), (.array .char), (.array .byte), (.array .byte), .int, .int, .long]
  resolved := Array.replicate 453 none
  statics := none }

def pool15 : Array CpInfo := pool [(2, .class_ 4), (1, u "java/lang/Object"), (0, u "<init>"), (0, u "()V"), (0, .class_ 8), (0, u "java/lang/Integer"), (7, .class_ 18), (1, u "java/lang/Integer$IntegerCache"), (0, u "$assertionsDisabled"), (0, u "Z"), (26, u "high"), (0, u "I"), (8, u "archivedCache"), (0, u "[Ljava/lang/Integer;"), (12, u "cache"), (0, u "low")] 27

def k15m0 : Method := { name := "<init>", desc := "()V", sig := { parameters := [], returnType := none }, accessFlags := 2, code := none }
/-- java/lang/Integer$IntegerCache -/
def k15 : Class := { plain "java/lang/Integer$IntegerCache" (some 0) with
  accessFlags := 48
  interfaces := #[]
  cf := some (fileOf pool15 16 #[.nestHost 7] #[{ accessFlags := 2, nameIndex := 5, descriptorIndex := 6, attributes := #[] }] 48 2 #[] #[{ accessFlags := 24, nameIndex := 72, descriptorIndex := 48, attributes := #[] }, { accessFlags := 24, nameIndex := 47, descriptorIndex := 48, attributes := #[] }, { accessFlags := 24, nameIndex := 71, descriptorIndex := 58, attributes := #[] }, { accessFlags := 8, nameIndex := 57, descriptorIndex := 58, attributes := #[] }, { accessFlags := 4120, nameIndex := 19, descriptorIndex := 20, attributes := #[] }])
  fields := #[{ name := "low", type := .int, accessFlags := 24, slot := 0, constantValue := 0 }, { name := "high", type := .int, accessFlags := 24, slot := 1, constantValue := 0 }, { name := "cache", type := (.array (.object "java/lang/Integer")), accessFlags := 24, slot := 2, constantValue := 0 }, { name := "archivedCache", type := (.array (.object "java/lang/Integer")), accessFlags := 8, slot := 3, constantValue := 0 }, { name := "$assertionsDisabled", type := .boolean, accessFlags := 4120, slot := 4, constantValue := 0 }]
  methods := #[k15m0]
  instanceTypes := #[]
  staticTypes := #[.int, .int, (.array (.object "java/lang/Integer")), (.array (.object "java/lang/Integer")), .boolean]
  resolved := Array.replicate 100 none
  statics := some 2 }

def pool16 : Array CpInfo := pool [(4, .class_ 6), (1, u "java/lang/Object"), (0, u "<init>"), (0, u "()V"), (5, .class_ 16), (1, u "java/lang/StringLatin1"), (104, u "$assertionsDisabled"), (0, u "Z"), (98, .class_ 223), (1, u "java/lang/StringLatin1$LinesSpliterator"), (166, .class_ 391), (0, u "java/lang/StringLatin1$CharsSpliterator")] 3

def k16m0 : Method := { name := "<init>", desc := "()V", sig := { parameters := [], returnType := none }, accessFlags := 0, code := none }
/-- java/lang/StringLatin1 -/
def k16 : Class := { plain "java/lang/StringLatin1" (some 0) with
  accessFlags := 48
  interfaces := #[]
  cf := some (fileOf pool16 14 #[.nestMembers #[390, 221]] #[{ accessFlags := 0, nameIndex := 7, descriptorIndex := 8, attributes := #[] }] 48 4 #[] #[{ accessFlags := 4120, nameIndex := 121, descriptorIndex := 122, attributes := #[] }])
  fields := #[{ name := "$assertionsDisabled", type := .boolean, accessFlags := 4120, slot := 0, constantValue := 0 }]
  methods := #[k16m0]
  instanceTypes := #[]
  staticTypes := #[.boolean]
  resolved := Array.replicate 395 none
  statics := none }

def pool17 : Array CpInfo := pool [(2, .class_ 4), (1, u "java/lang/Object"), (0, u "<init>"), (0, u "()V"), (17, .class_ 26), (1, u "jdk/internal/util/Preconditions"), (28, .class_ 56), (0, u "jdk/internal/util/Preconditions$4"), (57, .class_ 115), (0, u "jdk/internal/util/Preconditions$1"), (7, u "SIOOBE_FORMATTER"), (0, u "Ljava/util/function/BiFunction;"), (0, .class_ 126), (0, u "jdk/internal/util/Preconditions$2"), (3, u "AIOOBE_FORMATTER"), (0, .class_ 132), (0, u "jdk/internal/util/Preconditions$3"), (3, u "IOOBE_FORMATTER")] 57

def k17m0 : Method := { name := "<init>", desc := "()V", sig := { parameters := [], returnType := none }, accessFlags := 1, code := none }
/-- jdk/internal/util/Preconditions -/
def k17 : Class := { plain "jdk/internal/util/Preconditions" (some 0) with
  accessFlags := 33
  interfaces := #[]
  cf := some (fileOf pool17 24 #[.nestMembers #[55, 131, 125, 114]] #[{ accessFlags := 1, nameIndex := 5, descriptorIndex := 6, attributes := #[] }] 33 2 #[] #[{ accessFlags := 25, nameIndex := 123, descriptorIndex := 124, attributes := #[] }, { accessFlags := 25, nameIndex := 130, descriptorIndex := 124, attributes := #[] }, { accessFlags := 25, nameIndex := 136, descriptorIndex := 124, attributes := #[] }])
  fields := #[{ name := "SIOOBE_FORMATTER", type := (.object "java/util/function/BiFunction"), accessFlags := 25, slot := 0, constantValue := 0 }, { name := "AIOOBE_FORMATTER", type := (.object "java/util/function/BiFunction"), accessFlags := 25, slot := 1, constantValue := 0 }, { name := "IOOBE_FORMATTER", type := (.object "java/util/function/BiFunction"), accessFlags := 25, slot := 2, constantValue := 0 }]
  methods := #[k17m0]
  instanceTypes := #[]
  staticTypes := #[(.object "java/util/function/BiFunction"), (.object "java/util/function/BiFunction"), (.object "java/util/function/BiFunction")]
  resolved := Array.replicate 194 none
  statics := some 3 }

def pool18 : Array CpInfo := pool [(9, u "<init>"), (6, .class_ 18), (1, u "java/lang/Object"), (0, u "()V"), (1, .class_ 23), (1, u "jdk/internal/util/ArraysSupport"), (0, u "LOG2_ARRAY_LONG_INDEX_SCALE"), (0, u "I"), (2, u "U"), (0, u "Ljdk/internal/misc/Unsafe;"), (8, u "BIG_ENDIAN"), (0, u "Z"), (8, u "LOG2_BYTE_BIT_SIZE"), (4, u "LOG2_ARRAY_INT_INDEX_SCALE"), (54, u "JLA"), (0, u "Ljdk/internal/access/JavaLangAccess;"), (11, u "LOG2_ARRAY_BOOLEAN_INDEX_SCALE"), (9, u "LOG2_ARRAY_BYTE_INDEX_SCALE"), (5, u "LOG2_ARRAY_CHAR_INDEX_SCALE"), (5, u "LOG2_ARRAY_SHORT_INDEX_SCALE"), (18, u "LOG2_ARRAY_FLOAT_INDEX_SCALE"), (24, u "LOG2_ARRAY_DOUBLE_INDEX_SCALE"), (89, u "T_BOOLEAN"), (2, u "T_CHAR"), (1, u "T_FLOAT"), (1, u "T_DOUBLE"), (1, u "T_BYTE"), (1, u "T_SHORT"), (1, u "T_INT"), (1, u "T_LONG"), (1, u "SOFT_MAX_ARRAY_LENGTH")] 83

def k18m0 : Method := { name := "<init>", desc := "()V", sig := { parameters := [], returnType := none }, accessFlags := 2, code := none }
/-- jdk/internal/util/ArraysSupport -/
def k18 : Class := { plain "jdk/internal/util/ArraysSupport" (some 0) with
  accessFlags := 33
  interfaces := #[]
  cf := some (fileOf pool18 21 #[] #[{ accessFlags := 2, nameIndex := 9, descriptorIndex := 19, attributes := #[] }] 33 16 #[] #[{ accessFlags := 24, nameIndex := 28, descriptorIndex := 29, attributes := #[] }, { accessFlags := 26, nameIndex := 38, descriptorIndex := 39, attributes := #[] }, { accessFlags := 25, nameIndex := 121, descriptorIndex := 25, attributes := #[] }, { accessFlags := 25, nameIndex := 131, descriptorIndex := 25, attributes := #[] }, { accessFlags := 25, nameIndex := 137, descriptorIndex := 25, attributes := #[] }, { accessFlags := 25, nameIndex := 143, descriptorIndex := 25, attributes := #[] }, { accessFlags := 25, nameIndex := 53, descriptorIndex := 25, attributes := #[] }, { accessFlags := 25, nameIndex := 24, descriptorIndex := 25, attributes := #[] }, { accessFlags := 25, nameIndex := 162, descriptorIndex := 25, attributes := #[] }, { accessFlags := 25, nameIndex := 187, descriptorIndex := 25, attributes := #[] }, { accessFlags := 26, nameIndex := 48, descriptorIndex := 25, attributes := #[] }, { accessFlags := 25, nameIndex := 277, descriptorIndex := 25, attributes := #[] }, { accessFlags := 25, nameIndex := 280, descriptorIndex := 25, attributes := #[] }, { accessFlags := 25, nameIndex := 282, descriptorIndex := 25, attributes := #[] }, { accessFlags := 25, nameIndex := 284, descriptorIndex := 25, attributes := #[] }, { accessFlags := 25, nameIndex := 286, descriptorIndex := 25, attributes := #[] }, { accessFlags := 25, nameIndex := 288, descriptorIndex := 25, attributes := #[] }, { accessFlags := 25, nameIndex := 290, descriptorIndex := 25, attributes := #[] }, { accessFlags := 25, nameIndex := 292, descriptorIndex := 25, attributes := #[] }, { accessFlags := 26, nameIndex := 108, descriptorIndex := 109, attributes := #[] }, { accessFlags := 25, nameIndex := 294, descriptorIndex := 25, attributes := #[] }])
  fields := #[{ name := "U", type := (.object "jdk/internal/misc/Unsafe"), accessFlags := 24, slot := 0, constantValue := 0 }, { name := "BIG_ENDIAN", type := .boolean, accessFlags := 26, slot := 1, constantValue := 0 }, { name := "LOG2_ARRAY_BOOLEAN_INDEX_SCALE", type := .int, accessFlags := 25, slot := 2, constantValue := 0 }, { name := "LOG2_ARRAY_BYTE_INDEX_SCALE", type := .int, accessFlags := 25, slot := 3, constantValue := 0 }, { name := "LOG2_ARRAY_CHAR_INDEX_SCALE", type := .int, accessFlags := 25, slot := 4, constantValue := 0 }, { name := "LOG2_ARRAY_SHORT_INDEX_SCALE", type := .int, accessFlags := 25, slot := 5, constantValue := 0 }, { name := "LOG2_ARRAY_INT_INDEX_SCALE", type := .int, accessFlags := 25, slot := 6, constantValue := 0 }, { name := "LOG2_ARRAY_LONG_INDEX_SCALE", type := .int, accessFlags := 25, slot := 7, constantValue := 0 }, { name := "LOG2_ARRAY_FLOAT_INDEX_SCALE", type := .int, accessFlags := 25, slot := 8, constantValue := 0 }, { name := "LOG2_ARRAY_DOUBLE_INDEX_SCALE", type := .int, accessFlags := 25, slot := 9, constantValue := 0 }, { name := "LOG2_BYTE_BIT_SIZE", type := .int, accessFlags := 26, slot := 10, constantValue := 0 }, { name := "T_BOOLEAN", type := .int, accessFlags := 25, slot := 11, constantValue := 0 }, { name := "T_CHAR", type := .int, accessFlags := 25, slot := 12, constantValue := 0 }, { name := "T_FLOAT", type := .int, accessFlags := 25, slot := 13, constantValue := 0 }, { name := "T_DOUBLE", type := .int, accessFlags := 25, slot := 14, constantValue := 0 }, { name := "T_BYTE", type := .int, accessFlags := 25, slot := 15, constantValue := 0 }, { name := "T_SHORT", type := .int, accessFlags := 25, slot := 16, constantValue := 0 }, { name := "T_INT", type := .int, accessFlags := 25, slot := 17, constantValue := 0 }, { name := "T_LONG", type := .int, accessFlags := 25, slot := 18, constantValue := 0 }, { name := "JLA", type := (.object "jdk/internal/access/JavaLangAccess"), accessFlags := 26, slot := 19, constantValue := 0 }, { name := "SOFT_MAX_ARRAY_LENGTH", type := .int, accessFlags := 25, slot := 20, constantValue := 0 }]
  methods := #[k18m0]
  instanceTypes := #[]
  staticTypes := #[(.object "jdk/internal/misc/Unsafe"), .boolean, .int, .int, .int, .int, .int, .int, .int, .int, .int, .int, .int, .int, .int, .int, .int, .int, .int, (.object "jdk/internal/access/JavaLangAccess"), .int]
  resolved := Array.replicate 378 none
  statics := none }

def pool19 : Array CpInfo := pool [(1, u "java/lang/Cloneable"), (0, .class_ 1), (0, u "java/lang/Object"), (0, .class_ 3)] 3

/-- java/lang/Cloneable -/
def k19 : Class := { plain "java/lang/Cloneable" (some 0) with
  accessFlags := 1537
  interfaces := #[]
  cf := some (fileOf pool19 2 #[] #[] 1537 4 #[] #[])
  fields := #[]
  methods := #[]
  instanceTypes := #[]
  staticTypes := #[]
  resolved := Array.replicate 8 none
  statics := none }

/-- the primitive byte -/
def k20 : Class := { plain "byte" none with kind := .primitive 'B', accessFlags := 0x411 }
/-- [B -/
def k21 : Class := { plain "[B" (some 0) with kind := .array 20 .byte, interfaces := #[19, 6], accessFlags := 1041 }

/-- the primitive char -/
def k22 : Class := { plain "char" none with kind := .primitive 'C', accessFlags := 0x411 }
/-- [C -/
def k23 : Class := { plain "[C" (some 0) with kind := .array 22 .char, interfaces := #[19, 6], accessFlags := 1041 }

/-- the primitive int -/
def k24 : Class := { plain "int" none with kind := .primitive 'I', accessFlags := 0x411 }
/-- [I -/
def k25 : Class := { plain "[I" (some 0) with kind := .array 24 .int, interfaces := #[19, 6], accessFlags := 1041 }

/-- [Ljava/lang/Integer; -/
def k26 : Class := { plain "[Ljava/lang/Integer;" (some 0) with kind := .array 14 (.object "java/lang/Integer"), interfaces := #[19, 6], accessFlags := 1041 }

def heap : Heap := #[{ cls := 8, slots := #[.ref 261, .ref 262, .null], vm := .statics 8 },
  { cls := 11, slots := #[.long 0, .int 1, .null, .int 0, .null, .int 0, .int 0], vm := .statics 11 },
  { cls := 15, slots := #[.int 0, .int 127, .ref 4, .null, .int 0], vm := .statics 15 },
  { cls := 17, slots := #[.null, .null, .null], vm := .statics 17 },
  { cls := 26, slots := #[.ref 5, .ref 6, .ref 7, .ref 8, .ref 9, .ref 10, .ref 11, .ref 12, .ref 13, .ref 14, .ref 15, .ref 16, .ref 17, .ref 18, .ref 19, .ref 20, .ref 21, .ref 22, .ref 23, .ref 24, .ref 25, .ref 26, .ref 27, .ref 28, .ref 29, .ref 30, .ref 31, .ref 32, .ref 33, .ref 34, .ref 35, .ref 36, .ref 37, .ref 38, .ref 39, .ref 40, .ref 41, .ref 42, .ref 43, .ref 44, .ref 45, .ref 46, .ref 47, .ref 48, .ref 49, .ref 50, .ref 51, .ref 52, .ref 53, .ref 54, .ref 55, .ref 56, .ref 57, .ref 58, .ref 59, .ref 60, .ref 61, .ref 62, .ref 63, .ref 64, .ref 65, .ref 66, .ref 67, .ref 68, .ref 69, .ref 70, .ref 71, .ref 72, .ref 73, .ref 74, .ref 75, .ref 76, .ref 77, .ref 78, .ref 79, .ref 80, .ref 81, .ref 82, .ref 83, .ref 84, .ref 85, .ref 86, .ref 87, .ref 88, .ref 89, .ref 90, .ref 91, .ref 92, .ref 93, .ref 94, .ref 95, .ref 96, .ref 97, .ref 98, .ref 99, .ref 100, .ref 101, .ref 102, .ref 103, .ref 104, .ref 105, .ref 106, .ref 107, .ref 108, .ref 109, .ref 110, .ref 111, .ref 112, .ref 113, .ref 114, .ref 115, .ref 116, .ref 117, .ref 118, .ref 119, .ref 120, .ref 121, .ref 122, .ref 123, .ref 124, .ref 125, .ref 126, .ref 127, .ref 128, .ref 129, .ref 130, .ref 131, .ref 132, .ref 133, .ref 134, .ref 135, .ref 136, .ref 137, .ref 138, .ref 139, .ref 140, .ref 141, .ref 142, .ref 143, .ref 144, .ref 145, .ref 146, .ref 147, .ref 148, .ref 149, .ref 150, .ref 151, .ref 152, .ref 153, .ref 154, .ref 155, .ref 156, .ref 157, .ref 158, .ref 159, .ref 160, .ref 161, .ref 162, .ref 163, .ref 164, .ref 165, .ref 166, .ref 167, .ref 168, .ref 169, .ref 170, .ref 171, .ref 172, .ref 173, .ref 174, .ref 175, .ref 176, .ref 177, .ref 178, .ref 179, .ref 180, .ref 181, .ref 182, .ref 183, .ref 184, .ref 185, .ref 186, .ref 187, .ref 188, .ref 189, .ref 190, .ref 191, .ref 192, .ref 193, .ref 194, .ref 195, .ref 196, .ref 197, .ref 198, .ref 199, .ref 200, .ref 201, .ref 202, .ref 203, .ref 204, .ref 205, .ref 206, .ref 207, .ref 208, .ref 209, .ref 210, .ref 211, .ref 212, .ref 213, .ref 214, .ref 215, .ref 216, .ref 217, .ref 218, .ref 219, .ref 220, .ref 221, .ref 222, .ref 223, .ref 224, .ref 225, .ref 226, .ref 227, .ref 228, .ref 229, .ref 230, .ref 231, .ref 232, .ref 233, .ref 234, .ref 235, .ref 236, .ref 237, .ref 238, .ref 239, .ref 240, .ref 241, .ref 242, .ref 243, .ref 244, .ref 245, .ref 246, .ref 247, .ref 248, .ref 249, .ref 250, .ref 251, .ref 252, .ref 253, .ref 254, .ref 255, .ref 256, .ref 257, .ref 258, .ref 259, .ref 260], vm := .none },
  { cls := 14, slots := #[.int (-128)], vm := .none },
  { cls := 14, slots := #[.int (-127)], vm := .none },
  { cls := 14, slots := #[.int (-126)], vm := .none },
  { cls := 14, slots := #[.int (-125)], vm := .none },
  { cls := 14, slots := #[.int (-124)], vm := .none },
  { cls := 14, slots := #[.int (-123)], vm := .none },
  { cls := 14, slots := #[.int (-122)], vm := .none },
  { cls := 14, slots := #[.int (-121)], vm := .none },
  { cls := 14, slots := #[.int (-120)], vm := .none },
  { cls := 14, slots := #[.int (-119)], vm := .none },
  { cls := 14, slots := #[.int (-118)], vm := .none },
  { cls := 14, slots := #[.int (-117)], vm := .none },
  { cls := 14, slots := #[.int (-116)], vm := .none },
  { cls := 14, slots := #[.int (-115)], vm := .none },
  { cls := 14, slots := #[.int (-114)], vm := .none },
  { cls := 14, slots := #[.int (-113)], vm := .none },
  { cls := 14, slots := #[.int (-112)], vm := .none },
  { cls := 14, slots := #[.int (-111)], vm := .none },
  { cls := 14, slots := #[.int (-110)], vm := .none },
  { cls := 14, slots := #[.int (-109)], vm := .none },
  { cls := 14, slots := #[.int (-108)], vm := .none },
  { cls := 14, slots := #[.int (-107)], vm := .none },
  { cls := 14, slots := #[.int (-106)], vm := .none },
  { cls := 14, slots := #[.int (-105)], vm := .none },
  { cls := 14, slots := #[.int (-104)], vm := .none },
  { cls := 14, slots := #[.int (-103)], vm := .none },
  { cls := 14, slots := #[.int (-102)], vm := .none },
  { cls := 14, slots := #[.int (-101)], vm := .none },
  { cls := 14, slots := #[.int (-100)], vm := .none },
  { cls := 14, slots := #[.int (-99)], vm := .none },
  { cls := 14, slots := #[.int (-98)], vm := .none },
  { cls := 14, slots := #[.int (-97)], vm := .none },
  { cls := 14, slots := #[.int (-96)], vm := .none },
  { cls := 14, slots := #[.int (-95)], vm := .none },
  { cls := 14, slots := #[.int (-94)], vm := .none },
  { cls := 14, slots := #[.int (-93)], vm := .none },
  { cls := 14, slots := #[.int (-92)], vm := .none },
  { cls := 14, slots := #[.int (-91)], vm := .none },
  { cls := 14, slots := #[.int (-90)], vm := .none },
  { cls := 14, slots := #[.int (-89)], vm := .none },
  { cls := 14, slots := #[.int (-88)], vm := .none },
  { cls := 14, slots := #[.int (-87)], vm := .none },
  { cls := 14, slots := #[.int (-86)], vm := .none },
  { cls := 14, slots := #[.int (-85)], vm := .none },
  { cls := 14, slots := #[.int (-84)], vm := .none },
  { cls := 14, slots := #[.int (-83)], vm := .none },
  { cls := 14, slots := #[.int (-82)], vm := .none },
  { cls := 14, slots := #[.int (-81)], vm := .none },
  { cls := 14, slots := #[.int (-80)], vm := .none },
  { cls := 14, slots := #[.int (-79)], vm := .none },
  { cls := 14, slots := #[.int (-78)], vm := .none },
  { cls := 14, slots := #[.int (-77)], vm := .none },
  { cls := 14, slots := #[.int (-76)], vm := .none },
  { cls := 14, slots := #[.int (-75)], vm := .none },
  { cls := 14, slots := #[.int (-74)], vm := .none },
  { cls := 14, slots := #[.int (-73)], vm := .none },
  { cls := 14, slots := #[.int (-72)], vm := .none },
  { cls := 14, slots := #[.int (-71)], vm := .none },
  { cls := 14, slots := #[.int (-70)], vm := .none },
  { cls := 14, slots := #[.int (-69)], vm := .none },
  { cls := 14, slots := #[.int (-68)], vm := .none },
  { cls := 14, slots := #[.int (-67)], vm := .none },
  { cls := 14, slots := #[.int (-66)], vm := .none },
  { cls := 14, slots := #[.int (-65)], vm := .none },
  { cls := 14, slots := #[.int (-64)], vm := .none },
  { cls := 14, slots := #[.int (-63)], vm := .none },
  { cls := 14, slots := #[.int (-62)], vm := .none },
  { cls := 14, slots := #[.int (-61)], vm := .none },
  { cls := 14, slots := #[.int (-60)], vm := .none },
  { cls := 14, slots := #[.int (-59)], vm := .none },
  { cls := 14, slots := #[.int (-58)], vm := .none },
  { cls := 14, slots := #[.int (-57)], vm := .none },
  { cls := 14, slots := #[.int (-56)], vm := .none },
  { cls := 14, slots := #[.int (-55)], vm := .none },
  { cls := 14, slots := #[.int (-54)], vm := .none },
  { cls := 14, slots := #[.int (-53)], vm := .none },
  { cls := 14, slots := #[.int (-52)], vm := .none },
  { cls := 14, slots := #[.int (-51)], vm := .none },
  { cls := 14, slots := #[.int (-50)], vm := .none },
  { cls := 14, slots := #[.int (-49)], vm := .none },
  { cls := 14, slots := #[.int (-48)], vm := .none },
  { cls := 14, slots := #[.int (-47)], vm := .none },
  { cls := 14, slots := #[.int (-46)], vm := .none },
  { cls := 14, slots := #[.int (-45)], vm := .none },
  { cls := 14, slots := #[.int (-44)], vm := .none },
  { cls := 14, slots := #[.int (-43)], vm := .none },
  { cls := 14, slots := #[.int (-42)], vm := .none },
  { cls := 14, slots := #[.int (-41)], vm := .none },
  { cls := 14, slots := #[.int (-40)], vm := .none },
  { cls := 14, slots := #[.int (-39)], vm := .none },
  { cls := 14, slots := #[.int (-38)], vm := .none },
  { cls := 14, slots := #[.int (-37)], vm := .none },
  { cls := 14, slots := #[.int (-36)], vm := .none },
  { cls := 14, slots := #[.int (-35)], vm := .none },
  { cls := 14, slots := #[.int (-34)], vm := .none },
  { cls := 14, slots := #[.int (-33)], vm := .none },
  { cls := 14, slots := #[.int (-32)], vm := .none },
  { cls := 14, slots := #[.int (-31)], vm := .none },
  { cls := 14, slots := #[.int (-30)], vm := .none },
  { cls := 14, slots := #[.int (-29)], vm := .none },
  { cls := 14, slots := #[.int (-28)], vm := .none },
  { cls := 14, slots := #[.int (-27)], vm := .none },
  { cls := 14, slots := #[.int (-26)], vm := .none },
  { cls := 14, slots := #[.int (-25)], vm := .none },
  { cls := 14, slots := #[.int (-24)], vm := .none },
  { cls := 14, slots := #[.int (-23)], vm := .none },
  { cls := 14, slots := #[.int (-22)], vm := .none },
  { cls := 14, slots := #[.int (-21)], vm := .none },
  { cls := 14, slots := #[.int (-20)], vm := .none },
  { cls := 14, slots := #[.int (-19)], vm := .none },
  { cls := 14, slots := #[.int (-18)], vm := .none },
  { cls := 14, slots := #[.int (-17)], vm := .none },
  { cls := 14, slots := #[.int (-16)], vm := .none },
  { cls := 14, slots := #[.int (-15)], vm := .none },
  { cls := 14, slots := #[.int (-14)], vm := .none },
  { cls := 14, slots := #[.int (-13)], vm := .none },
  { cls := 14, slots := #[.int (-12)], vm := .none },
  { cls := 14, slots := #[.int (-11)], vm := .none },
  { cls := 14, slots := #[.int (-10)], vm := .none },
  { cls := 14, slots := #[.int (-9)], vm := .none },
  { cls := 14, slots := #[.int (-8)], vm := .none },
  { cls := 14, slots := #[.int (-7)], vm := .none },
  { cls := 14, slots := #[.int (-6)], vm := .none },
  { cls := 14, slots := #[.int (-5)], vm := .none },
  { cls := 14, slots := #[.int (-4)], vm := .none },
  { cls := 14, slots := #[.int (-3)], vm := .none },
  { cls := 14, slots := #[.int (-2)], vm := .none },
  { cls := 14, slots := #[.int (-1)], vm := .none },
  { cls := 14, slots := #[.int (0)], vm := .none },
  { cls := 14, slots := #[.int (1)], vm := .none },
  { cls := 14, slots := #[.int (2)], vm := .none },
  { cls := 14, slots := #[.int (3)], vm := .none },
  { cls := 14, slots := #[.int (4)], vm := .none },
  { cls := 14, slots := #[.int (5)], vm := .none },
  { cls := 14, slots := #[.int (6)], vm := .none },
  { cls := 14, slots := #[.int (7)], vm := .none },
  { cls := 14, slots := #[.int (8)], vm := .none },
  { cls := 14, slots := #[.int (9)], vm := .none },
  { cls := 14, slots := #[.int (10)], vm := .none },
  { cls := 14, slots := #[.int (11)], vm := .none },
  { cls := 14, slots := #[.int (12)], vm := .none },
  { cls := 14, slots := #[.int (13)], vm := .none },
  { cls := 14, slots := #[.int (14)], vm := .none },
  { cls := 14, slots := #[.int (15)], vm := .none },
  { cls := 14, slots := #[.int (16)], vm := .none },
  { cls := 14, slots := #[.int (17)], vm := .none },
  { cls := 14, slots := #[.int (18)], vm := .none },
  { cls := 14, slots := #[.int (19)], vm := .none },
  { cls := 14, slots := #[.int (20)], vm := .none },
  { cls := 14, slots := #[.int (21)], vm := .none },
  { cls := 14, slots := #[.int (22)], vm := .none },
  { cls := 14, slots := #[.int (23)], vm := .none },
  { cls := 14, slots := #[.int (24)], vm := .none },
  { cls := 14, slots := #[.int (25)], vm := .none },
  { cls := 14, slots := #[.int (26)], vm := .none },
  { cls := 14, slots := #[.int (27)], vm := .none },
  { cls := 14, slots := #[.int (28)], vm := .none },
  { cls := 14, slots := #[.int (29)], vm := .none },
  { cls := 14, slots := #[.int (30)], vm := .none },
  { cls := 14, slots := #[.int (31)], vm := .none },
  { cls := 14, slots := #[.int (32)], vm := .none },
  { cls := 14, slots := #[.int (33)], vm := .none },
  { cls := 14, slots := #[.int (34)], vm := .none },
  { cls := 14, slots := #[.int (35)], vm := .none },
  { cls := 14, slots := #[.int (36)], vm := .none },
  { cls := 14, slots := #[.int (37)], vm := .none },
  { cls := 14, slots := #[.int (38)], vm := .none },
  { cls := 14, slots := #[.int (39)], vm := .none },
  { cls := 14, slots := #[.int (40)], vm := .none },
  { cls := 14, slots := #[.int (41)], vm := .none },
  { cls := 14, slots := #[.int (42)], vm := .none },
  { cls := 14, slots := #[.int (43)], vm := .none },
  { cls := 14, slots := #[.int (44)], vm := .none },
  { cls := 14, slots := #[.int (45)], vm := .none },
  { cls := 14, slots := #[.int (46)], vm := .none },
  { cls := 14, slots := #[.int (47)], vm := .none },
  { cls := 14, slots := #[.int (48)], vm := .none },
  { cls := 14, slots := #[.int (49)], vm := .none },
  { cls := 14, slots := #[.int (50)], vm := .none },
  { cls := 14, slots := #[.int (51)], vm := .none },
  { cls := 14, slots := #[.int (52)], vm := .none },
  { cls := 14, slots := #[.int (53)], vm := .none },
  { cls := 14, slots := #[.int (54)], vm := .none },
  { cls := 14, slots := #[.int (55)], vm := .none },
  { cls := 14, slots := #[.int (56)], vm := .none },
  { cls := 14, slots := #[.int (57)], vm := .none },
  { cls := 14, slots := #[.int (58)], vm := .none },
  { cls := 14, slots := #[.int (59)], vm := .none },
  { cls := 14, slots := #[.int (60)], vm := .none },
  { cls := 14, slots := #[.int (61)], vm := .none },
  { cls := 14, slots := #[.int (62)], vm := .none },
  { cls := 14, slots := #[.int (63)], vm := .none },
  { cls := 14, slots := #[.int (64)], vm := .none },
  { cls := 14, slots := #[.int (65)], vm := .none },
  { cls := 14, slots := #[.int (66)], vm := .none },
  { cls := 14, slots := #[.int (67)], vm := .none },
  { cls := 14, slots := #[.int (68)], vm := .none },
  { cls := 14, slots := #[.int (69)], vm := .none },
  { cls := 14, slots := #[.int (70)], vm := .none },
  { cls := 14, slots := #[.int (71)], vm := .none },
  { cls := 14, slots := #[.int (72)], vm := .none },
  { cls := 14, slots := #[.int (73)], vm := .none },
  { cls := 14, slots := #[.int (74)], vm := .none },
  { cls := 14, slots := #[.int (75)], vm := .none },
  { cls := 14, slots := #[.int (76)], vm := .none },
  { cls := 14, slots := #[.int (77)], vm := .none },
  { cls := 14, slots := #[.int (78)], vm := .none },
  { cls := 14, slots := #[.int (79)], vm := .none },
  { cls := 14, slots := #[.int (80)], vm := .none },
  { cls := 14, slots := #[.int (81)], vm := .none },
  { cls := 14, slots := #[.int (82)], vm := .none },
  { cls := 14, slots := #[.int (83)], vm := .none },
  { cls := 14, slots := #[.int (84)], vm := .none },
  { cls := 14, slots := #[.int (85)], vm := .none },
  { cls := 14, slots := #[.int (86)], vm := .none },
  { cls := 14, slots := #[.int (87)], vm := .none },
  { cls := 14, slots := #[.int (88)], vm := .none },
  { cls := 14, slots := #[.int (89)], vm := .none },
  { cls := 14, slots := #[.int (90)], vm := .none },
  { cls := 14, slots := #[.int (91)], vm := .none },
  { cls := 14, slots := #[.int (92)], vm := .none },
  { cls := 14, slots := #[.int (93)], vm := .none },
  { cls := 14, slots := #[.int (94)], vm := .none },
  { cls := 14, slots := #[.int (95)], vm := .none },
  { cls := 14, slots := #[.int (96)], vm := .none },
  { cls := 14, slots := #[.int (97)], vm := .none },
  { cls := 14, slots := #[.int (98)], vm := .none },
  { cls := 14, slots := #[.int (99)], vm := .none },
  { cls := 14, slots := #[.int (100)], vm := .none },
  { cls := 14, slots := #[.int (101)], vm := .none },
  { cls := 14, slots := #[.int (102)], vm := .none },
  { cls := 14, slots := #[.int (103)], vm := .none },
  { cls := 14, slots := #[.int (104)], vm := .none },
  { cls := 14, slots := #[.int (105)], vm := .none },
  { cls := 14, slots := #[.int (106)], vm := .none },
  { cls := 14, slots := #[.int (107)], vm := .none },
  { cls := 14, slots := #[.int (108)], vm := .none },
  { cls := 14, slots := #[.int (109)], vm := .none },
  { cls := 14, slots := #[.int (110)], vm := .none },
  { cls := 14, slots := #[.int (111)], vm := .none },
  { cls := 14, slots := #[.int (112)], vm := .none },
  { cls := 14, slots := #[.int (113)], vm := .none },
  { cls := 14, slots := #[.int (114)], vm := .none },
  { cls := 14, slots := #[.int (115)], vm := .none },
  { cls := 14, slots := #[.int (116)], vm := .none },
  { cls := 14, slots := #[.int (117)], vm := .none },
  { cls := 14, slots := #[.int (118)], vm := .none },
  { cls := 14, slots := #[.int (119)], vm := .none },
  { cls := 14, slots := #[.int (120)], vm := .none },
  { cls := 14, slots := #[.int (121)], vm := .none },
  { cls := 14, slots := #[.int (122)], vm := .none },
  { cls := 14, slots := #[.int (123)], vm := .none },
  { cls := 14, slots := #[.int (124)], vm := .none },
  { cls := 14, slots := #[.int (125)], vm := .none },
  { cls := 14, slots := #[.int (126)], vm := .none },
  { cls := 14, slots := #[.int (127)], vm := .none },
  { cls := 8, slots := #[.null, .int 0, .int 0, .null], vm := .none },
  { cls := 8, slots := #[.null, .int 1, .int 0, .null], vm := .none }]
def classes : Array Class := #[k0, k1, k2, k3, k4, k5, k6, k7, k8, k9, k10, k11, k12, k13, k14, k15, k16, k17, k18, k19, k20, k21, k22, k23, k24, k25, k26]
def interned : List (Array UInt16 × Addr) := []
def slotsUsed : Nat := 538
def theMethod : MethodId := ⟨1, 2⟩
def args0 : Array Value := #[.int 65, .int 65, .int 65, .int 65, .int 65]
def aboutOver (below : List Frame) : State where
  vm := { classes := classes, interned := interned.toArray }
  heap := heap
  slotsUsed := slotsUsed
  threads := #[{ frames := .invoking theMethod args0 :: below }]
def below0 : List Frame := [.native { method := ⟨0, 0⟩, args := #[] }]
def about1 : State := aboutOver below0
def p0 : Program := .bare "" "" ""
def e0 : Env := launch0.env 0 0 0
theorem w_frames : about1.frames = Frame.invoking theMethod args0 :: below0 := rfl
set_option maxRecDepth 65536 in
theorem w_args : argsFit about1.vm theMethod args0 = true := by decide +kernel
set_option maxRecDepth 65536 in
theorem w_heap : heapFits about1 = true := by decide +kernel
set_option maxRecDepth 65536 in
theorem w_runnable : about1.curStatus? = some .runnable := by decide +kernel
set_option maxRecDepth 65536 in
theorem w_alone : about1.alone = true := by decide +kernel
set_option maxRecDepth 65536 in
theorem w_named : about1.methodNamed? x = some theMethod := by decide +kernel
set_option maxRecDepth 65536 in
theorem w_hears : about1.hears theMethod below0 = true := by decide +kernel
set_option maxRecDepth 65536 in
theorem w_ripe : about1.ripe theMethod args0 below0 = true := by decide +kernel
theorem w_running : about1.status = .running := rfl
set_option maxRecDepth 65536 in
theorem w_room : about1.hasRoom e0.platform room_1 = true :=
  launch0.hasRoom_least _ room_1 (by decide +kernel) (by decide +kernel) (by decide +kernel) (by decide +kernel) (by decide +kernel) (by decide +kernel)
theorem allAtoms_all (ts : List Jvm.Cond) (a : Array Jvm.Value) (st : Jvm.State) : (allAtoms ts).before a st = ts.all (fun c => c.before a st) := by
  induction ts with
  | nil => rfl
  | cons c t ih =>
    show (Jvm.Cond.and c (allAtoms t)).before a st = _
    rw [Jvm.Cond.before_and, ih, List.all_cons]
def words1 : List Jvm.Cond := Jvm.Cond.code x code maxLocals ret :: tables_1
/-- a 'code' word, met by the world's own term for the bytes: nothing is compared byte by byte -/
theorem code_word {y : MethodName} {bytes : ByteArray} {mx : Nat} {rt : Option FieldType} {a : Array Value} {s : State} {m : MethodId} {meth : Method} {c : Code} (h1 : s.methodNamed? y = some m) (h2 : s.vm.method? m = some meth) (h3 : meth.code = some c) (h4 : c.code = bytes)
    (h5 : (c.maxLocals == mx && c.exceptionTable.isEmpty && decide (c.maxStack ≤ mostOperands) && decide (meth.sig.returnType = rt) && !meth.locks && decide (parseMethodDescriptor y.desc = some meth.sig)) = true) : (Jvm.Cond.code y bytes mx rt).before a s = true := by
  simp only [Bool.and_eq_true, beq_iff_eq, Bool.not_eq_true', decide_eq_true_eq] at h5
  obtain ⟨⟨⟨⟨⟨g1, g2⟩, g3⟩, g4⟩, g5⟩, g6⟩ := h5
  simp [Cond.before, Cond.holds, Cond.value, h1, h2, h3, h4, g1, g2, g3, g4, g5, g6]
def isCode : Jvm.Cond → Bool
  | .code _ _ _ _ => true
  | _ => false
theorem all_split {L : List Jvm.Cond} {P : Jvm.Cond → Bool} (h1 : L.all (fun c => isCode c || P c) = true) (h2 : ∀ c ∈ L.filter isCode, P c = true) : L.all P = true := by
  refine List.all_eq_true.mpr fun c hc => ?_
  have h := List.all_eq_true.mp h1 c hc
  rcases Bool.eq_false_or_eq_true (isCode c) with hi | hi
  · exact h2 c (List.mem_filter.mpr ⟨hc, hi⟩)
  · simpa [hi] using h
set_option maxRecDepth 65536 in
theorem w_c0 : (Jvm.Cond.code x code maxLocals ret).before args0 about1 = true := code_word (m := ⟨1, 2⟩) (meth := k1m2) (c := k1c2) (by decide +kernel) rfl rfl rfl (by decide +kernel)
set_option maxRecDepth 65536 in
theorem w_c1 : (Jvm.Cond.code ({ cls := "com/example/portcullis/portcullis/rules/BasicServiceEqualsPinLaw", name := "kindOf", desc := "(I)Lcom/example/portcullis/portcullis/rules/BasicService$Kind;" } : Jvm.MethodName) method_2_code (1 : Nat) (Option.some (Jvm.ClassFile.FieldType.object "com/example/portcullis/portcullis/rules/BasicService$Kind"))).before args0 about1 = true := code_word (m := ⟨1, 1⟩) (meth := k1m1) (c := k1c1) (by decide +kernel) rfl rfl rfl (by decide +kernel)
set_option maxRecDepth 65536 in
theorem w_c2 : (Jvm.Cond.code ({ cls := "com/example/portcullis/portcullis/rules/BasicService", name := "<init>", desc := "(Lcom/example/portcullis/portcullis/rules/BasicService$Kind;I)V" } : Jvm.MethodName) prog_26_method_1_code (3 : Nat) (Option.none : Option Jvm.ClassFile.FieldType)).before args0 about1 = true := code_word (m := ⟨4, 0⟩) (meth := k4m0) (c := k4c0) (by decide +kernel) rfl rfl rfl (by decide +kernel)
set_option maxRecDepth 65536 in
theorem w_c3 : (Jvm.Cond.code ({ cls := "java/lang/Record", name := "<init>", desc := "()V" } : Jvm.MethodName) jdk_30_method_1_code (1 : Nat) (Option.none : Option Jvm.ClassFile.FieldType)).before args0 about1 = true := code_word (m := ⟨2, 0⟩) (meth := k2m0) (c := k2c0) (by decide +kernel) rfl rfl rfl (by decide +kernel)
set_option maxRecDepth 65536 in
theorem w_c4 : (Jvm.Cond.code ({ cls := "java/lang/Object", name := "<init>", desc := "()V" } : Jvm.MethodName) object_method_1_code (1 : Nat) (Option.none : Option Jvm.ClassFile.FieldType)).before args0 about1 = true := code_word (m := ⟨0, 0⟩) (meth := k0m0) (c := k0c0) (by decide +kernel) rfl rfl rfl (by decide +kernel)
set_option maxRecDepth 65536 in
theorem w_c5 : (Jvm.Cond.code ({ cls := "com/example/portcullis/portcullis/rules/BasicService", name := "equals", desc := "(Ljava/lang/Object;)Z" } : Jvm.MethodName) prog_26_method_9_code (3 : Nat) (Option.some Jvm.ClassFile.FieldType.boolean)).before args0 about1 = true := code_word (m := ⟨4, 1⟩) (meth := k4m1) (c := k4c1) (by decide +kernel) rfl rfl rfl (by decide +kernel)
set_option maxRecDepth 65536 in
theorem w_c6 : (Jvm.Cond.code ({ cls := "java/lang/String", name := "<init>", desc := "([C)V" } : Jvm.MethodName) jdk_42_method_3_code (2 : Nat) (Option.none : Option Jvm.ClassFile.FieldType)).before args0 about1 = true := code_word (m := ⟨11, 1⟩) (meth := k11m1) (c := k11c1) (by decide +kernel) rfl rfl rfl (by decide +kernel)
set_option maxRecDepth 65536 in
theorem w_c7 : (Jvm.Cond.code ({ cls := "java/lang/String", name := "<init>", desc := "([CIILjava/lang/Void;)V" } : Jvm.MethodName) jdk_42_method_149_code (6 : Nat) (Option.none : Option Jvm.ClassFile.FieldType)).before args0 about1 = true := code_word (m := ⟨11, 2⟩) (meth := k11m2) (c := k11c2) (by decide +kernel) rfl rfl rfl (by decide +kernel)
set_option maxRecDepth 65536 in
theorem w_c8 : (Jvm.Cond.code ({ cls := "java/lang/StringUTF16", name := "compress", desc := "([CII)[B" } : Jvm.MethodName) jdk_52_method_16_code (6 : Nat) (Option.some (Jvm.ClassFile.FieldType.array Jvm.ClassFile.FieldType.byte))).before args0 about1 = true := code_word (m := ⟨12, 2⟩) (meth := k12m2) (c := k12c2) (by decide +kernel) rfl rfl rfl (by decide +kernel)
set_option maxRecDepth 65536 in
theorem w_c9 : (Jvm.Cond.code ({ cls := "java/lang/StringUTF16", name := "compress", desc := "([CI[BII)I" } : Jvm.MethodName) jdk_52_method_21_code (7 : Nat) (Option.some Jvm.ClassFile.FieldType.int)).before args0 about1 = true := code_word (m := ⟨12, 3⟩) (meth := k12m3) (c := k12c3) (by decide +kernel) rfl rfl rfl (by decide +kernel)
set_option maxRecDepth 65536 in
theorem w_c10 : (Jvm.Cond.code ({ cls := "java/lang/StringUTF16", name := "coderFromArrayLen", desc := "([BI)B" } : Jvm.MethodName) jdk_52_method_15_code (2 : Nat) (Option.some Jvm.ClassFile.FieldType.byte)).before args0 about1 = true := code_word (m := ⟨12, 1⟩) (meth := k12m1) (c := k12c1) (by decide +kernel) rfl rfl rfl (by decide +kernel)
set_option maxRecDepth 65536 in
theorem w_c11 : (Jvm.Cond.code ({ cls := "java/lang/Integer", name := "valueOf", desc := "(I)Ljava/lang/Integer;" } : Jvm.MethodName) jdk_33_method_22_code (1 : Nat) (Option.some (Jvm.ClassFile.FieldType.object "java/lang/Integer"))).before args0 about1 = true := code_word (m := ⟨14, 0⟩) (meth := k14m0) (c := k14c0) (by decide +kernel) rfl rfl rfl (by decide +kernel)
set_option maxRecDepth 65536 in
theorem w_c12 : (Jvm.Cond.code ({ cls := "java/lang/Integer", name := "<init>", desc := "(I)V" } : Jvm.MethodName) jdk_33_method_23_code (2 : Nat) (Option.none : Option Jvm.ClassFile.FieldType)).before args0 about1 = true := code_word (m := ⟨14, 1⟩) (meth := k14m1) (c := k14c1) (by decide +kernel) rfl rfl rfl (by decide +kernel)
set_option maxRecDepth 65536 in
theorem w_c13 : (Jvm.Cond.code ({ cls := "java/lang/Number", name := "<init>", desc := "()V" } : Jvm.MethodName) jdk_18_method_1_code (1 : Nat) (Option.none : Option Jvm.ClassFile.FieldType)).before args0 about1 = true := code_word (m := ⟨13, 0⟩) (meth := k13m0) (c := k13c0) (by decide +kernel) rfl rfl rfl (by decide +kernel)
def codes1 : List Jvm.Cond := [Jvm.Cond.code x code maxLocals ret, Jvm.Cond.code ({ cls := "com/example/portcullis/portcullis/rules/BasicServiceEqualsPinLaw", name := "kindOf", desc := "(I)Lcom/example/portcullis/portcullis/rules/BasicService$Kind;" } : Jvm.MethodName) method_2_code (1 : Nat) (Option.some (Jvm.ClassFile.FieldType.object "com/example/portcullis/portcullis/rules/BasicService$Kind")), Jvm.Cond.code ({ cls := "com/example/portcullis/portcullis/rules/BasicService", name := "<init>", desc := "(Lcom/example/portcullis/portcullis/rules/BasicService$Kind;I)V" } : Jvm.MethodName) prog_26_method_1_code (3 : Nat) (Option.none : Option Jvm.ClassFile.FieldType), Jvm.Cond.code ({ cls := "java/lang/Record", name := "<init>", desc := "()V" } : Jvm.MethodName) jdk_30_method_1_code (1 : Nat) (Option.none : Option Jvm.ClassFile.FieldType), Jvm.Cond.code ({ cls := "java/lang/Object", name := "<init>", desc := "()V" } : Jvm.MethodName) object_method_1_code (1 : Nat) (Option.none : Option Jvm.ClassFile.FieldType), Jvm.Cond.code ({ cls := "com/example/portcullis/portcullis/rules/BasicService", name := "equals", desc := "(Ljava/lang/Object;)Z" } : Jvm.MethodName) prog_26_method_9_code (3 : Nat) (Option.some Jvm.ClassFile.FieldType.boolean), Jvm.Cond.code ({ cls := "java/lang/String", name := "<init>", desc := "([C)V" } : Jvm.MethodName) jdk_42_method_3_code (2 : Nat) (Option.none : Option Jvm.ClassFile.FieldType), Jvm.Cond.code ({ cls := "java/lang/String", name := "<init>", desc := "([CIILjava/lang/Void;)V" } : Jvm.MethodName) jdk_42_method_149_code (6 : Nat) (Option.none : Option Jvm.ClassFile.FieldType), Jvm.Cond.code ({ cls := "java/lang/StringUTF16", name := "compress", desc := "([CII)[B" } : Jvm.MethodName) jdk_52_method_16_code (6 : Nat) (Option.some (Jvm.ClassFile.FieldType.array Jvm.ClassFile.FieldType.byte)), Jvm.Cond.code ({ cls := "java/lang/StringUTF16", name := "compress", desc := "([CI[BII)I" } : Jvm.MethodName) jdk_52_method_21_code (7 : Nat) (Option.some Jvm.ClassFile.FieldType.int), Jvm.Cond.code ({ cls := "java/lang/StringUTF16", name := "coderFromArrayLen", desc := "([BI)B" } : Jvm.MethodName) jdk_52_method_15_code (2 : Nat) (Option.some Jvm.ClassFile.FieldType.byte), Jvm.Cond.code ({ cls := "java/lang/Integer", name := "valueOf", desc := "(I)Ljava/lang/Integer;" } : Jvm.MethodName) jdk_33_method_22_code (1 : Nat) (Option.some (Jvm.ClassFile.FieldType.object "java/lang/Integer")), Jvm.Cond.code ({ cls := "java/lang/Integer", name := "<init>", desc := "(I)V" } : Jvm.MethodName) jdk_33_method_23_code (2 : Nat) (Option.none : Option Jvm.ClassFile.FieldType), Jvm.Cond.code ({ cls := "java/lang/Number", name := "<init>", desc := "()V" } : Jvm.MethodName) jdk_18_method_1_code (1 : Nat) (Option.none : Option Jvm.ClassFile.FieldType)]
set_option maxRecDepth 65536 in
theorem codes_eq : words1.filter isCode = codes1 := rfl
theorem w_codes : ∀ c ∈ words1.filter isCode, c.before args0 about1 = true := by
  rw [codes_eq]
  intro c hc
  simp only [codes1, List.mem_cons, List.not_mem_nil, or_false] at hc
  rcases hc with rfl | rfl | rfl | rfl | rfl | rfl | rfl | rfl | rfl | rfl | rfl | rfl | rfl | rfl
  · exact w_c0
  · exact w_c1
  · exact w_c2
  · exact w_c3
  · exact w_c4
  · exact w_c5
  · exact w_c6
  · exact w_c7
  · exact w_c8
  · exact w_c9
  · exact w_c10
  · exact w_c11
  · exact w_c12
  · exact w_c13
set_option maxRecDepth 65536 in
theorem w_t1 : (words1.take 24).all (fun c => isCode c || c.before args0 about1) = true := by decide +kernel
set_option maxRecDepth 65536 in
theorem w_t2 : ((words1.drop 24).take 24).all (fun c => isCode c || c.before args0 about1) = true := by decide +kernel
set_option maxRecDepth 65536 in
theorem w_t3 : (((words1.drop 24).drop 24).take 24).all (fun c => isCode c || c.before args0 about1) = true := by decide +kernel
set_option maxRecDepth 65536 in
theorem w_t4 : (((words1.drop 24).drop 24).drop 24).all (fun c => isCode c || c.before args0 about1) = true := by decide +kernel
theorem w_tables : (allAtoms (Jvm.Cond.code x code maxLocals ret :: tables_1)).before args0 about1 = true := by
  rw [allAtoms_all]
  show words1.all (fun c => c.before args0 about1) = true
  refine all_split ?_ w_codes
  rw [← List.take_append_drop 24 words1, List.all_append, w_t1, ← List.take_append_drop 24 (words1.drop 24), List.all_append, w_t2, ← List.take_append_drop 24 ((words1.drop 24).drop 24), List.all_append, w_t3, w_t4]
  rfl
set_option maxRecDepth 65536 in
theorem w_rest : rest_1_c.before args0 about1 = true := by decide +kernel
set_option maxRecDepth 65536 in
theorem w_case : (Jvm.Cond.and given_1 narrow_1).before args0 about1 = true := by decide +kernel
theorem w_applies : (headSpec (Jvm.Cond.code x code maxLocals ret :: tables_1) room_1).applies x e0.platform about1 = true :=
  (Spec.applies_iff w_frames).mpr ⟨w_running, w_runnable, w_alone, w_named, w_hears, w_ripe, w_room, w_tables⟩
theorem atStart : AtStart classFile x code maxLocals ret World_1 tables_1 room_1 Calls_1 rest_1 Pre_1 launch0 p0 e0 about1 theMethod args0 below0 :=
  ⟨lists_1, trivial, launch0.admits_env _ _ _, launch0.least_env, fairChoices_fair.cas, fairChoices_fair.clock, w_frames, w_args, w_heap, w_applies, trivial, w_rest, w_case⟩
end start1
theorem witness_1 : WitnessClaimed_1 := ⟨start1.p0, start1.e0, start1.about1, start1.theMethod, start1.args0, start1.below0, start1.atStart⟩
end Jvm.Pilot.@@N@@
