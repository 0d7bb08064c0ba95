import JvmDerived
import JvmDerived.Pilot.@@N@@Statement
import JvmDerived.Pilot.@@N@@Code
set_option linter.unusedVariables false
set_option linter.unusedSimpArgs false
namespace Jvm.RoadKit
open Sem ClassFile Op Lib Jvm.Stand Jvm.Free Jvm.LawKit
section Own
variable {p : Program} {l : Launch} {e : Env} {R : Room} {s : State} {m : MethodId} {args : Array Value} {below : List Frame} {meth : Method} {c : Code} {T : State} {locs : List Loc} {cells slots : Nat}
theorem retI (X : Stand p l e R s m args below meth c T locs cells slots) (hx : p.tables.exec = Jvm.exec) {pc : Nat} {Ls : Array Slot} {z : Int32} {rest : List Value} (hret : meth.sig.returnType = some .int) (hd : decode c.code pc = .ok (.ireturn, 1)) {fs : List Frame}
    (hl : ∀ (f : JFrame) (acts : List Action), f.method = m → f.locked = none → f.entered = [] → (doReturn e (T.setTop f) acts (some (.int z))).1 = T.setFrames fs) : Steps p.tables e below (T.setTop (mkF m pc Ls (.int z :: rest))) (T.setFrames fs) :=
  retOut X hx hret rfl (Or.inl ⟨rfl, Or.inl rfl, z, rfl⟩) hd hl
theorem lremM {g : JFrame} {target : State} (X : Stand p l e R s m args below meth c T locs cells slots) (hx : p.tables.exec = Jvm.exec) (hg : g.method = m) {x y : Int64} {rest : List Value} (hd : decode c.code g.pc = .ok (.lrem, 1)) (hs : g.stack = .long y :: .long x :: rest) (hy : y ≠ 0)
    (hr : Steps p.tables e below (T.setTop { g with pc := g.pc + 1, stack := .long (x % y) :: rest }) target) : Steps p.tables e below (T.setTop g) target :=
  XS.lrem X.here hx hg hd hs hy (by rw [lrem_mod]; exact hr)
/-- the walk from S on ends in a return of which Q holds -/
def Goes (p : Program) (e : Env) (below : List Frame) (s : State) (k n : Nat) (Q : Option Value → Heap → List Loc → Prop) (S : State) : Prop :=
  ∃ t o, Steps p.tables e below S t ∧ t.status = .running ∧ Ended t below o ∧ ∃ v L, o = .returned v ∧ Q v t.heap L ∧ FrameEnd s o t L k n
variable {kc kn : Nat} {Q : Option Value → Heap → List Loc → Prop}
theorem Goes.step {A B : State} (h : ∀ t, Steps p.tables e below B t → Steps p.tables e below A t) (g : Goes p e below s kc kn Q B) : Goes p e below s kc kn Q A := by
  obtain ⟨t, o, h1, h2⟩ := g; exact ⟨t, o, h t h1, h2⟩
theorem Goes.to {A B : State} (h : Steps p.tables e below A B) (g : Goes p e below s kc kn Q B) : Goes p e below s kc kn Q A := by
  obtain ⟨t, o, h1, h2⟩ := g; exact ⟨t, o, h.trans h1, h2⟩
theorem Goes.out (X : Stand p l e R s m args below meth c T locs cells slots) {g : JFrame} {v : Option Value} (hlk : meth.locks = false) (hv : meth.sig.returnType = none → v = none)
    (hs : ∀ fs : List Frame, (∀ (f : JFrame) (acts : List Action), f.method = m → f.locked = none → f.entered = [] → (doReturn e (T.setTop f) acts v).1 = T.setFrames fs) → Steps p.tables e below (T.setTop g) (T.setFrames fs))
    (hq : Q v T.heap locs) (hk : cells ≤ kc) (hn : slots ≤ kn) : Goes p e below s kc kn Q (T.setTop g) := by
  obtain ⟨fs, hr, hrun, hended, hW, hsame⟩ := X.leave (v := v) hv hlk
  exact ⟨_, _, hs fs hr, hrun, hended, v, locs, rfl, hq, ⟨_, rfl⟩, hW, hsame.mono hk hn⟩
theorem Goes.retI (X : Stand p l e R s m args below meth c T locs cells slots) (hx : p.tables.exec = Jvm.exec) (hlk : meth.locks = false) {pc : Nat} {Ls : Array Slot} {z : Int32} {rest : List Value} (hret : meth.sig.returnType = some .int) (hd : decode c.code pc = .ok (.ireturn, 1))
    (hq : Q (some (.int z)) T.heap locs) (hk : cells ≤ kc) (hn : slots ≤ kn) : Goes p e below s kc kn Q (T.setTop (mkF m pc Ls (.int z :: rest))) :=
  Goes.out X hlk (fun h => by rw [hret] at h; cases h) (fun fs hr => Jvm.RoadKit.retI X hx hret hd hr) hq hk hn
theorem Goes.retN (X : Stand p l e R s m args below meth c T locs cells slots) (hx : p.tables.exec = Jvm.exec) (hlk : meth.locks = false) {pc : Nat} {Ls : Array Slot} {z : Int32} {t : FieldType} {rest : List Value} (hret : meth.sig.returnType = some t) (ht : t = .boolean ∨ t = .byte ∨ t = .char ∨ t = .short) (hd : decode c.code pc = .ok (.ireturn, 1))
    (hq : Q (some (.int (nar t z))) T.heap locs) (hk : cells ≤ kc) (hn : slots ≤ kn) : Goes p e below s kc kn Q (T.setTop (mkF m pc Ls (.int z :: rest))) :=
  Goes.out X hlk (fun h => by rw [hret] at h; cases h) (fun fs hr => Jvm.RoadKit.retN X hx hret ht hd hr) hq hk hn
theorem Goes.retJ (X : Stand p l e R s m args below meth c T locs cells slots) (hx : p.tables.exec = Jvm.exec) (hlk : meth.locks = false) {pc : Nat} {Ls : Array Slot} {z : Int64} {rest : List Value} (hret : meth.sig.returnType = some .long) (hd : decode c.code pc = .ok (.lreturn, 1))
    (hq : Q (some (.long z)) T.heap locs) (hk : cells ≤ kc) (hn : slots ≤ kn) : Goes p e below s kc kn Q (T.setTop (mkF m pc Ls (.long z :: rest))) :=
  Goes.out X hlk (fun h => by rw [hret] at h; cases h) (fun fs hr => retOut X hx hret rfl (Or.inr (Or.inl ⟨rfl, rfl, z, rfl⟩)) hd hr) hq hk hn
theorem Goes.retR (X : Stand p l e R s m args below meth c T locs cells slots) (hx : p.tables.exec = Jvm.exec) (hlk : meth.locks = false) {pc : Nat} {Ls : Array Slot} {w : Value} {t : FieldType} {rest : List Value} (hret : meth.sig.returnType = some t) (ht : t.isReference = true) (hw : w.isRef = true) (hn' : narrow t w = w) (hd : decode c.code pc = .ok (.areturn, 1))
    (hq : Q (some w) T.heap locs) (hk : cells ≤ kc) (hn : slots ≤ kn) : Goes p e below s kc kn Q (T.setTop (mkF m pc Ls (w :: rest))) :=
  Goes.out X hlk (fun h => by rw [hret] at h; cases h) (fun fs hr => retOut X hx hret hn' (Or.inr (Or.inr (Or.inr (Or.inr ⟨rfl, ht, hw⟩)))) hd hr) hq hk hn
theorem Goes.retV (X : Stand p l e R s m args below meth c T locs cells slots) (hx : p.tables.exec = Jvm.exec) (hlk : meth.locks = false) {pc : Nat} {Ls : Array Slot} (hret : meth.sig.returnType = none) (hd : decode c.code pc = .ok (.return_, 1))
    (hq : Q none T.heap locs) (hk : cells ≤ kc) (hn : slots ≤ kn) : Goes p e below s kc kn Q (T.setTop (mkF m pc Ls [])) :=
  Goes.out X hlk (fun _ => rfl) (fun fs hr => X.returnOut hx hret hd hr) hq hk hn
theorem Goes.enter {s₁ : State} {maxL : Nat} {g : JFrame} (h : entryFrame m args maxL = g) (k : Goes p e below s kc kn Q (s₁.setTop g)) :
    ∃ t o, Steps p.tables e below (s₁.setTop (entryFrame m args maxL)) t ∧ t.status = .running ∧ Ended t below o ∧ ∃ v L, o = .returned v ∧ Q v t.heap L ∧ FrameEnd s o t L kc kn := by rw [h]; exact k
theorem nm0 {b : Addr} : b ∉ ([] : List Addr) := List.not_mem_nil
theorem nm1 {b a : Addr} (h : b ≠ a) : b ∉ [a] := fun q => h (List.mem_singleton.mp q)
theorem nm2 {b a a' : Addr} (h : b ≠ a) (h' : b ≠ a') : b ∉ [a, a'] := fun q => (List.mem_cons.mp q).elim h (fun q => h' (List.mem_singleton.mp q))
theorem nm3 {b a a' a'' : Addr} (h : b ≠ a) (h' : b ≠ a') (h'' : b ≠ a'') : b ∉ [a, a', a''] := fun q => (List.mem_cons.mp q).elim h (fun q => nm2 h' h'' q)
theorem Sta.keepN {Z : State} {h h' : Heap} {C n d : String} {v : Value} {ws : List Addr} (F : Sta Z h C n d v) (K : Keep h h' ws) (hn : ∀ a ∈ ws, ∀ cell : Cell, h[a]? = some cell → cell.vm.isStatics = false) : Sta Z h' C n d v := by
  obtain ⟨cf, i, k, f, st, cell, h1, h2, h3, h4, h5, h6, r⟩ := F
  exact ⟨cf, i, k, f, st, cell, h1, h2, h3, h4, K.2.1 st cell h5 (fun q => by have := hn st q cell h5; rw [h6] at this; cases this), h6, r⟩
theorem Exa.plainN {Z : State} {h : Heap} {a : Addr} {C : String} (E : Exa Z h a C) : ∀ cell : Cell, h[a]? = some cell → cell.vm.isStatics = false := fun cell q => by
  obtain ⟨c, k, h1, h2, h3, h4, h5⟩ := E; cases h1.symm.trans q; exact h4
theorem Arv.plainN {Z : State} {h : Heap} {a : Addr} {k : ClassId} {ty : FieldType} {z : Int32} {vs : List Value} {d : Value} (A : Arv Z h a k ty z vs d) : ∀ cell : Cell, h[a]? = some cell → cell.vm.isStatics = false := fun cell q => by
  obtain ⟨c, A, r⟩ := A; cases A.1.symm.trans q; exact A.plain
end Own
end Jvm.RoadKit
namespace Jvm.Pilot.@@N@@
open Jvm Jvm.ClassFile Sem Op Lib Jvm.Free Jvm.Stand Jvm.LawKit Jvm.RoadKit Bundle Jvm.Pilot.@@N@@.Jvm.D
def own_l (n : Nat) (f : Nat → Int32) : List Value := (List.range n).map fun j => .int (f j)
theorem own_l_len (n : Nat) (f : Nat → Int32) : (own_l n f).length = n := by simp [own_l]
theorem own_l_get {n j : Nat} (f : Nat → Int32) (d : Value) (h : j < n) : (own_l n f).getD j d = .int (f j) := by
  simp [own_l, List.getD_eq_getElem?_getD, h]
def own_up (f : Nat → Int32) (i v : Int32) : Nat → Int32 := fun j => if j = i.toNatClampNeg then v else f j
theorem own_l_set (n : Nat) (f : Nat → Int32) (i v : Int32) : (own_l n f).set i.toNatClampNeg (.int v) = own_l n (own_up f i v) := by
  apply List.ext_getElem
  · simp [own_l]
  · intro j h1 h2
    simp only [own_l, List.getElem_set, List.getElem_map, List.getElem_range, own_up]
    by_cases q : i.toNatClampNeg = j
    · rw [if_pos q, if_pos q.symm]
    · rw [if_neg q, if_neg (fun r => q r.symm)]
def own_zero : Nat → Int32 := fun _ => 0
theorem own_clamp {i : Int32} {z : Int} (h : i.toInt = z) (h0 : 0 ≤ z) : (i.toNatClampNeg : Int) = z := by
  simp only [Int32.toNatClampNeg, h]; omega
theorem own_e {i : Int32} {z : Int} (h : i.toInt = z) (h0 : 0 ≤ z) (h1 : z ≤ 1000) : (i + 1).toInt = z + 1 := by
  have h3 := c_iadd i 1
  have h4 := rng32 (i + 1)
  have k : (1 : Int32).toInt = 1 := by decide
  omega
theorem own_in {c : Cell} {i z : Int32} {a b : Int} (S : c.slots.size = z.toNatClampNeg) (hi : i.toInt = a) (hz : z.toInt = b) (h0 : 0 ≤ a) (h1 : a < b) : ¬ (i < 0 ∨ c.slots.size ≤ i.toNatClampNeg) := by
  have e1 := own_clamp hi h0
  have e2 := own_clamp hz (by omega)
  have k : (0 : Int32).toInt = 0 := by decide
  rw [S, Int32.lt_iff_toInt_lt]
  omega
theorem own_cl {i z : Int32} {a b : Int} (hi : i.toInt = a) (hz : z.toInt = b) (h0 : 0 ≤ a) (h1 : a < b) : i.toNatClampNeg < z.toNatClampNeg := by
  have e1 := own_clamp hi h0
  have e2 := own_clamp hz (by omega)
  omega
def own_s (u : Int32) : Int32 := (u.toUInt32 >>> ((7 : Int32) &&& 31).toUInt32).toInt32
def own_b1 (u : Int32) : Int32 := nar .byte ((u &&& (127 : Int32)) ||| (128 : Int32)).toInt8.toInt32
def own_b0 (u : Int32) : Int32 := nar .byte u.toInt8.toInt32
def own_w : Nat → (Nat → Int32) → Int32 → Int32 → (Nat → Int32)
  | 0, f, i, u => own_up f i (own_b0 u)
  | n + 1, f, i, u => if (u &&& (-128 : Int32)) = (0 : Int32) then own_up f i (own_b0 u) else own_w n (own_up f i (own_b1 u)) (i + 1) (own_s u)
def own_n : Nat → Int32 → Int32 → Int32
  | 0, i, u => i + 1
  | n + 1, i, u => if (u &&& (-128 : Int32)) = (0 : Int32) then i + 1 else own_n n (i + 1) (own_s u)
def own_E : Nat → (Nat → Int32) → Int32 → Int32 → Prop
  | 0, f, i, u => f i.toNatClampNeg = own_b0 u
  | n + 1, f, i, u => if (u &&& (-128 : Int32)) = (0 : Int32) then f i.toNatClampNeg = own_b0 u else f i.toNatClampNeg = own_b1 u ∧ own_E n f (i + 1) (own_s u)
theorem own_nb : ∀ (m : Nat) (i u : Int32), 0 ≤ i.toInt → i.toInt + m ≤ 900 → i.toInt + 1 ≤ (own_n m i u).toInt ∧ (own_n m i u).toInt ≤ i.toInt + 1 + m
  | 0, i, u, h0, h1 => by have := own_e (i := i) rfl h0 (by omega); simp only [own_n]; omega
  | m + 1, i, u, h0, h1 => by
    have e := own_e (i := i) rfl h0 (by omega)
    simp only [own_n]
    split
    · omega
    · have := own_nb m (i + 1) (own_s u) (by omega) (by omega); omega
theorem own_sv (u : Int32) : (own_s u).toInt = (u.toInt % 4294967296) / 128 := by
  have := c_iushr u 7 7 (by decide) (by decide)
  show ((u.toUInt32 >>> ((7 : Int32) &&& 31).toUInt32).toInt32).toInt = _
  rw [this]; rfl
theorem own_small {u : Int32} (h : (u &&& (-128 : Int32)) = (0 : Int32)) : 0 ≤ u.toInt ∧ u.toInt < 128 := by
  have e : u.toBitVec &&& 4294967168#32 = 0#32 := by
    have := congrArg Int32.toBitVec h
    exact this
  have e2 := congrArg BitVec.toNat e
  rw [BitVec.toNat_and] at e2
  have e3 : u.toBitVec.toNat &&& 4294967168 = 0 := e2
  have key : u.toBitVec.toNat < 128 := by
    have hn : u.toBitVec.toNat = (u.toBitVec.toNat &&& 4294967168) ||| (u.toBitVec.toNat &&& 127) := by
      rw [← Nat.and_or_distrib_left]
      show _ = _ &&& (2 ^ 32 - 1)
      rw [Nat.and_two_pow_sub_one_eq_mod, Nat.mod_eq_of_lt u.toBitVec.isLt]
    rw [hn, e3, Nat.zero_or]
    exact Nat.lt_of_le_of_lt Nat.and_le_right (by decide)
  have e4 : u.toInt = u.toBitVec.toInt := rfl
  rw [e4, BitVec.toInt_eq_toNat_cond, if_pos (by omega)]
  omega
theorem own_big {u : Int32} (h0 : 0 ≤ u.toInt) (h1 : u.toInt < 128) : (u &&& (-128 : Int32)) = (0 : Int32) := by
  have key : ∀ i : Fin 128, (Int32.ofInt (i.val : Int) &&& (-128 : Int32)) = (0 : Int32) := by decide +kernel
  have e : u = Int32.ofInt (((⟨u.toInt.toNat, by omega⟩ : Fin 128).val : Nat) : Int) := by
    show u = Int32.ofInt ((u.toInt.toNat : Nat) : Int)
    rw [Int.toNat_of_nonneg h0, Int32.ofInt_toInt]
  rw [e]; exact key _
theorem own_s4 (u : Int32) : (own_s (own_s (own_s (own_s u))) &&& (-128 : Int32)) = (0 : Int32) := by
  have a1 := own_sv u
  have a2 := own_sv (own_s u)
  have a3 := own_sv (own_s (own_s u))
  have a4 := own_sv (own_s (own_s (own_s u)))
  exact own_big (by omega) (by omega)
theorem own_fin128 (x : Int32) : ∃ t : Fin 128, (x &&& 127) = Int32.ofInt (t.val : Int) := by
  have h1 := c_mask x 127 7 (by decide) (by decide)
  have h2 : 0 ≤ (x &&& 127).toInt ∧ (x &&& 127).toInt < 128 := by omega
  refine ⟨⟨(x &&& 127).toInt.toNat, by omega⟩, ?_⟩
  show (x &&& 127) = Int32.ofInt (((x &&& 127).toInt.toNat : Nat) : Int)
  rw [Int.toNat_of_nonneg h2.1, Int32.ofInt_toInt]
theorem own_kmid : ∀ t : Fin 128, ¬ ((nar .byte ((Int32.ofInt (t.val : Int) ||| 128).toInt8.toInt32) &&& 128) = (0 : Int32)) ∧ (nar .byte ((Int32.ofInt (t.val : Int) ||| 128).toInt8.toInt32) &&& 127) = Int32.ofInt (t.val : Int) := by decide +kernel
theorem own_kend : ∀ t : Fin 128, (nar .byte ((Int32.ofInt (t.val : Int)).toInt8.toInt32) &&& 128) = (0 : Int32) ∧ (nar .byte ((Int32.ofInt (t.val : Int)).toInt8.toInt32) &&& 127) = Int32.ofInt (t.val : Int) := by decide +kernel
theorem own_b1c (u : Int32) : ¬ ((own_b1 u &&& (128 : Int32)) = (0 : Int32)) := by
  obtain ⟨t, e⟩ := own_fin128 u
  unfold own_b1; rw [e]; exact (own_kmid t).1
theorem own_b1v (u : Int32) : (own_b1 u &&& (127 : Int32)) = u &&& 127 := by
  obtain ⟨t, e⟩ := own_fin128 u
  unfold own_b1; rw [e]; exact (own_kmid t).2
theorem own_b0e {u : Int32} (h : (u &&& (-128 : Int32)) = (0 : Int32)) : ∃ t : Fin 128, u = Int32.ofInt (t.val : Int) := by
  have hs := own_small h
  refine ⟨⟨u.toInt.toNat, by omega⟩, ?_⟩
  show u = Int32.ofInt ((u.toInt.toNat : Nat) : Int)
  rw [Int.toNat_of_nonneg hs.1, Int32.ofInt_toInt]
theorem own_b0c {u : Int32} (h : (u &&& (-128 : Int32)) = (0 : Int32)) : (own_b0 u &&& (128 : Int32)) = (0 : Int32) := by
  obtain ⟨t, e⟩ := own_b0e h
  unfold own_b0; rw [e]; exact (own_kend t).1
theorem own_b0v {u : Int32} (h : (u &&& (-128 : Int32)) = (0 : Int32)) : (own_b0 u &&& (127 : Int32)) = u := by
  obtain ⟨t, e⟩ := own_b0e h
  unfold own_b0; rw [e]; exact (own_kend t).2
theorem own_nez {i z : Int32} {a b : Int} (hi : i.toInt = a) (hz : z.toInt = b) (h : a < b) : ¬ (i = z) := fun q => by
  subst q; omega
theorem own_ltz {i z : Int32} {a b : Int} (hi : i.toInt = a) (hz : z.toInt = b) (h : a < b) : i < z := by
  rw [Int32.lt_iff_toInt_lt]; omega
/-- one step of the reader's sum: acc below 2^s, a chunk shifted by s -/
theorem own_acc {acc x : Int32} {A X : Int} (s : Int32) (k : Nat) (P : Int) (hk : s.toBitVec.toNat % 32 = k) (hk2 : k ≤ 31) (hP : P = (2 ^ k : Nat)) (ha : acc.toInt = A) (hx : x.toInt = X) (h0 : 0 ≤ A) (h1 : A < P) :
    ((acc ||| (x <<< (s &&& 31))).toInt - (A + X * P)) % 4294967296 = 0 := by
  have e1 := c_ishl x s k hk
  have e2 := c_or' acc (x <<< (s &&& 31)) k hk2 P hP
  rw [hx, ← hP] at e1
  have hd : P ∣ 4294967296 := by
    rw [hP]
    have : (2 ^ k : Nat) ∣ 2 ^ 32 := Nat.pow_dvd_pow 2 (by omega)
    exact Int.ofNat_dvd.mpr this
  have e3 : (x <<< (s &&& 31)).toInt % P = 0 := by
    obtain ⟨q, hq⟩ := Int.dvd_of_emod_eq_zero e1
    obtain ⟨r, hr⟩ := hd
    have : (x <<< (s &&& 31)).toInt = P * (X + r * q) := by
      rw [Int.mul_add, Int.mul_comm P X, ← Int.mul_assoc, ← hr]; omega
    rw [this]; exact Int.mul_emod_right _ _
  have e4 := e2 e3 (by omega) (by omega)
  rw [ha] at e4
  omega

theorem d_jdk_29_method_69_code_0 : decode jdk_29_method_69_code 0 = .ok (.iload_n 0, 1) := by decide +kernel
theorem d_jdk_29_method_69_code_1 : decode jdk_29_method_69_code 1 = .ok (.iload_n 1, 1) := by decide +kernel
theorem d_jdk_29_method_69_code_2 : decode jdk_29_method_69_code 2 = .ok (.if_icmp .gt 7, 3) := by decide +kernel
theorem d_jdk_29_method_69_code_9 : decode jdk_29_method_69_code 9 = .ok (.iload_n 1, 1) := by decide +kernel
theorem d_jdk_29_method_69_code_10 : decode jdk_29_method_69_code 10 = .ok (.ireturn, 1) := by decide +kernel
theorem d_jdk_29_method_69_code_5 : decode jdk_29_method_69_code 5 = .ok (.iload_n 0, 1) := by decide +kernel
theorem d_jdk_29_method_69_code_6 : decode jdk_29_method_69_code 6 = .ok (.goto 4, 3) := by decide +kernel
def own_min_fn (u0 : Int32) (u1 : Int32) : Int32 := (if u1 < u0 then u1 else u0)
def own_min_Q (Z : State) (u0 : Int32) (u1 : Int32)  (h0 : Heap) (n0 : Nat) (v : Option Value) (h : Heap) (L : List Loc) : Prop := v = some (.int (own_min_fn u0 u1)) ∧ Fr n0 L ∧ h = h0
theorem own_min_ef (m : MethodId) (u0 : Int32) (u1 : Int32) : entryFrame m #[(.int u0), (.int u1)] 2 = mkF m 0 #[.val (.int u0), .val (.int u1)] [] := by first | (simp [entryFrame, mkF, argsToLocals, Value.category]; done) | rfl
set_option maxRecDepth 65536 in
set_option maxHeartbeats 40000000 in
theorem own_min_rm (l : Launch) (Z : State) (a0 : Array Value) (hw : ∀ d ∈ tables_1, d.before a0 Z = true) (ws : List Jvm.Cond) (u0 : Int32) (u1 : Int32)  (h0 : Heap) (n0 : Nat) (Z0 : n0 ≤ h0.size)  :
    MetFree l (⟨"java/lang/Math", "min", "(II)I"⟩ : MethodName) (head1 (Jvm.Cond.code (⟨"java/lang/Math", "min", "(II)I"⟩ : MethodName) jdk_29_method_69_code 2 (some .int) :: ws) ({ frames := 0, cells := 0, slots := 0, locals := 0 } : Room)) (fun a U => a = #[(.int u0), (.int u1)] ∧ Z.Warmed39 U.vm ∧ U.heap = h0) (fun _ _ _ _ _ => True) (fun _ U o U' => ∃ v L, o = .returned v ∧ own_min_Q Z u0 u1 h0 n0 v U'.heap L ∧ FrameEnd U o U' L ({ frames := 0, cells := 0, slots := 0, locals := 0 } : Room).cells ({ frames := 0, cells := 0, slots := 0, locals := 0 } : Room).slots) := by
  refine MetFree.of_bodySF (Jvm.Free.JP.mathPlain rfl (by decide +kernel)) hisR ?_
  intro p e s m args below meth c s₁ Bd hml0 hP hK
  obtain ⟨rfl, hZ, hh⟩ := hP
  have hx := Bd.exec
  have hby := Bd.bytes
  have hml : c.maxLocals = 2 := hml0
  have hown : s.vm.findClass "java/lang/Math" = some m.cls := findClass_of_methodNamed Bd.named
  have hnm := (name_of_methodNamed Bd.named Bd.method).1
  have hlk : meth.locks = false := BodyLoose.notSynchronized Bd
  have hrt := Bd.returns
  have X0 : Stand p l e ({ frames := 0, cells := 0, slots := 0, locals := 0 } : Room) s m #[(.int u0), (.int u1)] below meth c s₁ [] 0 0 := Stand.of_body Bd
  have e0 : s₁.heap = h0 := by rw [← hh, Bd.state]; rfl
  have N0 := Fr.nil n0
  refine Goes.enter (kc := ({ frames := 0, cells := 0, slots := 0, locals := 0 } : Room).cells) (kn := ({ frames := 0, cells := 0, slots := 0, locals := 0 } : Room).slots) (Q := own_min_Q Z u0 u1 h0 n0) (own_min_ef m u0 u1) ?_
  refine Goes.step (B := (s₁.setTop (mkF m 1 #[.val (.int u0), .val (.int u1)] [(.int u0)]))) (fun _ k => XS.iloadN X0.here hx rfl (hb hby d_jdk_29_method_69_code_0) rfl k) ?_
  refine Goes.step (B := (s₁.setTop (mkF m 2 #[.val (.int u0), .val (.int u1)] [(.int u1), (.int u0)]))) (fun _ k => XS.iloadN X0.here hx rfl (hb hby d_jdk_29_method_69_code_1) rfl k) ?_
  by_cases hc101 : u1 < u0
  · refine Goes.step (B := (s₁.setTop (mkF m 9 #[.val (.int u0), .val (.int u1)] []))) (fun _ k => XS.icmpYes X0.here hx rfl (pc0 := 2) (pc' := 9) rfl (hb hby d_jdk_29_method_69_code_2) rfl (tlt hc101).2.2.1 (by decide) (by decide) k) ?_
    refine Goes.step (B := (s₁.setTop (mkF m 10 #[.val (.int u0), .val (.int u1)] [(.int u1)]))) (fun _ k => XS.iloadN X0.here hx rfl (hb hby d_jdk_29_method_69_code_9) rfl k) ?_
    refine Goes.retI X0 hx hlk hrt (hb hby d_jdk_29_method_69_code_10) ?_ (by decide) (by decide)
    rw [e0]
    exact ⟨congrArg (fun z => some (Value.int z)) (show u1 = (own_min_fn u0 u1) from (show u1 = u1 from rfl).trans (by simp only [own_min_fn, if_pos hc101])), N0, rfl⟩
  · refine Goes.step (B := (s₁.setTop (mkF m 5 #[.val (.int u0), .val (.int u1)] []))) (fun _ k => XS.icmpNo X0.here hx rfl (hb hby d_jdk_29_method_69_code_2) rfl (flt hc101).2.2.1 k) ?_
    refine Goes.step (B := (s₁.setTop (mkF m 6 #[.val (.int u0), .val (.int u1)] [(.int u0)]))) (fun _ k => XS.iloadN X0.here hx rfl (hb hby d_jdk_29_method_69_code_5) rfl k) ?_
    refine Goes.step (B := (s₁.setTop (mkF m 10 #[.val (.int u0), .val (.int u1)] [(.int u0)]))) (fun _ k => XS.goto X0.here hx rfl (pc0 := 6) (pc' := 10) rfl (hb hby d_jdk_29_method_69_code_6) (by decide) (by decide) k) ?_
    refine Goes.retI X0 hx hlk hrt (hb hby d_jdk_29_method_69_code_10) ?_ (by decide) (by decide)
    rw [e0]
    exact ⟨congrArg (fun z => some (Value.int z)) (show u0 = (own_min_fn u0 u1) from (show u0 = u0 from rfl).trans (by simp only [own_min_fn, if_neg hc101])), N0, rfl⟩
theorem d_prog_43_method_2_code_0 : decode prog_43_method_2_code 0 = .ok (.aload_n 0, 1) := by decide +kernel
theorem d_prog_43_method_2_code_1 : decode prog_43_method_2_code 1 = .ok (.invokespecial 9, 3) := by decide +kernel
theorem d_prog_43_method_2_code_4 : decode prog_43_method_2_code 4 = .ok (.aload_n 0, 1) := by decide +kernel
theorem d_prog_43_method_2_code_5 : decode prog_43_method_2_code 5 = .ok (.iload_n 1, 1) := by decide +kernel
theorem d_prog_43_method_2_code_6 : decode prog_43_method_2_code 6 = .ok (.newarray .byte, 2) := by decide +kernel
theorem d_prog_43_method_2_code_8 : decode prog_43_method_2_code 8 = .ok (.putfield 14, 3) := by decide +kernel
theorem d_prog_43_method_2_code_11 : decode prog_43_method_2_code 11 = .ok (.return_, 1) := by decide +kernel
def own_wi1_Q (Z : State) (o0 : Addr)  (h0 : Heap) (n0 : Nat) (v : Option Value) (h : Heap) (L : List Loc) : Prop := ∃ (b : Addr), ∃ (k1 : ClassId), (v = none) ∧ (Fr n0 L) ∧ (Keep h0 h [o0]) ∧ (n0 ≤ b) ∧ (h0.size ≤ b) ∧ (Exa Z h o0 "com/example/kartoteka/kartoteka/index/Varints$Writer") ∧ (Fld Z h o0 "com/example/kartoteka/kartoteka/index/Varints$Writer" "bytes" "[B" (.ref b)) ∧ (Fld Z h o0 "com/example/kartoteka/kartoteka/index/Varints$Writer" "length" "I" (.int (0 : Int32))) ∧ (Arv Z h b k1 .byte (16 : Int32) (own_l 16 own_zero) (.int (0 : Int32))) ∧ (b ≠ o0)
theorem own_wi1_ef (m : MethodId) (o0 : Addr) : entryFrame m #[(.ref o0), (.int (16 : Int32))] 2 = mkF m 0 #[.val (.ref o0), .val (.int (16 : Int32))] [] := by first | (simp [entryFrame, mkF, argsToLocals, Value.category]; done) | rfl
theorem pn_Varints_Writer : plainName "com/example/kartoteka/kartoteka/index/Varints$Writer" = true := by first | (simp [plainName, overriddenIn]; done) | decide +kernel
set_option maxRecDepth 65536 in
set_option maxHeartbeats 40000000 in
theorem own_wi1_rm (l : Launch) (Z : State) (a0 : Array Value) (hw : ∀ d ∈ tables_1, d.before a0 Z = true) (ws : List Jvm.Cond) (o0 : Addr)  (h0 : Heap) (n0 : Nat) (Z0 : n0 ≤ h0.size) (pr0 : Exa Z h0 o0 "com/example/kartoteka/kartoteka/index/Varints$Writer") (pr1 : Fld Z h0 o0 "com/example/kartoteka/kartoteka/index/Varints$Writer" "bytes" "[B" .null) (pr2 : Fld Z h0 o0 "com/example/kartoteka/kartoteka/index/Varints$Writer" "length" "I" (.int (0 : Int32))) (pr3 : n0 ≤ o0) :
    MetFree l (⟨"com/example/kartoteka/kartoteka/index/Varints$Writer", "<init>", "(I)V"⟩ : MethodName) (head1 (Jvm.Cond.code (⟨"com/example/kartoteka/kartoteka/index/Varints$Writer", "<init>", "(I)V"⟩ : MethodName) prog_43_method_2_code 2 none :: ws) ({ frames := 1, cells := 1, slots := 16, locals := 12 } : Room)) (fun a U => a = #[(.ref o0), (.int (16 : Int32))] ∧ Z.Warmed39 U.vm ∧ U.heap = h0) (fun _ _ _ _ _ => True) (fun _ U o U' => ∃ v L, o = .returned v ∧ own_wi1_Q Z o0 h0 n0 v U'.heap L ∧ FrameEnd U o U' L ({ frames := 1, cells := 1, slots := 16, locals := 12 } : Room).cells ({ frames := 1, cells := 1, slots := 16, locals := 12 } : Room).slots) := by
  refine MetFree.of_bodySF (plainFor_of_name pn_Varints_Writer) hisR ?_
  intro p e s m args below meth c s₁ Bd hml0 hP hK
  obtain ⟨rfl, hZ, hh⟩ := hP
  have hx := Bd.exec
  have hby := Bd.bytes
  have hml : c.maxLocals = 2 := hml0
  have hown : s.vm.findClass "com/example/kartoteka/kartoteka/index/Varints$Writer" = some m.cls := findClass_of_methodNamed Bd.named
  have hnm := (name_of_methodNamed Bd.named Bd.method).1
  have hlk : meth.locks = false := BodyLoose.notSynchronized Bd
  have hrt := Bd.returns
  have X0 : Stand p l e ({ frames := 1, cells := 1, slots := 16, locals := 12 } : Room) s m #[(.ref o0), (.int (16 : Int32))] below meth c s₁ [] 0 0 := Stand.of_body Bd
  have e0 : s₁.heap = h0 := by rw [← hh, Bd.state]; rfl
  have N0 := Fr.nil n0
  refine Goes.enter (kc := ({ frames := 1, cells := 1, slots := 16, locals := 12 } : Room).cells) (kn := ({ frames := 1, cells := 1, slots := 16, locals := 12 } : Room).slots) (Q := own_wi1_Q Z o0 h0 n0) (own_wi1_ef m o0) ?_
  refine Goes.step (B := (s₁.setTop (mkF m 1 #[.val (.ref o0), .val (.int (16 : Int32))] [(.ref o0)]))) (fun _ k => XS.aloadN X0.here hx rfl (hb hby d_prog_43_method_2_code_0) rfl rfl k) ?_
  obtain ⟨T101, X101, e101, st101⟩ := initO X0 hx hZ hown (hw _ (List.mem_of_getElem? (i := 10) rfl)) (hw _ (List.mem_of_getElem? (i := 11) rfl)) (hw _ (List.mem_of_getElem? (i := 12) rfl)) e0 (g := (mkF m 1 #[.val (.ref o0), .val (.int (16 : Int32))] [(.ref o0)])) rfl (by rw [hml]; rfl) rfl (hb hby d_prog_43_method_2_code_1) (by decide) (W := 0) (by show 2 * 0 + _ ≤ _; exact Nat.le_of_eq rfl) (by decide)
  refine Goes.step (B := (T101.setTop (mkF m 4 #[.val (.ref o0), .val (.int (16 : Int32))] []))) (fun _ k => st101 _ k) ?_
  refine Goes.step (B := (T101.setTop (mkF m 5 #[.val (.ref o0), .val (.int (16 : Int32))] [(.ref o0)]))) (fun _ k => XS.aloadN X101.here hx rfl (hb hby d_prog_43_method_2_code_4) rfl rfl k) ?_
  refine Goes.step (B := (T101.setTop (mkF m 6 #[.val (.ref o0), .val (.int (16 : Int32))] [(.int (16 : Int32)), (.ref o0)]))) (fun _ k => XS.iloadN X101.here hx rfl (hb hby d_prog_43_method_2_code_5) rfl k) ?_
  obtain ⟨T102, h102, k102, X102, e102, E102, A102, st102⟩ := newP X101 hx hZ (hw _ (List.mem_of_getElem? (i := 13) rfl)) e101 (g := (mkF m 6 #[.val (.ref o0), .val (.int (16 : Int32))] [(.int (16 : Int32)), (.ref o0)])) rfl (hb hby d_prog_43_method_2_code_6) rfl (by decide) (cap := 16) (by decide) (by decide) (by decide) (by decide)
  obtain ⟨b102, g102⟩ : ∃ z, z = h0.size := ⟨_, rfl⟩
  rw [← g102] at A102 st102
  have gn102 : n0 ≤ b102 := Nat.le_trans Z0 (Nat.le_of_eq g102.symm)
  have sz102 : h0.size ≤ b102 := Nat.le_trans (Keep.refl h0 [o0]).1 (Nat.le_of_eq g102.symm)
  have ne103 : o0 ≠ b102 := Nat.ne_of_lt (Nat.lt_of_lt_of_le pr0.lt (Nat.le_of_eq g102.symm))
  have f104 := pr0.ext E102
  have f105 := pr1.ext E102
  have f106 := pr2.ext E102
  have V102 : Arv Z h102 b102 k102 .byte (16 : Int32) [(.int (0 : Int32)), (.int (0 : Int32)), (.int (0 : Int32)), (.int (0 : Int32)), (.int (0 : Int32)), (.int (0 : Int32)), (.int (0 : Int32)), (.int (0 : Int32)), (.int (0 : Int32)), (.int (0 : Int32)), (.int (0 : Int32)), (.int (0 : Int32)), (.int (0 : Int32)), (.int (0 : Int32)), (.int (0 : Int32)), (.int (0 : Int32))] (.int (0 : Int32)) := (Arv.new A102 (by decide)).pad (pad_rep [] (.int (0 : Int32)) 16)
  have Z102 : n0 ≤ h102.size := Nat.le_trans Z0 E102.1
  have K102 : Keep h0 h102 [o0] := (Keep.refl h0 [o0]).ext E102
  refine Goes.step (B := (T102.setTop (mkF m 8 #[.val (.ref o0), .val (.int (16 : Int32))] [(.ref b102), (.ref o0)]))) (fun _ k => st102 _ k) ?_
  obtain ⟨T107, h107, X107, e107, W107, st107⟩ := putF X102 hx hZ hown (host := "") (Or.inl (hw _ (List.mem_of_getElem? (i := 14) rfl))) Via.refl e102 f105 f104 (Or.inl (hw _ (List.mem_of_getElem? (i := 15) rfl))) (hw _ (List.mem_of_getElem? (i := 2) rfl)) (ty := (.array .byte)) (by decide) rfl rfl (g := (mkF m 8 #[.val (.ref o0), .val (.int (16 : Int32))] [(.ref b102), (.ref o0)])) rfl rfl (hb hby d_prog_43_method_2_code_8)
  have f108 := f104.wr W107
  have f109 := f106.other W107 (Or.inr (slot_ne (Or.inl (hw _ (List.mem_of_getElem? (i := 22) rfl))) (Or.inl (hw _ (List.mem_of_getElem? (i := 15) rfl))) (by decide) (t := .int) (t' := (.array .byte)) (by decide) (by decide)))
  have f110 := V102.other W107 (Ne.symm ne103)
  have N107 := Fr.snoc X107 N0 pr3
  have K107 : Keep h0 h107 [o0] := K102.wr W107 (Or.inl (List.mem_of_getElem? (i := 0) rfl))
  have Z107 : n0 ≤ h107.size := Nat.le_trans Z102 (Nat.le_of_eq W107.size.symm)
  have f111 : Fld Z h107 o0 "com/example/kartoteka/kartoteka/index/Varints$Writer" "bytes" "[B" (.ref b102) := f105.same W107
  refine Goes.step (B := (T107.setTop (mkF m 11 #[.val (.ref o0), .val (.int (16 : Int32))] []))) (fun _ k => st107 _ k) ?_
  refine Goes.retV X107 hx hlk hrt (hb hby d_prog_43_method_2_code_11) ?_ (by decide) (by decide)
  rw [e107]
  exact ⟨b102, k102, rfl, N107, K107, gn102, sz102, f108, f111, f109, f110, (Ne.symm ne103)⟩
theorem d_prog_43_method_1_code_0 : decode prog_43_method_1_code 0 = .ok (.aload_n 0, 1) := by decide +kernel
theorem d_prog_43_method_1_code_1 : decode prog_43_method_1_code 1 = .ok (.bipush 16, 2) := by decide +kernel
theorem d_prog_43_method_1_code_3 : decode prog_43_method_1_code 3 = .ok (.invokespecial 3, 3) := by decide +kernel
theorem pd__I_V : parseMethodDescriptor "(I)V" = some ⟨[.int], none⟩ := by decide +kernel
theorem d_prog_43_method_1_code_6 : decode prog_43_method_1_code 6 = .ok (.return_, 1) := by decide +kernel
def own_wi0_Q (Z : State) (o0 : Addr)  (h0 : Heap) (n0 : Nat) (v : Option Value) (h : Heap) (L : List Loc) : Prop := ∃ (b : Addr), ∃ (k1 : ClassId), (v = none) ∧ (Fr n0 L) ∧ (Keep h0 h [o0]) ∧ (n0 ≤ b) ∧ (h0.size ≤ b) ∧ (Exa Z h o0 "com/example/kartoteka/kartoteka/index/Varints$Writer") ∧ (Fld Z h o0 "com/example/kartoteka/kartoteka/index/Varints$Writer" "bytes" "[B" (.ref b)) ∧ (Fld Z h o0 "com/example/kartoteka/kartoteka/index/Varints$Writer" "length" "I" (.int (0 : Int32))) ∧ (Arv Z h b k1 .byte (16 : Int32) (own_l 16 own_zero) (.int (0 : Int32))) ∧ (b ≠ o0)
theorem own_wi0_ef (m : MethodId) (o0 : Addr) : entryFrame m #[(.ref o0)] 1 = mkF m 0 #[.val (.ref o0)] [] := by first | (simp [entryFrame, mkF, argsToLocals, Value.category]; done) | rfl
set_option maxRecDepth 65536 in
set_option maxHeartbeats 40000000 in
theorem own_wi0_rm (l : Launch) (Z : State) (a0 : Array Value) (hw : ∀ d ∈ tables_1, d.before a0 Z = true) (ws : List Jvm.Cond) (o0 : Addr)  (h0 : Heap) (n0 : Nat) (Z0 : n0 ≤ h0.size) (pr0 : Exa Z h0 o0 "com/example/kartoteka/kartoteka/index/Varints$Writer") (pr1 : Fld Z h0 o0 "com/example/kartoteka/kartoteka/index/Varints$Writer" "bytes" "[B" .null) (pr2 : Fld Z h0 o0 "com/example/kartoteka/kartoteka/index/Varints$Writer" "length" "I" (.int (0 : Int32))) (pr3 : n0 ≤ o0) :
    MetFree l (⟨"com/example/kartoteka/kartoteka/index/Varints$Writer", "<init>", "()V"⟩ : MethodName) (head1 (Jvm.Cond.code (⟨"com/example/kartoteka/kartoteka/index/Varints$Writer", "<init>", "()V"⟩ : MethodName) prog_43_method_1_code 1 none :: ws) ({ frames := 2, cells := 1, slots := 16, locals := 25 } : Room)) (fun a U => a = #[(.ref o0)] ∧ Z.Warmed39 U.vm ∧ U.heap = h0) (fun _ _ _ _ _ => True) (fun _ U o U' => ∃ v L, o = .returned v ∧ own_wi0_Q Z o0 h0 n0 v U'.heap L ∧ FrameEnd U o U' L ({ frames := 2, cells := 1, slots := 16, locals := 25 } : Room).cells ({ frames := 2, cells := 1, slots := 16, locals := 25 } : Room).slots) := by
  refine MetFree.of_bodySF (plainFor_of_name pn_Varints_Writer) hisR ?_
  intro p e s m args below meth c s₁ Bd hml0 hP hK
  obtain ⟨rfl, hZ, hh⟩ := hP
  have hx := Bd.exec
  have hby := Bd.bytes
  have hml : c.maxLocals = 1 := hml0
  have hown : s.vm.findClass "com/example/kartoteka/kartoteka/index/Varints$Writer" = some m.cls := findClass_of_methodNamed Bd.named
  have hnm := (name_of_methodNamed Bd.named Bd.method).1
  have hlk : meth.locks = false := BodyLoose.notSynchronized Bd
  have hrt := Bd.returns
  have X0 : Stand p l e ({ frames := 2, cells := 1, slots := 16, locals := 25 } : Room) s m #[(.ref o0)] below meth c s₁ [] 0 0 := Stand.of_body Bd
  have e0 : s₁.heap = h0 := by rw [← hh, Bd.state]; rfl
  have N0 := Fr.nil n0
  refine Goes.enter (kc := ({ frames := 2, cells := 1, slots := 16, locals := 25 } : Room).cells) (kn := ({ frames := 2, cells := 1, slots := 16, locals := 25 } : Room).slots) (Q := own_wi0_Q Z o0 h0 n0) (own_wi0_ef m o0) ?_
  refine Goes.step (B := (s₁.setTop (mkF m 1 #[.val (.ref o0)] [(.ref o0)]))) (fun _ k => XS.aloadN X0.here hx rfl (hb hby d_prog_43_method_1_code_0) rfl rfl k) ?_
  refine Goes.step (B := (s₁.setTop (mkF m 3 #[.val (.ref o0)] [(.int (16 : Int32)), (.ref o0)]))) (fun _ k => XS.bipush X0.here hx rfl (hb hby d_prog_43_method_1_code_1) k) ?_
  obtain ⟨_, _, ⟨T101, L101, k101, n101⟩, -, X101, ⟨Lc101, hQ101, l101, y101, z101⟩, st101⟩ := X0.specialBack hx (y := (⟨"com/example/kartoteka/kartoteka/index/Varints$Writer", "<init>", "(I)V"⟩ : MethodName)) rfl hown (mvT hZ (hw _ (List.mem_of_getElem? (i := 7) rfl))) (mvT hZ (hw _ (List.mem_of_getElem? (i := 8) rfl))) (mvT hZ (hw _ (List.mem_of_getElem? (i := 9) rfl))) (by decide) (backOf (W := 0) (own_wi1_rm l Z a0 hw [] o0  h0 n0 Z0 pr0 pr1 pr2 pr3) hZ (hw _ (List.mem_of_getElem? (i := 9) rfl)) (hw _ (List.mem_of_getElem? (i := 3) rfl)) (by decide) (by decide)) (g := (mkF m 3 #[.val (.ref o0)] [(.int (16 : Int32)), (.ref o0)])) rfl (by rw [hml]; rfl) (Steps.refl _) (a := o0) (argsL := [(.int (16 : Int32))]) (rest := []) (lenOf pd__I_V rfl) rfl (by show 2 * 0 + _ ≤ _; exact Nat.le_of_eq rfl) (hb hby d_prog_43_method_1_code_3) (fun _ _ => ⟨rfl, e0, (by decide : 0 + 1 ≤ _), (by decide : 0 + 16 ≤ _)⟩)
  dsimp only [Pt.U, Pt.locs, Pt.cells, Pt.slots] at X101 l101 y101 z101 st101 hQ101
  subst l101 y101 z101
  obtain ⟨b_101, k1_101, rfl, N101q, K101q, gn101_b, sz101_b, p101_0, p101_1, p101_2, p101_3, p101_4⟩ := hQ101
  have N101 := Fr.app N0 N101q
  have ne102 : o0 ≠ b_101 := Nat.ne_of_lt (Nat.lt_of_lt_of_le pr0.lt sz101_b)
  have f103 := pr0.keep K101q
  have K101 : Keep h0 T101.heap [o0] := Keep.trans (Keep.refl h0 [o0]) K101q (fun y q => by cases List.mem_singleton.mp q; exact (Or.inl (List.mem_of_getElem? (i := 0) rfl)))
  have Z101 : n0 ≤ T101.heap.size := Nat.le_trans Z0 K101q.1
  have szz101_b : h0.size ≤ b_101 := Nat.le_trans (Keep.refl h0 [o0]).1 sz101_b
  refine Goes.to (B := (T101.setTop (mkF m 6 #[.val (.ref o0)] []))) st101 ?_
  refine Goes.retV X101 hx hlk hrt (hb hby d_prog_43_method_1_code_6) ?_ (by decide) (by decide)
  exact ⟨b_101, k1_101, rfl, N101, K101, gn101_b, szz101_b, p101_0, p101_1, p101_2, p101_3, p101_4⟩
theorem d_prog_43_method_4_code_0 : decode prog_43_method_4_code 0 = .ok (.aload_n 0, 1) := by decide +kernel
theorem d_prog_43_method_4_code_1 : decode prog_43_method_4_code 1 = .ok (.getfield 14, 3) := by decide +kernel
theorem d_prog_43_method_4_code_4 : decode prog_43_method_4_code 4 = .ok (.arraylength, 1) := by decide +kernel
theorem d_prog_43_method_4_code_5 : decode prog_43_method_4_code 5 = .ok (.aload_n 0, 1) := by decide +kernel
theorem d_prog_43_method_4_code_6 : decode prog_43_method_4_code 6 = .ok (.getfield 18, 3) := by decide +kernel
theorem d_prog_43_method_4_code_9 : decode prog_43_method_4_code 9 = .ok (.isub, 1) := by decide +kernel
theorem d_prog_43_method_4_code_10 : decode prog_43_method_4_code 10 = .ok (.iconst 5, 1) := by decide +kernel
theorem d_prog_43_method_4_code_11 : decode prog_43_method_4_code 11 = .ok (.if_icmp .ge 30, 3) := by decide +kernel
theorem d_prog_43_method_4_code_41 : decode prog_43_method_4_code 41 = .ok (.iload_n 1, 1) := by decide +kernel
theorem d_prog_43_method_4_code_42 : decode prog_43_method_4_code 42 = .ok (.bipush (-128), 2) := by decide +kernel
theorem d_prog_43_method_4_code_44 : decode prog_43_method_4_code 44 = .ok (.iand, 1) := by decide +kernel
theorem d_prog_43_method_4_code_45 : decode prog_43_method_4_code 45 = .ok (.ifCond .eq 36, 3) := by decide +kernel
theorem d_prog_43_method_4_code_81 : decode prog_43_method_4_code 81 = .ok (.aload_n 0, 1) := by decide +kernel
theorem d_prog_43_method_4_code_82 : decode prog_43_method_4_code 82 = .ok (.getfield 14, 3) := by decide +kernel
theorem d_prog_43_method_4_code_85 : decode prog_43_method_4_code 85 = .ok (.aload_n 0, 1) := by decide +kernel
theorem d_prog_43_method_4_code_86 : decode prog_43_method_4_code 86 = .ok (.dup, 1) := by decide +kernel
theorem d_prog_43_method_4_code_87 : decode prog_43_method_4_code 87 = .ok (.getfield 18, 3) := by decide +kernel
theorem d_prog_43_method_4_code_90 : decode prog_43_method_4_code 90 = .ok (.dup_x1, 1) := by decide +kernel
theorem d_prog_43_method_4_code_91 : decode prog_43_method_4_code 91 = .ok (.iconst 1, 1) := by decide +kernel
theorem d_prog_43_method_4_code_92 : decode prog_43_method_4_code 92 = .ok (.iadd, 1) := by decide +kernel
theorem d_prog_43_method_4_code_93 : decode prog_43_method_4_code 93 = .ok (.putfield 18, 3) := by decide +kernel
theorem d_prog_43_method_4_code_96 : decode prog_43_method_4_code 96 = .ok (.iload_n 1, 1) := by decide +kernel
theorem d_prog_43_method_4_code_97 : decode prog_43_method_4_code 97 = .ok (.i2b, 1) := by decide +kernel
theorem d_prog_43_method_4_code_98 : decode prog_43_method_4_code 98 = .ok (.bastore, 1) := by decide +kernel
theorem d_prog_43_method_4_code_99 : decode prog_43_method_4_code 99 = .ok (.return_, 1) := by decide +kernel
theorem d_prog_43_method_4_code_48 : decode prog_43_method_4_code 48 = .ok (.aload_n 0, 1) := by decide +kernel
theorem d_prog_43_method_4_code_49 : decode prog_43_method_4_code 49 = .ok (.getfield 14, 3) := by decide +kernel
theorem d_prog_43_method_4_code_52 : decode prog_43_method_4_code 52 = .ok (.aload_n 0, 1) := by decide +kernel
theorem d_prog_43_method_4_code_53 : decode prog_43_method_4_code 53 = .ok (.dup, 1) := by decide +kernel
theorem d_prog_43_method_4_code_54 : decode prog_43_method_4_code 54 = .ok (.getfield 18, 3) := by decide +kernel
theorem d_prog_43_method_4_code_57 : decode prog_43_method_4_code 57 = .ok (.dup_x1, 1) := by decide +kernel
theorem d_prog_43_method_4_code_58 : decode prog_43_method_4_code 58 = .ok (.iconst 1, 1) := by decide +kernel
theorem d_prog_43_method_4_code_59 : decode prog_43_method_4_code 59 = .ok (.iadd, 1) := by decide +kernel
theorem d_prog_43_method_4_code_60 : decode prog_43_method_4_code 60 = .ok (.putfield 18, 3) := by decide +kernel
theorem d_prog_43_method_4_code_63 : decode prog_43_method_4_code 63 = .ok (.iload_n 1, 1) := by decide +kernel
theorem d_prog_43_method_4_code_64 : decode prog_43_method_4_code 64 = .ok (.bipush 127, 2) := by decide +kernel
theorem d_prog_43_method_4_code_66 : decode prog_43_method_4_code 66 = .ok (.iand, 1) := by decide +kernel
theorem d_prog_43_method_4_code_67 : decode prog_43_method_4_code 67 = .ok (.sipush 128, 3) := by decide +kernel
theorem d_prog_43_method_4_code_70 : decode prog_43_method_4_code 70 = .ok (.ior, 1) := by decide +kernel
theorem d_prog_43_method_4_code_71 : decode prog_43_method_4_code 71 = .ok (.i2b, 1) := by decide +kernel
theorem d_prog_43_method_4_code_72 : decode prog_43_method_4_code 72 = .ok (.bastore, 1) := by decide +kernel
theorem d_prog_43_method_4_code_73 : decode prog_43_method_4_code 73 = .ok (.iload_n 1, 1) := by decide +kernel
theorem d_prog_43_method_4_code_74 : decode prog_43_method_4_code 74 = .ok (.bipush 7, 2) := by decide +kernel
theorem d_prog_43_method_4_code_76 : decode prog_43_method_4_code 76 = .ok (.iushr, 1) := by decide +kernel
theorem d_prog_43_method_4_code_77 : decode prog_43_method_4_code 77 = .ok (.istore_n 1, 1) := by decide +kernel
theorem d_prog_43_method_4_code_78 : decode prog_43_method_4_code 78 = .ok (.goto (-37), 3) := by decide +kernel
def own_wr_Q (Z : State) (o0 : Addr) (u1 : Int32) (c0 : Addr) (k1 : ClassId) (i1 : Int32) (f1 : Nat → Int32) (h0 : Heap) (n0 : Nat) (v : Option Value) (h : Heap) (L : List Loc) : Prop := (v = none) ∧ (Fr n0 L) ∧ (Keep h0 h [o0, c0]) ∧ (Exa Z h o0 "com/example/kartoteka/kartoteka/index/Varints$Writer") ∧ (Fld Z h o0 "com/example/kartoteka/kartoteka/index/Varints$Writer" "bytes" "[B" (.ref c0)) ∧ (Fld Z h o0 "com/example/kartoteka/kartoteka/index/Varints$Writer" "length" "I" (.int (own_n 4 i1 u1))) ∧ (Arv Z h c0 k1 .byte (16 : Int32) (own_l 16 (own_w 4 f1 i1 u1)) (.int (0 : Int32)))
theorem own_wr_ef (m : MethodId) (o0 : Addr) (u1 : Int32) : entryFrame m #[(.ref o0), (.int u1)] 2 = mkF m 0 #[.val (.ref o0), .val (.int u1)] [] := by first | (simp [entryFrame, mkF, argsToLocals, Value.category]; done) | rfl
set_option maxRecDepth 65536 in
set_option maxHeartbeats 40000000 in
theorem own_wr_rm (l : Launch) (Z : State) (a0 : Array Value) (hw : ∀ d ∈ tables_1, d.before a0 Z = true) (ws : List Jvm.Cond) (o0 : Addr) (u1 : Int32) (c0 : Addr) (k1 : ClassId) (i1 : Int32) (f1 : Nat → Int32) (h0 : Heap) (n0 : Nat) (Z0 : n0 ≤ h0.size) (pr0 : Exa Z h0 o0 "com/example/kartoteka/kartoteka/index/Varints$Writer") (pr1 : Fld Z h0 o0 "com/example/kartoteka/kartoteka/index/Varints$Writer" "bytes" "[B" (.ref c0)) (pr2 : Fld Z h0 o0 "com/example/kartoteka/kartoteka/index/Varints$Writer" "length" "I" (.int i1)) (pr3 : Arv Z h0 c0 k1 .byte (16 : Int32) (own_l 16 f1) (.int (0 : Int32))) (pr4 : n0 ≤ o0) (pr5 : n0 ≤ c0) (pr6 : c0 ≠ o0) (hi0 : 0 ≤ i1.toInt) (hi1 : i1.toInt ≤ 5) (hroom : ¬ (((16 : Int32) - i1) < (5 : Int32))) :
    MetFree l (⟨"com/example/kartoteka/kartoteka/index/Varints$Writer", "write", "(I)V"⟩ : MethodName) (head1 (Jvm.Cond.code (⟨"com/example/kartoteka/kartoteka/index/Varints$Writer", "write", "(I)V"⟩ : MethodName) prog_43_method_4_code 2 none :: ws) ({ frames := 0, cells := 0, slots := 0, locals := 0 } : Room)) (fun a U => a = #[(.ref o0), (.int u1)] ∧ Z.Warmed39 U.vm ∧ U.heap = h0) (fun _ _ _ _ _ => True) (fun _ U o U' => ∃ v L, o = .returned v ∧ own_wr_Q Z o0 u1 c0 k1 i1 f1 h0 n0 v U'.heap L ∧ FrameEnd U o U' L ({ frames := 0, cells := 0, slots := 0, locals := 0 } : Room).cells ({ frames := 0, cells := 0, slots := 0, locals := 0 } : Room).slots) := by
  refine MetFree.of_bodySF (plainFor_of_name pn_Varints_Writer) hisR ?_
  intro p e s m args below meth c s₁ Bd hml0 hP hK
  obtain ⟨rfl, hZ, hh⟩ := hP
  have hx := Bd.exec
  have hby := Bd.bytes
  have hml : c.maxLocals = 2 := hml0
  have hown : s.vm.findClass "com/example/kartoteka/kartoteka/index/Varints$Writer" = some m.cls := findClass_of_methodNamed Bd.named
  have hnm := (name_of_methodNamed Bd.named Bd.method).1
  have hlk : meth.locks = false := BodyLoose.notSynchronized Bd
  have hrt := Bd.returns
  have X0 : Stand p l e ({ frames := 0, cells := 0, slots := 0, locals := 0 } : Room) s m #[(.ref o0), (.int u1)] below meth c s₁ [] 0 0 := Stand.of_body Bd
  have e0 : s₁.heap = h0 := by rw [← hh, Bd.state]; rfl
  have N0 := Fr.nil n0
  refine Goes.enter (kc := ({ frames := 0, cells := 0, slots := 0, locals := 0 } : Room).cells) (kn := ({ frames := 0, cells := 0, slots := 0, locals := 0 } : Room).slots) (Q := own_wr_Q Z o0 u1 c0 k1 i1 f1 h0 n0) (own_wr_ef m o0 u1) ?_
  have ai0 : i1.toInt = i1.toInt := rfl
  have ai1 : (i1 + (1 : Int32)).toInt = i1.toInt + 1 := (own_e ai0 (by omega) (by omega)).trans (by omega)
  have ai2 : ((i1 + (1 : Int32)) + (1 : Int32)).toInt = i1.toInt + 2 := (own_e ai1 (by omega) (by omega)).trans (by omega)
  have ai3 : (((i1 + (1 : Int32)) + (1 : Int32)) + (1 : Int32)).toInt = i1.toInt + 3 := (own_e ai2 (by omega) (by omega)).trans (by omega)
  have ai4 : ((((i1 + (1 : Int32)) + (1 : Int32)) + (1 : Int32)) + (1 : Int32)).toInt = i1.toInt + 4 := (own_e ai3 (by omega) (by omega)).trans (by omega)
  have ai5 : (((((i1 + (1 : Int32)) + (1 : Int32)) + (1 : Int32)) + (1 : Int32)) + (1 : Int32)).toInt = i1.toInt + 5 := (own_e ai4 (by omega) (by omega)).trans (by omega)
  refine Goes.step (B := (s₁.setTop (mkF m 1 #[.val (.ref o0), .val (.int u1)] [(.ref o0)]))) (fun _ k => XS.aloadN X0.here hx rfl (hb hby d_prog_43_method_4_code_0) rfl rfl k) ?_
  obtain ⟨T101, X101, e101, st101⟩ := getF X0 hx hZ hown (host := "") (Or.inl (hw _ (List.mem_of_getElem? (i := 14) rfl))) Via.refl e0 pr1 (g := (mkF m 1 #[.val (.ref o0), .val (.int u1)] [(.ref o0)])) rfl rfl (hb hby d_prog_43_method_4_code_1)
  refine Goes.step (B := (T101.setTop (mkF m 4 #[.val (.ref o0), .val (.int u1)] [(.ref c0)]))) (fun _ k => st101 _ k) ?_
  obtain ⟨cl102, Ar102, q102, S102, M102, H102, G102⟩ := id pr3
  refine Goes.step (B := (T101.setTop (mkF m 5 #[.val (.ref o0), .val (.int u1)] [(.int (16 : Int32))]))) (fun _ k => X101.arraylength hx (by rw [e101]; exact Ar102.1) (State.isArrayOf_alike hZ.alike Ar102.2.1) (g := (mkF m 4 #[.val (.ref o0), .val (.int u1)] [(.ref c0)])) rfl rfl (hb hby d_prog_43_method_4_code_4) _ (by rw [len_of S102 M102]; exact k)) ?_
  refine Goes.step (B := (T101.setTop (mkF m 6 #[.val (.ref o0), .val (.int u1)] [(.ref o0), (.int (16 : Int32))]))) (fun _ k => XS.aloadN X101.here hx rfl (hb hby d_prog_43_method_4_code_5) rfl rfl k) ?_
  obtain ⟨T103, X103, e103, st103⟩ := getF X101 hx hZ hown (host := "") (Or.inl (hw _ (List.mem_of_getElem? (i := 21) rfl))) Via.refl e101 pr2 (g := (mkF m 6 #[.val (.ref o0), .val (.int u1)] [(.ref o0), (.int (16 : Int32))])) rfl rfl (hb hby d_prog_43_method_4_code_6)
  refine Goes.step (B := (T103.setTop (mkF m 9 #[.val (.ref o0), .val (.int u1)] [(.int i1), (.int (16 : Int32))]))) (fun _ k => st103 _ k) ?_
  refine Goes.step (B := (T103.setTop (mkF m 10 #[.val (.ref o0), .val (.int u1)] [(.int ((16 : Int32) - i1))]))) (fun _ k => XS.isub X103.here hx rfl (hb hby d_prog_43_method_4_code_9) rfl k) ?_
  refine Goes.step (B := (T103.setTop (mkF m 11 #[.val (.ref o0), .val (.int u1)] [(.int (5 : Int32)), (.int ((16 : Int32) - i1))]))) (fun _ k => XS.iconst X103.here hx rfl (hb hby d_prog_43_method_4_code_10) k) ?_
  have hc104 : ¬ (((16 : Int32) - i1) < (5 : Int32)) := hroom
  refine Goes.step (B := (T103.setTop (mkF m 41 #[.val (.ref o0), .val (.int u1)] []))) (fun _ k => XS.icmpYes X103.here hx rfl (pc0 := 11) (pc' := 41) rfl (hb hby d_prog_43_method_4_code_11) rfl (flt hc104).2.1 (by decide) (by decide) k) ?_
  refine Goes.step (B := (T103.setTop (mkF m 42 #[.val (.ref o0), .val (.int u1)] [(.int u1)]))) (fun _ k => XS.iloadN X103.here hx rfl (hb hby d_prog_43_method_4_code_41) rfl k) ?_
  refine Goes.step (B := (T103.setTop (mkF m 44 #[.val (.ref o0), .val (.int u1)] [(.int (-128 : Int32)), (.int u1)]))) (fun _ k => XS.bipush X103.here hx rfl (hb hby d_prog_43_method_4_code_42) k) ?_
  refine Goes.step (B := (T103.setTop (mkF m 45 #[.val (.ref o0), .val (.int u1)] [(.int (u1 &&& (-128 : Int32)))]))) (fun _ k => XS.iand X103.here hx rfl (hb hby d_prog_43_method_4_code_44) rfl k) ?_
  by_cases hc105 : (u1 &&& (-128 : Int32)) = (0 : Int32)
  · refine Goes.step (B := (T103.setTop (mkF m 81 #[.val (.ref o0), .val (.int u1)] []))) (fun _ k => XS.ifYes X103.here hx rfl (pc0 := 45) (pc' := 81) rfl (hb hby d_prog_43_method_4_code_45) rfl ((if0 _ _).trans (teq hc105).1) (by decide) (by decide) k) ?_
    refine Goes.step (B := (T103.setTop (mkF m 82 #[.val (.ref o0), .val (.int u1)] [(.ref o0)]))) (fun _ k => XS.aloadN X103.here hx rfl (hb hby d_prog_43_method_4_code_81) rfl rfl k) ?_
    obtain ⟨T106, X106, e106, st106⟩ := getF X103 hx hZ hown (host := "") (Or.inl (hw _ (List.mem_of_getElem? (i := 14) rfl))) Via.refl e103 pr1 (g := (mkF m 82 #[.val (.ref o0), .val (.int u1)] [(.ref o0)])) rfl rfl (hb hby d_prog_43_method_4_code_82)
    refine Goes.step (B := (T106.setTop (mkF m 85 #[.val (.ref o0), .val (.int u1)] [(.ref c0)]))) (fun _ k => st106 _ k) ?_
    refine Goes.step (B := (T106.setTop (mkF m 86 #[.val (.ref o0), .val (.int u1)] [(.ref o0), (.ref c0)]))) (fun _ k => XS.aloadN X106.here hx rfl (hb hby d_prog_43_method_4_code_85) rfl rfl k) ?_
    refine Goes.step (B := (T106.setTop (mkF m 87 #[.val (.ref o0), .val (.int u1)] [(.ref o0), (.ref o0), (.ref c0)]))) (fun _ k => XS.dup X106.here hx rfl (hb hby d_prog_43_method_4_code_86) rfl rfl k) ?_
    obtain ⟨T107, X107, e107, st107⟩ := getF X106 hx hZ hown (host := "") (Or.inl (hw _ (List.mem_of_getElem? (i := 21) rfl))) Via.refl e106 pr2 (g := (mkF m 87 #[.val (.ref o0), .val (.int u1)] [(.ref o0), (.ref o0), (.ref c0)])) rfl rfl (hb hby d_prog_43_method_4_code_87)
    refine Goes.step (B := (T107.setTop (mkF m 90 #[.val (.ref o0), .val (.int u1)] [(.int i1), (.ref o0), (.ref c0)]))) (fun _ k => st107 _ k) ?_
    refine Goes.step (B := (T107.setTop (mkF m 91 #[.val (.ref o0), .val (.int u1)] [(.int i1), (.ref o0), (.int i1), (.ref c0)]))) (fun _ k => XS.dupX1 X107.here hx rfl (hb hby d_prog_43_method_4_code_90) rfl rfl rfl k) ?_
    refine Goes.step (B := (T107.setTop (mkF m 92 #[.val (.ref o0), .val (.int u1)] [(.int (1 : Int32)), (.int i1), (.ref o0), (.int i1), (.ref c0)]))) (fun _ k => XS.iconst X107.here hx rfl (hb hby d_prog_43_method_4_code_91) k) ?_
    refine Goes.step (B := (T107.setTop (mkF m 93 #[.val (.ref o0), .val (.int u1)] [(.int (i1 + (1 : Int32))), (.ref o0), (.int i1), (.ref c0)]))) (fun _ k => XS.iadd X107.here hx rfl (hb hby d_prog_43_method_4_code_92) rfl k) ?_
    obtain ⟨T108, h108, X108, e108, W108, st108⟩ := putF X107 hx hZ hown (host := "") (Or.inl (hw _ (List.mem_of_getElem? (i := 21) rfl))) Via.refl e107 pr2 pr0 (Or.inl (hw _ (List.mem_of_getElem? (i := 22) rfl))) (hw _ (List.mem_of_getElem? (i := 2) rfl)) (ty := .int) (by decide) rfl rfl (g := (mkF m 93 #[.val (.ref o0), .val (.int u1)] [(.int (i1 + (1 : Int32))), (.ref o0), (.int i1), (.ref c0)])) rfl rfl (hb hby d_prog_43_method_4_code_93)
    have f109 := pr0.wr W108
    have f110 := pr1.other W108 (Or.inr (slot_ne (Or.inl (hw _ (List.mem_of_getElem? (i := 15) rfl))) (Or.inl (hw _ (List.mem_of_getElem? (i := 22) rfl))) (by decide) (t := (.array .byte)) (t' := .int) (by decide) (by decide)))
    have f111 := pr3.other W108 pr6
    have N108 := Fr.snoc X108 N0 pr4
    have K108 : Keep h0 h108 [o0, c0] := (Keep.refl h0 [o0, c0]).wr W108 (Or.inl (List.mem_of_getElem? (i := 0) rfl))
    have Z108 : n0 ≤ h108.size := Nat.le_trans Z0 (Nat.le_of_eq W108.size.symm)
    have f112 : Fld Z h108 o0 "com/example/kartoteka/kartoteka/index/Varints$Writer" "length" "I" (.int (i1 + (1 : Int32))) := pr2.same W108
    refine Goes.step (B := (T108.setTop (mkF m 96 #[.val (.ref o0), .val (.int u1)] [(.int i1), (.ref c0)]))) (fun _ k => st108 _ k) ?_
    refine Goes.step (B := (T108.setTop (mkF m 97 #[.val (.ref o0), .val (.int u1)] [(.int u1), (.int i1), (.ref c0)]))) (fun _ k => XS.iloadN X108.here hx rfl (hb hby d_prog_43_method_4_code_96) rfl k) ?_
    refine Goes.step (B := (T108.setTop (mkF m 98 #[.val (.ref o0), .val (.int u1)] [(.int u1.toInt8.toInt32), (.int i1), (.ref c0)]))) (fun _ k => XS.i2b X108.here hx rfl (hb hby d_prog_43_method_4_code_97) rfl k) ?_
    obtain ⟨cl113, Ar113, q113, S113, M113, H113, G113⟩ := id f111
    have hin113 : ¬ (i1 < 0 ∨ cl113.slots.size ≤ (i1).toNatClampNeg) := own_in S113 ai0 (by decide : (16 : Int32).toInt = 16) (by omega) (by omega)
    obtain ⟨T113, h113, X113, e113, W113, st113⟩ := stB X108 hx hZ e108 Ar113 (j := i1) hin113 (g := (mkF m 98 #[.val (.ref o0), .val (.int u1)] [(.int u1.toInt8.toInt32), (.int i1), (.ref c0)])) rfl rfl (hb hby d_prog_43_method_4_code_98)
    have f114 := f109.wr W113
    have f115 := f110.other W113 (Or.inl (Ne.symm pr6))
    have f116 := f112.other W113 (Or.inl (Ne.symm pr6))
    have N113 := Fr.snoc X113 N108 pr5
    have K113 : Keep h0 h113 [o0, c0] := K108.wr W113 (Or.inl (List.mem_of_getElem? (i := 1) rfl))
    have Z113 : n0 ≤ h113.size := Nat.le_trans Z108 (Nat.le_of_eq W113.size.symm)
    have V113 : Arv Z h113 c0 k1 .byte (16 : Int32) (own_l 16 (own_up f1 i1 (own_b0 u1))) (.int (0 : Int32)) := own_l_set 16 f1 i1 (own_b0 u1) ▸ Arv.set Ar113 q113 S113 M113 H113 G113 (fits_nar_byte _) W113 (i1).toNatClampNeg rfl (by rw [own_l_len]; exact own_cl ai0 (by decide : (16 : Int32).toInt = 16) (by omega) (by omega))
    refine Goes.step (B := (T113.setTop (mkF m 99 #[.val (.ref o0), .val (.int u1)] []))) (fun _ k => st113 _ k) ?_
    refine Goes.retV X113 hx hlk hrt (hb hby d_prog_43_method_4_code_99) ?_ (by decide) (by decide)
    rw [e113]
    have ew : own_w 4 f1 i1 u1 = (own_up f1 i1 (own_b0 u1)) := by simp only [own_w, if_pos hc105]
    have en : own_n 4 i1 u1 = (i1 + (1 : Int32)) := by simp only [own_n, if_pos hc105]
    rw [← ew] at V113
    rw [← en] at f116
    exact ⟨rfl, N113, K113, f114, f115, f116, V113⟩
  · refine Goes.step (B := (T103.setTop (mkF m 48 #[.val (.ref o0), .val (.int u1)] []))) (fun _ k => XS.ifNo X103.here hx rfl (hb hby d_prog_43_method_4_code_45) rfl ((if0 _ _).trans (feq hc105).1) k) ?_
    refine Goes.step (B := (T103.setTop (mkF m 49 #[.val (.ref o0), .val (.int u1)] [(.ref o0)]))) (fun _ k => XS.aloadN X103.here hx rfl (hb hby d_prog_43_method_4_code_48) rfl rfl k) ?_
    obtain ⟨T117, X117, e117, st117⟩ := getF X103 hx hZ hown (host := "") (Or.inl (hw _ (List.mem_of_getElem? (i := 14) rfl))) Via.refl e103 pr1 (g := (mkF m 49 #[.val (.ref o0), .val (.int u1)] [(.ref o0)])) rfl rfl (hb hby d_prog_43_method_4_code_49)
    refine Goes.step (B := (T117.setTop (mkF m 52 #[.val (.ref o0), .val (.int u1)] [(.ref c0)]))) (fun _ k => st117 _ k) ?_
    refine Goes.step (B := (T117.setTop (mkF m 53 #[.val (.ref o0), .val (.int u1)] [(.ref o0), (.ref c0)]))) (fun _ k => XS.aloadN X117.here hx rfl (hb hby d_prog_43_method_4_code_52) rfl rfl k) ?_
    refine Goes.step (B := (T117.setTop (mkF m 54 #[.val (.ref o0), .val (.int u1)] [(.ref o0), (.ref o0), (.ref c0)]))) (fun _ k => XS.dup X117.here hx rfl (hb hby d_prog_43_method_4_code_53) rfl rfl k) ?_
    obtain ⟨T118, X118, e118, st118⟩ := getF X117 hx hZ hown (host := "") (Or.inl (hw _ (List.mem_of_getElem? (i := 21) rfl))) Via.refl e117 pr2 (g := (mkF m 54 #[.val (.ref o0), .val (.int u1)] [(.ref o0), (.ref o0), (.ref c0)])) rfl rfl (hb hby d_prog_43_method_4_code_54)
    refine Goes.step (B := (T118.setTop (mkF m 57 #[.val (.ref o0), .val (.int u1)] [(.int i1), (.ref o0), (.ref c0)]))) (fun _ k => st118 _ k) ?_
    refine Goes.step (B := (T118.setTop (mkF m 58 #[.val (.ref o0), .val (.int u1)] [(.int i1), (.ref o0), (.int i1), (.ref c0)]))) (fun _ k => XS.dupX1 X118.here hx rfl (hb hby d_prog_43_method_4_code_57) rfl rfl rfl k) ?_
    refine Goes.step (B := (T118.setTop (mkF m 59 #[.val (.ref o0), .val (.int u1)] [(.int (1 : Int32)), (.int i1), (.ref o0), (.int i1), (.ref c0)]))) (fun _ k => XS.iconst X118.here hx rfl (hb hby d_prog_43_method_4_code_58) k) ?_
    refine Goes.step (B := (T118.setTop (mkF m 60 #[.val (.ref o0), .val (.int u1)] [(.int (i1 + (1 : Int32))), (.ref o0), (.int i1), (.ref c0)]))) (fun _ k => XS.iadd X118.here hx rfl (hb hby d_prog_43_method_4_code_59) rfl k) ?_
    obtain ⟨T119, h119, X119, e119, W119, st119⟩ := putF X118 hx hZ hown (host := "") (Or.inl (hw _ (List.mem_of_getElem? (i := 21) rfl))) Via.refl e118 pr2 pr0 (Or.inl (hw _ (List.mem_of_getElem? (i := 22) rfl))) (hw _ (List.mem_of_getElem? (i := 2) rfl)) (ty := .int) (by decide) rfl rfl (g := (mkF m 60 #[.val (.ref o0), .val (.int u1)] [(.int (i1 + (1 : Int32))), (.ref o0), (.int i1), (.ref c0)])) rfl rfl (hb hby d_prog_43_method_4_code_60)
    have f120 := pr0.wr W119
    have f121 := pr1.other W119 (Or.inr (slot_ne (Or.inl (hw _ (List.mem_of_getElem? (i := 15) rfl))) (Or.inl (hw _ (List.mem_of_getElem? (i := 22) rfl))) (by decide) (t := (.array .byte)) (t' := .int) (by decide) (by decide)))
    have f122 := pr3.other W119 pr6
    have N119 := Fr.snoc X119 N0 pr4
    have K119 : Keep h0 h119 [o0, c0] := (Keep.refl h0 [o0, c0]).wr W119 (Or.inl (List.mem_of_getElem? (i := 0) rfl))
    have Z119 : n0 ≤ h119.size := Nat.le_trans Z0 (Nat.le_of_eq W119.size.symm)
    have f123 : Fld Z h119 o0 "com/example/kartoteka/kartoteka/index/Varints$Writer" "length" "I" (.int (i1 + (1 : Int32))) := pr2.same W119
    refine Goes.step (B := (T119.setTop (mkF m 63 #[.val (.ref o0), .val (.int u1)] [(.int i1), (.ref c0)]))) (fun _ k => st119 _ k) ?_
    refine Goes.step (B := (T119.setTop (mkF m 64 #[.val (.ref o0), .val (.int u1)] [(.int u1), (.int i1), (.ref c0)]))) (fun _ k => XS.iloadN X119.here hx rfl (hb hby d_prog_43_method_4_code_63) rfl k) ?_
    refine Goes.step (B := (T119.setTop (mkF m 66 #[.val (.ref o0), .val (.int u1)] [(.int (127 : Int32)), (.int u1), (.int i1), (.ref c0)]))) (fun _ k => XS.bipush X119.here hx rfl (hb hby d_prog_43_method_4_code_64) k) ?_
    refine Goes.step (B := (T119.setTop (mkF m 67 #[.val (.ref o0), .val (.int u1)] [(.int (u1 &&& (127 : Int32))), (.int i1), (.ref c0)]))) (fun _ k => XS.iand X119.here hx rfl (hb hby d_prog_43_method_4_code_66) rfl k) ?_
    refine Goes.step (B := (T119.setTop (mkF m 70 #[.val (.ref o0), .val (.int u1)] [(.int (128 : Int32)), (.int (u1 &&& (127 : Int32))), (.int i1), (.ref c0)]))) (fun _ k => XS.sipush X119.here hx rfl (hb hby d_prog_43_method_4_code_67) k) ?_
    refine Goes.step (B := (T119.setTop (mkF m 71 #[.val (.ref o0), .val (.int u1)] [(.int ((u1 &&& (127 : Int32)) ||| (128 : Int32))), (.int i1), (.ref c0)]))) (fun _ k => XS.ior X119.here hx rfl (hb hby d_prog_43_method_4_code_70) rfl k) ?_
    refine Goes.step (B := (T119.setTop (mkF m 72 #[.val (.ref o0), .val (.int u1)] [(.int ((u1 &&& (127 : Int32)) ||| (128 : Int32)).toInt8.toInt32), (.int i1), (.ref c0)]))) (fun _ k => XS.i2b X119.here hx rfl (hb hby d_prog_43_method_4_code_71) rfl k) ?_
    obtain ⟨cl124, Ar124, q124, S124, M124, H124, G124⟩ := id f122
    have hin124 : ¬ (i1 < 0 ∨ cl124.slots.size ≤ (i1).toNatClampNeg) := own_in S124 ai0 (by decide : (16 : Int32).toInt = 16) (by omega) (by omega)
    obtain ⟨T124, h124, X124, e124, W124, st124⟩ := stB X119 hx hZ e119 Ar124 (j := i1) hin124 (g := (mkF m 72 #[.val (.ref o0), .val (.int u1)] [(.int ((u1 &&& (127 : Int32)) ||| (128 : Int32)).toInt8.toInt32), (.int i1), (.ref c0)])) rfl rfl (hb hby d_prog_43_method_4_code_72)
    have f125 := f120.wr W124
    have f126 := f121.other W124 (Or.inl (Ne.symm pr6))
    have f127 := f123.other W124 (Or.inl (Ne.symm pr6))
    have N124 := Fr.snoc X124 N119 pr5
    have K124 : Keep h0 h124 [o0, c0] := K119.wr W124 (Or.inl (List.mem_of_getElem? (i := 1) rfl))
    have Z124 : n0 ≤ h124.size := Nat.le_trans Z119 (Nat.le_of_eq W124.size.symm)
    have V124 : Arv Z h124 c0 k1 .byte (16 : Int32) (own_l 16 (own_up f1 i1 (own_b1 u1))) (.int (0 : Int32)) := own_l_set 16 f1 i1 (own_b1 u1) ▸ Arv.set Ar124 q124 S124 M124 H124 G124 (fits_nar_byte _) W124 (i1).toNatClampNeg rfl (by rw [own_l_len]; exact own_cl ai0 (by decide : (16 : Int32).toInt = 16) (by omega) (by omega))
    refine Goes.step (B := (T124.setTop (mkF m 73 #[.val (.ref o0), .val (.int u1)] []))) (fun _ k => st124 _ k) ?_
    refine Goes.step (B := (T124.setTop (mkF m 74 #[.val (.ref o0), .val (.int u1)] [(.int u1)]))) (fun _ k => XS.iloadN X124.here hx rfl (hb hby d_prog_43_method_4_code_73) rfl k) ?_
    refine Goes.step (B := (T124.setTop (mkF m 76 #[.val (.ref o0), .val (.int u1)] [(.int (7 : Int32)), (.int u1)]))) (fun _ k => XS.bipush X124.here hx rfl (hb hby d_prog_43_method_4_code_74) k) ?_
    refine Goes.step (B := (T124.setTop (mkF m 77 #[.val (.ref o0), .val (.int u1)] [(.int (u1.toUInt32 >>> ((7 : Int32) &&& 31).toUInt32).toInt32)]))) (fun _ k => XS.iushr X124.here hx rfl (hb hby d_prog_43_method_4_code_76) rfl k) ?_
    refine Goes.step (B := (T124.setTop (mkF m 78 #[.val (.ref o0), .val (.int (own_s u1))] []))) (fun _ k => XS.istoreN X124.here hx rfl (hb hby d_prog_43_method_4_code_77) rfl (l' := #[.val (.ref o0), .val (.int (own_s u1))]) rfl k) ?_
    refine Goes.step (B := (T124.setTop (mkF m 41 #[.val (.ref o0), .val (.int (own_s u1))] []))) (fun _ k => XS.goto X124.here hx rfl (pc0 := 78) (pc' := 41) rfl (hb hby d_prog_43_method_4_code_78) (by decide) (by decide) k) ?_
    refine Goes.step (B := (T124.setTop (mkF m 42 #[.val (.ref o0), .val (.int (own_s u1))] [(.int (own_s u1))]))) (fun _ k => XS.iloadN X124.here hx rfl (hb hby d_prog_43_method_4_code_41) rfl k) ?_
    refine Goes.step (B := (T124.setTop (mkF m 44 #[.val (.ref o0), .val (.int (own_s u1))] [(.int (-128 : Int32)), (.int (own_s u1))]))) (fun _ k => XS.bipush X124.here hx rfl (hb hby d_prog_43_method_4_code_42) k) ?_
    refine Goes.step (B := (T124.setTop (mkF m 45 #[.val (.ref o0), .val (.int (own_s u1))] [(.int ((own_s u1) &&& (-128 : Int32)))]))) (fun _ k => XS.iand X124.here hx rfl (hb hby d_prog_43_method_4_code_44) rfl k) ?_
    by_cases hc128 : ((own_s u1) &&& (-128 : Int32)) = (0 : Int32)
    · refine Goes.step (B := (T124.setTop (mkF m 81 #[.val (.ref o0), .val (.int (own_s u1))] []))) (fun _ k => XS.ifYes X124.here hx rfl (pc0 := 45) (pc' := 81) rfl (hb hby d_prog_43_method_4_code_45) rfl ((if0 _ _).trans (teq hc128).1) (by decide) (by decide) k) ?_
      refine Goes.step (B := (T124.setTop (mkF m 82 #[.val (.ref o0), .val (.int (own_s u1))] [(.ref o0)]))) (fun _ k => XS.aloadN X124.here hx rfl (hb hby d_prog_43_method_4_code_81) rfl rfl k) ?_
      obtain ⟨T129, X129, e129, st129⟩ := getF X124 hx hZ hown (host := "") (Or.inl (hw _ (List.mem_of_getElem? (i := 14) rfl))) Via.refl e124 f126 (g := (mkF m 82 #[.val (.ref o0), .val (.int (own_s u1))] [(.ref o0)])) rfl rfl (hb hby d_prog_43_method_4_code_82)
      refine Goes.step (B := (T129.setTop (mkF m 85 #[.val (.ref o0), .val (.int (own_s u1))] [(.ref c0)]))) (fun _ k => st129 _ k) ?_
      refine Goes.step (B := (T129.setTop (mkF m 86 #[.val (.ref o0), .val (.int (own_s u1))] [(.ref o0), (.ref c0)]))) (fun _ k => XS.aloadN X129.here hx rfl (hb hby d_prog_43_method_4_code_85) rfl rfl k) ?_
      refine Goes.step (B := (T129.setTop (mkF m 87 #[.val (.ref o0), .val (.int (own_s u1))] [(.ref o0), (.ref o0), (.ref c0)]))) (fun _ k => XS.dup X129.here hx rfl (hb hby d_prog_43_method_4_code_86) rfl rfl k) ?_
      obtain ⟨T130, X130, e130, st130⟩ := getF X129 hx hZ hown (host := "") (Or.inl (hw _ (List.mem_of_getElem? (i := 21) rfl))) Via.refl e129 f127 (g := (mkF m 87 #[.val (.ref o0), .val (.int (own_s u1))] [(.ref o0), (.ref o0), (.ref c0)])) rfl rfl (hb hby d_prog_43_method_4_code_87)
      refine Goes.step (B := (T130.setTop (mkF m 90 #[.val (.ref o0), .val (.int (own_s u1))] [(.int (i1 + (1 : Int32))), (.ref o0), (.ref c0)]))) (fun _ k => st130 _ k) ?_
      refine Goes.step (B := (T130.setTop (mkF m 91 #[.val (.ref o0), .val (.int (own_s u1))] [(.int (i1 + (1 : Int32))), (.ref o0), (.int (i1 + (1 : Int32))), (.ref c0)]))) (fun _ k => XS.dupX1 X130.here hx rfl (hb hby d_prog_43_method_4_code_90) rfl rfl rfl k) ?_
      refine Goes.step (B := (T130.setTop (mkF m 92 #[.val (.ref o0), .val (.int (own_s u1))] [(.int (1 : Int32)), (.int (i1 + (1 : Int32))), (.ref o0), (.int (i1 + (1 : Int32))), (.ref c0)]))) (fun _ k => XS.iconst X130.here hx rfl (hb hby d_prog_43_method_4_code_91) k) ?_
      refine Goes.step (B := (T130.setTop (mkF m 93 #[.val (.ref o0), .val (.int (own_s u1))] [(.int ((i1 + (1 : Int32)) + (1 : Int32))), (.ref o0), (.int (i1 + (1 : Int32))), (.ref c0)]))) (fun _ k => XS.iadd X130.here hx rfl (hb hby d_prog_43_method_4_code_92) rfl k) ?_
      obtain ⟨T131, h131, X131, e131, W131, st131⟩ := putF X130 hx hZ hown (host := "") (Or.inl (hw _ (List.mem_of_getElem? (i := 21) rfl))) Via.refl e130 f127 f125 (Or.inl (hw _ (List.mem_of_getElem? (i := 22) rfl))) (hw _ (List.mem_of_getElem? (i := 2) rfl)) (ty := .int) (by decide) rfl rfl (g := (mkF m 93 #[.val (.ref o0), .val (.int (own_s u1))] [(.int ((i1 + (1 : Int32)) + (1 : Int32))), (.ref o0), (.int (i1 + (1 : Int32))), (.ref c0)])) rfl rfl (hb hby d_prog_43_method_4_code_93)
      have f132 := f125.wr W131
      have f133 := f126.other W131 (Or.inr (slot_ne (Or.inl (hw _ (List.mem_of_getElem? (i := 15) rfl))) (Or.inl (hw _ (List.mem_of_getElem? (i := 22) rfl))) (by decide) (t := (.array .byte)) (t' := .int) (by decide) (by decide)))
      have f134 := V124.other W131 pr6
      have N131 := Fr.snoc X131 N124 pr4
      have K131 : Keep h0 h131 [o0, c0] := K124.wr W131 (Or.inl (List.mem_of_getElem? (i := 0) rfl))
      have Z131 : n0 ≤ h131.size := Nat.le_trans Z124 (Nat.le_of_eq W131.size.symm)
      have f135 : Fld Z h131 o0 "com/example/kartoteka/kartoteka/index/Varints$Writer" "length" "I" (.int ((i1 + (1 : Int32)) + (1 : Int32))) := f127.same W131
      refine Goes.step (B := (T131.setTop (mkF m 96 #[.val (.ref o0), .val (.int (own_s u1))] [(.int (i1 + (1 : Int32))), (.ref c0)]))) (fun _ k => st131 _ k) ?_
      refine Goes.step (B := (T131.setTop (mkF m 97 #[.val (.ref o0), .val (.int (own_s u1))] [(.int (own_s u1)), (.int (i1 + (1 : Int32))), (.ref c0)]))) (fun _ k => XS.iloadN X131.here hx rfl (hb hby d_prog_43_method_4_code_96) rfl k) ?_
      refine Goes.step (B := (T131.setTop (mkF m 98 #[.val (.ref o0), .val (.int (own_s u1))] [(.int (own_s u1).toInt8.toInt32), (.int (i1 + (1 : Int32))), (.ref c0)]))) (fun _ k => XS.i2b X131.here hx rfl (hb hby d_prog_43_method_4_code_97) rfl k) ?_
      obtain ⟨cl136, Ar136, q136, S136, M136, H136, G136⟩ := id f134
      have hin136 : ¬ ((i1 + (1 : Int32)) < 0 ∨ cl136.slots.size ≤ ((i1 + (1 : Int32))).toNatClampNeg) := own_in S136 ai1 (by decide : (16 : Int32).toInt = 16) (by omega) (by omega)
      obtain ⟨T136, h136, X136, e136, W136, st136⟩ := stB X131 hx hZ e131 Ar136 (j := (i1 + (1 : Int32))) hin136 (g := (mkF m 98 #[.val (.ref o0), .val (.int (own_s u1))] [(.int (own_s u1).toInt8.toInt32), (.int (i1 + (1 : Int32))), (.ref c0)])) rfl rfl (hb hby d_prog_43_method_4_code_98)
      have f137 := f132.wr W136
      have f138 := f133.other W136 (Or.inl (Ne.symm pr6))
      have f139 := f135.other W136 (Or.inl (Ne.symm pr6))
      have N136 := Fr.snoc X136 N131 pr5
      have K136 : Keep h0 h136 [o0, c0] := K131.wr W136 (Or.inl (List.mem_of_getElem? (i := 1) rfl))
      have Z136 : n0 ≤ h136.size := Nat.le_trans Z131 (Nat.le_of_eq W136.size.symm)
      have V136 : Arv Z h136 c0 k1 .byte (16 : Int32) (own_l 16 (own_up (own_up f1 i1 (own_b1 u1)) (i1 + (1 : Int32)) (own_b0 (own_s u1)))) (.int (0 : Int32)) := own_l_set 16 (own_up f1 i1 (own_b1 u1)) (i1 + (1 : Int32)) (own_b0 (own_s u1)) ▸ Arv.set Ar136 q136 S136 M136 H136 G136 (fits_nar_byte _) W136 ((i1 + (1 : Int32))).toNatClampNeg rfl (by rw [own_l_len]; exact own_cl ai1 (by decide : (16 : Int32).toInt = 16) (by omega) (by omega))
      refine Goes.step (B := (T136.setTop (mkF m 99 #[.val (.ref o0), .val (.int (own_s u1))] []))) (fun _ k => st136 _ k) ?_
      refine Goes.retV X136 hx hlk hrt (hb hby d_prog_43_method_4_code_99) ?_ (by decide) (by decide)
      rw [e136]
      have ew : own_w 4 f1 i1 u1 = (own_up (own_up f1 i1 (own_b1 u1)) (i1 + (1 : Int32)) (own_b0 (own_s u1))) := by simp only [own_w, if_neg hc105, if_pos hc128]
      have en : own_n 4 i1 u1 = ((i1 + (1 : Int32)) + (1 : Int32)) := by simp only [own_n, if_neg hc105, if_pos hc128]
      rw [← ew] at V136
      rw [← en] at f139
      exact ⟨rfl, N136, K136, f137, f138, f139, V136⟩
    · refine Goes.step (B := (T124.setTop (mkF m 48 #[.val (.ref o0), .val (.int (own_s u1))] []))) (fun _ k => XS.ifNo X124.here hx rfl (hb hby d_prog_43_method_4_code_45) rfl ((if0 _ _).trans (feq hc128).1) k) ?_
      refine Goes.step (B := (T124.setTop (mkF m 49 #[.val (.ref o0), .val (.int (own_s u1))] [(.ref o0)]))) (fun _ k => XS.aloadN X124.here hx rfl (hb hby d_prog_43_method_4_code_48) rfl rfl k) ?_
      obtain ⟨T140, X140, e140, st140⟩ := getF X124 hx hZ hown (host := "") (Or.inl (hw _ (List.mem_of_getElem? (i := 14) rfl))) Via.refl e124 f126 (g := (mkF m 49 #[.val (.ref o0), .val (.int (own_s u1))] [(.ref o0)])) rfl rfl (hb hby d_prog_43_method_4_code_49)
      refine Goes.step (B := (T140.setTop (mkF m 52 #[.val (.ref o0), .val (.int (own_s u1))] [(.ref c0)]))) (fun _ k => st140 _ k) ?_
      refine Goes.step (B := (T140.setTop (mkF m 53 #[.val (.ref o0), .val (.int (own_s u1))] [(.ref o0), (.ref c0)]))) (fun _ k => XS.aloadN X140.here hx rfl (hb hby d_prog_43_method_4_code_52) rfl rfl k) ?_
      refine Goes.step (B := (T140.setTop (mkF m 54 #[.val (.ref o0), .val (.int (own_s u1))] [(.ref o0), (.ref o0), (.ref c0)]))) (fun _ k => XS.dup X140.here hx rfl (hb hby d_prog_43_method_4_code_53) rfl rfl k) ?_
      obtain ⟨T141, X141, e141, st141⟩ := getF X140 hx hZ hown (host := "") (Or.inl (hw _ (List.mem_of_getElem? (i := 21) rfl))) Via.refl e140 f127 (g := (mkF m 54 #[.val (.ref o0), .val (.int (own_s u1))] [(.ref o0), (.ref o0), (.ref c0)])) rfl rfl (hb hby d_prog_43_method_4_code_54)
      refine Goes.step (B := (T141.setTop (mkF m 57 #[.val (.ref o0), .val (.int (own_s u1))] [(.int (i1 + (1 : Int32))), (.ref o0), (.ref c0)]))) (fun _ k => st141 _ k) ?_
      refine Goes.step (B := (T141.setTop (mkF m 58 #[.val (.ref o0), .val (.int (own_s u1))] [(.int (i1 + (1 : Int32))), (.ref o0), (.int (i1 + (1 : Int32))), (.ref c0)]))) (fun _ k => XS.dupX1 X141.here hx rfl (hb hby d_prog_43_method_4_code_57) rfl rfl rfl k) ?_
      refine Goes.step (B := (T141.setTop (mkF m 59 #[.val (.ref o0), .val (.int (own_s u1))] [(.int (1 : Int32)), (.int (i1 + (1 : Int32))), (.ref o0), (.int (i1 + (1 : Int32))), (.ref c0)]))) (fun _ k => XS.iconst X141.here hx rfl (hb hby d_prog_43_method_4_code_58) k) ?_
      refine Goes.step (B := (T141.setTop (mkF m 60 #[.val (.ref o0), .val (.int (own_s u1))] [(.int ((i1 + (1 : Int32)) + (1 : Int32))), (.ref o0), (.int (i1 + (1 : Int32))), (.ref c0)]))) (fun _ k => XS.iadd X141.here hx rfl (hb hby d_prog_43_method_4_code_59) rfl k) ?_
      obtain ⟨T142, h142, X142, e142, W142, st142⟩ := putF X141 hx hZ hown (host := "") (Or.inl (hw _ (List.mem_of_getElem? (i := 21) rfl))) Via.refl e141 f127 f125 (Or.inl (hw _ (List.mem_of_getElem? (i := 22) rfl))) (hw _ (List.mem_of_getElem? (i := 2) rfl)) (ty := .int) (by decide) rfl rfl (g := (mkF m 60 #[.val (.ref o0), .val (.int (own_s u1))] [(.int ((i1 + (1 : Int32)) + (1 : Int32))), (.ref o0), (.int (i1 + (1 : Int32))), (.ref c0)])) rfl rfl (hb hby d_prog_43_method_4_code_60)
      have f143 := f125.wr W142
      have f144 := f126.other W142 (Or.inr (slot_ne (Or.inl (hw _ (List.mem_of_getElem? (i := 15) rfl))) (Or.inl (hw _ (List.mem_of_getElem? (i := 22) rfl))) (by decide) (t := (.array .byte)) (t' := .int) (by decide) (by decide)))
      have f145 := V124.other W142 pr6
      have N142 := Fr.snoc X142 N124 pr4
      have K142 : Keep h0 h142 [o0, c0] := K124.wr W142 (Or.inl (List.mem_of_getElem? (i := 0) rfl))
      have Z142 : n0 ≤ h142.size := Nat.le_trans Z124 (Nat.le_of_eq W142.size.symm)
      have f146 : Fld Z h142 o0 "com/example/kartoteka/kartoteka/index/Varints$Writer" "length" "I" (.int ((i1 + (1 : Int32)) + (1 : Int32))) := f127.same W142
      refine Goes.step (B := (T142.setTop (mkF m 63 #[.val (.ref o0), .val (.int (own_s u1))] [(.int (i1 + (1 : Int32))), (.ref c0)]))) (fun _ k => st142 _ k) ?_
      refine Goes.step (B := (T142.setTop (mkF m 64 #[.val (.ref o0), .val (.int (own_s u1))] [(.int (own_s u1)), (.int (i1 + (1 : Int32))), (.ref c0)]))) (fun _ k => XS.iloadN X142.here hx rfl (hb hby d_prog_43_method_4_code_63) rfl k) ?_
      refine Goes.step (B := (T142.setTop (mkF m 66 #[.val (.ref o0), .val (.int (own_s u1))] [(.int (127 : Int32)), (.int (own_s u1)), (.int (i1 + (1 : Int32))), (.ref c0)]))) (fun _ k => XS.bipush X142.here hx rfl (hb hby d_prog_43_method_4_code_64) k) ?_
      refine Goes.step (B := (T142.setTop (mkF m 67 #[.val (.ref o0), .val (.int (own_s u1))] [(.int ((own_s u1) &&& (127 : Int32))), (.int (i1 + (1 : Int32))), (.ref c0)]))) (fun _ k => XS.iand X142.here hx rfl (hb hby d_prog_43_method_4_code_66) rfl k) ?_
      refine Goes.step (B := (T142.setTop (mkF m 70 #[.val (.ref o0), .val (.int (own_s u1))] [(.int (128 : Int32)), (.int ((own_s u1) &&& (127 : Int32))), (.int (i1 + (1 : Int32))), (.ref c0)]))) (fun _ k => XS.sipush X142.here hx rfl (hb hby d_prog_43_method_4_code_67) k) ?_
      refine Goes.step (B := (T142.setTop (mkF m 71 #[.val (.ref o0), .val (.int (own_s u1))] [(.int (((own_s u1) &&& (127 : Int32)) ||| (128 : Int32))), (.int (i1 + (1 : Int32))), (.ref c0)]))) (fun _ k => XS.ior X142.here hx rfl (hb hby d_prog_43_method_4_code_70) rfl k) ?_
      refine Goes.step (B := (T142.setTop (mkF m 72 #[.val (.ref o0), .val (.int (own_s u1))] [(.int (((own_s u1) &&& (127 : Int32)) ||| (128 : Int32)).toInt8.toInt32), (.int (i1 + (1 : Int32))), (.ref c0)]))) (fun _ k => XS.i2b X142.here hx rfl (hb hby d_prog_43_method_4_code_71) rfl k) ?_
      obtain ⟨cl147, Ar147, q147, S147, M147, H147, G147⟩ := id f145
      have hin147 : ¬ ((i1 + (1 : Int32)) < 0 ∨ cl147.slots.size ≤ ((i1 + (1 : Int32))).toNatClampNeg) := own_in S147 ai1 (by decide : (16 : Int32).toInt = 16) (by omega) (by omega)
      obtain ⟨T147, h147, X147, e147, W147, st147⟩ := stB X142 hx hZ e142 Ar147 (j := (i1 + (1 : Int32))) hin147 (g := (mkF m 72 #[.val (.ref o0), .val (.int (own_s u1))] [(.int (((own_s u1) &&& (127 : Int32)) ||| (128 : Int32)).toInt8.toInt32), (.int (i1 + (1 : Int32))), (.ref c0)])) rfl rfl (hb hby d_prog_43_method_4_code_72)
      have f148 := f143.wr W147
      have f149 := f144.other W147 (Or.inl (Ne.symm pr6))
      have f150 := f146.other W147 (Or.inl (Ne.symm pr6))
      have N147 := Fr.snoc X147 N142 pr5
      have K147 : Keep h0 h147 [o0, c0] := K142.wr W147 (Or.inl (List.mem_of_getElem? (i := 1) rfl))
      have Z147 : n0 ≤ h147.size := Nat.le_trans Z142 (Nat.le_of_eq W147.size.symm)
      have V147 : Arv Z h147 c0 k1 .byte (16 : Int32) (own_l 16 (own_up (own_up f1 i1 (own_b1 u1)) (i1 + (1 : Int32)) (own_b1 (own_s u1)))) (.int (0 : Int32)) := own_l_set 16 (own_up f1 i1 (own_b1 u1)) (i1 + (1 : Int32)) (own_b1 (own_s u1)) ▸ Arv.set Ar147 q147 S147 M147 H147 G147 (fits_nar_byte _) W147 ((i1 + (1 : Int32))).toNatClampNeg rfl (by rw [own_l_len]; exact own_cl ai1 (by decide : (16 : Int32).toInt = 16) (by omega) (by omega))
      refine Goes.step (B := (T147.setTop (mkF m 73 #[.val (.ref o0), .val (.int (own_s u1))] []))) (fun _ k => st147 _ k) ?_
      refine Goes.step (B := (T147.setTop (mkF m 74 #[.val (.ref o0), .val (.int (own_s u1))] [(.int (own_s u1))]))) (fun _ k => XS.iloadN X147.here hx rfl (hb hby d_prog_43_method_4_code_73) rfl k) ?_
      refine Goes.step (B := (T147.setTop (mkF m 76 #[.val (.ref o0), .val (.int (own_s u1))] [(.int (7 : Int32)), (.int (own_s u1))]))) (fun _ k => XS.bipush X147.here hx rfl (hb hby d_prog_43_method_4_code_74) k) ?_
      refine Goes.step (B := (T147.setTop (mkF m 77 #[.val (.ref o0), .val (.int (own_s u1))] [(.int ((own_s u1).toUInt32 >>> ((7 : Int32) &&& 31).toUInt32).toInt32)]))) (fun _ k => XS.iushr X147.here hx rfl (hb hby d_prog_43_method_4_code_76) rfl k) ?_
      refine Goes.step (B := (T147.setTop (mkF m 78 #[.val (.ref o0), .val (.int (own_s (own_s u1)))] []))) (fun _ k => XS.istoreN X147.here hx rfl (hb hby d_prog_43_method_4_code_77) rfl (l' := #[.val (.ref o0), .val (.int (own_s (own_s u1)))]) rfl k) ?_
      refine Goes.step (B := (T147.setTop (mkF m 41 #[.val (.ref o0), .val (.int (own_s (own_s u1)))] []))) (fun _ k => XS.goto X147.here hx rfl (pc0 := 78) (pc' := 41) rfl (hb hby d_prog_43_method_4_code_78) (by decide) (by decide) k) ?_
      refine Goes.step (B := (T147.setTop (mkF m 42 #[.val (.ref o0), .val (.int (own_s (own_s u1)))] [(.int (own_s (own_s u1)))]))) (fun _ k => XS.iloadN X147.here hx rfl (hb hby d_prog_43_method_4_code_41) rfl k) ?_
      refine Goes.step (B := (T147.setTop (mkF m 44 #[.val (.ref o0), .val (.int (own_s (own_s u1)))] [(.int (-128 : Int32)), (.int (own_s (own_s u1)))]))) (fun _ k => XS.bipush X147.here hx rfl (hb hby d_prog_43_method_4_code_42) k) ?_
      refine Goes.step (B := (T147.setTop (mkF m 45 #[.val (.ref o0), .val (.int (own_s (own_s u1)))] [(.int ((own_s (own_s u1)) &&& (-128 : Int32)))]))) (fun _ k => XS.iand X147.here hx rfl (hb hby d_prog_43_method_4_code_44) rfl k) ?_
      by_cases hc151 : ((own_s (own_s u1)) &&& (-128 : Int32)) = (0 : Int32)
      · refine Goes.step (B := (T147.setTop (mkF m 81 #[.val (.ref o0), .val (.int (own_s (own_s u1)))] []))) (fun _ k => XS.ifYes X147.here hx rfl (pc0 := 45) (pc' := 81) rfl (hb hby d_prog_43_method_4_code_45) rfl ((if0 _ _).trans (teq hc151).1) (by decide) (by decide) k) ?_
        refine Goes.step (B := (T147.setTop (mkF m 82 #[.val (.ref o0), .val (.int (own_s (own_s u1)))] [(.ref o0)]))) (fun _ k => XS.aloadN X147.here hx rfl (hb hby d_prog_43_method_4_code_81) rfl rfl k) ?_
        obtain ⟨T152, X152, e152, st152⟩ := getF X147 hx hZ hown (host := "") (Or.inl (hw _ (List.mem_of_getElem? (i := 14) rfl))) Via.refl e147 f149 (g := (mkF m 82 #[.val (.ref o0), .val (.int (own_s (own_s u1)))] [(.ref o0)])) rfl rfl (hb hby d_prog_43_method_4_code_82)
        refine Goes.step (B := (T152.setTop (mkF m 85 #[.val (.ref o0), .val (.int (own_s (own_s u1)))] [(.ref c0)]))) (fun _ k => st152 _ k) ?_
        refine Goes.step (B := (T152.setTop (mkF m 86 #[.val (.ref o0), .val (.int (own_s (own_s u1)))] [(.ref o0), (.ref c0)]))) (fun _ k => XS.aloadN X152.here hx rfl (hb hby d_prog_43_method_4_code_85) rfl rfl k) ?_
        refine Goes.step (B := (T152.setTop (mkF m 87 #[.val (.ref o0), .val (.int (own_s (own_s u1)))] [(.ref o0), (.ref o0), (.ref c0)]))) (fun _ k => XS.dup X152.here hx rfl (hb hby d_prog_43_method_4_code_86) rfl rfl k) ?_
        obtain ⟨T153, X153, e153, st153⟩ := getF X152 hx hZ hown (host := "") (Or.inl (hw _ (List.mem_of_getElem? (i := 21) rfl))) Via.refl e152 f150 (g := (mkF m 87 #[.val (.ref o0), .val (.int (own_s (own_s u1)))] [(.ref o0), (.ref o0), (.ref c0)])) rfl rfl (hb hby d_prog_43_method_4_code_87)
        refine Goes.step (B := (T153.setTop (mkF m 90 #[.val (.ref o0), .val (.int (own_s (own_s u1)))] [(.int ((i1 + (1 : Int32)) + (1 : Int32))), (.ref o0), (.ref c0)]))) (fun _ k => st153 _ k) ?_
        refine Goes.step (B := (T153.setTop (mkF m 91 #[.val (.ref o0), .val (.int (own_s (own_s u1)))] [(.int ((i1 + (1 : Int32)) + (1 : Int32))), (.ref o0), (.int ((i1 + (1 : Int32)) + (1 : Int32))), (.ref c0)]))) (fun _ k => XS.dupX1 X153.here hx rfl (hb hby d_prog_43_method_4_code_90) rfl rfl rfl k) ?_
        refine Goes.step (B := (T153.setTop (mkF m 92 #[.val (.ref o0), .val (.int (own_s (own_s u1)))] [(.int (1 : Int32)), (.int ((i1 + (1 : Int32)) + (1 : Int32))), (.ref o0), (.int ((i1 + (1 : Int32)) + (1 : Int32))), (.ref c0)]))) (fun _ k => XS.iconst X153.here hx rfl (hb hby d_prog_43_method_4_code_91) k) ?_
        refine Goes.step (B := (T153.setTop (mkF m 93 #[.val (.ref o0), .val (.int (own_s (own_s u1)))] [(.int (((i1 + (1 : Int32)) + (1 : Int32)) + (1 : Int32))), (.ref o0), (.int ((i1 + (1 : Int32)) + (1 : Int32))), (.ref c0)]))) (fun _ k => XS.iadd X153.here hx rfl (hb hby d_prog_43_method_4_code_92) rfl k) ?_
        obtain ⟨T154, h154, X154, e154, W154, st154⟩ := putF X153 hx hZ hown (host := "") (Or.inl (hw _ (List.mem_of_getElem? (i := 21) rfl))) Via.refl e153 f150 f148 (Or.inl (hw _ (List.mem_of_getElem? (i := 22) rfl))) (hw _ (List.mem_of_getElem? (i := 2) rfl)) (ty := .int) (by decide) rfl rfl (g := (mkF m 93 #[.val (.ref o0), .val (.int (own_s (own_s u1)))] [(.int (((i1 + (1 : Int32)) + (1 : Int32)) + (1 : Int32))), (.ref o0), (.int ((i1 + (1 : Int32)) + (1 : Int32))), (.ref c0)])) rfl rfl (hb hby d_prog_43_method_4_code_93)
        have f155 := f148.wr W154
        have f156 := f149.other W154 (Or.inr (slot_ne (Or.inl (hw _ (List.mem_of_getElem? (i := 15) rfl))) (Or.inl (hw _ (List.mem_of_getElem? (i := 22) rfl))) (by decide) (t := (.array .byte)) (t' := .int) (by decide) (by decide)))
        have f157 := V147.other W154 pr6
        have N154 := Fr.snoc X154 N147 pr4
        have K154 : Keep h0 h154 [o0, c0] := K147.wr W154 (Or.inl (List.mem_of_getElem? (i := 0) rfl))
        have Z154 : n0 ≤ h154.size := Nat.le_trans Z147 (Nat.le_of_eq W154.size.symm)
        have f158 : Fld Z h154 o0 "com/example/kartoteka/kartoteka/index/Varints$Writer" "length" "I" (.int (((i1 + (1 : Int32)) + (1 : Int32)) + (1 : Int32))) := f150.same W154
        refine Goes.step (B := (T154.setTop (mkF m 96 #[.val (.ref o0), .val (.int (own_s (own_s u1)))] [(.int ((i1 + (1 : Int32)) + (1 : Int32))), (.ref c0)]))) (fun _ k => st154 _ k) ?_
        refine Goes.step (B := (T154.setTop (mkF m 97 #[.val (.ref o0), .val (.int (own_s (own_s u1)))] [(.int (own_s (own_s u1))), (.int ((i1 + (1 : Int32)) + (1 : Int32))), (.ref c0)]))) (fun _ k => XS.iloadN X154.here hx rfl (hb hby d_prog_43_method_4_code_96) rfl k) ?_
        refine Goes.step (B := (T154.setTop (mkF m 98 #[.val (.ref o0), .val (.int (own_s (own_s u1)))] [(.int (own_s (own_s u1)).toInt8.toInt32), (.int ((i1 + (1 : Int32)) + (1 : Int32))), (.ref c0)]))) (fun _ k => XS.i2b X154.here hx rfl (hb hby d_prog_43_method_4_code_97) rfl k) ?_
        obtain ⟨cl159, Ar159, q159, S159, M159, H159, G159⟩ := id f157
        have hin159 : ¬ (((i1 + (1 : Int32)) + (1 : Int32)) < 0 ∨ cl159.slots.size ≤ (((i1 + (1 : Int32)) + (1 : Int32))).toNatClampNeg) := own_in S159 ai2 (by decide : (16 : Int32).toInt = 16) (by omega) (by omega)
        obtain ⟨T159, h159, X159, e159, W159, st159⟩ := stB X154 hx hZ e154 Ar159 (j := ((i1 + (1 : Int32)) + (1 : Int32))) hin159 (g := (mkF m 98 #[.val (.ref o0), .val (.int (own_s (own_s u1)))] [(.int (own_s (own_s u1)).toInt8.toInt32), (.int ((i1 + (1 : Int32)) + (1 : Int32))), (.ref c0)])) rfl rfl (hb hby d_prog_43_method_4_code_98)
        have f160 := f155.wr W159
        have f161 := f156.other W159 (Or.inl (Ne.symm pr6))
        have f162 := f158.other W159 (Or.inl (Ne.symm pr6))
        have N159 := Fr.snoc X159 N154 pr5
        have K159 : Keep h0 h159 [o0, c0] := K154.wr W159 (Or.inl (List.mem_of_getElem? (i := 1) rfl))
        have Z159 : n0 ≤ h159.size := Nat.le_trans Z154 (Nat.le_of_eq W159.size.symm)
        have V159 : Arv Z h159 c0 k1 .byte (16 : Int32) (own_l 16 (own_up (own_up (own_up f1 i1 (own_b1 u1)) (i1 + (1 : Int32)) (own_b1 (own_s u1))) ((i1 + (1 : Int32)) + (1 : Int32)) (own_b0 (own_s (own_s u1))))) (.int (0 : Int32)) := own_l_set 16 (own_up (own_up f1 i1 (own_b1 u1)) (i1 + (1 : Int32)) (own_b1 (own_s u1))) ((i1 + (1 : Int32)) + (1 : Int32)) (own_b0 (own_s (own_s u1))) ▸ Arv.set Ar159 q159 S159 M159 H159 G159 (fits_nar_byte _) W159 (((i1 + (1 : Int32)) + (1 : Int32))).toNatClampNeg rfl (by rw [own_l_len]; exact own_cl ai2 (by decide : (16 : Int32).toInt = 16) (by omega) (by omega))
        refine Goes.step (B := (T159.setTop (mkF m 99 #[.val (.ref o0), .val (.int (own_s (own_s u1)))] []))) (fun _ k => st159 _ k) ?_
        refine Goes.retV X159 hx hlk hrt (hb hby d_prog_43_method_4_code_99) ?_ (by decide) (by decide)
        rw [e159]
        have ew : own_w 4 f1 i1 u1 = (own_up (own_up (own_up f1 i1 (own_b1 u1)) (i1 + (1 : Int32)) (own_b1 (own_s u1))) ((i1 + (1 : Int32)) + (1 : Int32)) (own_b0 (own_s (own_s u1)))) := by simp only [own_w, if_neg hc105, if_neg hc128, if_pos hc151]
        have en : own_n 4 i1 u1 = (((i1 + (1 : Int32)) + (1 : Int32)) + (1 : Int32)) := by simp only [own_n, if_neg hc105, if_neg hc128, if_pos hc151]
        rw [← ew] at V159
        rw [← en] at f162
        exact ⟨rfl, N159, K159, f160, f161, f162, V159⟩
      · refine Goes.step (B := (T147.setTop (mkF m 48 #[.val (.ref o0), .val (.int (own_s (own_s u1)))] []))) (fun _ k => XS.ifNo X147.here hx rfl (hb hby d_prog_43_method_4_code_45) rfl ((if0 _ _).trans (feq hc151).1) k) ?_
        refine Goes.step (B := (T147.setTop (mkF m 49 #[.val (.ref o0), .val (.int (own_s (own_s u1)))] [(.ref o0)]))) (fun _ k => XS.aloadN X147.here hx rfl (hb hby d_prog_43_method_4_code_48) rfl rfl k) ?_
        obtain ⟨T163, X163, e163, st163⟩ := getF X147 hx hZ hown (host := "") (Or.inl (hw _ (List.mem_of_getElem? (i := 14) rfl))) Via.refl e147 f149 (g := (mkF m 49 #[.val (.ref o0), .val (.int (own_s (own_s u1)))] [(.ref o0)])) rfl rfl (hb hby d_prog_43_method_4_code_49)
        refine Goes.step (B := (T163.setTop (mkF m 52 #[.val (.ref o0), .val (.int (own_s (own_s u1)))] [(.ref c0)]))) (fun _ k => st163 _ k) ?_
        refine Goes.step (B := (T163.setTop (mkF m 53 #[.val (.ref o0), .val (.int (own_s (own_s u1)))] [(.ref o0), (.ref c0)]))) (fun _ k => XS.aloadN X163.here hx rfl (hb hby d_prog_43_method_4_code_52) rfl rfl k) ?_
        refine Goes.step (B := (T163.setTop (mkF m 54 #[.val (.ref o0), .val (.int (own_s (own_s u1)))] [(.ref o0), (.ref o0), (.ref c0)]))) (fun _ k => XS.dup X163.here hx rfl (hb hby d_prog_43_method_4_code_53) rfl rfl k) ?_
        obtain ⟨T164, X164, e164, st164⟩ := getF X163 hx hZ hown (host := "") (Or.inl (hw _ (List.mem_of_getElem? (i := 21) rfl))) Via.refl e163 f150 (g := (mkF m 54 #[.val (.ref o0), .val (.int (own_s (own_s u1)))] [(.ref o0), (.ref o0), (.ref c0)])) rfl rfl (hb hby d_prog_43_method_4_code_54)
        refine Goes.step (B := (T164.setTop (mkF m 57 #[.val (.ref o0), .val (.int (own_s (own_s u1)))] [(.int ((i1 + (1 : Int32)) + (1 : Int32))), (.ref o0), (.ref c0)]))) (fun _ k => st164 _ k) ?_
        refine Goes.step (B := (T164.setTop (mkF m 58 #[.val (.ref o0), .val (.int (own_s (own_s u1)))] [(.int ((i1 + (1 : Int32)) + (1 : Int32))), (.ref o0), (.int ((i1 + (1 : Int32)) + (1 : Int32))), (.ref c0)]))) (fun _ k => XS.dupX1 X164.here hx rfl (hb hby d_prog_43_method_4_code_57) rfl rfl rfl k) ?_
        refine Goes.step (B := (T164.setTop (mkF m 59 #[.val (.ref o0), .val (.int (own_s (own_s u1)))] [(.int (1 : Int32)), (.int ((i1 + (1 : Int32)) + (1 : Int32))), (.ref o0), (.int ((i1 + (1 : Int32)) + (1 : Int32))), (.ref c0)]))) (fun _ k => XS.iconst X164.here hx rfl (hb hby d_prog_43_method_4_code_58) k) ?_
        refine Goes.step (B := (T164.setTop (mkF m 60 #[.val (.ref o0), .val (.int (own_s (own_s u1)))] [(.int (((i1 + (1 : Int32)) + (1 : Int32)) + (1 : Int32))), (.ref o0), (.int ((i1 + (1 : Int32)) + (1 : Int32))), (.ref c0)]))) (fun _ k => XS.iadd X164.here hx rfl (hb hby d_prog_43_method_4_code_59) rfl k) ?_
        obtain ⟨T165, h165, X165, e165, W165, st165⟩ := putF X164 hx hZ hown (host := "") (Or.inl (hw _ (List.mem_of_getElem? (i := 21) rfl))) Via.refl e164 f150 f148 (Or.inl (hw _ (List.mem_of_getElem? (i := 22) rfl))) (hw _ (List.mem_of_getElem? (i := 2) rfl)) (ty := .int) (by decide) rfl rfl (g := (mkF m 60 #[.val (.ref o0), .val (.int (own_s (own_s u1)))] [(.int (((i1 + (1 : Int32)) + (1 : Int32)) + (1 : Int32))), (.ref o0), (.int ((i1 + (1 : Int32)) + (1 : Int32))), (.ref c0)])) rfl rfl (hb hby d_prog_43_method_4_code_60)
        have f166 := f148.wr W165
        have f167 := f149.other W165 (Or.inr (slot_ne (Or.inl (hw _ (List.mem_of_getElem? (i := 15) rfl))) (Or.inl (hw _ (List.mem_of_getElem? (i := 22) rfl))) (by decide) (t := (.array .byte)) (t' := .int) (by decide) (by decide)))
        have f168 := V147.other W165 pr6
        have N165 := Fr.snoc X165 N147 pr4
        have K165 : Keep h0 h165 [o0, c0] := K147.wr W165 (Or.inl (List.mem_of_getElem? (i := 0) rfl))
        have Z165 : n0 ≤ h165.size := Nat.le_trans Z147 (Nat.le_of_eq W165.size.symm)
        have f169 : Fld Z h165 o0 "com/example/kartoteka/kartoteka/index/Varints$Writer" "length" "I" (.int (((i1 + (1 : Int32)) + (1 : Int32)) + (1 : Int32))) := f150.same W165
        refine Goes.step (B := (T165.setTop (mkF m 63 #[.val (.ref o0), .val (.int (own_s (own_s u1)))] [(.int ((i1 + (1 : Int32)) + (1 : Int32))), (.ref c0)]))) (fun _ k => st165 _ k) ?_
        refine Goes.step (B := (T165.setTop (mkF m 64 #[.val (.ref o0), .val (.int (own_s (own_s u1)))] [(.int (own_s (own_s u1))), (.int ((i1 + (1 : Int32)) + (1 : Int32))), (.ref c0)]))) (fun _ k => XS.iloadN X165.here hx rfl (hb hby d_prog_43_method_4_code_63) rfl k) ?_
        refine Goes.step (B := (T165.setTop (mkF m 66 #[.val (.ref o0), .val (.int (own_s (own_s u1)))] [(.int (127 : Int32)), (.int (own_s (own_s u1))), (.int ((i1 + (1 : Int32)) + (1 : Int32))), (.ref c0)]))) (fun _ k => XS.bipush X165.here hx rfl (hb hby d_prog_43_method_4_code_64) k) ?_
        refine Goes.step (B := (T165.setTop (mkF m 67 #[.val (.ref o0), .val (.int (own_s (own_s u1)))] [(.int ((own_s (own_s u1)) &&& (127 : Int32))), (.int ((i1 + (1 : Int32)) + (1 : Int32))), (.ref c0)]))) (fun _ k => XS.iand X165.here hx rfl (hb hby d_prog_43_method_4_code_66) rfl k) ?_
        refine Goes.step (B := (T165.setTop (mkF m 70 #[.val (.ref o0), .val (.int (own_s (own_s u1)))] [(.int (128 : Int32)), (.int ((own_s (own_s u1)) &&& (127 : Int32))), (.int ((i1 + (1 : Int32)) + (1 : Int32))), (.ref c0)]))) (fun _ k => XS.sipush X165.here hx rfl (hb hby d_prog_43_method_4_code_67) k) ?_
        refine Goes.step (B := (T165.setTop (mkF m 71 #[.val (.ref o0), .val (.int (own_s (own_s u1)))] [(.int (((own_s (own_s u1)) &&& (127 : Int32)) ||| (128 : Int32))), (.int ((i1 + (1 : Int32)) + (1 : Int32))), (.ref c0)]))) (fun _ k => XS.ior X165.here hx rfl (hb hby d_prog_43_method_4_code_70) rfl k) ?_
        refine Goes.step (B := (T165.setTop (mkF m 72 #[.val (.ref o0), .val (.int (own_s (own_s u1)))] [(.int (((own_s (own_s u1)) &&& (127 : Int32)) ||| (128 : Int32)).toInt8.toInt32), (.int ((i1 + (1 : Int32)) + (1 : Int32))), (.ref c0)]))) (fun _ k => XS.i2b X165.here hx rfl (hb hby d_prog_43_method_4_code_71) rfl k) ?_
        obtain ⟨cl170, Ar170, q170, S170, M170, H170, G170⟩ := id f168
        have hin170 : ¬ (((i1 + (1 : Int32)) + (1 : Int32)) < 0 ∨ cl170.slots.size ≤ (((i1 + (1 : Int32)) + (1 : Int32))).toNatClampNeg) := own_in S170 ai2 (by decide : (16 : Int32).toInt = 16) (by omega) (by omega)
        obtain ⟨T170, h170, X170, e170, W170, st170⟩ := stB X165 hx hZ e165 Ar170 (j := ((i1 + (1 : Int32)) + (1 : Int32))) hin170 (g := (mkF m 72 #[.val (.ref o0), .val (.int (own_s (own_s u1)))] [(.int (((own_s (own_s u1)) &&& (127 : Int32)) ||| (128 : Int32)).toInt8.toInt32), (.int ((i1 + (1 : Int32)) + (1 : Int32))), (.ref c0)])) rfl rfl (hb hby d_prog_43_method_4_code_72)
        have f171 := f166.wr W170
        have f172 := f167.other W170 (Or.inl (Ne.symm pr6))
        have f173 := f169.other W170 (Or.inl (Ne.symm pr6))
        have N170 := Fr.snoc X170 N165 pr5
        have K170 : Keep h0 h170 [o0, c0] := K165.wr W170 (Or.inl (List.mem_of_getElem? (i := 1) rfl))
        have Z170 : n0 ≤ h170.size := Nat.le_trans Z165 (Nat.le_of_eq W170.size.symm)
        have V170 : Arv Z h170 c0 k1 .byte (16 : Int32) (own_l 16 (own_up (own_up (own_up f1 i1 (own_b1 u1)) (i1 + (1 : Int32)) (own_b1 (own_s u1))) ((i1 + (1 : Int32)) + (1 : Int32)) (own_b1 (own_s (own_s u1))))) (.int (0 : Int32)) := own_l_set 16 (own_up (own_up f1 i1 (own_b1 u1)) (i1 + (1 : Int32)) (own_b1 (own_s u1))) ((i1 + (1 : Int32)) + (1 : Int32)) (own_b1 (own_s (own_s u1))) ▸ Arv.set Ar170 q170 S170 M170 H170 G170 (fits_nar_byte _) W170 (((i1 + (1 : Int32)) + (1 : Int32))).toNatClampNeg rfl (by rw [own_l_len]; exact own_cl ai2 (by decide : (16 : Int32).toInt = 16) (by omega) (by omega))
        refine Goes.step (B := (T170.setTop (mkF m 73 #[.val (.ref o0), .val (.int (own_s (own_s u1)))] []))) (fun _ k => st170 _ k) ?_
        refine Goes.step (B := (T170.setTop (mkF m 74 #[.val (.ref o0), .val (.int (own_s (own_s u1)))] [(.int (own_s (own_s u1)))]))) (fun _ k => XS.iloadN X170.here hx rfl (hb hby d_prog_43_method_4_code_73) rfl k) ?_
        refine Goes.step (B := (T170.setTop (mkF m 76 #[.val (.ref o0), .val (.int (own_s (own_s u1)))] [(.int (7 : Int32)), (.int (own_s (own_s u1)))]))) (fun _ k => XS.bipush X170.here hx rfl (hb hby d_prog_43_method_4_code_74) k) ?_
        refine Goes.step (B := (T170.setTop (mkF m 77 #[.val (.ref o0), .val (.int (own_s (own_s u1)))] [(.int ((own_s (own_s u1)).toUInt32 >>> ((7 : Int32) &&& 31).toUInt32).toInt32)]))) (fun _ k => XS.iushr X170.here hx rfl (hb hby d_prog_43_method_4_code_76) rfl k) ?_
        refine Goes.step (B := (T170.setTop (mkF m 78 #[.val (.ref o0), .val (.int (own_s (own_s (own_s u1))))] []))) (fun _ k => XS.istoreN X170.here hx rfl (hb hby d_prog_43_method_4_code_77) rfl (l' := #[.val (.ref o0), .val (.int (own_s (own_s (own_s u1))))]) rfl k) ?_
        refine Goes.step (B := (T170.setTop (mkF m 41 #[.val (.ref o0), .val (.int (own_s (own_s (own_s u1))))] []))) (fun _ k => XS.goto X170.here hx rfl (pc0 := 78) (pc' := 41) rfl (hb hby d_prog_43_method_4_code_78) (by decide) (by decide) k) ?_
        refine Goes.step (B := (T170.setTop (mkF m 42 #[.val (.ref o0), .val (.int (own_s (own_s (own_s u1))))] [(.int (own_s (own_s (own_s u1))))]))) (fun _ k => XS.iloadN X170.here hx rfl (hb hby d_prog_43_method_4_code_41) rfl k) ?_
        refine Goes.step (B := (T170.setTop (mkF m 44 #[.val (.ref o0), .val (.int (own_s (own_s (own_s u1))))] [(.int (-128 : Int32)), (.int (own_s (own_s (own_s u1))))]))) (fun _ k => XS.bipush X170.here hx rfl (hb hby d_prog_43_method_4_code_42) k) ?_
        refine Goes.step (B := (T170.setTop (mkF m 45 #[.val (.ref o0), .val (.int (own_s (own_s (own_s u1))))] [(.int ((own_s (own_s (own_s u1))) &&& (-128 : Int32)))]))) (fun _ k => XS.iand X170.here hx rfl (hb hby d_prog_43_method_4_code_44) rfl k) ?_
        by_cases hc174 : ((own_s (own_s (own_s u1))) &&& (-128 : Int32)) = (0 : Int32)
        · refine Goes.step (B := (T170.setTop (mkF m 81 #[.val (.ref o0), .val (.int (own_s (own_s (own_s u1))))] []))) (fun _ k => XS.ifYes X170.here hx rfl (pc0 := 45) (pc' := 81) rfl (hb hby d_prog_43_method_4_code_45) rfl ((if0 _ _).trans (teq hc174).1) (by decide) (by decide) k) ?_
          refine Goes.step (B := (T170.setTop (mkF m 82 #[.val (.ref o0), .val (.int (own_s (own_s (own_s u1))))] [(.ref o0)]))) (fun _ k => XS.aloadN X170.here hx rfl (hb hby d_prog_43_method_4_code_81) rfl rfl k) ?_
          obtain ⟨T175, X175, e175, st175⟩ := getF X170 hx hZ hown (host := "") (Or.inl (hw _ (List.mem_of_getElem? (i := 14) rfl))) Via.refl e170 f172 (g := (mkF m 82 #[.val (.ref o0), .val (.int (own_s (own_s (own_s u1))))] [(.ref o0)])) rfl rfl (hb hby d_prog_43_method_4_code_82)
          refine Goes.step (B := (T175.setTop (mkF m 85 #[.val (.ref o0), .val (.int (own_s (own_s (own_s u1))))] [(.ref c0)]))) (fun _ k => st175 _ k) ?_
          refine Goes.step (B := (T175.setTop (mkF m 86 #[.val (.ref o0), .val (.int (own_s (own_s (own_s u1))))] [(.ref o0), (.ref c0)]))) (fun _ k => XS.aloadN X175.here hx rfl (hb hby d_prog_43_method_4_code_85) rfl rfl k) ?_
          refine Goes.step (B := (T175.setTop (mkF m 87 #[.val (.ref o0), .val (.int (own_s (own_s (own_s u1))))] [(.ref o0), (.ref o0), (.ref c0)]))) (fun _ k => XS.dup X175.here hx rfl (hb hby d_prog_43_method_4_code_86) rfl rfl k) ?_
          obtain ⟨T176, X176, e176, st176⟩ := getF X175 hx hZ hown (host := "") (Or.inl (hw _ (List.mem_of_getElem? (i := 21) rfl))) Via.refl e175 f173 (g := (mkF m 87 #[.val (.ref o0), .val (.int (own_s (own_s (own_s u1))))] [(.ref o0), (.ref o0), (.ref c0)])) rfl rfl (hb hby d_prog_43_method_4_code_87)
          refine Goes.step (B := (T176.setTop (mkF m 90 #[.val (.ref o0), .val (.int (own_s (own_s (own_s u1))))] [(.int (((i1 + (1 : Int32)) + (1 : Int32)) + (1 : Int32))), (.ref o0), (.ref c0)]))) (fun _ k => st176 _ k) ?_
          refine Goes.step (B := (T176.setTop (mkF m 91 #[.val (.ref o0), .val (.int (own_s (own_s (own_s u1))))] [(.int (((i1 + (1 : Int32)) + (1 : Int32)) + (1 : Int32))), (.ref o0), (.int (((i1 + (1 : Int32)) + (1 : Int32)) + (1 : Int32))), (.ref c0)]))) (fun _ k => XS.dupX1 X176.here hx rfl (hb hby d_prog_43_method_4_code_90) rfl rfl rfl k) ?_
          refine Goes.step (B := (T176.setTop (mkF m 92 #[.val (.ref o0), .val (.int (own_s (own_s (own_s u1))))] [(.int (1 : Int32)), (.int (((i1 + (1 : Int32)) + (1 : Int32)) + (1 : Int32))), (.ref o0), (.int (((i1 + (1 : Int32)) + (1 : Int32)) + (1 : Int32))), (.ref c0)]))) (fun _ k => XS.iconst X176.here hx rfl (hb hby d_prog_43_method_4_code_91) k) ?_
          refine Goes.step (B := (T176.setTop (mkF m 93 #[.val (.ref o0), .val (.int (own_s (own_s (own_s u1))))] [(.int ((((i1 + (1 : Int32)) + (1 : Int32)) + (1 : Int32)) + (1 : Int32))), (.ref o0), (.int (((i1 + (1 : Int32)) + (1 : Int32)) + (1 : Int32))), (.ref c0)]))) (fun _ k => XS.iadd X176.here hx rfl (hb hby d_prog_43_method_4_code_92) rfl k) ?_
          obtain ⟨T177, h177, X177, e177, W177, st177⟩ := putF X176 hx hZ hown (host := "") (Or.inl (hw _ (List.mem_of_getElem? (i := 21) rfl))) Via.refl e176 f173 f171 (Or.inl (hw _ (List.mem_of_getElem? (i := 22) rfl))) (hw _ (List.mem_of_getElem? (i := 2) rfl)) (ty := .int) (by decide) rfl rfl (g := (mkF m 93 #[.val (.ref o0), .val (.int (own_s (own_s (own_s u1))))] [(.int ((((i1 + (1 : Int32)) + (1 : Int32)) + (1 : Int32)) + (1 : Int32))), (.ref o0), (.int (((i1 + (1 : Int32)) + (1 : Int32)) + (1 : Int32))), (.ref c0)])) rfl rfl (hb hby d_prog_43_method_4_code_93)
          have f178 := f171.wr W177
          have f179 := f172.other W177 (Or.inr (slot_ne (Or.inl (hw _ (List.mem_of_getElem? (i := 15) rfl))) (Or.inl (hw _ (List.mem_of_getElem? (i := 22) rfl))) (by decide) (t := (.array .byte)) (t' := .int) (by decide) (by decide)))
          have f180 := V170.other W177 pr6
          have N177 := Fr.snoc X177 N170 pr4
          have K177 : Keep h0 h177 [o0, c0] := K170.wr W177 (Or.inl (List.mem_of_getElem? (i := 0) rfl))
          have Z177 : n0 ≤ h177.size := Nat.le_trans Z170 (Nat.le_of_eq W177.size.symm)
          have f181 : Fld Z h177 o0 "com/example/kartoteka/kartoteka/index/Varints$Writer" "length" "I" (.int ((((i1 + (1 : Int32)) + (1 : Int32)) + (1 : Int32)) + (1 : Int32))) := f173.same W177
          refine Goes.step (B := (T177.setTop (mkF m 96 #[.val (.ref o0), .val (.int (own_s (own_s (own_s u1))))] [(.int (((i1 + (1 : Int32)) + (1 : Int32)) + (1 : Int32))), (.ref c0)]))) (fun _ k => st177 _ k) ?_
          refine Goes.step (B := (T177.setTop (mkF m 97 #[.val (.ref o0), .val (.int (own_s (own_s (own_s u1))))] [(.int (own_s (own_s (own_s u1)))), (.int (((i1 + (1 : Int32)) + (1 : Int32)) + (1 : Int32))), (.ref c0)]))) (fun _ k => XS.iloadN X177.here hx rfl (hb hby d_prog_43_method_4_code_96) rfl k) ?_
          refine Goes.step (B := (T177.setTop (mkF m 98 #[.val (.ref o0), .val (.int (own_s (own_s (own_s u1))))] [(.int (own_s (own_s (own_s u1))).toInt8.toInt32), (.int (((i1 + (1 : Int32)) + (1 : Int32)) + (1 : Int32))), (.ref c0)]))) (fun _ k => XS.i2b X177.here hx rfl (hb hby d_prog_43_method_4_code_97) rfl k) ?_
          obtain ⟨cl182, Ar182, q182, S182, M182, H182, G182⟩ := id f180
          have hin182 : ¬ ((((i1 + (1 : Int32)) + (1 : Int32)) + (1 : Int32)) < 0 ∨ cl182.slots.size ≤ ((((i1 + (1 : Int32)) + (1 : Int32)) + (1 : Int32))).toNatClampNeg) := own_in S182 ai3 (by decide : (16 : Int32).toInt = 16) (by omega) (by omega)
          obtain ⟨T182, h182, X182, e182, W182, st182⟩ := stB X177 hx hZ e177 Ar182 (j := (((i1 + (1 : Int32)) + (1 : Int32)) + (1 : Int32))) hin182 (g := (mkF m 98 #[.val (.ref o0), .val (.int (own_s (own_s (own_s u1))))] [(.int (own_s (own_s (own_s u1))).toInt8.toInt32), (.int (((i1 + (1 : Int32)) + (1 : Int32)) + (1 : Int32))), (.ref c0)])) rfl rfl (hb hby d_prog_43_method_4_code_98)
          have f183 := f178.wr W182
          have f184 := f179.other W182 (Or.inl (Ne.symm pr6))
          have f185 := f181.other W182 (Or.inl (Ne.symm pr6))
          have N182 := Fr.snoc X182 N177 pr5
          have K182 : Keep h0 h182 [o0, c0] := K177.wr W182 (Or.inl (List.mem_of_getElem? (i := 1) rfl))
          have Z182 : n0 ≤ h182.size := Nat.le_trans Z177 (Nat.le_of_eq W182.size.symm)
          have V182 : Arv Z h182 c0 k1 .byte (16 : Int32) (own_l 16 (own_up (own_up (own_up (own_up f1 i1 (own_b1 u1)) (i1 + (1 : Int32)) (own_b1 (own_s u1))) ((i1 + (1 : Int32)) + (1 : Int32)) (own_b1 (own_s (own_s u1)))) (((i1 + (1 : Int32)) + (1 : Int32)) + (1 : Int32)) (own_b0 (own_s (own_s (own_s u1)))))) (.int (0 : Int32)) := own_l_set 16 (own_up (own_up (own_up f1 i1 (own_b1 u1)) (i1 + (1 : Int32)) (own_b1 (own_s u1))) ((i1 + (1 : Int32)) + (1 : Int32)) (own_b1 (own_s (own_s u1)))) (((i1 + (1 : Int32)) + (1 : Int32)) + (1 : Int32)) (own_b0 (own_s (own_s (own_s u1)))) ▸ Arv.set Ar182 q182 S182 M182 H182 G182 (fits_nar_byte _) W182 ((((i1 + (1 : Int32)) + (1 : Int32)) + (1 : Int32))).toNatClampNeg rfl (by rw [own_l_len]; exact own_cl ai3 (by decide : (16 : Int32).toInt = 16) (by omega) (by omega))
          refine Goes.step (B := (T182.setTop (mkF m 99 #[.val (.ref o0), .val (.int (own_s (own_s (own_s u1))))] []))) (fun _ k => st182 _ k) ?_
          refine Goes.retV X182 hx hlk hrt (hb hby d_prog_43_method_4_code_99) ?_ (by decide) (by decide)
          rw [e182]
          have ew : own_w 4 f1 i1 u1 = (own_up (own_up (own_up (own_up f1 i1 (own_b1 u1)) (i1 + (1 : Int32)) (own_b1 (own_s u1))) ((i1 + (1 : Int32)) + (1 : Int32)) (own_b1 (own_s (own_s u1)))) (((i1 + (1 : Int32)) + (1 : Int32)) + (1 : Int32)) (own_b0 (own_s (own_s (own_s u1))))) := by simp only [own_w, if_neg hc105, if_neg hc128, if_neg hc151, if_pos hc174]
          have en : own_n 4 i1 u1 = ((((i1 + (1 : Int32)) + (1 : Int32)) + (1 : Int32)) + (1 : Int32)) := by simp only [own_n, if_neg hc105, if_neg hc128, if_neg hc151, if_pos hc174]
          rw [← ew] at V182
          rw [← en] at f185
          exact ⟨rfl, N182, K182, f183, f184, f185, V182⟩
        · refine Goes.step (B := (T170.setTop (mkF m 48 #[.val (.ref o0), .val (.int (own_s (own_s (own_s u1))))] []))) (fun _ k => XS.ifNo X170.here hx rfl (hb hby d_prog_43_method_4_code_45) rfl ((if0 _ _).trans (feq hc174).1) k) ?_
          refine Goes.step (B := (T170.setTop (mkF m 49 #[.val (.ref o0), .val (.int (own_s (own_s (own_s u1))))] [(.ref o0)]))) (fun _ k => XS.aloadN X170.here hx rfl (hb hby d_prog_43_method_4_code_48) rfl rfl k) ?_
          obtain ⟨T186, X186, e186, st186⟩ := getF X170 hx hZ hown (host := "") (Or.inl (hw _ (List.mem_of_getElem? (i := 14) rfl))) Via.refl e170 f172 (g := (mkF m 49 #[.val (.ref o0), .val (.int (own_s (own_s (own_s u1))))] [(.ref o0)])) rfl rfl (hb hby d_prog_43_method_4_code_49)
          refine Goes.step (B := (T186.setTop (mkF m 52 #[.val (.ref o0), .val (.int (own_s (own_s (own_s u1))))] [(.ref c0)]))) (fun _ k => st186 _ k) ?_
          refine Goes.step (B := (T186.setTop (mkF m 53 #[.val (.ref o0), .val (.int (own_s (own_s (own_s u1))))] [(.ref o0), (.ref c0)]))) (fun _ k => XS.aloadN X186.here hx rfl (hb hby d_prog_43_method_4_code_52) rfl rfl k) ?_
          refine Goes.step (B := (T186.setTop (mkF m 54 #[.val (.ref o0), .val (.int (own_s (own_s (own_s u1))))] [(.ref o0), (.ref o0), (.ref c0)]))) (fun _ k => XS.dup X186.here hx rfl (hb hby d_prog_43_method_4_code_53) rfl rfl k) ?_
          obtain ⟨T187, X187, e187, st187⟩ := getF X186 hx hZ hown (host := "") (Or.inl (hw _ (List.mem_of_getElem? (i := 21) rfl))) Via.refl e186 f173 (g := (mkF m 54 #[.val (.ref o0), .val (.int (own_s (own_s (own_s u1))))] [(.ref o0), (.ref o0), (.ref c0)])) rfl rfl (hb hby d_prog_43_method_4_code_54)
          refine Goes.step (B := (T187.setTop (mkF m 57 #[.val (.ref o0), .val (.int (own_s (own_s (own_s u1))))] [(.int (((i1 + (1 : Int32)) + (1 : Int32)) + (1 : Int32))), (.ref o0), (.ref c0)]))) (fun _ k => st187 _ k) ?_
          refine Goes.step (B := (T187.setTop (mkF m 58 #[.val (.ref o0), .val (.int (own_s (own_s (own_s u1))))] [(.int (((i1 + (1 : Int32)) + (1 : Int32)) + (1 : Int32))), (.ref o0), (.int (((i1 + (1 : Int32)) + (1 : Int32)) + (1 : Int32))), (.ref c0)]))) (fun _ k => XS.dupX1 X187.here hx rfl (hb hby d_prog_43_method_4_code_57) rfl rfl rfl k) ?_
          refine Goes.step (B := (T187.setTop (mkF m 59 #[.val (.ref o0), .val (.int (own_s (own_s (own_s u1))))] [(.int (1 : Int32)), (.int (((i1 + (1 : Int32)) + (1 : Int32)) + (1 : Int32))), (.ref o0), (.int (((i1 + (1 : Int32)) + (1 : Int32)) + (1 : Int32))), (.ref c0)]))) (fun _ k => XS.iconst X187.here hx rfl (hb hby d_prog_43_method_4_code_58) k) ?_
          refine Goes.step (B := (T187.setTop (mkF m 60 #[.val (.ref o0), .val (.int (own_s (own_s (own_s u1))))] [(.int ((((i1 + (1 : Int32)) + (1 : Int32)) + (1 : Int32)) + (1 : Int32))), (.ref o0), (.int (((i1 + (1 : Int32)) + (1 : Int32)) + (1 : Int32))), (.ref c0)]))) (fun _ k => XS.iadd X187.here hx rfl (hb hby d_prog_43_method_4_code_59) rfl k) ?_
          obtain ⟨T188, h188, X188, e188, W188, st188⟩ := putF X187 hx hZ hown (host := "") (Or.inl (hw _ (List.mem_of_getElem? (i := 21) rfl))) Via.refl e187 f173 f171 (Or.inl (hw _ (List.mem_of_getElem? (i := 22) rfl))) (hw _ (List.mem_of_getElem? (i := 2) rfl)) (ty := .int) (by decide) rfl rfl (g := (mkF m 60 #[.val (.ref o0), .val (.int (own_s (own_s (own_s u1))))] [(.int ((((i1 + (1 : Int32)) + (1 : Int32)) + (1 : Int32)) + (1 : Int32))), (.ref o0), (.int (((i1 + (1 : Int32)) + (1 : Int32)) + (1 : Int32))), (.ref c0)])) rfl rfl (hb hby d_prog_43_method_4_code_60)
          have f189 := f171.wr W188
          have f190 := f172.other W188 (Or.inr (slot_ne (Or.inl (hw _ (List.mem_of_getElem? (i := 15) rfl))) (Or.inl (hw _ (List.mem_of_getElem? (i := 22) rfl))) (by decide) (t := (.array .byte)) (t' := .int) (by decide) (by decide)))
          have f191 := V170.other W188 pr6
          have N188 := Fr.snoc X188 N170 pr4
          have K188 : Keep h0 h188 [o0, c0] := K170.wr W188 (Or.inl (List.mem_of_getElem? (i := 0) rfl))
          have Z188 : n0 ≤ h188.size := Nat.le_trans Z170 (Nat.le_of_eq W188.size.symm)
          have f192 : Fld Z h188 o0 "com/example/kartoteka/kartoteka/index/Varints$Writer" "length" "I" (.int ((((i1 + (1 : Int32)) + (1 : Int32)) + (1 : Int32)) + (1 : Int32))) := f173.same W188
          refine Goes.step (B := (T188.setTop (mkF m 63 #[.val (.ref o0), .val (.int (own_s (own_s (own_s u1))))] [(.int (((i1 + (1 : Int32)) + (1 : Int32)) + (1 : Int32))), (.ref c0)]))) (fun _ k => st188 _ k) ?_
          refine Goes.step (B := (T188.setTop (mkF m 64 #[.val (.ref o0), .val (.int (own_s (own_s (own_s u1))))] [(.int (own_s (own_s (own_s u1)))), (.int (((i1 + (1 : Int32)) + (1 : Int32)) + (1 : Int32))), (.ref c0)]))) (fun _ k => XS.iloadN X188.here hx rfl (hb hby d_prog_43_method_4_code_63) rfl k) ?_
          refine Goes.step (B := (T188.setTop (mkF m 66 #[.val (.ref o0), .val (.int (own_s (own_s (own_s u1))))] [(.int (127 : Int32)), (.int (own_s (own_s (own_s u1)))), (.int (((i1 + (1 : Int32)) + (1 : Int32)) + (1 : Int32))), (.ref c0)]))) (fun _ k => XS.bipush X188.here hx rfl (hb hby d_prog_43_method_4_code_64) k) ?_
          refine Goes.step (B := (T188.setTop (mkF m 67 #[.val (.ref o0), .val (.int (own_s (own_s (own_s u1))))] [(.int ((own_s (own_s (own_s u1))) &&& (127 : Int32))), (.int (((i1 + (1 : Int32)) + (1 : Int32)) + (1 : Int32))), (.ref c0)]))) (fun _ k => XS.iand X188.here hx rfl (hb hby d_prog_43_method_4_code_66) rfl k) ?_
          refine Goes.step (B := (T188.setTop (mkF m 70 #[.val (.ref o0), .val (.int (own_s (own_s (own_s u1))))] [(.int (128 : Int32)), (.int ((own_s (own_s (own_s u1))) &&& (127 : Int32))), (.int (((i1 + (1 : Int32)) + (1 : Int32)) + (1 : Int32))), (.ref c0)]))) (fun _ k => XS.sipush X188.here hx rfl (hb hby d_prog_43_method_4_code_67) k) ?_
          refine Goes.step (B := (T188.setTop (mkF m 71 #[.val (.ref o0), .val (.int (own_s (own_s (own_s u1))))] [(.int (((own_s (own_s (own_s u1))) &&& (127 : Int32)) ||| (128 : Int32))), (.int (((i1 + (1 : Int32)) + (1 : Int32)) + (1 : Int32))), (.ref c0)]))) (fun _ k => XS.ior X188.here hx rfl (hb hby d_prog_43_method_4_code_70) rfl k) ?_
          refine Goes.step (B := (T188.setTop (mkF m 72 #[.val (.ref o0), .val (.int (own_s (own_s (own_s u1))))] [(.int (((own_s (own_s (own_s u1))) &&& (127 : Int32)) ||| (128 : Int32)).toInt8.toInt32), (.int (((i1 + (1 : Int32)) + (1 : Int32)) + (1 : Int32))), (.ref c0)]))) (fun _ k => XS.i2b X188.here hx rfl (hb hby d_prog_43_method_4_code_71) rfl k) ?_
          obtain ⟨cl193, Ar193, q193, S193, M193, H193, G193⟩ := id f191
          have hin193 : ¬ ((((i1 + (1 : Int32)) + (1 : Int32)) + (1 : Int32)) < 0 ∨ cl193.slots.size ≤ ((((i1 + (1 : Int32)) + (1 : Int32)) + (1 : Int32))).toNatClampNeg) := own_in S193 ai3 (by decide : (16 : Int32).toInt = 16) (by omega) (by omega)
          obtain ⟨T193, h193, X193, e193, W193, st193⟩ := stB X188 hx hZ e188 Ar193 (j := (((i1 + (1 : Int32)) + (1 : Int32)) + (1 : Int32))) hin193 (g := (mkF m 72 #[.val (.ref o0), .val (.int (own_s (own_s (own_s u1))))] [(.int (((own_s (own_s (own_s u1))) &&& (127 : Int32)) ||| (128 : Int32)).toInt8.toInt32), (.int (((i1 + (1 : Int32)) + (1 : Int32)) + (1 : Int32))), (.ref c0)])) rfl rfl (hb hby d_prog_43_method_4_code_72)
          have f194 := f189.wr W193
          have f195 := f190.other W193 (Or.inl (Ne.symm pr6))
          have f196 := f192.other W193 (Or.inl (Ne.symm pr6))
          have N193 := Fr.snoc X193 N188 pr5
          have K193 : Keep h0 h193 [o0, c0] := K188.wr W193 (Or.inl (List.mem_of_getElem? (i := 1) rfl))
          have Z193 : n0 ≤ h193.size := Nat.le_trans Z188 (Nat.le_of_eq W193.size.symm)
          have V193 : Arv Z h193 c0 k1 .byte (16 : Int32) (own_l 16 (own_up (own_up (own_up (own_up f1 i1 (own_b1 u1)) (i1 + (1 : Int32)) (own_b1 (own_s u1))) ((i1 + (1 : Int32)) + (1 : Int32)) (own_b1 (own_s (own_s u1)))) (((i1 + (1 : Int32)) + (1 : Int32)) + (1 : Int32)) (own_b1 (own_s (own_s (own_s u1)))))) (.int (0 : Int32)) := own_l_set 16 (own_up (own_up (own_up f1 i1 (own_b1 u1)) (i1 + (1 : Int32)) (own_b1 (own_s u1))) ((i1 + (1 : Int32)) + (1 : Int32)) (own_b1 (own_s (own_s u1)))) (((i1 + (1 : Int32)) + (1 : Int32)) + (1 : Int32)) (own_b1 (own_s (own_s (own_s u1)))) ▸ Arv.set Ar193 q193 S193 M193 H193 G193 (fits_nar_byte _) W193 ((((i1 + (1 : Int32)) + (1 : Int32)) + (1 : Int32))).toNatClampNeg rfl (by rw [own_l_len]; exact own_cl ai3 (by decide : (16 : Int32).toInt = 16) (by omega) (by omega))
          refine Goes.step (B := (T193.setTop (mkF m 73 #[.val (.ref o0), .val (.int (own_s (own_s (own_s u1))))] []))) (fun _ k => st193 _ k) ?_
          refine Goes.step (B := (T193.setTop (mkF m 74 #[.val (.ref o0), .val (.int (own_s (own_s (own_s u1))))] [(.int (own_s (own_s (own_s u1))))]))) (fun _ k => XS.iloadN X193.here hx rfl (hb hby d_prog_43_method_4_code_73) rfl k) ?_
          refine Goes.step (B := (T193.setTop (mkF m 76 #[.val (.ref o0), .val (.int (own_s (own_s (own_s u1))))] [(.int (7 : Int32)), (.int (own_s (own_s (own_s u1))))]))) (fun _ k => XS.bipush X193.here hx rfl (hb hby d_prog_43_method_4_code_74) k) ?_
          refine Goes.step (B := (T193.setTop (mkF m 77 #[.val (.ref o0), .val (.int (own_s (own_s (own_s u1))))] [(.int ((own_s (own_s (own_s u1))).toUInt32 >>> ((7 : Int32) &&& 31).toUInt32).toInt32)]))) (fun _ k => XS.iushr X193.here hx rfl (hb hby d_prog_43_method_4_code_76) rfl k) ?_
          refine Goes.step (B := (T193.setTop (mkF m 78 #[.val (.ref o0), .val (.int (own_s (own_s (own_s (own_s u1)))))] []))) (fun _ k => XS.istoreN X193.here hx rfl (hb hby d_prog_43_method_4_code_77) rfl (l' := #[.val (.ref o0), .val (.int (own_s (own_s (own_s (own_s u1)))))]) rfl k) ?_
          refine Goes.step (B := (T193.setTop (mkF m 41 #[.val (.ref o0), .val (.int (own_s (own_s (own_s (own_s u1)))))] []))) (fun _ k => XS.goto X193.here hx rfl (pc0 := 78) (pc' := 41) rfl (hb hby d_prog_43_method_4_code_78) (by decide) (by decide) k) ?_
          refine Goes.step (B := (T193.setTop (mkF m 42 #[.val (.ref o0), .val (.int (own_s (own_s (own_s (own_s u1)))))] [(.int (own_s (own_s (own_s (own_s u1)))))]))) (fun _ k => XS.iloadN X193.here hx rfl (hb hby d_prog_43_method_4_code_41) rfl k) ?_
          refine Goes.step (B := (T193.setTop (mkF m 44 #[.val (.ref o0), .val (.int (own_s (own_s (own_s (own_s u1)))))] [(.int (-128 : Int32)), (.int (own_s (own_s (own_s (own_s u1)))))]))) (fun _ k => XS.bipush X193.here hx rfl (hb hby d_prog_43_method_4_code_42) k) ?_
          refine Goes.step (B := (T193.setTop (mkF m 45 #[.val (.ref o0), .val (.int (own_s (own_s (own_s (own_s u1)))))] [(.int ((own_s (own_s (own_s (own_s u1)))) &&& (-128 : Int32)))]))) (fun _ k => XS.iand X193.here hx rfl (hb hby d_prog_43_method_4_code_44) rfl k) ?_
          have hc197 : ((own_s (own_s (own_s (own_s u1)))) &&& (-128 : Int32)) = (0 : Int32) := own_s4 u1
          refine Goes.step (B := (T193.setTop (mkF m 81 #[.val (.ref o0), .val (.int (own_s (own_s (own_s (own_s u1)))))] []))) (fun _ k => XS.ifYes X193.here hx rfl (pc0 := 45) (pc' := 81) rfl (hb hby d_prog_43_method_4_code_45) rfl ((if0 _ _).trans (teq hc197).1) (by decide) (by decide) k) ?_
          refine Goes.step (B := (T193.setTop (mkF m 82 #[.val (.ref o0), .val (.int (own_s (own_s (own_s (own_s u1)))))] [(.ref o0)]))) (fun _ k => XS.aloadN X193.here hx rfl (hb hby d_prog_43_method_4_code_81) rfl rfl k) ?_
          obtain ⟨T198, X198, e198, st198⟩ := getF X193 hx hZ hown (host := "") (Or.inl (hw _ (List.mem_of_getElem? (i := 14) rfl))) Via.refl e193 f195 (g := (mkF m 82 #[.val (.ref o0), .val (.int (own_s (own_s (own_s (own_s u1)))))] [(.ref o0)])) rfl rfl (hb hby d_prog_43_method_4_code_82)
          refine Goes.step (B := (T198.setTop (mkF m 85 #[.val (.ref o0), .val (.int (own_s (own_s (own_s (own_s u1)))))] [(.ref c0)]))) (fun _ k => st198 _ k) ?_
          refine Goes.step (B := (T198.setTop (mkF m 86 #[.val (.ref o0), .val (.int (own_s (own_s (own_s (own_s u1)))))] [(.ref o0), (.ref c0)]))) (fun _ k => XS.aloadN X198.here hx rfl (hb hby d_prog_43_method_4_code_85) rfl rfl k) ?_
          refine Goes.step (B := (T198.setTop (mkF m 87 #[.val (.ref o0), .val (.int (own_s (own_s (own_s (own_s u1)))))] [(.ref o0), (.ref o0), (.ref c0)]))) (fun _ k => XS.dup X198.here hx rfl (hb hby d_prog_43_method_4_code_86) rfl rfl k) ?_
          obtain ⟨T199, X199, e199, st199⟩ := getF X198 hx hZ hown (host := "") (Or.inl (hw _ (List.mem_of_getElem? (i := 21) rfl))) Via.refl e198 f196 (g := (mkF m 87 #[.val (.ref o0), .val (.int (own_s (own_s (own_s (own_s u1)))))] [(.ref o0), (.ref o0), (.ref c0)])) rfl rfl (hb hby d_prog_43_method_4_code_87)
          refine Goes.step (B := (T199.setTop (mkF m 90 #[.val (.ref o0), .val (.int (own_s (own_s (own_s (own_s u1)))))] [(.int ((((i1 + (1 : Int32)) + (1 : Int32)) + (1 : Int32)) + (1 : Int32))), (.ref o0), (.ref c0)]))) (fun _ k => st199 _ k) ?_
          refine Goes.step (B := (T199.setTop (mkF m 91 #[.val (.ref o0), .val (.int (own_s (own_s (own_s (own_s u1)))))] [(.int ((((i1 + (1 : Int32)) + (1 : Int32)) + (1 : Int32)) + (1 : Int32))), (.ref o0), (.int ((((i1 + (1 : Int32)) + (1 : Int32)) + (1 : Int32)) + (1 : Int32))), (.ref c0)]))) (fun _ k => XS.dupX1 X199.here hx rfl (hb hby d_prog_43_method_4_code_90) rfl rfl rfl k) ?_
          refine Goes.step (B := (T199.setTop (mkF m 92 #[.val (.ref o0), .val (.int (own_s (own_s (own_s (own_s u1)))))] [(.int (1 : Int32)), (.int ((((i1 + (1 : Int32)) + (1 : Int32)) + (1 : Int32)) + (1 : Int32))), (.ref o0), (.int ((((i1 + (1 : Int32)) + (1 : Int32)) + (1 : Int32)) + (1 : Int32))), (.ref c0)]))) (fun _ k => XS.iconst X199.here hx rfl (hb hby d_prog_43_method_4_code_91) k) ?_
          refine Goes.step (B := (T199.setTop (mkF m 93 #[.val (.ref o0), .val (.int (own_s (own_s (own_s (own_s u1)))))] [(.int (((((i1 + (1 : Int32)) + (1 : Int32)) + (1 : Int32)) + (1 : Int32)) + (1 : Int32))), (.ref o0), (.int ((((i1 + (1 : Int32)) + (1 : Int32)) + (1 : Int32)) + (1 : Int32))), (.ref c0)]))) (fun _ k => XS.iadd X199.here hx rfl (hb hby d_prog_43_method_4_code_92) rfl k) ?_
          obtain ⟨T200, h200, X200, e200, W200, st200⟩ := putF X199 hx hZ hown (host := "") (Or.inl (hw _ (List.mem_of_getElem? (i := 21) rfl))) Via.refl e199 f196 f194 (Or.inl (hw _ (List.mem_of_getElem? (i := 22) rfl))) (hw _ (List.mem_of_getElem? (i := 2) rfl)) (ty := .int) (by decide) rfl rfl (g := (mkF m 93 #[.val (.ref o0), .val (.int (own_s (own_s (own_s (own_s u1)))))] [(.int (((((i1 + (1 : Int32)) + (1 : Int32)) + (1 : Int32)) + (1 : Int32)) + (1 : Int32))), (.ref o0), (.int ((((i1 + (1 : Int32)) + (1 : Int32)) + (1 : Int32)) + (1 : Int32))), (.ref c0)])) rfl rfl (hb hby d_prog_43_method_4_code_93)
          have f201 := f194.wr W200
          have f202 := f195.other W200 (Or.inr (slot_ne (Or.inl (hw _ (List.mem_of_getElem? (i := 15) rfl))) (Or.inl (hw _ (List.mem_of_getElem? (i := 22) rfl))) (by decide) (t := (.array .byte)) (t' := .int) (by decide) (by decide)))
          have f203 := V193.other W200 pr6
          have N200 := Fr.snoc X200 N193 pr4
          have K200 : Keep h0 h200 [o0, c0] := K193.wr W200 (Or.inl (List.mem_of_getElem? (i := 0) rfl))
          have Z200 : n0 ≤ h200.size := Nat.le_trans Z193 (Nat.le_of_eq W200.size.symm)
          have f204 : Fld Z h200 o0 "com/example/kartoteka/kartoteka/index/Varints$Writer" "length" "I" (.int (((((i1 + (1 : Int32)) + (1 : Int32)) + (1 : Int32)) + (1 : Int32)) + (1 : Int32))) := f196.same W200
          refine Goes.step (B := (T200.setTop (mkF m 96 #[.val (.ref o0), .val (.int (own_s (own_s (own_s (own_s u1)))))] [(.int ((((i1 + (1 : Int32)) + (1 : Int32)) + (1 : Int32)) + (1 : Int32))), (.ref c0)]))) (fun _ k => st200 _ k) ?_
          refine Goes.step (B := (T200.setTop (mkF m 97 #[.val (.ref o0), .val (.int (own_s (own_s (own_s (own_s u1)))))] [(.int (own_s (own_s (own_s (own_s u1))))), (.int ((((i1 + (1 : Int32)) + (1 : Int32)) + (1 : Int32)) + (1 : Int32))), (.ref c0)]))) (fun _ k => XS.iloadN X200.here hx rfl (hb hby d_prog_43_method_4_code_96) rfl k) ?_
          refine Goes.step (B := (T200.setTop (mkF m 98 #[.val (.ref o0), .val (.int (own_s (own_s (own_s (own_s u1)))))] [(.int (own_s (own_s (own_s (own_s u1)))).toInt8.toInt32), (.int ((((i1 + (1 : Int32)) + (1 : Int32)) + (1 : Int32)) + (1 : Int32))), (.ref c0)]))) (fun _ k => XS.i2b X200.here hx rfl (hb hby d_prog_43_method_4_code_97) rfl k) ?_
          obtain ⟨cl205, Ar205, q205, S205, M205, H205, G205⟩ := id f203
          have hin205 : ¬ (((((i1 + (1 : Int32)) + (1 : Int32)) + (1 : Int32)) + (1 : Int32)) < 0 ∨ cl205.slots.size ≤ (((((i1 + (1 : Int32)) + (1 : Int32)) + (1 : Int32)) + (1 : Int32))).toNatClampNeg) := own_in S205 ai4 (by decide : (16 : Int32).toInt = 16) (by omega) (by omega)
          obtain ⟨T205, h205, X205, e205, W205, st205⟩ := stB X200 hx hZ e200 Ar205 (j := ((((i1 + (1 : Int32)) + (1 : Int32)) + (1 : Int32)) + (1 : Int32))) hin205 (g := (mkF m 98 #[.val (.ref o0), .val (.int (own_s (own_s (own_s (own_s u1)))))] [(.int (own_s (own_s (own_s (own_s u1)))).toInt8.toInt32), (.int ((((i1 + (1 : Int32)) + (1 : Int32)) + (1 : Int32)) + (1 : Int32))), (.ref c0)])) rfl rfl (hb hby d_prog_43_method_4_code_98)
          have f206 := f201.wr W205
          have f207 := f202.other W205 (Or.inl (Ne.symm pr6))
          have f208 := f204.other W205 (Or.inl (Ne.symm pr6))
          have N205 := Fr.snoc X205 N200 pr5
          have K205 : Keep h0 h205 [o0, c0] := K200.wr W205 (Or.inl (List.mem_of_getElem? (i := 1) rfl))
          have Z205 : n0 ≤ h205.size := Nat.le_trans Z200 (Nat.le_of_eq W205.size.symm)
          have V205 : Arv Z h205 c0 k1 .byte (16 : Int32) (own_l 16 (own_up (own_up (own_up (own_up (own_up f1 i1 (own_b1 u1)) (i1 + (1 : Int32)) (own_b1 (own_s u1))) ((i1 + (1 : Int32)) + (1 : Int32)) (own_b1 (own_s (own_s u1)))) (((i1 + (1 : Int32)) + (1 : Int32)) + (1 : Int32)) (own_b1 (own_s (own_s (own_s u1))))) ((((i1 + (1 : Int32)) + (1 : Int32)) + (1 : Int32)) + (1 : Int32)) (own_b0 (own_s (own_s (own_s (own_s u1))))))) (.int (0 : Int32)) := own_l_set 16 (own_up (own_up (own_up (own_up f1 i1 (own_b1 u1)) (i1 + (1 : Int32)) (own_b1 (own_s u1))) ((i1 + (1 : Int32)) + (1 : Int32)) (own_b1 (own_s (own_s u1)))) (((i1 + (1 : Int32)) + (1 : Int32)) + (1 : Int32)) (own_b1 (own_s (own_s (own_s u1))))) ((((i1 + (1 : Int32)) + (1 : Int32)) + (1 : Int32)) + (1 : Int32)) (own_b0 (own_s (own_s (own_s (own_s u1))))) ▸ Arv.set Ar205 q205 S205 M205 H205 G205 (fits_nar_byte _) W205 (((((i1 + (1 : Int32)) + (1 : Int32)) + (1 : Int32)) + (1 : Int32))).toNatClampNeg rfl (by rw [own_l_len]; exact own_cl ai4 (by decide : (16 : Int32).toInt = 16) (by omega) (by omega))
          refine Goes.step (B := (T205.setTop (mkF m 99 #[.val (.ref o0), .val (.int (own_s (own_s (own_s (own_s u1)))))] []))) (fun _ k => st205 _ k) ?_
          refine Goes.retV X205 hx hlk hrt (hb hby d_prog_43_method_4_code_99) ?_ (by decide) (by decide)
          rw [e205]
          have ew : own_w 4 f1 i1 u1 = (own_up (own_up (own_up (own_up (own_up f1 i1 (own_b1 u1)) (i1 + (1 : Int32)) (own_b1 (own_s u1))) ((i1 + (1 : Int32)) + (1 : Int32)) (own_b1 (own_s (own_s u1)))) (((i1 + (1 : Int32)) + (1 : Int32)) + (1 : Int32)) (own_b1 (own_s (own_s (own_s u1))))) ((((i1 + (1 : Int32)) + (1 : Int32)) + (1 : Int32)) + (1 : Int32)) (own_b0 (own_s (own_s (own_s (own_s u1)))))) := by simp only [own_w, if_neg hc105, if_neg hc128, if_neg hc151, if_neg hc174, if_pos hc197]
          have en : own_n 4 i1 u1 = (((((i1 + (1 : Int32)) + (1 : Int32)) + (1 : Int32)) + (1 : Int32)) + (1 : Int32)) := by simp only [own_n, if_neg hc105, if_neg hc128, if_neg hc151, if_neg hc174, if_pos hc197]
          rw [← ew] at V205
          rw [← en] at f208
          exact ⟨rfl, N205, K205, f206, f207, f208, V205⟩
theorem own_minv {u1 : Int32} (hu1 : u1 < (16 : Int32)) : own_min_fn (16 : Int32) u1 = u1 := by rw [own_min_fn, if_pos hu1]
theorem own_rng {u1 : Int32} (hu0 : ¬ u1 < (0 : Int32)) (hu1 : u1 < (16 : Int32)) : 0 ≤ u1.toInt ∧ u1.toInt < 16 := by
  rw [Int32.lt_iff_toInt_lt] at hu0 hu1
  have k : (0 : Int32).toInt = 0 := by decide
  have k2 : (16 : Int32).toInt = 16 := by decide
  omega
theorem own_cap {u1 : Int32} (hu0 : ¬ u1 < (0 : Int32)) (hu1 : u1 < (16 : Int32)) : u1.toNatClampNeg ≤ 16 := by
  have h := own_rng hu0 hu1
  have e := own_clamp (i := u1) rfl h.1
  omega
theorem own_cp4 {u1 : Int32} (hu0 : ¬ u1 < (0 : Int32)) (hu1 : u1 < (16 : Int32)) : (0 : Int32).toNatClampNeg + u1.toNatClampNeg ≤ (16 : Int32).toNatClampNeg := by
  have h := own_cap hu0 hu1
  have k : (0 : Int32).toNatClampNeg = 0 := by decide
  have k2 : (16 : Int32).toNatClampNeg = 16 := by decide
  omega
theorem own_ne16 {u1 : Int32} (hu1 : u1 < (16 : Int32)) : ¬ (u1 = (16 : Int32)) := fun q => by
  subst q; exact absurd hu1 (by decide)
theorem own_padz (n : Nat) : ∀ i, (own_l n own_zero).getD i (.int (0 : Int32)) = ([] : List Value).getD i (.int (0 : Int32)) := fun i => by
  simp only [List.getD_eq_getElem?_getD, own_l, own_zero]
  by_cases q : i < n
  · simp [q]
  · simp [Nat.not_lt.mp q]
theorem own_cpl (f1 : Nat → Int32) (u1 : Int32) (hu1 : u1 < (16 : Int32)) :
    (own_l u1.toNatClampNeg own_zero).take (0 : Int32).toNatClampNeg ++ ((List.range u1.toNatClampNeg).map fun i => (own_l 16 f1).getD ((0 : Int32).toNatClampNeg + i) (.int (0 : Int32))) ++ (own_l u1.toNatClampNeg own_zero).drop ((0 : Int32).toNatClampNeg + u1.toNatClampNeg) = own_l u1.toNatClampNeg f1 := by
  have k : (0 : Int32).toNatClampNeg = 0 := by decide
  have hb : u1.toNatClampNeg ≤ 16 := by
    by_cases q : u1 < (0 : Int32)
    · rw [Int32.lt_iff_toInt_lt] at q
      have k0 : (0 : Int32).toInt = 0 := by decide
      simp only [Int32.toNatClampNeg]; omega
    · exact own_cap q hu1
  rw [k, List.take_zero, List.nil_append, Nat.zero_add, List.drop_of_length_le (by rw [own_l_len]; exact Nat.le_refl _), List.append_nil]
  refine List.map_congr_left fun i hi => ?_
  rw [Nat.zero_add, own_l_get f1 _ (Nat.lt_of_lt_of_le (List.mem_range.mp hi) hb)]
theorem own_m (x : Int32) : (x &&& (127 : Int32)).toInt = x.toInt % 128 := by
  have := c_mask x 127 7 (by decide) (by decide)
  rw [this]; rfl
theorem own_st0 {acc v u : Int32} (h0 : 0 ≤ acc.toInt) (h1 : acc.toInt < 1) (hU : acc.toInt + (v.toInt % 4294967296) * 1 = u.toInt % 4294967296) :
    0 ≤ (acc ||| ((v &&& (127 : Int32)) <<< ((0 : Int32) &&& 31))).toInt ∧ (acc ||| ((v &&& (127 : Int32)) <<< ((0 : Int32) &&& 31))).toInt < 128 ∧ (acc ||| ((v &&& (127 : Int32)) <<< ((0 : Int32) &&& 31))).toInt + ((own_s v).toInt % 4294967296) * 128 = u.toInt % 4294967296 := by
  have a := own_sv v
  have c := own_acc (acc := acc) (x := v &&& (127 : Int32)) (0 : Int32) 0 1 (by decide) (by decide) (by decide) rfl (own_m v) h0 h1
  have q := rng32 (acc ||| ((v &&& (127 : Int32)) <<< ((0 : Int32) &&& 31)))
  generalize (acc ||| ((v &&& (127 : Int32)) <<< ((0 : Int32) &&& 31))).toInt = w at c q ⊢
  generalize (own_s v).toInt = y at a ⊢
  generalize acc.toInt = z at h0 h1 hU c
  generalize v.toInt = t at hU a c
  generalize u.toInt = g at hU ⊢
  omega
theorem own_fi0 {acc v u : Int32} (h0 : 0 ≤ acc.toInt) (h1 : acc.toInt < 1) (hU : acc.toInt + (v.toInt % 4294967296) * 1 = u.toInt % 4294967296) (h : (v &&& (-128 : Int32)) = (0 : Int32)) :
    (acc ||| (v <<< ((0 : Int32) &&& 31))) = u := by
  have a := own_small h
  have c := own_acc (acc := acc) (x := v) (0 : Int32) 0 1 (by decide) (by decide) (by decide) rfl rfl h0 h1
  have q := rng32 (acc ||| (v <<< ((0 : Int32) &&& 31)))
  have r := rng32 u
  apply Int32.toInt_inj.mp
  generalize (acc ||| (v <<< ((0 : Int32) &&& 31))).toInt = w at c q ⊢
  generalize acc.toInt = z at h0 h1 hU c
  generalize v.toInt = t at hU a c
  generalize u.toInt = g at hU r ⊢
  omega
theorem own_st1 {acc v u : Int32} (h0 : 0 ≤ acc.toInt) (h1 : acc.toInt < 128) (hU : acc.toInt + (v.toInt % 4294967296) * 128 = u.toInt % 4294967296) :
    0 ≤ (acc ||| ((v &&& (127 : Int32)) <<< ((7 : Int32) &&& 31))).toInt ∧ (acc ||| ((v &&& (127 : Int32)) <<< ((7 : Int32) &&& 31))).toInt < 16384 ∧ (acc ||| ((v &&& (127 : Int32)) <<< ((7 : Int32) &&& 31))).toInt + ((own_s v).toInt % 4294967296) * 16384 = u.toInt % 4294967296 := by
  have a := own_sv v
  have c := own_acc (acc := acc) (x := v &&& (127 : Int32)) (7 : Int32) 7 128 (by decide) (by decide) (by decide) rfl (own_m v) h0 h1
  have q := rng32 (acc ||| ((v &&& (127 : Int32)) <<< ((7 : Int32) &&& 31)))
  generalize (acc ||| ((v &&& (127 : Int32)) <<< ((7 : Int32) &&& 31))).toInt = w at c q ⊢
  generalize (own_s v).toInt = y at a ⊢
  generalize acc.toInt = z at h0 h1 hU c
  generalize v.toInt = t at hU a c
  generalize u.toInt = g at hU ⊢
  omega
theorem own_fi1 {acc v u : Int32} (h0 : 0 ≤ acc.toInt) (h1 : acc.toInt < 128) (hU : acc.toInt + (v.toInt % 4294967296) * 128 = u.toInt % 4294967296) (h : (v &&& (-128 : Int32)) = (0 : Int32)) :
    (acc ||| (v <<< ((7 : Int32) &&& 31))) = u := by
  have a := own_small h
  have c := own_acc (acc := acc) (x := v) (7 : Int32) 7 128 (by decide) (by decide) (by decide) rfl rfl h0 h1
  have q := rng32 (acc ||| (v <<< ((7 : Int32) &&& 31)))
  have r := rng32 u
  apply Int32.toInt_inj.mp
  generalize (acc ||| (v <<< ((7 : Int32) &&& 31))).toInt = w at c q ⊢
  generalize acc.toInt = z at h0 h1 hU c
  generalize v.toInt = t at hU a c
  generalize u.toInt = g at hU r ⊢
  omega
theorem own_st2 {acc v u : Int32} (h0 : 0 ≤ acc.toInt) (h1 : acc.toInt < 16384) (hU : acc.toInt + (v.toInt % 4294967296) * 16384 = u.toInt % 4294967296) :
    0 ≤ (acc ||| ((v &&& (127 : Int32)) <<< ((14 : Int32) &&& 31))).toInt ∧ (acc ||| ((v &&& (127 : Int32)) <<< ((14 : Int32) &&& 31))).toInt < 2097152 ∧ (acc ||| ((v &&& (127 : Int32)) <<< ((14 : Int32) &&& 31))).toInt + ((own_s v).toInt % 4294967296) * 2097152 = u.toInt % 4294967296 := by
  have a := own_sv v
  have c := own_acc (acc := acc) (x := v &&& (127 : Int32)) (14 : Int32) 14 16384 (by decide) (by decide) (by decide) rfl (own_m v) h0 h1
  have q := rng32 (acc ||| ((v &&& (127 : Int32)) <<< ((14 : Int32) &&& 31)))
  generalize (acc ||| ((v &&& (127 : Int32)) <<< ((14 : Int32) &&& 31))).toInt = w at c q ⊢
  generalize (own_s v).toInt = y at a ⊢
  generalize acc.toInt = z at h0 h1 hU c
  generalize v.toInt = t at hU a c
  generalize u.toInt = g at hU ⊢
  omega
theorem own_fi2 {acc v u : Int32} (h0 : 0 ≤ acc.toInt) (h1 : acc.toInt < 16384) (hU : acc.toInt + (v.toInt % 4294967296) * 16384 = u.toInt % 4294967296) (h : (v &&& (-128 : Int32)) = (0 : Int32)) :
    (acc ||| (v <<< ((14 : Int32) &&& 31))) = u := by
  have a := own_small h
  have c := own_acc (acc := acc) (x := v) (14 : Int32) 14 16384 (by decide) (by decide) (by decide) rfl rfl h0 h1
  have q := rng32 (acc ||| (v <<< ((14 : Int32) &&& 31)))
  have r := rng32 u
  apply Int32.toInt_inj.mp
  generalize (acc ||| (v <<< ((14 : Int32) &&& 31))).toInt = w at c q ⊢
  generalize acc.toInt = z at h0 h1 hU c
  generalize v.toInt = t at hU a c
  generalize u.toInt = g at hU r ⊢
  omega
theorem own_st3 {acc v u : Int32} (h0 : 0 ≤ acc.toInt) (h1 : acc.toInt < 2097152) (hU : acc.toInt + (v.toInt % 4294967296) * 2097152 = u.toInt % 4294967296) :
    0 ≤ (acc ||| ((v &&& (127 : Int32)) <<< ((21 : Int32) &&& 31))).toInt ∧ (acc ||| ((v &&& (127 : Int32)) <<< ((21 : Int32) &&& 31))).toInt < 268435456 ∧ (acc ||| ((v &&& (127 : Int32)) <<< ((21 : Int32) &&& 31))).toInt + ((own_s v).toInt % 4294967296) * 268435456 = u.toInt % 4294967296 := by
  have a := own_sv v
  have c := own_acc (acc := acc) (x := v &&& (127 : Int32)) (21 : Int32) 21 2097152 (by decide) (by decide) (by decide) rfl (own_m v) h0 h1
  have q := rng32 (acc ||| ((v &&& (127 : Int32)) <<< ((21 : Int32) &&& 31)))
  generalize (acc ||| ((v &&& (127 : Int32)) <<< ((21 : Int32) &&& 31))).toInt = w at c q ⊢
  generalize (own_s v).toInt = y at a ⊢
  generalize acc.toInt = z at h0 h1 hU c
  generalize v.toInt = t at hU a c
  generalize u.toInt = g at hU ⊢
  omega
theorem own_fi3 {acc v u : Int32} (h0 : 0 ≤ acc.toInt) (h1 : acc.toInt < 2097152) (hU : acc.toInt + (v.toInt % 4294967296) * 2097152 = u.toInt % 4294967296) (h : (v &&& (-128 : Int32)) = (0 : Int32)) :
    (acc ||| (v <<< ((21 : Int32) &&& 31))) = u := by
  have a := own_small h
  have c := own_acc (acc := acc) (x := v) (21 : Int32) 21 2097152 (by decide) (by decide) (by decide) rfl rfl h0 h1
  have q := rng32 (acc ||| (v <<< ((21 : Int32) &&& 31)))
  have r := rng32 u
  apply Int32.toInt_inj.mp
  generalize (acc ||| (v <<< ((21 : Int32) &&& 31))).toInt = w at c q ⊢
  generalize acc.toInt = z at h0 h1 hU c
  generalize v.toInt = t at hU a c
  generalize u.toInt = g at hU r ⊢
  omega
theorem own_fi4 {acc v u : Int32} (h0 : 0 ≤ acc.toInt) (h1 : acc.toInt < 268435456) (hU : acc.toInt + (v.toInt % 4294967296) * 268435456 = u.toInt % 4294967296) (h : (v &&& (-128 : Int32)) = (0 : Int32)) :
    (acc ||| (v <<< ((28 : Int32) &&& 31))) = u := by
  have a := own_small h
  have c := own_acc (acc := acc) (x := v) (28 : Int32) 28 268435456 (by decide) (by decide) (by decide) rfl rfl h0 h1
  have q := rng32 (acc ||| (v <<< ((28 : Int32) &&& 31)))
  have r := rng32 u
  apply Int32.toInt_inj.mp
  generalize (acc ||| (v <<< ((28 : Int32) &&& 31))).toInt = w at c q ⊢
  generalize acc.toInt = z at h0 h1 hU c
  generalize v.toInt = t at hU a c
  generalize u.toInt = g at hU r ⊢
  omega
theorem own_acc1 (u : Int32) (h : (u &&& (-128 : Int32)) = (0 : Int32)) : ((0 : Int32) ||| ((own_b0 u &&& (127 : Int32)) <<< ((0 : Int32) &&& 31))) = u := by
  have d : (0 : Int32).toInt = 0 := by decide
  simp only [own_b1v, own_b0v h]
  exact own_fi0 (acc := (0 : Int32)) (h0 := by omega) (h1 := by omega) (hU := by omega) h
theorem own_acc2 (u : Int32) (h : ((own_s u) &&& (-128 : Int32)) = (0 : Int32)) : (((0 : Int32) ||| ((own_b1 u &&& (127 : Int32)) <<< ((0 : Int32) &&& 31))) ||| ((own_b0 (own_s u) &&& (127 : Int32)) <<< ((7 : Int32) &&& 31))) = u := by
  have d : (0 : Int32).toInt = 0 := by decide
  simp only [own_b1v, own_b0v h]
  have t0 := own_st0 (v := u) (u := u) (acc := (0 : Int32)) (h0 := by omega) (h1 := by omega) (hU := by omega)
  exact own_fi1 t0.1 t0.2.1 t0.2.2 h
theorem own_acc3 (u : Int32) (h : ((own_s (own_s u)) &&& (-128 : Int32)) = (0 : Int32)) : ((((0 : Int32) ||| ((own_b1 u &&& (127 : Int32)) <<< ((0 : Int32) &&& 31))) ||| ((own_b1 (own_s u) &&& (127 : Int32)) <<< ((7 : Int32) &&& 31))) ||| ((own_b0 (own_s (own_s u)) &&& (127 : Int32)) <<< ((14 : Int32) &&& 31))) = u := by
  have d : (0 : Int32).toInt = 0 := by decide
  simp only [own_b1v, own_b0v h]
  have t0 := own_st0 (v := u) (u := u) (acc := (0 : Int32)) (h0 := by omega) (h1 := by omega) (hU := by omega)
  have t1 := own_st1 (v := (own_s u)) (u := u) t0.1 t0.2.1 t0.2.2
  exact own_fi2 t1.1 t1.2.1 t1.2.2 h
theorem own_acc4 (u : Int32) (h : ((own_s (own_s (own_s u))) &&& (-128 : Int32)) = (0 : Int32)) : (((((0 : Int32) ||| ((own_b1 u &&& (127 : Int32)) <<< ((0 : Int32) &&& 31))) ||| ((own_b1 (own_s u) &&& (127 : Int32)) <<< ((7 : Int32) &&& 31))) ||| ((own_b1 (own_s (own_s u)) &&& (127 : Int32)) <<< ((14 : Int32) &&& 31))) ||| ((own_b0 (own_s (own_s (own_s u))) &&& (127 : Int32)) <<< ((21 : Int32) &&& 31))) = u := by
  have d : (0 : Int32).toInt = 0 := by decide
  simp only [own_b1v, own_b0v h]
  have t0 := own_st0 (v := u) (u := u) (acc := (0 : Int32)) (h0 := by omega) (h1 := by omega) (hU := by omega)
  have t1 := own_st1 (v := (own_s u)) (u := u) t0.1 t0.2.1 t0.2.2
  have t2 := own_st2 (v := (own_s (own_s u))) (u := u) t1.1 t1.2.1 t1.2.2
  exact own_fi3 t2.1 t2.2.1 t2.2.2 h
theorem own_acc5 (u : Int32) (h : ((own_s (own_s (own_s (own_s u)))) &&& (-128 : Int32)) = (0 : Int32)) : ((((((0 : Int32) ||| ((own_b1 u &&& (127 : Int32)) <<< ((0 : Int32) &&& 31))) ||| ((own_b1 (own_s u) &&& (127 : Int32)) <<< ((7 : Int32) &&& 31))) ||| ((own_b1 (own_s (own_s u)) &&& (127 : Int32)) <<< ((14 : Int32) &&& 31))) ||| ((own_b1 (own_s (own_s (own_s u))) &&& (127 : Int32)) <<< ((21 : Int32) &&& 31))) ||| ((own_b0 (own_s (own_s (own_s (own_s u)))) &&& (127 : Int32)) <<< ((28 : Int32) &&& 31))) = u := by
  have d : (0 : Int32).toInt = 0 := by decide
  simp only [own_b1v, own_b0v h]
  have t0 := own_st0 (v := u) (u := u) (acc := (0 : Int32)) (h0 := by omega) (h1 := by omega) (hU := by omega)
  have t1 := own_st1 (v := (own_s u)) (u := u) t0.1 t0.2.1 t0.2.2
  have t2 := own_st2 (v := (own_s (own_s u))) (u := u) t1.1 t1.2.1 t1.2.2
  have t3 := own_st3 (v := (own_s (own_s (own_s u)))) (u := u) t2.1 t2.2.1 t2.2.2
  exact own_fi4 t3.1 t3.2.1 t3.2.2 h

theorem d_jdk_65_method_121_code_0 : decode jdk_65_method_121_code 0 = .ok (.iload_n 1, 1) := by decide +kernel
theorem d_jdk_65_method_121_code_1 : decode jdk_65_method_121_code 1 = .ok (.aload_n 0, 1) := by decide +kernel
theorem d_jdk_65_method_121_code_2 : decode jdk_65_method_121_code 2 = .ok (.arraylength, 1) := by decide +kernel
theorem d_jdk_65_method_121_code_3 : decode jdk_65_method_121_code 3 = .ok (.if_icmp .ne 11, 3) := by decide +kernel
theorem d_jdk_65_method_121_code_14 : decode jdk_65_method_121_code 14 = .ok (.iload_n 1, 1) := by decide +kernel
theorem d_jdk_65_method_121_code_15 : decode jdk_65_method_121_code 15 = .ok (.newarray .byte, 2) := by decide +kernel
theorem d_jdk_65_method_121_code_17 : decode jdk_65_method_121_code 17 = .ok (.astore_n 2, 1) := by decide +kernel
theorem d_jdk_65_method_121_code_18 : decode jdk_65_method_121_code 18 = .ok (.aload_n 0, 1) := by decide +kernel
theorem d_jdk_65_method_121_code_19 : decode jdk_65_method_121_code 19 = .ok (.iconst 0, 1) := by decide +kernel
theorem d_jdk_65_method_121_code_20 : decode jdk_65_method_121_code 20 = .ok (.aload_n 2, 1) := by decide +kernel
theorem d_jdk_65_method_121_code_21 : decode jdk_65_method_121_code 21 = .ok (.iconst 0, 1) := by decide +kernel
theorem d_jdk_65_method_121_code_22 : decode jdk_65_method_121_code 22 = .ok (.aload_n 0, 1) := by decide +kernel
theorem d_jdk_65_method_121_code_23 : decode jdk_65_method_121_code 23 = .ok (.arraylength, 1) := by decide +kernel
theorem d_jdk_65_method_121_code_24 : decode jdk_65_method_121_code 24 = .ok (.iload_n 1, 1) := by decide +kernel
theorem d_jdk_65_method_121_code_25 : decode jdk_65_method_121_code 25 = .ok (.invokestatic 304, 3) := by decide +kernel
theorem pd__II_I : parseMethodDescriptor "(II)I" = some ⟨[.int, .int], some .int⟩ := by decide +kernel
theorem d_jdk_65_method_121_code_28 : decode jdk_65_method_121_code 28 = .ok (.invokestatic 150, 3) := by decide +kernel
theorem d_jdk_65_method_121_code_31 : decode jdk_65_method_121_code 31 = .ok (.aload_n 2, 1) := by decide +kernel
theorem d_jdk_65_method_121_code_32 : decode jdk_65_method_121_code 32 = .ok (.areturn, 1) := by decide +kernel
def own_co_Q (Z : State) (c0 : Addr) (u1 : Int32) (k1 : ClassId) (f1 : Nat → Int32) (h0 : Heap) (n0 : Nat) (v : Option Value) (h : Heap) (L : List Loc) : Prop := ∃ (b : Addr), ∃ (k2 : ClassId), (v = some (.ref b)) ∧ (Fr n0 L) ∧ (Keep h0 h []) ∧ (n0 ≤ b) ∧ (h0.size ≤ b) ∧ (Arv Z h b k2 .byte u1 (own_l u1.toNatClampNeg f1) (.int (0 : Int32)))
theorem own_co_ef (m : MethodId) (c0 : Addr) (u1 : Int32) : entryFrame m #[(.ref c0), (.int u1)] 3 = mkF m 0 #[.val (.ref c0), .val (.int u1), .unset] [] := by first | (simp [entryFrame, mkF, argsToLocals, Value.category]; done) | rfl
theorem pn_Arrays : plainName "java/util/Arrays" = true := by first | (simp [plainName, overriddenIn]; done) | decide +kernel
set_option maxRecDepth 65536 in
set_option maxHeartbeats 40000000 in
theorem own_co_rm (l : Launch) (Z : State) (a0 : Array Value) (hw : ∀ d ∈ tables_1, d.before a0 Z = true) (ws : List Jvm.Cond) (c0 : Addr) (u1 : Int32) (k1 : ClassId) (f1 : Nat → Int32) (h0 : Heap) (n0 : Nat) (Z0 : n0 ≤ h0.size) (pr0 : Arv Z h0 c0 k1 .byte (16 : Int32) (own_l 16 f1) (.int (0 : Int32))) (hu0 : ¬ u1 < (0 : Int32)) (hu1 : u1 < (16 : Int32)) :
    MetFree l (⟨"java/util/Arrays", "copyOf", "([BI)[B"⟩ : MethodName) (head1 (Jvm.Cond.code (⟨"java/util/Arrays", "copyOf", "([BI)[B"⟩ : MethodName) jdk_65_method_121_code 3 (some (.array .byte)) :: ws) ({ frames := 1, cells := 1, slots := 16, locals := 18 } : Room)) (fun a U => a = #[(.ref c0), (.int u1)] ∧ Z.Warmed39 U.vm ∧ U.heap = h0) (fun _ _ _ _ _ => True) (fun _ U o U' => ∃ v L, o = .returned v ∧ own_co_Q Z c0 u1 k1 f1 h0 n0 v U'.heap L ∧ FrameEnd U o U' L ({ frames := 1, cells := 1, slots := 16, locals := 18 } : Room).cells ({ frames := 1, cells := 1, slots := 16, locals := 18 } : Room).slots) := by
  refine MetFree.of_bodySF (plainFor_of_name pn_Arrays) hisR ?_
  intro p e s m args below meth c s₁ Bd hml0 hP hK
  obtain ⟨rfl, hZ, hh⟩ := hP
  have hx := Bd.exec
  have hby := Bd.bytes
  have hml : c.maxLocals = 3 := hml0
  have hown : s.vm.findClass "java/util/Arrays" = some m.cls := findClass_of_methodNamed Bd.named
  have hnm := (name_of_methodNamed Bd.named Bd.method).1
  have hlk : meth.locks = false := BodyLoose.notSynchronized Bd
  have hrt := Bd.returns
  have X0 : Stand p l e ({ frames := 1, cells := 1, slots := 16, locals := 18 } : Room) s m #[(.ref c0), (.int u1)] below meth c s₁ [] 0 0 := Stand.of_body Bd
  have e0 : s₁.heap = h0 := by rw [← hh, Bd.state]; rfl
  have N0 := Fr.nil n0
  refine Goes.enter (kc := ({ frames := 1, cells := 1, slots := 16, locals := 18 } : Room).cells) (kn := ({ frames := 1, cells := 1, slots := 16, locals := 18 } : Room).slots) (Q := own_co_Q Z c0 u1 k1 f1 h0 n0) (own_co_ef m c0 u1) ?_
  refine Goes.step (B := (s₁.setTop (mkF m 1 #[.val (.ref c0), .val (.int u1), .unset] [(.int u1)]))) (fun _ k => XS.iloadN X0.here hx rfl (hb hby d_jdk_65_method_121_code_0) rfl k) ?_
  refine Goes.step (B := (s₁.setTop (mkF m 2 #[.val (.ref c0), .val (.int u1), .unset] [(.ref c0), (.int u1)]))) (fun _ k => XS.aloadN X0.here hx rfl (hb hby d_jdk_65_method_121_code_1) rfl rfl k) ?_
  obtain ⟨cl101, Ar101, q101, S101, M101, H101, G101⟩ := id pr0
  refine Goes.step (B := (s₁.setTop (mkF m 3 #[.val (.ref c0), .val (.int u1), .unset] [(.int (16 : Int32)), (.int u1)]))) (fun _ k => X0.arraylength hx (by rw [e0]; exact Ar101.1) (State.isArrayOf_alike hZ.alike Ar101.2.1) (g := (mkF m 2 #[.val (.ref c0), .val (.int u1), .unset] [(.ref c0), (.int u1)])) rfl rfl (hb hby d_jdk_65_method_121_code_2) _ (by rw [len_of S101 M101]; exact k)) ?_
  have hc102 : ¬ (u1 = (16 : Int32)) := own_ne16 hu1
  refine Goes.step (B := (s₁.setTop (mkF m 14 #[.val (.ref c0), .val (.int u1), .unset] []))) (fun _ k => XS.icmpYes X0.here hx rfl (pc0 := 3) (pc' := 14) rfl (hb hby d_jdk_65_method_121_code_3) rfl (feq hc102).2 (by decide) (by decide) k) ?_
  refine Goes.step (B := (s₁.setTop (mkF m 15 #[.val (.ref c0), .val (.int u1), .unset] [(.int u1)]))) (fun _ k => XS.iloadN X0.here hx rfl (hb hby d_jdk_65_method_121_code_14) rfl k) ?_
  obtain ⟨T103, h103, k103, X103, e103, E103, A103, st103⟩ := newP X0 hx hZ (hw _ (List.mem_of_getElem? (i := 13) rfl)) e0 (g := (mkF m 15 #[.val (.ref c0), .val (.int u1), .unset] [(.int u1)])) rfl (hb hby d_jdk_65_method_121_code_15) rfl hu0 (cap := 16) (own_cap hu0 hu1) (by decide) (by decide) (by decide)
  obtain ⟨b103, g103⟩ : ∃ z, z = h0.size := ⟨_, rfl⟩
  rw [← g103] at A103 st103
  have gn103 : n0 ≤ b103 := Nat.le_trans Z0 (Nat.le_of_eq g103.symm)
  have sz103 : h0.size ≤ b103 := Nat.le_trans (Keep.refl h0 []).1 (Nat.le_of_eq g103.symm)
  have ne104 : c0 ≠ b103 := Nat.ne_of_lt (Nat.lt_of_lt_of_le pr0.lt (Nat.le_of_eq g103.symm))
  have f105 := pr0.ext E103
  have V103 : Arv Z h103 b103 k103 .byte u1 [] (.int (0 : Int32)) := Arv.new A103 hu0
  have Z103 : n0 ≤ h103.size := Nat.le_trans Z0 E103.1
  have K103 : Keep h0 h103 [] := (Keep.refl h0 []).ext E103
  refine Goes.step (B := (T103.setTop (mkF m 17 #[.val (.ref c0), .val (.int u1), .unset] [(.ref b103)]))) (fun _ k => st103 _ k) ?_
  have V106 : Arv Z h103 b103 k103 .byte u1 (own_l u1.toNatClampNeg own_zero) (.int (0 : Int32)) := V103.pad (own_padz _)
  refine Goes.step (B := (T103.setTop (mkF m 18 #[.val (.ref c0), .val (.int u1), .val (.ref b103)] []))) (fun _ k => XS.astoreN X103.here hx rfl (hb hby d_jdk_65_method_121_code_17) rfl rfl (l' := #[.val (.ref c0), .val (.int u1), .val (.ref b103)]) rfl k) ?_
  refine Goes.step (B := (T103.setTop (mkF m 19 #[.val (.ref c0), .val (.int u1), .val (.ref b103)] [(.ref c0)]))) (fun _ k => XS.aloadN X103.here hx rfl (hb hby d_jdk_65_method_121_code_18) rfl rfl k) ?_
  refine Goes.step (B := (T103.setTop (mkF m 20 #[.val (.ref c0), .val (.int u1), .val (.ref b103)] [(.int (0 : Int32)), (.ref c0)]))) (fun _ k => XS.iconst X103.here hx rfl (hb hby d_jdk_65_method_121_code_19) k) ?_
  refine Goes.step (B := (T103.setTop (mkF m 21 #[.val (.ref c0), .val (.int u1), .val (.ref b103)] [(.ref b103), (.int (0 : Int32)), (.ref c0)]))) (fun _ k => XS.aloadN X103.here hx rfl (hb hby d_jdk_65_method_121_code_20) rfl rfl k) ?_
  refine Goes.step (B := (T103.setTop (mkF m 22 #[.val (.ref c0), .val (.int u1), .val (.ref b103)] [(.int (0 : Int32)), (.ref b103), (.int (0 : Int32)), (.ref c0)]))) (fun _ k => XS.iconst X103.here hx rfl (hb hby d_jdk_65_method_121_code_21) k) ?_
  refine Goes.step (B := (T103.setTop (mkF m 23 #[.val (.ref c0), .val (.int u1), .val (.ref b103)] [(.ref c0), (.int (0 : Int32)), (.ref b103), (.int (0 : Int32)), (.ref c0)]))) (fun _ k => XS.aloadN X103.here hx rfl (hb hby d_jdk_65_method_121_code_22) rfl rfl k) ?_
  obtain ⟨cl107, Ar107, q107, S107, M107, H107, G107⟩ := id f105
  refine Goes.step (B := (T103.setTop (mkF m 24 #[.val (.ref c0), .val (.int u1), .val (.ref b103)] [(.int (16 : Int32)), (.int (0 : Int32)), (.ref b103), (.int (0 : Int32)), (.ref c0)]))) (fun _ k => X103.arraylength hx (by rw [e103]; exact Ar107.1) (State.isArrayOf_alike hZ.alike Ar107.2.1) (g := (mkF m 23 #[.val (.ref c0), .val (.int u1), .val (.ref b103)] [(.ref c0), (.int (0 : Int32)), (.ref b103), (.int (0 : Int32)), (.ref c0)])) rfl rfl (hb hby d_jdk_65_method_121_code_23) _ (by rw [len_of S107 M107]; exact k)) ?_
  refine Goes.step (B := (T103.setTop (mkF m 25 #[.val (.ref c0), .val (.int u1), .val (.ref b103)] [(.int u1), (.int (16 : Int32)), (.int (0 : Int32)), (.ref b103), (.int (0 : Int32)), (.ref c0)]))) (fun _ k => XS.iloadN X103.here hx rfl (hb hby d_jdk_65_method_121_code_24) rfl k) ?_
  obtain ⟨_, _, ⟨T108, L108, k108, n108⟩, -, X108, ⟨Lc108, hQ108, l108, y108, z108⟩, st108⟩ := Jvm.LawKit.callS X103 hx (y := (⟨"java/lang/Math", "min", "(II)I"⟩ : MethodName)) hown (mvT hZ (hw _ (List.mem_of_getElem? (i := 35) rfl))) (mvT hZ (hw _ (List.mem_of_getElem? (i := 36) rfl))) (mvT hZ (hw _ (List.mem_of_getElem? (i := 37) rfl))) (mvT hZ (hw _ (List.mem_of_getElem? (i := 38) rfl))) (by decide) (backOf (W := 4) (own_min_rm l Z a0 hw [] (16 : Int32) u1  h103 n0 Z103 ) hZ (hw _ (List.mem_of_getElem? (i := 38) rfl)) (hw _ (List.mem_of_getElem? (i := 37) rfl)) (by decide) (by decide)) (g := (mkF m 25 #[.val (.ref c0), .val (.int u1), .val (.ref b103)] [(.int u1), (.int (16 : Int32)), (.int (0 : Int32)), (.ref b103), (.int (0 : Int32)), (.ref c0)])) rfl (by rw [hml]; rfl) (argsL := [(.int (16 : Int32)), (.int u1)]) (rest := [(.int (0 : Int32)), (.ref b103), (.int (0 : Int32)), (.ref c0)]) (lenOf pd__II_I rfl) rfl (by show 2 * 0 + _ ≤ _; exact Nat.le_of_eq rfl) (hb hby d_jdk_65_method_121_code_25) (fun _ _ => ⟨rfl, e103, (by decide : 1 + 0 ≤ _), (by decide : 16 + 0 ≤ _)⟩)
  dsimp only [Pt.U, Pt.locs, Pt.cells, Pt.slots] at X108 l108 y108 z108 st108 hQ108
  subst l108 y108 z108
  obtain ⟨rfl, N108q, e108⟩ := hQ108
  have N108 := Fr.app N0 N108q
  refine Goes.step (B := (T108.setTop (mkF m 28 #[.val (.ref c0), .val (.int u1), .val (.ref b103)] [(.int (own_min_fn (16 : Int32) u1)), (.int (0 : Int32)), (.ref b103), (.int (0 : Int32)), (.ref c0)]))) (fun _ k => st108 _ k) ?_
  have hnn : (own_min_fn (16 : Int32) u1) = u1 := own_minv hu1
  obtain ⟨T109, h109, L109, X109, e109, N109, Kq109, V109, st109⟩ := cpA X108 hx hZ hown (hw _ (List.mem_of_getElem? (i := 39) rfl)) (hw _ (List.mem_of_getElem? (i := 42) rfl)) (hw _ (List.mem_of_getElem? (i := 40) rfl)) (hw _ (List.mem_of_getElem? (i := 41) rfl)) e108 f105 V106 (Or.inl ⟨rfl, rfl⟩) (by decide) (by decide) (by rw [hnn]; exact hu0) (by rw [hnn]; exact own_cp4 hu0 hu1) (by rw [hnn]; exact Nat.le_of_eq (Nat.zero_add _)) rfl (by rw [hnn, own_l_len]; exact Nat.le_of_eq (Nat.zero_add _)) N108 gn103 (g := (mkF m 28 #[.val (.ref c0), .val (.int u1), .val (.ref b103)] [(.int (own_min_fn (16 : Int32) u1)), (.int (0 : Int32)), (.ref b103), (.int (0 : Int32)), (.ref c0)])) rfl (by rw [hml]; rfl) rfl (hb hby d_jdk_65_method_121_code_28) (by decide) (W := 0) (by show 2 * 0 + _ ≤ _; exact Nat.le_of_eq rfl) (by decide)
  have f110 := f105.keep Kq109 (nm1 ne104)
  have K109 : Keep h0 h109 [] := Keep.trans K103 Kq109 (fun y q => by cases List.mem_singleton.mp q; exact Or.inr sz103)
  have Z109 : n0 ≤ h109.size := Nat.le_trans Z103 Kq109.1
  rw [hnn] at V109
  rw [own_cpl f1 u1 hu1] at V109
  refine Goes.step (B := (T109.setTop (mkF m 31 #[.val (.ref c0), .val (.int u1), .val (.ref b103)] []))) (fun _ k => st109 _ k) ?_
  refine Goes.step (B := (T109.setTop (mkF m 32 #[.val (.ref c0), .val (.int u1), .val (.ref b103)] [(.ref b103)]))) (fun _ k => XS.aloadN X109.here hx rfl (hb hby d_jdk_65_method_121_code_31) rfl rfl k) ?_
  refine Goes.retR X109 hx hlk hrt rfl rfl rfl (hb hby d_jdk_65_method_121_code_32) ?_ (by decide) (by decide)
  rw [e109]
  exact ⟨b103, k103, rfl, N109, K109, gn103, sz103, V109⟩
theorem d_prog_43_method_5_code_0 : decode prog_43_method_5_code 0 = .ok (.aload_n 0, 1) := by decide +kernel
theorem d_prog_43_method_5_code_1 : decode prog_43_method_5_code 1 = .ok (.getfield 14, 3) := by decide +kernel
theorem d_prog_43_method_5_code_4 : decode prog_43_method_5_code 4 = .ok (.aload_n 0, 1) := by decide +kernel
theorem d_prog_43_method_5_code_5 : decode prog_43_method_5_code 5 = .ok (.getfield 18, 3) := by decide +kernel
theorem d_prog_43_method_5_code_8 : decode prog_43_method_5_code 8 = .ok (.invokestatic 28, 3) := by decide +kernel
theorem pd__ABI_AB : parseMethodDescriptor "([BI)[B" = some ⟨[(.array .byte), .int], some (.array .byte)⟩ := by decide +kernel
theorem d_prog_43_method_5_code_11 : decode prog_43_method_5_code 11 = .ok (.areturn, 1) := by decide +kernel
def own_tb_Q (Z : State) (o0 : Addr) (c0 : Addr) (k1 : ClassId) (i1 : Int32) (f1 : Nat → Int32) (h0 : Heap) (n0 : Nat) (v : Option Value) (h : Heap) (L : List Loc) : Prop := ∃ (b : Addr), ∃ (k2 : ClassId), (v = some (.ref b)) ∧ (Fr n0 L) ∧ (Keep h0 h []) ∧ (n0 ≤ b) ∧ (h0.size ≤ b) ∧ (Arv Z h b k2 .byte i1 (own_l i1.toNatClampNeg f1) (.int (0 : Int32)))
theorem own_tb_ef (m : MethodId) (o0 : Addr) : entryFrame m #[(.ref o0)] 1 = mkF m 0 #[.val (.ref o0)] [] := by first | (simp [entryFrame, mkF, argsToLocals, Value.category]; done) | rfl
set_option maxRecDepth 65536 in
set_option maxHeartbeats 40000000 in
theorem own_tb_rm (l : Launch) (Z : State) (a0 : Array Value) (hw : ∀ d ∈ tables_1, d.before a0 Z = true) (ws : List Jvm.Cond) (o0 : Addr) (c0 : Addr) (k1 : ClassId) (i1 : Int32) (f1 : Nat → Int32) (h0 : Heap) (n0 : Nat) (Z0 : n0 ≤ h0.size) (pr0 : Fld Z h0 o0 "com/example/kartoteka/kartoteka/index/Varints$Writer" "bytes" "[B" (.ref c0)) (pr1 : Fld Z h0 o0 "com/example/kartoteka/kartoteka/index/Varints$Writer" "length" "I" (.int i1)) (pr2 : Arv Z h0 c0 k1 .byte (16 : Int32) (own_l 16 f1) (.int (0 : Int32))) (hu0 : ¬ i1 < (0 : Int32)) (hu1 : i1 < (16 : Int32)) :
    MetFree l (⟨"com/example/kartoteka/kartoteka/index/Varints$Writer", "toByteArray", "()[B"⟩ : MethodName) (head1 (Jvm.Cond.code (⟨"com/example/kartoteka/kartoteka/index/Varints$Writer", "toByteArray", "()[B"⟩ : MethodName) prog_43_method_5_code 1 (some (.array .byte)) :: ws) ({ frames := 2, cells := 1, slots := 16, locals := 32 } : Room)) (fun a U => a = #[(.ref o0)] ∧ Z.Warmed39 U.vm ∧ U.heap = h0) (fun _ _ _ _ _ => True) (fun _ U o U' => ∃ v L, o = .returned v ∧ own_tb_Q Z o0 c0 k1 i1 f1 h0 n0 v U'.heap L ∧ FrameEnd U o U' L ({ frames := 2, cells := 1, slots := 16, locals := 32 } : Room).cells ({ frames := 2, cells := 1, slots := 16, locals := 32 } : Room).slots) := by
  refine MetFree.of_bodySF (plainFor_of_name pn_Varints_Writer) hisR ?_
  intro p e s m args below meth c s₁ Bd hml0 hP hK
  obtain ⟨rfl, hZ, hh⟩ := hP
  have hx := Bd.exec
  have hby := Bd.bytes
  have hml : c.maxLocals = 1 := hml0
  have hown : s.vm.findClass "com/example/kartoteka/kartoteka/index/Varints$Writer" = some m.cls := findClass_of_methodNamed Bd.named
  have hnm := (name_of_methodNamed Bd.named Bd.method).1
  have hlk : meth.locks = false := BodyLoose.notSynchronized Bd
  have hrt := Bd.returns
  have X0 : Stand p l e ({ frames := 2, cells := 1, slots := 16, locals := 32 } : Room) s m #[(.ref o0)] below meth c s₁ [] 0 0 := Stand.of_body Bd
  have e0 : s₁.heap = h0 := by rw [← hh, Bd.state]; rfl
  have N0 := Fr.nil n0
  refine Goes.enter (kc := ({ frames := 2, cells := 1, slots := 16, locals := 32 } : Room).cells) (kn := ({ frames := 2, cells := 1, slots := 16, locals := 32 } : Room).slots) (Q := own_tb_Q Z o0 c0 k1 i1 f1 h0 n0) (own_tb_ef m o0) ?_
  refine Goes.step (B := (s₁.setTop (mkF m 1 #[.val (.ref o0)] [(.ref o0)]))) (fun _ k => XS.aloadN X0.here hx rfl (hb hby d_prog_43_method_5_code_0) rfl rfl k) ?_
  obtain ⟨T101, X101, e101, st101⟩ := getF X0 hx hZ hown (host := "") (Or.inl (hw _ (List.mem_of_getElem? (i := 14) rfl))) Via.refl e0 pr0 (g := (mkF m 1 #[.val (.ref o0)] [(.ref o0)])) rfl rfl (hb hby d_prog_43_method_5_code_1)
  refine Goes.step (B := (T101.setTop (mkF m 4 #[.val (.ref o0)] [(.ref c0)]))) (fun _ k => st101 _ k) ?_
  refine Goes.step (B := (T101.setTop (mkF m 5 #[.val (.ref o0)] [(.ref o0), (.ref c0)]))) (fun _ k => XS.aloadN X101.here hx rfl (hb hby d_prog_43_method_5_code_4) rfl rfl k) ?_
  obtain ⟨T102, X102, e102, st102⟩ := getF X101 hx hZ hown (host := "") (Or.inl (hw _ (List.mem_of_getElem? (i := 21) rfl))) Via.refl e101 pr1 (g := (mkF m 5 #[.val (.ref o0)] [(.ref o0), (.ref c0)])) rfl rfl (hb hby d_prog_43_method_5_code_5)
  refine Goes.step (B := (T102.setTop (mkF m 8 #[.val (.ref o0)] [(.int i1), (.ref c0)]))) (fun _ k => st102 _ k) ?_
  obtain ⟨_, _, ⟨T103, L103, k103, n103⟩, -, X103, ⟨Lc103, hQ103, l103, y103, z103⟩, st103⟩ := Jvm.LawKit.callS X102 hx (y := (⟨"java/util/Arrays", "copyOf", "([BI)[B"⟩ : MethodName)) hown (mvT hZ (hw _ (List.mem_of_getElem? (i := 31) rfl))) (mvT hZ (hw _ (List.mem_of_getElem? (i := 32) rfl))) (mvT hZ (hw _ (List.mem_of_getElem? (i := 33) rfl))) (mvT hZ (hw _ (List.mem_of_getElem? (i := 34) rfl))) (by decide) (backOf (W := 0) (own_co_rm l Z a0 hw [] c0 i1 k1 f1 h0 n0 Z0 pr2 hu0 hu1) hZ (hw _ (List.mem_of_getElem? (i := 34) rfl)) (hw _ (List.mem_of_getElem? (i := 33) rfl)) (by decide) (by decide)) (g := (mkF m 8 #[.val (.ref o0)] [(.int i1), (.ref c0)])) rfl (by rw [hml]; rfl) (argsL := [(.ref c0), (.int i1)]) (rest := []) (lenOf pd__ABI_AB rfl) rfl (by show 2 * 0 + _ ≤ _; exact Nat.le_of_eq rfl) (hb hby d_prog_43_method_5_code_8) (fun _ _ => ⟨rfl, e102, (by decide : 0 + 1 ≤ _), (by decide : 0 + 16 ≤ _)⟩)
  dsimp only [Pt.U, Pt.locs, Pt.cells, Pt.slots] at X103 l103 y103 z103 st103 hQ103
  subst l103 y103 z103
  obtain ⟨b_103, k2_103, rfl, N103q, K103q, gn103_b, sz103_b, p103_0⟩ := hQ103
  have N103 := Fr.app N0 N103q
  have ne104 : o0 ≠ b_103 := Nat.ne_of_lt (Nat.lt_of_lt_of_le pr0.lt sz103_b)
  have ne105 : c0 ≠ b_103 := Nat.ne_of_lt (Nat.lt_of_lt_of_le pr2.lt sz103_b)
  have f106 := pr0.keep K103q nm0
  have f107 := pr1.keep K103q nm0
  have f108 := pr2.keep K103q nm0
  have K103 : Keep h0 T103.heap [] := Keep.trans (Keep.refl h0 []) K103q (fun _ q => nomatch q)
  have Z103 : n0 ≤ T103.heap.size := Nat.le_trans Z0 K103q.1
  have szz103_b : h0.size ≤ b_103 := Nat.le_trans (Keep.refl h0 []).1 sz103_b
  refine Goes.step (B := (T103.setTop (mkF m 11 #[.val (.ref o0)] [(.ref b_103)]))) (fun _ k => st103 _ k) ?_
  refine Goes.retR X103 hx hlk hrt rfl rfl rfl (hb hby d_prog_43_method_5_code_11) ?_ (by decide) (by decide)
  exact ⟨b_103, k2_103, rfl, N103, K103, gn103_b, szz103_b, p103_0⟩
theorem d_prog_42_method_1_code_0 : decode prog_42_method_1_code 0 = .ok (.aload_n 0, 1) := by decide +kernel
theorem d_prog_42_method_1_code_1 : decode prog_42_method_1_code 1 = .ok (.invokespecial 1, 3) := by decide +kernel
theorem d_prog_42_method_1_code_4 : decode prog_42_method_1_code 4 = .ok (.aload_n 0, 1) := by decide +kernel
theorem d_prog_42_method_1_code_5 : decode prog_42_method_1_code 5 = .ok (.aload_n 1, 1) := by decide +kernel
theorem d_prog_42_method_1_code_6 : decode prog_42_method_1_code 6 = .ok (.putfield 7, 3) := by decide +kernel
theorem d_prog_42_method_1_code_9 : decode prog_42_method_1_code 9 = .ok (.return_, 1) := by decide +kernel
def own_in0_Q (Z : State) (o0 : Addr) (c0 : Addr)  (h0 : Heap) (n0 : Nat) (v : Option Value) (h : Heap) (L : List Loc) : Prop := (v = none) ∧ (Fr n0 L) ∧ (Keep h0 h [o0]) ∧ (Exa Z h o0 "com/example/kartoteka/kartoteka/index/Varints$Reader") ∧ (Fld Z h o0 "com/example/kartoteka/kartoteka/index/Varints$Reader" "bytes" "[B" (.ref c0)) ∧ (Fld Z h o0 "com/example/kartoteka/kartoteka/index/Varints$Reader" "at" "I" (.int (0 : Int32)))
theorem own_in0_ef (m : MethodId) (o0 : Addr) (c0 : Addr) : entryFrame m #[(.ref o0), (.ref c0)] 2 = mkF m 0 #[.val (.ref o0), .val (.ref c0)] [] := by first | (simp [entryFrame, mkF, argsToLocals, Value.category]; done) | rfl
theorem pn_Varints_Reader : plainName "com/example/kartoteka/kartoteka/index/Varints$Reader" = true := by first | (simp [plainName, overriddenIn]; done) | decide +kernel
set_option maxRecDepth 65536 in
set_option maxHeartbeats 40000000 in
theorem own_in0_rm (l : Launch) (Z : State) (a0 : Array Value) (hw : ∀ d ∈ tables_1, d.before a0 Z = true) (ws : List Jvm.Cond) (o0 : Addr) (c0 : Addr)  (h0 : Heap) (n0 : Nat) (Z0 : n0 ≤ h0.size) (pr0 : Exa Z h0 o0 "com/example/kartoteka/kartoteka/index/Varints$Reader") (pr1 : Fld Z h0 o0 "com/example/kartoteka/kartoteka/index/Varints$Reader" "bytes" "[B" .null) (pr2 : Fld Z h0 o0 "com/example/kartoteka/kartoteka/index/Varints$Reader" "at" "I" (.int (0 : Int32))) (pr3 : n0 ≤ o0) :
    MetFree l (⟨"com/example/kartoteka/kartoteka/index/Varints$Reader", "<init>", "([B)V"⟩ : MethodName) (head1 (Jvm.Cond.code (⟨"com/example/kartoteka/kartoteka/index/Varints$Reader", "<init>", "([B)V"⟩ : MethodName) prog_42_method_1_code 2 none :: ws) ({ frames := 1, cells := 0, slots := 0, locals := 12 } : Room)) (fun a U => a = #[(.ref o0), (.ref c0)] ∧ Z.Warmed39 U.vm ∧ U.heap = h0) (fun _ _ _ _ _ => True) (fun _ U o U' => ∃ v L, o = .returned v ∧ own_in0_Q Z o0 c0 h0 n0 v U'.heap L ∧ FrameEnd U o U' L ({ frames := 1, cells := 0, slots := 0, locals := 12 } : Room).cells ({ frames := 1, cells := 0, slots := 0, locals := 12 } : Room).slots) := by
  refine MetFree.of_bodySF (plainFor_of_name pn_Varints_Reader) hisR ?_
  intro p e s m args below meth c s₁ Bd hml0 hP hK
  obtain ⟨rfl, hZ, hh⟩ := hP
  have hx := Bd.exec
  have hby := Bd.bytes
  have hml : c.maxLocals = 2 := hml0
  have hown : s.vm.findClass "com/example/kartoteka/kartoteka/index/Varints$Reader" = some m.cls := findClass_of_methodNamed Bd.named
  have hnm := (name_of_methodNamed Bd.named Bd.method).1
  have hlk : meth.locks = false := BodyLoose.notSynchronized Bd
  have hrt := Bd.returns
  have X0 : Stand p l e ({ frames := 1, cells := 0, slots := 0, locals := 12 } : Room) s m #[(.ref o0), (.ref c0)] below meth c s₁ [] 0 0 := Stand.of_body Bd
  have e0 : s₁.heap = h0 := by rw [← hh, Bd.state]; rfl
  have N0 := Fr.nil n0
  refine Goes.enter (kc := ({ frames := 1, cells := 0, slots := 0, locals := 12 } : Room).cells) (kn := ({ frames := 1, cells := 0, slots := 0, locals := 12 } : Room).slots) (Q := own_in0_Q Z o0 c0 h0 n0) (own_in0_ef m o0 c0) ?_
  refine Goes.step (B := (s₁.setTop (mkF m 1 #[.val (.ref o0), .val (.ref c0)] [(.ref o0)]))) (fun _ k => XS.aloadN X0.here hx rfl (hb hby d_prog_42_method_1_code_0) rfl rfl k) ?_
  obtain ⟨T101, X101, e101, st101⟩ := initO X0 hx hZ hown (hw _ (List.mem_of_getElem? (i := 46) rfl)) (hw _ (List.mem_of_getElem? (i := 11) rfl)) (hw _ (List.mem_of_getElem? (i := 12) rfl)) e0 (g := (mkF m 1 #[.val (.ref o0), .val (.ref c0)] [(.ref o0)])) rfl (by rw [hml]; rfl) rfl (hb hby d_prog_42_method_1_code_1) (by decide) (W := 0) (by show 2 * 0 + _ ≤ _; exact Nat.le_of_eq rfl) (by decide)
  refine Goes.step (B := (T101.setTop (mkF m 4 #[.val (.ref o0), .val (.ref c0)] []))) (fun _ k => st101 _ k) ?_
  refine Goes.step (B := (T101.setTop (mkF m 5 #[.val (.ref o0), .val (.ref c0)] [(.ref o0)]))) (fun _ k => XS.aloadN X101.here hx rfl (hb hby d_prog_42_method_1_code_4) rfl rfl k) ?_
  refine Goes.step (B := (T101.setTop (mkF m 6 #[.val (.ref o0), .val (.ref c0)] [(.ref c0), (.ref o0)]))) (fun _ k => XS.aloadN X101.here hx rfl (hb hby d_prog_42_method_1_code_5) rfl rfl k) ?_
  obtain ⟨T102, h102, X102, e102, W102, st102⟩ := putF X101 hx hZ hown (host := "") (Or.inl (hw _ (List.mem_of_getElem? (i := 47) rfl))) Via.refl e101 pr1 pr0 (Or.inr ⟨(hw _ (List.mem_of_getElem? (i := 48) rfl)), rfl, hnm⟩) (hw _ (List.mem_of_getElem? (i := 24) rfl)) (ty := (.array .byte)) (by decide) rfl rfl (g := (mkF m 6 #[.val (.ref o0), .val (.ref c0)] [(.ref c0), (.ref o0)])) rfl rfl (hb hby d_prog_42_method_1_code_6)
  have f103 := pr0.wr W102
  have f104 := pr2.other W102 (Or.inr (slot_ne (Or.inl (hw _ (List.mem_of_getElem? (i := 55) rfl))) (Or.inr (hw _ (List.mem_of_getElem? (i := 48) rfl))) (by decide) (t := .int) (t' := (.array .byte)) (by decide) (by decide)))
  have N102 := Fr.snoc X102 N0 pr3
  have K102 : Keep h0 h102 [o0] := (Keep.refl h0 [o0]).wr W102 (Or.inl (List.mem_of_getElem? (i := 0) rfl))
  have Z102 : n0 ≤ h102.size := Nat.le_trans Z0 (Nat.le_of_eq W102.size.symm)
  have f105 : Fld Z h102 o0 "com/example/kartoteka/kartoteka/index/Varints$Reader" "bytes" "[B" (.ref c0) := pr1.same W102
  refine Goes.step (B := (T102.setTop (mkF m 9 #[.val (.ref o0), .val (.ref c0)] []))) (fun _ k => st102 _ k) ?_
  refine Goes.retV X102 hx hlk hrt (hb hby d_prog_42_method_1_code_9) ?_ (by decide) (by decide)
  rw [e102]
  exact ⟨rfl, N102, K102, f103, f105, f104⟩
theorem d_prog_42_method_2_code_0 : decode prog_42_method_2_code 0 = .ok (.aload_n 0, 1) := by decide +kernel
theorem d_prog_42_method_2_code_1 : decode prog_42_method_2_code 1 = .ok (.getfield 13, 3) := by decide +kernel
theorem d_prog_42_method_2_code_4 : decode prog_42_method_2_code 4 = .ok (.aload_n 0, 1) := by decide +kernel
theorem d_prog_42_method_2_code_5 : decode prog_42_method_2_code 5 = .ok (.getfield 7, 3) := by decide +kernel
theorem d_prog_42_method_2_code_8 : decode prog_42_method_2_code 8 = .ok (.arraylength, 1) := by decide +kernel
theorem d_prog_42_method_2_code_9 : decode prog_42_method_2_code 9 = .ok (.if_icmp .ge 7, 3) := by decide +kernel
theorem d_prog_42_method_2_code_12 : decode prog_42_method_2_code 12 = .ok (.iconst 1, 1) := by decide +kernel
theorem d_prog_42_method_2_code_13 : decode prog_42_method_2_code 13 = .ok (.goto 4, 3) := by decide +kernel
theorem d_prog_42_method_2_code_17 : decode prog_42_method_2_code 17 = .ok (.ireturn, 1) := by decide +kernel
theorem d_prog_42_method_2_code_16 : decode prog_42_method_2_code 16 = .ok (.iconst 0, 1) := by decide +kernel
def own_hn_fn (i1 : Int32) (z1 : Int32) : Int32 := (if i1 < z1 then (1 : Int32) else (0 : Int32))
def own_hn_Q (Z : State) (o0 : Addr) (c0 : Addr) (k1 : ClassId) (i1 : Int32) (z1 : Int32) (l1 : List Value) (d1 : Value) (h0 : Heap) (n0 : Nat) (v : Option Value) (h : Heap) (L : List Loc) : Prop := v = some (.int (own_hn_fn i1 z1)) ∧ Fr n0 L ∧ h = h0
theorem own_hn_ef (m : MethodId) (o0 : Addr) : entryFrame m #[(.ref o0)] 1 = mkF m 0 #[.val (.ref o0)] [] := by first | (simp [entryFrame, mkF, argsToLocals, Value.category]; done) | rfl
set_option maxRecDepth 65536 in
set_option maxHeartbeats 40000000 in
theorem own_hn_rm (l : Launch) (Z : State) (a0 : Array Value) (hw : ∀ d ∈ tables_1, d.before a0 Z = true) (ws : List Jvm.Cond) (o0 : Addr) (c0 : Addr) (k1 : ClassId) (i1 : Int32) (z1 : Int32) (l1 : List Value) (d1 : Value) (h0 : Heap) (n0 : Nat) (Z0 : n0 ≤ h0.size) (pr0 : Fld Z h0 o0 "com/example/kartoteka/kartoteka/index/Varints$Reader" "bytes" "[B" (.ref c0)) (pr1 : Fld Z h0 o0 "com/example/kartoteka/kartoteka/index/Varints$Reader" "at" "I" (.int i1)) (pr2 : Arv Z h0 c0 k1 .byte z1 l1 d1) :
    MetFree l (⟨"com/example/kartoteka/kartoteka/index/Varints$Reader", "hasNext", "()Z"⟩ : MethodName) (head1 (Jvm.Cond.code (⟨"com/example/kartoteka/kartoteka/index/Varints$Reader", "hasNext", "()Z"⟩ : MethodName) prog_42_method_2_code 1 (some .boolean) :: ws) ({ frames := 0, cells := 0, slots := 0, locals := 0 } : Room)) (fun a U => a = #[(.ref o0)] ∧ Z.Warmed39 U.vm ∧ U.heap = h0) (fun _ _ _ _ _ => True) (fun _ U o U' => ∃ v L, o = .returned v ∧ own_hn_Q Z o0 c0 k1 i1 z1 l1 d1 h0 n0 v U'.heap L ∧ FrameEnd U o U' L ({ frames := 0, cells := 0, slots := 0, locals := 0 } : Room).cells ({ frames := 0, cells := 0, slots := 0, locals := 0 } : Room).slots) := by
  refine MetFree.of_bodySF (plainFor_of_name pn_Varints_Reader) hisR ?_
  intro p e s m args below meth c s₁ Bd hml0 hP hK
  obtain ⟨rfl, hZ, hh⟩ := hP
  have hx := Bd.exec
  have hby := Bd.bytes
  have hml : c.maxLocals = 1 := hml0
  have hown : s.vm.findClass "com/example/kartoteka/kartoteka/index/Varints$Reader" = some m.cls := findClass_of_methodNamed Bd.named
  have hnm := (name_of_methodNamed Bd.named Bd.method).1
  have hlk : meth.locks = false := BodyLoose.notSynchronized Bd
  have hrt := Bd.returns
  have X0 : Stand p l e ({ frames := 0, cells := 0, slots := 0, locals := 0 } : Room) s m #[(.ref o0)] below meth c s₁ [] 0 0 := Stand.of_body Bd
  have e0 : s₁.heap = h0 := by rw [← hh, Bd.state]; rfl
  have N0 := Fr.nil n0
  refine Goes.enter (kc := ({ frames := 0, cells := 0, slots := 0, locals := 0 } : Room).cells) (kn := ({ frames := 0, cells := 0, slots := 0, locals := 0 } : Room).slots) (Q := own_hn_Q Z o0 c0 k1 i1 z1 l1 d1 h0 n0) (own_hn_ef m o0) ?_
  refine Goes.step (B := (s₁.setTop (mkF m 1 #[.val (.ref o0)] [(.ref o0)]))) (fun _ k => XS.aloadN X0.here hx rfl (hb hby d_prog_42_method_2_code_0) rfl rfl k) ?_
  obtain ⟨T101, X101, e101, st101⟩ := getF X0 hx hZ hown (host := "") (Or.inl (hw _ (List.mem_of_getElem? (i := 54) rfl))) Via.refl e0 pr1 (g := (mkF m 1 #[.val (.ref o0)] [(.ref o0)])) rfl rfl (hb hby d_prog_42_method_2_code_1)
  refine Goes.step (B := (T101.setTop (mkF m 4 #[.val (.ref o0)] [(.int i1)]))) (fun _ k => st101 _ k) ?_
  refine Goes.step (B := (T101.setTop (mkF m 5 #[.val (.ref o0)] [(.ref o0), (.int i1)]))) (fun _ k => XS.aloadN X101.here hx rfl (hb hby d_prog_42_method_2_code_4) rfl rfl k) ?_
  obtain ⟨T102, X102, e102, st102⟩ := getF X101 hx hZ hown (host := "") (Or.inl (hw _ (List.mem_of_getElem? (i := 47) rfl))) Via.refl e101 pr0 (g := (mkF m 5 #[.val (.ref o0)] [(.ref o0), (.int i1)])) rfl rfl (hb hby d_prog_42_method_2_code_5)
  refine Goes.step (B := (T102.setTop (mkF m 8 #[.val (.ref o0)] [(.ref c0), (.int i1)]))) (fun _ k => st102 _ k) ?_
  obtain ⟨cl103, Ar103, q103, S103, M103, H103, G103⟩ := id pr2
  refine Goes.step (B := (T102.setTop (mkF m 9 #[.val (.ref o0)] [(.int z1), (.int i1)]))) (fun _ k => X102.arraylength hx (by rw [e102]; exact Ar103.1) (State.isArrayOf_alike hZ.alike Ar103.2.1) (g := (mkF m 8 #[.val (.ref o0)] [(.ref c0), (.int i1)])) rfl rfl (hb hby d_prog_42_method_2_code_8) _ (by rw [len_of S103 M103]; exact k)) ?_
  by_cases hc104 : i1 < z1
  · refine Goes.step (B := (T102.setTop (mkF m 12 #[.val (.ref o0)] []))) (fun _ k => XS.icmpNo X102.here hx rfl (hb hby d_prog_42_method_2_code_9) rfl (tlt hc104).2.1 k) ?_
    refine Goes.step (B := (T102.setTop (mkF m 13 #[.val (.ref o0)] [(.int (1 : Int32))]))) (fun _ k => XS.iconst X102.here hx rfl (hb hby d_prog_42_method_2_code_12) k) ?_
    refine Goes.step (B := (T102.setTop (mkF m 17 #[.val (.ref o0)] [(.int (1 : Int32))]))) (fun _ k => XS.goto X102.here hx rfl (pc0 := 13) (pc' := 17) rfl (hb hby d_prog_42_method_2_code_13) (by decide) (by decide) k) ?_
    refine Goes.retN X102 hx hlk (t := .boolean) hrt (by simp) (hb hby d_prog_42_method_2_code_17) ?_ (by decide) (by decide)
    rw [e102]
    exact ⟨congrArg (fun z => some (Value.int z)) (show nar .boolean (1 : Int32) = (own_hn_fn i1 z1) from (show nar .boolean (1 : Int32) = (1 : Int32) from rfl).trans (by simp only [own_hn_fn, if_pos hc104])), N0, rfl⟩
  · refine Goes.step (B := (T102.setTop (mkF m 16 #[.val (.ref o0)] []))) (fun _ k => XS.icmpYes X102.here hx rfl (pc0 := 9) (pc' := 16) rfl (hb hby d_prog_42_method_2_code_9) rfl (flt hc104).2.1 (by decide) (by decide) k) ?_
    refine Goes.step (B := (T102.setTop (mkF m 17 #[.val (.ref o0)] [(.int (0 : Int32))]))) (fun _ k => XS.iconst X102.here hx rfl (hb hby d_prog_42_method_2_code_16) k) ?_
    refine Goes.retN X102 hx hlk (t := .boolean) hrt (by simp) (hb hby d_prog_42_method_2_code_17) ?_ (by decide) (by decide)
    rw [e102]
    exact ⟨congrArg (fun z => some (Value.int z)) (show nar .boolean (0 : Int32) = (own_hn_fn i1 z1) from (show nar .boolean (0 : Int32) = (0 : Int32) from rfl).trans (by simp only [own_hn_fn, if_neg hc104])), N0, rfl⟩
theorem d_prog_42_method_4_code_0 : decode prog_42_method_4_code 0 = .ok (.iconst 0, 1) := by decide +kernel
theorem d_prog_42_method_4_code_1 : decode prog_42_method_4_code 1 = .ok (.istore_n 1, 1) := by decide +kernel
theorem d_prog_42_method_4_code_2 : decode prog_42_method_4_code 2 = .ok (.iconst 0, 1) := by decide +kernel
theorem d_prog_42_method_4_code_3 : decode prog_42_method_4_code 3 = .ok (.istore_n 2, 1) := by decide +kernel
theorem d_prog_42_method_4_code_4 : decode prog_42_method_4_code 4 = .ok (.aload_n 0, 1) := by decide +kernel
theorem d_prog_42_method_4_code_5 : decode prog_42_method_4_code 5 = .ok (.getfield 13, 3) := by decide +kernel
theorem d_prog_42_method_4_code_8 : decode prog_42_method_4_code 8 = .ok (.aload_n 0, 1) := by decide +kernel
theorem d_prog_42_method_4_code_9 : decode prog_42_method_4_code 9 = .ok (.getfield 7, 3) := by decide +kernel
theorem d_prog_42_method_4_code_12 : decode prog_42_method_4_code 12 = .ok (.arraylength, 1) := by decide +kernel
theorem d_prog_42_method_4_code_13 : decode prog_42_method_4_code 13 = .ok (.if_icmp .eq 9, 3) := by decide +kernel
theorem d_prog_42_method_4_code_16 : decode prog_42_method_4_code 16 = .ok (.iload_n 2, 1) := by decide +kernel
theorem d_prog_42_method_4_code_17 : decode prog_42_method_4_code 17 = .ok (.bipush 28, 2) := by decide +kernel
theorem d_prog_42_method_4_code_19 : decode prog_42_method_4_code 19 = .ok (.if_icmp .le 13, 3) := by decide +kernel
theorem d_prog_42_method_4_code_32 : decode prog_42_method_4_code 32 = .ok (.aload_n 0, 1) := by decide +kernel
theorem d_prog_42_method_4_code_33 : decode prog_42_method_4_code 33 = .ok (.getfield 7, 3) := by decide +kernel
theorem d_prog_42_method_4_code_36 : decode prog_42_method_4_code 36 = .ok (.aload_n 0, 1) := by decide +kernel
theorem d_prog_42_method_4_code_37 : decode prog_42_method_4_code 37 = .ok (.dup, 1) := by decide +kernel
theorem d_prog_42_method_4_code_38 : decode prog_42_method_4_code 38 = .ok (.getfield 13, 3) := by decide +kernel
theorem d_prog_42_method_4_code_41 : decode prog_42_method_4_code 41 = .ok (.dup_x1, 1) := by decide +kernel
theorem d_prog_42_method_4_code_42 : decode prog_42_method_4_code 42 = .ok (.iconst 1, 1) := by decide +kernel
theorem d_prog_42_method_4_code_43 : decode prog_42_method_4_code 43 = .ok (.iadd, 1) := by decide +kernel
theorem d_prog_42_method_4_code_44 : decode prog_42_method_4_code 44 = .ok (.putfield 13, 3) := by decide +kernel
theorem d_prog_42_method_4_code_47 : decode prog_42_method_4_code 47 = .ok (.baload, 1) := by decide +kernel
theorem d_prog_42_method_4_code_48 : decode prog_42_method_4_code 48 = .ok (.istore_n 3, 1) := by decide +kernel
theorem d_prog_42_method_4_code_49 : decode prog_42_method_4_code 49 = .ok (.iload_n 1, 1) := by decide +kernel
theorem d_prog_42_method_4_code_50 : decode prog_42_method_4_code 50 = .ok (.iload_n 3, 1) := by decide +kernel
theorem d_prog_42_method_4_code_51 : decode prog_42_method_4_code 51 = .ok (.bipush 127, 2) := by decide +kernel
theorem d_prog_42_method_4_code_53 : decode prog_42_method_4_code 53 = .ok (.iand, 1) := by decide +kernel
theorem d_prog_42_method_4_code_54 : decode prog_42_method_4_code 54 = .ok (.iload_n 2, 1) := by decide +kernel
theorem d_prog_42_method_4_code_55 : decode prog_42_method_4_code 55 = .ok (.ishl, 1) := by decide +kernel
theorem d_prog_42_method_4_code_56 : decode prog_42_method_4_code 56 = .ok (.ior, 1) := by decide +kernel
theorem d_prog_42_method_4_code_57 : decode prog_42_method_4_code 57 = .ok (.istore_n 1, 1) := by decide +kernel
theorem d_prog_42_method_4_code_58 : decode prog_42_method_4_code 58 = .ok (.iinc 2 7, 3) := by decide +kernel
theorem d_prog_42_method_4_code_61 : decode prog_42_method_4_code 61 = .ok (.iload_n 3, 1) := by decide +kernel
theorem d_prog_42_method_4_code_62 : decode prog_42_method_4_code 62 = .ok (.sipush 128, 3) := by decide +kernel
theorem d_prog_42_method_4_code_65 : decode prog_42_method_4_code 65 = .ok (.iand, 1) := by decide +kernel
theorem d_prog_42_method_4_code_66 : decode prog_42_method_4_code 66 = .ok (.ifCond .ne 5, 3) := by decide +kernel
theorem d_prog_42_method_4_code_69 : decode prog_42_method_4_code 69 = .ok (.iload_n 1, 1) := by decide +kernel
theorem d_prog_42_method_4_code_70 : decode prog_42_method_4_code 70 = .ok (.ireturn, 1) := by decide +kernel
theorem d_prog_42_method_4_code_71 : decode prog_42_method_4_code 71 = .ok (.goto (-67), 3) := by decide +kernel
def own_nx_Q (Z : State) (o0 : Addr) (c0 : Addr) (k1 : ClassId) (i1 : Int32) (z1 : Int32) (f1 : Nat → Int32) (u1 : Int32) (h0 : Heap) (n0 : Nat) (v : Option Value) (h : Heap) (L : List Loc) : Prop := (v = some (.int u1)) ∧ (Fr n0 L) ∧ (Keep h0 h [o0]) ∧ (Exa Z h o0 "com/example/kartoteka/kartoteka/index/Varints$Reader") ∧ (Fld Z h o0 "com/example/kartoteka/kartoteka/index/Varints$Reader" "bytes" "[B" (.ref c0)) ∧ (Fld Z h o0 "com/example/kartoteka/kartoteka/index/Varints$Reader" "at" "I" (.int (own_n 4 i1 u1)))
theorem own_nx_ef (m : MethodId) (o0 : Addr) : entryFrame m #[(.ref o0)] 4 = mkF m 0 #[.val (.ref o0), .unset, .unset, .unset] [] := by first | (simp [entryFrame, mkF, argsToLocals, Value.category]; done) | rfl
set_option maxRecDepth 65536 in
set_option maxHeartbeats 40000000 in
theorem own_nx_rm (l : Launch) (Z : State) (a0 : Array Value) (hw : ∀ d ∈ tables_1, d.before a0 Z = true) (ws : List Jvm.Cond) (o0 : Addr) (c0 : Addr) (k1 : ClassId) (i1 : Int32) (z1 : Int32) (f1 : Nat → Int32) (u1 : Int32) (h0 : Heap) (n0 : Nat) (Z0 : n0 ≤ h0.size) (pr0 : Exa Z h0 o0 "com/example/kartoteka/kartoteka/index/Varints$Reader") (pr1 : Fld Z h0 o0 "com/example/kartoteka/kartoteka/index/Varints$Reader" "bytes" "[B" (.ref c0)) (pr2 : Fld Z h0 o0 "com/example/kartoteka/kartoteka/index/Varints$Reader" "at" "I" (.int i1)) (pr3 : Arv Z h0 c0 k1 .byte z1 (own_l z1.toNatClampNeg f1) (.int (0 : Int32))) (pr4 : n0 ≤ o0) (pr5 : c0 ≠ o0) (hi0 : 0 ≤ i1.toInt) (hi1 : i1.toInt ≤ 100) (hE : own_E 4 f1 i1 u1) (hB : (own_n 4 i1 u1).toInt ≤ z1.toInt) :
    MetFree l (⟨"com/example/kartoteka/kartoteka/index/Varints$Reader", "next", "()I"⟩ : MethodName) (head1 (Jvm.Cond.code (⟨"com/example/kartoteka/kartoteka/index/Varints$Reader", "next", "()I"⟩ : MethodName) prog_42_method_4_code 4 (some .int) :: ws) ({ frames := 0, cells := 0, slots := 0, locals := 0 } : Room)) (fun a U => a = #[(.ref o0)] ∧ Z.Warmed39 U.vm ∧ U.heap = h0) (fun _ _ _ _ _ => True) (fun _ U o U' => ∃ v L, o = .returned v ∧ own_nx_Q Z o0 c0 k1 i1 z1 f1 u1 h0 n0 v U'.heap L ∧ FrameEnd U o U' L ({ frames := 0, cells := 0, slots := 0, locals := 0 } : Room).cells ({ frames := 0, cells := 0, slots := 0, locals := 0 } : Room).slots) := by
  refine MetFree.of_bodySF (plainFor_of_name pn_Varints_Reader) hisR ?_
  intro p e s m args below meth c s₁ Bd hml0 hP hK
  obtain ⟨rfl, hZ, hh⟩ := hP
  have hx := Bd.exec
  have hby := Bd.bytes
  have hml : c.maxLocals = 4 := hml0
  have hown : s.vm.findClass "com/example/kartoteka/kartoteka/index/Varints$Reader" = some m.cls := findClass_of_methodNamed Bd.named
  have hnm := (name_of_methodNamed Bd.named Bd.method).1
  have hlk : meth.locks = false := BodyLoose.notSynchronized Bd
  have hrt := Bd.returns
  have X0 : Stand p l e ({ frames := 0, cells := 0, slots := 0, locals := 0 } : Room) s m #[(.ref o0)] below meth c s₁ [] 0 0 := Stand.of_body Bd
  have e0 : s₁.heap = h0 := by rw [← hh, Bd.state]; rfl
  have N0 := Fr.nil n0
  refine Goes.enter (kc := ({ frames := 0, cells := 0, slots := 0, locals := 0 } : Room).cells) (kn := ({ frames := 0, cells := 0, slots := 0, locals := 0 } : Room).slots) (Q := own_nx_Q Z o0 c0 k1 i1 z1 f1 u1 h0 n0) (own_nx_ef m o0) ?_
  refine Goes.step (B := (s₁.setTop (mkF m 1 #[.val (.ref o0), .unset, .unset, .unset] [(.int (0 : Int32))]))) (fun _ k => XS.iconst X0.here hx rfl (hb hby d_prog_42_method_4_code_0) k) ?_
  refine Goes.step (B := (s₁.setTop (mkF m 2 #[.val (.ref o0), .val (.int (0 : Int32)), .unset, .unset] []))) (fun _ k => XS.istoreN X0.here hx rfl (hb hby d_prog_42_method_4_code_1) rfl (l' := #[.val (.ref o0), .val (.int (0 : Int32)), .unset, .unset]) rfl k) ?_
  refine Goes.step (B := (s₁.setTop (mkF m 3 #[.val (.ref o0), .val (.int (0 : Int32)), .unset, .unset] [(.int (0 : Int32))]))) (fun _ k => XS.iconst X0.here hx rfl (hb hby d_prog_42_method_4_code_2) k) ?_
  refine Goes.step (B := (s₁.setTop (mkF m 4 #[.val (.ref o0), .val (.int (0 : Int32)), .val (.int (0 : Int32)), .unset] []))) (fun _ k => XS.istoreN X0.here hx rfl (hb hby d_prog_42_method_4_code_3) rfl (l' := #[.val (.ref o0), .val (.int (0 : Int32)), .val (.int (0 : Int32)), .unset]) rfl k) ?_
  have ai0 : i1.toInt = i1.toInt + 0 := (Int.add_zero _).symm
  by_cases hk0_101 : (u1 &&& (-128 : Int32)) = (0 : Int32)
  · have eb102 : f1 (i1).toNatClampNeg = own_b0 u1 := by simpa only [own_E, if_pos hk0_101] using hE
    have lt102 : i1.toInt + 0 < z1.toInt := by have q := hB; simp only [own_n, if_pos hk0_101] at q; have r := own_e ai0 (by omega) (by omega); omega
    refine Goes.step (B := (s₁.setTop (mkF m 5 #[.val (.ref o0), .val (.int (0 : Int32)), .val (.int (0 : Int32)), .unset] [(.ref o0)]))) (fun _ k => XS.aloadN X0.here hx rfl (hb hby d_prog_42_method_4_code_4) rfl rfl k) ?_
    obtain ⟨T103, X103, e103, st103⟩ := getF X0 hx hZ hown (host := "") (Or.inl (hw _ (List.mem_of_getElem? (i := 54) rfl))) Via.refl e0 pr2 (g := (mkF m 5 #[.val (.ref o0), .val (.int (0 : Int32)), .val (.int (0 : Int32)), .unset] [(.ref o0)])) rfl rfl (hb hby d_prog_42_method_4_code_5)
    refine Goes.step (B := (T103.setTop (mkF m 8 #[.val (.ref o0), .val (.int (0 : Int32)), .val (.int (0 : Int32)), .unset] [(.int i1)]))) (fun _ k => st103 _ k) ?_
    refine Goes.step (B := (T103.setTop (mkF m 9 #[.val (.ref o0), .val (.int (0 : Int32)), .val (.int (0 : Int32)), .unset] [(.ref o0), (.int i1)]))) (fun _ k => XS.aloadN X103.here hx rfl (hb hby d_prog_42_method_4_code_8) rfl rfl k) ?_
    obtain ⟨T104, X104, e104, st104⟩ := getF X103 hx hZ hown (host := "") (Or.inl (hw _ (List.mem_of_getElem? (i := 47) rfl))) Via.refl e103 pr1 (g := (mkF m 9 #[.val (.ref o0), .val (.int (0 : Int32)), .val (.int (0 : Int32)), .unset] [(.ref o0), (.int i1)])) rfl rfl (hb hby d_prog_42_method_4_code_9)
    refine Goes.step (B := (T104.setTop (mkF m 12 #[.val (.ref o0), .val (.int (0 : Int32)), .val (.int (0 : Int32)), .unset] [(.ref c0), (.int i1)]))) (fun _ k => st104 _ k) ?_
    obtain ⟨cl105, Ar105, q105, S105, M105, H105, G105⟩ := id pr3
    refine Goes.step (B := (T104.setTop (mkF m 13 #[.val (.ref o0), .val (.int (0 : Int32)), .val (.int (0 : Int32)), .unset] [(.int z1), (.int i1)]))) (fun _ k => X104.arraylength hx (by rw [e104]; exact Ar105.1) (State.isArrayOf_alike hZ.alike Ar105.2.1) (g := (mkF m 12 #[.val (.ref o0), .val (.int (0 : Int32)), .val (.int (0 : Int32)), .unset] [(.ref c0), (.int i1)])) rfl rfl (hb hby d_prog_42_method_4_code_12) _ (by rw [len_of S105 M105]; exact k)) ?_
    have hc106 : ¬ (i1 = z1) := own_nez ai0 (rfl : z1.toInt = z1.toInt) lt102
    refine Goes.step (B := (T104.setTop (mkF m 16 #[.val (.ref o0), .val (.int (0 : Int32)), .val (.int (0 : Int32)), .unset] []))) (fun _ k => XS.icmpNo X104.here hx rfl (hb hby d_prog_42_method_4_code_13) rfl (feq hc106).1 k) ?_
    refine Goes.step (B := (T104.setTop (mkF m 17 #[.val (.ref o0), .val (.int (0 : Int32)), .val (.int (0 : Int32)), .unset] [(.int (0 : Int32))]))) (fun _ k => XS.iloadN X104.here hx rfl (hb hby d_prog_42_method_4_code_16) rfl k) ?_
    refine Goes.step (B := (T104.setTop (mkF m 19 #[.val (.ref o0), .val (.int (0 : Int32)), .val (.int (0 : Int32)), .unset] [(.int (28 : Int32)), (.int (0 : Int32))]))) (fun _ k => XS.bipush X104.here hx rfl (hb hby d_prog_42_method_4_code_17) k) ?_
    have hc107 : ¬ ((28 : Int32) < (0 : Int32)) := by decide
    refine Goes.step (B := (T104.setTop (mkF m 32 #[.val (.ref o0), .val (.int (0 : Int32)), .val (.int (0 : Int32)), .unset] []))) (fun _ k => XS.icmpYes X104.here hx rfl (pc0 := 19) (pc' := 32) rfl (hb hby d_prog_42_method_4_code_19) rfl (flt hc107).2.2.2 (by decide) (by decide) k) ?_
    refine Goes.step (B := (T104.setTop (mkF m 33 #[.val (.ref o0), .val (.int (0 : Int32)), .val (.int (0 : Int32)), .unset] [(.ref o0)]))) (fun _ k => XS.aloadN X104.here hx rfl (hb hby d_prog_42_method_4_code_32) rfl rfl k) ?_
    obtain ⟨T108, X108, e108, st108⟩ := getF X104 hx hZ hown (host := "") (Or.inl (hw _ (List.mem_of_getElem? (i := 47) rfl))) Via.refl e104 pr1 (g := (mkF m 33 #[.val (.ref o0), .val (.int (0 : Int32)), .val (.int (0 : Int32)), .unset] [(.ref o0)])) rfl rfl (hb hby d_prog_42_method_4_code_33)
    refine Goes.step (B := (T108.setTop (mkF m 36 #[.val (.ref o0), .val (.int (0 : Int32)), .val (.int (0 : Int32)), .unset] [(.ref c0)]))) (fun _ k => st108 _ k) ?_
    refine Goes.step (B := (T108.setTop (mkF m 37 #[.val (.ref o0), .val (.int (0 : Int32)), .val (.int (0 : Int32)), .unset] [(.ref o0), (.ref c0)]))) (fun _ k => XS.aloadN X108.here hx rfl (hb hby d_prog_42_method_4_code_36) rfl rfl k) ?_
    refine Goes.step (B := (T108.setTop (mkF m 38 #[.val (.ref o0), .val (.int (0 : Int32)), .val (.int (0 : Int32)), .unset] [(.ref o0), (.ref o0), (.ref c0)]))) (fun _ k => XS.dup X108.here hx rfl (hb hby d_prog_42_method_4_code_37) rfl rfl k) ?_
    obtain ⟨T109, X109, e109, st109⟩ := getF X108 hx hZ hown (host := "") (Or.inl (hw _ (List.mem_of_getElem? (i := 54) rfl))) Via.refl e108 pr2 (g := (mkF m 38 #[.val (.ref o0), .val (.int (0 : Int32)), .val (.int (0 : Int32)), .unset] [(.ref o0), (.ref o0), (.ref c0)])) rfl rfl (hb hby d_prog_42_method_4_code_38)
    refine Goes.step (B := (T109.setTop (mkF m 41 #[.val (.ref o0), .val (.int (0 : Int32)), .val (.int (0 : Int32)), .unset] [(.int i1), (.ref o0), (.ref c0)]))) (fun _ k => st109 _ k) ?_
    refine Goes.step (B := (T109.setTop (mkF m 42 #[.val (.ref o0), .val (.int (0 : Int32)), .val (.int (0 : Int32)), .unset] [(.int i1), (.ref o0), (.int i1), (.ref c0)]))) (fun _ k => XS.dupX1 X109.here hx rfl (hb hby d_prog_42_method_4_code_41) rfl rfl rfl k) ?_
    refine Goes.step (B := (T109.setTop (mkF m 43 #[.val (.ref o0), .val (.int (0 : Int32)), .val (.int (0 : Int32)), .unset] [(.int (1 : Int32)), (.int i1), (.ref o0), (.int i1), (.ref c0)]))) (fun _ k => XS.iconst X109.here hx rfl (hb hby d_prog_42_method_4_code_42) k) ?_
    refine Goes.step (B := (T109.setTop (mkF m 44 #[.val (.ref o0), .val (.int (0 : Int32)), .val (.int (0 : Int32)), .unset] [(.int (i1 + (1 : Int32))), (.ref o0), (.int i1), (.ref c0)]))) (fun _ k => XS.iadd X109.here hx rfl (hb hby d_prog_42_method_4_code_43) rfl k) ?_
    obtain ⟨T110, h110, X110, e110, W110, st110⟩ := putF X109 hx hZ hown (host := "") (Or.inl (hw _ (List.mem_of_getElem? (i := 54) rfl))) Via.refl e109 pr2 pr0 (Or.inl (hw _ (List.mem_of_getElem? (i := 55) rfl))) (hw _ (List.mem_of_getElem? (i := 24) rfl)) (ty := .int) (by decide) rfl rfl (g := (mkF m 44 #[.val (.ref o0), .val (.int (0 : Int32)), .val (.int (0 : Int32)), .unset] [(.int (i1 + (1 : Int32))), (.ref o0), (.int i1), (.ref c0)])) rfl rfl (hb hby d_prog_42_method_4_code_44)
    have f111 := pr0.wr W110
    have f112 := pr1.other W110 (Or.inr (slot_ne (Or.inr (hw _ (List.mem_of_getElem? (i := 48) rfl))) (Or.inl (hw _ (List.mem_of_getElem? (i := 55) rfl))) (by decide) (t := (.array .byte)) (t' := .int) (by decide) (by decide)))
    have f113 := pr3.other W110 pr5
    have N110 := Fr.snoc X110 N0 pr4
    have K110 : Keep h0 h110 [o0] := (Keep.refl h0 [o0]).wr W110 (Or.inl (List.mem_of_getElem? (i := 0) rfl))
    have Z110 : n0 ≤ h110.size := Nat.le_trans Z0 (Nat.le_of_eq W110.size.symm)
    have f114 : Fld Z h110 o0 "com/example/kartoteka/kartoteka/index/Varints$Reader" "at" "I" (.int (i1 + (1 : Int32))) := pr2.same W110
    refine Goes.step (B := (T110.setTop (mkF m 47 #[.val (.ref o0), .val (.int (0 : Int32)), .val (.int (0 : Int32)), .unset] [(.int i1), (.ref c0)]))) (fun _ k => st110 _ k) ?_
    obtain ⟨cl115, Ar115, q115, S115, M115, H115, G115⟩ := id f113
    have hin115 : ¬ (i1 < 0 ∨ cl115.slots.size ≤ (i1).toNatClampNeg) := own_in S115 ai0 (rfl : z1.toInt = z1.toInt) (by omega) lt102
    have hat115 : cl115.slots[(i1).toNatClampNeg]? = some (.int (own_b0 u1)) := by rw [H115 _ (by rw [S115]; exact (own_cl ai0 (rfl : z1.toInt = z1.toInt) (by omega) lt102)), own_l_get f1 _ (own_cl ai0 (rfl : z1.toInt = z1.toInt) (by omega) lt102), eb102]
    refine Goes.step (B := (T110.setTop (mkF m 48 #[.val (.ref o0), .val (.int (0 : Int32)), .val (.int (0 : Int32)), .unset] [(.int (own_b0 u1))]))) (fun _ k => X110.baloadBytes hx (j := i1) (v := (.int (own_b0 u1))) (by rw [e110]; exact Ar115.1) (State.isArrayOf_alike hZ.alike Ar115.2.1) Ar115.2.2 hin115 hat115 (g := (mkF m 47 #[.val (.ref o0), .val (.int (0 : Int32)), .val (.int (0 : Int32)), .unset] [(.int i1), (.ref c0)])) rfl rfl (hb hby d_prog_42_method_4_code_47) _ k) ?_
    refine Goes.step (B := (T110.setTop (mkF m 49 #[.val (.ref o0), .val (.int (0 : Int32)), .val (.int (0 : Int32)), .val (.int (own_b0 u1))] []))) (fun _ k => XS.istoreN X110.here hx rfl (hb hby d_prog_42_method_4_code_48) rfl (l' := #[.val (.ref o0), .val (.int (0 : Int32)), .val (.int (0 : Int32)), .val (.int (own_b0 u1))]) rfl k) ?_
    refine Goes.step (B := (T110.setTop (mkF m 50 #[.val (.ref o0), .val (.int (0 : Int32)), .val (.int (0 : Int32)), .val (.int (own_b0 u1))] [(.int (0 : Int32))]))) (fun _ k => XS.iloadN X110.here hx rfl (hb hby d_prog_42_method_4_code_49) rfl k) ?_
    refine Goes.step (B := (T110.setTop (mkF m 51 #[.val (.ref o0), .val (.int (0 : Int32)), .val (.int (0 : Int32)), .val (.int (own_b0 u1))] [(.int (own_b0 u1)), (.int (0 : Int32))]))) (fun _ k => XS.iloadN X110.here hx rfl (hb hby d_prog_42_method_4_code_50) rfl k) ?_
    refine Goes.step (B := (T110.setTop (mkF m 53 #[.val (.ref o0), .val (.int (0 : Int32)), .val (.int (0 : Int32)), .val (.int (own_b0 u1))] [(.int (127 : Int32)), (.int (own_b0 u1)), (.int (0 : Int32))]))) (fun _ k => XS.bipush X110.here hx rfl (hb hby d_prog_42_method_4_code_51) k) ?_
    refine Goes.step (B := (T110.setTop (mkF m 54 #[.val (.ref o0), .val (.int (0 : Int32)), .val (.int (0 : Int32)), .val (.int (own_b0 u1))] [(.int ((own_b0 u1) &&& (127 : Int32))), (.int (0 : Int32))]))) (fun _ k => XS.iand X110.here hx rfl (hb hby d_prog_42_method_4_code_53) rfl k) ?_
    refine Goes.step (B := (T110.setTop (mkF m 55 #[.val (.ref o0), .val (.int (0 : Int32)), .val (.int (0 : Int32)), .val (.int (own_b0 u1))] [(.int (0 : Int32)), (.int ((own_b0 u1) &&& (127 : Int32))), (.int (0 : Int32))]))) (fun _ k => XS.iloadN X110.here hx rfl (hb hby d_prog_42_method_4_code_54) rfl k) ?_
    refine Goes.step (B := (T110.setTop (mkF m 56 #[.val (.ref o0), .val (.int (0 : Int32)), .val (.int (0 : Int32)), .val (.int (own_b0 u1))] [(.int (((own_b0 u1) &&& (127 : Int32)) <<< ((0 : Int32) &&& 31))), (.int (0 : Int32))]))) (fun _ k => XS.ishl X110.here hx rfl (hb hby d_prog_42_method_4_code_55) rfl k) ?_
    refine Goes.step (B := (T110.setTop (mkF m 57 #[.val (.ref o0), .val (.int (0 : Int32)), .val (.int (0 : Int32)), .val (.int (own_b0 u1))] [(.int ((0 : Int32) ||| (((own_b0 u1) &&& (127 : Int32)) <<< ((0 : Int32) &&& 31))))]))) (fun _ k => XS.ior X110.here hx rfl (hb hby d_prog_42_method_4_code_56) rfl k) ?_
    refine Goes.step (B := (T110.setTop (mkF m 58 #[.val (.ref o0), .val (.int ((0 : Int32) ||| (((own_b0 u1) &&& (127 : Int32)) <<< ((0 : Int32) &&& 31)))), .val (.int (0 : Int32)), .val (.int (own_b0 u1))] []))) (fun _ k => XS.istoreN X110.here hx rfl (hb hby d_prog_42_method_4_code_57) rfl (l' := #[.val (.ref o0), .val (.int ((0 : Int32) ||| (((own_b0 u1) &&& (127 : Int32)) <<< ((0 : Int32) &&& 31)))), .val (.int (0 : Int32)), .val (.int (own_b0 u1))]) rfl k) ?_
    refine Goes.step (B := (T110.setTop (mkF m 61 #[.val (.ref o0), .val (.int ((0 : Int32) ||| (((own_b0 u1) &&& (127 : Int32)) <<< ((0 : Int32) &&& 31)))), .val (.int (7 : Int32)), .val (.int (own_b0 u1))] []))) (fun _ k => XS.iinc X110.here hx rfl (hb hby d_prog_42_method_4_code_58) rfl (l' := #[.val (.ref o0), .val (.int ((0 : Int32) ||| (((own_b0 u1) &&& (127 : Int32)) <<< ((0 : Int32) &&& 31)))), .val (.int (7 : Int32)), .val (.int (own_b0 u1))]) rfl k) ?_
    refine Goes.step (B := (T110.setTop (mkF m 62 #[.val (.ref o0), .val (.int ((0 : Int32) ||| (((own_b0 u1) &&& (127 : Int32)) <<< ((0 : Int32) &&& 31)))), .val (.int (7 : Int32)), .val (.int (own_b0 u1))] [(.int (own_b0 u1))]))) (fun _ k => XS.iloadN X110.here hx rfl (hb hby d_prog_42_method_4_code_61) rfl k) ?_
    refine Goes.step (B := (T110.setTop (mkF m 65 #[.val (.ref o0), .val (.int ((0 : Int32) ||| (((own_b0 u1) &&& (127 : Int32)) <<< ((0 : Int32) &&& 31)))), .val (.int (7 : Int32)), .val (.int (own_b0 u1))] [(.int (128 : Int32)), (.int (own_b0 u1))]))) (fun _ k => XS.sipush X110.here hx rfl (hb hby d_prog_42_method_4_code_62) k) ?_
    refine Goes.step (B := (T110.setTop (mkF m 66 #[.val (.ref o0), .val (.int ((0 : Int32) ||| (((own_b0 u1) &&& (127 : Int32)) <<< ((0 : Int32) &&& 31)))), .val (.int (7 : Int32)), .val (.int (own_b0 u1))] [(.int ((own_b0 u1) &&& (128 : Int32)))]))) (fun _ k => XS.iand X110.here hx rfl (hb hby d_prog_42_method_4_code_65) rfl k) ?_
    have hc116 : ((own_b0 u1) &&& (128 : Int32)) = (0 : Int32) := own_b0c hk0_101
    refine Goes.step (B := (T110.setTop (mkF m 69 #[.val (.ref o0), .val (.int ((0 : Int32) ||| (((own_b0 u1) &&& (127 : Int32)) <<< ((0 : Int32) &&& 31)))), .val (.int (7 : Int32)), .val (.int (own_b0 u1))] []))) (fun _ k => XS.ifNo X110.here hx rfl (hb hby d_prog_42_method_4_code_66) rfl ((if0 _ _).trans (teq hc116).2) k) ?_
    refine Goes.step (B := (T110.setTop (mkF m 70 #[.val (.ref o0), .val (.int ((0 : Int32) ||| (((own_b0 u1) &&& (127 : Int32)) <<< ((0 : Int32) &&& 31)))), .val (.int (7 : Int32)), .val (.int (own_b0 u1))] [(.int ((0 : Int32) ||| (((own_b0 u1) &&& (127 : Int32)) <<< ((0 : Int32) &&& 31))))]))) (fun _ k => XS.iloadN X110.here hx rfl (hb hby d_prog_42_method_4_code_69) rfl k) ?_
    refine Goes.retI X110 hx hlk hrt (hb hby d_prog_42_method_4_code_70) ?_ (by decide) (by decide)
    rw [e110]
    have en : own_n 4 i1 u1 = (i1 + (1 : Int32)) := by simp only [own_n, if_pos hk0_101]
    rw [← en] at f114
    exact ⟨congrArg (fun z => some (Value.int z)) (own_acc1 u1 hk0_101), N110, K110, f111, f112, f114⟩
  · obtain ⟨eb117, E117⟩ : f1 (i1).toNatClampNeg = own_b1 u1 ∧ own_E 3 f1 (i1 + (1 : Int32)) (own_s u1) := by simpa only [own_E, if_neg hk0_101] using hE
    have B117 : (own_n 3 (i1 + (1 : Int32)) (own_s u1)).toInt ≤ z1.toInt := by have q := hB; simpa only [own_n, if_neg hk0_101] using q
    have lt117 : i1.toInt + 0 < z1.toInt := by have r := own_e ai0 (by omega) (by omega); have q := own_nb 3 (i1 + (1 : Int32)) (own_s u1) (by omega) (by omega); omega
    refine Goes.step (B := (s₁.setTop (mkF m 5 #[.val (.ref o0), .val (.int (0 : Int32)), .val (.int (0 : Int32)), .unset] [(.ref o0)]))) (fun _ k => XS.aloadN X0.here hx rfl (hb hby d_prog_42_method_4_code_4) rfl rfl k) ?_
    obtain ⟨T118, X118, e118, st118⟩ := getF X0 hx hZ hown (host := "") (Or.inl (hw _ (List.mem_of_getElem? (i := 54) rfl))) Via.refl e0 pr2 (g := (mkF m 5 #[.val (.ref o0), .val (.int (0 : Int32)), .val (.int (0 : Int32)), .unset] [(.ref o0)])) rfl rfl (hb hby d_prog_42_method_4_code_5)
    refine Goes.step (B := (T118.setTop (mkF m 8 #[.val (.ref o0), .val (.int (0 : Int32)), .val (.int (0 : Int32)), .unset] [(.int i1)]))) (fun _ k => st118 _ k) ?_
    refine Goes.step (B := (T118.setTop (mkF m 9 #[.val (.ref o0), .val (.int (0 : Int32)), .val (.int (0 : Int32)), .unset] [(.ref o0), (.int i1)]))) (fun _ k => XS.aloadN X118.here hx rfl (hb hby d_prog_42_method_4_code_8) rfl rfl k) ?_
    obtain ⟨T119, X119, e119, st119⟩ := getF X118 hx hZ hown (host := "") (Or.inl (hw _ (List.mem_of_getElem? (i := 47) rfl))) Via.refl e118 pr1 (g := (mkF m 9 #[.val (.ref o0), .val (.int (0 : Int32)), .val (.int (0 : Int32)), .unset] [(.ref o0), (.int i1)])) rfl rfl (hb hby d_prog_42_method_4_code_9)
    refine Goes.step (B := (T119.setTop (mkF m 12 #[.val (.ref o0), .val (.int (0 : Int32)), .val (.int (0 : Int32)), .unset] [(.ref c0), (.int i1)]))) (fun _ k => st119 _ k) ?_
    obtain ⟨cl120, Ar120, q120, S120, M120, H120, G120⟩ := id pr3
    refine Goes.step (B := (T119.setTop (mkF m 13 #[.val (.ref o0), .val (.int (0 : Int32)), .val (.int (0 : Int32)), .unset] [(.int z1), (.int i1)]))) (fun _ k => X119.arraylength hx (by rw [e119]; exact Ar120.1) (State.isArrayOf_alike hZ.alike Ar120.2.1) (g := (mkF m 12 #[.val (.ref o0), .val (.int (0 : Int32)), .val (.int (0 : Int32)), .unset] [(.ref c0), (.int i1)])) rfl rfl (hb hby d_prog_42_method_4_code_12) _ (by rw [len_of S120 M120]; exact k)) ?_
    have hc121 : ¬ (i1 = z1) := own_nez ai0 (rfl : z1.toInt = z1.toInt) lt117
    refine Goes.step (B := (T119.setTop (mkF m 16 #[.val (.ref o0), .val (.int (0 : Int32)), .val (.int (0 : Int32)), .unset] []))) (fun _ k => XS.icmpNo X119.here hx rfl (hb hby d_prog_42_method_4_code_13) rfl (feq hc121).1 k) ?_
    refine Goes.step (B := (T119.setTop (mkF m 17 #[.val (.ref o0), .val (.int (0 : Int32)), .val (.int (0 : Int32)), .unset] [(.int (0 : Int32))]))) (fun _ k => XS.iloadN X119.here hx rfl (hb hby d_prog_42_method_4_code_16) rfl k) ?_
    refine Goes.step (B := (T119.setTop (mkF m 19 #[.val (.ref o0), .val (.int (0 : Int32)), .val (.int (0 : Int32)), .unset] [(.int (28 : Int32)), (.int (0 : Int32))]))) (fun _ k => XS.bipush X119.here hx rfl (hb hby d_prog_42_method_4_code_17) k) ?_
    have hc122 : ¬ ((28 : Int32) < (0 : Int32)) := by decide
    refine Goes.step (B := (T119.setTop (mkF m 32 #[.val (.ref o0), .val (.int (0 : Int32)), .val (.int (0 : Int32)), .unset] []))) (fun _ k => XS.icmpYes X119.here hx rfl (pc0 := 19) (pc' := 32) rfl (hb hby d_prog_42_method_4_code_19) rfl (flt hc122).2.2.2 (by decide) (by decide) k) ?_
    refine Goes.step (B := (T119.setTop (mkF m 33 #[.val (.ref o0), .val (.int (0 : Int32)), .val (.int (0 : Int32)), .unset] [(.ref o0)]))) (fun _ k => XS.aloadN X119.here hx rfl (hb hby d_prog_42_method_4_code_32) rfl rfl k) ?_
    obtain ⟨T123, X123, e123, st123⟩ := getF X119 hx hZ hown (host := "") (Or.inl (hw _ (List.mem_of_getElem? (i := 47) rfl))) Via.refl e119 pr1 (g := (mkF m 33 #[.val (.ref o0), .val (.int (0 : Int32)), .val (.int (0 : Int32)), .unset] [(.ref o0)])) rfl rfl (hb hby d_prog_42_method_4_code_33)
    refine Goes.step (B := (T123.setTop (mkF m 36 #[.val (.ref o0), .val (.int (0 : Int32)), .val (.int (0 : Int32)), .unset] [(.ref c0)]))) (fun _ k => st123 _ k) ?_
    refine Goes.step (B := (T123.setTop (mkF m 37 #[.val (.ref o0), .val (.int (0 : Int32)), .val (.int (0 : Int32)), .unset] [(.ref o0), (.ref c0)]))) (fun _ k => XS.aloadN X123.here hx rfl (hb hby d_prog_42_method_4_code_36) rfl rfl k) ?_
    refine Goes.step (B := (T123.setTop (mkF m 38 #[.val (.ref o0), .val (.int (0 : Int32)), .val (.int (0 : Int32)), .unset] [(.ref o0), (.ref o0), (.ref c0)]))) (fun _ k => XS.dup X123.here hx rfl (hb hby d_prog_42_method_4_code_37) rfl rfl k) ?_
    obtain ⟨T124, X124, e124, st124⟩ := getF X123 hx hZ hown (host := "") (Or.inl (hw _ (List.mem_of_getElem? (i := 54) rfl))) Via.refl e123 pr2 (g := (mkF m 38 #[.val (.ref o0), .val (.int (0 : Int32)), .val (.int (0 : Int32)), .unset] [(.ref o0), (.ref o0), (.ref c0)])) rfl rfl (hb hby d_prog_42_method_4_code_38)
    refine Goes.step (B := (T124.setTop (mkF m 41 #[.val (.ref o0), .val (.int (0 : Int32)), .val (.int (0 : Int32)), .unset] [(.int i1), (.ref o0), (.ref c0)]))) (fun _ k => st124 _ k) ?_
    refine Goes.step (B := (T124.setTop (mkF m 42 #[.val (.ref o0), .val (.int (0 : Int32)), .val (.int (0 : Int32)), .unset] [(.int i1), (.ref o0), (.int i1), (.ref c0)]))) (fun _ k => XS.dupX1 X124.here hx rfl (hb hby d_prog_42_method_4_code_41) rfl rfl rfl k) ?_
    refine Goes.step (B := (T124.setTop (mkF m 43 #[.val (.ref o0), .val (.int (0 : Int32)), .val (.int (0 : Int32)), .unset] [(.int (1 : Int32)), (.int i1), (.ref o0), (.int i1), (.ref c0)]))) (fun _ k => XS.iconst X124.here hx rfl (hb hby d_prog_42_method_4_code_42) k) ?_
    refine Goes.step (B := (T124.setTop (mkF m 44 #[.val (.ref o0), .val (.int (0 : Int32)), .val (.int (0 : Int32)), .unset] [(.int (i1 + (1 : Int32))), (.ref o0), (.int i1), (.ref c0)]))) (fun _ k => XS.iadd X124.here hx rfl (hb hby d_prog_42_method_4_code_43) rfl k) ?_
    obtain ⟨T125, h125, X125, e125, W125, st125⟩ := putF X124 hx hZ hown (host := "") (Or.inl (hw _ (List.mem_of_getElem? (i := 54) rfl))) Via.refl e124 pr2 pr0 (Or.inl (hw _ (List.mem_of_getElem? (i := 55) rfl))) (hw _ (List.mem_of_getElem? (i := 24) rfl)) (ty := .int) (by decide) rfl rfl (g := (mkF m 44 #[.val (.ref o0), .val (.int (0 : Int32)), .val (.int (0 : Int32)), .unset] [(.int (i1 + (1 : Int32))), (.ref o0), (.int i1), (.ref c0)])) rfl rfl (hb hby d_prog_42_method_4_code_44)
    have f126 := pr0.wr W125
    have f127 := pr1.other W125 (Or.inr (slot_ne (Or.inr (hw _ (List.mem_of_getElem? (i := 48) rfl))) (Or.inl (hw _ (List.mem_of_getElem? (i := 55) rfl))) (by decide) (t := (.array .byte)) (t' := .int) (by decide) (by decide)))
    have f128 := pr3.other W125 pr5
    have N125 := Fr.snoc X125 N0 pr4
    have K125 : Keep h0 h125 [o0] := (Keep.refl h0 [o0]).wr W125 (Or.inl (List.mem_of_getElem? (i := 0) rfl))
    have Z125 : n0 ≤ h125.size := Nat.le_trans Z0 (Nat.le_of_eq W125.size.symm)
    have f129 : Fld Z h125 o0 "com/example/kartoteka/kartoteka/index/Varints$Reader" "at" "I" (.int (i1 + (1 : Int32))) := pr2.same W125
    refine Goes.step (B := (T125.setTop (mkF m 47 #[.val (.ref o0), .val (.int (0 : Int32)), .val (.int (0 : Int32)), .unset] [(.int i1), (.ref c0)]))) (fun _ k => st125 _ k) ?_
    obtain ⟨cl130, Ar130, q130, S130, M130, H130, G130⟩ := id f128
    have hin130 : ¬ (i1 < 0 ∨ cl130.slots.size ≤ (i1).toNatClampNeg) := own_in S130 ai0 (rfl : z1.toInt = z1.toInt) (by omega) lt117
    have hat130 : cl130.slots[(i1).toNatClampNeg]? = some (.int (own_b1 u1)) := by rw [H130 _ (by rw [S130]; exact (own_cl ai0 (rfl : z1.toInt = z1.toInt) (by omega) lt117)), own_l_get f1 _ (own_cl ai0 (rfl : z1.toInt = z1.toInt) (by omega) lt117), eb117]
    refine Goes.step (B := (T125.setTop (mkF m 48 #[.val (.ref o0), .val (.int (0 : Int32)), .val (.int (0 : Int32)), .unset] [(.int (own_b1 u1))]))) (fun _ k => X125.baloadBytes hx (j := i1) (v := (.int (own_b1 u1))) (by rw [e125]; exact Ar130.1) (State.isArrayOf_alike hZ.alike Ar130.2.1) Ar130.2.2 hin130 hat130 (g := (mkF m 47 #[.val (.ref o0), .val (.int (0 : Int32)), .val (.int (0 : Int32)), .unset] [(.int i1), (.ref c0)])) rfl rfl (hb hby d_prog_42_method_4_code_47) _ k) ?_
    refine Goes.step (B := (T125.setTop (mkF m 49 #[.val (.ref o0), .val (.int (0 : Int32)), .val (.int (0 : Int32)), .val (.int (own_b1 u1))] []))) (fun _ k => XS.istoreN X125.here hx rfl (hb hby d_prog_42_method_4_code_48) rfl (l' := #[.val (.ref o0), .val (.int (0 : Int32)), .val (.int (0 : Int32)), .val (.int (own_b1 u1))]) rfl k) ?_
    refine Goes.step (B := (T125.setTop (mkF m 50 #[.val (.ref o0), .val (.int (0 : Int32)), .val (.int (0 : Int32)), .val (.int (own_b1 u1))] [(.int (0 : Int32))]))) (fun _ k => XS.iloadN X125.here hx rfl (hb hby d_prog_42_method_4_code_49) rfl k) ?_
    refine Goes.step (B := (T125.setTop (mkF m 51 #[.val (.ref o0), .val (.int (0 : Int32)), .val (.int (0 : Int32)), .val (.int (own_b1 u1))] [(.int (own_b1 u1)), (.int (0 : Int32))]))) (fun _ k => XS.iloadN X125.here hx rfl (hb hby d_prog_42_method_4_code_50) rfl k) ?_
    refine Goes.step (B := (T125.setTop (mkF m 53 #[.val (.ref o0), .val (.int (0 : Int32)), .val (.int (0 : Int32)), .val (.int (own_b1 u1))] [(.int (127 : Int32)), (.int (own_b1 u1)), (.int (0 : Int32))]))) (fun _ k => XS.bipush X125.here hx rfl (hb hby d_prog_42_method_4_code_51) k) ?_
    refine Goes.step (B := (T125.setTop (mkF m 54 #[.val (.ref o0), .val (.int (0 : Int32)), .val (.int (0 : Int32)), .val (.int (own_b1 u1))] [(.int ((own_b1 u1) &&& (127 : Int32))), (.int (0 : Int32))]))) (fun _ k => XS.iand X125.here hx rfl (hb hby d_prog_42_method_4_code_53) rfl k) ?_
    refine Goes.step (B := (T125.setTop (mkF m 55 #[.val (.ref o0), .val (.int (0 : Int32)), .val (.int (0 : Int32)), .val (.int (own_b1 u1))] [(.int (0 : Int32)), (.int ((own_b1 u1) &&& (127 : Int32))), (.int (0 : Int32))]))) (fun _ k => XS.iloadN X125.here hx rfl (hb hby d_prog_42_method_4_code_54) rfl k) ?_
    refine Goes.step (B := (T125.setTop (mkF m 56 #[.val (.ref o0), .val (.int (0 : Int32)), .val (.int (0 : Int32)), .val (.int (own_b1 u1))] [(.int (((own_b1 u1) &&& (127 : Int32)) <<< ((0 : Int32) &&& 31))), (.int (0 : Int32))]))) (fun _ k => XS.ishl X125.here hx rfl (hb hby d_prog_42_method_4_code_55) rfl k) ?_
    refine Goes.step (B := (T125.setTop (mkF m 57 #[.val (.ref o0), .val (.int (0 : Int32)), .val (.int (0 : Int32)), .val (.int (own_b1 u1))] [(.int ((0 : Int32) ||| (((own_b1 u1) &&& (127 : Int32)) <<< ((0 : Int32) &&& 31))))]))) (fun _ k => XS.ior X125.here hx rfl (hb hby d_prog_42_method_4_code_56) rfl k) ?_
    refine Goes.step (B := (T125.setTop (mkF m 58 #[.val (.ref o0), .val (.int ((0 : Int32) ||| (((own_b1 u1) &&& (127 : Int32)) <<< ((0 : Int32) &&& 31)))), .val (.int (0 : Int32)), .val (.int (own_b1 u1))] []))) (fun _ k => XS.istoreN X125.here hx rfl (hb hby d_prog_42_method_4_code_57) rfl (l' := #[.val (.ref o0), .val (.int ((0 : Int32) ||| (((own_b1 u1) &&& (127 : Int32)) <<< ((0 : Int32) &&& 31)))), .val (.int (0 : Int32)), .val (.int (own_b1 u1))]) rfl k) ?_
    refine Goes.step (B := (T125.setTop (mkF m 61 #[.val (.ref o0), .val (.int ((0 : Int32) ||| (((own_b1 u1) &&& (127 : Int32)) <<< ((0 : Int32) &&& 31)))), .val (.int (7 : Int32)), .val (.int (own_b1 u1))] []))) (fun _ k => XS.iinc X125.here hx rfl (hb hby d_prog_42_method_4_code_58) rfl (l' := #[.val (.ref o0), .val (.int ((0 : Int32) ||| (((own_b1 u1) &&& (127 : Int32)) <<< ((0 : Int32) &&& 31)))), .val (.int (7 : Int32)), .val (.int (own_b1 u1))]) rfl k) ?_
    refine Goes.step (B := (T125.setTop (mkF m 62 #[.val (.ref o0), .val (.int ((0 : Int32) ||| (((own_b1 u1) &&& (127 : Int32)) <<< ((0 : Int32) &&& 31)))), .val (.int (7 : Int32)), .val (.int (own_b1 u1))] [(.int (own_b1 u1))]))) (fun _ k => XS.iloadN X125.here hx rfl (hb hby d_prog_42_method_4_code_61) rfl k) ?_
    refine Goes.step (B := (T125.setTop (mkF m 65 #[.val (.ref o0), .val (.int ((0 : Int32) ||| (((own_b1 u1) &&& (127 : Int32)) <<< ((0 : Int32) &&& 31)))), .val (.int (7 : Int32)), .val (.int (own_b1 u1))] [(.int (128 : Int32)), (.int (own_b1 u1))]))) (fun _ k => XS.sipush X125.here hx rfl (hb hby d_prog_42_method_4_code_62) k) ?_
    refine Goes.step (B := (T125.setTop (mkF m 66 #[.val (.ref o0), .val (.int ((0 : Int32) ||| (((own_b1 u1) &&& (127 : Int32)) <<< ((0 : Int32) &&& 31)))), .val (.int (7 : Int32)), .val (.int (own_b1 u1))] [(.int ((own_b1 u1) &&& (128 : Int32)))]))) (fun _ k => XS.iand X125.here hx rfl (hb hby d_prog_42_method_4_code_65) rfl k) ?_
    have hc131 : ¬ (((own_b1 u1) &&& (128 : Int32)) = (0 : Int32)) := own_b1c _
    refine Goes.step (B := (T125.setTop (mkF m 71 #[.val (.ref o0), .val (.int ((0 : Int32) ||| (((own_b1 u1) &&& (127 : Int32)) <<< ((0 : Int32) &&& 31)))), .val (.int (7 : Int32)), .val (.int (own_b1 u1))] []))) (fun _ k => XS.ifYes X125.here hx rfl (pc0 := 66) (pc' := 71) rfl (hb hby d_prog_42_method_4_code_66) rfl ((if0 _ _).trans (feq hc131).2) (by decide) (by decide) k) ?_
    refine Goes.step (B := (T125.setTop (mkF m 4 #[.val (.ref o0), .val (.int ((0 : Int32) ||| (((own_b1 u1) &&& (127 : Int32)) <<< ((0 : Int32) &&& 31)))), .val (.int (7 : Int32)), .val (.int (own_b1 u1))] []))) (fun _ k => XS.goto X125.here hx rfl (pc0 := 71) (pc' := 4) rfl (hb hby d_prog_42_method_4_code_71) (by decide) (by decide) k) ?_
    have ai1 : (i1 + (1 : Int32)).toInt = i1.toInt + 1 := (own_e ai0 (by omega) (by omega)).trans (by omega)
    by_cases hk1_132 : ((own_s u1) &&& (-128 : Int32)) = (0 : Int32)
    · have eb133 : f1 ((i1 + (1 : Int32))).toNatClampNeg = own_b0 (own_s u1) := by simpa only [own_E, if_pos hk1_132] using E117
      have lt133 : i1.toInt + 1 < z1.toInt := by have q := B117; simp only [own_n, if_pos hk1_132] at q; have r := own_e ai1 (by omega) (by omega); omega
      refine Goes.step (B := (T125.setTop (mkF m 5 #[.val (.ref o0), .val (.int ((0 : Int32) ||| (((own_b1 u1) &&& (127 : Int32)) <<< ((0 : Int32) &&& 31)))), .val (.int (7 : Int32)), .val (.int (own_b1 u1))] [(.ref o0)]))) (fun _ k => XS.aloadN X125.here hx rfl (hb hby d_prog_42_method_4_code_4) rfl rfl k) ?_
      obtain ⟨T134, X134, e134, st134⟩ := getF X125 hx hZ hown (host := "") (Or.inl (hw _ (List.mem_of_getElem? (i := 54) rfl))) Via.refl e125 f129 (g := (mkF m 5 #[.val (.ref o0), .val (.int ((0 : Int32) ||| (((own_b1 u1) &&& (127 : Int32)) <<< ((0 : Int32) &&& 31)))), .val (.int (7 : Int32)), .val (.int (own_b1 u1))] [(.ref o0)])) rfl rfl (hb hby d_prog_42_method_4_code_5)
      refine Goes.step (B := (T134.setTop (mkF m 8 #[.val (.ref o0), .val (.int ((0 : Int32) ||| (((own_b1 u1) &&& (127 : Int32)) <<< ((0 : Int32) &&& 31)))), .val (.int (7 : Int32)), .val (.int (own_b1 u1))] [(.int (i1 + (1 : Int32)))]))) (fun _ k => st134 _ k) ?_
      refine Goes.step (B := (T134.setTop (mkF m 9 #[.val (.ref o0), .val (.int ((0 : Int32) ||| (((own_b1 u1) &&& (127 : Int32)) <<< ((0 : Int32) &&& 31)))), .val (.int (7 : Int32)), .val (.int (own_b1 u1))] [(.ref o0), (.int (i1 + (1 : Int32)))]))) (fun _ k => XS.aloadN X134.here hx rfl (hb hby d_prog_42_method_4_code_8) rfl rfl k) ?_
      obtain ⟨T135, X135, e135, st135⟩ := getF X134 hx hZ hown (host := "") (Or.inl (hw _ (List.mem_of_getElem? (i := 47) rfl))) Via.refl e134 f127 (g := (mkF m 9 #[.val (.ref o0), .val (.int ((0 : Int32) ||| (((own_b1 u1) &&& (127 : Int32)) <<< ((0 : Int32) &&& 31)))), .val (.int (7 : Int32)), .val (.int (own_b1 u1))] [(.ref o0), (.int (i1 + (1 : Int32)))])) rfl rfl (hb hby d_prog_42_method_4_code_9)
      refine Goes.step (B := (T135.setTop (mkF m 12 #[.val (.ref o0), .val (.int ((0 : Int32) ||| (((own_b1 u1) &&& (127 : Int32)) <<< ((0 : Int32) &&& 31)))), .val (.int (7 : Int32)), .val (.int (own_b1 u1))] [(.ref c0), (.int (i1 + (1 : Int32)))]))) (fun _ k => st135 _ k) ?_
      obtain ⟨cl136, Ar136, q136, S136, M136, H136, G136⟩ := id f128
      refine Goes.step (B := (T135.setTop (mkF m 13 #[.val (.ref o0), .val (.int ((0 : Int32) ||| (((own_b1 u1) &&& (127 : Int32)) <<< ((0 : Int32) &&& 31)))), .val (.int (7 : Int32)), .val (.int (own_b1 u1))] [(.int z1), (.int (i1 + (1 : Int32)))]))) (fun _ k => X135.arraylength hx (by rw [e135]; exact Ar136.1) (State.isArrayOf_alike hZ.alike Ar136.2.1) (g := (mkF m 12 #[.val (.ref o0), .val (.int ((0 : Int32) ||| (((own_b1 u1) &&& (127 : Int32)) <<< ((0 : Int32) &&& 31)))), .val (.int (7 : Int32)), .val (.int (own_b1 u1))] [(.ref c0), (.int (i1 + (1 : Int32)))])) rfl rfl (hb hby d_prog_42_method_4_code_12) _ (by rw [len_of S136 M136]; exact k)) ?_
      have hc137 : ¬ ((i1 + (1 : Int32)) = z1) := own_nez ai1 (rfl : z1.toInt = z1.toInt) lt133
      refine Goes.step (B := (T135.setTop (mkF m 16 #[.val (.ref o0), .val (.int ((0 : Int32) ||| (((own_b1 u1) &&& (127 : Int32)) <<< ((0 : Int32) &&& 31)))), .val (.int (7 : Int32)), .val (.int (own_b1 u1))] []))) (fun _ k => XS.icmpNo X135.here hx rfl (hb hby d_prog_42_method_4_code_13) rfl (feq hc137).1 k) ?_
      refine Goes.step (B := (T135.setTop (mkF m 17 #[.val (.ref o0), .val (.int ((0 : Int32) ||| (((own_b1 u1) &&& (127 : Int32)) <<< ((0 : Int32) &&& 31)))), .val (.int (7 : Int32)), .val (.int (own_b1 u1))] [(.int (7 : Int32))]))) (fun _ k => XS.iloadN X135.here hx rfl (hb hby d_prog_42_method_4_code_16) rfl k) ?_
      refine Goes.step (B := (T135.setTop (mkF m 19 #[.val (.ref o0), .val (.int ((0 : Int32) ||| (((own_b1 u1) &&& (127 : Int32)) <<< ((0 : Int32) &&& 31)))), .val (.int (7 : Int32)), .val (.int (own_b1 u1))] [(.int (28 : Int32)), (.int (7 : Int32))]))) (fun _ k => XS.bipush X135.here hx rfl (hb hby d_prog_42_method_4_code_17) k) ?_
      have hc138 : ¬ ((28 : Int32) < (7 : Int32)) := by decide
      refine Goes.step (B := (T135.setTop (mkF m 32 #[.val (.ref o0), .val (.int ((0 : Int32) ||| (((own_b1 u1) &&& (127 : Int32)) <<< ((0 : Int32) &&& 31)))), .val (.int (7 : Int32)), .val (.int (own_b1 u1))] []))) (fun _ k => XS.icmpYes X135.here hx rfl (pc0 := 19) (pc' := 32) rfl (hb hby d_prog_42_method_4_code_19) rfl (flt hc138).2.2.2 (by decide) (by decide) k) ?_
      refine Goes.step (B := (T135.setTop (mkF m 33 #[.val (.ref o0), .val (.int ((0 : Int32) ||| (((own_b1 u1) &&& (127 : Int32)) <<< ((0 : Int32) &&& 31)))), .val (.int (7 : Int32)), .val (.int (own_b1 u1))] [(.ref o0)]))) (fun _ k => XS.aloadN X135.here hx rfl (hb hby d_prog_42_method_4_code_32) rfl rfl k) ?_
      obtain ⟨T139, X139, e139, st139⟩ := getF X135 hx hZ hown (host := "") (Or.inl (hw _ (List.mem_of_getElem? (i := 47) rfl))) Via.refl e135 f127 (g := (mkF m 33 #[.val (.ref o0), .val (.int ((0 : Int32) ||| (((own_b1 u1) &&& (127 : Int32)) <<< ((0 : Int32) &&& 31)))), .val (.int (7 : Int32)), .val (.int (own_b1 u1))] [(.ref o0)])) rfl rfl (hb hby d_prog_42_method_4_code_33)
      refine Goes.step (B := (T139.setTop (mkF m 36 #[.val (.ref o0), .val (.int ((0 : Int32) ||| (((own_b1 u1) &&& (127 : Int32)) <<< ((0 : Int32) &&& 31)))), .val (.int (7 : Int32)), .val (.int (own_b1 u1))] [(.ref c0)]))) (fun _ k => st139 _ k) ?_
      refine Goes.step (B := (T139.setTop (mkF m 37 #[.val (.ref o0), .val (.int ((0 : Int32) ||| (((own_b1 u1) &&& (127 : Int32)) <<< ((0 : Int32) &&& 31)))), .val (.int (7 : Int32)), .val (.int (own_b1 u1))] [(.ref o0), (.ref c0)]))) (fun _ k => XS.aloadN X139.here hx rfl (hb hby d_prog_42_method_4_code_36) rfl rfl k) ?_
      refine Goes.step (B := (T139.setTop (mkF m 38 #[.val (.ref o0), .val (.int ((0 : Int32) ||| (((own_b1 u1) &&& (127 : Int32)) <<< ((0 : Int32) &&& 31)))), .val (.int (7 : Int32)), .val (.int (own_b1 u1))] [(.ref o0), (.ref o0), (.ref c0)]))) (fun _ k => XS.dup X139.here hx rfl (hb hby d_prog_42_method_4_code_37) rfl rfl k) ?_
      obtain ⟨T140, X140, e140, st140⟩ := getF X139 hx hZ hown (host := "") (Or.inl (hw _ (List.mem_of_getElem? (i := 54) rfl))) Via.refl e139 f129 (g := (mkF m 38 #[.val (.ref o0), .val (.int ((0 : Int32) ||| (((own_b1 u1) &&& (127 : Int32)) <<< ((0 : Int32) &&& 31)))), .val (.int (7 : Int32)), .val (.int (own_b1 u1))] [(.ref o0), (.ref o0), (.ref c0)])) rfl rfl (hb hby d_prog_42_method_4_code_38)
      refine Goes.step (B := (T140.setTop (mkF m 41 #[.val (.ref o0), .val (.int ((0 : Int32) ||| (((own_b1 u1) &&& (127 : Int32)) <<< ((0 : Int32) &&& 31)))), .val (.int (7 : Int32)), .val (.int (own_b1 u1))] [(.int (i1 + (1 : Int32))), (.ref o0), (.ref c0)]))) (fun _ k => st140 _ k) ?_
      refine Goes.step (B := (T140.setTop (mkF m 42 #[.val (.ref o0), .val (.int ((0 : Int32) ||| (((own_b1 u1) &&& (127 : Int32)) <<< ((0 : Int32) &&& 31)))), .val (.int (7 : Int32)), .val (.int (own_b1 u1))] [(.int (i1 + (1 : Int32))), (.ref o0), (.int (i1 + (1 : Int32))), (.ref c0)]))) (fun _ k => XS.dupX1 X140.here hx rfl (hb hby d_prog_42_method_4_code_41) rfl rfl rfl k) ?_
      refine Goes.step (B := (T140.setTop (mkF m 43 #[.val (.ref o0), .val (.int ((0 : Int32) ||| (((own_b1 u1) &&& (127 : Int32)) <<< ((0 : Int32) &&& 31)))), .val (.int (7 : Int32)), .val (.int (own_b1 u1))] [(.int (1 : Int32)), (.int (i1 + (1 : Int32))), (.ref o0), (.int (i1 + (1 : Int32))), (.ref c0)]))) (fun _ k => XS.iconst X140.here hx rfl (hb hby d_prog_42_method_4_code_42) k) ?_
      refine Goes.step (B := (T140.setTop (mkF m 44 #[.val (.ref o0), .val (.int ((0 : Int32) ||| (((own_b1 u1) &&& (127 : Int32)) <<< ((0 : Int32) &&& 31)))), .val (.int (7 : Int32)), .val (.int (own_b1 u1))] [(.int ((i1 + (1 : Int32)) + (1 : Int32))), (.ref o0), (.int (i1 + (1 : Int32))), (.ref c0)]))) (fun _ k => XS.iadd X140.here hx rfl (hb hby d_prog_42_method_4_code_43) rfl k) ?_
      obtain ⟨T141, h141, X141, e141, W141, st141⟩ := putF X140 hx hZ hown (host := "") (Or.inl (hw _ (List.mem_of_getElem? (i := 54) rfl))) Via.refl e140 f129 f126 (Or.inl (hw _ (List.mem_of_getElem? (i := 55) rfl))) (hw _ (List.mem_of_getElem? (i := 24) rfl)) (ty := .int) (by decide) rfl rfl (g := (mkF m 44 #[.val (.ref o0), .val (.int ((0 : Int32) ||| (((own_b1 u1) &&& (127 : Int32)) <<< ((0 : Int32) &&& 31)))), .val (.int (7 : Int32)), .val (.int (own_b1 u1))] [(.int ((i1 + (1 : Int32)) + (1 : Int32))), (.ref o0), (.int (i1 + (1 : Int32))), (.ref c0)])) rfl rfl (hb hby d_prog_42_method_4_code_44)
      have f142 := f126.wr W141
      have f143 := f127.other W141 (Or.inr (slot_ne (Or.inr (hw _ (List.mem_of_getElem? (i := 48) rfl))) (Or.inl (hw _ (List.mem_of_getElem? (i := 55) rfl))) (by decide) (t := (.array .byte)) (t' := .int) (by decide) (by decide)))
      have f144 := f128.other W141 pr5
      have N141 := Fr.snoc X141 N125 pr4
      have K141 : Keep h0 h141 [o0] := K125.wr W141 (Or.inl (List.mem_of_getElem? (i := 0) rfl))
      have Z141 : n0 ≤ h141.size := Nat.le_trans Z125 (Nat.le_of_eq W141.size.symm)
      have f145 : Fld Z h141 o0 "com/example/kartoteka/kartoteka/index/Varints$Reader" "at" "I" (.int ((i1 + (1 : Int32)) + (1 : Int32))) := f129.same W141
      refine Goes.step (B := (T141.setTop (mkF m 47 #[.val (.ref o0), .val (.int ((0 : Int32) ||| (((own_b1 u1) &&& (127 : Int32)) <<< ((0 : Int32) &&& 31)))), .val (.int (7 : Int32)), .val (.int (own_b1 u1))] [(.int (i1 + (1 : Int32))), (.ref c0)]))) (fun _ k => st141 _ k) ?_
      obtain ⟨cl146, Ar146, q146, S146, M146, H146, G146⟩ := id f144
      have hin146 : ¬ ((i1 + (1 : Int32)) < 0 ∨ cl146.slots.size ≤ ((i1 + (1 : Int32))).toNatClampNeg) := own_in S146 ai1 (rfl : z1.toInt = z1.toInt) (by omega) lt133
      have hat146 : cl146.slots[((i1 + (1 : Int32))).toNatClampNeg]? = some (.int (own_b0 (own_s u1))) := by rw [H146 _ (by rw [S146]; exact (own_cl ai1 (rfl : z1.toInt = z1.toInt) (by omega) lt133)), own_l_get f1 _ (own_cl ai1 (rfl : z1.toInt = z1.toInt) (by omega) lt133), eb133]
      refine Goes.step (B := (T141.setTop (mkF m 48 #[.val (.ref o0), .val (.int ((0 : Int32) ||| (((own_b1 u1) &&& (127 : Int32)) <<< ((0 : Int32) &&& 31)))), .val (.int (7 : Int32)), .val (.int (own_b1 u1))] [(.int (own_b0 (own_s u1)))]))) (fun _ k => X141.baloadBytes hx (j := (i1 + (1 : Int32))) (v := (.int (own_b0 (own_s u1)))) (by rw [e141]; exact Ar146.1) (State.isArrayOf_alike hZ.alike Ar146.2.1) Ar146.2.2 hin146 hat146 (g := (mkF m 47 #[.val (.ref o0), .val (.int ((0 : Int32) ||| (((own_b1 u1) &&& (127 : Int32)) <<< ((0 : Int32) &&& 31)))), .val (.int (7 : Int32)), .val (.int (own_b1 u1))] [(.int (i1 + (1 : Int32))), (.ref c0)])) rfl rfl (hb hby d_prog_42_method_4_code_47) _ k) ?_
      refine Goes.step (B := (T141.setTop (mkF m 49 #[.val (.ref o0), .val (.int ((0 : Int32) ||| (((own_b1 u1) &&& (127 : Int32)) <<< ((0 : Int32) &&& 31)))), .val (.int (7 : Int32)), .val (.int (own_b0 (own_s u1)))] []))) (fun _ k => XS.istoreN X141.here hx rfl (hb hby d_prog_42_method_4_code_48) rfl (l' := #[.val (.ref o0), .val (.int ((0 : Int32) ||| (((own_b1 u1) &&& (127 : Int32)) <<< ((0 : Int32) &&& 31)))), .val (.int (7 : Int32)), .val (.int (own_b0 (own_s u1)))]) rfl k) ?_
      refine Goes.step (B := (T141.setTop (mkF m 50 #[.val (.ref o0), .val (.int ((0 : Int32) ||| (((own_b1 u1) &&& (127 : Int32)) <<< ((0 : Int32) &&& 31)))), .val (.int (7 : Int32)), .val (.int (own_b0 (own_s u1)))] [(.int ((0 : Int32) ||| (((own_b1 u1) &&& (127 : Int32)) <<< ((0 : Int32) &&& 31))))]))) (fun _ k => XS.iloadN X141.here hx rfl (hb hby d_prog_42_method_4_code_49) rfl k) ?_
      refine Goes.step (B := (T141.setTop (mkF m 51 #[.val (.ref o0), .val (.int ((0 : Int32) ||| (((own_b1 u1) &&& (127 : Int32)) <<< ((0 : Int32) &&& 31)))), .val (.int (7 : Int32)), .val (.int (own_b0 (own_s u1)))] [(.int (own_b0 (own_s u1))), (.int ((0 : Int32) ||| (((own_b1 u1) &&& (127 : Int32)) <<< ((0 : Int32) &&& 31))))]))) (fun _ k => XS.iloadN X141.here hx rfl (hb hby d_prog_42_method_4_code_50) rfl k) ?_
      refine Goes.step (B := (T141.setTop (mkF m 53 #[.val (.ref o0), .val (.int ((0 : Int32) ||| (((own_b1 u1) &&& (127 : Int32)) <<< ((0 : Int32) &&& 31)))), .val (.int (7 : Int32)), .val (.int (own_b0 (own_s u1)))] [(.int (127 : Int32)), (.int (own_b0 (own_s u1))), (.int ((0 : Int32) ||| (((own_b1 u1) &&& (127 : Int32)) <<< ((0 : Int32) &&& 31))))]))) (fun _ k => XS.bipush X141.here hx rfl (hb hby d_prog_42_method_4_code_51) k) ?_
      refine Goes.step (B := (T141.setTop (mkF m 54 #[.val (.ref o0), .val (.int ((0 : Int32) ||| (((own_b1 u1) &&& (127 : Int32)) <<< ((0 : Int32) &&& 31)))), .val (.int (7 : Int32)), .val (.int (own_b0 (own_s u1)))] [(.int ((own_b0 (own_s u1)) &&& (127 : Int32))), (.int ((0 : Int32) ||| (((own_b1 u1) &&& (127 : Int32)) <<< ((0 : Int32) &&& 31))))]))) (fun _ k => XS.iand X141.here hx rfl (hb hby d_prog_42_method_4_code_53) rfl k) ?_
      refine Goes.step (B := (T141.setTop (mkF m 55 #[.val (.ref o0), .val (.int ((0 : Int32) ||| (((own_b1 u1) &&& (127 : Int32)) <<< ((0 : Int32) &&& 31)))), .val (.int (7 : Int32)), .val (.int (own_b0 (own_s u1)))] [(.int (7 : Int32)), (.int ((own_b0 (own_s u1)) &&& (127 : Int32))), (.int ((0 : Int32) ||| (((own_b1 u1) &&& (127 : Int32)) <<< ((0 : Int32) &&& 31))))]))) (fun _ k => XS.iloadN X141.here hx rfl (hb hby d_prog_42_method_4_code_54) rfl k) ?_
      refine Goes.step (B := (T141.setTop (mkF m 56 #[.val (.ref o0), .val (.int ((0 : Int32) ||| (((own_b1 u1) &&& (127 : Int32)) <<< ((0 : Int32) &&& 31)))), .val (.int (7 : Int32)), .val (.int (own_b0 (own_s u1)))] [(.int (((own_b0 (own_s u1)) &&& (127 : Int32)) <<< ((7 : Int32) &&& 31))), (.int ((0 : Int32) ||| (((own_b1 u1) &&& (127 : Int32)) <<< ((0 : Int32) &&& 31))))]))) (fun _ k => XS.ishl X141.here hx rfl (hb hby d_prog_42_method_4_code_55) rfl k) ?_
      refine Goes.step (B := (T141.setTop (mkF m 57 #[.val (.ref o0), .val (.int ((0 : Int32) ||| (((own_b1 u1) &&& (127 : Int32)) <<< ((0 : Int32) &&& 31)))), .val (.int (7 : Int32)), .val (.int (own_b0 (own_s u1)))] [(.int (((0 : Int32) ||| (((own_b1 u1) &&& (127 : Int32)) <<< ((0 : Int32) &&& 31))) ||| (((own_b0 (own_s u1)) &&& (127 : Int32)) <<< ((7 : Int32) &&& 31))))]))) (fun _ k => XS.ior X141.here hx rfl (hb hby d_prog_42_method_4_code_56) rfl k) ?_
      refine Goes.step (B := (T141.setTop (mkF m 58 #[.val (.ref o0), .val (.int (((0 : Int32) ||| (((own_b1 u1) &&& (127 : Int32)) <<< ((0 : Int32) &&& 31))) ||| (((own_b0 (own_s u1)) &&& (127 : Int32)) <<< ((7 : Int32) &&& 31)))), .val (.int (7 : Int32)), .val (.int (own_b0 (own_s u1)))] []))) (fun _ k => XS.istoreN X141.here hx rfl (hb hby d_prog_42_method_4_code_57) rfl (l' := #[.val (.ref o0), .val (.int (((0 : Int32) ||| (((own_b1 u1) &&& (127 : Int32)) <<< ((0 : Int32) &&& 31))) ||| (((own_b0 (own_s u1)) &&& (127 : Int32)) <<< ((7 : Int32) &&& 31)))), .val (.int (7 : Int32)), .val (.int (own_b0 (own_s u1)))]) rfl k) ?_
      refine Goes.step (B := (T141.setTop (mkF m 61 #[.val (.ref o0), .val (.int (((0 : Int32) ||| (((own_b1 u1) &&& (127 : Int32)) <<< ((0 : Int32) &&& 31))) ||| (((own_b0 (own_s u1)) &&& (127 : Int32)) <<< ((7 : Int32) &&& 31)))), .val (.int (14 : Int32)), .val (.int (own_b0 (own_s u1)))] []))) (fun _ k => XS.iinc X141.here hx rfl (hb hby d_prog_42_method_4_code_58) rfl (l' := #[.val (.ref o0), .val (.int (((0 : Int32) ||| (((own_b1 u1) &&& (127 : Int32)) <<< ((0 : Int32) &&& 31))) ||| (((own_b0 (own_s u1)) &&& (127 : Int32)) <<< ((7 : Int32) &&& 31)))), .val (.int (14 : Int32)), .val (.int (own_b0 (own_s u1)))]) rfl k) ?_
      refine Goes.step (B := (T141.setTop (mkF m 62 #[.val (.ref o0), .val (.int (((0 : Int32) ||| (((own_b1 u1) &&& (127 : Int32)) <<< ((0 : Int32) &&& 31))) ||| (((own_b0 (own_s u1)) &&& (127 : Int32)) <<< ((7 : Int32) &&& 31)))), .val (.int (14 : Int32)), .val (.int (own_b0 (own_s u1)))] [(.int (own_b0 (own_s u1)))]))) (fun _ k => XS.iloadN X141.here hx rfl (hb hby d_prog_42_method_4_code_61) rfl k) ?_
      refine Goes.step (B := (T141.setTop (mkF m 65 #[.val (.ref o0), .val (.int (((0 : Int32) ||| (((own_b1 u1) &&& (127 : Int32)) <<< ((0 : Int32) &&& 31))) ||| (((own_b0 (own_s u1)) &&& (127 : Int32)) <<< ((7 : Int32) &&& 31)))), .val (.int (14 : Int32)), .val (.int (own_b0 (own_s u1)))] [(.int (128 : Int32)), (.int (own_b0 (own_s u1)))]))) (fun _ k => XS.sipush X141.here hx rfl (hb hby d_prog_42_method_4_code_62) k) ?_
      refine Goes.step (B := (T141.setTop (mkF m 66 #[.val (.ref o0), .val (.int (((0 : Int32) ||| (((own_b1 u1) &&& (127 : Int32)) <<< ((0 : Int32) &&& 31))) ||| (((own_b0 (own_s u1)) &&& (127 : Int32)) <<< ((7 : Int32) &&& 31)))), .val (.int (14 : Int32)), .val (.int (own_b0 (own_s u1)))] [(.int ((own_b0 (own_s u1)) &&& (128 : Int32)))]))) (fun _ k => XS.iand X141.here hx rfl (hb hby d_prog_42_method_4_code_65) rfl k) ?_
      have hc147 : ((own_b0 (own_s u1)) &&& (128 : Int32)) = (0 : Int32) := own_b0c hk1_132
      refine Goes.step (B := (T141.setTop (mkF m 69 #[.val (.ref o0), .val (.int (((0 : Int32) ||| (((own_b1 u1) &&& (127 : Int32)) <<< ((0 : Int32) &&& 31))) ||| (((own_b0 (own_s u1)) &&& (127 : Int32)) <<< ((7 : Int32) &&& 31)))), .val (.int (14 : Int32)), .val (.int (own_b0 (own_s u1)))] []))) (fun _ k => XS.ifNo X141.here hx rfl (hb hby d_prog_42_method_4_code_66) rfl ((if0 _ _).trans (teq hc147).2) k) ?_
      refine Goes.step (B := (T141.setTop (mkF m 70 #[.val (.ref o0), .val (.int (((0 : Int32) ||| (((own_b1 u1) &&& (127 : Int32)) <<< ((0 : Int32) &&& 31))) ||| (((own_b0 (own_s u1)) &&& (127 : Int32)) <<< ((7 : Int32) &&& 31)))), .val (.int (14 : Int32)), .val (.int (own_b0 (own_s u1)))] [(.int (((0 : Int32) ||| (((own_b1 u1) &&& (127 : Int32)) <<< ((0 : Int32) &&& 31))) ||| (((own_b0 (own_s u1)) &&& (127 : Int32)) <<< ((7 : Int32) &&& 31))))]))) (fun _ k => XS.iloadN X141.here hx rfl (hb hby d_prog_42_method_4_code_69) rfl k) ?_
      refine Goes.retI X141 hx hlk hrt (hb hby d_prog_42_method_4_code_70) ?_ (by decide) (by decide)
      rw [e141]
      have en : own_n 4 i1 u1 = ((i1 + (1 : Int32)) + (1 : Int32)) := by simp only [own_n, if_neg hk0_101, if_pos hk1_132]
      rw [← en] at f145
      exact ⟨congrArg (fun z => some (Value.int z)) (own_acc2 u1 hk1_132), N141, K141, f142, f143, f145⟩
    · obtain ⟨eb148, E148⟩ : f1 ((i1 + (1 : Int32))).toNatClampNeg = own_b1 (own_s u1) ∧ own_E 2 f1 ((i1 + (1 : Int32)) + (1 : Int32)) (own_s (own_s u1)) := by simpa only [own_E, if_neg hk1_132] using E117
      have B148 : (own_n 2 ((i1 + (1 : Int32)) + (1 : Int32)) (own_s (own_s u1))).toInt ≤ z1.toInt := by have q := B117; simpa only [own_n, if_neg hk1_132] using q
      have lt148 : i1.toInt + 1 < z1.toInt := by have r := own_e ai1 (by omega) (by omega); have q := own_nb 2 ((i1 + (1 : Int32)) + (1 : Int32)) (own_s (own_s u1)) (by omega) (by omega); omega
      refine Goes.step (B := (T125.setTop (mkF m 5 #[.val (.ref o0), .val (.int ((0 : Int32) ||| (((own_b1 u1) &&& (127 : Int32)) <<< ((0 : Int32) &&& 31)))), .val (.int (7 : Int32)), .val (.int (own_b1 u1))] [(.ref o0)]))) (fun _ k => XS.aloadN X125.here hx rfl (hb hby d_prog_42_method_4_code_4) rfl rfl k) ?_
      obtain ⟨T149, X149, e149, st149⟩ := getF X125 hx hZ hown (host := "") (Or.inl (hw _ (List.mem_of_getElem? (i := 54) rfl))) Via.refl e125 f129 (g := (mkF m 5 #[.val (.ref o0), .val (.int ((0 : Int32) ||| (((own_b1 u1) &&& (127 : Int32)) <<< ((0 : Int32) &&& 31)))), .val (.int (7 : Int32)), .val (.int (own_b1 u1))] [(.ref o0)])) rfl rfl (hb hby d_prog_42_method_4_code_5)
      refine Goes.step (B := (T149.setTop (mkF m 8 #[.val (.ref o0), .val (.int ((0 : Int32) ||| (((own_b1 u1) &&& (127 : Int32)) <<< ((0 : Int32) &&& 31)))), .val (.int (7 : Int32)), .val (.int (own_b1 u1))] [(.int (i1 + (1 : Int32)))]))) (fun _ k => st149 _ k) ?_
      refine Goes.step (B := (T149.setTop (mkF m 9 #[.val (.ref o0), .val (.int ((0 : Int32) ||| (((own_b1 u1) &&& (127 : Int32)) <<< ((0 : Int32) &&& 31)))), .val (.int (7 : Int32)), .val (.int (own_b1 u1))] [(.ref o0), (.int (i1 + (1 : Int32)))]))) (fun _ k => XS.aloadN X149.here hx rfl (hb hby d_prog_42_method_4_code_8) rfl rfl k) ?_
      obtain ⟨T150, X150, e150, st150⟩ := getF X149 hx hZ hown (host := "") (Or.inl (hw _ (List.mem_of_getElem? (i := 47) rfl))) Via.refl e149 f127 (g := (mkF m 9 #[.val (.ref o0), .val (.int ((0 : Int32) ||| (((own_b1 u1) &&& (127 : Int32)) <<< ((0 : Int32) &&& 31)))), .val (.int (7 : Int32)), .val (.int (own_b1 u1))] [(.ref o0), (.int (i1 + (1 : Int32)))])) rfl rfl (hb hby d_prog_42_method_4_code_9)
      refine Goes.step (B := (T150.setTop (mkF m 12 #[.val (.ref o0), .val (.int ((0 : Int32) ||| (((own_b1 u1) &&& (127 : Int32)) <<< ((0 : Int32) &&& 31)))), .val (.int (7 : Int32)), .val (.int (own_b1 u1))] [(.ref c0), (.int (i1 + (1 : Int32)))]))) (fun _ k => st150 _ k) ?_
      obtain ⟨cl151, Ar151, q151, S151, M151, H151, G151⟩ := id f128
      refine Goes.step (B := (T150.setTop (mkF m 13 #[.val (.ref o0), .val (.int ((0 : Int32) ||| (((own_b1 u1) &&& (127 : Int32)) <<< ((0 : Int32) &&& 31)))), .val (.int (7 : Int32)), .val (.int (own_b1 u1))] [(.int z1), (.int (i1 + (1 : Int32)))]))) (fun _ k => X150.arraylength hx (by rw [e150]; exact Ar151.1) (State.isArrayOf_alike hZ.alike Ar151.2.1) (g := (mkF m 12 #[.val (.ref o0), .val (.int ((0 : Int32) ||| (((own_b1 u1) &&& (127 : Int32)) <<< ((0 : Int32) &&& 31)))), .val (.int (7 : Int32)), .val (.int (own_b1 u1))] [(.ref c0), (.int (i1 + (1 : Int32)))])) rfl rfl (hb hby d_prog_42_method_4_code_12) _ (by rw [len_of S151 M151]; exact k)) ?_
      have hc152 : ¬ ((i1 + (1 : Int32)) = z1) := own_nez ai1 (rfl : z1.toInt = z1.toInt) lt148
      refine Goes.step (B := (T150.setTop (mkF m 16 #[.val (.ref o0), .val (.int ((0 : Int32) ||| (((own_b1 u1) &&& (127 : Int32)) <<< ((0 : Int32) &&& 31)))), .val (.int (7 : Int32)), .val (.int (own_b1 u1))] []))) (fun _ k => XS.icmpNo X150.here hx rfl (hb hby d_prog_42_method_4_code_13) rfl (feq hc152).1 k) ?_
      refine Goes.step (B := (T150.setTop (mkF m 17 #[.val (.ref o0), .val (.int ((0 : Int32) ||| (((own_b1 u1) &&& (127 : Int32)) <<< ((0 : Int32) &&& 31)))), .val (.int (7 : Int32)), .val (.int (own_b1 u1))] [(.int (7 : Int32))]))) (fun _ k => XS.iloadN X150.here hx rfl (hb hby d_prog_42_method_4_code_16) rfl k) ?_
      refine Goes.step (B := (T150.setTop (mkF m 19 #[.val (.ref o0), .val (.int ((0 : Int32) ||| (((own_b1 u1) &&& (127 : Int32)) <<< ((0 : Int32) &&& 31)))), .val (.int (7 : Int32)), .val (.int (own_b1 u1))] [(.int (28 : Int32)), (.int (7 : Int32))]))) (fun _ k => XS.bipush X150.here hx rfl (hb hby d_prog_42_method_4_code_17) k) ?_
      have hc153 : ¬ ((28 : Int32) < (7 : Int32)) := by decide
      refine Goes.step (B := (T150.setTop (mkF m 32 #[.val (.ref o0), .val (.int ((0 : Int32) ||| (((own_b1 u1) &&& (127 : Int32)) <<< ((0 : Int32) &&& 31)))), .val (.int (7 : Int32)), .val (.int (own_b1 u1))] []))) (fun _ k => XS.icmpYes X150.here hx rfl (pc0 := 19) (pc' := 32) rfl (hb hby d_prog_42_method_4_code_19) rfl (flt hc153).2.2.2 (by decide) (by decide) k) ?_
      refine Goes.step (B := (T150.setTop (mkF m 33 #[.val (.ref o0), .val (.int ((0 : Int32) ||| (((own_b1 u1) &&& (127 : Int32)) <<< ((0 : Int32) &&& 31)))), .val (.int (7 : Int32)), .val (.int (own_b1 u1))] [(.ref o0)]))) (fun _ k => XS.aloadN X150.here hx rfl (hb hby d_prog_42_method_4_code_32) rfl rfl k) ?_
      obtain ⟨T154, X154, e154, st154⟩ := getF X150 hx hZ hown (host := "") (Or.inl (hw _ (List.mem_of_getElem? (i := 47) rfl))) Via.refl e150 f127 (g := (mkF m 33 #[.val (.ref o0), .val (.int ((0 : Int32) ||| (((own_b1 u1) &&& (127 : Int32)) <<< ((0 : Int32) &&& 31)))), .val (.int (7 : Int32)), .val (.int (own_b1 u1))] [(.ref o0)])) rfl rfl (hb hby d_prog_42_method_4_code_33)
      refine Goes.step (B := (T154.setTop (mkF m 36 #[.val (.ref o0), .val (.int ((0 : Int32) ||| (((own_b1 u1) &&& (127 : Int32)) <<< ((0 : Int32) &&& 31)))), .val (.int (7 : Int32)), .val (.int (own_b1 u1))] [(.ref c0)]))) (fun _ k => st154 _ k) ?_
      refine Goes.step (B := (T154.setTop (mkF m 37 #[.val (.ref o0), .val (.int ((0 : Int32) ||| (((own_b1 u1) &&& (127 : Int32)) <<< ((0 : Int32) &&& 31)))), .val (.int (7 : Int32)), .val (.int (own_b1 u1))] [(.ref o0), (.ref c0)]))) (fun _ k => XS.aloadN X154.here hx rfl (hb hby d_prog_42_method_4_code_36) rfl rfl k) ?_
      refine Goes.step (B := (T154.setTop (mkF m 38 #[.val (.ref o0), .val (.int ((0 : Int32) ||| (((own_b1 u1) &&& (127 : Int32)) <<< ((0 : Int32) &&& 31)))), .val (.int (7 : Int32)), .val (.int (own_b1 u1))] [(.ref o0), (.ref o0), (.ref c0)]))) (fun _ k => XS.dup X154.here hx rfl (hb hby d_prog_42_method_4_code_37) rfl rfl k) ?_
      obtain ⟨T155, X155, e155, st155⟩ := getF X154 hx hZ hown (host := "") (Or.inl (hw _ (List.mem_of_getElem? (i := 54) rfl))) Via.refl e154 f129 (g := (mkF m 38 #[.val (.ref o0), .val (.int ((0 : Int32) ||| (((own_b1 u1) &&& (127 : Int32)) <<< ((0 : Int32) &&& 31)))), .val (.int (7 : Int32)), .val (.int (own_b1 u1))] [(.ref o0), (.ref o0), (.ref c0)])) rfl rfl (hb hby d_prog_42_method_4_code_38)
      refine Goes.step (B := (T155.setTop (mkF m 41 #[.val (.ref o0), .val (.int ((0 : Int32) ||| (((own_b1 u1) &&& (127 : Int32)) <<< ((0 : Int32) &&& 31)))), .val (.int (7 : Int32)), .val (.int (own_b1 u1))] [(.int (i1 + (1 : Int32))), (.ref o0), (.ref c0)]))) (fun _ k => st155 _ k) ?_
      refine Goes.step (B := (T155.setTop (mkF m 42 #[.val (.ref o0), .val (.int ((0 : Int32) ||| (((own_b1 u1) &&& (127 : Int32)) <<< ((0 : Int32) &&& 31)))), .val (.int (7 : Int32)), .val (.int (own_b1 u1))] [(.int (i1 + (1 : Int32))), (.ref o0), (.int (i1 + (1 : Int32))), (.ref c0)]))) (fun _ k => XS.dupX1 X155.here hx rfl (hb hby d_prog_42_method_4_code_41) rfl rfl rfl k) ?_
      refine Goes.step (B := (T155.setTop (mkF m 43 #[.val (.ref o0), .val (.int ((0 : Int32) ||| (((own_b1 u1) &&& (127 : Int32)) <<< ((0 : Int32) &&& 31)))), .val (.int (7 : Int32)), .val (.int (own_b1 u1))] [(.int (1 : Int32)), (.int (i1 + (1 : Int32))), (.ref o0), (.int (i1 + (1 : Int32))), (.ref c0)]))) (fun _ k => XS.iconst X155.here hx rfl (hb hby d_prog_42_method_4_code_42) k) ?_
      refine Goes.step (B := (T155.setTop (mkF m 44 #[.val (.ref o0), .val (.int ((0 : Int32) ||| (((own_b1 u1) &&& (127 : Int32)) <<< ((0 : Int32) &&& 31)))), .val (.int (7 : Int32)), .val (.int (own_b1 u1))] [(.int ((i1 + (1 : Int32)) + (1 : Int32))), (.ref o0), (.int (i1 + (1 : Int32))), (.ref c0)]))) (fun _ k => XS.iadd X155.here hx rfl (hb hby d_prog_42_method_4_code_43) rfl k) ?_
      obtain ⟨T156, h156, X156, e156, W156, st156⟩ := putF X155 hx hZ hown (host := "") (Or.inl (hw _ (List.mem_of_getElem? (i := 54) rfl))) Via.refl e155 f129 f126 (Or.inl (hw _ (List.mem_of_getElem? (i := 55) rfl))) (hw _ (List.mem_of_getElem? (i := 24) rfl)) (ty := .int) (by decide) rfl rfl (g := (mkF m 44 #[.val (.ref o0), .val (.int ((0 : Int32) ||| (((own_b1 u1) &&& (127 : Int32)) <<< ((0 : Int32) &&& 31)))), .val (.int (7 : Int32)), .val (.int (own_b1 u1))] [(.int ((i1 + (1 : Int32)) + (1 : Int32))), (.ref o0), (.int (i1 + (1 : Int32))), (.ref c0)])) rfl rfl (hb hby d_prog_42_method_4_code_44)
      have f157 := f126.wr W156
      have f158 := f127.other W156 (Or.inr (slot_ne (Or.inr (hw _ (List.mem_of_getElem? (i := 48) rfl))) (Or.inl (hw _ (List.mem_of_getElem? (i := 55) rfl))) (by decide) (t := (.array .byte)) (t' := .int) (by decide) (by decide)))
      have f159 := f128.other W156 pr5
      have N156 := Fr.snoc X156 N125 pr4
      have K156 : Keep h0 h156 [o0] := K125.wr W156 (Or.inl (List.mem_of_getElem? (i := 0) rfl))
      have Z156 : n0 ≤ h156.size := Nat.le_trans Z125 (Nat.le_of_eq W156.size.symm)
      have f160 : Fld Z h156 o0 "com/example/kartoteka/kartoteka/index/Varints$Reader" "at" "I" (.int ((i1 + (1 : Int32)) + (1 : Int32))) := f129.same W156
      refine Goes.step (B := (T156.setTop (mkF m 47 #[.val (.ref o0), .val (.int ((0 : Int32) ||| (((own_b1 u1) &&& (127 : Int32)) <<< ((0 : Int32) &&& 31)))), .val (.int (7 : Int32)), .val (.int (own_b1 u1))] [(.int (i1 + (1 : Int32))), (.ref c0)]))) (fun _ k => st156 _ k) ?_
      obtain ⟨cl161, Ar161, q161, S161, M161, H161, G161⟩ := id f159
      have hin161 : ¬ ((i1 + (1 : Int32)) < 0 ∨ cl161.slots.size ≤ ((i1 + (1 : Int32))).toNatClampNeg) := own_in S161 ai1 (rfl : z1.toInt = z1.toInt) (by omega) lt148
      have hat161 : cl161.slots[((i1 + (1 : Int32))).toNatClampNeg]? = some (.int (own_b1 (own_s u1))) := by rw [H161 _ (by rw [S161]; exact (own_cl ai1 (rfl : z1.toInt = z1.toInt) (by omega) lt148)), own_l_get f1 _ (own_cl ai1 (rfl : z1.toInt = z1.toInt) (by omega) lt148), eb148]
      refine Goes.step (B := (T156.setTop (mkF m 48 #[.val (.ref o0), .val (.int ((0 : Int32) ||| (((own_b1 u1) &&& (127 : Int32)) <<< ((0 : Int32) &&& 31)))), .val (.int (7 : Int32)), .val (.int (own_b1 u1))] [(.int (own_b1 (own_s u1)))]))) (fun _ k => X156.baloadBytes hx (j := (i1 + (1 : Int32))) (v := (.int (own_b1 (own_s u1)))) (by rw [e156]; exact Ar161.1) (State.isArrayOf_alike hZ.alike Ar161.2.1) Ar161.2.2 hin161 hat161 (g := (mkF m 47 #[.val (.ref o0), .val (.int ((0 : Int32) ||| (((own_b1 u1) &&& (127 : Int32)) <<< ((0 : Int32) &&& 31)))), .val (.int (7 : Int32)), .val (.int (own_b1 u1))] [(.int (i1 + (1 : Int32))), (.ref c0)])) rfl rfl (hb hby d_prog_42_method_4_code_47) _ k) ?_
      refine Goes.step (B := (T156.setTop (mkF m 49 #[.val (.ref o0), .val (.int ((0 : Int32) ||| (((own_b1 u1) &&& (127 : Int32)) <<< ((0 : Int32) &&& 31)))), .val (.int (7 : Int32)), .val (.int (own_b1 (own_s u1)))] []))) (fun _ k => XS.istoreN X156.here hx rfl (hb hby d_prog_42_method_4_code_48) rfl (l' := #[.val (.ref o0), .val (.int ((0 : Int32) ||| (((own_b1 u1) &&& (127 : Int32)) <<< ((0 : Int32) &&& 31)))), .val (.int (7 : Int32)), .val (.int (own_b1 (own_s u1)))]) rfl k) ?_
      refine Goes.step (B := (T156.setTop (mkF m 50 #[.val (.ref o0), .val (.int ((0 : Int32) ||| (((own_b1 u1) &&& (127 : Int32)) <<< ((0 : Int32) &&& 31)))), .val (.int (7 : Int32)), .val (.int (own_b1 (own_s u1)))] [(.int ((0 : Int32) ||| (((own_b1 u1) &&& (127 : Int32)) <<< ((0 : Int32) &&& 31))))]))) (fun _ k => XS.iloadN X156.here hx rfl (hb hby d_prog_42_method_4_code_49) rfl k) ?_
      refine Goes.step (B := (T156.setTop (mkF m 51 #[.val (.ref o0), .val (.int ((0 : Int32) ||| (((own_b1 u1) &&& (127 : Int32)) <<< ((0 : Int32) &&& 31)))), .val (.int (7 : Int32)), .val (.int (own_b1 (own_s u1)))] [(.int (own_b1 (own_s u1))), (.int ((0 : Int32) ||| (((own_b1 u1) &&& (127 : Int32)) <<< ((0 : Int32) &&& 31))))]))) (fun _ k => XS.iloadN X156.here hx rfl (hb hby d_prog_42_method_4_code_50) rfl k) ?_
      refine Goes.step (B := (T156.setTop (mkF m 53 #[.val (.ref o0), .val (.int ((0 : Int32) ||| (((own_b1 u1) &&& (127 : Int32)) <<< ((0 : Int32) &&& 31)))), .val (.int (7 : Int32)), .val (.int (own_b1 (own_s u1)))] [(.int (127 : Int32)), (.int (own_b1 (own_s u1))), (.int ((0 : Int32) ||| (((own_b1 u1) &&& (127 : Int32)) <<< ((0 : Int32) &&& 31))))]))) (fun _ k => XS.bipush X156.here hx rfl (hb hby d_prog_42_method_4_code_51) k) ?_
      refine Goes.step (B := (T156.setTop (mkF m 54 #[.val (.ref o0), .val (.int ((0 : Int32) ||| (((own_b1 u1) &&& (127 : Int32)) <<< ((0 : Int32) &&& 31)))), .val (.int (7 : Int32)), .val (.int (own_b1 (own_s u1)))] [(.int ((own_b1 (own_s u1)) &&& (127 : Int32))), (.int ((0 : Int32) ||| (((own_b1 u1) &&& (127 : Int32)) <<< ((0 : Int32) &&& 31))))]))) (fun _ k => XS.iand X156.here hx rfl (hb hby d_prog_42_method_4_code_53) rfl k) ?_
      refine Goes.step (B := (T156.setTop (mkF m 55 #[.val (.ref o0), .val (.int ((0 : Int32) ||| (((own_b1 u1) &&& (127 : Int32)) <<< ((0 : Int32) &&& 31)))), .val (.int (7 : Int32)), .val (.int (own_b1 (own_s u1)))] [(.int (7 : Int32)), (.int ((own_b1 (own_s u1)) &&& (127 : Int32))), (.int ((0 : Int32) ||| (((own_b1 u1) &&& (127 : Int32)) <<< ((0 : Int32) &&& 31))))]))) (fun _ k => XS.iloadN X156.here hx rfl (hb hby d_prog_42_method_4_code_54) rfl k) ?_
      refine Goes.step (B := (T156.setTop (mkF m 56 #[.val (.ref o0), .val (.int ((0 : Int32) ||| (((own_b1 u1) &&& (127 : Int32)) <<< ((0 : Int32) &&& 31)))), .val (.int (7 : Int32)), .val (.int (own_b1 (own_s u1)))] [(.int (((own_b1 (own_s u1)) &&& (127 : Int32)) <<< ((7 : Int32) &&& 31))), (.int ((0 : Int32) ||| (((own_b1 u1) &&& (127 : Int32)) <<< ((0 : Int32) &&& 31))))]))) (fun _ k => XS.ishl X156.here hx rfl (hb hby d_prog_42_method_4_code_55) rfl k) ?_
      refine Goes.step (B := (T156.setTop (mkF m 57 #[.val (.ref o0), .val (.int ((0 : Int32) ||| (((own_b1 u1) &&& (127 : Int32)) <<< ((0 : Int32) &&& 31)))), .val (.int (7 : Int32)), .val (.int (own_b1 (own_s u1)))] [(.int (((0 : Int32) ||| (((own_b1 u1) &&& (127 : Int32)) <<< ((0 : Int32) &&& 31))) ||| (((own_b1 (own_s u1)) &&& (127 : Int32)) <<< ((7 : Int32) &&& 31))))]))) (fun _ k => XS.ior X156.here hx rfl (hb hby d_prog_42_method_4_code_56) rfl k) ?_
      refine Goes.step (B := (T156.setTop (mkF m 58 #[.val (.ref o0), .val (.int (((0 : Int32) ||| (((own_b1 u1) &&& (127 : Int32)) <<< ((0 : Int32) &&& 31))) ||| (((own_b1 (own_s u1)) &&& (127 : Int32)) <<< ((7 : Int32) &&& 31)))), .val (.int (7 : Int32)), .val (.int (own_b1 (own_s u1)))] []))) (fun _ k => XS.istoreN X156.here hx rfl (hb hby d_prog_42_method_4_code_57) rfl (l' := #[.val (.ref o0), .val (.int (((0 : Int32) ||| (((own_b1 u1) &&& (127 : Int32)) <<< ((0 : Int32) &&& 31))) ||| (((own_b1 (own_s u1)) &&& (127 : Int32)) <<< ((7 : Int32) &&& 31)))), .val (.int (7 : Int32)), .val (.int (own_b1 (own_s u1)))]) rfl k) ?_
      refine Goes.step (B := (T156.setTop (mkF m 61 #[.val (.ref o0), .val (.int (((0 : Int32) ||| (((own_b1 u1) &&& (127 : Int32)) <<< ((0 : Int32) &&& 31))) ||| (((own_b1 (own_s u1)) &&& (127 : Int32)) <<< ((7 : Int32) &&& 31)))), .val (.int (14 : Int32)), .val (.int (own_b1 (own_s u1)))] []))) (fun _ k => XS.iinc X156.here hx rfl (hb hby d_prog_42_method_4_code_58) rfl (l' := #[.val (.ref o0), .val (.int (((0 : Int32) ||| (((own_b1 u1) &&& (127 : Int32)) <<< ((0 : Int32) &&& 31))) ||| (((own_b1 (own_s u1)) &&& (127 : Int32)) <<< ((7 : Int32) &&& 31)))), .val (.int (14 : Int32)), .val (.int (own_b1 (own_s u1)))]) rfl k) ?_
      refine Goes.step (B := (T156.setTop (mkF m 62 #[.val (.ref o0), .val (.int (((0 : Int32) ||| (((own_b1 u1) &&& (127 : Int32)) <<< ((0 : Int32) &&& 31))) ||| (((own_b1 (own_s u1)) &&& (127 : Int32)) <<< ((7 : Int32) &&& 31)))), .val (.int (14 : Int32)), .val (.int (own_b1 (own_s u1)))] [(.int (own_b1 (own_s u1)))]))) (fun _ k => XS.iloadN X156.here hx rfl (hb hby d_prog_42_method_4_code_61) rfl k) ?_
      refine Goes.step (B := (T156.setTop (mkF m 65 #[.val (.ref o0), .val (.int (((0 : Int32) ||| (((own_b1 u1) &&& (127 : Int32)) <<< ((0 : Int32) &&& 31))) ||| (((own_b1 (own_s u1)) &&& (127 : Int32)) <<< ((7 : Int32) &&& 31)))), .val (.int (14 : Int32)), .val (.int (own_b1 (own_s u1)))] [(.int (128 : Int32)), (.int (own_b1 (own_s u1)))]))) (fun _ k => XS.sipush X156.here hx rfl (hb hby d_prog_42_method_4_code_62) k) ?_
      refine Goes.step (B := (T156.setTop (mkF m 66 #[.val (.ref o0), .val (.int (((0 : Int32) ||| (((own_b1 u1) &&& (127 : Int32)) <<< ((0 : Int32) &&& 31))) ||| (((own_b1 (own_s u1)) &&& (127 : Int32)) <<< ((7 : Int32) &&& 31)))), .val (.int (14 : Int32)), .val (.int (own_b1 (own_s u1)))] [(.int ((own_b1 (own_s u1)) &&& (128 : Int32)))]))) (fun _ k => XS.iand X156.here hx rfl (hb hby d_prog_42_method_4_code_65) rfl k) ?_
      have hc162 : ¬ (((own_b1 (own_s u1)) &&& (128 : Int32)) = (0 : Int32)) := own_b1c _
      refine Goes.step (B := (T156.setTop (mkF m 71 #[.val (.ref o0), .val (.int (((0 : Int32) ||| (((own_b1 u1) &&& (127 : Int32)) <<< ((0 : Int32) &&& 31))) ||| (((own_b1 (own_s u1)) &&& (127 : Int32)) <<< ((7 : Int32) &&& 31)))), .val (.int (14 : Int32)), .val (.int (own_b1 (own_s u1)))] []))) (fun _ k => XS.ifYes X156.here hx rfl (pc0 := 66) (pc' := 71) rfl (hb hby d_prog_42_method_4_code_66) rfl ((if0 _ _).trans (feq hc162).2) (by decide) (by decide) k) ?_
      refine Goes.step (B := (T156.setTop (mkF m 4 #[.val (.ref o0), .val (.int (((0 : Int32) ||| (((own_b1 u1) &&& (127 : Int32)) <<< ((0 : Int32) &&& 31))) ||| (((own_b1 (own_s u1)) &&& (127 : Int32)) <<< ((7 : Int32) &&& 31)))), .val (.int (14 : Int32)), .val (.int (own_b1 (own_s u1)))] []))) (fun _ k => XS.goto X156.here hx rfl (pc0 := 71) (pc' := 4) rfl (hb hby d_prog_42_method_4_code_71) (by decide) (by decide) k) ?_
      have ai2 : ((i1 + (1 : Int32)) + (1 : Int32)).toInt = i1.toInt + 2 := (own_e ai1 (by omega) (by omega)).trans (by omega)
      by_cases hk2_163 : ((own_s (own_s u1)) &&& (-128 : Int32)) = (0 : Int32)
      · have eb164 : f1 (((i1 + (1 : Int32)) + (1 : Int32))).toNatClampNeg = own_b0 (own_s (own_s u1)) := by simpa only [own_E, if_pos hk2_163] using E148
        have lt164 : i1.toInt + 2 < z1.toInt := by have q := B148; simp only [own_n, if_pos hk2_163] at q; have r := own_e ai2 (by omega) (by omega); omega
        refine Goes.step (B := (T156.setTop (mkF m 5 #[.val (.ref o0), .val (.int (((0 : Int32) ||| (((own_b1 u1) &&& (127 : Int32)) <<< ((0 : Int32) &&& 31))) ||| (((own_b1 (own_s u1)) &&& (127 : Int32)) <<< ((7 : Int32) &&& 31)))), .val (.int (14 : Int32)), .val (.int (own_b1 (own_s u1)))] [(.ref o0)]))) (fun _ k => XS.aloadN X156.here hx rfl (hb hby d_prog_42_method_4_code_4) rfl rfl k) ?_
        obtain ⟨T165, X165, e165, st165⟩ := getF X156 hx hZ hown (host := "") (Or.inl (hw _ (List.mem_of_getElem? (i := 54) rfl))) Via.refl e156 f160 (g := (mkF m 5 #[.val (.ref o0), .val (.int (((0 : Int32) ||| (((own_b1 u1) &&& (127 : Int32)) <<< ((0 : Int32) &&& 31))) ||| (((own_b1 (own_s u1)) &&& (127 : Int32)) <<< ((7 : Int32) &&& 31)))), .val (.int (14 : Int32)), .val (.int (own_b1 (own_s u1)))] [(.ref o0)])) rfl rfl (hb hby d_prog_42_method_4_code_5)
        refine Goes.step (B := (T165.setTop (mkF m 8 #[.val (.ref o0), .val (.int (((0 : Int32) ||| (((own_b1 u1) &&& (127 : Int32)) <<< ((0 : Int32) &&& 31))) ||| (((own_b1 (own_s u1)) &&& (127 : Int32)) <<< ((7 : Int32) &&& 31)))), .val (.int (14 : Int32)), .val (.int (own_b1 (own_s u1)))] [(.int ((i1 + (1 : Int32)) + (1 : Int32)))]))) (fun _ k => st165 _ k) ?_
        refine Goes.step (B := (T165.setTop (mkF m 9 #[.val (.ref o0), .val (.int (((0 : Int32) ||| (((own_b1 u1) &&& (127 : Int32)) <<< ((0 : Int32) &&& 31))) ||| (((own_b1 (own_s u1)) &&& (127 : Int32)) <<< ((7 : Int32) &&& 31)))), .val (.int (14 : Int32)), .val (.int (own_b1 (own_s u1)))] [(.ref o0), (.int ((i1 + (1 : Int32)) + (1 : Int32)))]))) (fun _ k => XS.aloadN X165.here hx rfl (hb hby d_prog_42_method_4_code_8) rfl rfl k) ?_
        obtain ⟨T166, X166, e166, st166⟩ := getF X165 hx hZ hown (host := "") (Or.inl (hw _ (List.mem_of_getElem? (i := 47) rfl))) Via.refl e165 f158 (g := (mkF m 9 #[.val (.ref o0), .val (.int (((0 : Int32) ||| (((own_b1 u1) &&& (127 : Int32)) <<< ((0 : Int32) &&& 31))) ||| (((own_b1 (own_s u1)) &&& (127 : Int32)) <<< ((7 : Int32) &&& 31)))), .val (.int (14 : Int32)), .val (.int (own_b1 (own_s u1)))] [(.ref o0), (.int ((i1 + (1 : Int32)) + (1 : Int32)))])) rfl rfl (hb hby d_prog_42_method_4_code_9)
        refine Goes.step (B := (T166.setTop (mkF m 12 #[.val (.ref o0), .val (.int (((0 : Int32) ||| (((own_b1 u1) &&& (127 : Int32)) <<< ((0 : Int32) &&& 31))) ||| (((own_b1 (own_s u1)) &&& (127 : Int32)) <<< ((7 : Int32) &&& 31)))), .val (.int (14 : Int32)), .val (.int (own_b1 (own_s u1)))] [(.ref c0), (.int ((i1 + (1 : Int32)) + (1 : Int32)))]))) (fun _ k => st166 _ k) ?_
        obtain ⟨cl167, Ar167, q167, S167, M167, H167, G167⟩ := id f159
        refine Goes.step (B := (T166.setTop (mkF m 13 #[.val (.ref o0), .val (.int (((0 : Int32) ||| (((own_b1 u1) &&& (127 : Int32)) <<< ((0 : Int32) &&& 31))) ||| (((own_b1 (own_s u1)) &&& (127 : Int32)) <<< ((7 : Int32) &&& 31)))), .val (.int (14 : Int32)), .val (.int (own_b1 (own_s u1)))] [(.int z1), (.int ((i1 + (1 : Int32)) + (1 : Int32)))]))) (fun _ k => X166.arraylength hx (by rw [e166]; exact Ar167.1) (State.isArrayOf_alike hZ.alike Ar167.2.1) (g := (mkF m 12 #[.val (.ref o0), .val (.int (((0 : Int32) ||| (((own_b1 u1) &&& (127 : Int32)) <<< ((0 : Int32) &&& 31))) ||| (((own_b1 (own_s u1)) &&& (127 : Int32)) <<< ((7 : Int32) &&& 31)))), .val (.int (14 : Int32)), .val (.int (own_b1 (own_s u1)))] [(.ref c0), (.int ((i1 + (1 : Int32)) + (1 : Int32)))])) rfl rfl (hb hby d_prog_42_method_4_code_12) _ (by rw [len_of S167 M167]; exact k)) ?_
        have hc168 : ¬ (((i1 + (1 : Int32)) + (1 : Int32)) = z1) := own_nez ai2 (rfl : z1.toInt = z1.toInt) lt164
        refine Goes.step (B := (T166.setTop (mkF m 16 #[.val (.ref o0), .val (.int (((0 : Int32) ||| (((own_b1 u1) &&& (127 : Int32)) <<< ((0 : Int32) &&& 31))) ||| (((own_b1 (own_s u1)) &&& (127 : Int32)) <<< ((7 : Int32) &&& 31)))), .val (.int (14 : Int32)), .val (.int (own_b1 (own_s u1)))] []))) (fun _ k => XS.icmpNo X166.here hx rfl (hb hby d_prog_42_method_4_code_13) rfl (feq hc168).1 k) ?_
        refine Goes.step (B := (T166.setTop (mkF m 17 #[.val (.ref o0), .val (.int (((0 : Int32) ||| (((own_b1 u1) &&& (127 : Int32)) <<< ((0 : Int32) &&& 31))) ||| (((own_b1 (own_s u1)) &&& (127 : Int32)) <<< ((7 : Int32) &&& 31)))), .val (.int (14 : Int32)), .val (.int (own_b1 (own_s u1)))] [(.int (14 : Int32))]))) (fun _ k => XS.iloadN X166.here hx rfl (hb hby d_prog_42_method_4_code_16) rfl k) ?_
        refine Goes.step (B := (T166.setTop (mkF m 19 #[.val (.ref o0), .val (.int (((0 : Int32) ||| (((own_b1 u1) &&& (127 : Int32)) <<< ((0 : Int32) &&& 31))) ||| (((own_b1 (own_s u1)) &&& (127 : Int32)) <<< ((7 : Int32) &&& 31)))), .val (.int (14 : Int32)), .val (.int (own_b1 (own_s u1)))] [(.int (28 : Int32)), (.int (14 : Int32))]))) (fun _ k => XS.bipush X166.here hx rfl (hb hby d_prog_42_method_4_code_17) k) ?_
        have hc169 : ¬ ((28 : Int32) < (14 : Int32)) := by decide
        refine Goes.step (B := (T166.setTop (mkF m 32 #[.val (.ref o0), .val (.int (((0 : Int32) ||| (((own_b1 u1) &&& (127 : Int32)) <<< ((0 : Int32) &&& 31))) ||| (((own_b1 (own_s u1)) &&& (127 : Int32)) <<< ((7 : Int32) &&& 31)))), .val (.int (14 : Int32)), .val (.int (own_b1 (own_s u1)))] []))) (fun _ k => XS.icmpYes X166.here hx rfl (pc0 := 19) (pc' := 32) rfl (hb hby d_prog_42_method_4_code_19) rfl (flt hc169).2.2.2 (by decide) (by decide) k) ?_
        refine Goes.step (B := (T166.setTop (mkF m 33 #[.val (.ref o0), .val (.int (((0 : Int32) ||| (((own_b1 u1) &&& (127 : Int32)) <<< ((0 : Int32) &&& 31))) ||| (((own_b1 (own_s u1)) &&& (127 : Int32)) <<< ((7 : Int32) &&& 31)))), .val (.int (14 : Int32)), .val (.int (own_b1 (own_s u1)))] [(.ref o0)]))) (fun _ k => XS.aloadN X166.here hx rfl (hb hby d_prog_42_method_4_code_32) rfl rfl k) ?_
        obtain ⟨T170, X170, e170, st170⟩ := getF X166 hx hZ hown (host := "") (Or.inl (hw _ (List.mem_of_getElem? (i := 47) rfl))) Via.refl e166 f158 (g := (mkF m 33 #[.val (.ref o0), .val (.int (((0 : Int32) ||| (((own_b1 u1) &&& (127 : Int32)) <<< ((0 : Int32) &&& 31))) ||| (((own_b1 (own_s u1)) &&& (127 : Int32)) <<< ((7 : Int32) &&& 31)))), .val (.int (14 : Int32)), .val (.int (own_b1 (own_s u1)))] [(.ref o0)])) rfl rfl (hb hby d_prog_42_method_4_code_33)
        refine Goes.step (B := (T170.setTop (mkF m 36 #[.val (.ref o0), .val (.int (((0 : Int32) ||| (((own_b1 u1) &&& (127 : Int32)) <<< ((0 : Int32) &&& 31))) ||| (((own_b1 (own_s u1)) &&& (127 : Int32)) <<< ((7 : Int32) &&& 31)))), .val (.int (14 : Int32)), .val (.int (own_b1 (own_s u1)))] [(.ref c0)]))) (fun _ k => st170 _ k) ?_
        refine Goes.step (B := (T170.setTop (mkF m 37 #[.val (.ref o0), .val (.int (((0 : Int32) ||| (((own_b1 u1) &&& (127 : Int32)) <<< ((0 : Int32) &&& 31))) ||| (((own_b1 (own_s u1)) &&& (127 : Int32)) <<< ((7 : Int32) &&& 31)))), .val (.int (14 : Int32)), .val (.int (own_b1 (own_s u1)))] [(.ref o0), (.ref c0)]))) (fun _ k => XS.aloadN X170.here hx rfl (hb hby d_prog_42_method_4_code_36) rfl rfl k) ?_
        refine Goes.step (B := (T170.setTop (mkF m 38 #[.val (.ref o0), .val (.int (((0 : Int32) ||| (((own_b1 u1) &&& (127 : Int32)) <<< ((0 : Int32) &&& 31))) ||| (((own_b1 (own_s u1)) &&& (127 : Int32)) <<< ((7 : Int32) &&& 31)))), .val (.int (14 : Int32)), .val (.int (own_b1 (own_s u1)))] [(.ref o0), (.ref o0), (.ref c0)]))) (fun _ k => XS.dup X170.here hx rfl (hb hby d_prog_42_method_4_code_37) rfl rfl k) ?_
        obtain ⟨T171, X171, e171, st171⟩ := getF X170 hx hZ hown (host := "") (Or.inl (hw _ (List.mem_of_getElem? (i := 54) rfl))) Via.refl e170 f160 (g := (mkF m 38 #[.val (.ref o0), .val (.int (((0 : Int32) ||| (((own_b1 u1) &&& (127 : Int32)) <<< ((0 : Int32) &&& 31))) ||| (((own_b1 (own_s u1)) &&& (127 : Int32)) <<< ((7 : Int32) &&& 31)))), .val (.int (14 : Int32)), .val (.int (own_b1 (own_s u1)))] [(.ref o0), (.ref o0), (.ref c0)])) rfl rfl (hb hby d_prog_42_method_4_code_38)
        refine Goes.step (B := (T171.setTop (mkF m 41 #[.val (.ref o0), .val (.int (((0 : Int32) ||| (((own_b1 u1) &&& (127 : Int32)) <<< ((0 : Int32) &&& 31))) ||| (((own_b1 (own_s u1)) &&& (127 : Int32)) <<< ((7 : Int32) &&& 31)))), .val (.int (14 : Int32)), .val (.int (own_b1 (own_s u1)))] [(.int ((i1 + (1 : Int32)) + (1 : Int32))), (.ref o0), (.ref c0)]))) (fun _ k => st171 _ k) ?_
        refine Goes.step (B := (T171.setTop (mkF m 42 #[.val (.ref o0), .val (.int (((0 : Int32) ||| (((own_b1 u1) &&& (127 : Int32)) <<< ((0 : Int32) &&& 31))) ||| (((own_b1 (own_s u1)) &&& (127 : Int32)) <<< ((7 : Int32) &&& 31)))), .val (.int (14 : Int32)), .val (.int (own_b1 (own_s u1)))] [(.int ((i1 + (1 : Int32)) + (1 : Int32))), (.ref o0), (.int ((i1 + (1 : Int32)) + (1 : Int32))), (.ref c0)]))) (fun _ k => XS.dupX1 X171.here hx rfl (hb hby d_prog_42_method_4_code_41) rfl rfl rfl k) ?_
        refine Goes.step (B := (T171.setTop (mkF m 43 #[.val (.ref o0), .val (.int (((0 : Int32) ||| (((own_b1 u1) &&& (127 : Int32)) <<< ((0 : Int32) &&& 31))) ||| (((own_b1 (own_s u1)) &&& (127 : Int32)) <<< ((7 : Int32) &&& 31)))), .val (.int (14 : Int32)), .val (.int (own_b1 (own_s u1)))] [(.int (1 : Int32)), (.int ((i1 + (1 : Int32)) + (1 : Int32))), (.ref o0), (.int ((i1 + (1 : Int32)) + (1 : Int32))), (.ref c0)]))) (fun _ k => XS.iconst X171.here hx rfl (hb hby d_prog_42_method_4_code_42) k) ?_
        refine Goes.step (B := (T171.setTop (mkF m 44 #[.val (.ref o0), .val (.int (((0 : Int32) ||| (((own_b1 u1) &&& (127 : Int32)) <<< ((0 : Int32) &&& 31))) ||| (((own_b1 (own_s u1)) &&& (127 : Int32)) <<< ((7 : Int32) &&& 31)))), .val (.int (14 : Int32)), .val (.int (own_b1 (own_s u1)))] [(.int (((i1 + (1 : Int32)) + (1 : Int32)) + (1 : Int32))), (.ref o0), (.int ((i1 + (1 : Int32)) + (1 : Int32))), (.ref c0)]))) (fun _ k => XS.iadd X171.here hx rfl (hb hby d_prog_42_method_4_code_43) rfl k) ?_
        obtain ⟨T172, h172, X172, e172, W172, st172⟩ := putF X171 hx hZ hown (host := "") (Or.inl (hw _ (List.mem_of_getElem? (i := 54) rfl))) Via.refl e171 f160 f157 (Or.inl (hw _ (List.mem_of_getElem? (i := 55) rfl))) (hw _ (List.mem_of_getElem? (i := 24) rfl)) (ty := .int) (by decide) rfl rfl (g := (mkF m 44 #[.val (.ref o0), .val (.int (((0 : Int32) ||| (((own_b1 u1) &&& (127 : Int32)) <<< ((0 : Int32) &&& 31))) ||| (((own_b1 (own_s u1)) &&& (127 : Int32)) <<< ((7 : Int32) &&& 31)))), .val (.int (14 : Int32)), .val (.int (own_b1 (own_s u1)))] [(.int (((i1 + (1 : Int32)) + (1 : Int32)) + (1 : Int32))), (.ref o0), (.int ((i1 + (1 : Int32)) + (1 : Int32))), (.ref c0)])) rfl rfl (hb hby d_prog_42_method_4_code_44)
        have f173 := f157.wr W172
        have f174 := f158.other W172 (Or.inr (slot_ne (Or.inr (hw _ (List.mem_of_getElem? (i := 48) rfl))) (Or.inl (hw _ (List.mem_of_getElem? (i := 55) rfl))) (by decide) (t := (.array .byte)) (t' := .int) (by decide) (by decide)))
        have f175 := f159.other W172 pr5
        have N172 := Fr.snoc X172 N156 pr4
        have K172 : Keep h0 h172 [o0] := K156.wr W172 (Or.inl (List.mem_of_getElem? (i := 0) rfl))
        have Z172 : n0 ≤ h172.size := Nat.le_trans Z156 (Nat.le_of_eq W172.size.symm)
        have f176 : Fld Z h172 o0 "com/example/kartoteka/kartoteka/index/Varints$Reader" "at" "I" (.int (((i1 + (1 : Int32)) + (1 : Int32)) + (1 : Int32))) := f160.same W172
        refine Goes.step (B := (T172.setTop (mkF m 47 #[.val (.ref o0), .val (.int (((0 : Int32) ||| (((own_b1 u1) &&& (127 : Int32)) <<< ((0 : Int32) &&& 31))) ||| (((own_b1 (own_s u1)) &&& (127 : Int32)) <<< ((7 : Int32) &&& 31)))), .val (.int (14 : Int32)), .val (.int (own_b1 (own_s u1)))] [(.int ((i1 + (1 : Int32)) + (1 : Int32))), (.ref c0)]))) (fun _ k => st172 _ k) ?_
        obtain ⟨cl177, Ar177, q177, S177, M177, H177, G177⟩ := id f175
        have hin177 : ¬ (((i1 + (1 : Int32)) + (1 : Int32)) < 0 ∨ cl177.slots.size ≤ (((i1 + (1 : Int32)) + (1 : Int32))).toNatClampNeg) := own_in S177 ai2 (rfl : z1.toInt = z1.toInt) (by omega) lt164
        have hat177 : cl177.slots[(((i1 + (1 : Int32)) + (1 : Int32))).toNatClampNeg]? = some (.int (own_b0 (own_s (own_s u1)))) := by rw [H177 _ (by rw [S177]; exact (own_cl ai2 (rfl : z1.toInt = z1.toInt) (by omega) lt164)), own_l_get f1 _ (own_cl ai2 (rfl : z1.toInt = z1.toInt) (by omega) lt164), eb164]
        refine Goes.step (B := (T172.setTop (mkF m 48 #[.val (.ref o0), .val (.int (((0 : Int32) ||| (((own_b1 u1) &&& (127 : Int32)) <<< ((0 : Int32) &&& 31))) ||| (((own_b1 (own_s u1)) &&& (127 : Int32)) <<< ((7 : Int32) &&& 31)))), .val (.int (14 : Int32)), .val (.int (own_b1 (own_s u1)))] [(.int (own_b0 (own_s (own_s u1))))]))) (fun _ k => X172.baloadBytes hx (j := ((i1 + (1 : Int32)) + (1 : Int32))) (v := (.int (own_b0 (own_s (own_s u1))))) (by rw [e172]; exact Ar177.1) (State.isArrayOf_alike hZ.alike Ar177.2.1) Ar177.2.2 hin177 hat177 (g := (mkF m 47 #[.val (.ref o0), .val (.int (((0 : Int32) ||| (((own_b1 u1) &&& (127 : Int32)) <<< ((0 : Int32) &&& 31))) ||| (((own_b1 (own_s u1)) &&& (127 : Int32)) <<< ((7 : Int32) &&& 31)))), .val (.int (14 : Int32)), .val (.int (own_b1 (own_s u1)))] [(.int ((i1 + (1 : Int32)) + (1 : Int32))), (.ref c0)])) rfl rfl (hb hby d_prog_42_method_4_code_47) _ k) ?_
        refine Goes.step (B := (T172.setTop (mkF m 49 #[.val (.ref o0), .val (.int (((0 : Int32) ||| (((own_b1 u1) &&& (127 : Int32)) <<< ((0 : Int32) &&& 31))) ||| (((own_b1 (own_s u1)) &&& (127 : Int32)) <<< ((7 : Int32) &&& 31)))), .val (.int (14 : Int32)), .val (.int (own_b0 (own_s (own_s u1))))] []))) (fun _ k => XS.istoreN X172.here hx rfl (hb hby d_prog_42_method_4_code_48) rfl (l' := #[.val (.ref o0), .val (.int (((0 : Int32) ||| (((own_b1 u1) &&& (127 : Int32)) <<< ((0 : Int32) &&& 31))) ||| (((own_b1 (own_s u1)) &&& (127 : Int32)) <<< ((7 : Int32) &&& 31)))), .val (.int (14 : Int32)), .val (.int (own_b0 (own_s (own_s u1))))]) rfl k) ?_
        refine Goes.step (B := (T172.setTop (mkF m 50 #[.val (.ref o0), .val (.int (((0 : Int32) ||| (((own_b1 u1) &&& (127 : Int32)) <<< ((0 : Int32) &&& 31))) ||| (((own_b1 (own_s u1)) &&& (127 : Int32)) <<< ((7 : Int32) &&& 31)))), .val (.int (14 : Int32)), .val (.int (own_b0 (own_s (own_s u1))))] [(.int (((0 : Int32) ||| (((own_b1 u1) &&& (127 : Int32)) <<< ((0 : Int32) &&& 31))) ||| (((own_b1 (own_s u1)) &&& (127 : Int32)) <<< ((7 : Int32) &&& 31))))]))) (fun _ k => XS.iloadN X172.here hx rfl (hb hby d_prog_42_method_4_code_49) rfl k) ?_
        refine Goes.step (B := (T172.setTop (mkF m 51 #[.val (.ref o0), .val (.int (((0 : Int32) ||| (((own_b1 u1) &&& (127 : Int32)) <<< ((0 : Int32) &&& 31))) ||| (((own_b1 (own_s u1)) &&& (127 : Int32)) <<< ((7 : Int32) &&& 31)))), .val (.int (14 : Int32)), .val (.int (own_b0 (own_s (own_s u1))))] [(.int (own_b0 (own_s (own_s u1)))), (.int (((0 : Int32) ||| (((own_b1 u1) &&& (127 : Int32)) <<< ((0 : Int32) &&& 31))) ||| (((own_b1 (own_s u1)) &&& (127 : Int32)) <<< ((7 : Int32) &&& 31))))]))) (fun _ k => XS.iloadN X172.here hx rfl (hb hby d_prog_42_method_4_code_50) rfl k) ?_
        refine Goes.step (B := (T172.setTop (mkF m 53 #[.val (.ref o0), .val (.int (((0 : Int32) ||| (((own_b1 u1) &&& (127 : Int32)) <<< ((0 : Int32) &&& 31))) ||| (((own_b1 (own_s u1)) &&& (127 : Int32)) <<< ((7 : Int32) &&& 31)))), .val (.int (14 : Int32)), .val (.int (own_b0 (own_s (own_s u1))))] [(.int (127 : Int32)), (.int (own_b0 (own_s (own_s u1)))), (.int (((0 : Int32) ||| (((own_b1 u1) &&& (127 : Int32)) <<< ((0 : Int32) &&& 31))) ||| (((own_b1 (own_s u1)) &&& (127 : Int32)) <<< ((7 : Int32) &&& 31))))]))) (fun _ k => XS.bipush X172.here hx rfl (hb hby d_prog_42_method_4_code_51) k) ?_
        refine Goes.step (B := (T172.setTop (mkF m 54 #[.val (.ref o0), .val (.int (((0 : Int32) ||| (((own_b1 u1) &&& (127 : Int32)) <<< ((0 : Int32) &&& 31))) ||| (((own_b1 (own_s u1)) &&& (127 : Int32)) <<< ((7 : Int32) &&& 31)))), .val (.int (14 : Int32)), .val (.int (own_b0 (own_s (own_s u1))))] [(.int ((own_b0 (own_s (own_s u1))) &&& (127 : Int32))), (.int (((0 : Int32) ||| (((own_b1 u1) &&& (127 : Int32)) <<< ((0 : Int32) &&& 31))) ||| (((own_b1 (own_s u1)) &&& (127 : Int32)) <<< ((7 : Int32) &&& 31))))]))) (fun _ k => XS.iand X172.here hx rfl (hb hby d_prog_42_method_4_code_53) rfl k) ?_
        refine Goes.step (B := (T172.setTop (mkF m 55 #[.val (.ref o0), .val (.int (((0 : Int32) ||| (((own_b1 u1) &&& (127 : Int32)) <<< ((0 : Int32) &&& 31))) ||| (((own_b1 (own_s u1)) &&& (127 : Int32)) <<< ((7 : Int32) &&& 31)))), .val (.int (14 : Int32)), .val (.int (own_b0 (own_s (own_s u1))))] [(.int (14 : Int32)), (.int ((own_b0 (own_s (own_s u1))) &&& (127 : Int32))), (.int (((0 : Int32) ||| (((own_b1 u1) &&& (127 : Int32)) <<< ((0 : Int32) &&& 31))) ||| (((own_b1 (own_s u1)) &&& (127 : Int32)) <<< ((7 : Int32) &&& 31))))]))) (fun _ k => XS.iloadN X172.here hx rfl (hb hby d_prog_42_method_4_code_54) rfl k) ?_
        refine Goes.step (B := (T172.setTop (mkF m 56 #[.val (.ref o0), .val (.int (((0 : Int32) ||| (((own_b1 u1) &&& (127 : Int32)) <<< ((0 : Int32) &&& 31))) ||| (((own_b1 (own_s u1)) &&& (127 : Int32)) <<< ((7 : Int32) &&& 31)))), .val (.int (14 : Int32)), .val (.int (own_b0 (own_s (own_s u1))))] [(.int (((own_b0 (own_s (own_s u1))) &&& (127 : Int32)) <<< ((14 : Int32) &&& 31))), (.int (((0 : Int32) ||| (((own_b1 u1) &&& (127 : Int32)) <<< ((0 : Int32) &&& 31))) ||| (((own_b1 (own_s u1)) &&& (127 : Int32)) <<< ((7 : Int32) &&& 31))))]))) (fun _ k => XS.ishl X172.here hx rfl (hb hby d_prog_42_method_4_code_55) rfl k) ?_
        refine Goes.step (B := (T172.setTop (mkF m 57 #[.val (.ref o0), .val (.int (((0 : Int32) ||| (((own_b1 u1) &&& (127 : Int32)) <<< ((0 : Int32) &&& 31))) ||| (((own_b1 (own_s u1)) &&& (127 : Int32)) <<< ((7 : Int32) &&& 31)))), .val (.int (14 : Int32)), .val (.int (own_b0 (own_s (own_s u1))))] [(.int ((((0 : Int32) ||| (((own_b1 u1) &&& (127 : Int32)) <<< ((0 : Int32) &&& 31))) ||| (((own_b1 (own_s u1)) &&& (127 : Int32)) <<< ((7 : Int32) &&& 31))) ||| (((own_b0 (own_s (own_s u1))) &&& (127 : Int32)) <<< ((14 : Int32) &&& 31))))]))) (fun _ k => XS.ior X172.here hx rfl (hb hby d_prog_42_method_4_code_56) rfl k) ?_
        refine Goes.step (B := (T172.setTop (mkF m 58 #[.val (.ref o0), .val (.int ((((0 : Int32) ||| (((own_b1 u1) &&& (127 : Int32)) <<< ((0 : Int32) &&& 31))) ||| (((own_b1 (own_s u1)) &&& (127 : Int32)) <<< ((7 : Int32) &&& 31))) ||| (((own_b0 (own_s (own_s u1))) &&& (127 : Int32)) <<< ((14 : Int32) &&& 31)))), .val (.int (14 : Int32)), .val (.int (own_b0 (own_s (own_s u1))))] []))) (fun _ k => XS.istoreN X172.here hx rfl (hb hby d_prog_42_method_4_code_57) rfl (l' := #[.val (.ref o0), .val (.int ((((0 : Int32) ||| (((own_b1 u1) &&& (127 : Int32)) <<< ((0 : Int32) &&& 31))) ||| (((own_b1 (own_s u1)) &&& (127 : Int32)) <<< ((7 : Int32) &&& 31))) ||| (((own_b0 (own_s (own_s u1))) &&& (127 : Int32)) <<< ((14 : Int32) &&& 31)))), .val (.int (14 : Int32)), .val (.int (own_b0 (own_s (own_s u1))))]) rfl k) ?_
        refine Goes.step (B := (T172.setTop (mkF m 61 #[.val (.ref o0), .val (.int ((((0 : Int32) ||| (((own_b1 u1) &&& (127 : Int32)) <<< ((0 : Int32) &&& 31))) ||| (((own_b1 (own_s u1)) &&& (127 : Int32)) <<< ((7 : Int32) &&& 31))) ||| (((own_b0 (own_s (own_s u1))) &&& (127 : Int32)) <<< ((14 : Int32) &&& 31)))), .val (.int (21 : Int32)), .val (.int (own_b0 (own_s (own_s u1))))] []))) (fun _ k => XS.iinc X172.here hx rfl (hb hby d_prog_42_method_4_code_58) rfl (l' := #[.val (.ref o0), .val (.int ((((0 : Int32) ||| (((own_b1 u1) &&& (127 : Int32)) <<< ((0 : Int32) &&& 31))) ||| (((own_b1 (own_s u1)) &&& (127 : Int32)) <<< ((7 : Int32) &&& 31))) ||| (((own_b0 (own_s (own_s u1))) &&& (127 : Int32)) <<< ((14 : Int32) &&& 31)))), .val (.int (21 : Int32)), .val (.int (own_b0 (own_s (own_s u1))))]) rfl k) ?_
        refine Goes.step (B := (T172.setTop (mkF m 62 #[.val (.ref o0), .val (.int ((((0 : Int32) ||| (((own_b1 u1) &&& (127 : Int32)) <<< ((0 : Int32) &&& 31))) ||| (((own_b1 (own_s u1)) &&& (127 : Int32)) <<< ((7 : Int32) &&& 31))) ||| (((own_b0 (own_s (own_s u1))) &&& (127 : Int32)) <<< ((14 : Int32) &&& 31)))), .val (.int (21 : Int32)), .val (.int (own_b0 (own_s (own_s u1))))] [(.int (own_b0 (own_s (own_s u1))))]))) (fun _ k => XS.iloadN X172.here hx rfl (hb hby d_prog_42_method_4_code_61) rfl k) ?_
        refine Goes.step (B := (T172.setTop (mkF m 65 #[.val (.ref o0), .val (.int ((((0 : Int32) ||| (((own_b1 u1) &&& (127 : Int32)) <<< ((0 : Int32) &&& 31))) ||| (((own_b1 (own_s u1)) &&& (127 : Int32)) <<< ((7 : Int32) &&& 31))) ||| (((own_b0 (own_s (own_s u1))) &&& (127 : Int32)) <<< ((14 : Int32) &&& 31)))), .val (.int (21 : Int32)), .val (.int (own_b0 (own_s (own_s u1))))] [(.int (128 : Int32)), (.int (own_b0 (own_s (own_s u1))))]))) (fun _ k => XS.sipush X172.here hx rfl (hb hby d_prog_42_method_4_code_62) k) ?_
        refine Goes.step (B := (T172.setTop (mkF m 66 #[.val (.ref o0), .val (.int ((((0 : Int32) ||| (((own_b1 u1) &&& (127 : Int32)) <<< ((0 : Int32) &&& 31))) ||| (((own_b1 (own_s u1)) &&& (127 : Int32)) <<< ((7 : Int32) &&& 31))) ||| (((own_b0 (own_s (own_s u1))) &&& (127 : Int32)) <<< ((14 : Int32) &&& 31)))), .val (.int (21 : Int32)), .val (.int (own_b0 (own_s (own_s u1))))] [(.int ((own_b0 (own_s (own_s u1))) &&& (128 : Int32)))]))) (fun _ k => XS.iand X172.here hx rfl (hb hby d_prog_42_method_4_code_65) rfl k) ?_
        have hc178 : ((own_b0 (own_s (own_s u1))) &&& (128 : Int32)) = (0 : Int32) := own_b0c hk2_163
        refine Goes.step (B := (T172.setTop (mkF m 69 #[.val (.ref o0), .val (.int ((((0 : Int32) ||| (((own_b1 u1) &&& (127 : Int32)) <<< ((0 : Int32) &&& 31))) ||| (((own_b1 (own_s u1)) &&& (127 : Int32)) <<< ((7 : Int32) &&& 31))) ||| (((own_b0 (own_s (own_s u1))) &&& (127 : Int32)) <<< ((14 : Int32) &&& 31)))), .val (.int (21 : Int32)), .val (.int (own_b0 (own_s (own_s u1))))] []))) (fun _ k => XS.ifNo X172.here hx rfl (hb hby d_prog_42_method_4_code_66) rfl ((if0 _ _).trans (teq hc178).2) k) ?_
        refine Goes.step (B := (T172.setTop (mkF m 70 #[.val (.ref o0), .val (.int ((((0 : Int32) ||| (((own_b1 u1) &&& (127 : Int32)) <<< ((0 : Int32) &&& 31))) ||| (((own_b1 (own_s u1)) &&& (127 : Int32)) <<< ((7 : Int32) &&& 31))) ||| (((own_b0 (own_s (own_s u1))) &&& (127 : Int32)) <<< ((14 : Int32) &&& 31)))), .val (.int (21 : Int32)), .val (.int (own_b0 (own_s (own_s u1))))] [(.int ((((0 : Int32) ||| (((own_b1 u1) &&& (127 : Int32)) <<< ((0 : Int32) &&& 31))) ||| (((own_b1 (own_s u1)) &&& (127 : Int32)) <<< ((7 : Int32) &&& 31))) ||| (((own_b0 (own_s (own_s u1))) &&& (127 : Int32)) <<< ((14 : Int32) &&& 31))))]))) (fun _ k => XS.iloadN X172.here hx rfl (hb hby d_prog_42_method_4_code_69) rfl k) ?_
        refine Goes.retI X172 hx hlk hrt (hb hby d_prog_42_method_4_code_70) ?_ (by decide) (by decide)
        rw [e172]
        have en : own_n 4 i1 u1 = (((i1 + (1 : Int32)) + (1 : Int32)) + (1 : Int32)) := by simp only [own_n, if_neg hk0_101, if_neg hk1_132, if_pos hk2_163]
        rw [← en] at f176
        exact ⟨congrArg (fun z => some (Value.int z)) (own_acc3 u1 hk2_163), N172, K172, f173, f174, f176⟩
      · obtain ⟨eb179, E179⟩ : f1 (((i1 + (1 : Int32)) + (1 : Int32))).toNatClampNeg = own_b1 (own_s (own_s u1)) ∧ own_E 1 f1 (((i1 + (1 : Int32)) + (1 : Int32)) + (1 : Int32)) (own_s (own_s (own_s u1))) := by simpa only [own_E, if_neg hk2_163] using E148
        have B179 : (own_n 1 (((i1 + (1 : Int32)) + (1 : Int32)) + (1 : Int32)) (own_s (own_s (own_s u1)))).toInt ≤ z1.toInt := by have q := B148; simpa only [own_n, if_neg hk2_163] using q
        have lt179 : i1.toInt + 2 < z1.toInt := by have r := own_e ai2 (by omega) (by omega); have q := own_nb 1 (((i1 + (1 : Int32)) + (1 : Int32)) + (1 : Int32)) (own_s (own_s (own_s u1))) (by omega) (by omega); omega
        refine Goes.step (B := (T156.setTop (mkF m 5 #[.val (.ref o0), .val (.int (((0 : Int32) ||| (((own_b1 u1) &&& (127 : Int32)) <<< ((0 : Int32) &&& 31))) ||| (((own_b1 (own_s u1)) &&& (127 : Int32)) <<< ((7 : Int32) &&& 31)))), .val (.int (14 : Int32)), .val (.int (own_b1 (own_s u1)))] [(.ref o0)]))) (fun _ k => XS.aloadN X156.here hx rfl (hb hby d_prog_42_method_4_code_4) rfl rfl k) ?_
        obtain ⟨T180, X180, e180, st180⟩ := getF X156 hx hZ hown (host := "") (Or.inl (hw _ (List.mem_of_getElem? (i := 54) rfl))) Via.refl e156 f160 (g := (mkF m 5 #[.val (.ref o0), .val (.int (((0 : Int32) ||| (((own_b1 u1) &&& (127 : Int32)) <<< ((0 : Int32) &&& 31))) ||| (((own_b1 (own_s u1)) &&& (127 : Int32)) <<< ((7 : Int32) &&& 31)))), .val (.int (14 : Int32)), .val (.int (own_b1 (own_s u1)))] [(.ref o0)])) rfl rfl (hb hby d_prog_42_method_4_code_5)
        refine Goes.step (B := (T180.setTop (mkF m 8 #[.val (.ref o0), .val (.int (((0 : Int32) ||| (((own_b1 u1) &&& (127 : Int32)) <<< ((0 : Int32) &&& 31))) ||| (((own_b1 (own_s u1)) &&& (127 : Int32)) <<< ((7 : Int32) &&& 31)))), .val (.int (14 : Int32)), .val (.int (own_b1 (own_s u1)))] [(.int ((i1 + (1 : Int32)) + (1 : Int32)))]))) (fun _ k => st180 _ k) ?_
        refine Goes.step (B := (T180.setTop (mkF m 9 #[.val (.ref o0), .val (.int (((0 : Int32) ||| (((own_b1 u1) &&& (127 : Int32)) <<< ((0 : Int32) &&& 31))) ||| (((own_b1 (own_s u1)) &&& (127 : Int32)) <<< ((7 : Int32) &&& 31)))), .val (.int (14 : Int32)), .val (.int (own_b1 (own_s u1)))] [(.ref o0), (.int ((i1 + (1 : Int32)) + (1 : Int32)))]))) (fun _ k => XS.aloadN X180.here hx rfl (hb hby d_prog_42_method_4_code_8) rfl rfl k) ?_
        obtain ⟨T181, X181, e181, st181⟩ := getF X180 hx hZ hown (host := "") (Or.inl (hw _ (List.mem_of_getElem? (i := 47) rfl))) Via.refl e180 f158 (g := (mkF m 9 #[.val (.ref o0), .val (.int (((0 : Int32) ||| (((own_b1 u1) &&& (127 : Int32)) <<< ((0 : Int32) &&& 31))) ||| (((own_b1 (own_s u1)) &&& (127 : Int32)) <<< ((7 : Int32) &&& 31)))), .val (.int (14 : Int32)), .val (.int (own_b1 (own_s u1)))] [(.ref o0), (.int ((i1 + (1 : Int32)) + (1 : Int32)))])) rfl rfl (hb hby d_prog_42_method_4_code_9)
        refine Goes.step (B := (T181.setTop (mkF m 12 #[.val (.ref o0), .val (.int (((0 : Int32) ||| (((own_b1 u1) &&& (127 : Int32)) <<< ((0 : Int32) &&& 31))) ||| (((own_b1 (own_s u1)) &&& (127 : Int32)) <<< ((7 : Int32) &&& 31)))), .val (.int (14 : Int32)), .val (.int (own_b1 (own_s u1)))] [(.ref c0), (.int ((i1 + (1 : Int32)) + (1 : Int32)))]))) (fun _ k => st181 _ k) ?_
        obtain ⟨cl182, Ar182, q182, S182, M182, H182, G182⟩ := id f159
        refine Goes.step (B := (T181.setTop (mkF m 13 #[.val (.ref o0), .val (.int (((0 : Int32) ||| (((own_b1 u1) &&& (127 : Int32)) <<< ((0 : Int32) &&& 31))) ||| (((own_b1 (own_s u1)) &&& (127 : Int32)) <<< ((7 : Int32) &&& 31)))), .val (.int (14 : Int32)), .val (.int (own_b1 (own_s u1)))] [(.int z1), (.int ((i1 + (1 : Int32)) + (1 : Int32)))]))) (fun _ k => X181.arraylength hx (by rw [e181]; exact Ar182.1) (State.isArrayOf_alike hZ.alike Ar182.2.1) (g := (mkF m 12 #[.val (.ref o0), .val (.int (((0 : Int32) ||| (((own_b1 u1) &&& (127 : Int32)) <<< ((0 : Int32) &&& 31))) ||| (((own_b1 (own_s u1)) &&& (127 : Int32)) <<< ((7 : Int32) &&& 31)))), .val (.int (14 : Int32)), .val (.int (own_b1 (own_s u1)))] [(.ref c0), (.int ((i1 + (1 : Int32)) + (1 : Int32)))])) rfl rfl (hb hby d_prog_42_method_4_code_12) _ (by rw [len_of S182 M182]; exact k)) ?_
        have hc183 : ¬ (((i1 + (1 : Int32)) + (1 : Int32)) = z1) := own_nez ai2 (rfl : z1.toInt = z1.toInt) lt179
        refine Goes.step (B := (T181.setTop (mkF m 16 #[.val (.ref o0), .val (.int (((0 : Int32) ||| (((own_b1 u1) &&& (127 : Int32)) <<< ((0 : Int32) &&& 31))) ||| (((own_b1 (own_s u1)) &&& (127 : Int32)) <<< ((7 : Int32) &&& 31)))), .val (.int (14 : Int32)), .val (.int (own_b1 (own_s u1)))] []))) (fun _ k => XS.icmpNo X181.here hx rfl (hb hby d_prog_42_method_4_code_13) rfl (feq hc183).1 k) ?_
        refine Goes.step (B := (T181.setTop (mkF m 17 #[.val (.ref o0), .val (.int (((0 : Int32) ||| (((own_b1 u1) &&& (127 : Int32)) <<< ((0 : Int32) &&& 31))) ||| (((own_b1 (own_s u1)) &&& (127 : Int32)) <<< ((7 : Int32) &&& 31)))), .val (.int (14 : Int32)), .val (.int (own_b1 (own_s u1)))] [(.int (14 : Int32))]))) (fun _ k => XS.iloadN X181.here hx rfl (hb hby d_prog_42_method_4_code_16) rfl k) ?_
        refine Goes.step (B := (T181.setTop (mkF m 19 #[.val (.ref o0), .val (.int (((0 : Int32) ||| (((own_b1 u1) &&& (127 : Int32)) <<< ((0 : Int32) &&& 31))) ||| (((own_b1 (own_s u1)) &&& (127 : Int32)) <<< ((7 : Int32) &&& 31)))), .val (.int (14 : Int32)), .val (.int (own_b1 (own_s u1)))] [(.int (28 : Int32)), (.int (14 : Int32))]))) (fun _ k => XS.bipush X181.here hx rfl (hb hby d_prog_42_method_4_code_17) k) ?_
        have hc184 : ¬ ((28 : Int32) < (14 : Int32)) := by decide
        refine Goes.step (B := (T181.setTop (mkF m 32 #[.val (.ref o0), .val (.int (((0 : Int32) ||| (((own_b1 u1) &&& (127 : Int32)) <<< ((0 : Int32) &&& 31))) ||| (((own_b1 (own_s u1)) &&& (127 : Int32)) <<< ((7 : Int32) &&& 31)))), .val (.int (14 : Int32)), .val (.int (own_b1 (own_s u1)))] []))) (fun _ k => XS.icmpYes X181.here hx rfl (pc0 := 19) (pc' := 32) rfl (hb hby d_prog_42_method_4_code_19) rfl (flt hc184).2.2.2 (by decide) (by decide) k) ?_
        refine Goes.step (B := (T181.setTop (mkF m 33 #[.val (.ref o0), .val (.int (((0 : Int32) ||| (((own_b1 u1) &&& (127 : Int32)) <<< ((0 : Int32) &&& 31))) ||| (((own_b1 (own_s u1)) &&& (127 : Int32)) <<< ((7 : Int32) &&& 31)))), .val (.int (14 : Int32)), .val (.int (own_b1 (own_s u1)))] [(.ref o0)]))) (fun _ k => XS.aloadN X181.here hx rfl (hb hby d_prog_42_method_4_code_32) rfl rfl k) ?_
        obtain ⟨T185, X185, e185, st185⟩ := getF X181 hx hZ hown (host := "") (Or.inl (hw _ (List.mem_of_getElem? (i := 47) rfl))) Via.refl e181 f158 (g := (mkF m 33 #[.val (.ref o0), .val (.int (((0 : Int32) ||| (((own_b1 u1) &&& (127 : Int32)) <<< ((0 : Int32) &&& 31))) ||| (((own_b1 (own_s u1)) &&& (127 : Int32)) <<< ((7 : Int32) &&& 31)))), .val (.int (14 : Int32)), .val (.int (own_b1 (own_s u1)))] [(.ref o0)])) rfl rfl (hb hby d_prog_42_method_4_code_33)
        refine Goes.step (B := (T185.setTop (mkF m 36 #[.val (.ref o0), .val (.int (((0 : Int32) ||| (((own_b1 u1) &&& (127 : Int32)) <<< ((0 : Int32) &&& 31))) ||| (((own_b1 (own_s u1)) &&& (127 : Int32)) <<< ((7 : Int32) &&& 31)))), .val (.int (14 : Int32)), .val (.int (own_b1 (own_s u1)))] [(.ref c0)]))) (fun _ k => st185 _ k) ?_
        refine Goes.step (B := (T185.setTop (mkF m 37 #[.val (.ref o0), .val (.int (((0 : Int32) ||| (((own_b1 u1) &&& (127 : Int32)) <<< ((0 : Int32) &&& 31))) ||| (((own_b1 (own_s u1)) &&& (127 : Int32)) <<< ((7 : Int32) &&& 31)))), .val (.int (14 : Int32)), .val (.int (own_b1 (own_s u1)))] [(.ref o0), (.ref c0)]))) (fun _ k => XS.aloadN X185.here hx rfl (hb hby d_prog_42_method_4_code_36) rfl rfl k) ?_
        refine Goes.step (B := (T185.setTop (mkF m 38 #[.val (.ref o0), .val (.int (((0 : Int32) ||| (((own_b1 u1) &&& (127 : Int32)) <<< ((0 : Int32) &&& 31))) ||| (((own_b1 (own_s u1)) &&& (127 : Int32)) <<< ((7 : Int32) &&& 31)))), .val (.int (14 : Int32)), .val (.int (own_b1 (own_s u1)))] [(.ref o0), (.ref o0), (.ref c0)]))) (fun _ k => XS.dup X185.here hx rfl (hb hby d_prog_42_method_4_code_37) rfl rfl k) ?_
        obtain ⟨T186, X186, e186, st186⟩ := getF X185 hx hZ hown (host := "") (Or.inl (hw _ (List.mem_of_getElem? (i := 54) rfl))) Via.refl e185 f160 (g := (mkF m 38 #[.val (.ref o0), .val (.int (((0 : Int32) ||| (((own_b1 u1) &&& (127 : Int32)) <<< ((0 : Int32) &&& 31))) ||| (((own_b1 (own_s u1)) &&& (127 : Int32)) <<< ((7 : Int32) &&& 31)))), .val (.int (14 : Int32)), .val (.int (own_b1 (own_s u1)))] [(.ref o0), (.ref o0), (.ref c0)])) rfl rfl (hb hby d_prog_42_method_4_code_38)
        refine Goes.step (B := (T186.setTop (mkF m 41 #[.val (.ref o0), .val (.int (((0 : Int32) ||| (((own_b1 u1) &&& (127 : Int32)) <<< ((0 : Int32) &&& 31))) ||| (((own_b1 (own_s u1)) &&& (127 : Int32)) <<< ((7 : Int32) &&& 31)))), .val (.int (14 : Int32)), .val (.int (own_b1 (own_s u1)))] [(.int ((i1 + (1 : Int32)) + (1 : Int32))), (.ref o0), (.ref c0)]))) (fun _ k => st186 _ k) ?_
        refine Goes.step (B := (T186.setTop (mkF m 42 #[.val (.ref o0), .val (.int (((0 : Int32) ||| (((own_b1 u1) &&& (127 : Int32)) <<< ((0 : Int32) &&& 31))) ||| (((own_b1 (own_s u1)) &&& (127 : Int32)) <<< ((7 : Int32) &&& 31)))), .val (.int (14 : Int32)), .val (.int (own_b1 (own_s u1)))] [(.int ((i1 + (1 : Int32)) + (1 : Int32))), (.ref o0), (.int ((i1 + (1 : Int32)) + (1 : Int32))), (.ref c0)]))) (fun _ k => XS.dupX1 X186.here hx rfl (hb hby d_prog_42_method_4_code_41) rfl rfl rfl k) ?_
        refine Goes.step (B := (T186.setTop (mkF m 43 #[.val (.ref o0), .val (.int (((0 : Int32) ||| (((own_b1 u1) &&& (127 : Int32)) <<< ((0 : Int32) &&& 31))) ||| (((own_b1 (own_s u1)) &&& (127 : Int32)) <<< ((7 : Int32) &&& 31)))), .val (.int (14 : Int32)), .val (.int (own_b1 (own_s u1)))] [(.int (1 : Int32)), (.int ((i1 + (1 : Int32)) + (1 : Int32))), (.ref o0), (.int ((i1 + (1 : Int32)) + (1 : Int32))), (.ref c0)]))) (fun _ k => XS.iconst X186.here hx rfl (hb hby d_prog_42_method_4_code_42) k) ?_
        refine Goes.step (B := (T186.setTop (mkF m 44 #[.val (.ref o0), .val (.int (((0 : Int32) ||| (((own_b1 u1) &&& (127 : Int32)) <<< ((0 : Int32) &&& 31))) ||| (((own_b1 (own_s u1)) &&& (127 : Int32)) <<< ((7 : Int32) &&& 31)))), .val (.int (14 : Int32)), .val (.int (own_b1 (own_s u1)))] [(.int (((i1 + (1 : Int32)) + (1 : Int32)) + (1 : Int32))), (.ref o0), (.int ((i1 + (1 : Int32)) + (1 : Int32))), (.ref c0)]))) (fun _ k => XS.iadd X186.here hx rfl (hb hby d_prog_42_method_4_code_43) rfl k) ?_
        obtain ⟨T187, h187, X187, e187, W187, st187⟩ := putF X186 hx hZ hown (host := "") (Or.inl (hw _ (List.mem_of_getElem? (i := 54) rfl))) Via.refl e186 f160 f157 (Or.inl (hw _ (List.mem_of_getElem? (i := 55) rfl))) (hw _ (List.mem_of_getElem? (i := 24) rfl)) (ty := .int) (by decide) rfl rfl (g := (mkF m 44 #[.val (.ref o0), .val (.int (((0 : Int32) ||| (((own_b1 u1) &&& (127 : Int32)) <<< ((0 : Int32) &&& 31))) ||| (((own_b1 (own_s u1)) &&& (127 : Int32)) <<< ((7 : Int32) &&& 31)))), .val (.int (14 : Int32)), .val (.int (own_b1 (own_s u1)))] [(.int (((i1 + (1 : Int32)) + (1 : Int32)) + (1 : Int32))), (.ref o0), (.int ((i1 + (1 : Int32)) + (1 : Int32))), (.ref c0)])) rfl rfl (hb hby d_prog_42_method_4_code_44)
        have f188 := f157.wr W187
        have f189 := f158.other W187 (Or.inr (slot_ne (Or.inr (hw _ (List.mem_of_getElem? (i := 48) rfl))) (Or.inl (hw _ (List.mem_of_getElem? (i := 55) rfl))) (by decide) (t := (.array .byte)) (t' := .int) (by decide) (by decide)))
        have f190 := f159.other W187 pr5
        have N187 := Fr.snoc X187 N156 pr4
        have K187 : Keep h0 h187 [o0] := K156.wr W187 (Or.inl (List.mem_of_getElem? (i := 0) rfl))
        have Z187 : n0 ≤ h187.size := Nat.le_trans Z156 (Nat.le_of_eq W187.size.symm)
        have f191 : Fld Z h187 o0 "com/example/kartoteka/kartoteka/index/Varints$Reader" "at" "I" (.int (((i1 + (1 : Int32)) + (1 : Int32)) + (1 : Int32))) := f160.same W187
        refine Goes.step (B := (T187.setTop (mkF m 47 #[.val (.ref o0), .val (.int (((0 : Int32) ||| (((own_b1 u1) &&& (127 : Int32)) <<< ((0 : Int32) &&& 31))) ||| (((own_b1 (own_s u1)) &&& (127 : Int32)) <<< ((7 : Int32) &&& 31)))), .val (.int (14 : Int32)), .val (.int (own_b1 (own_s u1)))] [(.int ((i1 + (1 : Int32)) + (1 : Int32))), (.ref c0)]))) (fun _ k => st187 _ k) ?_
        obtain ⟨cl192, Ar192, q192, S192, M192, H192, G192⟩ := id f190
        have hin192 : ¬ (((i1 + (1 : Int32)) + (1 : Int32)) < 0 ∨ cl192.slots.size ≤ (((i1 + (1 : Int32)) + (1 : Int32))).toNatClampNeg) := own_in S192 ai2 (rfl : z1.toInt = z1.toInt) (by omega) lt179
        have hat192 : cl192.slots[(((i1 + (1 : Int32)) + (1 : Int32))).toNatClampNeg]? = some (.int (own_b1 (own_s (own_s u1)))) := by rw [H192 _ (by rw [S192]; exact (own_cl ai2 (rfl : z1.toInt = z1.toInt) (by omega) lt179)), own_l_get f1 _ (own_cl ai2 (rfl : z1.toInt = z1.toInt) (by omega) lt179), eb179]
        refine Goes.step (B := (T187.setTop (mkF m 48 #[.val (.ref o0), .val (.int (((0 : Int32) ||| (((own_b1 u1) &&& (127 : Int32)) <<< ((0 : Int32) &&& 31))) ||| (((own_b1 (own_s u1)) &&& (127 : Int32)) <<< ((7 : Int32) &&& 31)))), .val (.int (14 : Int32)), .val (.int (own_b1 (own_s u1)))] [(.int (own_b1 (own_s (own_s u1))))]))) (fun _ k => X187.baloadBytes hx (j := ((i1 + (1 : Int32)) + (1 : Int32))) (v := (.int (own_b1 (own_s (own_s u1))))) (by rw [e187]; exact Ar192.1) (State.isArrayOf_alike hZ.alike Ar192.2.1) Ar192.2.2 hin192 hat192 (g := (mkF m 47 #[.val (.ref o0), .val (.int (((0 : Int32) ||| (((own_b1 u1) &&& (127 : Int32)) <<< ((0 : Int32) &&& 31))) ||| (((own_b1 (own_s u1)) &&& (127 : Int32)) <<< ((7 : Int32) &&& 31)))), .val (.int (14 : Int32)), .val (.int (own_b1 (own_s u1)))] [(.int ((i1 + (1 : Int32)) + (1 : Int32))), (.ref c0)])) rfl rfl (hb hby d_prog_42_method_4_code_47) _ k) ?_
        refine Goes.step (B := (T187.setTop (mkF m 49 #[.val (.ref o0), .val (.int (((0 : Int32) ||| (((own_b1 u1) &&& (127 : Int32)) <<< ((0 : Int32) &&& 31))) ||| (((own_b1 (own_s u1)) &&& (127 : Int32)) <<< ((7 : Int32) &&& 31)))), .val (.int (14 : Int32)), .val (.int (own_b1 (own_s (own_s u1))))] []))) (fun _ k => XS.istoreN X187.here hx rfl (hb hby d_prog_42_method_4_code_48) rfl (l' := #[.val (.ref o0), .val (.int (((0 : Int32) ||| (((own_b1 u1) &&& (127 : Int32)) <<< ((0 : Int32) &&& 31))) ||| (((own_b1 (own_s u1)) &&& (127 : Int32)) <<< ((7 : Int32) &&& 31)))), .val (.int (14 : Int32)), .val (.int (own_b1 (own_s (own_s u1))))]) rfl k) ?_
        refine Goes.step (B := (T187.setTop (mkF m 50 #[.val (.ref o0), .val (.int (((0 : Int32) ||| (((own_b1 u1) &&& (127 : Int32)) <<< ((0 : Int32) &&& 31))) ||| (((own_b1 (own_s u1)) &&& (127 : Int32)) <<< ((7 : Int32) &&& 31)))), .val (.int (14 : Int32)), .val (.int (own_b1 (own_s (own_s u1))))] [(.int (((0 : Int32) ||| (((own_b1 u1) &&& (127 : Int32)) <<< ((0 : Int32) &&& 31))) ||| (((own_b1 (own_s u1)) &&& (127 : Int32)) <<< ((7 : Int32) &&& 31))))]))) (fun _ k => XS.iloadN X187.here hx rfl (hb hby d_prog_42_method_4_code_49) rfl k) ?_
        refine Goes.step (B := (T187.setTop (mkF m 51 #[.val (.ref o0), .val (.int (((0 : Int32) ||| (((own_b1 u1) &&& (127 : Int32)) <<< ((0 : Int32) &&& 31))) ||| (((own_b1 (own_s u1)) &&& (127 : Int32)) <<< ((7 : Int32) &&& 31)))), .val (.int (14 : Int32)), .val (.int (own_b1 (own_s (own_s u1))))] [(.int (own_b1 (own_s (own_s u1)))), (.int (((0 : Int32) ||| (((own_b1 u1) &&& (127 : Int32)) <<< ((0 : Int32) &&& 31))) ||| (((own_b1 (own_s u1)) &&& (127 : Int32)) <<< ((7 : Int32) &&& 31))))]))) (fun _ k => XS.iloadN X187.here hx rfl (hb hby d_prog_42_method_4_code_50) rfl k) ?_
        refine Goes.step (B := (T187.setTop (mkF m 53 #[.val (.ref o0), .val (.int (((0 : Int32) ||| (((own_b1 u1) &&& (127 : Int32)) <<< ((0 : Int32) &&& 31))) ||| (((own_b1 (own_s u1)) &&& (127 : Int32)) <<< ((7 : Int32) &&& 31)))), .val (.int (14 : Int32)), .val (.int (own_b1 (own_s (own_s u1))))] [(.int (127 : Int32)), (.int (own_b1 (own_s (own_s u1)))), (.int (((0 : Int32) ||| (((own_b1 u1) &&& (127 : Int32)) <<< ((0 : Int32) &&& 31))) ||| (((own_b1 (own_s u1)) &&& (127 : Int32)) <<< ((7 : Int32) &&& 31))))]))) (fun _ k => XS.bipush X187.here hx rfl (hb hby d_prog_42_method_4_code_51) k) ?_
        refine Goes.step (B := (T187.setTop (mkF m 54 #[.val (.ref o0), .val (.int (((0 : Int32) ||| (((own_b1 u1) &&& (127 : Int32)) <<< ((0 : Int32) &&& 31))) ||| (((own_b1 (own_s u1)) &&& (127 : Int32)) <<< ((7 : Int32) &&& 31)))), .val (.int (14 : Int32)), .val (.int (own_b1 (own_s (own_s u1))))] [(.int ((own_b1 (own_s (own_s u1))) &&& (127 : Int32))), (.int (((0 : Int32) ||| (((own_b1 u1) &&& (127 : Int32)) <<< ((0 : Int32) &&& 31))) ||| (((own_b1 (own_s u1)) &&& (127 : Int32)) <<< ((7 : Int32) &&& 31))))]))) (fun _ k => XS.iand X187.here hx rfl (hb hby d_prog_42_method_4_code_53) rfl k) ?_
        refine Goes.step (B := (T187.setTop (mkF m 55 #[.val (.ref o0), .val (.int (((0 : Int32) ||| (((own_b1 u1) &&& (127 : Int32)) <<< ((0 : Int32) &&& 31))) ||| (((own_b1 (own_s u1)) &&& (127 : Int32)) <<< ((7 : Int32) &&& 31)))), .val (.int (14 : Int32)), .val (.int (own_b1 (own_s (own_s u1))))] [(.int (14 : Int32)), (.int ((own_b1 (own_s (own_s u1))) &&& (127 : Int32))), (.int (((0 : Int32) ||| (((own_b1 u1) &&& (127 : Int32)) <<< ((0 : Int32) &&& 31))) ||| (((own_b1 (own_s u1)) &&& (127 : Int32)) <<< ((7 : Int32) &&& 31))))]))) (fun _ k => XS.iloadN X187.here hx rfl (hb hby d_prog_42_method_4_code_54) rfl k) ?_
        refine Goes.step (B := (T187.setTop (mkF m 56 #[.val (.ref o0), .val (.int (((0 : Int32) ||| (((own_b1 u1) &&& (127 : Int32)) <<< ((0 : Int32) &&& 31))) ||| (((own_b1 (own_s u1)) &&& (127 : Int32)) <<< ((7 : Int32) &&& 31)))), .val (.int (14 : Int32)), .val (.int (own_b1 (own_s (own_s u1))))] [(.int (((own_b1 (own_s (own_s u1))) &&& (127 : Int32)) <<< ((14 : Int32) &&& 31))), (.int (((0 : Int32) ||| (((own_b1 u1) &&& (127 : Int32)) <<< ((0 : Int32) &&& 31))) ||| (((own_b1 (own_s u1)) &&& (127 : Int32)) <<< ((7 : Int32) &&& 31))))]))) (fun _ k => XS.ishl X187.here hx rfl (hb hby d_prog_42_method_4_code_55) rfl k) ?_
        refine Goes.step (B := (T187.setTop (mkF m 57 #[.val (.ref o0), .val (.int (((0 : Int32) ||| (((own_b1 u1) &&& (127 : Int32)) <<< ((0 : Int32) &&& 31))) ||| (((own_b1 (own_s u1)) &&& (127 : Int32)) <<< ((7 : Int32) &&& 31)))), .val (.int (14 : Int32)), .val (.int (own_b1 (own_s (own_s u1))))] [(.int ((((0 : Int32) ||| (((own_b1 u1) &&& (127 : Int32)) <<< ((0 : Int32) &&& 31))) ||| (((own_b1 (own_s u1)) &&& (127 : Int32)) <<< ((7 : Int32) &&& 31))) ||| (((own_b1 (own_s (own_s u1))) &&& (127 : Int32)) <<< ((14 : Int32) &&& 31))))]))) (fun _ k => XS.ior X187.here hx rfl (hb hby d_prog_42_method_4_code_56) rfl k) ?_
        refine Goes.step (B := (T187.setTop (mkF m 58 #[.val (.ref o0), .val (.int ((((0 : Int32) ||| (((own_b1 u1) &&& (127 : Int32)) <<< ((0 : Int32) &&& 31))) ||| (((own_b1 (own_s u1)) &&& (127 : Int32)) <<< ((7 : Int32) &&& 31))) ||| (((own_b1 (own_s (own_s u1))) &&& (127 : Int32)) <<< ((14 : Int32) &&& 31)))), .val (.int (14 : Int32)), .val (.int (own_b1 (own_s (own_s u1))))] []))) (fun _ k => XS.istoreN X187.here hx rfl (hb hby d_prog_42_method_4_code_57) rfl (l' := #[.val (.ref o0), .val (.int ((((0 : Int32) ||| (((own_b1 u1) &&& (127 : Int32)) <<< ((0 : Int32) &&& 31))) ||| (((own_b1 (own_s u1)) &&& (127 : Int32)) <<< ((7 : Int32) &&& 31))) ||| (((own_b1 (own_s (own_s u1))) &&& (127 : Int32)) <<< ((14 : Int32) &&& 31)))), .val (.int (14 : Int32)), .val (.int (own_b1 (own_s (own_s u1))))]) rfl k) ?_
        refine Goes.step (B := (T187.setTop (mkF m 61 #[.val (.ref o0), .val (.int ((((0 : Int32) ||| (((own_b1 u1) &&& (127 : Int32)) <<< ((0 : Int32) &&& 31))) ||| (((own_b1 (own_s u1)) &&& (127 : Int32)) <<< ((7 : Int32) &&& 31))) ||| (((own_b1 (own_s (own_s u1))) &&& (127 : Int32)) <<< ((14 : Int32) &&& 31)))), .val (.int (21 : Int32)), .val (.int (own_b1 (own_s (own_s u1))))] []))) (fun _ k => XS.iinc X187.here hx rfl (hb hby d_prog_42_method_4_code_58) rfl (l' := #[.val (.ref o0), .val (.int ((((0 : Int32) ||| (((own_b1 u1) &&& (127 : Int32)) <<< ((0 : Int32) &&& 31))) ||| (((own_b1 (own_s u1)) &&& (127 : Int32)) <<< ((7 : Int32) &&& 31))) ||| (((own_b1 (own_s (own_s u1))) &&& (127 : Int32)) <<< ((14 : Int32) &&& 31)))), .val (.int (21 : Int32)), .val (.int (own_b1 (own_s (own_s u1))))]) rfl k) ?_
        refine Goes.step (B := (T187.setTop (mkF m 62 #[.val (.ref o0), .val (.int ((((0 : Int32) ||| (((own_b1 u1) &&& (127 : Int32)) <<< ((0 : Int32) &&& 31))) ||| (((own_b1 (own_s u1)) &&& (127 : Int32)) <<< ((7 : Int32) &&& 31))) ||| (((own_b1 (own_s (own_s u1))) &&& (127 : Int32)) <<< ((14 : Int32) &&& 31)))), .val (.int (21 : Int32)), .val (.int (own_b1 (own_s (own_s u1))))] [(.int (own_b1 (own_s (own_s u1))))]))) (fun _ k => XS.iloadN X187.here hx rfl (hb hby d_prog_42_method_4_code_61) rfl k) ?_
        refine Goes.step (B := (T187.setTop (mkF m 65 #[.val (.ref o0), .val (.int ((((0 : Int32) ||| (((own_b1 u1) &&& (127 : Int32)) <<< ((0 : Int32) &&& 31))) ||| (((own_b1 (own_s u1)) &&& (127 : Int32)) <<< ((7 : Int32) &&& 31))) ||| (((own_b1 (own_s (own_s u1))) &&& (127 : Int32)) <<< ((14 : Int32) &&& 31)))), .val (.int (21 : Int32)), .val (.int (own_b1 (own_s (own_s u1))))] [(.int (128 : Int32)), (.int (own_b1 (own_s (own_s u1))))]))) (fun _ k => XS.sipush X187.here hx rfl (hb hby d_prog_42_method_4_code_62) k) ?_
        refine Goes.step (B := (T187.setTop (mkF m 66 #[.val (.ref o0), .val (.int ((((0 : Int32) ||| (((own_b1 u1) &&& (127 : Int32)) <<< ((0 : Int32) &&& 31))) ||| (((own_b1 (own_s u1)) &&& (127 : Int32)) <<< ((7 : Int32) &&& 31))) ||| (((own_b1 (own_s (own_s u1))) &&& (127 : Int32)) <<< ((14 : Int32) &&& 31)))), .val (.int (21 : Int32)), .val (.int (own_b1 (own_s (own_s u1))))] [(.int ((own_b1 (own_s (own_s u1))) &&& (128 : Int32)))]))) (fun _ k => XS.iand X187.here hx rfl (hb hby d_prog_42_method_4_code_65) rfl k) ?_
        have hc193 : ¬ (((own_b1 (own_s (own_s u1))) &&& (128 : Int32)) = (0 : Int32)) := own_b1c _
        refine Goes.step (B := (T187.setTop (mkF m 71 #[.val (.ref o0), .val (.int ((((0 : Int32) ||| (((own_b1 u1) &&& (127 : Int32)) <<< ((0 : Int32) &&& 31))) ||| (((own_b1 (own_s u1)) &&& (127 : Int32)) <<< ((7 : Int32) &&& 31))) ||| (((own_b1 (own_s (own_s u1))) &&& (127 : Int32)) <<< ((14 : Int32) &&& 31)))), .val (.int (21 : Int32)), .val (.int (own_b1 (own_s (own_s u1))))] []))) (fun _ k => XS.ifYes X187.here hx rfl (pc0 := 66) (pc' := 71) rfl (hb hby d_prog_42_method_4_code_66) rfl ((if0 _ _).trans (feq hc193).2) (by decide) (by decide) k) ?_
        refine Goes.step (B := (T187.setTop (mkF m 4 #[.val (.ref o0), .val (.int ((((0 : Int32) ||| (((own_b1 u1) &&& (127 : Int32)) <<< ((0 : Int32) &&& 31))) ||| (((own_b1 (own_s u1)) &&& (127 : Int32)) <<< ((7 : Int32) &&& 31))) ||| (((own_b1 (own_s (own_s u1))) &&& (127 : Int32)) <<< ((14 : Int32) &&& 31)))), .val (.int (21 : Int32)), .val (.int (own_b1 (own_s (own_s u1))))] []))) (fun _ k => XS.goto X187.here hx rfl (pc0 := 71) (pc' := 4) rfl (hb hby d_prog_42_method_4_code_71) (by decide) (by decide) k) ?_
        have ai3 : (((i1 + (1 : Int32)) + (1 : Int32)) + (1 : Int32)).toInt = i1.toInt + 3 := (own_e ai2 (by omega) (by omega)).trans (by omega)
        by_cases hk3_194 : ((own_s (own_s (own_s u1))) &&& (-128 : Int32)) = (0 : Int32)
        · have eb195 : f1 ((((i1 + (1 : Int32)) + (1 : Int32)) + (1 : Int32))).toNatClampNeg = own_b0 (own_s (own_s (own_s u1))) := by simpa only [own_E, if_pos hk3_194] using E179
          have lt195 : i1.toInt + 3 < z1.toInt := by have q := B179; simp only [own_n, if_pos hk3_194] at q; have r := own_e ai3 (by omega) (by omega); omega
          refine Goes.step (B := (T187.setTop (mkF m 5 #[.val (.ref o0), .val (.int ((((0 : Int32) ||| (((own_b1 u1) &&& (127 : Int32)) <<< ((0 : Int32) &&& 31))) ||| (((own_b1 (own_s u1)) &&& (127 : Int32)) <<< ((7 : Int32) &&& 31))) ||| (((own_b1 (own_s (own_s u1))) &&& (127 : Int32)) <<< ((14 : Int32) &&& 31)))), .val (.int (21 : Int32)), .val (.int (own_b1 (own_s (own_s u1))))] [(.ref o0)]))) (fun _ k => XS.aloadN X187.here hx rfl (hb hby d_prog_42_method_4_code_4) rfl rfl k) ?_
          obtain ⟨T196, X196, e196, st196⟩ := getF X187 hx hZ hown (host := "") (Or.inl (hw _ (List.mem_of_getElem? (i := 54) rfl))) Via.refl e187 f191 (g := (mkF m 5 #[.val (.ref o0), .val (.int ((((0 : Int32) ||| (((own_b1 u1) &&& (127 : Int32)) <<< ((0 : Int32) &&& 31))) ||| (((own_b1 (own_s u1)) &&& (127 : Int32)) <<< ((7 : Int32) &&& 31))) ||| (((own_b1 (own_s (own_s u1))) &&& (127 : Int32)) <<< ((14 : Int32) &&& 31)))), .val (.int (21 : Int32)), .val (.int (own_b1 (own_s (own_s u1))))] [(.ref o0)])) rfl rfl (hb hby d_prog_42_method_4_code_5)
          refine Goes.step (B := (T196.setTop (mkF m 8 #[.val (.ref o0), .val (.int ((((0 : Int32) ||| (((own_b1 u1) &&& (127 : Int32)) <<< ((0 : Int32) &&& 31))) ||| (((own_b1 (own_s u1)) &&& (127 : Int32)) <<< ((7 : Int32) &&& 31))) ||| (((own_b1 (own_s (own_s u1))) &&& (127 : Int32)) <<< ((14 : Int32) &&& 31)))), .val (.int (21 : Int32)), .val (.int (own_b1 (own_s (own_s u1))))] [(.int (((i1 + (1 : Int32)) + (1 : Int32)) + (1 : Int32)))]))) (fun _ k => st196 _ k) ?_
          refine Goes.step (B := (T196.setTop (mkF m 9 #[.val (.ref o0), .val (.int ((((0 : Int32) ||| (((own_b1 u1) &&& (127 : Int32)) <<< ((0 : Int32) &&& 31))) ||| (((own_b1 (own_s u1)) &&& (127 : Int32)) <<< ((7 : Int32) &&& 31))) ||| (((own_b1 (own_s (own_s u1))) &&& (127 : Int32)) <<< ((14 : Int32) &&& 31)))), .val (.int (21 : Int32)), .val (.int (own_b1 (own_s (own_s u1))))] [(.ref o0), (.int (((i1 + (1 : Int32)) + (1 : Int32)) + (1 : Int32)))]))) (fun _ k => XS.aloadN X196.here hx rfl (hb hby d_prog_42_method_4_code_8) rfl rfl k) ?_
          obtain ⟨T197, X197, e197, st197⟩ := getF X196 hx hZ hown (host := "") (Or.inl (hw _ (List.mem_of_getElem? (i := 47) rfl))) Via.refl e196 f189 (g := (mkF m 9 #[.val (.ref o0), .val (.int ((((0 : Int32) ||| (((own_b1 u1) &&& (127 : Int32)) <<< ((0 : Int32) &&& 31))) ||| (((own_b1 (own_s u1)) &&& (127 : Int32)) <<< ((7 : Int32) &&& 31))) ||| (((own_b1 (own_s (own_s u1))) &&& (127 : Int32)) <<< ((14 : Int32) &&& 31)))), .val (.int (21 : Int32)), .val (.int (own_b1 (own_s (own_s u1))))] [(.ref o0), (.int (((i1 + (1 : Int32)) + (1 : Int32)) + (1 : Int32)))])) rfl rfl (hb hby d_prog_42_method_4_code_9)
          refine Goes.step (B := (T197.setTop (mkF m 12 #[.val (.ref o0), .val (.int ((((0 : Int32) ||| (((own_b1 u1) &&& (127 : Int32)) <<< ((0 : Int32) &&& 31))) ||| (((own_b1 (own_s u1)) &&& (127 : Int32)) <<< ((7 : Int32) &&& 31))) ||| (((own_b1 (own_s (own_s u1))) &&& (127 : Int32)) <<< ((14 : Int32) &&& 31)))), .val (.int (21 : Int32)), .val (.int (own_b1 (own_s (own_s u1))))] [(.ref c0), (.int (((i1 + (1 : Int32)) + (1 : Int32)) + (1 : Int32)))]))) (fun _ k => st197 _ k) ?_
          obtain ⟨cl198, Ar198, q198, S198, M198, H198, G198⟩ := id f190
          refine Goes.step (B := (T197.setTop (mkF m 13 #[.val (.ref o0), .val (.int ((((0 : Int32) ||| (((own_b1 u1) &&& (127 : Int32)) <<< ((0 : Int32) &&& 31))) ||| (((own_b1 (own_s u1)) &&& (127 : Int32)) <<< ((7 : Int32) &&& 31))) ||| (((own_b1 (own_s (own_s u1))) &&& (127 : Int32)) <<< ((14 : Int32) &&& 31)))), .val (.int (21 : Int32)), .val (.int (own_b1 (own_s (own_s u1))))] [(.int z1), (.int (((i1 + (1 : Int32)) + (1 : Int32)) + (1 : Int32)))]))) (fun _ k => X197.arraylength hx (by rw [e197]; exact Ar198.1) (State.isArrayOf_alike hZ.alike Ar198.2.1) (g := (mkF m 12 #[.val (.ref o0), .val (.int ((((0 : Int32) ||| (((own_b1 u1) &&& (127 : Int32)) <<< ((0 : Int32) &&& 31))) ||| (((own_b1 (own_s u1)) &&& (127 : Int32)) <<< ((7 : Int32) &&& 31))) ||| (((own_b1 (own_s (own_s u1))) &&& (127 : Int32)) <<< ((14 : Int32) &&& 31)))), .val (.int (21 : Int32)), .val (.int (own_b1 (own_s (own_s u1))))] [(.ref c0), (.int (((i1 + (1 : Int32)) + (1 : Int32)) + (1 : Int32)))])) rfl rfl (hb hby d_prog_42_method_4_code_12) _ (by rw [len_of S198 M198]; exact k)) ?_
          have hc199 : ¬ ((((i1 + (1 : Int32)) + (1 : Int32)) + (1 : Int32)) = z1) := own_nez ai3 (rfl : z1.toInt = z1.toInt) lt195
          refine Goes.step (B := (T197.setTop (mkF m 16 #[.val (.ref o0), .val (.int ((((0 : Int32) ||| (((own_b1 u1) &&& (127 : Int32)) <<< ((0 : Int32) &&& 31))) ||| (((own_b1 (own_s u1)) &&& (127 : Int32)) <<< ((7 : Int32) &&& 31))) ||| (((own_b1 (own_s (own_s u1))) &&& (127 : Int32)) <<< ((14 : Int32) &&& 31)))), .val (.int (21 : Int32)), .val (.int (own_b1 (own_s (own_s u1))))] []))) (fun _ k => XS.icmpNo X197.here hx rfl (hb hby d_prog_42_method_4_code_13) rfl (feq hc199).1 k) ?_
          refine Goes.step (B := (T197.setTop (mkF m 17 #[.val (.ref o0), .val (.int ((((0 : Int32) ||| (((own_b1 u1) &&& (127 : Int32)) <<< ((0 : Int32) &&& 31))) ||| (((own_b1 (own_s u1)) &&& (127 : Int32)) <<< ((7 : Int32) &&& 31))) ||| (((own_b1 (own_s (own_s u1))) &&& (127 : Int32)) <<< ((14 : Int32) &&& 31)))), .val (.int (21 : Int32)), .val (.int (own_b1 (own_s (own_s u1))))] [(.int (21 : Int32))]))) (fun _ k => XS.iloadN X197.here hx rfl (hb hby d_prog_42_method_4_code_16) rfl k) ?_
          refine Goes.step (B := (T197.setTop (mkF m 19 #[.val (.ref o0), .val (.int ((((0 : Int32) ||| (((own_b1 u1) &&& (127 : Int32)) <<< ((0 : Int32) &&& 31))) ||| (((own_b1 (own_s u1)) &&& (127 : Int32)) <<< ((7 : Int32) &&& 31))) ||| (((own_b1 (own_s (own_s u1))) &&& (127 : Int32)) <<< ((14 : Int32) &&& 31)))), .val (.int (21 : Int32)), .val (.int (own_b1 (own_s (own_s u1))))] [(.int (28 : Int32)), (.int (21 : Int32))]))) (fun _ k => XS.bipush X197.here hx rfl (hb hby d_prog_42_method_4_code_17) k) ?_
          have hc200 : ¬ ((28 : Int32) < (21 : Int32)) := by decide
          refine Goes.step (B := (T197.setTop (mkF m 32 #[.val (.ref o0), .val (.int ((((0 : Int32) ||| (((own_b1 u1) &&& (127 : Int32)) <<< ((0 : Int32) &&& 31))) ||| (((own_b1 (own_s u1)) &&& (127 : Int32)) <<< ((7 : Int32) &&& 31))) ||| (((own_b1 (own_s (own_s u1))) &&& (127 : Int32)) <<< ((14 : Int32) &&& 31)))), .val (.int (21 : Int32)), .val (.int (own_b1 (own_s (own_s u1))))] []))) (fun _ k => XS.icmpYes X197.here hx rfl (pc0 := 19) (pc' := 32) rfl (hb hby d_prog_42_method_4_code_19) rfl (flt hc200).2.2.2 (by decide) (by decide) k) ?_
          refine Goes.step (B := (T197.setTop (mkF m 33 #[.val (.ref o0), .val (.int ((((0 : Int32) ||| (((own_b1 u1) &&& (127 : Int32)) <<< ((0 : Int32) &&& 31))) ||| (((own_b1 (own_s u1)) &&& (127 : Int32)) <<< ((7 : Int32) &&& 31))) ||| (((own_b1 (own_s (own_s u1))) &&& (127 : Int32)) <<< ((14 : Int32) &&& 31)))), .val (.int (21 : Int32)), .val (.int (own_b1 (own_s (own_s u1))))] [(.ref o0)]))) (fun _ k => XS.aloadN X197.here hx rfl (hb hby d_prog_42_method_4_code_32) rfl rfl k) ?_
          obtain ⟨T201, X201, e201, st201⟩ := getF X197 hx hZ hown (host := "") (Or.inl (hw _ (List.mem_of_getElem? (i := 47) rfl))) Via.refl e197 f189 (g := (mkF m 33 #[.val (.ref o0), .val (.int ((((0 : Int32) ||| (((own_b1 u1) &&& (127 : Int32)) <<< ((0 : Int32) &&& 31))) ||| (((own_b1 (own_s u1)) &&& (127 : Int32)) <<< ((7 : Int32) &&& 31))) ||| (((own_b1 (own_s (own_s u1))) &&& (127 : Int32)) <<< ((14 : Int32) &&& 31)))), .val (.int (21 : Int32)), .val (.int (own_b1 (own_s (own_s u1))))] [(.ref o0)])) rfl rfl (hb hby d_prog_42_method_4_code_33)
          refine Goes.step (B := (T201.setTop (mkF m 36 #[.val (.ref o0), .val (.int ((((0 : Int32) ||| (((own_b1 u1) &&& (127 : Int32)) <<< ((0 : Int32) &&& 31))) ||| (((own_b1 (own_s u1)) &&& (127 : Int32)) <<< ((7 : Int32) &&& 31))) ||| (((own_b1 (own_s (own_s u1))) &&& (127 : Int32)) <<< ((14 : Int32) &&& 31)))), .val (.int (21 : Int32)), .val (.int (own_b1 (own_s (own_s u1))))] [(.ref c0)]))) (fun _ k => st201 _ k) ?_
          refine Goes.step (B := (T201.setTop (mkF m 37 #[.val (.ref o0), .val (.int ((((0 : Int32) ||| (((own_b1 u1) &&& (127 : Int32)) <<< ((0 : Int32) &&& 31))) ||| (((own_b1 (own_s u1)) &&& (127 : Int32)) <<< ((7 : Int32) &&& 31))) ||| (((own_b1 (own_s (own_s u1))) &&& (127 : Int32)) <<< ((14 : Int32) &&& 31)))), .val (.int (21 : Int32)), .val (.int (own_b1 (own_s (own_s u1))))] [(.ref o0), (.ref c0)]))) (fun _ k => XS.aloadN X201.here hx rfl (hb hby d_prog_42_method_4_code_36) rfl rfl k) ?_
          refine Goes.step (B := (T201.setTop (mkF m 38 #[.val (.ref o0), .val (.int ((((0 : Int32) ||| (((own_b1 u1) &&& (127 : Int32)) <<< ((0 : Int32) &&& 31))) ||| (((own_b1 (own_s u1)) &&& (127 : Int32)) <<< ((7 : Int32) &&& 31))) ||| (((own_b1 (own_s (own_s u1))) &&& (127 : Int32)) <<< ((14 : Int32) &&& 31)))), .val (.int (21 : Int32)), .val (.int (own_b1 (own_s (own_s u1))))] [(.ref o0), (.ref o0), (.ref c0)]))) (fun _ k => XS.dup X201.here hx rfl (hb hby d_prog_42_method_4_code_37) rfl rfl k) ?_
          obtain ⟨T202, X202, e202, st202⟩ := getF X201 hx hZ hown (host := "") (Or.inl (hw _ (List.mem_of_getElem? (i := 54) rfl))) Via.refl e201 f191 (g := (mkF m 38 #[.val (.ref o0), .val (.int ((((0 : Int32) ||| (((own_b1 u1) &&& (127 : Int32)) <<< ((0 : Int32) &&& 31))) ||| (((own_b1 (own_s u1)) &&& (127 : Int32)) <<< ((7 : Int32) &&& 31))) ||| (((own_b1 (own_s (own_s u1))) &&& (127 : Int32)) <<< ((14 : Int32) &&& 31)))), .val (.int (21 : Int32)), .val (.int (own_b1 (own_s (own_s u1))))] [(.ref o0), (.ref o0), (.ref c0)])) rfl rfl (hb hby d_prog_42_method_4_code_38)
          refine Goes.step (B := (T202.setTop (mkF m 41 #[.val (.ref o0), .val (.int ((((0 : Int32) ||| (((own_b1 u1) &&& (127 : Int32)) <<< ((0 : Int32) &&& 31))) ||| (((own_b1 (own_s u1)) &&& (127 : Int32)) <<< ((7 : Int32) &&& 31))) ||| (((own_b1 (own_s (own_s u1))) &&& (127 : Int32)) <<< ((14 : Int32) &&& 31)))), .val (.int (21 : Int32)), .val (.int (own_b1 (own_s (own_s u1))))] [(.int (((i1 + (1 : Int32)) + (1 : Int32)) + (1 : Int32))), (.ref o0), (.ref c0)]))) (fun _ k => st202 _ k) ?_
          refine Goes.step (B := (T202.setTop (mkF m 42 #[.val (.ref o0), .val (.int ((((0 : Int32) ||| (((own_b1 u1) &&& (127 : Int32)) <<< ((0 : Int32) &&& 31))) ||| (((own_b1 (own_s u1)) &&& (127 : Int32)) <<< ((7 : Int32) &&& 31))) ||| (((own_b1 (own_s (own_s u1))) &&& (127 : Int32)) <<< ((14 : Int32) &&& 31)))), .val (.int (21 : Int32)), .val (.int (own_b1 (own_s (own_s u1))))] [(.int (((i1 + (1 : Int32)) + (1 : Int32)) + (1 : Int32))), (.ref o0), (.int (((i1 + (1 : Int32)) + (1 : Int32)) + (1 : Int32))), (.ref c0)]))) (fun _ k => XS.dupX1 X202.here hx rfl (hb hby d_prog_42_method_4_code_41) rfl rfl rfl k) ?_
          refine Goes.step (B := (T202.setTop (mkF m 43 #[.val (.ref o0), .val (.int ((((0 : Int32) ||| (((own_b1 u1) &&& (127 : Int32)) <<< ((0 : Int32) &&& 31))) ||| (((own_b1 (own_s u1)) &&& (127 : Int32)) <<< ((7 : Int32) &&& 31))) ||| (((own_b1 (own_s (own_s u1))) &&& (127 : Int32)) <<< ((14 : Int32) &&& 31)))), .val (.int (21 : Int32)), .val (.int (own_b1 (own_s (own_s u1))))] [(.int (1 : Int32)), (.int (((i1 + (1 : Int32)) + (1 : Int32)) + (1 : Int32))), (.ref o0), (.int (((i1 + (1 : Int32)) + (1 : Int32)) + (1 : Int32))), (.ref c0)]))) (fun _ k => XS.iconst X202.here hx rfl (hb hby d_prog_42_method_4_code_42) k) ?_
          refine Goes.step (B := (T202.setTop (mkF m 44 #[.val (.ref o0), .val (.int ((((0 : Int32) ||| (((own_b1 u1) &&& (127 : Int32)) <<< ((0 : Int32) &&& 31))) ||| (((own_b1 (own_s u1)) &&& (127 : Int32)) <<< ((7 : Int32) &&& 31))) ||| (((own_b1 (own_s (own_s u1))) &&& (127 : Int32)) <<< ((14 : Int32) &&& 31)))), .val (.int (21 : Int32)), .val (.int (own_b1 (own_s (own_s u1))))] [(.int ((((i1 + (1 : Int32)) + (1 : Int32)) + (1 : Int32)) + (1 : Int32))), (.ref o0), (.int (((i1 + (1 : Int32)) + (1 : Int32)) + (1 : Int32))), (.ref c0)]))) (fun _ k => XS.iadd X202.here hx rfl (hb hby d_prog_42_method_4_code_43) rfl k) ?_
          obtain ⟨T203, h203, X203, e203, W203, st203⟩ := putF X202 hx hZ hown (host := "") (Or.inl (hw _ (List.mem_of_getElem? (i := 54) rfl))) Via.refl e202 f191 f188 (Or.inl (hw _ (List.mem_of_getElem? (i := 55) rfl))) (hw _ (List.mem_of_getElem? (i := 24) rfl)) (ty := .int) (by decide) rfl rfl (g := (mkF m 44 #[.val (.ref o0), .val (.int ((((0 : Int32) ||| (((own_b1 u1) &&& (127 : Int32)) <<< ((0 : Int32) &&& 31))) ||| (((own_b1 (own_s u1)) &&& (127 : Int32)) <<< ((7 : Int32) &&& 31))) ||| (((own_b1 (own_s (own_s u1))) &&& (127 : Int32)) <<< ((14 : Int32) &&& 31)))), .val (.int (21 : Int32)), .val (.int (own_b1 (own_s (own_s u1))))] [(.int ((((i1 + (1 : Int32)) + (1 : Int32)) + (1 : Int32)) + (1 : Int32))), (.ref o0), (.int (((i1 + (1 : Int32)) + (1 : Int32)) + (1 : Int32))), (.ref c0)])) rfl rfl (hb hby d_prog_42_method_4_code_44)
          have f204 := f188.wr W203
          have f205 := f189.other W203 (Or.inr (slot_ne (Or.inr (hw _ (List.mem_of_getElem? (i := 48) rfl))) (Or.inl (hw _ (List.mem_of_getElem? (i := 55) rfl))) (by decide) (t := (.array .byte)) (t' := .int) (by decide) (by decide)))
          have f206 := f190.other W203 pr5
          have N203 := Fr.snoc X203 N187 pr4
          have K203 : Keep h0 h203 [o0] := K187.wr W203 (Or.inl (List.mem_of_getElem? (i := 0) rfl))
          have Z203 : n0 ≤ h203.size := Nat.le_trans Z187 (Nat.le_of_eq W203.size.symm)
          have f207 : Fld Z h203 o0 "com/example/kartoteka/kartoteka/index/Varints$Reader" "at" "I" (.int ((((i1 + (1 : Int32)) + (1 : Int32)) + (1 : Int32)) + (1 : Int32))) := f191.same W203
          refine Goes.step (B := (T203.setTop (mkF m 47 #[.val (.ref o0), .val (.int ((((0 : Int32) ||| (((own_b1 u1) &&& (127 : Int32)) <<< ((0 : Int32) &&& 31))) ||| (((own_b1 (own_s u1)) &&& (127 : Int32)) <<< ((7 : Int32) &&& 31))) ||| (((own_b1 (own_s (own_s u1))) &&& (127 : Int32)) <<< ((14 : Int32) &&& 31)))), .val (.int (21 : Int32)), .val (.int (own_b1 (own_s (own_s u1))))] [(.int (((i1 + (1 : Int32)) + (1 : Int32)) + (1 : Int32))), (.ref c0)]))) (fun _ k => st203 _ k) ?_
          obtain ⟨cl208, Ar208, q208, S208, M208, H208, G208⟩ := id f206
          have hin208 : ¬ ((((i1 + (1 : Int32)) + (1 : Int32)) + (1 : Int32)) < 0 ∨ cl208.slots.size ≤ ((((i1 + (1 : Int32)) + (1 : Int32)) + (1 : Int32))).toNatClampNeg) := own_in S208 ai3 (rfl : z1.toInt = z1.toInt) (by omega) lt195
          have hat208 : cl208.slots[((((i1 + (1 : Int32)) + (1 : Int32)) + (1 : Int32))).toNatClampNeg]? = some (.int (own_b0 (own_s (own_s (own_s u1))))) := by rw [H208 _ (by rw [S208]; exact (own_cl ai3 (rfl : z1.toInt = z1.toInt) (by omega) lt195)), own_l_get f1 _ (own_cl ai3 (rfl : z1.toInt = z1.toInt) (by omega) lt195), eb195]
          refine Goes.step (B := (T203.setTop (mkF m 48 #[.val (.ref o0), .val (.int ((((0 : Int32) ||| (((own_b1 u1) &&& (127 : Int32)) <<< ((0 : Int32) &&& 31))) ||| (((own_b1 (own_s u1)) &&& (127 : Int32)) <<< ((7 : Int32) &&& 31))) ||| (((own_b1 (own_s (own_s u1))) &&& (127 : Int32)) <<< ((14 : Int32) &&& 31)))), .val (.int (21 : Int32)), .val (.int (own_b1 (own_s (own_s u1))))] [(.int (own_b0 (own_s (own_s (own_s u1)))))]))) (fun _ k => X203.baloadBytes hx (j := (((i1 + (1 : Int32)) + (1 : Int32)) + (1 : Int32))) (v := (.int (own_b0 (own_s (own_s (own_s u1)))))) (by rw [e203]; exact Ar208.1) (State.isArrayOf_alike hZ.alike Ar208.2.1) Ar208.2.2 hin208 hat208 (g := (mkF m 47 #[.val (.ref o0), .val (.int ((((0 : Int32) ||| (((own_b1 u1) &&& (127 : Int32)) <<< ((0 : Int32) &&& 31))) ||| (((own_b1 (own_s u1)) &&& (127 : Int32)) <<< ((7 : Int32) &&& 31))) ||| (((own_b1 (own_s (own_s u1))) &&& (127 : Int32)) <<< ((14 : Int32) &&& 31)))), .val (.int (21 : Int32)), .val (.int (own_b1 (own_s (own_s u1))))] [(.int (((i1 + (1 : Int32)) + (1 : Int32)) + (1 : Int32))), (.ref c0)])) rfl rfl (hb hby d_prog_42_method_4_code_47) _ k) ?_
          refine Goes.step (B := (T203.setTop (mkF m 49 #[.val (.ref o0), .val (.int ((((0 : Int32) ||| (((own_b1 u1) &&& (127 : Int32)) <<< ((0 : Int32) &&& 31))) ||| (((own_b1 (own_s u1)) &&& (127 : Int32)) <<< ((7 : Int32) &&& 31))) ||| (((own_b1 (own_s (own_s u1))) &&& (127 : Int32)) <<< ((14 : Int32) &&& 31)))), .val (.int (21 : Int32)), .val (.int (own_b0 (own_s (own_s (own_s u1)))))] []))) (fun _ k => XS.istoreN X203.here hx rfl (hb hby d_prog_42_method_4_code_48) rfl (l' := #[.val (.ref o0), .val (.int ((((0 : Int32) ||| (((own_b1 u1) &&& (127 : Int32)) <<< ((0 : Int32) &&& 31))) ||| (((own_b1 (own_s u1)) &&& (127 : Int32)) <<< ((7 : Int32) &&& 31))) ||| (((own_b1 (own_s (own_s u1))) &&& (127 : Int32)) <<< ((14 : Int32) &&& 31)))), .val (.int (21 : Int32)), .val (.int (own_b0 (own_s (own_s (own_s u1)))))]) rfl k) ?_
          refine Goes.step (B := (T203.setTop (mkF m 50 #[.val (.ref o0), .val (.int ((((0 : Int32) ||| (((own_b1 u1) &&& (127 : Int32)) <<< ((0 : Int32) &&& 31))) ||| (((own_b1 (own_s u1)) &&& (127 : Int32)) <<< ((7 : Int32) &&& 31))) ||| (((own_b1 (own_s (own_s u1))) &&& (127 : Int32)) <<< ((14 : Int32) &&& 31)))), .val (.int (21 : Int32)), .val (.int (own_b0 (own_s (own_s (own_s u1)))))] [(.int ((((0 : Int32) ||| (((own_b1 u1) &&& (127 : Int32)) <<< ((0 : Int32) &&& 31))) ||| (((own_b1 (own_s u1)) &&& (127 : Int32)) <<< ((7 : Int32) &&& 31))) ||| (((own_b1 (own_s (own_s u1))) &&& (127 : Int32)) <<< ((14 : Int32) &&& 31))))]))) (fun _ k => XS.iloadN X203.here hx rfl (hb hby d_prog_42_method_4_code_49) rfl k) ?_
          refine Goes.step (B := (T203.setTop (mkF m 51 #[.val (.ref o0), .val (.int ((((0 : Int32) ||| (((own_b1 u1) &&& (127 : Int32)) <<< ((0 : Int32) &&& 31))) ||| (((own_b1 (own_s u1)) &&& (127 : Int32)) <<< ((7 : Int32) &&& 31))) ||| (((own_b1 (own_s (own_s u1))) &&& (127 : Int32)) <<< ((14 : Int32) &&& 31)))), .val (.int (21 : Int32)), .val (.int (own_b0 (own_s (own_s (own_s u1)))))] [(.int (own_b0 (own_s (own_s (own_s u1))))), (.int ((((0 : Int32) ||| (((own_b1 u1) &&& (127 : Int32)) <<< ((0 : Int32) &&& 31))) ||| (((own_b1 (own_s u1)) &&& (127 : Int32)) <<< ((7 : Int32) &&& 31))) ||| (((own_b1 (own_s (own_s u1))) &&& (127 : Int32)) <<< ((14 : Int32) &&& 31))))]))) (fun _ k => XS.iloadN X203.here hx rfl (hb hby d_prog_42_method_4_code_50) rfl k) ?_
          refine Goes.step (B := (T203.setTop (mkF m 53 #[.val (.ref o0), .val (.int ((((0 : Int32) ||| (((own_b1 u1) &&& (127 : Int32)) <<< ((0 : Int32) &&& 31))) ||| (((own_b1 (own_s u1)) &&& (127 : Int32)) <<< ((7 : Int32) &&& 31))) ||| (((own_b1 (own_s (own_s u1))) &&& (127 : Int32)) <<< ((14 : Int32) &&& 31)))), .val (.int (21 : Int32)), .val (.int (own_b0 (own_s (own_s (own_s u1)))))] [(.int (127 : Int32)), (.int (own_b0 (own_s (own_s (own_s u1))))), (.int ((((0 : Int32) ||| (((own_b1 u1) &&& (127 : Int32)) <<< ((0 : Int32) &&& 31))) ||| (((own_b1 (own_s u1)) &&& (127 : Int32)) <<< ((7 : Int32) &&& 31))) ||| (((own_b1 (own_s (own_s u1))) &&& (127 : Int32)) <<< ((14 : Int32) &&& 31))))]))) (fun _ k => XS.bipush X203.here hx rfl (hb hby d_prog_42_method_4_code_51) k) ?_
          refine Goes.step (B := (T203.setTop (mkF m 54 #[.val (.ref o0), .val (.int ((((0 : Int32) ||| (((own_b1 u1) &&& (127 : Int32)) <<< ((0 : Int32) &&& 31))) ||| (((own_b1 (own_s u1)) &&& (127 : Int32)) <<< ((7 : Int32) &&& 31))) ||| (((own_b1 (own_s (own_s u1))) &&& (127 : Int32)) <<< ((14 : Int32) &&& 31)))), .val (.int (21 : Int32)), .val (.int (own_b0 (own_s (own_s (own_s u1)))))] [(.int ((own_b0 (own_s (own_s (own_s u1)))) &&& (127 : Int32))), (.int ((((0 : Int32) ||| (((own_b1 u1) &&& (127 : Int32)) <<< ((0 : Int32) &&& 31))) ||| (((own_b1 (own_s u1)) &&& (127 : Int32)) <<< ((7 : Int32) &&& 31))) ||| (((own_b1 (own_s (own_s u1))) &&& (127 : Int32)) <<< ((14 : Int32) &&& 31))))]))) (fun _ k => XS.iand X203.here hx rfl (hb hby d_prog_42_method_4_code_53) rfl k) ?_
          refine Goes.step (B := (T203.setTop (mkF m 55 #[.val (.ref o0), .val (.int ((((0 : Int32) ||| (((own_b1 u1) &&& (127 : Int32)) <<< ((0 : Int32) &&& 31))) ||| (((own_b1 (own_s u1)) &&& (127 : Int32)) <<< ((7 : Int32) &&& 31))) ||| (((own_b1 (own_s (own_s u1))) &&& (127 : Int32)) <<< ((14 : Int32) &&& 31)))), .val (.int (21 : Int32)), .val (.int (own_b0 (own_s (own_s (own_s u1)))))] [(.int (21 : Int32)), (.int ((own_b0 (own_s (own_s (own_s u1)))) &&& (127 : Int32))), (.int ((((0 : Int32) ||| (((own_b1 u1) &&& (127 : Int32)) <<< ((0 : Int32) &&& 31))) ||| (((own_b1 (own_s u1)) &&& (127 : Int32)) <<< ((7 : Int32) &&& 31))) ||| (((own_b1 (own_s (own_s u1))) &&& (127 : Int32)) <<< ((14 : Int32) &&& 31))))]))) (fun _ k => XS.iloadN X203.here hx rfl (hb hby d_prog_42_method_4_code_54) rfl k) ?_
          refine Goes.step (B := (T203.setTop (mkF m 56 #[.val (.ref o0), .val (.int ((((0 : Int32) ||| (((own_b1 u1) &&& (127 : Int32)) <<< ((0 : Int32) &&& 31))) ||| (((own_b1 (own_s u1)) &&& (127 : Int32)) <<< ((7 : Int32) &&& 31))) ||| (((own_b1 (own_s (own_s u1))) &&& (127 : Int32)) <<< ((14 : Int32) &&& 31)))), .val (.int (21 : Int32)), .val (.int (own_b0 (own_s (own_s (own_s u1)))))] [(.int (((own_b0 (own_s (own_s (own_s u1)))) &&& (127 : Int32)) <<< ((21 : Int32) &&& 31))), (.int ((((0 : Int32) ||| (((own_b1 u1) &&& (127 : Int32)) <<< ((0 : Int32) &&& 31))) ||| (((own_b1 (own_s u1)) &&& (127 : Int32)) <<< ((7 : Int32) &&& 31))) ||| (((own_b1 (own_s (own_s u1))) &&& (127 : Int32)) <<< ((14 : Int32) &&& 31))))]))) (fun _ k => XS.ishl X203.here hx rfl (hb hby d_prog_42_method_4_code_55) rfl k) ?_
          refine Goes.step (B := (T203.setTop (mkF m 57 #[.val (.ref o0), .val (.int ((((0 : Int32) ||| (((own_b1 u1) &&& (127 : Int32)) <<< ((0 : Int32) &&& 31))) ||| (((own_b1 (own_s u1)) &&& (127 : Int32)) <<< ((7 : Int32) &&& 31))) ||| (((own_b1 (own_s (own_s u1))) &&& (127 : Int32)) <<< ((14 : Int32) &&& 31)))), .val (.int (21 : Int32)), .val (.int (own_b0 (own_s (own_s (own_s u1)))))] [(.int (((((0 : Int32) ||| (((own_b1 u1) &&& (127 : Int32)) <<< ((0 : Int32) &&& 31))) ||| (((own_b1 (own_s u1)) &&& (127 : Int32)) <<< ((7 : Int32) &&& 31))) ||| (((own_b1 (own_s (own_s u1))) &&& (127 : Int32)) <<< ((14 : Int32) &&& 31))) ||| (((own_b0 (own_s (own_s (own_s u1)))) &&& (127 : Int32)) <<< ((21 : Int32) &&& 31))))]))) (fun _ k => XS.ior X203.here hx rfl (hb hby d_prog_42_method_4_code_56) rfl k) ?_
          refine Goes.step (B := (T203.setTop (mkF m 58 #[.val (.ref o0), .val (.int (((((0 : Int32) ||| (((own_b1 u1) &&& (127 : Int32)) <<< ((0 : Int32) &&& 31))) ||| (((own_b1 (own_s u1)) &&& (127 : Int32)) <<< ((7 : Int32) &&& 31))) ||| (((own_b1 (own_s (own_s u1))) &&& (127 : Int32)) <<< ((14 : Int32) &&& 31))) ||| (((own_b0 (own_s (own_s (own_s u1)))) &&& (127 : Int32)) <<< ((21 : Int32) &&& 31)))), .val (.int (21 : Int32)), .val (.int (own_b0 (own_s (own_s (own_s u1)))))] []))) (fun _ k => XS.istoreN X203.here hx rfl (hb hby d_prog_42_method_4_code_57) rfl (l' := #[.val (.ref o0), .val (.int (((((0 : Int32) ||| (((own_b1 u1) &&& (127 : Int32)) <<< ((0 : Int32) &&& 31))) ||| (((own_b1 (own_s u1)) &&& (127 : Int32)) <<< ((7 : Int32) &&& 31))) ||| (((own_b1 (own_s (own_s u1))) &&& (127 : Int32)) <<< ((14 : Int32) &&& 31))) ||| (((own_b0 (own_s (own_s (own_s u1)))) &&& (127 : Int32)) <<< ((21 : Int32) &&& 31)))), .val (.int (21 : Int32)), .val (.int (own_b0 (own_s (own_s (own_s u1)))))]) rfl k) ?_
          refine Goes.step (B := (T203.setTop (mkF m 61 #[.val (.ref o0), .val (.int (((((0 : Int32) ||| (((own_b1 u1) &&& (127 : Int32)) <<< ((0 : Int32) &&& 31))) ||| (((own_b1 (own_s u1)) &&& (127 : Int32)) <<< ((7 : Int32) &&& 31))) ||| (((own_b1 (own_s (own_s u1))) &&& (127 : Int32)) <<< ((14 : Int32) &&& 31))) ||| (((own_b0 (own_s (own_s (own_s u1)))) &&& (127 : Int32)) <<< ((21 : Int32) &&& 31)))), .val (.int (28 : Int32)), .val (.int (own_b0 (own_s (own_s (own_s u1)))))] []))) (fun _ k => XS.iinc X203.here hx rfl (hb hby d_prog_42_method_4_code_58) rfl (l' := #[.val (.ref o0), .val (.int (((((0 : Int32) ||| (((own_b1 u1) &&& (127 : Int32)) <<< ((0 : Int32) &&& 31))) ||| (((own_b1 (own_s u1)) &&& (127 : Int32)) <<< ((7 : Int32) &&& 31))) ||| (((own_b1 (own_s (own_s u1))) &&& (127 : Int32)) <<< ((14 : Int32) &&& 31))) ||| (((own_b0 (own_s (own_s (own_s u1)))) &&& (127 : Int32)) <<< ((21 : Int32) &&& 31)))), .val (.int (28 : Int32)), .val (.int (own_b0 (own_s (own_s (own_s u1)))))]) rfl k) ?_
          refine Goes.step (B := (T203.setTop (mkF m 62 #[.val (.ref o0), .val (.int (((((0 : Int32) ||| (((own_b1 u1) &&& (127 : Int32)) <<< ((0 : Int32) &&& 31))) ||| (((own_b1 (own_s u1)) &&& (127 : Int32)) <<< ((7 : Int32) &&& 31))) ||| (((own_b1 (own_s (own_s u1))) &&& (127 : Int32)) <<< ((14 : Int32) &&& 31))) ||| (((own_b0 (own_s (own_s (own_s u1)))) &&& (127 : Int32)) <<< ((21 : Int32) &&& 31)))), .val (.int (28 : Int32)), .val (.int (own_b0 (own_s (own_s (own_s u1)))))] [(.int (own_b0 (own_s (own_s (own_s u1)))))]))) (fun _ k => XS.iloadN X203.here hx rfl (hb hby d_prog_42_method_4_code_61) rfl k) ?_
          refine Goes.step (B := (T203.setTop (mkF m 65 #[.val (.ref o0), .val (.int (((((0 : Int32) ||| (((own_b1 u1) &&& (127 : Int32)) <<< ((0 : Int32) &&& 31))) ||| (((own_b1 (own_s u1)) &&& (127 : Int32)) <<< ((7 : Int32) &&& 31))) ||| (((own_b1 (own_s (own_s u1))) &&& (127 : Int32)) <<< ((14 : Int32) &&& 31))) ||| (((own_b0 (own_s (own_s (own_s u1)))) &&& (127 : Int32)) <<< ((21 : Int32) &&& 31)))), .val (.int (28 : Int32)), .val (.int (own_b0 (own_s (own_s (own_s u1)))))] [(.int (128 : Int32)), (.int (own_b0 (own_s (own_s (own_s u1)))))]))) (fun _ k => XS.sipush X203.here hx rfl (hb hby d_prog_42_method_4_code_62) k) ?_
          refine Goes.step (B := (T203.setTop (mkF m 66 #[.val (.ref o0), .val (.int (((((0 : Int32) ||| (((own_b1 u1) &&& (127 : Int32)) <<< ((0 : Int32) &&& 31))) ||| (((own_b1 (own_s u1)) &&& (127 : Int32)) <<< ((7 : Int32) &&& 31))) ||| (((own_b1 (own_s (own_s u1))) &&& (127 : Int32)) <<< ((14 : Int32) &&& 31))) ||| (((own_b0 (own_s (own_s (own_s u1)))) &&& (127 : Int32)) <<< ((21 : Int32) &&& 31)))), .val (.int (28 : Int32)), .val (.int (own_b0 (own_s (own_s (own_s u1)))))] [(.int ((own_b0 (own_s (own_s (own_s u1)))) &&& (128 : Int32)))]))) (fun _ k => XS.iand X203.here hx rfl (hb hby d_prog_42_method_4_code_65) rfl k) ?_
          have hc209 : ((own_b0 (own_s (own_s (own_s u1)))) &&& (128 : Int32)) = (0 : Int32) := own_b0c hk3_194
          refine Goes.step (B := (T203.setTop (mkF m 69 #[.val (.ref o0), .val (.int (((((0 : Int32) ||| (((own_b1 u1) &&& (127 : Int32)) <<< ((0 : Int32) &&& 31))) ||| (((own_b1 (own_s u1)) &&& (127 : Int32)) <<< ((7 : Int32) &&& 31))) ||| (((own_b1 (own_s (own_s u1))) &&& (127 : Int32)) <<< ((14 : Int32) &&& 31))) ||| (((own_b0 (own_s (own_s (own_s u1)))) &&& (127 : Int32)) <<< ((21 : Int32) &&& 31)))), .val (.int (28 : Int32)), .val (.int (own_b0 (own_s (own_s (own_s u1)))))] []))) (fun _ k => XS.ifNo X203.here hx rfl (hb hby d_prog_42_method_4_code_66) rfl ((if0 _ _).trans (teq hc209).2) k) ?_
          refine Goes.step (B := (T203.setTop (mkF m 70 #[.val (.ref o0), .val (.int (((((0 : Int32) ||| (((own_b1 u1) &&& (127 : Int32)) <<< ((0 : Int32) &&& 31))) ||| (((own_b1 (own_s u1)) &&& (127 : Int32)) <<< ((7 : Int32) &&& 31))) ||| (((own_b1 (own_s (own_s u1))) &&& (127 : Int32)) <<< ((14 : Int32) &&& 31))) ||| (((own_b0 (own_s (own_s (own_s u1)))) &&& (127 : Int32)) <<< ((21 : Int32) &&& 31)))), .val (.int (28 : Int32)), .val (.int (own_b0 (own_s (own_s (own_s u1)))))] [(.int (((((0 : Int32) ||| (((own_b1 u1) &&& (127 : Int32)) <<< ((0 : Int32) &&& 31))) ||| (((own_b1 (own_s u1)) &&& (127 : Int32)) <<< ((7 : Int32) &&& 31))) ||| (((own_b1 (own_s (own_s u1))) &&& (127 : Int32)) <<< ((14 : Int32) &&& 31))) ||| (((own_b0 (own_s (own_s (own_s u1)))) &&& (127 : Int32)) <<< ((21 : Int32) &&& 31))))]))) (fun _ k => XS.iloadN X203.here hx rfl (hb hby d_prog_42_method_4_code_69) rfl k) ?_
          refine Goes.retI X203 hx hlk hrt (hb hby d_prog_42_method_4_code_70) ?_ (by decide) (by decide)
          rw [e203]
          have en : own_n 4 i1 u1 = ((((i1 + (1 : Int32)) + (1 : Int32)) + (1 : Int32)) + (1 : Int32)) := by simp only [own_n, if_neg hk0_101, if_neg hk1_132, if_neg hk2_163, if_pos hk3_194]
          rw [← en] at f207
          exact ⟨congrArg (fun z => some (Value.int z)) (own_acc4 u1 hk3_194), N203, K203, f204, f205, f207⟩
        · obtain ⟨eb210, E210⟩ : f1 ((((i1 + (1 : Int32)) + (1 : Int32)) + (1 : Int32))).toNatClampNeg = own_b1 (own_s (own_s (own_s u1))) ∧ own_E 0 f1 ((((i1 + (1 : Int32)) + (1 : Int32)) + (1 : Int32)) + (1 : Int32)) (own_s (own_s (own_s (own_s u1)))) := by simpa only [own_E, if_neg hk3_194] using E179
          have B210 : (own_n 0 ((((i1 + (1 : Int32)) + (1 : Int32)) + (1 : Int32)) + (1 : Int32)) (own_s (own_s (own_s (own_s u1))))).toInt ≤ z1.toInt := by have q := B179; simpa only [own_n, if_neg hk3_194] using q
          have lt210 : i1.toInt + 3 < z1.toInt := by have r := own_e ai3 (by omega) (by omega); have q := own_nb 0 ((((i1 + (1 : Int32)) + (1 : Int32)) + (1 : Int32)) + (1 : Int32)) (own_s (own_s (own_s (own_s u1)))) (by omega) (by omega); omega
          refine Goes.step (B := (T187.setTop (mkF m 5 #[.val (.ref o0), .val (.int ((((0 : Int32) ||| (((own_b1 u1) &&& (127 : Int32)) <<< ((0 : Int32) &&& 31))) ||| (((own_b1 (own_s u1)) &&& (127 : Int32)) <<< ((7 : Int32) &&& 31))) ||| (((own_b1 (own_s (own_s u1))) &&& (127 : Int32)) <<< ((14 : Int32) &&& 31)))), .val (.int (21 : Int32)), .val (.int (own_b1 (own_s (own_s u1))))] [(.ref o0)]))) (fun _ k => XS.aloadN X187.here hx rfl (hb hby d_prog_42_method_4_code_4) rfl rfl k) ?_
          obtain ⟨T211, X211, e211, st211⟩ := getF X187 hx hZ hown (host := "") (Or.inl (hw _ (List.mem_of_getElem? (i := 54) rfl))) Via.refl e187 f191 (g := (mkF m 5 #[.val (.ref o0), .val (.int ((((0 : Int32) ||| (((own_b1 u1) &&& (127 : Int32)) <<< ((0 : Int32) &&& 31))) ||| (((own_b1 (own_s u1)) &&& (127 : Int32)) <<< ((7 : Int32) &&& 31))) ||| (((own_b1 (own_s (own_s u1))) &&& (127 : Int32)) <<< ((14 : Int32) &&& 31)))), .val (.int (21 : Int32)), .val (.int (own_b1 (own_s (own_s u1))))] [(.ref o0)])) rfl rfl (hb hby d_prog_42_method_4_code_5)
          refine Goes.step (B := (T211.setTop (mkF m 8 #[.val (.ref o0), .val (.int ((((0 : Int32) ||| (((own_b1 u1) &&& (127 : Int32)) <<< ((0 : Int32) &&& 31))) ||| (((own_b1 (own_s u1)) &&& (127 : Int32)) <<< ((7 : Int32) &&& 31))) ||| (((own_b1 (own_s (own_s u1))) &&& (127 : Int32)) <<< ((14 : Int32) &&& 31)))), .val (.int (21 : Int32)), .val (.int (own_b1 (own_s (own_s u1))))] [(.int (((i1 + (1 : Int32)) + (1 : Int32)) + (1 : Int32)))]))) (fun _ k => st211 _ k) ?_
          refine Goes.step (B := (T211.setTop (mkF m 9 #[.val (.ref o0), .val (.int ((((0 : Int32) ||| (((own_b1 u1) &&& (127 : Int32)) <<< ((0 : Int32) &&& 31))) ||| (((own_b1 (own_s u1)) &&& (127 : Int32)) <<< ((7 : Int32) &&& 31))) ||| (((own_b1 (own_s (own_s u1))) &&& (127 : Int32)) <<< ((14 : Int32) &&& 31)))), .val (.int (21 : Int32)), .val (.int (own_b1 (own_s (own_s u1))))] [(.ref o0), (.int (((i1 + (1 : Int32)) + (1 : Int32)) + (1 : Int32)))]))) (fun _ k => XS.aloadN X211.here hx rfl (hb hby d_prog_42_method_4_code_8) rfl rfl k) ?_
          obtain ⟨T212, X212, e212, st212⟩ := getF X211 hx hZ hown (host := "") (Or.inl (hw _ (List.mem_of_getElem? (i := 47) rfl))) Via.refl e211 f189 (g := (mkF m 9 #[.val (.ref o0), .val (.int ((((0 : Int32) ||| (((own_b1 u1) &&& (127 : Int32)) <<< ((0 : Int32) &&& 31))) ||| (((own_b1 (own_s u1)) &&& (127 : Int32)) <<< ((7 : Int32) &&& 31))) ||| (((own_b1 (own_s (own_s u1))) &&& (127 : Int32)) <<< ((14 : Int32) &&& 31)))), .val (.int (21 : Int32)), .val (.int (own_b1 (own_s (own_s u1))))] [(.ref o0), (.int (((i1 + (1 : Int32)) + (1 : Int32)) + (1 : Int32)))])) rfl rfl (hb hby d_prog_42_method_4_code_9)
          refine Goes.step (B := (T212.setTop (mkF m 12 #[.val (.ref o0), .val (.int ((((0 : Int32) ||| (((own_b1 u1) &&& (127 : Int32)) <<< ((0 : Int32) &&& 31))) ||| (((own_b1 (own_s u1)) &&& (127 : Int32)) <<< ((7 : Int32) &&& 31))) ||| (((own_b1 (own_s (own_s u1))) &&& (127 : Int32)) <<< ((14 : Int32) &&& 31)))), .val (.int (21 : Int32)), .val (.int (own_b1 (own_s (own_s u1))))] [(.ref c0), (.int (((i1 + (1 : Int32)) + (1 : Int32)) + (1 : Int32)))]))) (fun _ k => st212 _ k) ?_
          obtain ⟨cl213, Ar213, q213, S213, M213, H213, G213⟩ := id f190
          refine Goes.step (B := (T212.setTop (mkF m 13 #[.val (.ref o0), .val (.int ((((0 : Int32) ||| (((own_b1 u1) &&& (127 : Int32)) <<< ((0 : Int32) &&& 31))) ||| (((own_b1 (own_s u1)) &&& (127 : Int32)) <<< ((7 : Int32) &&& 31))) ||| (((own_b1 (own_s (own_s u1))) &&& (127 : Int32)) <<< ((14 : Int32) &&& 31)))), .val (.int (21 : Int32)), .val (.int (own_b1 (own_s (own_s u1))))] [(.int z1), (.int (((i1 + (1 : Int32)) + (1 : Int32)) + (1 : Int32)))]))) (fun _ k => X212.arraylength hx (by rw [e212]; exact Ar213.1) (State.isArrayOf_alike hZ.alike Ar213.2.1) (g := (mkF m 12 #[.val (.ref o0), .val (.int ((((0 : Int32) ||| (((own_b1 u1) &&& (127 : Int32)) <<< ((0 : Int32) &&& 31))) ||| (((own_b1 (own_s u1)) &&& (127 : Int32)) <<< ((7 : Int32) &&& 31))) ||| (((own_b1 (own_s (own_s u1))) &&& (127 : Int32)) <<< ((14 : Int32) &&& 31)))), .val (.int (21 : Int32)), .val (.int (own_b1 (own_s (own_s u1))))] [(.ref c0), (.int (((i1 + (1 : Int32)) + (1 : Int32)) + (1 : Int32)))])) rfl rfl (hb hby d_prog_42_method_4_code_12) _ (by rw [len_of S213 M213]; exact k)) ?_
          have hc214 : ¬ ((((i1 + (1 : Int32)) + (1 : Int32)) + (1 : Int32)) = z1) := own_nez ai3 (rfl : z1.toInt = z1.toInt) lt210
          refine Goes.step (B := (T212.setTop (mkF m 16 #[.val (.ref o0), .val (.int ((((0 : Int32) ||| (((own_b1 u1) &&& (127 : Int32)) <<< ((0 : Int32) &&& 31))) ||| (((own_b1 (own_s u1)) &&& (127 : Int32)) <<< ((7 : Int32) &&& 31))) ||| (((own_b1 (own_s (own_s u1))) &&& (127 : Int32)) <<< ((14 : Int32) &&& 31)))), .val (.int (21 : Int32)), .val (.int (own_b1 (own_s (own_s u1))))] []))) (fun _ k => XS.icmpNo X212.here hx rfl (hb hby d_prog_42_method_4_code_13) rfl (feq hc214).1 k) ?_
          refine Goes.step (B := (T212.setTop (mkF m 17 #[.val (.ref o0), .val (.int ((((0 : Int32) ||| (((own_b1 u1) &&& (127 : Int32)) <<< ((0 : Int32) &&& 31))) ||| (((own_b1 (own_s u1)) &&& (127 : Int32)) <<< ((7 : Int32) &&& 31))) ||| (((own_b1 (own_s (own_s u1))) &&& (127 : Int32)) <<< ((14 : Int32) &&& 31)))), .val (.int (21 : Int32)), .val (.int (own_b1 (own_s (own_s u1))))] [(.int (21 : Int32))]))) (fun _ k => XS.iloadN X212.here hx rfl (hb hby d_prog_42_method_4_code_16) rfl k) ?_
          refine Goes.step (B := (T212.setTop (mkF m 19 #[.val (.ref o0), .val (.int ((((0 : Int32) ||| (((own_b1 u1) &&& (127 : Int32)) <<< ((0 : Int32) &&& 31))) ||| (((own_b1 (own_s u1)) &&& (127 : Int32)) <<< ((7 : Int32) &&& 31))) ||| (((own_b1 (own_s (own_s u1))) &&& (127 : Int32)) <<< ((14 : Int32) &&& 31)))), .val (.int (21 : Int32)), .val (.int (own_b1 (own_s (own_s u1))))] [(.int (28 : Int32)), (.int (21 : Int32))]))) (fun _ k => XS.bipush X212.here hx rfl (hb hby d_prog_42_method_4_code_17) k) ?_
          have hc215 : ¬ ((28 : Int32) < (21 : Int32)) := by decide
          refine Goes.step (B := (T212.setTop (mkF m 32 #[.val (.ref o0), .val (.int ((((0 : Int32) ||| (((own_b1 u1) &&& (127 : Int32)) <<< ((0 : Int32) &&& 31))) ||| (((own_b1 (own_s u1)) &&& (127 : Int32)) <<< ((7 : Int32) &&& 31))) ||| (((own_b1 (own_s (own_s u1))) &&& (127 : Int32)) <<< ((14 : Int32) &&& 31)))), .val (.int (21 : Int32)), .val (.int (own_b1 (own_s (own_s u1))))] []))) (fun _ k => XS.icmpYes X212.here hx rfl (pc0 := 19) (pc' := 32) rfl (hb hby d_prog_42_method_4_code_19) rfl (flt hc215).2.2.2 (by decide) (by decide) k) ?_
          refine Goes.step (B := (T212.setTop (mkF m 33 #[.val (.ref o0), .val (.int ((((0 : Int32) ||| (((own_b1 u1) &&& (127 : Int32)) <<< ((0 : Int32) &&& 31))) ||| (((own_b1 (own_s u1)) &&& (127 : Int32)) <<< ((7 : Int32) &&& 31))) ||| (((own_b1 (own_s (own_s u1))) &&& (127 : Int32)) <<< ((14 : Int32) &&& 31)))), .val (.int (21 : Int32)), .val (.int (own_b1 (own_s (own_s u1))))] [(.ref o0)]))) (fun _ k => XS.aloadN X212.here hx rfl (hb hby d_prog_42_method_4_code_32) rfl rfl k) ?_
          obtain ⟨T216, X216, e216, st216⟩ := getF X212 hx hZ hown (host := "") (Or.inl (hw _ (List.mem_of_getElem? (i := 47) rfl))) Via.refl e212 f189 (g := (mkF m 33 #[.val (.ref o0), .val (.int ((((0 : Int32) ||| (((own_b1 u1) &&& (127 : Int32)) <<< ((0 : Int32) &&& 31))) ||| (((own_b1 (own_s u1)) &&& (127 : Int32)) <<< ((7 : Int32) &&& 31))) ||| (((own_b1 (own_s (own_s u1))) &&& (127 : Int32)) <<< ((14 : Int32) &&& 31)))), .val (.int (21 : Int32)), .val (.int (own_b1 (own_s (own_s u1))))] [(.ref o0)])) rfl rfl (hb hby d_prog_42_method_4_code_33)
          refine Goes.step (B := (T216.setTop (mkF m 36 #[.val (.ref o0), .val (.int ((((0 : Int32) ||| (((own_b1 u1) &&& (127 : Int32)) <<< ((0 : Int32) &&& 31))) ||| (((own_b1 (own_s u1)) &&& (127 : Int32)) <<< ((7 : Int32) &&& 31))) ||| (((own_b1 (own_s (own_s u1))) &&& (127 : Int32)) <<< ((14 : Int32) &&& 31)))), .val (.int (21 : Int32)), .val (.int (own_b1 (own_s (own_s u1))))] [(.ref c0)]))) (fun _ k => st216 _ k) ?_
          refine Goes.step (B := (T216.setTop (mkF m 37 #[.val (.ref o0), .val (.int ((((0 : Int32) ||| (((own_b1 u1) &&& (127 : Int32)) <<< ((0 : Int32) &&& 31))) ||| (((own_b1 (own_s u1)) &&& (127 : Int32)) <<< ((7 : Int32) &&& 31))) ||| (((own_b1 (own_s (own_s u1))) &&& (127 : Int32)) <<< ((14 : Int32) &&& 31)))), .val (.int (21 : Int32)), .val (.int (own_b1 (own_s (own_s u1))))] [(.ref o0), (.ref c0)]))) (fun _ k => XS.aloadN X216.here hx rfl (hb hby d_prog_42_method_4_code_36) rfl rfl k) ?_
          refine Goes.step (B := (T216.setTop (mkF m 38 #[.val (.ref o0), .val (.int ((((0 : Int32) ||| (((own_b1 u1) &&& (127 : Int32)) <<< ((0 : Int32) &&& 31))) ||| (((own_b1 (own_s u1)) &&& (127 : Int32)) <<< ((7 : Int32) &&& 31))) ||| (((own_b1 (own_s (own_s u1))) &&& (127 : Int32)) <<< ((14 : Int32) &&& 31)))), .val (.int (21 : Int32)), .val (.int (own_b1 (own_s (own_s u1))))] [(.ref o0), (.ref o0), (.ref c0)]))) (fun _ k => XS.dup X216.here hx rfl (hb hby d_prog_42_method_4_code_37) rfl rfl k) ?_
          obtain ⟨T217, X217, e217, st217⟩ := getF X216 hx hZ hown (host := "") (Or.inl (hw _ (List.mem_of_getElem? (i := 54) rfl))) Via.refl e216 f191 (g := (mkF m 38 #[.val (.ref o0), .val (.int ((((0 : Int32) ||| (((own_b1 u1) &&& (127 : Int32)) <<< ((0 : Int32) &&& 31))) ||| (((own_b1 (own_s u1)) &&& (127 : Int32)) <<< ((7 : Int32) &&& 31))) ||| (((own_b1 (own_s (own_s u1))) &&& (127 : Int32)) <<< ((14 : Int32) &&& 31)))), .val (.int (21 : Int32)), .val (.int (own_b1 (own_s (own_s u1))))] [(.ref o0), (.ref o0), (.ref c0)])) rfl rfl (hb hby d_prog_42_method_4_code_38)
          refine Goes.step (B := (T217.setTop (mkF m 41 #[.val (.ref o0), .val (.int ((((0 : Int32) ||| (((own_b1 u1) &&& (127 : Int32)) <<< ((0 : Int32) &&& 31))) ||| (((own_b1 (own_s u1)) &&& (127 : Int32)) <<< ((7 : Int32) &&& 31))) ||| (((own_b1 (own_s (own_s u1))) &&& (127 : Int32)) <<< ((14 : Int32) &&& 31)))), .val (.int (21 : Int32)), .val (.int (own_b1 (own_s (own_s u1))))] [(.int (((i1 + (1 : Int32)) + (1 : Int32)) + (1 : Int32))), (.ref o0), (.ref c0)]))) (fun _ k => st217 _ k) ?_
          refine Goes.step (B := (T217.setTop (mkF m 42 #[.val (.ref o0), .val (.int ((((0 : Int32) ||| (((own_b1 u1) &&& (127 : Int32)) <<< ((0 : Int32) &&& 31))) ||| (((own_b1 (own_s u1)) &&& (127 : Int32)) <<< ((7 : Int32) &&& 31))) ||| (((own_b1 (own_s (own_s u1))) &&& (127 : Int32)) <<< ((14 : Int32) &&& 31)))), .val (.int (21 : Int32)), .val (.int (own_b1 (own_s (own_s u1))))] [(.int (((i1 + (1 : Int32)) + (1 : Int32)) + (1 : Int32))), (.ref o0), (.int (((i1 + (1 : Int32)) + (1 : Int32)) + (1 : Int32))), (.ref c0)]))) (fun _ k => XS.dupX1 X217.here hx rfl (hb hby d_prog_42_method_4_code_41) rfl rfl rfl k) ?_
          refine Goes.step (B := (T217.setTop (mkF m 43 #[.val (.ref o0), .val (.int ((((0 : Int32) ||| (((own_b1 u1) &&& (127 : Int32)) <<< ((0 : Int32) &&& 31))) ||| (((own_b1 (own_s u1)) &&& (127 : Int32)) <<< ((7 : Int32) &&& 31))) ||| (((own_b1 (own_s (own_s u1))) &&& (127 : Int32)) <<< ((14 : Int32) &&& 31)))), .val (.int (21 : Int32)), .val (.int (own_b1 (own_s (own_s u1))))] [(.int (1 : Int32)), (.int (((i1 + (1 : Int32)) + (1 : Int32)) + (1 : Int32))), (.ref o0), (.int (((i1 + (1 : Int32)) + (1 : Int32)) + (1 : Int32))), (.ref c0)]))) (fun _ k => XS.iconst X217.here hx rfl (hb hby d_prog_42_method_4_code_42) k) ?_
          refine Goes.step (B := (T217.setTop (mkF m 44 #[.val (.ref o0), .val (.int ((((0 : Int32) ||| (((own_b1 u1) &&& (127 : Int32)) <<< ((0 : Int32) &&& 31))) ||| (((own_b1 (own_s u1)) &&& (127 : Int32)) <<< ((7 : Int32) &&& 31))) ||| (((own_b1 (own_s (own_s u1))) &&& (127 : Int32)) <<< ((14 : Int32) &&& 31)))), .val (.int (21 : Int32)), .val (.int (own_b1 (own_s (own_s u1))))] [(.int ((((i1 + (1 : Int32)) + (1 : Int32)) + (1 : Int32)) + (1 : Int32))), (.ref o0), (.int (((i1 + (1 : Int32)) + (1 : Int32)) + (1 : Int32))), (.ref c0)]))) (fun _ k => XS.iadd X217.here hx rfl (hb hby d_prog_42_method_4_code_43) rfl k) ?_
          obtain ⟨T218, h218, X218, e218, W218, st218⟩ := putF X217 hx hZ hown (host := "") (Or.inl (hw _ (List.mem_of_getElem? (i := 54) rfl))) Via.refl e217 f191 f188 (Or.inl (hw _ (List.mem_of_getElem? (i := 55) rfl))) (hw _ (List.mem_of_getElem? (i := 24) rfl)) (ty := .int) (by decide) rfl rfl (g := (mkF m 44 #[.val (.ref o0), .val (.int ((((0 : Int32) ||| (((own_b1 u1) &&& (127 : Int32)) <<< ((0 : Int32) &&& 31))) ||| (((own_b1 (own_s u1)) &&& (127 : Int32)) <<< ((7 : Int32) &&& 31))) ||| (((own_b1 (own_s (own_s u1))) &&& (127 : Int32)) <<< ((14 : Int32) &&& 31)))), .val (.int (21 : Int32)), .val (.int (own_b1 (own_s (own_s u1))))] [(.int ((((i1 + (1 : Int32)) + (1 : Int32)) + (1 : Int32)) + (1 : Int32))), (.ref o0), (.int (((i1 + (1 : Int32)) + (1 : Int32)) + (1 : Int32))), (.ref c0)])) rfl rfl (hb hby d_prog_42_method_4_code_44)
          have f219 := f188.wr W218
          have f220 := f189.other W218 (Or.inr (slot_ne (Or.inr (hw _ (List.mem_of_getElem? (i := 48) rfl))) (Or.inl (hw _ (List.mem_of_getElem? (i := 55) rfl))) (by decide) (t := (.array .byte)) (t' := .int) (by decide) (by decide)))
          have f221 := f190.other W218 pr5
          have N218 := Fr.snoc X218 N187 pr4
          have K218 : Keep h0 h218 [o0] := K187.wr W218 (Or.inl (List.mem_of_getElem? (i := 0) rfl))
          have Z218 : n0 ≤ h218.size := Nat.le_trans Z187 (Nat.le_of_eq W218.size.symm)
          have f222 : Fld Z h218 o0 "com/example/kartoteka/kartoteka/index/Varints$Reader" "at" "I" (.int ((((i1 + (1 : Int32)) + (1 : Int32)) + (1 : Int32)) + (1 : Int32))) := f191.same W218
          refine Goes.step (B := (T218.setTop (mkF m 47 #[.val (.ref o0), .val (.int ((((0 : Int32) ||| (((own_b1 u1) &&& (127 : Int32)) <<< ((0 : Int32) &&& 31))) ||| (((own_b1 (own_s u1)) &&& (127 : Int32)) <<< ((7 : Int32) &&& 31))) ||| (((own_b1 (own_s (own_s u1))) &&& (127 : Int32)) <<< ((14 : Int32) &&& 31)))), .val (.int (21 : Int32)), .val (.int (own_b1 (own_s (own_s u1))))] [(.int (((i1 + (1 : Int32)) + (1 : Int32)) + (1 : Int32))), (.ref c0)]))) (fun _ k => st218 _ k) ?_
          obtain ⟨cl223, Ar223, q223, S223, M223, H223, G223⟩ := id f221
          have hin223 : ¬ ((((i1 + (1 : Int32)) + (1 : Int32)) + (1 : Int32)) < 0 ∨ cl223.slots.size ≤ ((((i1 + (1 : Int32)) + (1 : Int32)) + (1 : Int32))).toNatClampNeg) := own_in S223 ai3 (rfl : z1.toInt = z1.toInt) (by omega) lt210
          have hat223 : cl223.slots[((((i1 + (1 : Int32)) + (1 : Int32)) + (1 : Int32))).toNatClampNeg]? = some (.int (own_b1 (own_s (own_s (own_s u1))))) := by rw [H223 _ (by rw [S223]; exact (own_cl ai3 (rfl : z1.toInt = z1.toInt) (by omega) lt210)), own_l_get f1 _ (own_cl ai3 (rfl : z1.toInt = z1.toInt) (by omega) lt210), eb210]
          refine Goes.step (B := (T218.setTop (mkF m 48 #[.val (.ref o0), .val (.int ((((0 : Int32) ||| (((own_b1 u1) &&& (127 : Int32)) <<< ((0 : Int32) &&& 31))) ||| (((own_b1 (own_s u1)) &&& (127 : Int32)) <<< ((7 : Int32) &&& 31))) ||| (((own_b1 (own_s (own_s u1))) &&& (127 : Int32)) <<< ((14 : Int32) &&& 31)))), .val (.int (21 : Int32)), .val (.int (own_b1 (own_s (own_s u1))))] [(.int (own_b1 (own_s (own_s (own_s u1)))))]))) (fun _ k => X218.baloadBytes hx (j := (((i1 + (1 : Int32)) + (1 : Int32)) + (1 : Int32))) (v := (.int (own_b1 (own_s (own_s (own_s u1)))))) (by rw [e218]; exact Ar223.1) (State.isArrayOf_alike hZ.alike Ar223.2.1) Ar223.2.2 hin223 hat223 (g := (mkF m 47 #[.val (.ref o0), .val (.int ((((0 : Int32) ||| (((own_b1 u1) &&& (127 : Int32)) <<< ((0 : Int32) &&& 31))) ||| (((own_b1 (own_s u1)) &&& (127 : Int32)) <<< ((7 : Int32) &&& 31))) ||| (((own_b1 (own_s (own_s u1))) &&& (127 : Int32)) <<< ((14 : Int32) &&& 31)))), .val (.int (21 : Int32)), .val (.int (own_b1 (own_s (own_s u1))))] [(.int (((i1 + (1 : Int32)) + (1 : Int32)) + (1 : Int32))), (.ref c0)])) rfl rfl (hb hby d_prog_42_method_4_code_47) _ k) ?_
          refine Goes.step (B := (T218.setTop (mkF m 49 #[.val (.ref o0), .val (.int ((((0 : Int32) ||| (((own_b1 u1) &&& (127 : Int32)) <<< ((0 : Int32) &&& 31))) ||| (((own_b1 (own_s u1)) &&& (127 : Int32)) <<< ((7 : Int32) &&& 31))) ||| (((own_b1 (own_s (own_s u1))) &&& (127 : Int32)) <<< ((14 : Int32) &&& 31)))), .val (.int (21 : Int32)), .val (.int (own_b1 (own_s (own_s (own_s u1)))))] []))) (fun _ k => XS.istoreN X218.here hx rfl (hb hby d_prog_42_method_4_code_48) rfl (l' := #[.val (.ref o0), .val (.int ((((0 : Int32) ||| (((own_b1 u1) &&& (127 : Int32)) <<< ((0 : Int32) &&& 31))) ||| (((own_b1 (own_s u1)) &&& (127 : Int32)) <<< ((7 : Int32) &&& 31))) ||| (((own_b1 (own_s (own_s u1))) &&& (127 : Int32)) <<< ((14 : Int32) &&& 31)))), .val (.int (21 : Int32)), .val (.int (own_b1 (own_s (own_s (own_s u1)))))]) rfl k) ?_
          refine Goes.step (B := (T218.setTop (mkF m 50 #[.val (.ref o0), .val (.int ((((0 : Int32) ||| (((own_b1 u1) &&& (127 : Int32)) <<< ((0 : Int32) &&& 31))) ||| (((own_b1 (own_s u1)) &&& (127 : Int32)) <<< ((7 : Int32) &&& 31))) ||| (((own_b1 (own_s (own_s u1))) &&& (127 : Int32)) <<< ((14 : Int32) &&& 31)))), .val (.int (21 : Int32)), .val (.int (own_b1 (own_s (own_s (own_s u1)))))] [(.int ((((0 : Int32) ||| (((own_b1 u1) &&& (127 : Int32)) <<< ((0 : Int32) &&& 31))) ||| (((own_b1 (own_s u1)) &&& (127 : Int32)) <<< ((7 : Int32) &&& 31))) ||| (((own_b1 (own_s (own_s u1))) &&& (127 : Int32)) <<< ((14 : Int32) &&& 31))))]))) (fun _ k => XS.iloadN X218.here hx rfl (hb hby d_prog_42_method_4_code_49) rfl k) ?_
          refine Goes.step (B := (T218.setTop (mkF m 51 #[.val (.ref o0), .val (.int ((((0 : Int32) ||| (((own_b1 u1) &&& (127 : Int32)) <<< ((0 : Int32) &&& 31))) ||| (((own_b1 (own_s u1)) &&& (127 : Int32)) <<< ((7 : Int32) &&& 31))) ||| (((own_b1 (own_s (own_s u1))) &&& (127 : Int32)) <<< ((14 : Int32) &&& 31)))), .val (.int (21 : Int32)), .val (.int (own_b1 (own_s (own_s (own_s u1)))))] [(.int (own_b1 (own_s (own_s (own_s u1))))), (.int ((((0 : Int32) ||| (((own_b1 u1) &&& (127 : Int32)) <<< ((0 : Int32) &&& 31))) ||| (((own_b1 (own_s u1)) &&& (127 : Int32)) <<< ((7 : Int32) &&& 31))) ||| (((own_b1 (own_s (own_s u1))) &&& (127 : Int32)) <<< ((14 : Int32) &&& 31))))]))) (fun _ k => XS.iloadN X218.here hx rfl (hb hby d_prog_42_method_4_code_50) rfl k) ?_
          refine Goes.step (B := (T218.setTop (mkF m 53 #[.val (.ref o0), .val (.int ((((0 : Int32) ||| (((own_b1 u1) &&& (127 : Int32)) <<< ((0 : Int32) &&& 31))) ||| (((own_b1 (own_s u1)) &&& (127 : Int32)) <<< ((7 : Int32) &&& 31))) ||| (((own_b1 (own_s (own_s u1))) &&& (127 : Int32)) <<< ((14 : Int32) &&& 31)))), .val (.int (21 : Int32)), .val (.int (own_b1 (own_s (own_s (own_s u1)))))] [(.int (127 : Int32)), (.int (own_b1 (own_s (own_s (own_s u1))))), (.int ((((0 : Int32) ||| (((own_b1 u1) &&& (127 : Int32)) <<< ((0 : Int32) &&& 31))) ||| (((own_b1 (own_s u1)) &&& (127 : Int32)) <<< ((7 : Int32) &&& 31))) ||| (((own_b1 (own_s (own_s u1))) &&& (127 : Int32)) <<< ((14 : Int32) &&& 31))))]))) (fun _ k => XS.bipush X218.here hx rfl (hb hby d_prog_42_method_4_code_51) k) ?_
          refine Goes.step (B := (T218.setTop (mkF m 54 #[.val (.ref o0), .val (.int ((((0 : Int32) ||| (((own_b1 u1) &&& (127 : Int32)) <<< ((0 : Int32) &&& 31))) ||| (((own_b1 (own_s u1)) &&& (127 : Int32)) <<< ((7 : Int32) &&& 31))) ||| (((own_b1 (own_s (own_s u1))) &&& (127 : Int32)) <<< ((14 : Int32) &&& 31)))), .val (.int (21 : Int32)), .val (.int (own_b1 (own_s (own_s (own_s u1)))))] [(.int ((own_b1 (own_s (own_s (own_s u1)))) &&& (127 : Int32))), (.int ((((0 : Int32) ||| (((own_b1 u1) &&& (127 : Int32)) <<< ((0 : Int32) &&& 31))) ||| (((own_b1 (own_s u1)) &&& (127 : Int32)) <<< ((7 : Int32) &&& 31))) ||| (((own_b1 (own_s (own_s u1))) &&& (127 : Int32)) <<< ((14 : Int32) &&& 31))))]))) (fun _ k => XS.iand X218.here hx rfl (hb hby d_prog_42_method_4_code_53) rfl k) ?_
          refine Goes.step (B := (T218.setTop (mkF m 55 #[.val (.ref o0), .val (.int ((((0 : Int32) ||| (((own_b1 u1) &&& (127 : Int32)) <<< ((0 : Int32) &&& 31))) ||| (((own_b1 (own_s u1)) &&& (127 : Int32)) <<< ((7 : Int32) &&& 31))) ||| (((own_b1 (own_s (own_s u1))) &&& (127 : Int32)) <<< ((14 : Int32) &&& 31)))), .val (.int (21 : Int32)), .val (.int (own_b1 (own_s (own_s (own_s u1)))))] [(.int (21 : Int32)), (.int ((own_b1 (own_s (own_s (own_s u1)))) &&& (127 : Int32))), (.int ((((0 : Int32) ||| (((own_b1 u1) &&& (127 : Int32)) <<< ((0 : Int32) &&& 31))) ||| (((own_b1 (own_s u1)) &&& (127 : Int32)) <<< ((7 : Int32) &&& 31))) ||| (((own_b1 (own_s (own_s u1))) &&& (127 : Int32)) <<< ((14 : Int32) &&& 31))))]))) (fun _ k => XS.iloadN X218.here hx rfl (hb hby d_prog_42_method_4_code_54) rfl k) ?_
          refine Goes.step (B := (T218.setTop (mkF m 56 #[.val (.ref o0), .val (.int ((((0 : Int32) ||| (((own_b1 u1) &&& (127 : Int32)) <<< ((0 : Int32) &&& 31))) ||| (((own_b1 (own_s u1)) &&& (127 : Int32)) <<< ((7 : Int32) &&& 31))) ||| (((own_b1 (own_s (own_s u1))) &&& (127 : Int32)) <<< ((14 : Int32) &&& 31)))), .val (.int (21 : Int32)), .val (.int (own_b1 (own_s (own_s (own_s u1)))))] [(.int (((own_b1 (own_s (own_s (own_s u1)))) &&& (127 : Int32)) <<< ((21 : Int32) &&& 31))), (.int ((((0 : Int32) ||| (((own_b1 u1) &&& (127 : Int32)) <<< ((0 : Int32) &&& 31))) ||| (((own_b1 (own_s u1)) &&& (127 : Int32)) <<< ((7 : Int32) &&& 31))) ||| (((own_b1 (own_s (own_s u1))) &&& (127 : Int32)) <<< ((14 : Int32) &&& 31))))]))) (fun _ k => XS.ishl X218.here hx rfl (hb hby d_prog_42_method_4_code_55) rfl k) ?_
          refine Goes.step (B := (T218.setTop (mkF m 57 #[.val (.ref o0), .val (.int ((((0 : Int32) ||| (((own_b1 u1) &&& (127 : Int32)) <<< ((0 : Int32) &&& 31))) ||| (((own_b1 (own_s u1)) &&& (127 : Int32)) <<< ((7 : Int32) &&& 31))) ||| (((own_b1 (own_s (own_s u1))) &&& (127 : Int32)) <<< ((14 : Int32) &&& 31)))), .val (.int (21 : Int32)), .val (.int (own_b1 (own_s (own_s (own_s u1)))))] [(.int (((((0 : Int32) ||| (((own_b1 u1) &&& (127 : Int32)) <<< ((0 : Int32) &&& 31))) ||| (((own_b1 (own_s u1)) &&& (127 : Int32)) <<< ((7 : Int32) &&& 31))) ||| (((own_b1 (own_s (own_s u1))) &&& (127 : Int32)) <<< ((14 : Int32) &&& 31))) ||| (((own_b1 (own_s (own_s (own_s u1)))) &&& (127 : Int32)) <<< ((21 : Int32) &&& 31))))]))) (fun _ k => XS.ior X218.here hx rfl (hb hby d_prog_42_method_4_code_56) rfl k) ?_
          refine Goes.step (B := (T218.setTop (mkF m 58 #[.val (.ref o0), .val (.int (((((0 : Int32) ||| (((own_b1 u1) &&& (127 : Int32)) <<< ((0 : Int32) &&& 31))) ||| (((own_b1 (own_s u1)) &&& (127 : Int32)) <<< ((7 : Int32) &&& 31))) ||| (((own_b1 (own_s (own_s u1))) &&& (127 : Int32)) <<< ((14 : Int32) &&& 31))) ||| (((own_b1 (own_s (own_s (own_s u1)))) &&& (127 : Int32)) <<< ((21 : Int32) &&& 31)))), .val (.int (21 : Int32)), .val (.int (own_b1 (own_s (own_s (own_s u1)))))] []))) (fun _ k => XS.istoreN X218.here hx rfl (hb hby d_prog_42_method_4_code_57) rfl (l' := #[.val (.ref o0), .val (.int (((((0 : Int32) ||| (((own_b1 u1) &&& (127 : Int32)) <<< ((0 : Int32) &&& 31))) ||| (((own_b1 (own_s u1)) &&& (127 : Int32)) <<< ((7 : Int32) &&& 31))) ||| (((own_b1 (own_s (own_s u1))) &&& (127 : Int32)) <<< ((14 : Int32) &&& 31))) ||| (((own_b1 (own_s (own_s (own_s u1)))) &&& (127 : Int32)) <<< ((21 : Int32) &&& 31)))), .val (.int (21 : Int32)), .val (.int (own_b1 (own_s (own_s (own_s u1)))))]) rfl k) ?_
          refine Goes.step (B := (T218.setTop (mkF m 61 #[.val (.ref o0), .val (.int (((((0 : Int32) ||| (((own_b1 u1) &&& (127 : Int32)) <<< ((0 : Int32) &&& 31))) ||| (((own_b1 (own_s u1)) &&& (127 : Int32)) <<< ((7 : Int32) &&& 31))) ||| (((own_b1 (own_s (own_s u1))) &&& (127 : Int32)) <<< ((14 : Int32) &&& 31))) ||| (((own_b1 (own_s (own_s (own_s u1)))) &&& (127 : Int32)) <<< ((21 : Int32) &&& 31)))), .val (.int (28 : Int32)), .val (.int (own_b1 (own_s (own_s (own_s u1)))))] []))) (fun _ k => XS.iinc X218.here hx rfl (hb hby d_prog_42_method_4_code_58) rfl (l' := #[.val (.ref o0), .val (.int (((((0 : Int32) ||| (((own_b1 u1) &&& (127 : Int32)) <<< ((0 : Int32) &&& 31))) ||| (((own_b1 (own_s u1)) &&& (127 : Int32)) <<< ((7 : Int32) &&& 31))) ||| (((own_b1 (own_s (own_s u1))) &&& (127 : Int32)) <<< ((14 : Int32) &&& 31))) ||| (((own_b1 (own_s (own_s (own_s u1)))) &&& (127 : Int32)) <<< ((21 : Int32) &&& 31)))), .val (.int (28 : Int32)), .val (.int (own_b1 (own_s (own_s (own_s u1)))))]) rfl k) ?_
          refine Goes.step (B := (T218.setTop (mkF m 62 #[.val (.ref o0), .val (.int (((((0 : Int32) ||| (((own_b1 u1) &&& (127 : Int32)) <<< ((0 : Int32) &&& 31))) ||| (((own_b1 (own_s u1)) &&& (127 : Int32)) <<< ((7 : Int32) &&& 31))) ||| (((own_b1 (own_s (own_s u1))) &&& (127 : Int32)) <<< ((14 : Int32) &&& 31))) ||| (((own_b1 (own_s (own_s (own_s u1)))) &&& (127 : Int32)) <<< ((21 : Int32) &&& 31)))), .val (.int (28 : Int32)), .val (.int (own_b1 (own_s (own_s (own_s u1)))))] [(.int (own_b1 (own_s (own_s (own_s u1)))))]))) (fun _ k => XS.iloadN X218.here hx rfl (hb hby d_prog_42_method_4_code_61) rfl k) ?_
          refine Goes.step (B := (T218.setTop (mkF m 65 #[.val (.ref o0), .val (.int (((((0 : Int32) ||| (((own_b1 u1) &&& (127 : Int32)) <<< ((0 : Int32) &&& 31))) ||| (((own_b1 (own_s u1)) &&& (127 : Int32)) <<< ((7 : Int32) &&& 31))) ||| (((own_b1 (own_s (own_s u1))) &&& (127 : Int32)) <<< ((14 : Int32) &&& 31))) ||| (((own_b1 (own_s (own_s (own_s u1)))) &&& (127 : Int32)) <<< ((21 : Int32) &&& 31)))), .val (.int (28 : Int32)), .val (.int (own_b1 (own_s (own_s (own_s u1)))))] [(.int (128 : Int32)), (.int (own_b1 (own_s (own_s (own_s u1)))))]))) (fun _ k => XS.sipush X218.here hx rfl (hb hby d_prog_42_method_4_code_62) k) ?_
          refine Goes.step (B := (T218.setTop (mkF m 66 #[.val (.ref o0), .val (.int (((((0 : Int32) ||| (((own_b1 u1) &&& (127 : Int32)) <<< ((0 : Int32) &&& 31))) ||| (((own_b1 (own_s u1)) &&& (127 : Int32)) <<< ((7 : Int32) &&& 31))) ||| (((own_b1 (own_s (own_s u1))) &&& (127 : Int32)) <<< ((14 : Int32) &&& 31))) ||| (((own_b1 (own_s (own_s (own_s u1)))) &&& (127 : Int32)) <<< ((21 : Int32) &&& 31)))), .val (.int (28 : Int32)), .val (.int (own_b1 (own_s (own_s (own_s u1)))))] [(.int ((own_b1 (own_s (own_s (own_s u1)))) &&& (128 : Int32)))]))) (fun _ k => XS.iand X218.here hx rfl (hb hby d_prog_42_method_4_code_65) rfl k) ?_
          have hc224 : ¬ (((own_b1 (own_s (own_s (own_s u1)))) &&& (128 : Int32)) = (0 : Int32)) := own_b1c _
          refine Goes.step (B := (T218.setTop (mkF m 71 #[.val (.ref o0), .val (.int (((((0 : Int32) ||| (((own_b1 u1) &&& (127 : Int32)) <<< ((0 : Int32) &&& 31))) ||| (((own_b1 (own_s u1)) &&& (127 : Int32)) <<< ((7 : Int32) &&& 31))) ||| (((own_b1 (own_s (own_s u1))) &&& (127 : Int32)) <<< ((14 : Int32) &&& 31))) ||| (((own_b1 (own_s (own_s (own_s u1)))) &&& (127 : Int32)) <<< ((21 : Int32) &&& 31)))), .val (.int (28 : Int32)), .val (.int (own_b1 (own_s (own_s (own_s u1)))))] []))) (fun _ k => XS.ifYes X218.here hx rfl (pc0 := 66) (pc' := 71) rfl (hb hby d_prog_42_method_4_code_66) rfl ((if0 _ _).trans (feq hc224).2) (by decide) (by decide) k) ?_
          refine Goes.step (B := (T218.setTop (mkF m 4 #[.val (.ref o0), .val (.int (((((0 : Int32) ||| (((own_b1 u1) &&& (127 : Int32)) <<< ((0 : Int32) &&& 31))) ||| (((own_b1 (own_s u1)) &&& (127 : Int32)) <<< ((7 : Int32) &&& 31))) ||| (((own_b1 (own_s (own_s u1))) &&& (127 : Int32)) <<< ((14 : Int32) &&& 31))) ||| (((own_b1 (own_s (own_s (own_s u1)))) &&& (127 : Int32)) <<< ((21 : Int32) &&& 31)))), .val (.int (28 : Int32)), .val (.int (own_b1 (own_s (own_s (own_s u1)))))] []))) (fun _ k => XS.goto X218.here hx rfl (pc0 := 71) (pc' := 4) rfl (hb hby d_prog_42_method_4_code_71) (by decide) (by decide) k) ?_
          have ai4 : ((((i1 + (1 : Int32)) + (1 : Int32)) + (1 : Int32)) + (1 : Int32)).toInt = i1.toInt + 4 := (own_e ai3 (by omega) (by omega)).trans (by omega)
          have hk4 : ((own_s (own_s (own_s (own_s u1)))) &&& (-128 : Int32)) = (0 : Int32) := own_s4 u1
          have eb225 : f1 (((((i1 + (1 : Int32)) + (1 : Int32)) + (1 : Int32)) + (1 : Int32))).toNatClampNeg = own_b0 (own_s (own_s (own_s (own_s u1)))) := by simpa only [own_E] using E210
          have lt225 : i1.toInt + 4 < z1.toInt := by have q := B210; simp only [own_n] at q; have r := own_e ai4 (by omega) (by omega); omega
          refine Goes.step (B := (T218.setTop (mkF m 5 #[.val (.ref o0), .val (.int (((((0 : Int32) ||| (((own_b1 u1) &&& (127 : Int32)) <<< ((0 : Int32) &&& 31))) ||| (((own_b1 (own_s u1)) &&& (127 : Int32)) <<< ((7 : Int32) &&& 31))) ||| (((own_b1 (own_s (own_s u1))) &&& (127 : Int32)) <<< ((14 : Int32) &&& 31))) ||| (((own_b1 (own_s (own_s (own_s u1)))) &&& (127 : Int32)) <<< ((21 : Int32) &&& 31)))), .val (.int (28 : Int32)), .val (.int (own_b1 (own_s (own_s (own_s u1)))))] [(.ref o0)]))) (fun _ k => XS.aloadN X218.here hx rfl (hb hby d_prog_42_method_4_code_4) rfl rfl k) ?_
          obtain ⟨T226, X226, e226, st226⟩ := getF X218 hx hZ hown (host := "") (Or.inl (hw _ (List.mem_of_getElem? (i := 54) rfl))) Via.refl e218 f222 (g := (mkF m 5 #[.val (.ref o0), .val (.int (((((0 : Int32) ||| (((own_b1 u1) &&& (127 : Int32)) <<< ((0 : Int32) &&& 31))) ||| (((own_b1 (own_s u1)) &&& (127 : Int32)) <<< ((7 : Int32) &&& 31))) ||| (((own_b1 (own_s (own_s u1))) &&& (127 : Int32)) <<< ((14 : Int32) &&& 31))) ||| (((own_b1 (own_s (own_s (own_s u1)))) &&& (127 : Int32)) <<< ((21 : Int32) &&& 31)))), .val (.int (28 : Int32)), .val (.int (own_b1 (own_s (own_s (own_s u1)))))] [(.ref o0)])) rfl rfl (hb hby d_prog_42_method_4_code_5)
          refine Goes.step (B := (T226.setTop (mkF m 8 #[.val (.ref o0), .val (.int (((((0 : Int32) ||| (((own_b1 u1) &&& (127 : Int32)) <<< ((0 : Int32) &&& 31))) ||| (((own_b1 (own_s u1)) &&& (127 : Int32)) <<< ((7 : Int32) &&& 31))) ||| (((own_b1 (own_s (own_s u1))) &&& (127 : Int32)) <<< ((14 : Int32) &&& 31))) ||| (((own_b1 (own_s (own_s (own_s u1)))) &&& (127 : Int32)) <<< ((21 : Int32) &&& 31)))), .val (.int (28 : Int32)), .val (.int (own_b1 (own_s (own_s (own_s u1)))))] [(.int ((((i1 + (1 : Int32)) + (1 : Int32)) + (1 : Int32)) + (1 : Int32)))]))) (fun _ k => st226 _ k) ?_
          refine Goes.step (B := (T226.setTop (mkF m 9 #[.val (.ref o0), .val (.int (((((0 : Int32) ||| (((own_b1 u1) &&& (127 : Int32)) <<< ((0 : Int32) &&& 31))) ||| (((own_b1 (own_s u1)) &&& (127 : Int32)) <<< ((7 : Int32) &&& 31))) ||| (((own_b1 (own_s (own_s u1))) &&& (127 : Int32)) <<< ((14 : Int32) &&& 31))) ||| (((own_b1 (own_s (own_s (own_s u1)))) &&& (127 : Int32)) <<< ((21 : Int32) &&& 31)))), .val (.int (28 : Int32)), .val (.int (own_b1 (own_s (own_s (own_s u1)))))] [(.ref o0), (.int ((((i1 + (1 : Int32)) + (1 : Int32)) + (1 : Int32)) + (1 : Int32)))]))) (fun _ k => XS.aloadN X226.here hx rfl (hb hby d_prog_42_method_4_code_8) rfl rfl k) ?_
          obtain ⟨T227, X227, e227, st227⟩ := getF X226 hx hZ hown (host := "") (Or.inl (hw _ (List.mem_of_getElem? (i := 47) rfl))) Via.refl e226 f220 (g := (mkF m 9 #[.val (.ref o0), .val (.int (((((0 : Int32) ||| (((own_b1 u1) &&& (127 : Int32)) <<< ((0 : Int32) &&& 31))) ||| (((own_b1 (own_s u1)) &&& (127 : Int32)) <<< ((7 : Int32) &&& 31))) ||| (((own_b1 (own_s (own_s u1))) &&& (127 : Int32)) <<< ((14 : Int32) &&& 31))) ||| (((own_b1 (own_s (own_s (own_s u1)))) &&& (127 : Int32)) <<< ((21 : Int32) &&& 31)))), .val (.int (28 : Int32)), .val (.int (own_b1 (own_s (own_s (own_s u1)))))] [(.ref o0), (.int ((((i1 + (1 : Int32)) + (1 : Int32)) + (1 : Int32)) + (1 : Int32)))])) rfl rfl (hb hby d_prog_42_method_4_code_9)
          refine Goes.step (B := (T227.setTop (mkF m 12 #[.val (.ref o0), .val (.int (((((0 : Int32) ||| (((own_b1 u1) &&& (127 : Int32)) <<< ((0 : Int32) &&& 31))) ||| (((own_b1 (own_s u1)) &&& (127 : Int32)) <<< ((7 : Int32) &&& 31))) ||| (((own_b1 (own_s (own_s u1))) &&& (127 : Int32)) <<< ((14 : Int32) &&& 31))) ||| (((own_b1 (own_s (own_s (own_s u1)))) &&& (127 : Int32)) <<< ((21 : Int32) &&& 31)))), .val (.int (28 : Int32)), .val (.int (own_b1 (own_s (own_s (own_s u1)))))] [(.ref c0), (.int ((((i1 + (1 : Int32)) + (1 : Int32)) + (1 : Int32)) + (1 : Int32)))]))) (fun _ k => st227 _ k) ?_
          obtain ⟨cl228, Ar228, q228, S228, M228, H228, G228⟩ := id f221
          refine Goes.step (B := (T227.setTop (mkF m 13 #[.val (.ref o0), .val (.int (((((0 : Int32) ||| (((own_b1 u1) &&& (127 : Int32)) <<< ((0 : Int32) &&& 31))) ||| (((own_b1 (own_s u1)) &&& (127 : Int32)) <<< ((7 : Int32) &&& 31))) ||| (((own_b1 (own_s (own_s u1))) &&& (127 : Int32)) <<< ((14 : Int32) &&& 31))) ||| (((own_b1 (own_s (own_s (own_s u1)))) &&& (127 : Int32)) <<< ((21 : Int32) &&& 31)))), .val (.int (28 : Int32)), .val (.int (own_b1 (own_s (own_s (own_s u1)))))] [(.int z1), (.int ((((i1 + (1 : Int32)) + (1 : Int32)) + (1 : Int32)) + (1 : Int32)))]))) (fun _ k => X227.arraylength hx (by rw [e227]; exact Ar228.1) (State.isArrayOf_alike hZ.alike Ar228.2.1) (g := (mkF m 12 #[.val (.ref o0), .val (.int (((((0 : Int32) ||| (((own_b1 u1) &&& (127 : Int32)) <<< ((0 : Int32) &&& 31))) ||| (((own_b1 (own_s u1)) &&& (127 : Int32)) <<< ((7 : Int32) &&& 31))) ||| (((own_b1 (own_s (own_s u1))) &&& (127 : Int32)) <<< ((14 : Int32) &&& 31))) ||| (((own_b1 (own_s (own_s (own_s u1)))) &&& (127 : Int32)) <<< ((21 : Int32) &&& 31)))), .val (.int (28 : Int32)), .val (.int (own_b1 (own_s (own_s (own_s u1)))))] [(.ref c0), (.int ((((i1 + (1 : Int32)) + (1 : Int32)) + (1 : Int32)) + (1 : Int32)))])) rfl rfl (hb hby d_prog_42_method_4_code_12) _ (by rw [len_of S228 M228]; exact k)) ?_
          have hc229 : ¬ (((((i1 + (1 : Int32)) + (1 : Int32)) + (1 : Int32)) + (1 : Int32)) = z1) := own_nez ai4 (rfl : z1.toInt = z1.toInt) lt225
          refine Goes.step (B := (T227.setTop (mkF m 16 #[.val (.ref o0), .val (.int (((((0 : Int32) ||| (((own_b1 u1) &&& (127 : Int32)) <<< ((0 : Int32) &&& 31))) ||| (((own_b1 (own_s u1)) &&& (127 : Int32)) <<< ((7 : Int32) &&& 31))) ||| (((own_b1 (own_s (own_s u1))) &&& (127 : Int32)) <<< ((14 : Int32) &&& 31))) ||| (((own_b1 (own_s (own_s (own_s u1)))) &&& (127 : Int32)) <<< ((21 : Int32) &&& 31)))), .val (.int (28 : Int32)), .val (.int (own_b1 (own_s (own_s (own_s u1)))))] []))) (fun _ k => XS.icmpNo X227.here hx rfl (hb hby d_prog_42_method_4_code_13) rfl (feq hc229).1 k) ?_
          refine Goes.step (B := (T227.setTop (mkF m 17 #[.val (.ref o0), .val (.int (((((0 : Int32) ||| (((own_b1 u1) &&& (127 : Int32)) <<< ((0 : Int32) &&& 31))) ||| (((own_b1 (own_s u1)) &&& (127 : Int32)) <<< ((7 : Int32) &&& 31))) ||| (((own_b1 (own_s (own_s u1))) &&& (127 : Int32)) <<< ((14 : Int32) &&& 31))) ||| (((own_b1 (own_s (own_s (own_s u1)))) &&& (127 : Int32)) <<< ((21 : Int32) &&& 31)))), .val (.int (28 : Int32)), .val (.int (own_b1 (own_s (own_s (own_s u1)))))] [(.int (28 : Int32))]))) (fun _ k => XS.iloadN X227.here hx rfl (hb hby d_prog_42_method_4_code_16) rfl k) ?_
          refine Goes.step (B := (T227.setTop (mkF m 19 #[.val (.ref o0), .val (.int (((((0 : Int32) ||| (((own_b1 u1) &&& (127 : Int32)) <<< ((0 : Int32) &&& 31))) ||| (((own_b1 (own_s u1)) &&& (127 : Int32)) <<< ((7 : Int32) &&& 31))) ||| (((own_b1 (own_s (own_s u1))) &&& (127 : Int32)) <<< ((14 : Int32) &&& 31))) ||| (((own_b1 (own_s (own_s (own_s u1)))) &&& (127 : Int32)) <<< ((21 : Int32) &&& 31)))), .val (.int (28 : Int32)), .val (.int (own_b1 (own_s (own_s (own_s u1)))))] [(.int (28 : Int32)), (.int (28 : Int32))]))) (fun _ k => XS.bipush X227.here hx rfl (hb hby d_prog_42_method_4_code_17) k) ?_
          have hc230 : ¬ ((28 : Int32) < (28 : Int32)) := by decide
          refine Goes.step (B := (T227.setTop (mkF m 32 #[.val (.ref o0), .val (.int (((((0 : Int32) ||| (((own_b1 u1) &&& (127 : Int32)) <<< ((0 : Int32) &&& 31))) ||| (((own_b1 (own_s u1)) &&& (127 : Int32)) <<< ((7 : Int32) &&& 31))) ||| (((own_b1 (own_s (own_s u1))) &&& (127 : Int32)) <<< ((14 : Int32) &&& 31))) ||| (((own_b1 (own_s (own_s (own_s u1)))) &&& (127 : Int32)) <<< ((21 : Int32) &&& 31)))), .val (.int (28 : Int32)), .val (.int (own_b1 (own_s (own_s (own_s u1)))))] []))) (fun _ k => XS.icmpYes X227.here hx rfl (pc0 := 19) (pc' := 32) rfl (hb hby d_prog_42_method_4_code_19) rfl (flt hc230).2.2.2 (by decide) (by decide) k) ?_
          refine Goes.step (B := (T227.setTop (mkF m 33 #[.val (.ref o0), .val (.int (((((0 : Int32) ||| (((own_b1 u1) &&& (127 : Int32)) <<< ((0 : Int32) &&& 31))) ||| (((own_b1 (own_s u1)) &&& (127 : Int32)) <<< ((7 : Int32) &&& 31))) ||| (((own_b1 (own_s (own_s u1))) &&& (127 : Int32)) <<< ((14 : Int32) &&& 31))) ||| (((own_b1 (own_s (own_s (own_s u1)))) &&& (127 : Int32)) <<< ((21 : Int32) &&& 31)))), .val (.int (28 : Int32)), .val (.int (own_b1 (own_s (own_s (own_s u1)))))] [(.ref o0)]))) (fun _ k => XS.aloadN X227.here hx rfl (hb hby d_prog_42_method_4_code_32) rfl rfl k) ?_
          obtain ⟨T231, X231, e231, st231⟩ := getF X227 hx hZ hown (host := "") (Or.inl (hw _ (List.mem_of_getElem? (i := 47) rfl))) Via.refl e227 f220 (g := (mkF m 33 #[.val (.ref o0), .val (.int (((((0 : Int32) ||| (((own_b1 u1) &&& (127 : Int32)) <<< ((0 : Int32) &&& 31))) ||| (((own_b1 (own_s u1)) &&& (127 : Int32)) <<< ((7 : Int32) &&& 31))) ||| (((own_b1 (own_s (own_s u1))) &&& (127 : Int32)) <<< ((14 : Int32) &&& 31))) ||| (((own_b1 (own_s (own_s (own_s u1)))) &&& (127 : Int32)) <<< ((21 : Int32) &&& 31)))), .val (.int (28 : Int32)), .val (.int (own_b1 (own_s (own_s (own_s u1)))))] [(.ref o0)])) rfl rfl (hb hby d_prog_42_method_4_code_33)
          refine Goes.step (B := (T231.setTop (mkF m 36 #[.val (.ref o0), .val (.int (((((0 : Int32) ||| (((own_b1 u1) &&& (127 : Int32)) <<< ((0 : Int32) &&& 31))) ||| (((own_b1 (own_s u1)) &&& (127 : Int32)) <<< ((7 : Int32) &&& 31))) ||| (((own_b1 (own_s (own_s u1))) &&& (127 : Int32)) <<< ((14 : Int32) &&& 31))) ||| (((own_b1 (own_s (own_s (own_s u1)))) &&& (127 : Int32)) <<< ((21 : Int32) &&& 31)))), .val (.int (28 : Int32)), .val (.int (own_b1 (own_s (own_s (own_s u1)))))] [(.ref c0)]))) (fun _ k => st231 _ k) ?_
          refine Goes.step (B := (T231.setTop (mkF m 37 #[.val (.ref o0), .val (.int (((((0 : Int32) ||| (((own_b1 u1) &&& (127 : Int32)) <<< ((0 : Int32) &&& 31))) ||| (((own_b1 (own_s u1)) &&& (127 : Int32)) <<< ((7 : Int32) &&& 31))) ||| (((own_b1 (own_s (own_s u1))) &&& (127 : Int32)) <<< ((14 : Int32) &&& 31))) ||| (((own_b1 (own_s (own_s (own_s u1)))) &&& (127 : Int32)) <<< ((21 : Int32) &&& 31)))), .val (.int (28 : Int32)), .val (.int (own_b1 (own_s (own_s (own_s u1)))))] [(.ref o0), (.ref c0)]))) (fun _ k => XS.aloadN X231.here hx rfl (hb hby d_prog_42_method_4_code_36) rfl rfl k) ?_
          refine Goes.step (B := (T231.setTop (mkF m 38 #[.val (.ref o0), .val (.int (((((0 : Int32) ||| (((own_b1 u1) &&& (127 : Int32)) <<< ((0 : Int32) &&& 31))) ||| (((own_b1 (own_s u1)) &&& (127 : Int32)) <<< ((7 : Int32) &&& 31))) ||| (((own_b1 (own_s (own_s u1))) &&& (127 : Int32)) <<< ((14 : Int32) &&& 31))) ||| (((own_b1 (own_s (own_s (own_s u1)))) &&& (127 : Int32)) <<< ((21 : Int32) &&& 31)))), .val (.int (28 : Int32)), .val (.int (own_b1 (own_s (own_s (own_s u1)))))] [(.ref o0), (.ref o0), (.ref c0)]))) (fun _ k => XS.dup X231.here hx rfl (hb hby d_prog_42_method_4_code_37) rfl rfl k) ?_
          obtain ⟨T232, X232, e232, st232⟩ := getF X231 hx hZ hown (host := "") (Or.inl (hw _ (List.mem_of_getElem? (i := 54) rfl))) Via.refl e231 f222 (g := (mkF m 38 #[.val (.ref o0), .val (.int (((((0 : Int32) ||| (((own_b1 u1) &&& (127 : Int32)) <<< ((0 : Int32) &&& 31))) ||| (((own_b1 (own_s u1)) &&& (127 : Int32)) <<< ((7 : Int32) &&& 31))) ||| (((own_b1 (own_s (own_s u1))) &&& (127 : Int32)) <<< ((14 : Int32) &&& 31))) ||| (((own_b1 (own_s (own_s (own_s u1)))) &&& (127 : Int32)) <<< ((21 : Int32) &&& 31)))), .val (.int (28 : Int32)), .val (.int (own_b1 (own_s (own_s (own_s u1)))))] [(.ref o0), (.ref o0), (.ref c0)])) rfl rfl (hb hby d_prog_42_method_4_code_38)
          refine Goes.step (B := (T232.setTop (mkF m 41 #[.val (.ref o0), .val (.int (((((0 : Int32) ||| (((own_b1 u1) &&& (127 : Int32)) <<< ((0 : Int32) &&& 31))) ||| (((own_b1 (own_s u1)) &&& (127 : Int32)) <<< ((7 : Int32) &&& 31))) ||| (((own_b1 (own_s (own_s u1))) &&& (127 : Int32)) <<< ((14 : Int32) &&& 31))) ||| (((own_b1 (own_s (own_s (own_s u1)))) &&& (127 : Int32)) <<< ((21 : Int32) &&& 31)))), .val (.int (28 : Int32)), .val (.int (own_b1 (own_s (own_s (own_s u1)))))] [(.int ((((i1 + (1 : Int32)) + (1 : Int32)) + (1 : Int32)) + (1 : Int32))), (.ref o0), (.ref c0)]))) (fun _ k => st232 _ k) ?_
          refine Goes.step (B := (T232.setTop (mkF m 42 #[.val (.ref o0), .val (.int (((((0 : Int32) ||| (((own_b1 u1) &&& (127 : Int32)) <<< ((0 : Int32) &&& 31))) ||| (((own_b1 (own_s u1)) &&& (127 : Int32)) <<< ((7 : Int32) &&& 31))) ||| (((own_b1 (own_s (own_s u1))) &&& (127 : Int32)) <<< ((14 : Int32) &&& 31))) ||| (((own_b1 (own_s (own_s (own_s u1)))) &&& (127 : Int32)) <<< ((21 : Int32) &&& 31)))), .val (.int (28 : Int32)), .val (.int (own_b1 (own_s (own_s (own_s u1)))))] [(.int ((((i1 + (1 : Int32)) + (1 : Int32)) + (1 : Int32)) + (1 : Int32))), (.ref o0), (.int ((((i1 + (1 : Int32)) + (1 : Int32)) + (1 : Int32)) + (1 : Int32))), (.ref c0)]))) (fun _ k => XS.dupX1 X232.here hx rfl (hb hby d_prog_42_method_4_code_41) rfl rfl rfl k) ?_
          refine Goes.step (B := (T232.setTop (mkF m 43 #[.val (.ref o0), .val (.int (((((0 : Int32) ||| (((own_b1 u1) &&& (127 : Int32)) <<< ((0 : Int32) &&& 31))) ||| (((own_b1 (own_s u1)) &&& (127 : Int32)) <<< ((7 : Int32) &&& 31))) ||| (((own_b1 (own_s (own_s u1))) &&& (127 : Int32)) <<< ((14 : Int32) &&& 31))) ||| (((own_b1 (own_s (own_s (own_s u1)))) &&& (127 : Int32)) <<< ((21 : Int32) &&& 31)))), .val (.int (28 : Int32)), .val (.int (own_b1 (own_s (own_s (own_s u1)))))] [(.int (1 : Int32)), (.int ((((i1 + (1 : Int32)) + (1 : Int32)) + (1 : Int32)) + (1 : Int32))), (.ref o0), (.int ((((i1 + (1 : Int32)) + (1 : Int32)) + (1 : Int32)) + (1 : Int32))), (.ref c0)]))) (fun _ k => XS.iconst X232.here hx rfl (hb hby d_prog_42_method_4_code_42) k) ?_
          refine Goes.step (B := (T232.setTop (mkF m 44 #[.val (.ref o0), .val (.int (((((0 : Int32) ||| (((own_b1 u1) &&& (127 : Int32)) <<< ((0 : Int32) &&& 31))) ||| (((own_b1 (own_s u1)) &&& (127 : Int32)) <<< ((7 : Int32) &&& 31))) ||| (((own_b1 (own_s (own_s u1))) &&& (127 : Int32)) <<< ((14 : Int32) &&& 31))) ||| (((own_b1 (own_s (own_s (own_s u1)))) &&& (127 : Int32)) <<< ((21 : Int32) &&& 31)))), .val (.int (28 : Int32)), .val (.int (own_b1 (own_s (own_s (own_s u1)))))] [(.int (((((i1 + (1 : Int32)) + (1 : Int32)) + (1 : Int32)) + (1 : Int32)) + (1 : Int32))), (.ref o0), (.int ((((i1 + (1 : Int32)) + (1 : Int32)) + (1 : Int32)) + (1 : Int32))), (.ref c0)]))) (fun _ k => XS.iadd X232.here hx rfl (hb hby d_prog_42_method_4_code_43) rfl k) ?_
          obtain ⟨T233, h233, X233, e233, W233, st233⟩ := putF X232 hx hZ hown (host := "") (Or.inl (hw _ (List.mem_of_getElem? (i := 54) rfl))) Via.refl e232 f222 f219 (Or.inl (hw _ (List.mem_of_getElem? (i := 55) rfl))) (hw _ (List.mem_of_getElem? (i := 24) rfl)) (ty := .int) (by decide) rfl rfl (g := (mkF m 44 #[.val (.ref o0), .val (.int (((((0 : Int32) ||| (((own_b1 u1) &&& (127 : Int32)) <<< ((0 : Int32) &&& 31))) ||| (((own_b1 (own_s u1)) &&& (127 : Int32)) <<< ((7 : Int32) &&& 31))) ||| (((own_b1 (own_s (own_s u1))) &&& (127 : Int32)) <<< ((14 : Int32) &&& 31))) ||| (((own_b1 (own_s (own_s (own_s u1)))) &&& (127 : Int32)) <<< ((21 : Int32) &&& 31)))), .val (.int (28 : Int32)), .val (.int (own_b1 (own_s (own_s (own_s u1)))))] [(.int (((((i1 + (1 : Int32)) + (1 : Int32)) + (1 : Int32)) + (1 : Int32)) + (1 : Int32))), (.ref o0), (.int ((((i1 + (1 : Int32)) + (1 : Int32)) + (1 : Int32)) + (1 : Int32))), (.ref c0)])) rfl rfl (hb hby d_prog_42_method_4_code_44)
          have f234 := f219.wr W233
          have f235 := f220.other W233 (Or.inr (slot_ne (Or.inr (hw _ (List.mem_of_getElem? (i := 48) rfl))) (Or.inl (hw _ (List.mem_of_getElem? (i := 55) rfl))) (by decide) (t := (.array .byte)) (t' := .int) (by decide) (by decide)))
          have f236 := f221.other W233 pr5
          have N233 := Fr.snoc X233 N218 pr4
          have K233 : Keep h0 h233 [o0] := K218.wr W233 (Or.inl (List.mem_of_getElem? (i := 0) rfl))
          have Z233 : n0 ≤ h233.size := Nat.le_trans Z218 (Nat.le_of_eq W233.size.symm)
          have f237 : Fld Z h233 o0 "com/example/kartoteka/kartoteka/index/Varints$Reader" "at" "I" (.int (((((i1 + (1 : Int32)) + (1 : Int32)) + (1 : Int32)) + (1 : Int32)) + (1 : Int32))) := f222.same W233
          refine Goes.step (B := (T233.setTop (mkF m 47 #[.val (.ref o0), .val (.int (((((0 : Int32) ||| (((own_b1 u1) &&& (127 : Int32)) <<< ((0 : Int32) &&& 31))) ||| (((own_b1 (own_s u1)) &&& (127 : Int32)) <<< ((7 : Int32) &&& 31))) ||| (((own_b1 (own_s (own_s u1))) &&& (127 : Int32)) <<< ((14 : Int32) &&& 31))) ||| (((own_b1 (own_s (own_s (own_s u1)))) &&& (127 : Int32)) <<< ((21 : Int32) &&& 31)))), .val (.int (28 : Int32)), .val (.int (own_b1 (own_s (own_s (own_s u1)))))] [(.int ((((i1 + (1 : Int32)) + (1 : Int32)) + (1 : Int32)) + (1 : Int32))), (.ref c0)]))) (fun _ k => st233 _ k) ?_
          obtain ⟨cl238, Ar238, q238, S238, M238, H238, G238⟩ := id f236
          have hin238 : ¬ (((((i1 + (1 : Int32)) + (1 : Int32)) + (1 : Int32)) + (1 : Int32)) < 0 ∨ cl238.slots.size ≤ (((((i1 + (1 : Int32)) + (1 : Int32)) + (1 : Int32)) + (1 : Int32))).toNatClampNeg) := own_in S238 ai4 (rfl : z1.toInt = z1.toInt) (by omega) lt225
          have hat238 : cl238.slots[(((((i1 + (1 : Int32)) + (1 : Int32)) + (1 : Int32)) + (1 : Int32))).toNatClampNeg]? = some (.int (own_b0 (own_s (own_s (own_s (own_s u1)))))) := by rw [H238 _ (by rw [S238]; exact (own_cl ai4 (rfl : z1.toInt = z1.toInt) (by omega) lt225)), own_l_get f1 _ (own_cl ai4 (rfl : z1.toInt = z1.toInt) (by omega) lt225), eb225]
          refine Goes.step (B := (T233.setTop (mkF m 48 #[.val (.ref o0), .val (.int (((((0 : Int32) ||| (((own_b1 u1) &&& (127 : Int32)) <<< ((0 : Int32) &&& 31))) ||| (((own_b1 (own_s u1)) &&& (127 : Int32)) <<< ((7 : Int32) &&& 31))) ||| (((own_b1 (own_s (own_s u1))) &&& (127 : Int32)) <<< ((14 : Int32) &&& 31))) ||| (((own_b1 (own_s (own_s (own_s u1)))) &&& (127 : Int32)) <<< ((21 : Int32) &&& 31)))), .val (.int (28 : Int32)), .val (.int (own_b1 (own_s (own_s (own_s u1)))))] [(.int (own_b0 (own_s (own_s (own_s (own_s u1))))))]))) (fun _ k => X233.baloadBytes hx (j := ((((i1 + (1 : Int32)) + (1 : Int32)) + (1 : Int32)) + (1 : Int32))) (v := (.int (own_b0 (own_s (own_s (own_s (own_s u1))))))) (by rw [e233]; exact Ar238.1) (State.isArrayOf_alike hZ.alike Ar238.2.1) Ar238.2.2 hin238 hat238 (g := (mkF m 47 #[.val (.ref o0), .val (.int (((((0 : Int32) ||| (((own_b1 u1) &&& (127 : Int32)) <<< ((0 : Int32) &&& 31))) ||| (((own_b1 (own_s u1)) &&& (127 : Int32)) <<< ((7 : Int32) &&& 31))) ||| (((own_b1 (own_s (own_s u1))) &&& (127 : Int32)) <<< ((14 : Int32) &&& 31))) ||| (((own_b1 (own_s (own_s (own_s u1)))) &&& (127 : Int32)) <<< ((21 : Int32) &&& 31)))), .val (.int (28 : Int32)), .val (.int (own_b1 (own_s (own_s (own_s u1)))))] [(.int ((((i1 + (1 : Int32)) + (1 : Int32)) + (1 : Int32)) + (1 : Int32))), (.ref c0)])) rfl rfl (hb hby d_prog_42_method_4_code_47) _ k) ?_
          refine Goes.step (B := (T233.setTop (mkF m 49 #[.val (.ref o0), .val (.int (((((0 : Int32) ||| (((own_b1 u1) &&& (127 : Int32)) <<< ((0 : Int32) &&& 31))) ||| (((own_b1 (own_s u1)) &&& (127 : Int32)) <<< ((7 : Int32) &&& 31))) ||| (((own_b1 (own_s (own_s u1))) &&& (127 : Int32)) <<< ((14 : Int32) &&& 31))) ||| (((own_b1 (own_s (own_s (own_s u1)))) &&& (127 : Int32)) <<< ((21 : Int32) &&& 31)))), .val (.int (28 : Int32)), .val (.int (own_b0 (own_s (own_s (own_s (own_s u1))))))] []))) (fun _ k => XS.istoreN X233.here hx rfl (hb hby d_prog_42_method_4_code_48) rfl (l' := #[.val (.ref o0), .val (.int (((((0 : Int32) ||| (((own_b1 u1) &&& (127 : Int32)) <<< ((0 : Int32) &&& 31))) ||| (((own_b1 (own_s u1)) &&& (127 : Int32)) <<< ((7 : Int32) &&& 31))) ||| (((own_b1 (own_s (own_s u1))) &&& (127 : Int32)) <<< ((14 : Int32) &&& 31))) ||| (((own_b1 (own_s (own_s (own_s u1)))) &&& (127 : Int32)) <<< ((21 : Int32) &&& 31)))), .val (.int (28 : Int32)), .val (.int (own_b0 (own_s (own_s (own_s (own_s u1))))))]) rfl k) ?_
          refine Goes.step (B := (T233.setTop (mkF m 50 #[.val (.ref o0), .val (.int (((((0 : Int32) ||| (((own_b1 u1) &&& (127 : Int32)) <<< ((0 : Int32) &&& 31))) ||| (((own_b1 (own_s u1)) &&& (127 : Int32)) <<< ((7 : Int32) &&& 31))) ||| (((own_b1 (own_s (own_s u1))) &&& (127 : Int32)) <<< ((14 : Int32) &&& 31))) ||| (((own_b1 (own_s (own_s (own_s u1)))) &&& (127 : Int32)) <<< ((21 : Int32) &&& 31)))), .val (.int (28 : Int32)), .val (.int (own_b0 (own_s (own_s (own_s (own_s u1))))))] [(.int (((((0 : Int32) ||| (((own_b1 u1) &&& (127 : Int32)) <<< ((0 : Int32) &&& 31))) ||| (((own_b1 (own_s u1)) &&& (127 : Int32)) <<< ((7 : Int32) &&& 31))) ||| (((own_b1 (own_s (own_s u1))) &&& (127 : Int32)) <<< ((14 : Int32) &&& 31))) ||| (((own_b1 (own_s (own_s (own_s u1)))) &&& (127 : Int32)) <<< ((21 : Int32) &&& 31))))]))) (fun _ k => XS.iloadN X233.here hx rfl (hb hby d_prog_42_method_4_code_49) rfl k) ?_
          refine Goes.step (B := (T233.setTop (mkF m 51 #[.val (.ref o0), .val (.int (((((0 : Int32) ||| (((own_b1 u1) &&& (127 : Int32)) <<< ((0 : Int32) &&& 31))) ||| (((own_b1 (own_s u1)) &&& (127 : Int32)) <<< ((7 : Int32) &&& 31))) ||| (((own_b1 (own_s (own_s u1))) &&& (127 : Int32)) <<< ((14 : Int32) &&& 31))) ||| (((own_b1 (own_s (own_s (own_s u1)))) &&& (127 : Int32)) <<< ((21 : Int32) &&& 31)))), .val (.int (28 : Int32)), .val (.int (own_b0 (own_s (own_s (own_s (own_s u1))))))] [(.int (own_b0 (own_s (own_s (own_s (own_s u1)))))), (.int (((((0 : Int32) ||| (((own_b1 u1) &&& (127 : Int32)) <<< ((0 : Int32) &&& 31))) ||| (((own_b1 (own_s u1)) &&& (127 : Int32)) <<< ((7 : Int32) &&& 31))) ||| (((own_b1 (own_s (own_s u1))) &&& (127 : Int32)) <<< ((14 : Int32) &&& 31))) ||| (((own_b1 (own_s (own_s (own_s u1)))) &&& (127 : Int32)) <<< ((21 : Int32) &&& 31))))]))) (fun _ k => XS.iloadN X233.here hx rfl (hb hby d_prog_42_method_4_code_50) rfl k) ?_
          refine Goes.step (B := (T233.setTop (mkF m 53 #[.val (.ref o0), .val (.int (((((0 : Int32) ||| (((own_b1 u1) &&& (127 : Int32)) <<< ((0 : Int32) &&& 31))) ||| (((own_b1 (own_s u1)) &&& (127 : Int32)) <<< ((7 : Int32) &&& 31))) ||| (((own_b1 (own_s (own_s u1))) &&& (127 : Int32)) <<< ((14 : Int32) &&& 31))) ||| (((own_b1 (own_s (own_s (own_s u1)))) &&& (127 : Int32)) <<< ((21 : Int32) &&& 31)))), .val (.int (28 : Int32)), .val (.int (own_b0 (own_s (own_s (own_s (own_s u1))))))] [(.int (127 : Int32)), (.int (own_b0 (own_s (own_s (own_s (own_s u1)))))), (.int (((((0 : Int32) ||| (((own_b1 u1) &&& (127 : Int32)) <<< ((0 : Int32) &&& 31))) ||| (((own_b1 (own_s u1)) &&& (127 : Int32)) <<< ((7 : Int32) &&& 31))) ||| (((own_b1 (own_s (own_s u1))) &&& (127 : Int32)) <<< ((14 : Int32) &&& 31))) ||| (((own_b1 (own_s (own_s (own_s u1)))) &&& (127 : Int32)) <<< ((21 : Int32) &&& 31))))]))) (fun _ k => XS.bipush X233.here hx rfl (hb hby d_prog_42_method_4_code_51) k) ?_
          refine Goes.step (B := (T233.setTop (mkF m 54 #[.val (.ref o0), .val (.int (((((0 : Int32) ||| (((own_b1 u1) &&& (127 : Int32)) <<< ((0 : Int32) &&& 31))) ||| (((own_b1 (own_s u1)) &&& (127 : Int32)) <<< ((7 : Int32) &&& 31))) ||| (((own_b1 (own_s (own_s u1))) &&& (127 : Int32)) <<< ((14 : Int32) &&& 31))) ||| (((own_b1 (own_s (own_s (own_s u1)))) &&& (127 : Int32)) <<< ((21 : Int32) &&& 31)))), .val (.int (28 : Int32)), .val (.int (own_b0 (own_s (own_s (own_s (own_s u1))))))] [(.int ((own_b0 (own_s (own_s (own_s (own_s u1))))) &&& (127 : Int32))), (.int (((((0 : Int32) ||| (((own_b1 u1) &&& (127 : Int32)) <<< ((0 : Int32) &&& 31))) ||| (((own_b1 (own_s u1)) &&& (127 : Int32)) <<< ((7 : Int32) &&& 31))) ||| (((own_b1 (own_s (own_s u1))) &&& (127 : Int32)) <<< ((14 : Int32) &&& 31))) ||| (((own_b1 (own_s (own_s (own_s u1)))) &&& (127 : Int32)) <<< ((21 : Int32) &&& 31))))]))) (fun _ k => XS.iand X233.here hx rfl (hb hby d_prog_42_method_4_code_53) rfl k) ?_
          refine Goes.step (B := (T233.setTop (mkF m 55 #[.val (.ref o0), .val (.int (((((0 : Int32) ||| (((own_b1 u1) &&& (127 : Int32)) <<< ((0 : Int32) &&& 31))) ||| (((own_b1 (own_s u1)) &&& (127 : Int32)) <<< ((7 : Int32) &&& 31))) ||| (((own_b1 (own_s (own_s u1))) &&& (127 : Int32)) <<< ((14 : Int32) &&& 31))) ||| (((own_b1 (own_s (own_s (own_s u1)))) &&& (127 : Int32)) <<< ((21 : Int32) &&& 31)))), .val (.int (28 : Int32)), .val (.int (own_b0 (own_s (own_s (own_s (own_s u1))))))] [(.int (28 : Int32)), (.int ((own_b0 (own_s (own_s (own_s (own_s u1))))) &&& (127 : Int32))), (.int (((((0 : Int32) ||| (((own_b1 u1) &&& (127 : Int32)) <<< ((0 : Int32) &&& 31))) ||| (((own_b1 (own_s u1)) &&& (127 : Int32)) <<< ((7 : Int32) &&& 31))) ||| (((own_b1 (own_s (own_s u1))) &&& (127 : Int32)) <<< ((14 : Int32) &&& 31))) ||| (((own_b1 (own_s (own_s (own_s u1)))) &&& (127 : Int32)) <<< ((21 : Int32) &&& 31))))]))) (fun _ k => XS.iloadN X233.here hx rfl (hb hby d_prog_42_method_4_code_54) rfl k) ?_
          refine Goes.step (B := (T233.setTop (mkF m 56 #[.val (.ref o0), .val (.int (((((0 : Int32) ||| (((own_b1 u1) &&& (127 : Int32)) <<< ((0 : Int32) &&& 31))) ||| (((own_b1 (own_s u1)) &&& (127 : Int32)) <<< ((7 : Int32) &&& 31))) ||| (((own_b1 (own_s (own_s u1))) &&& (127 : Int32)) <<< ((14 : Int32) &&& 31))) ||| (((own_b1 (own_s (own_s (own_s u1)))) &&& (127 : Int32)) <<< ((21 : Int32) &&& 31)))), .val (.int (28 : Int32)), .val (.int (own_b0 (own_s (own_s (own_s (own_s u1))))))] [(.int (((own_b0 (own_s (own_s (own_s (own_s u1))))) &&& (127 : Int32)) <<< ((28 : Int32) &&& 31))), (.int (((((0 : Int32) ||| (((own_b1 u1) &&& (127 : Int32)) <<< ((0 : Int32) &&& 31))) ||| (((own_b1 (own_s u1)) &&& (127 : Int32)) <<< ((7 : Int32) &&& 31))) ||| (((own_b1 (own_s (own_s u1))) &&& (127 : Int32)) <<< ((14 : Int32) &&& 31))) ||| (((own_b1 (own_s (own_s (own_s u1)))) &&& (127 : Int32)) <<< ((21 : Int32) &&& 31))))]))) (fun _ k => XS.ishl X233.here hx rfl (hb hby d_prog_42_method_4_code_55) rfl k) ?_
          refine Goes.step (B := (T233.setTop (mkF m 57 #[.val (.ref o0), .val (.int (((((0 : Int32) ||| (((own_b1 u1) &&& (127 : Int32)) <<< ((0 : Int32) &&& 31))) ||| (((own_b1 (own_s u1)) &&& (127 : Int32)) <<< ((7 : Int32) &&& 31))) ||| (((own_b1 (own_s (own_s u1))) &&& (127 : Int32)) <<< ((14 : Int32) &&& 31))) ||| (((own_b1 (own_s (own_s (own_s u1)))) &&& (127 : Int32)) <<< ((21 : Int32) &&& 31)))), .val (.int (28 : Int32)), .val (.int (own_b0 (own_s (own_s (own_s (own_s u1))))))] [(.int ((((((0 : Int32) ||| (((own_b1 u1) &&& (127 : Int32)) <<< ((0 : Int32) &&& 31))) ||| (((own_b1 (own_s u1)) &&& (127 : Int32)) <<< ((7 : Int32) &&& 31))) ||| (((own_b1 (own_s (own_s u1))) &&& (127 : Int32)) <<< ((14 : Int32) &&& 31))) ||| (((own_b1 (own_s (own_s (own_s u1)))) &&& (127 : Int32)) <<< ((21 : Int32) &&& 31))) ||| (((own_b0 (own_s (own_s (own_s (own_s u1))))) &&& (127 : Int32)) <<< ((28 : Int32) &&& 31))))]))) (fun _ k => XS.ior X233.here hx rfl (hb hby d_prog_42_method_4_code_56) rfl k) ?_
          refine Goes.step (B := (T233.setTop (mkF m 58 #[.val (.ref o0), .val (.int ((((((0 : Int32) ||| (((own_b1 u1) &&& (127 : Int32)) <<< ((0 : Int32) &&& 31))) ||| (((own_b1 (own_s u1)) &&& (127 : Int32)) <<< ((7 : Int32) &&& 31))) ||| (((own_b1 (own_s (own_s u1))) &&& (127 : Int32)) <<< ((14 : Int32) &&& 31))) ||| (((own_b1 (own_s (own_s (own_s u1)))) &&& (127 : Int32)) <<< ((21 : Int32) &&& 31))) ||| (((own_b0 (own_s (own_s (own_s (own_s u1))))) &&& (127 : Int32)) <<< ((28 : Int32) &&& 31)))), .val (.int (28 : Int32)), .val (.int (own_b0 (own_s (own_s (own_s (own_s u1))))))] []))) (fun _ k => XS.istoreN X233.here hx rfl (hb hby d_prog_42_method_4_code_57) rfl (l' := #[.val (.ref o0), .val (.int ((((((0 : Int32) ||| (((own_b1 u1) &&& (127 : Int32)) <<< ((0 : Int32) &&& 31))) ||| (((own_b1 (own_s u1)) &&& (127 : Int32)) <<< ((7 : Int32) &&& 31))) ||| (((own_b1 (own_s (own_s u1))) &&& (127 : Int32)) <<< ((14 : Int32) &&& 31))) ||| (((own_b1 (own_s (own_s (own_s u1)))) &&& (127 : Int32)) <<< ((21 : Int32) &&& 31))) ||| (((own_b0 (own_s (own_s (own_s (own_s u1))))) &&& (127 : Int32)) <<< ((28 : Int32) &&& 31)))), .val (.int (28 : Int32)), .val (.int (own_b0 (own_s (own_s (own_s (own_s u1))))))]) rfl k) ?_
          refine Goes.step (B := (T233.setTop (mkF m 61 #[.val (.ref o0), .val (.int ((((((0 : Int32) ||| (((own_b1 u1) &&& (127 : Int32)) <<< ((0 : Int32) &&& 31))) ||| (((own_b1 (own_s u1)) &&& (127 : Int32)) <<< ((7 : Int32) &&& 31))) ||| (((own_b1 (own_s (own_s u1))) &&& (127 : Int32)) <<< ((14 : Int32) &&& 31))) ||| (((own_b1 (own_s (own_s (own_s u1)))) &&& (127 : Int32)) <<< ((21 : Int32) &&& 31))) ||| (((own_b0 (own_s (own_s (own_s (own_s u1))))) &&& (127 : Int32)) <<< ((28 : Int32) &&& 31)))), .val (.int (35 : Int32)), .val (.int (own_b0 (own_s (own_s (own_s (own_s u1))))))] []))) (fun _ k => XS.iinc X233.here hx rfl (hb hby d_prog_42_method_4_code_58) rfl (l' := #[.val (.ref o0), .val (.int ((((((0 : Int32) ||| (((own_b1 u1) &&& (127 : Int32)) <<< ((0 : Int32) &&& 31))) ||| (((own_b1 (own_s u1)) &&& (127 : Int32)) <<< ((7 : Int32) &&& 31))) ||| (((own_b1 (own_s (own_s u1))) &&& (127 : Int32)) <<< ((14 : Int32) &&& 31))) ||| (((own_b1 (own_s (own_s (own_s u1)))) &&& (127 : Int32)) <<< ((21 : Int32) &&& 31))) ||| (((own_b0 (own_s (own_s (own_s (own_s u1))))) &&& (127 : Int32)) <<< ((28 : Int32) &&& 31)))), .val (.int (35 : Int32)), .val (.int (own_b0 (own_s (own_s (own_s (own_s u1))))))]) rfl k) ?_
          refine Goes.step (B := (T233.setTop (mkF m 62 #[.val (.ref o0), .val (.int ((((((0 : Int32) ||| (((own_b1 u1) &&& (127 : Int32)) <<< ((0 : Int32) &&& 31))) ||| (((own_b1 (own_s u1)) &&& (127 : Int32)) <<< ((7 : Int32) &&& 31))) ||| (((own_b1 (own_s (own_s u1))) &&& (127 : Int32)) <<< ((14 : Int32) &&& 31))) ||| (((own_b1 (own_s (own_s (own_s u1)))) &&& (127 : Int32)) <<< ((21 : Int32) &&& 31))) ||| (((own_b0 (own_s (own_s (own_s (own_s u1))))) &&& (127 : Int32)) <<< ((28 : Int32) &&& 31)))), .val (.int (35 : Int32)), .val (.int (own_b0 (own_s (own_s (own_s (own_s u1))))))] [(.int (own_b0 (own_s (own_s (own_s (own_s u1))))))]))) (fun _ k => XS.iloadN X233.here hx rfl (hb hby d_prog_42_method_4_code_61) rfl k) ?_
          refine Goes.step (B := (T233.setTop (mkF m 65 #[.val (.ref o0), .val (.int ((((((0 : Int32) ||| (((own_b1 u1) &&& (127 : Int32)) <<< ((0 : Int32) &&& 31))) ||| (((own_b1 (own_s u1)) &&& (127 : Int32)) <<< ((7 : Int32) &&& 31))) ||| (((own_b1 (own_s (own_s u1))) &&& (127 : Int32)) <<< ((14 : Int32) &&& 31))) ||| (((own_b1 (own_s (own_s (own_s u1)))) &&& (127 : Int32)) <<< ((21 : Int32) &&& 31))) ||| (((own_b0 (own_s (own_s (own_s (own_s u1))))) &&& (127 : Int32)) <<< ((28 : Int32) &&& 31)))), .val (.int (35 : Int32)), .val (.int (own_b0 (own_s (own_s (own_s (own_s u1))))))] [(.int (128 : Int32)), (.int (own_b0 (own_s (own_s (own_s (own_s u1))))))]))) (fun _ k => XS.sipush X233.here hx rfl (hb hby d_prog_42_method_4_code_62) k) ?_
          refine Goes.step (B := (T233.setTop (mkF m 66 #[.val (.ref o0), .val (.int ((((((0 : Int32) ||| (((own_b1 u1) &&& (127 : Int32)) <<< ((0 : Int32) &&& 31))) ||| (((own_b1 (own_s u1)) &&& (127 : Int32)) <<< ((7 : Int32) &&& 31))) ||| (((own_b1 (own_s (own_s u1))) &&& (127 : Int32)) <<< ((14 : Int32) &&& 31))) ||| (((own_b1 (own_s (own_s (own_s u1)))) &&& (127 : Int32)) <<< ((21 : Int32) &&& 31))) ||| (((own_b0 (own_s (own_s (own_s (own_s u1))))) &&& (127 : Int32)) <<< ((28 : Int32) &&& 31)))), .val (.int (35 : Int32)), .val (.int (own_b0 (own_s (own_s (own_s (own_s u1))))))] [(.int ((own_b0 (own_s (own_s (own_s (own_s u1))))) &&& (128 : Int32)))]))) (fun _ k => XS.iand X233.here hx rfl (hb hby d_prog_42_method_4_code_65) rfl k) ?_
          have hc239 : ((own_b0 (own_s (own_s (own_s (own_s u1))))) &&& (128 : Int32)) = (0 : Int32) := own_b0c hk4
          refine Goes.step (B := (T233.setTop (mkF m 69 #[.val (.ref o0), .val (.int ((((((0 : Int32) ||| (((own_b1 u1) &&& (127 : Int32)) <<< ((0 : Int32) &&& 31))) ||| (((own_b1 (own_s u1)) &&& (127 : Int32)) <<< ((7 : Int32) &&& 31))) ||| (((own_b1 (own_s (own_s u1))) &&& (127 : Int32)) <<< ((14 : Int32) &&& 31))) ||| (((own_b1 (own_s (own_s (own_s u1)))) &&& (127 : Int32)) <<< ((21 : Int32) &&& 31))) ||| (((own_b0 (own_s (own_s (own_s (own_s u1))))) &&& (127 : Int32)) <<< ((28 : Int32) &&& 31)))), .val (.int (35 : Int32)), .val (.int (own_b0 (own_s (own_s (own_s (own_s u1))))))] []))) (fun _ k => XS.ifNo X233.here hx rfl (hb hby d_prog_42_method_4_code_66) rfl ((if0 _ _).trans (teq hc239).2) k) ?_
          refine Goes.step (B := (T233.setTop (mkF m 70 #[.val (.ref o0), .val (.int ((((((0 : Int32) ||| (((own_b1 u1) &&& (127 : Int32)) <<< ((0 : Int32) &&& 31))) ||| (((own_b1 (own_s u1)) &&& (127 : Int32)) <<< ((7 : Int32) &&& 31))) ||| (((own_b1 (own_s (own_s u1))) &&& (127 : Int32)) <<< ((14 : Int32) &&& 31))) ||| (((own_b1 (own_s (own_s (own_s u1)))) &&& (127 : Int32)) <<< ((21 : Int32) &&& 31))) ||| (((own_b0 (own_s (own_s (own_s (own_s u1))))) &&& (127 : Int32)) <<< ((28 : Int32) &&& 31)))), .val (.int (35 : Int32)), .val (.int (own_b0 (own_s (own_s (own_s (own_s u1))))))] [(.int ((((((0 : Int32) ||| (((own_b1 u1) &&& (127 : Int32)) <<< ((0 : Int32) &&& 31))) ||| (((own_b1 (own_s u1)) &&& (127 : Int32)) <<< ((7 : Int32) &&& 31))) ||| (((own_b1 (own_s (own_s u1))) &&& (127 : Int32)) <<< ((14 : Int32) &&& 31))) ||| (((own_b1 (own_s (own_s (own_s u1)))) &&& (127 : Int32)) <<< ((21 : Int32) &&& 31))) ||| (((own_b0 (own_s (own_s (own_s (own_s u1))))) &&& (127 : Int32)) <<< ((28 : Int32) &&& 31))))]))) (fun _ k => XS.iloadN X233.here hx rfl (hb hby d_prog_42_method_4_code_69) rfl k) ?_
          refine Goes.retI X233 hx hlk hrt (hb hby d_prog_42_method_4_code_70) ?_ (by decide) (by decide)
          rw [e233]
          have en : own_n 4 i1 u1 = (((((i1 + (1 : Int32)) + (1 : Int32)) + (1 : Int32)) + (1 : Int32)) + (1 : Int32)) := by simp only [own_n, if_neg hk0_101, if_neg hk1_132, if_neg hk2_163, if_neg hk3_194]
          rw [← en] at f237
          exact ⟨congrArg (fun z => some (Value.int z)) (own_acc5 u1 hk4), N233, K233, f234, f235, f237⟩
def own_ct (x2 : Int32) : Int32 := ((x2 &&& (2147483647 : Int32)) % (3 : Int32))
theorem own_ct3 (x2 : Int32) : own_ct x2 = 0 ∨ own_ct x2 = 1 ∨ own_ct x2 = 2 := by
  have h1 := c_mask x2 2147483647 31 (by decide) (by decide)
  have h2 := (c_irem (x2 &&& 2147483647) 3 3 (by decide)).1 (by omega)
  have h3 : (own_ct x2).toInt = 0 ∨ (own_ct x2).toInt = 1 ∨ (own_ct x2).toInt = 2 := by
    show ((x2 &&& 2147483647) % 3 : Int32).toInt = 0 ∨ ((x2 &&& 2147483647) % 3 : Int32).toInt = 1 ∨ ((x2 &&& 2147483647) % 3 : Int32).toInt = 2
    omega
  rcases h3 with h | h | h
  · exact Or.inl (Int32.toInt_inj.mp (by rw [h]; decide))
  · exact Or.inr (Or.inl (Int32.toInt_inj.mp (by rw [h]; decide)))
  · exact Or.inr (Or.inr (Int32.toInt_inj.mp (by rw [h]; decide)))
theorem own_wlow : ∀ (m : Nat) (f : Nat → Int32) (i u : Int32) (j : Nat), 0 ≤ i.toInt → i.toInt + m ≤ 900 → (j : Int) < i.toInt → own_w m f i u j = f j
  | 0, f, i, u, j, h0, h1, h2 => by
    have e := own_clamp (i := i) rfl h0
    simp only [own_w, own_up]; rw [if_neg (by omega)]
  | m + 1, f, i, u, j, h0, h1, h2 => by
    have e := own_clamp (i := i) rfl h0
    have e1 := own_e (i := i) rfl h0 (by omega)
    simp only [own_w]
    split
    · simp only [own_up]; rw [if_neg (by omega)]
    · rw [own_wlow m _ (i + 1) _ j (by omega) (by omega) (by omega)]
      simp only [own_up]; rw [if_neg (by omega)]
theorem own_wE : ∀ (m : Nat) (f : Nat → Int32) (i u : Int32), 0 ≤ i.toInt → i.toInt + m ≤ 900 → own_E m (own_w m f i u) i u
  | 0, f, i, u, h0, h1 => by simp [own_E, own_w, own_up]
  | m + 1, f, i, u, h0, h1 => by
    have e := own_clamp (i := i) rfl h0
    have e1 := own_e (i := i) rfl h0 (by omega)
    simp only [own_E, own_w]
    by_cases q : (u &&& (-128 : Int32)) = (0 : Int32)
    · rw [if_pos q, if_pos q]; simp [own_up]
    · rw [if_neg q, if_neg q]
      refine ⟨?_, own_wE m _ (i + 1) (own_s u) (by omega) (by omega)⟩
      rw [own_wlow m _ (i + 1) _ _ (by omega) (by omega) (by omega)]
      simp [own_up]
theorem own_Ecg : ∀ (m : Nat) (f g : Nat → Int32) (i u : Int32), 0 ≤ i.toInt → i.toInt + m ≤ 900 → (∀ j : Nat, (j : Int) < (own_n m i u).toInt → g j = f j) → own_E m f i u → own_E m g i u
  | 0, f, g, i, u, h0, h1, h2, h => by
    have e := own_clamp (i := i) rfl h0
    have b := own_nb 0 i u h0 (by omega)
    simp only [own_E] at h ⊢
    rw [h2 _ (by omega)]; exact h
  | m + 1, f, g, i, u, h0, h1, h2, h => by
    have e := own_clamp (i := i) rfl h0
    have e1 := own_e (i := i) rfl h0 (by omega)
    have b := own_nb (m + 1) i u h0 (by omega)
    simp only [own_E] at h ⊢
    by_cases q : (u &&& (-128 : Int32)) = (0 : Int32)
    · rw [if_pos q] at h ⊢
      rw [h2 _ (by omega)]; exact h
    · rw [if_neg q] at h ⊢
      refine ⟨by rw [h2 _ (by omega)]; exact h.1, own_Ecg m f g (i + 1) (own_s u) (by omega) (by omega) (fun j hj => h2 j ?_) h.2⟩
      simp only [own_n, if_neg q]; exact hj
theorem own_n0 (x0 : Int32) : 1 ≤ (own_n 4 (0 : Int32) x0).toInt ∧ (own_n 4 (0 : Int32) x0).toInt ≤ 5 := by
  have k : (0 : Int32).toInt = 0 := by decide
  have b := own_nb 4 (0 : Int32) x0 (by decide) (by decide)
  omega
theorem own_n1 (x0 x1 : Int32) : (own_n 4 (0 : Int32) x0).toInt + 1 ≤ (own_n 4 (own_n 4 (0 : Int32) x0) x1).toInt ∧ (own_n 4 (own_n 4 (0 : Int32) x0) x1).toInt ≤ 10 := by
  have a := own_n0 x0
  have b := own_nb 4 (own_n 4 (0 : Int32) x0) x1 (by omega) (by omega)
  omega
theorem own_r0 (x0 : Int32) : 0 ≤ (own_n 4 (0 : Int32) x0).toInt := by have := own_n0 x0; omega
theorem own_r1 (x0 : Int32) : (own_n 4 (0 : Int32) x0).toInt ≤ 5 := by have := own_n0 x0; omega
theorem own_r01 (x0 : Int32) : (own_n 4 (0 : Int32) x0).toInt ≤ 100 := by have := own_n0 x0; omega
theorem own_r2 (x0 : Int32) : ¬ (((16 : Int32) - (own_n 4 (0 : Int32) x0)) < (5 : Int32)) := by
  have a := own_n0 x0
  have b := c_isub 16 (own_n 4 (0 : Int32) x0)
  have c := rng32 (16 - own_n 4 (0 : Int32) x0)
  have k : (16 : Int32).toInt = 16 := by decide
  have k5 : (5 : Int32).toInt = 5 := by decide
  rw [Int32.lt_iff_toInt_lt]; omega
theorem own_tz0 (x0 x1 : Int32) : ¬ (0 : Int32) < (0 : Int32) := by decide
theorem own_tl0 (x0 x1 : Int32) : (0 : Int32) < (16 : Int32) := by decide
theorem own_tzz {i : Int32} (h : 0 ≤ i.toInt) : ¬ i < (0 : Int32) := by
  have k : (0 : Int32).toInt = 0 := by decide
  rw [Int32.lt_iff_toInt_lt]; omega
theorem own_tll {i : Int32} (h : i.toInt < 16) : i < (16 : Int32) := by
  have k : (16 : Int32).toInt = 16 := by decide
  rw [Int32.lt_iff_toInt_lt]; omega
theorem own_tz1 (x0 x1 : Int32) : ¬ own_n 4 (0 : Int32) x0 < (0 : Int32) := own_tzz (by have := own_n0 x0; omega)
theorem own_tl1 (x0 x1 : Int32) : own_n 4 (0 : Int32) x0 < (16 : Int32) := own_tll (by have := own_n0 x0; omega)
theorem own_tz2 (x0 x1 : Int32) : ¬ own_n 4 (own_n 4 (0 : Int32) x0) x1 < (0 : Int32) := own_tzz (by have := own_n0 x0; have := own_n1 x0 x1; omega)
theorem own_tl2 (x0 x1 : Int32) : own_n 4 (own_n 4 (0 : Int32) x0) x1 < (16 : Int32) := own_tll (by have := own_n0 x0; have := own_n1 x0 x1; omega)
theorem own_hy {i z : Int32} (h : i.toInt < z.toInt) : own_hn_fn i z = (1 : Int32) := by rw [own_hn_fn, if_pos (own_ltz rfl rfl h)]
theorem own_hno (i : Int32) : own_hn_fn i i = (0 : Int32) := by rw [own_hn_fn, if_neg Int32.lt_irrefl]
theorem own_h10 (x0 x1 : Int32) : own_hn_fn (0 : Int32) (0 : Int32) = (0 : Int32) := own_hno _
theorem own_h11 (x0 x1 : Int32) : own_hn_fn (0 : Int32) (own_n 4 (0 : Int32) x0) = (1 : Int32) := own_hy (by
  have k : (0 : Int32).toInt = 0 := by decide
  have := own_n0 x0
  omega)
theorem own_h12 (x0 x1 : Int32) : own_hn_fn (0 : Int32) (own_n 4 (own_n 4 (0 : Int32) x0) x1) = (1 : Int32) := own_hy (by
  have k : (0 : Int32).toInt = 0 := by decide
  have := own_n0 x0
  have := own_n1 x0 x1
  omega)
theorem own_h21 (x0 x1 : Int32) : own_hn_fn (own_n 4 (0 : Int32) x0) (own_n 4 (0 : Int32) x0) = (0 : Int32) := own_hno _
theorem own_h22 (x0 x1 : Int32) : own_hn_fn (own_n 4 (0 : Int32) x0) (own_n 4 (own_n 4 (0 : Int32) x0) x1) = (1 : Int32) := own_hy (by have := own_n1 x0 x1; omega)
theorem own_h3 (x0 x1 : Int32) : own_hn_fn (own_n 4 (own_n 4 (0 : Int32) x0) x1) (own_n 4 (own_n 4 (0 : Int32) x0) x1) = (0 : Int32) := own_hno _
theorem own_E11 (x0 x1 : Int32) : own_E 4 (own_w 4 own_zero (0 : Int32) x0) (0 : Int32) x0 := own_wE 4 _ _ _ (by decide) (by decide)
theorem own_B11 (x0 x1 : Int32) : (own_n 4 (0 : Int32) x0).toInt ≤ (own_n 4 (0 : Int32) x0).toInt := Int.le_refl _
theorem own_E12 (x0 x1 : Int32) : own_E 4 (own_w 4 (own_w 4 own_zero (0 : Int32) x0) (own_n 4 (0 : Int32) x0) x1) (0 : Int32) x0 :=
  own_Ecg 4 (own_w 4 own_zero (0 : Int32) x0) _ (0 : Int32) x0 (by decide) (by decide) (fun j hj => own_wlow 4 _ _ _ j (own_r0 x0) (by have := own_n0 x0; omega) hj) (own_E11 x0 x1)
theorem own_B12 (x0 x1 : Int32) : (own_n 4 (0 : Int32) x0).toInt ≤ (own_n 4 (own_n 4 (0 : Int32) x0) x1).toInt := by have := own_n1 x0 x1; omega
theorem own_E2 (x0 x1 : Int32) : own_E 4 (own_w 4 (own_w 4 own_zero (0 : Int32) x0) (own_n 4 (0 : Int32) x0) x1) (own_n 4 (0 : Int32) x0) x1 :=
  own_wE 4 _ _ _ (own_r0 x0) (by have := own_n0 x0; omega)

theorem pd___V : parseMethodDescriptor "()V" = some ⟨[], none⟩ := by decide +kernel
theorem pd___AB : parseMethodDescriptor "()[B" = some ⟨[], some (.array .byte)⟩ := by decide +kernel
theorem pd__AB_V : parseMethodDescriptor "([B)V" = some ⟨[(.array .byte)], none⟩ := by decide +kernel
theorem pd___Z : parseMethodDescriptor "()Z" = some ⟨[], some .boolean⟩ := by decide +kernel
theorem pd___I : parseMethodDescriptor "()I" = some ⟨[], some .int⟩ := by decide +kernel
def own_law_Q (Z : State) (x0 : Int32) (x1 : Int32) (x2 : Int32)  (h0 : Heap) (n0 : Nat) (v : Option Value) (h : Heap) (L : List Loc) : Prop := v = some (.int 1) ∧ Fr n0 L
theorem own_law_ef (m : MethodId) (x0 : Int32) (x1 : Int32) (x2 : Int32) : entryFrame m #[(.int x0), (.int x1), (.int x2)] maxLocals = mkF m 0 #[.val (.int x0), .val (.int x1), .val (.int x2), .unset, .unset, .unset] [] := by first | (simp [entryFrame, mkF, argsToLocals, Value.category, maxLocals]; done) | rfl
theorem pn_ReaderHasNextPinLaw : plainName "com/example/kartoteka/kartoteka/index/ReaderHasNextPinLaw" = true := by first | (simp [plainName, overriddenIn]; done) | decide +kernel
set_option maxRecDepth 65536 in
set_option maxHeartbeats 40000000 in
theorem own_law_rm (l : Launch) (Z : State) (a0 : Array Value) (hw : ∀ d ∈ tables_1, d.before a0 Z = true) (ws : List Jvm.Cond) (x0 : Int32) (x1 : Int32) (x2 : Int32)  (h0 : Heap) (n0 : Nat) (Z0 : n0 ≤ h0.size)  :
    MetFree l x (head1 (Jvm.Cond.code x code maxLocals ret :: ws) room_1) (fun a U => a = #[(.int x0), (.int x1), (.int x2)] ∧ Z.Warmed39 U.vm ∧ U.heap = h0) (fun _ _ _ _ _ => True) (fun _ U o U' => ∃ v L, o = .returned v ∧ own_law_Q Z x0 x1 x2 h0 n0 v U'.heap L ∧ FrameEnd U o U' L room_1.cells room_1.slots) := by
  refine MetFree.of_bodySF (plainFor_of_name pn_ReaderHasNextPinLaw) hisR ?_
  intro p e s m args below meth c s₁ Bd hml0 hP hK
  obtain ⟨rfl, hZ, hh⟩ := hP
  have hx := Bd.exec
  have hby := Bd.bytes
  have hml : c.maxLocals = 6 := hml0
  have hown : s.vm.findClass "com/example/kartoteka/kartoteka/index/ReaderHasNextPinLaw" = some m.cls := findClass_of_methodNamed Bd.named
  have hnm := (name_of_methodNamed Bd.named Bd.method).1
  have hlk : meth.locks = false := BodyLoose.notSynchronized Bd
  have hrt := Bd.returns
  have X0 : Stand p l e room_1 s m #[(.int x0), (.int x1), (.int x2)] below meth c s₁ [] 0 0 := Stand.of_body Bd
  have e0 : s₁.heap = h0 := by rw [← hh, Bd.state]; rfl
  have N0 := Fr.nil n0
  refine Goes.enter (kc := room_1.cells) (kn := room_1.slots) (Q := own_law_Q Z x0 x1 x2 h0 n0) (own_law_ef m x0 x1 x2) ?_
  refine Goes.step (B := (s₁.setTop (mkF m 1 #[.val (.int x0), .val (.int x1), .val (.int x2), .unset, .unset, .unset] [(.int x2)]))) (fun _ k => XS.iloadN X0.here hx rfl (hb hby at_0) rfl k) ?_
  refine Goes.step (B := (s₁.setTop (mkF m 3 #[.val (.int x0), .val (.int x1), .val (.int x2), .unset, .unset, .unset] [(.int (2147483647 : Int32)), (.int x2)]))) (fun _ k => X0.ldcInt hx hown (mvT hZ (hw _ (List.mem_of_getElem? (i := 0) rfl))) (g := (mkF m 1 #[.val (.int x0), .val (.int x1), .val (.int x2), .unset, .unset, .unset] [(.int x2)])) rfl (hb hby at_1) _ k) ?_
  refine Goes.step (B := (s₁.setTop (mkF m 4 #[.val (.int x0), .val (.int x1), .val (.int x2), .unset, .unset, .unset] [(.int (x2 &&& (2147483647 : Int32)))]))) (fun _ k => XS.iand X0.here hx rfl (hb hby at_3) rfl k) ?_
  refine Goes.step (B := (s₁.setTop (mkF m 5 #[.val (.int x0), .val (.int x1), .val (.int x2), .unset, .unset, .unset] [(.int (3 : Int32)), (.int (x2 &&& (2147483647 : Int32)))]))) (fun _ k => XS.iconst X0.here hx rfl (hb hby at_4) k) ?_
  refine Goes.step (B := (s₁.setTop (mkF m 6 #[.val (.int x0), .val (.int x1), .val (.int x2), .unset, .unset, .unset] [(.int ((x2 &&& (2147483647 : Int32)) % (3 : Int32)))]))) (fun _ k => iremM X0 hx rfl (hb hby at_5) rfl (by decide) k) ?_
  refine Goes.step (B := (s₁.setTop (mkF m 7 #[.val (.int x0), .val (.int x1), .val (.int x2), .val (.int (own_ct x2)), .unset, .unset] []))) (fun _ k => XS.istoreN X0.here hx rfl (hb hby at_6) rfl (l' := #[.val (.int x0), .val (.int x1), .val (.int x2), .val (.int (own_ct x2)), .unset, .unset]) rfl k) ?_
  rcases own_ct3 x2 with hl | hl | hl
  · rw [hl]
    obtain ⟨T101, h101, X101, e101, E101, A101, D101, -, st101⟩ := newO X0 hx hZ hown (hw _ (List.mem_of_getElem? (i := 1) rfl)) (hw _ (List.mem_of_getElem? (i := 2) rfl)) (hw _ (List.mem_of_getElem? (i := 3) rfl)) e0 (g := (mkF m 7 #[.val (.int x0), .val (.int x1), .val (.int x2), .val (.int (0 : Int32)), .unset, .unset] [])) rfl (hb hby at_7) (by decide) (by decide)
    obtain ⟨b101, g101⟩ : ∃ z, z = h0.size := ⟨_, rfl⟩
    rw [← g101] at A101 D101 st101
    have gn101 : n0 ≤ b101 := Nat.le_trans Z0 (Nat.le_of_eq g101.symm)
    have sz101 : h0.size ≤ b101 := Nat.le_trans (Keep.refl h0 []).1 (Nat.le_of_eq g101.symm)
    have f102 : Fld Z h101 b101 "com/example/kartoteka/kartoteka/index/Varints$Writer" "bytes" "[B" .null := D101 (Or.inl (hw _ (List.mem_of_getElem? (i := 15) rfl))) (ty := (.array .byte)) (by decide)
    have f103 : Fld Z h101 b101 "com/example/kartoteka/kartoteka/index/Varints$Writer" "length" "I" (.int (0 : Int32)) := D101 (Or.inl (hw _ (List.mem_of_getElem? (i := 22) rfl))) (ty := .int) (by decide)
    have Z101 : n0 ≤ h101.size := Nat.le_trans Z0 E101.1
    have K101 : Keep h0 h101 [] := (Keep.refl h0 []).ext E101
    refine Goes.step (B := (T101.setTop (mkF m 10 #[.val (.int x0), .val (.int x1), .val (.int x2), .val (.int (0 : Int32)), .unset, .unset] [(.ref b101)]))) (fun _ k => st101 _ k) ?_
    refine Goes.step (B := (T101.setTop (mkF m 11 #[.val (.int x0), .val (.int x1), .val (.int x2), .val (.int (0 : Int32)), .unset, .unset] [(.ref b101), (.ref b101)]))) (fun _ k => XS.dup X101.here hx rfl (hb hby at_10) rfl rfl k) ?_
    obtain ⟨_, _, ⟨T104, L104, k104, n104⟩, -, X104, ⟨Lc104, hQ104, l104, y104, z104⟩, st104⟩ := X101.specialBack hx (y := (⟨"com/example/kartoteka/kartoteka/index/Varints$Writer", "<init>", "()V"⟩ : MethodName)) rfl hown (mvT hZ (hw _ (List.mem_of_getElem? (i := 4) rfl))) (mvT hZ (hw _ (List.mem_of_getElem? (i := 5) rfl))) (mvT hZ (hw _ (List.mem_of_getElem? (i := 6) rfl))) (by decide) (backOf (W := 1) (own_wi0_rm l Z a0 hw [] b101  h101 n0 Z101 A101 f102 f103 gn101) hZ (hw _ (List.mem_of_getElem? (i := 6) rfl)) (hw _ (List.mem_of_getElem? (i := 3) rfl)) (by decide) (by decide)) (g := (mkF m 11 #[.val (.int x0), .val (.int x1), .val (.int x2), .val (.int (0 : Int32)), .unset, .unset] [(.ref b101), (.ref b101)])) rfl (by rw [hml]; rfl) (Steps.refl _) (a := b101) (argsL := []) (rest := [(.ref b101)]) (lenOf pd___V rfl) rfl (by show 2 * 0 + _ ≤ _; exact Nat.le_of_eq rfl) (hb hby at_11) (fun _ _ => ⟨rfl, e101, (by decide : 1 + 1 ≤ _), (by decide : 2 + 16 ≤ _)⟩)
    dsimp only [Pt.U, Pt.locs, Pt.cells, Pt.slots] at X104 l104 y104 z104 st104 hQ104
    subst l104 y104 z104
    obtain ⟨b_104, k1_104, rfl, N104q, K104q, gn104_b, sz104_b, p104_0, p104_1, p104_2, p104_3, p104_4⟩ := hQ104
    have N104 := Fr.app N0 N104q
    have ne105 : b101 ≠ b_104 := Nat.ne_of_lt (Nat.lt_of_lt_of_le A101.lt sz104_b)
    have f106 := A101.keep K104q
    have K104 : Keep h0 T104.heap [] := Keep.trans K101 K104q (fun y q => by cases List.mem_singleton.mp q; exact (Or.inr sz101))
    have Z104 : n0 ≤ T104.heap.size := Nat.le_trans Z101 K104q.1
    have szz104_b : h0.size ≤ b_104 := Nat.le_trans K101.1 sz104_b
    refine Goes.to (B := (T104.setTop (mkF m 14 #[.val (.int x0), .val (.int x1), .val (.int x2), .val (.int (0 : Int32)), .unset, .unset] [(.ref b101)]))) st104 ?_
    refine Goes.step (B := (T104.setTop (mkF m 16 #[.val (.int x0), .val (.int x1), .val (.int x2), .val (.int (0 : Int32)), .val (.ref b101), .unset] []))) (fun _ k => XS.astore X104.here hx rfl (hb hby at_14) rfl rfl (l' := #[.val (.int x0), .val (.int x1), .val (.int x2), .val (.int (0 : Int32)), .val (.ref b101), .unset]) rfl k) ?_
    refine Goes.step (B := (T104.setTop (mkF m 17 #[.val (.int x0), .val (.int x1), .val (.int x2), .val (.int (0 : Int32)), .val (.ref b101), .unset] [(.int (0 : Int32))]))) (fun _ k => XS.iloadN X104.here hx rfl (hb hby at_16) rfl k) ?_
    refine Goes.step (B := (T104.setTop (mkF m 18 #[.val (.int x0), .val (.int x1), .val (.int x2), .val (.int (0 : Int32)), .val (.ref b101), .unset] [(.int (1 : Int32)), (.int (0 : Int32))]))) (fun _ k => XS.iconst X104.here hx rfl (hb hby at_17) k) ?_
    have hc107 : (0 : Int32) < (1 : Int32) := by decide
    refine Goes.step (B := (T104.setTop (mkF m 27 #[.val (.int x0), .val (.int x1), .val (.int x2), .val (.int (0 : Int32)), .val (.ref b101), .unset] []))) (fun _ k => XS.icmpYes X104.here hx rfl (pc0 := 18) (pc' := 27) rfl (hb hby at_18) rfl (tlt hc107).1 (by decide) (by decide) k) ?_
    refine Goes.step (B := (T104.setTop (mkF m 28 #[.val (.int x0), .val (.int x1), .val (.int x2), .val (.int (0 : Int32)), .val (.ref b101), .unset] [(.int (0 : Int32))]))) (fun _ k => XS.iloadN X104.here hx rfl (hb hby at_27) rfl k) ?_
    refine Goes.step (B := (T104.setTop (mkF m 29 #[.val (.int x0), .val (.int x1), .val (.int x2), .val (.int (0 : Int32)), .val (.ref b101), .unset] [(.int (2 : Int32)), (.int (0 : Int32))]))) (fun _ k => XS.iconst X104.here hx rfl (hb hby at_28) k) ?_
    have hc108 : (0 : Int32) < (2 : Int32) := by decide
    refine Goes.step (B := (T104.setTop (mkF m 38 #[.val (.int x0), .val (.int x1), .val (.int x2), .val (.int (0 : Int32)), .val (.ref b101), .unset] []))) (fun _ k => XS.icmpYes X104.here hx rfl (pc0 := 29) (pc' := 38) rfl (hb hby at_29) rfl (tlt hc108).1 (by decide) (by decide) k) ?_
    obtain ⟨T109, h109, X109, e109, E109, A109, D109, -, st109⟩ := newO X104 hx hZ hown (hw _ (List.mem_of_getElem? (i := 23) rfl)) (hw _ (List.mem_of_getElem? (i := 24) rfl)) (hw _ (List.mem_of_getElem? (i := 25) rfl)) rfl (g := (mkF m 38 #[.val (.int x0), .val (.int x1), .val (.int x2), .val (.int (0 : Int32)), .val (.ref b101), .unset] [])) rfl (hb hby at_38) (by decide) (by decide)
    obtain ⟨b109, g109⟩ : ∃ z, z = T104.heap.size := ⟨_, rfl⟩
    rw [← g109] at A109 D109 st109
    have gn109 : n0 ≤ b109 := Nat.le_trans Z104 (Nat.le_of_eq g109.symm)
    have sz109 : h0.size ≤ b109 := Nat.le_trans K104.1 (Nat.le_of_eq g109.symm)
    have ne110 : b101 ≠ b109 := Nat.ne_of_lt (Nat.lt_of_lt_of_le p104_0.lt (Nat.le_of_eq g109.symm))
    have ne111 : b_104 ≠ b109 := Nat.ne_of_lt (Nat.lt_of_lt_of_le p104_3.lt (Nat.le_of_eq g109.symm))
    have f112 := p104_0.ext E109
    have f113 := p104_1.ext E109
    have f114 := p104_2.ext E109
    have f115 := p104_3.ext E109
    have f116 : Fld Z h109 b109 "com/example/kartoteka/kartoteka/index/Varints$Reader" "bytes" "[B" .null := D109 (Or.inr (hw _ (List.mem_of_getElem? (i := 48) rfl))) (ty := (.array .byte)) (by decide)
    have f117 : Fld Z h109 b109 "com/example/kartoteka/kartoteka/index/Varints$Reader" "at" "I" (.int (0 : Int32)) := D109 (Or.inl (hw _ (List.mem_of_getElem? (i := 55) rfl))) (ty := .int) (by decide)
    have Z109 : n0 ≤ h109.size := Nat.le_trans Z104 E109.1
    have K109 : Keep h0 h109 [] := K104.ext E109
    refine Goes.step (B := (T109.setTop (mkF m 41 #[.val (.int x0), .val (.int x1), .val (.int x2), .val (.int (0 : Int32)), .val (.ref b101), .unset] [(.ref b109)]))) (fun _ k => st109 _ k) ?_
    refine Goes.step (B := (T109.setTop (mkF m 42 #[.val (.int x0), .val (.int x1), .val (.int x2), .val (.int (0 : Int32)), .val (.ref b101), .unset] [(.ref b109), (.ref b109)]))) (fun _ k => XS.dup X109.here hx rfl (hb hby at_41) rfl rfl k) ?_
    refine Goes.step (B := (T109.setTop (mkF m 44 #[.val (.int x0), .val (.int x1), .val (.int x2), .val (.int (0 : Int32)), .val (.ref b101), .unset] [(.ref b101), (.ref b109), (.ref b109)]))) (fun _ k => XS.aload X109.here hx rfl (hb hby at_42) rfl rfl k) ?_
    obtain ⟨cq118, kq118, q118a, q118b, q118c⟩ := isOf hZ e109 f112
    obtain ⟨_, _, ⟨T118, L118, k118, n118⟩, -, X118, ⟨Lc118, hQ118, l118, y118, z118⟩, st118⟩ := X109.virtualBack hx (y := (⟨"com/example/kartoteka/kartoteka/index/Varints$Writer", "toByteArray", "()[B"⟩ : MethodName)) (z := (⟨"com/example/kartoteka/kartoteka/index/Varints$Writer", "toByteArray", "()[B"⟩ : MethodName)) hown (mvT hZ (hw _ (List.mem_of_getElem? (i := 26) rfl))) (mvT hZ (hw _ (List.mem_of_getElem? (i := 27) rfl))) (notFace_of_selects (args := #[]) (mvT hZ (hw _ (List.mem_of_getElem? (i := 29) rfl)))) (mvT hZ (hw _ (List.mem_of_getElem? (i := 29) rfl))) (mvT hZ (hw _ (List.mem_of_getElem? (i := 28) rfl))) (by decide) (backOf (W := 2) (own_tb_rm l Z a0 hw [] b101 b_104 k1_104 (0 : Int32) own_zero h109 n0 Z109 f113 f114 f115 (own_tz0 x0 x1) (own_tl0 x0 x1)) hZ (hw _ (List.mem_of_getElem? (i := 30) rfl)) (hw _ (List.mem_of_getElem? (i := 3) rfl)) (by decide) (by decide)) q118a q118c (g := (mkF m 44 #[.val (.int x0), .val (.int x1), .val (.int x2), .val (.int (0 : Int32)), .val (.ref b101), .unset] [(.ref b101), (.ref b109), (.ref b109)])) rfl (by rw [hml]; rfl) (Steps.refl _) (argsL := []) (rest := [(.ref b109), (.ref b109)]) (lenOf pd___AB rfl) rfl (by show 2 * 0 + _ ≤ _; exact Nat.le_of_eq rfl) (hb hby at_44) (fun _ _ => ⟨rfl, e109, (by decide : 3 + 1 ≤ _), (by decide : 20 + 16 ≤ _)⟩)
    dsimp only [Pt.U, Pt.locs, Pt.cells, Pt.slots] at X118 l118 y118 z118 st118 hQ118
    subst l118 y118 z118
    obtain ⟨b_118, k2_118, rfl, N118q, K118q, gn118_b, sz118_b, p118_0⟩ := hQ118
    have N118 := Fr.app N104 N118q
    have ne119 : b101 ≠ b_118 := Nat.ne_of_lt (Nat.lt_of_lt_of_le f112.lt sz118_b)
    have ne120 : b_104 ≠ b_118 := Nat.ne_of_lt (Nat.lt_of_lt_of_le f115.lt sz118_b)
    have ne121 : b109 ≠ b_118 := Nat.ne_of_lt (Nat.lt_of_lt_of_le A109.lt sz118_b)
    have f122 := f112.keep K118q
    have f123 := f113.keep K118q nm0
    have f124 := f114.keep K118q nm0
    have f125 := f115.keep K118q nm0
    have f126 := A109.keep K118q
    have f127 := f116.keep K118q nm0
    have f128 := f117.keep K118q nm0
    have K118 : Keep h0 T118.heap [] := Keep.trans K109 K118q (fun _ q => nomatch q)
    have Z118 : n0 ≤ T118.heap.size := Nat.le_trans Z109 K118q.1
    have szz118_b : h0.size ≤ b_118 := Nat.le_trans K109.1 sz118_b
    refine Goes.to (B := (T118.setTop (mkF m 47 #[.val (.int x0), .val (.int x1), .val (.int x2), .val (.int (0 : Int32)), .val (.ref b101), .unset] [(.ref b_118), (.ref b109), (.ref b109)]))) st118 ?_
    obtain ⟨_, _, ⟨T129, L129, k129, n129⟩, -, X129, ⟨Lc129, hQ129, l129, y129, z129⟩, st129⟩ := X118.specialBack hx (y := (⟨"com/example/kartoteka/kartoteka/index/Varints$Reader", "<init>", "([B)V"⟩ : MethodName)) rfl hown (mvT hZ (hw _ (List.mem_of_getElem? (i := 43) rfl))) (mvT hZ (hw _ (List.mem_of_getElem? (i := 44) rfl))) (mvT hZ (hw _ (List.mem_of_getElem? (i := 45) rfl))) (by decide) (backOf (W := 1) (own_in0_rm l Z a0 hw [] b109 b_118  T118.heap n0 Z118 f126 f127 f128 gn109) hZ (hw _ (List.mem_of_getElem? (i := 45) rfl)) (hw _ (List.mem_of_getElem? (i := 25) rfl)) (by decide) (by decide)) (g := (mkF m 47 #[.val (.int x0), .val (.int x1), .val (.int x2), .val (.int (0 : Int32)), .val (.ref b101), .unset] [(.ref b_118), (.ref b109), (.ref b109)])) rfl (by rw [hml]; rfl) (Steps.refl _) (a := b109) (argsL := [(.ref b_118)]) (rest := [(.ref b109)]) (lenOf pd__AB_V rfl) rfl (by show 2 * 0 + _ ≤ _; exact Nat.le_of_eq rfl) (hb hby at_47) (fun _ _ => ⟨rfl, rfl, (by decide : 4 + 0 ≤ _), (by decide : 36 + 0 ≤ _)⟩)
    dsimp only [Pt.U, Pt.locs, Pt.cells, Pt.slots] at X129 l129 y129 z129 st129 hQ129
    subst l129 y129 z129
    obtain ⟨rfl, N129q, K129q, p129_0, p129_1, p129_2⟩ := hQ129
    have N129 := Fr.app N118 N129q
    have f130 := f122.keep K129q
    have f131 := f123.keep K129q (nm1 ne110)
    have f132 := f124.keep K129q (nm1 ne110)
    have f133 := f125.keep K129q (nm1 ne111)
    have f134 := f126.keep K129q
    have f135 := p118_0.keep K129q (nm1 (Ne.symm ne121))
    have K129 : Keep h0 T129.heap [] := Keep.trans K118 K129q (fun y q => by cases List.mem_singleton.mp q; exact (Or.inr sz109))
    have Z129 : n0 ≤ T129.heap.size := Nat.le_trans Z118 K129q.1
    refine Goes.to (B := (T129.setTop (mkF m 50 #[.val (.int x0), .val (.int x1), .val (.int x2), .val (.int (0 : Int32)), .val (.ref b101), .unset] [(.ref b109)]))) st129 ?_
    refine Goes.step (B := (T129.setTop (mkF m 52 #[.val (.int x0), .val (.int x1), .val (.int x2), .val (.int (0 : Int32)), .val (.ref b101), .val (.ref b109)] []))) (fun _ k => XS.astore X129.here hx rfl (hb hby at_50) rfl rfl (l' := #[.val (.int x0), .val (.int x1), .val (.int x2), .val (.int (0 : Int32)), .val (.ref b101), .val (.ref b109)]) rfl k) ?_
    refine Goes.step (B := (T129.setTop (mkF m 54 #[.val (.int x0), .val (.int x1), .val (.int x2), .val (.int (0 : Int32)), .val (.ref b101), .val (.ref b109)] [(.ref b109)]))) (fun _ k => XS.aload X129.here hx rfl (hb hby at_52) rfl rfl k) ?_
    obtain ⟨cq136, kq136, q136a, q136b, q136c⟩ := isOf hZ rfl p129_0
    obtain ⟨_, _, ⟨T136, L136, k136, n136⟩, -, X136, ⟨Lc136, hQ136, l136, y136, z136⟩, st136⟩ := X129.virtualBack hx (y := (⟨"com/example/kartoteka/kartoteka/index/Varints$Reader", "hasNext", "()Z"⟩ : MethodName)) (z := (⟨"com/example/kartoteka/kartoteka/index/Varints$Reader", "hasNext", "()Z"⟩ : MethodName)) hown (mvT hZ (hw _ (List.mem_of_getElem? (i := 49) rfl))) (mvT hZ (hw _ (List.mem_of_getElem? (i := 50) rfl))) (notFace_of_selects (args := #[]) (mvT hZ (hw _ (List.mem_of_getElem? (i := 52) rfl)))) (mvT hZ (hw _ (List.mem_of_getElem? (i := 52) rfl))) (mvT hZ (hw _ (List.mem_of_getElem? (i := 51) rfl))) (by decide) (backOf (W := 0) (own_hn_rm l Z a0 hw [] b109 b_118 k2_118 (0 : Int32) (0 : Int32) (own_l (0 : Int32).toNatClampNeg own_zero) (.int (0 : Int32)) T129.heap n0 Z129 p129_1 p129_2 f135) hZ (hw _ (List.mem_of_getElem? (i := 53) rfl)) (hw _ (List.mem_of_getElem? (i := 25) rfl)) (by decide) (by decide)) q136a q136c (g := (mkF m 54 #[.val (.int x0), .val (.int x1), .val (.int x2), .val (.int (0 : Int32)), .val (.ref b101), .val (.ref b109)] [(.ref b109)])) rfl (by rw [hml]; rfl) (Steps.refl _) (argsL := []) (rest := []) (lenOf pd___Z rfl) rfl (by show 2 * 0 + _ ≤ _; exact Nat.le_of_eq rfl) (hb hby at_54) (fun _ _ => ⟨rfl, rfl, (by decide : 4 + 0 ≤ _), (by decide : 36 + 0 ≤ _)⟩)
    dsimp only [Pt.U, Pt.locs, Pt.cells, Pt.slots] at X136 l136 y136 z136 st136 hQ136
    subst l136 y136 z136
    obtain ⟨rfl, N136q, e136⟩ := hQ136
    have N136 := Fr.app N129 N136q
    refine Goes.to (B := (T136.setTop (mkF m 57 #[.val (.int x0), .val (.int x1), .val (.int x2), .val (.int (0 : Int32)), .val (.ref b101), .val (.ref b109)] [(.int (own_hn_fn (0 : Int32) (0 : Int32)))]))) st136 ?_
    refine Goes.step (B := (T136.setTop (mkF m 58 #[.val (.int x0), .val (.int x1), .val (.int x2), .val (.int (0 : Int32)), .val (.ref b101), .val (.ref b109)] [(.int (0 : Int32)), (.int (own_hn_fn (0 : Int32) (0 : Int32)))]))) (fun _ k => XS.iloadN X136.here hx rfl (hb hby at_57) rfl k) ?_
    refine Goes.step (B := (T136.setTop (mkF m 59 #[.val (.int x0), .val (.int x1), .val (.int x2), .val (.int (0 : Int32)), .val (.ref b101), .val (.ref b109)] [(.int (1 : Int32)), (.int (0 : Int32)), (.int (own_hn_fn (0 : Int32) (0 : Int32)))]))) (fun _ k => XS.iconst X136.here hx rfl (hb hby at_58) k) ?_
    have hc137 : (0 : Int32) < (1 : Int32) := by decide
    refine Goes.step (B := (T136.setTop (mkF m 66 #[.val (.int x0), .val (.int x1), .val (.int x2), .val (.int (0 : Int32)), .val (.ref b101), .val (.ref b109)] [(.int (own_hn_fn (0 : Int32) (0 : Int32)))]))) (fun _ k => XS.icmpYes X136.here hx rfl (pc0 := 59) (pc' := 66) rfl (hb hby at_59) rfl (tlt hc137).1 (by decide) (by decide) k) ?_
    refine Goes.step (B := (T136.setTop (mkF m 67 #[.val (.int x0), .val (.int x1), .val (.int x2), .val (.int (0 : Int32)), .val (.ref b101), .val (.ref b109)] [(.int (0 : Int32)), (.int (own_hn_fn (0 : Int32) (0 : Int32)))]))) (fun _ k => XS.iconst X136.here hx rfl (hb hby at_66) k) ?_
    have hc138 : (own_hn_fn (0 : Int32) (0 : Int32)) = (0 : Int32) := own_h10 x0 x1
    refine Goes.step (B := (T136.setTop (mkF m 72 #[.val (.int x0), .val (.int x1), .val (.int x2), .val (.int (0 : Int32)), .val (.ref b101), .val (.ref b109)] []))) (fun _ k => XS.icmpYes X136.here hx rfl (pc0 := 67) (pc' := 72) rfl (hb hby at_67) rfl (teq hc138).1 (by decide) (by decide) k) ?_
    refine Goes.step (B := (T136.setTop (mkF m 73 #[.val (.int x0), .val (.int x1), .val (.int x2), .val (.int (0 : Int32)), .val (.ref b101), .val (.ref b109)] [(.int (0 : Int32))]))) (fun _ k => XS.iloadN X136.here hx rfl (hb hby at_72) rfl k) ?_
    have hc139 : (0 : Int32) = (0 : Int32) := by decide
    refine Goes.step (B := (T136.setTop (mkF m 76 #[.val (.int x0), .val (.int x1), .val (.int x2), .val (.int (0 : Int32)), .val (.ref b101), .val (.ref b109)] []))) (fun _ k => XS.ifNo X136.here hx rfl (hb hby at_73) rfl ((if0 _ _).trans (teq hc139).2) k) ?_
    refine Goes.step (B := (T136.setTop (mkF m 77 #[.val (.int x0), .val (.int x1), .val (.int x2), .val (.int (0 : Int32)), .val (.ref b101), .val (.ref b109)] [(.int (1 : Int32))]))) (fun _ k => XS.iconst X136.here hx rfl (hb hby at_76) k) ?_
    refine Goes.retN X136 hx hlk (t := .boolean) hrt (by simp) (hb hby at_77) ?_ (by decide) (by decide)
    rw [e136]
    exact ⟨rfl, N136⟩
  · rw [hl]
    obtain ⟨T140, h140, X140, e140, E140, A140, D140, -, st140⟩ := newO X0 hx hZ hown (hw _ (List.mem_of_getElem? (i := 1) rfl)) (hw _ (List.mem_of_getElem? (i := 2) rfl)) (hw _ (List.mem_of_getElem? (i := 3) rfl)) e0 (g := (mkF m 7 #[.val (.int x0), .val (.int x1), .val (.int x2), .val (.int (1 : Int32)), .unset, .unset] [])) rfl (hb hby at_7) (by decide) (by decide)
    obtain ⟨b140, g140⟩ : ∃ z, z = h0.size := ⟨_, rfl⟩
    rw [← g140] at A140 D140 st140
    have gn140 : n0 ≤ b140 := Nat.le_trans Z0 (Nat.le_of_eq g140.symm)
    have sz140 : h0.size ≤ b140 := Nat.le_trans (Keep.refl h0 []).1 (Nat.le_of_eq g140.symm)
    have f141 : Fld Z h140 b140 "com/example/kartoteka/kartoteka/index/Varints$Writer" "bytes" "[B" .null := D140 (Or.inl (hw _ (List.mem_of_getElem? (i := 15) rfl))) (ty := (.array .byte)) (by decide)
    have f142 : Fld Z h140 b140 "com/example/kartoteka/kartoteka/index/Varints$Writer" "length" "I" (.int (0 : Int32)) := D140 (Or.inl (hw _ (List.mem_of_getElem? (i := 22) rfl))) (ty := .int) (by decide)
    have Z140 : n0 ≤ h140.size := Nat.le_trans Z0 E140.1
    have K140 : Keep h0 h140 [] := (Keep.refl h0 []).ext E140
    refine Goes.step (B := (T140.setTop (mkF m 10 #[.val (.int x0), .val (.int x1), .val (.int x2), .val (.int (1 : Int32)), .unset, .unset] [(.ref b140)]))) (fun _ k => st140 _ k) ?_
    refine Goes.step (B := (T140.setTop (mkF m 11 #[.val (.int x0), .val (.int x1), .val (.int x2), .val (.int (1 : Int32)), .unset, .unset] [(.ref b140), (.ref b140)]))) (fun _ k => XS.dup X140.here hx rfl (hb hby at_10) rfl rfl k) ?_
    obtain ⟨_, _, ⟨T143, L143, k143, n143⟩, -, X143, ⟨Lc143, hQ143, l143, y143, z143⟩, st143⟩ := X140.specialBack hx (y := (⟨"com/example/kartoteka/kartoteka/index/Varints$Writer", "<init>", "()V"⟩ : MethodName)) rfl hown (mvT hZ (hw _ (List.mem_of_getElem? (i := 4) rfl))) (mvT hZ (hw _ (List.mem_of_getElem? (i := 5) rfl))) (mvT hZ (hw _ (List.mem_of_getElem? (i := 6) rfl))) (by decide) (backOf (W := 1) (own_wi0_rm l Z a0 hw [] b140  h140 n0 Z140 A140 f141 f142 gn140) hZ (hw _ (List.mem_of_getElem? (i := 6) rfl)) (hw _ (List.mem_of_getElem? (i := 3) rfl)) (by decide) (by decide)) (g := (mkF m 11 #[.val (.int x0), .val (.int x1), .val (.int x2), .val (.int (1 : Int32)), .unset, .unset] [(.ref b140), (.ref b140)])) rfl (by rw [hml]; rfl) (Steps.refl _) (a := b140) (argsL := []) (rest := [(.ref b140)]) (lenOf pd___V rfl) rfl (by show 2 * 0 + _ ≤ _; exact Nat.le_of_eq rfl) (hb hby at_11) (fun _ _ => ⟨rfl, e140, (by decide : 1 + 1 ≤ _), (by decide : 2 + 16 ≤ _)⟩)
    dsimp only [Pt.U, Pt.locs, Pt.cells, Pt.slots] at X143 l143 y143 z143 st143 hQ143
    subst l143 y143 z143
    obtain ⟨b_143, k1_143, rfl, N143q, K143q, gn143_b, sz143_b, p143_0, p143_1, p143_2, p143_3, p143_4⟩ := hQ143
    have N143 := Fr.app N0 N143q
    have ne144 : b140 ≠ b_143 := Nat.ne_of_lt (Nat.lt_of_lt_of_le A140.lt sz143_b)
    have f145 := A140.keep K143q
    have K143 : Keep h0 T143.heap [] := Keep.trans K140 K143q (fun y q => by cases List.mem_singleton.mp q; exact (Or.inr sz140))
    have Z143 : n0 ≤ T143.heap.size := Nat.le_trans Z140 K143q.1
    have szz143_b : h0.size ≤ b_143 := Nat.le_trans K140.1 sz143_b
    refine Goes.to (B := (T143.setTop (mkF m 14 #[.val (.int x0), .val (.int x1), .val (.int x2), .val (.int (1 : Int32)), .unset, .unset] [(.ref b140)]))) st143 ?_
    refine Goes.step (B := (T143.setTop (mkF m 16 #[.val (.int x0), .val (.int x1), .val (.int x2), .val (.int (1 : Int32)), .val (.ref b140), .unset] []))) (fun _ k => XS.astore X143.here hx rfl (hb hby at_14) rfl rfl (l' := #[.val (.int x0), .val (.int x1), .val (.int x2), .val (.int (1 : Int32)), .val (.ref b140), .unset]) rfl k) ?_
    refine Goes.step (B := (T143.setTop (mkF m 17 #[.val (.int x0), .val (.int x1), .val (.int x2), .val (.int (1 : Int32)), .val (.ref b140), .unset] [(.int (1 : Int32))]))) (fun _ k => XS.iloadN X143.here hx rfl (hb hby at_16) rfl k) ?_
    refine Goes.step (B := (T143.setTop (mkF m 18 #[.val (.int x0), .val (.int x1), .val (.int x2), .val (.int (1 : Int32)), .val (.ref b140), .unset] [(.int (1 : Int32)), (.int (1 : Int32))]))) (fun _ k => XS.iconst X143.here hx rfl (hb hby at_17) k) ?_
    have hc146 : ¬ ((1 : Int32) < (1 : Int32)) := by decide
    refine Goes.step (B := (T143.setTop (mkF m 21 #[.val (.int x0), .val (.int x1), .val (.int x2), .val (.int (1 : Int32)), .val (.ref b140), .unset] []))) (fun _ k => XS.icmpNo X143.here hx rfl (hb hby at_18) rfl (flt hc146).1 k) ?_
    refine Goes.step (B := (T143.setTop (mkF m 23 #[.val (.int x0), .val (.int x1), .val (.int x2), .val (.int (1 : Int32)), .val (.ref b140), .unset] [(.ref b140)]))) (fun _ k => XS.aload X143.here hx rfl (hb hby at_21) rfl rfl k) ?_
    refine Goes.step (B := (T143.setTop (mkF m 24 #[.val (.int x0), .val (.int x1), .val (.int x2), .val (.int (1 : Int32)), .val (.ref b140), .unset] [(.int x0), (.ref b140)]))) (fun _ k => XS.iloadN X143.here hx rfl (hb hby at_23) rfl k) ?_
    obtain ⟨cq147, kq147, q147a, q147b, q147c⟩ := isOf hZ rfl p143_0
    obtain ⟨_, _, ⟨T147, L147, k147, n147⟩, -, X147, ⟨Lc147, hQ147, l147, y147, z147⟩, st147⟩ := X143.virtualBack hx (y := (⟨"com/example/kartoteka/kartoteka/index/Varints$Writer", "write", "(I)V"⟩ : MethodName)) (z := (⟨"com/example/kartoteka/kartoteka/index/Varints$Writer", "write", "(I)V"⟩ : MethodName)) hown (mvT hZ (hw _ (List.mem_of_getElem? (i := 16) rfl))) (mvT hZ (hw _ (List.mem_of_getElem? (i := 17) rfl))) (notFace_of_selects (args := #[]) (mvT hZ (hw _ (List.mem_of_getElem? (i := 19) rfl)))) (mvT hZ (hw _ (List.mem_of_getElem? (i := 19) rfl))) (mvT hZ (hw _ (List.mem_of_getElem? (i := 18) rfl))) (by decide) (backOf (W := 0) (own_wr_rm l Z a0 hw [] b140 x0 b_143 k1_143 (0 : Int32) own_zero T143.heap n0 Z143 p143_0 p143_1 p143_2 p143_3 gn140 gn143_b p143_4 (by decide) (by decide) (by decide)) hZ (hw _ (List.mem_of_getElem? (i := 20) rfl)) (hw _ (List.mem_of_getElem? (i := 3) rfl)) (by decide) (by decide)) q147a q147c (g := (mkF m 24 #[.val (.int x0), .val (.int x1), .val (.int x2), .val (.int (1 : Int32)), .val (.ref b140), .unset] [(.int x0), (.ref b140)])) rfl (by rw [hml]; rfl) (Steps.refl _) (argsL := [(.int x0)]) (rest := []) (lenOf pd__I_V rfl) rfl (by show 2 * 0 + _ ≤ _; exact Nat.le_of_eq rfl) (hb hby at_24) (fun _ _ => ⟨rfl, rfl, (by decide : 2 + 0 ≤ _), (by decide : 18 + 0 ≤ _)⟩)
    dsimp only [Pt.U, Pt.locs, Pt.cells, Pt.slots] at X147 l147 y147 z147 st147 hQ147
    subst l147 y147 z147
    obtain ⟨rfl, N147q, K147q, p147_0, p147_1, p147_2, p147_3⟩ := hQ147
    have N147 := Fr.app N143 N147q
    have f148 := p143_0.keep K147q
    have K147 : Keep h0 T147.heap [] := Keep.trans K143 K147q (fun y q => by simp only [List.mem_cons, List.not_mem_nil, or_false] at q; rcases q with rfl | rfl <;> first | exact (Or.inr sz140) | exact (Or.inr szz143_b))
    have Z147 : n0 ≤ T147.heap.size := Nat.le_trans Z143 K147q.1
    refine Goes.to (B := (T147.setTop (mkF m 27 #[.val (.int x0), .val (.int x1), .val (.int x2), .val (.int (1 : Int32)), .val (.ref b140), .unset] []))) st147 ?_
    refine Goes.step (B := (T147.setTop (mkF m 28 #[.val (.int x0), .val (.int x1), .val (.int x2), .val (.int (1 : Int32)), .val (.ref b140), .unset] [(.int (1 : Int32))]))) (fun _ k => XS.iloadN X147.here hx rfl (hb hby at_27) rfl k) ?_
    refine Goes.step (B := (T147.setTop (mkF m 29 #[.val (.int x0), .val (.int x1), .val (.int x2), .val (.int (1 : Int32)), .val (.ref b140), .unset] [(.int (2 : Int32)), (.int (1 : Int32))]))) (fun _ k => XS.iconst X147.here hx rfl (hb hby at_28) k) ?_
    have hc149 : (1 : Int32) < (2 : Int32) := by decide
    refine Goes.step (B := (T147.setTop (mkF m 38 #[.val (.int x0), .val (.int x1), .val (.int x2), .val (.int (1 : Int32)), .val (.ref b140), .unset] []))) (fun _ k => XS.icmpYes X147.here hx rfl (pc0 := 29) (pc' := 38) rfl (hb hby at_29) rfl (tlt hc149).1 (by decide) (by decide) k) ?_
    obtain ⟨T150, h150, X150, e150, E150, A150, D150, -, st150⟩ := newO X147 hx hZ hown (hw _ (List.mem_of_getElem? (i := 23) rfl)) (hw _ (List.mem_of_getElem? (i := 24) rfl)) (hw _ (List.mem_of_getElem? (i := 25) rfl)) rfl (g := (mkF m 38 #[.val (.int x0), .val (.int x1), .val (.int x2), .val (.int (1 : Int32)), .val (.ref b140), .unset] [])) rfl (hb hby at_38) (by decide) (by decide)
    obtain ⟨b150, g150⟩ : ∃ z, z = T147.heap.size := ⟨_, rfl⟩
    rw [← g150] at A150 D150 st150
    have gn150 : n0 ≤ b150 := Nat.le_trans Z147 (Nat.le_of_eq g150.symm)
    have sz150 : h0.size ≤ b150 := Nat.le_trans K147.1 (Nat.le_of_eq g150.symm)
    have ne151 : b140 ≠ b150 := Nat.ne_of_lt (Nat.lt_of_lt_of_le p147_0.lt (Nat.le_of_eq g150.symm))
    have ne152 : b_143 ≠ b150 := Nat.ne_of_lt (Nat.lt_of_lt_of_le p147_3.lt (Nat.le_of_eq g150.symm))
    have f153 := p147_0.ext E150
    have f154 := p147_1.ext E150
    have f155 := p147_2.ext E150
    have f156 := p147_3.ext E150
    have f157 : Fld Z h150 b150 "com/example/kartoteka/kartoteka/index/Varints$Reader" "bytes" "[B" .null := D150 (Or.inr (hw _ (List.mem_of_getElem? (i := 48) rfl))) (ty := (.array .byte)) (by decide)
    have f158 : Fld Z h150 b150 "com/example/kartoteka/kartoteka/index/Varints$Reader" "at" "I" (.int (0 : Int32)) := D150 (Or.inl (hw _ (List.mem_of_getElem? (i := 55) rfl))) (ty := .int) (by decide)
    have Z150 : n0 ≤ h150.size := Nat.le_trans Z147 E150.1
    have K150 : Keep h0 h150 [] := K147.ext E150
    refine Goes.step (B := (T150.setTop (mkF m 41 #[.val (.int x0), .val (.int x1), .val (.int x2), .val (.int (1 : Int32)), .val (.ref b140), .unset] [(.ref b150)]))) (fun _ k => st150 _ k) ?_
    refine Goes.step (B := (T150.setTop (mkF m 42 #[.val (.int x0), .val (.int x1), .val (.int x2), .val (.int (1 : Int32)), .val (.ref b140), .unset] [(.ref b150), (.ref b150)]))) (fun _ k => XS.dup X150.here hx rfl (hb hby at_41) rfl rfl k) ?_
    refine Goes.step (B := (T150.setTop (mkF m 44 #[.val (.int x0), .val (.int x1), .val (.int x2), .val (.int (1 : Int32)), .val (.ref b140), .unset] [(.ref b140), (.ref b150), (.ref b150)]))) (fun _ k => XS.aload X150.here hx rfl (hb hby at_42) rfl rfl k) ?_
    obtain ⟨cq159, kq159, q159a, q159b, q159c⟩ := isOf hZ e150 f153
    obtain ⟨_, _, ⟨T159, L159, k159, n159⟩, -, X159, ⟨Lc159, hQ159, l159, y159, z159⟩, st159⟩ := X150.virtualBack hx (y := (⟨"com/example/kartoteka/kartoteka/index/Varints$Writer", "toByteArray", "()[B"⟩ : MethodName)) (z := (⟨"com/example/kartoteka/kartoteka/index/Varints$Writer", "toByteArray", "()[B"⟩ : MethodName)) hown (mvT hZ (hw _ (List.mem_of_getElem? (i := 26) rfl))) (mvT hZ (hw _ (List.mem_of_getElem? (i := 27) rfl))) (notFace_of_selects (args := #[]) (mvT hZ (hw _ (List.mem_of_getElem? (i := 29) rfl)))) (mvT hZ (hw _ (List.mem_of_getElem? (i := 29) rfl))) (mvT hZ (hw _ (List.mem_of_getElem? (i := 28) rfl))) (by decide) (backOf (W := 2) (own_tb_rm l Z a0 hw [] b140 b_143 k1_143 (own_n 4 (0 : Int32) x0) (own_w 4 own_zero (0 : Int32) x0) h150 n0 Z150 f154 f155 f156 (own_tz1 x0 x1) (own_tl1 x0 x1)) hZ (hw _ (List.mem_of_getElem? (i := 30) rfl)) (hw _ (List.mem_of_getElem? (i := 3) rfl)) (by decide) (by decide)) q159a q159c (g := (mkF m 44 #[.val (.int x0), .val (.int x1), .val (.int x2), .val (.int (1 : Int32)), .val (.ref b140), .unset] [(.ref b140), (.ref b150), (.ref b150)])) rfl (by rw [hml]; rfl) (Steps.refl _) (argsL := []) (rest := [(.ref b150), (.ref b150)]) (lenOf pd___AB rfl) rfl (by show 2 * 0 + _ ≤ _; exact Nat.le_of_eq rfl) (hb hby at_44) (fun _ _ => ⟨rfl, e150, (by decide : 3 + 1 ≤ _), (by decide : 20 + 16 ≤ _)⟩)
    dsimp only [Pt.U, Pt.locs, Pt.cells, Pt.slots] at X159 l159 y159 z159 st159 hQ159
    subst l159 y159 z159
    obtain ⟨b_159, k2_159, rfl, N159q, K159q, gn159_b, sz159_b, p159_0⟩ := hQ159
    have N159 := Fr.app N147 N159q
    have ne160 : b140 ≠ b_159 := Nat.ne_of_lt (Nat.lt_of_lt_of_le f153.lt sz159_b)
    have ne161 : b_143 ≠ b_159 := Nat.ne_of_lt (Nat.lt_of_lt_of_le f156.lt sz159_b)
    have ne162 : b150 ≠ b_159 := Nat.ne_of_lt (Nat.lt_of_lt_of_le A150.lt sz159_b)
    have f163 := f153.keep K159q
    have f164 := f154.keep K159q nm0
    have f165 := f155.keep K159q nm0
    have f166 := f156.keep K159q nm0
    have f167 := A150.keep K159q
    have f168 := f157.keep K159q nm0
    have f169 := f158.keep K159q nm0
    have K159 : Keep h0 T159.heap [] := Keep.trans K150 K159q (fun _ q => nomatch q)
    have Z159 : n0 ≤ T159.heap.size := Nat.le_trans Z150 K159q.1
    have szz159_b : h0.size ≤ b_159 := Nat.le_trans K150.1 sz159_b
    refine Goes.to (B := (T159.setTop (mkF m 47 #[.val (.int x0), .val (.int x1), .val (.int x2), .val (.int (1 : Int32)), .val (.ref b140), .unset] [(.ref b_159), (.ref b150), (.ref b150)]))) st159 ?_
    obtain ⟨_, _, ⟨T170, L170, k170, n170⟩, -, X170, ⟨Lc170, hQ170, l170, y170, z170⟩, st170⟩ := X159.specialBack hx (y := (⟨"com/example/kartoteka/kartoteka/index/Varints$Reader", "<init>", "([B)V"⟩ : MethodName)) rfl hown (mvT hZ (hw _ (List.mem_of_getElem? (i := 43) rfl))) (mvT hZ (hw _ (List.mem_of_getElem? (i := 44) rfl))) (mvT hZ (hw _ (List.mem_of_getElem? (i := 45) rfl))) (by decide) (backOf (W := 1) (own_in0_rm l Z a0 hw [] b150 b_159  T159.heap n0 Z159 f167 f168 f169 gn150) hZ (hw _ (List.mem_of_getElem? (i := 45) rfl)) (hw _ (List.mem_of_getElem? (i := 25) rfl)) (by decide) (by decide)) (g := (mkF m 47 #[.val (.int x0), .val (.int x1), .val (.int x2), .val (.int (1 : Int32)), .val (.ref b140), .unset] [(.ref b_159), (.ref b150), (.ref b150)])) rfl (by rw [hml]; rfl) (Steps.refl _) (a := b150) (argsL := [(.ref b_159)]) (rest := [(.ref b150)]) (lenOf pd__AB_V rfl) rfl (by show 2 * 0 + _ ≤ _; exact Nat.le_of_eq rfl) (hb hby at_47) (fun _ _ => ⟨rfl, rfl, (by decide : 4 + 0 ≤ _), (by decide : 36 + 0 ≤ _)⟩)
    dsimp only [Pt.U, Pt.locs, Pt.cells, Pt.slots] at X170 l170 y170 z170 st170 hQ170
    subst l170 y170 z170
    obtain ⟨rfl, N170q, K170q, p170_0, p170_1, p170_2⟩ := hQ170
    have N170 := Fr.app N159 N170q
    have f171 := f163.keep K170q
    have f172 := f164.keep K170q (nm1 ne151)
    have f173 := f165.keep K170q (nm1 ne151)
    have f174 := f166.keep K170q (nm1 ne152)
    have f175 := f167.keep K170q
    have f176 := p159_0.keep K170q (nm1 (Ne.symm ne162))
    have K170 : Keep h0 T170.heap [] := Keep.trans K159 K170q (fun y q => by cases List.mem_singleton.mp q; exact (Or.inr sz150))
    have Z170 : n0 ≤ T170.heap.size := Nat.le_trans Z159 K170q.1
    refine Goes.to (B := (T170.setTop (mkF m 50 #[.val (.int x0), .val (.int x1), .val (.int x2), .val (.int (1 : Int32)), .val (.ref b140), .unset] [(.ref b150)]))) st170 ?_
    refine Goes.step (B := (T170.setTop (mkF m 52 #[.val (.int x0), .val (.int x1), .val (.int x2), .val (.int (1 : Int32)), .val (.ref b140), .val (.ref b150)] []))) (fun _ k => XS.astore X170.here hx rfl (hb hby at_50) rfl rfl (l' := #[.val (.int x0), .val (.int x1), .val (.int x2), .val (.int (1 : Int32)), .val (.ref b140), .val (.ref b150)]) rfl k) ?_
    refine Goes.step (B := (T170.setTop (mkF m 54 #[.val (.int x0), .val (.int x1), .val (.int x2), .val (.int (1 : Int32)), .val (.ref b140), .val (.ref b150)] [(.ref b150)]))) (fun _ k => XS.aload X170.here hx rfl (hb hby at_52) rfl rfl k) ?_
    obtain ⟨cq177, kq177, q177a, q177b, q177c⟩ := isOf hZ rfl p170_0
    obtain ⟨_, _, ⟨T177, L177, k177, n177⟩, -, X177, ⟨Lc177, hQ177, l177, y177, z177⟩, st177⟩ := X170.virtualBack hx (y := (⟨"com/example/kartoteka/kartoteka/index/Varints$Reader", "hasNext", "()Z"⟩ : MethodName)) (z := (⟨"com/example/kartoteka/kartoteka/index/Varints$Reader", "hasNext", "()Z"⟩ : MethodName)) hown (mvT hZ (hw _ (List.mem_of_getElem? (i := 49) rfl))) (mvT hZ (hw _ (List.mem_of_getElem? (i := 50) rfl))) (notFace_of_selects (args := #[]) (mvT hZ (hw _ (List.mem_of_getElem? (i := 52) rfl)))) (mvT hZ (hw _ (List.mem_of_getElem? (i := 52) rfl))) (mvT hZ (hw _ (List.mem_of_getElem? (i := 51) rfl))) (by decide) (backOf (W := 0) (own_hn_rm l Z a0 hw [] b150 b_159 k2_159 (0 : Int32) (own_n 4 (0 : Int32) x0) (own_l (own_n 4 (0 : Int32) x0).toNatClampNeg (own_w 4 own_zero (0 : Int32) x0)) (.int (0 : Int32)) T170.heap n0 Z170 p170_1 p170_2 f176) hZ (hw _ (List.mem_of_getElem? (i := 53) rfl)) (hw _ (List.mem_of_getElem? (i := 25) rfl)) (by decide) (by decide)) q177a q177c (g := (mkF m 54 #[.val (.int x0), .val (.int x1), .val (.int x2), .val (.int (1 : Int32)), .val (.ref b140), .val (.ref b150)] [(.ref b150)])) rfl (by rw [hml]; rfl) (Steps.refl _) (argsL := []) (rest := []) (lenOf pd___Z rfl) rfl (by show 2 * 0 + _ ≤ _; exact Nat.le_of_eq rfl) (hb hby at_54) (fun _ _ => ⟨rfl, rfl, (by decide : 4 + 0 ≤ _), (by decide : 36 + 0 ≤ _)⟩)
    dsimp only [Pt.U, Pt.locs, Pt.cells, Pt.slots] at X177 l177 y177 z177 st177 hQ177
    subst l177 y177 z177
    obtain ⟨rfl, N177q, e177⟩ := hQ177
    have N177 := Fr.app N170 N177q
    refine Goes.to (B := (T177.setTop (mkF m 57 #[.val (.int x0), .val (.int x1), .val (.int x2), .val (.int (1 : Int32)), .val (.ref b140), .val (.ref b150)] [(.int (own_hn_fn (0 : Int32) (own_n 4 (0 : Int32) x0)))]))) st177 ?_
    refine Goes.step (B := (T177.setTop (mkF m 58 #[.val (.int x0), .val (.int x1), .val (.int x2), .val (.int (1 : Int32)), .val (.ref b140), .val (.ref b150)] [(.int (1 : Int32)), (.int (own_hn_fn (0 : Int32) (own_n 4 (0 : Int32) x0)))]))) (fun _ k => XS.iloadN X177.here hx rfl (hb hby at_57) rfl k) ?_
    refine Goes.step (B := (T177.setTop (mkF m 59 #[.val (.int x0), .val (.int x1), .val (.int x2), .val (.int (1 : Int32)), .val (.ref b140), .val (.ref b150)] [(.int (1 : Int32)), (.int (1 : Int32)), (.int (own_hn_fn (0 : Int32) (own_n 4 (0 : Int32) x0)))]))) (fun _ k => XS.iconst X177.here hx rfl (hb hby at_58) k) ?_
    have hc178 : ¬ ((1 : Int32) < (1 : Int32)) := by decide
    refine Goes.step (B := (T177.setTop (mkF m 62 #[.val (.int x0), .val (.int x1), .val (.int x2), .val (.int (1 : Int32)), .val (.ref b140), .val (.ref b150)] [(.int (own_hn_fn (0 : Int32) (own_n 4 (0 : Int32) x0)))]))) (fun _ k => XS.icmpNo X177.here hx rfl (hb hby at_59) rfl (flt hc178).1 k) ?_
    refine Goes.step (B := (T177.setTop (mkF m 63 #[.val (.int x0), .val (.int x1), .val (.int x2), .val (.int (1 : Int32)), .val (.ref b140), .val (.ref b150)] [(.int (1 : Int32)), (.int (own_hn_fn (0 : Int32) (own_n 4 (0 : Int32) x0)))]))) (fun _ k => XS.iconst X177.here hx rfl (hb hby at_62) k) ?_
    refine Goes.step (B := (T177.setTop (mkF m 67 #[.val (.int x0), .val (.int x1), .val (.int x2), .val (.int (1 : Int32)), .val (.ref b140), .val (.ref b150)] [(.int (1 : Int32)), (.int (own_hn_fn (0 : Int32) (own_n 4 (0 : Int32) x0)))]))) (fun _ k => XS.goto X177.here hx rfl (pc0 := 63) (pc' := 67) rfl (hb hby at_63) (by decide) (by decide) k) ?_
    have hc179 : (own_hn_fn (0 : Int32) (own_n 4 (0 : Int32) x0)) = (1 : Int32) := own_h11 x0 x1
    refine Goes.step (B := (T177.setTop (mkF m 72 #[.val (.int x0), .val (.int x1), .val (.int x2), .val (.int (1 : Int32)), .val (.ref b140), .val (.ref b150)] []))) (fun _ k => XS.icmpYes X177.here hx rfl (pc0 := 67) (pc' := 72) rfl (hb hby at_67) rfl (teq hc179).1 (by decide) (by decide) k) ?_
    refine Goes.step (B := (T177.setTop (mkF m 73 #[.val (.int x0), .val (.int x1), .val (.int x2), .val (.int (1 : Int32)), .val (.ref b140), .val (.ref b150)] [(.int (1 : Int32))]))) (fun _ k => XS.iloadN X177.here hx rfl (hb hby at_72) rfl k) ?_
    have hc180 : ¬ ((1 : Int32) = (0 : Int32)) := by decide
    refine Goes.step (B := (T177.setTop (mkF m 78 #[.val (.int x0), .val (.int x1), .val (.int x2), .val (.int (1 : Int32)), .val (.ref b140), .val (.ref b150)] []))) (fun _ k => XS.ifYes X177.here hx rfl (pc0 := 73) (pc' := 78) rfl (hb hby at_73) rfl ((if0 _ _).trans (feq hc180).2) (by decide) (by decide) k) ?_
    refine Goes.step (B := (T177.setTop (mkF m 80 #[.val (.int x0), .val (.int x1), .val (.int x2), .val (.int (1 : Int32)), .val (.ref b140), .val (.ref b150)] [(.ref b150)]))) (fun _ k => XS.aload X177.here hx rfl (hb hby at_78) rfl rfl k) ?_
    obtain ⟨cq181, kq181, q181a, q181b, q181c⟩ := isOf hZ e177 p170_0
    obtain ⟨_, _, ⟨T181, L181, k181, n181⟩, -, X181, ⟨Lc181, hQ181, l181, y181, z181⟩, st181⟩ := X177.virtualBack hx (y := (⟨"com/example/kartoteka/kartoteka/index/Varints$Reader", "next", "()I"⟩ : MethodName)) (z := (⟨"com/example/kartoteka/kartoteka/index/Varints$Reader", "next", "()I"⟩ : MethodName)) hown (mvT hZ (hw _ (List.mem_of_getElem? (i := 56) rfl))) (mvT hZ (hw _ (List.mem_of_getElem? (i := 57) rfl))) (notFace_of_selects (args := #[]) (mvT hZ (hw _ (List.mem_of_getElem? (i := 59) rfl)))) (mvT hZ (hw _ (List.mem_of_getElem? (i := 59) rfl))) (mvT hZ (hw _ (List.mem_of_getElem? (i := 58) rfl))) (by decide) (backOf (W := 0) (own_nx_rm l Z a0 hw [] b150 b_159 k2_159 (0 : Int32) (own_n 4 (0 : Int32) x0) (own_w 4 own_zero (0 : Int32) x0) x0 T170.heap n0 Z170 p170_0 p170_1 p170_2 f176 gn150 (Ne.symm ne162) (by decide) (by decide) (own_E11 x0 x1) (own_B11 x0 x1)) hZ (hw _ (List.mem_of_getElem? (i := 60) rfl)) (hw _ (List.mem_of_getElem? (i := 25) rfl)) (by decide) (by decide)) q181a q181c (g := (mkF m 80 #[.val (.int x0), .val (.int x1), .val (.int x2), .val (.int (1 : Int32)), .val (.ref b140), .val (.ref b150)] [(.ref b150)])) rfl (by rw [hml]; rfl) (Steps.refl _) (argsL := []) (rest := []) (lenOf pd___I rfl) rfl (by show 2 * 0 + _ ≤ _; exact Nat.le_of_eq rfl) (hb hby at_80) (fun _ _ => ⟨rfl, e177, (by decide : 4 + 0 ≤ _), (by decide : 36 + 0 ≤ _)⟩)
    dsimp only [Pt.U, Pt.locs, Pt.cells, Pt.slots] at X181 l181 y181 z181 st181 hQ181
    subst l181 y181 z181
    obtain ⟨rfl, N181q, K181q, p181_0, p181_1, p181_2⟩ := hQ181
    have N181 := Fr.app N177 N181q
    have f182 := f171.keep K181q
    have f183 := f172.keep K181q (nm1 ne151)
    have f184 := f173.keep K181q (nm1 ne151)
    have f185 := f174.keep K181q (nm1 ne152)
    have f186 := p170_0.keep K181q
    have f187 := f176.keep K181q (nm1 (Ne.symm ne162))
    have K181 : Keep h0 T181.heap [] := Keep.trans K170 K181q (fun y q => by cases List.mem_singleton.mp q; exact (Or.inr sz150))
    have Z181 : n0 ≤ T181.heap.size := Nat.le_trans Z170 K181q.1
    refine Goes.to (B := (T181.setTop (mkF m 83 #[.val (.int x0), .val (.int x1), .val (.int x2), .val (.int (1 : Int32)), .val (.ref b140), .val (.ref b150)] [(.int x0)]))) st181 ?_
    refine Goes.step (B := (T181.setTop (mkF m 84 #[.val (.int x0), .val (.int x1), .val (.int x2), .val (.int (1 : Int32)), .val (.ref b140), .val (.ref b150)] [(.int x0), (.int x0)]))) (fun _ k => XS.iloadN X181.here hx rfl (hb hby at_83) rfl k) ?_
    have hc188 : x0 = x0 := rfl
    refine Goes.step (B := (T181.setTop (mkF m 89 #[.val (.int x0), .val (.int x1), .val (.int x2), .val (.int (1 : Int32)), .val (.ref b140), .val (.ref b150)] []))) (fun _ k => XS.icmpYes X181.here hx rfl (pc0 := 84) (pc' := 89) rfl (hb hby at_84) rfl (teq hc188).1 (by decide) (by decide) k) ?_
    refine Goes.step (B := (T181.setTop (mkF m 91 #[.val (.int x0), .val (.int x1), .val (.int x2), .val (.int (1 : Int32)), .val (.ref b140), .val (.ref b150)] [(.ref b150)]))) (fun _ k => XS.aload X181.here hx rfl (hb hby at_89) rfl rfl k) ?_
    obtain ⟨cq189, kq189, q189a, q189b, q189c⟩ := isOf hZ rfl p181_0
    obtain ⟨_, _, ⟨T189, L189, k189, n189⟩, -, X189, ⟨Lc189, hQ189, l189, y189, z189⟩, st189⟩ := X181.virtualBack hx (y := (⟨"com/example/kartoteka/kartoteka/index/Varints$Reader", "hasNext", "()Z"⟩ : MethodName)) (z := (⟨"com/example/kartoteka/kartoteka/index/Varints$Reader", "hasNext", "()Z"⟩ : MethodName)) hown (mvT hZ (hw _ (List.mem_of_getElem? (i := 49) rfl))) (mvT hZ (hw _ (List.mem_of_getElem? (i := 50) rfl))) (notFace_of_selects (args := #[]) (mvT hZ (hw _ (List.mem_of_getElem? (i := 52) rfl)))) (mvT hZ (hw _ (List.mem_of_getElem? (i := 52) rfl))) (mvT hZ (hw _ (List.mem_of_getElem? (i := 51) rfl))) (by decide) (backOf (W := 0) (own_hn_rm l Z a0 hw [] b150 b_159 k2_159 (own_n 4 (0 : Int32) x0) (own_n 4 (0 : Int32) x0) (own_l (own_n 4 (0 : Int32) x0).toNatClampNeg (own_w 4 own_zero (0 : Int32) x0)) (.int (0 : Int32)) T181.heap n0 Z181 p181_1 p181_2 f187) hZ (hw _ (List.mem_of_getElem? (i := 53) rfl)) (hw _ (List.mem_of_getElem? (i := 25) rfl)) (by decide) (by decide)) q189a q189c (g := (mkF m 91 #[.val (.int x0), .val (.int x1), .val (.int x2), .val (.int (1 : Int32)), .val (.ref b140), .val (.ref b150)] [(.ref b150)])) rfl (by rw [hml]; rfl) (Steps.refl _) (argsL := []) (rest := []) (lenOf pd___Z rfl) rfl (by show 2 * 0 + _ ≤ _; exact Nat.le_of_eq rfl) (hb hby at_91) (fun _ _ => ⟨rfl, rfl, (by decide : 4 + 0 ≤ _), (by decide : 36 + 0 ≤ _)⟩)
    dsimp only [Pt.U, Pt.locs, Pt.cells, Pt.slots] at X189 l189 y189 z189 st189 hQ189
    subst l189 y189 z189
    obtain ⟨rfl, N189q, e189⟩ := hQ189
    have N189 := Fr.app N181 N189q
    refine Goes.to (B := (T189.setTop (mkF m 94 #[.val (.int x0), .val (.int x1), .val (.int x2), .val (.int (1 : Int32)), .val (.ref b140), .val (.ref b150)] [(.int (own_hn_fn (own_n 4 (0 : Int32) x0) (own_n 4 (0 : Int32) x0)))]))) st189 ?_
    refine Goes.step (B := (T189.setTop (mkF m 95 #[.val (.int x0), .val (.int x1), .val (.int x2), .val (.int (1 : Int32)), .val (.ref b140), .val (.ref b150)] [(.int (1 : Int32)), (.int (own_hn_fn (own_n 4 (0 : Int32) x0) (own_n 4 (0 : Int32) x0)))]))) (fun _ k => XS.iloadN X189.here hx rfl (hb hby at_94) rfl k) ?_
    refine Goes.step (B := (T189.setTop (mkF m 96 #[.val (.int x0), .val (.int x1), .val (.int x2), .val (.int (1 : Int32)), .val (.ref b140), .val (.ref b150)] [(.int (2 : Int32)), (.int (1 : Int32)), (.int (own_hn_fn (own_n 4 (0 : Int32) x0) (own_n 4 (0 : Int32) x0)))]))) (fun _ k => XS.iconst X189.here hx rfl (hb hby at_95) k) ?_
    have hc190 : (1 : Int32) < (2 : Int32) := by decide
    refine Goes.step (B := (T189.setTop (mkF m 103 #[.val (.int x0), .val (.int x1), .val (.int x2), .val (.int (1 : Int32)), .val (.ref b140), .val (.ref b150)] [(.int (own_hn_fn (own_n 4 (0 : Int32) x0) (own_n 4 (0 : Int32) x0)))]))) (fun _ k => XS.icmpYes X189.here hx rfl (pc0 := 96) (pc' := 103) rfl (hb hby at_96) rfl (tlt hc190).1 (by decide) (by decide) k) ?_
    refine Goes.step (B := (T189.setTop (mkF m 104 #[.val (.int x0), .val (.int x1), .val (.int x2), .val (.int (1 : Int32)), .val (.ref b140), .val (.ref b150)] [(.int (0 : Int32)), (.int (own_hn_fn (own_n 4 (0 : Int32) x0) (own_n 4 (0 : Int32) x0)))]))) (fun _ k => XS.iconst X189.here hx rfl (hb hby at_103) k) ?_
    have hc191 : (own_hn_fn (own_n 4 (0 : Int32) x0) (own_n 4 (0 : Int32) x0)) = (0 : Int32) := own_h21 x0 x1
    refine Goes.step (B := (T189.setTop (mkF m 109 #[.val (.int x0), .val (.int x1), .val (.int x2), .val (.int (1 : Int32)), .val (.ref b140), .val (.ref b150)] []))) (fun _ k => XS.icmpYes X189.here hx rfl (pc0 := 104) (pc' := 109) rfl (hb hby at_104) rfl (teq hc191).1 (by decide) (by decide) k) ?_
    refine Goes.step (B := (T189.setTop (mkF m 110 #[.val (.int x0), .val (.int x1), .val (.int x2), .val (.int (1 : Int32)), .val (.ref b140), .val (.ref b150)] [(.int (1 : Int32))]))) (fun _ k => XS.iloadN X189.here hx rfl (hb hby at_109) rfl k) ?_
    refine Goes.step (B := (T189.setTop (mkF m 111 #[.val (.int x0), .val (.int x1), .val (.int x2), .val (.int (1 : Int32)), .val (.ref b140), .val (.ref b150)] [(.int (1 : Int32)), (.int (1 : Int32))]))) (fun _ k => XS.iconst X189.here hx rfl (hb hby at_110) k) ?_
    have hc192 : (1 : Int32) = (1 : Int32) := by decide
    refine Goes.step (B := (T189.setTop (mkF m 114 #[.val (.int x0), .val (.int x1), .val (.int x2), .val (.int (1 : Int32)), .val (.ref b140), .val (.ref b150)] []))) (fun _ k => XS.icmpNo X189.here hx rfl (hb hby at_111) rfl (teq hc192).2 k) ?_
    refine Goes.step (B := (T189.setTop (mkF m 115 #[.val (.int x0), .val (.int x1), .val (.int x2), .val (.int (1 : Int32)), .val (.ref b140), .val (.ref b150)] [(.int (1 : Int32))]))) (fun _ k => XS.iconst X189.here hx rfl (hb hby at_114) k) ?_
    refine Goes.retN X189 hx hlk (t := .boolean) hrt (by simp) (hb hby at_115) ?_ (by decide) (by decide)
    rw [e189]
    exact ⟨rfl, N189⟩
  · rw [hl]
    obtain ⟨T193, h193, X193, e193, E193, A193, D193, -, st193⟩ := newO X0 hx hZ hown (hw _ (List.mem_of_getElem? (i := 1) rfl)) (hw _ (List.mem_of_getElem? (i := 2) rfl)) (hw _ (List.mem_of_getElem? (i := 3) rfl)) e0 (g := (mkF m 7 #[.val (.int x0), .val (.int x1), .val (.int x2), .val (.int (2 : Int32)), .unset, .unset] [])) rfl (hb hby at_7) (by decide) (by decide)
    obtain ⟨b193, g193⟩ : ∃ z, z = h0.size := ⟨_, rfl⟩
    rw [← g193] at A193 D193 st193
    have gn193 : n0 ≤ b193 := Nat.le_trans Z0 (Nat.le_of_eq g193.symm)
    have sz193 : h0.size ≤ b193 := Nat.le_trans (Keep.refl h0 []).1 (Nat.le_of_eq g193.symm)
    have f194 : Fld Z h193 b193 "com/example/kartoteka/kartoteka/index/Varints$Writer" "bytes" "[B" .null := D193 (Or.inl (hw _ (List.mem_of_getElem? (i := 15) rfl))) (ty := (.array .byte)) (by decide)
    have f195 : Fld Z h193 b193 "com/example/kartoteka/kartoteka/index/Varints$Writer" "length" "I" (.int (0 : Int32)) := D193 (Or.inl (hw _ (List.mem_of_getElem? (i := 22) rfl))) (ty := .int) (by decide)
    have Z193 : n0 ≤ h193.size := Nat.le_trans Z0 E193.1
    have K193 : Keep h0 h193 [] := (Keep.refl h0 []).ext E193
    refine Goes.step (B := (T193.setTop (mkF m 10 #[.val (.int x0), .val (.int x1), .val (.int x2), .val (.int (2 : Int32)), .unset, .unset] [(.ref b193)]))) (fun _ k => st193 _ k) ?_
    refine Goes.step (B := (T193.setTop (mkF m 11 #[.val (.int x0), .val (.int x1), .val (.int x2), .val (.int (2 : Int32)), .unset, .unset] [(.ref b193), (.ref b193)]))) (fun _ k => XS.dup X193.here hx rfl (hb hby at_10) rfl rfl k) ?_
    obtain ⟨_, _, ⟨T196, L196, k196, n196⟩, -, X196, ⟨Lc196, hQ196, l196, y196, z196⟩, st196⟩ := X193.specialBack hx (y := (⟨"com/example/kartoteka/kartoteka/index/Varints$Writer", "<init>", "()V"⟩ : MethodName)) rfl hown (mvT hZ (hw _ (List.mem_of_getElem? (i := 4) rfl))) (mvT hZ (hw _ (List.mem_of_getElem? (i := 5) rfl))) (mvT hZ (hw _ (List.mem_of_getElem? (i := 6) rfl))) (by decide) (backOf (W := 1) (own_wi0_rm l Z a0 hw [] b193  h193 n0 Z193 A193 f194 f195 gn193) hZ (hw _ (List.mem_of_getElem? (i := 6) rfl)) (hw _ (List.mem_of_getElem? (i := 3) rfl)) (by decide) (by decide)) (g := (mkF m 11 #[.val (.int x0), .val (.int x1), .val (.int x2), .val (.int (2 : Int32)), .unset, .unset] [(.ref b193), (.ref b193)])) rfl (by rw [hml]; rfl) (Steps.refl _) (a := b193) (argsL := []) (rest := [(.ref b193)]) (lenOf pd___V rfl) rfl (by show 2 * 0 + _ ≤ _; exact Nat.le_of_eq rfl) (hb hby at_11) (fun _ _ => ⟨rfl, e193, (by decide : 1 + 1 ≤ _), (by decide : 2 + 16 ≤ _)⟩)
    dsimp only [Pt.U, Pt.locs, Pt.cells, Pt.slots] at X196 l196 y196 z196 st196 hQ196
    subst l196 y196 z196
    obtain ⟨b_196, k1_196, rfl, N196q, K196q, gn196_b, sz196_b, p196_0, p196_1, p196_2, p196_3, p196_4⟩ := hQ196
    have N196 := Fr.app N0 N196q
    have ne197 : b193 ≠ b_196 := Nat.ne_of_lt (Nat.lt_of_lt_of_le A193.lt sz196_b)
    have f198 := A193.keep K196q
    have K196 : Keep h0 T196.heap [] := Keep.trans K193 K196q (fun y q => by cases List.mem_singleton.mp q; exact (Or.inr sz193))
    have Z196 : n0 ≤ T196.heap.size := Nat.le_trans Z193 K196q.1
    have szz196_b : h0.size ≤ b_196 := Nat.le_trans K193.1 sz196_b
    refine Goes.to (B := (T196.setTop (mkF m 14 #[.val (.int x0), .val (.int x1), .val (.int x2), .val (.int (2 : Int32)), .unset, .unset] [(.ref b193)]))) st196 ?_
    refine Goes.step (B := (T196.setTop (mkF m 16 #[.val (.int x0), .val (.int x1), .val (.int x2), .val (.int (2 : Int32)), .val (.ref b193), .unset] []))) (fun _ k => XS.astore X196.here hx rfl (hb hby at_14) rfl rfl (l' := #[.val (.int x0), .val (.int x1), .val (.int x2), .val (.int (2 : Int32)), .val (.ref b193), .unset]) rfl k) ?_
    refine Goes.step (B := (T196.setTop (mkF m 17 #[.val (.int x0), .val (.int x1), .val (.int x2), .val (.int (2 : Int32)), .val (.ref b193), .unset] [(.int (2 : Int32))]))) (fun _ k => XS.iloadN X196.here hx rfl (hb hby at_16) rfl k) ?_
    refine Goes.step (B := (T196.setTop (mkF m 18 #[.val (.int x0), .val (.int x1), .val (.int x2), .val (.int (2 : Int32)), .val (.ref b193), .unset] [(.int (1 : Int32)), (.int (2 : Int32))]))) (fun _ k => XS.iconst X196.here hx rfl (hb hby at_17) k) ?_
    have hc199 : ¬ ((2 : Int32) < (1 : Int32)) := by decide
    refine Goes.step (B := (T196.setTop (mkF m 21 #[.val (.int x0), .val (.int x1), .val (.int x2), .val (.int (2 : Int32)), .val (.ref b193), .unset] []))) (fun _ k => XS.icmpNo X196.here hx rfl (hb hby at_18) rfl (flt hc199).1 k) ?_
    refine Goes.step (B := (T196.setTop (mkF m 23 #[.val (.int x0), .val (.int x1), .val (.int x2), .val (.int (2 : Int32)), .val (.ref b193), .unset] [(.ref b193)]))) (fun _ k => XS.aload X196.here hx rfl (hb hby at_21) rfl rfl k) ?_
    refine Goes.step (B := (T196.setTop (mkF m 24 #[.val (.int x0), .val (.int x1), .val (.int x2), .val (.int (2 : Int32)), .val (.ref b193), .unset] [(.int x0), (.ref b193)]))) (fun _ k => XS.iloadN X196.here hx rfl (hb hby at_23) rfl k) ?_
    obtain ⟨cq200, kq200, q200a, q200b, q200c⟩ := isOf hZ rfl p196_0
    obtain ⟨_, _, ⟨T200, L200, k200, n200⟩, -, X200, ⟨Lc200, hQ200, l200, y200, z200⟩, st200⟩ := X196.virtualBack hx (y := (⟨"com/example/kartoteka/kartoteka/index/Varints$Writer", "write", "(I)V"⟩ : MethodName)) (z := (⟨"com/example/kartoteka/kartoteka/index/Varints$Writer", "write", "(I)V"⟩ : MethodName)) hown (mvT hZ (hw _ (List.mem_of_getElem? (i := 16) rfl))) (mvT hZ (hw _ (List.mem_of_getElem? (i := 17) rfl))) (notFace_of_selects (args := #[]) (mvT hZ (hw _ (List.mem_of_getElem? (i := 19) rfl)))) (mvT hZ (hw _ (List.mem_of_getElem? (i := 19) rfl))) (mvT hZ (hw _ (List.mem_of_getElem? (i := 18) rfl))) (by decide) (backOf (W := 0) (own_wr_rm l Z a0 hw [] b193 x0 b_196 k1_196 (0 : Int32) own_zero T196.heap n0 Z196 p196_0 p196_1 p196_2 p196_3 gn193 gn196_b p196_4 (by decide) (by decide) (by decide)) hZ (hw _ (List.mem_of_getElem? (i := 20) rfl)) (hw _ (List.mem_of_getElem? (i := 3) rfl)) (by decide) (by decide)) q200a q200c (g := (mkF m 24 #[.val (.int x0), .val (.int x1), .val (.int x2), .val (.int (2 : Int32)), .val (.ref b193), .unset] [(.int x0), (.ref b193)])) rfl (by rw [hml]; rfl) (Steps.refl _) (argsL := [(.int x0)]) (rest := []) (lenOf pd__I_V rfl) rfl (by show 2 * 0 + _ ≤ _; exact Nat.le_of_eq rfl) (hb hby at_24) (fun _ _ => ⟨rfl, rfl, (by decide : 2 + 0 ≤ _), (by decide : 18 + 0 ≤ _)⟩)
    dsimp only [Pt.U, Pt.locs, Pt.cells, Pt.slots] at X200 l200 y200 z200 st200 hQ200
    subst l200 y200 z200
    obtain ⟨rfl, N200q, K200q, p200_0, p200_1, p200_2, p200_3⟩ := hQ200
    have N200 := Fr.app N196 N200q
    have f201 := p196_0.keep K200q
    have K200 : Keep h0 T200.heap [] := Keep.trans K196 K200q (fun y q => by simp only [List.mem_cons, List.not_mem_nil, or_false] at q; rcases q with rfl | rfl <;> first | exact (Or.inr sz193) | exact (Or.inr szz196_b))
    have Z200 : n0 ≤ T200.heap.size := Nat.le_trans Z196 K200q.1
    refine Goes.to (B := (T200.setTop (mkF m 27 #[.val (.int x0), .val (.int x1), .val (.int x2), .val (.int (2 : Int32)), .val (.ref b193), .unset] []))) st200 ?_
    refine Goes.step (B := (T200.setTop (mkF m 28 #[.val (.int x0), .val (.int x1), .val (.int x2), .val (.int (2 : Int32)), .val (.ref b193), .unset] [(.int (2 : Int32))]))) (fun _ k => XS.iloadN X200.here hx rfl (hb hby at_27) rfl k) ?_
    refine Goes.step (B := (T200.setTop (mkF m 29 #[.val (.int x0), .val (.int x1), .val (.int x2), .val (.int (2 : Int32)), .val (.ref b193), .unset] [(.int (2 : Int32)), (.int (2 : Int32))]))) (fun _ k => XS.iconst X200.here hx rfl (hb hby at_28) k) ?_
    have hc202 : ¬ ((2 : Int32) < (2 : Int32)) := by decide
    refine Goes.step (B := (T200.setTop (mkF m 32 #[.val (.int x0), .val (.int x1), .val (.int x2), .val (.int (2 : Int32)), .val (.ref b193), .unset] []))) (fun _ k => XS.icmpNo X200.here hx rfl (hb hby at_29) rfl (flt hc202).1 k) ?_
    refine Goes.step (B := (T200.setTop (mkF m 34 #[.val (.int x0), .val (.int x1), .val (.int x2), .val (.int (2 : Int32)), .val (.ref b193), .unset] [(.ref b193)]))) (fun _ k => XS.aload X200.here hx rfl (hb hby at_32) rfl rfl k) ?_
    refine Goes.step (B := (T200.setTop (mkF m 35 #[.val (.int x0), .val (.int x1), .val (.int x2), .val (.int (2 : Int32)), .val (.ref b193), .unset] [(.int x1), (.ref b193)]))) (fun _ k => XS.iloadN X200.here hx rfl (hb hby at_34) rfl k) ?_
    obtain ⟨cq203, kq203, q203a, q203b, q203c⟩ := isOf hZ rfl p200_0
    obtain ⟨_, _, ⟨T203, L203, k203, n203⟩, -, X203, ⟨Lc203, hQ203, l203, y203, z203⟩, st203⟩ := X200.virtualBack hx (y := (⟨"com/example/kartoteka/kartoteka/index/Varints$Writer", "write", "(I)V"⟩ : MethodName)) (z := (⟨"com/example/kartoteka/kartoteka/index/Varints$Writer", "write", "(I)V"⟩ : MethodName)) hown (mvT hZ (hw _ (List.mem_of_getElem? (i := 16) rfl))) (mvT hZ (hw _ (List.mem_of_getElem? (i := 17) rfl))) (notFace_of_selects (args := #[]) (mvT hZ (hw _ (List.mem_of_getElem? (i := 19) rfl)))) (mvT hZ (hw _ (List.mem_of_getElem? (i := 19) rfl))) (mvT hZ (hw _ (List.mem_of_getElem? (i := 18) rfl))) (by decide) (backOf (W := 0) (own_wr_rm l Z a0 hw [] b193 x1 b_196 k1_196 (own_n 4 (0 : Int32) x0) (own_w 4 own_zero (0 : Int32) x0) T200.heap n0 Z200 p200_0 p200_1 p200_2 p200_3 gn193 gn196_b p196_4 (own_r0 x0) (own_r1 x0) (own_r2 x0)) hZ (hw _ (List.mem_of_getElem? (i := 20) rfl)) (hw _ (List.mem_of_getElem? (i := 3) rfl)) (by decide) (by decide)) q203a q203c (g := (mkF m 35 #[.val (.int x0), .val (.int x1), .val (.int x2), .val (.int (2 : Int32)), .val (.ref b193), .unset] [(.int x1), (.ref b193)])) rfl (by rw [hml]; rfl) (Steps.refl _) (argsL := [(.int x1)]) (rest := []) (lenOf pd__I_V rfl) rfl (by show 2 * 0 + _ ≤ _; exact Nat.le_of_eq rfl) (hb hby at_35) (fun _ _ => ⟨rfl, rfl, (by decide : 2 + 0 ≤ _), (by decide : 18 + 0 ≤ _)⟩)
    dsimp only [Pt.U, Pt.locs, Pt.cells, Pt.slots] at X203 l203 y203 z203 st203 hQ203
    subst l203 y203 z203
    obtain ⟨rfl, N203q, K203q, p203_0, p203_1, p203_2, p203_3⟩ := hQ203
    have N203 := Fr.app N200 N203q
    have f204 := p200_0.keep K203q
    have K203 : Keep h0 T203.heap [] := Keep.trans K200 K203q (fun y q => by simp only [List.mem_cons, List.not_mem_nil, or_false] at q; rcases q with rfl | rfl <;> first | exact (Or.inr sz193) | exact (Or.inr szz196_b))
    have Z203 : n0 ≤ T203.heap.size := Nat.le_trans Z200 K203q.1
    refine Goes.to (B := (T203.setTop (mkF m 38 #[.val (.int x0), .val (.int x1), .val (.int x2), .val (.int (2 : Int32)), .val (.ref b193), .unset] []))) st203 ?_
    obtain ⟨T205, h205, X205, e205, E205, A205, D205, -, st205⟩ := newO X203 hx hZ hown (hw _ (List.mem_of_getElem? (i := 23) rfl)) (hw _ (List.mem_of_getElem? (i := 24) rfl)) (hw _ (List.mem_of_getElem? (i := 25) rfl)) rfl (g := (mkF m 38 #[.val (.int x0), .val (.int x1), .val (.int x2), .val (.int (2 : Int32)), .val (.ref b193), .unset] [])) rfl (hb hby at_38) (by decide) (by decide)
    obtain ⟨b205, g205⟩ : ∃ z, z = T203.heap.size := ⟨_, rfl⟩
    rw [← g205] at A205 D205 st205
    have gn205 : n0 ≤ b205 := Nat.le_trans Z203 (Nat.le_of_eq g205.symm)
    have sz205 : h0.size ≤ b205 := Nat.le_trans K203.1 (Nat.le_of_eq g205.symm)
    have ne206 : b193 ≠ b205 := Nat.ne_of_lt (Nat.lt_of_lt_of_le p203_0.lt (Nat.le_of_eq g205.symm))
    have ne207 : b_196 ≠ b205 := Nat.ne_of_lt (Nat.lt_of_lt_of_le p203_3.lt (Nat.le_of_eq g205.symm))
    have f208 := p203_0.ext E205
    have f209 := p203_1.ext E205
    have f210 := p203_2.ext E205
    have f211 := p203_3.ext E205
    have f212 : Fld Z h205 b205 "com/example/kartoteka/kartoteka/index/Varints$Reader" "bytes" "[B" .null := D205 (Or.inr (hw _ (List.mem_of_getElem? (i := 48) rfl))) (ty := (.array .byte)) (by decide)
    have f213 : Fld Z h205 b205 "com/example/kartoteka/kartoteka/index/Varints$Reader" "at" "I" (.int (0 : Int32)) := D205 (Or.inl (hw _ (List.mem_of_getElem? (i := 55) rfl))) (ty := .int) (by decide)
    have Z205 : n0 ≤ h205.size := Nat.le_trans Z203 E205.1
    have K205 : Keep h0 h205 [] := K203.ext E205
    refine Goes.step (B := (T205.setTop (mkF m 41 #[.val (.int x0), .val (.int x1), .val (.int x2), .val (.int (2 : Int32)), .val (.ref b193), .unset] [(.ref b205)]))) (fun _ k => st205 _ k) ?_
    refine Goes.step (B := (T205.setTop (mkF m 42 #[.val (.int x0), .val (.int x1), .val (.int x2), .val (.int (2 : Int32)), .val (.ref b193), .unset] [(.ref b205), (.ref b205)]))) (fun _ k => XS.dup X205.here hx rfl (hb hby at_41) rfl rfl k) ?_
    refine Goes.step (B := (T205.setTop (mkF m 44 #[.val (.int x0), .val (.int x1), .val (.int x2), .val (.int (2 : Int32)), .val (.ref b193), .unset] [(.ref b193), (.ref b205), (.ref b205)]))) (fun _ k => XS.aload X205.here hx rfl (hb hby at_42) rfl rfl k) ?_
    obtain ⟨cq214, kq214, q214a, q214b, q214c⟩ := isOf hZ e205 f208
    obtain ⟨_, _, ⟨T214, L214, k214, n214⟩, -, X214, ⟨Lc214, hQ214, l214, y214, z214⟩, st214⟩ := X205.virtualBack hx (y := (⟨"com/example/kartoteka/kartoteka/index/Varints$Writer", "toByteArray", "()[B"⟩ : MethodName)) (z := (⟨"com/example/kartoteka/kartoteka/index/Varints$Writer", "toByteArray", "()[B"⟩ : MethodName)) hown (mvT hZ (hw _ (List.mem_of_getElem? (i := 26) rfl))) (mvT hZ (hw _ (List.mem_of_getElem? (i := 27) rfl))) (notFace_of_selects (args := #[]) (mvT hZ (hw _ (List.mem_of_getElem? (i := 29) rfl)))) (mvT hZ (hw _ (List.mem_of_getElem? (i := 29) rfl))) (mvT hZ (hw _ (List.mem_of_getElem? (i := 28) rfl))) (by decide) (backOf (W := 2) (own_tb_rm l Z a0 hw [] b193 b_196 k1_196 (own_n 4 (own_n 4 (0 : Int32) x0) x1) (own_w 4 (own_w 4 own_zero (0 : Int32) x0) (own_n 4 (0 : Int32) x0) x1) h205 n0 Z205 f209 f210 f211 (own_tz2 x0 x1) (own_tl2 x0 x1)) hZ (hw _ (List.mem_of_getElem? (i := 30) rfl)) (hw _ (List.mem_of_getElem? (i := 3) rfl)) (by decide) (by decide)) q214a q214c (g := (mkF m 44 #[.val (.int x0), .val (.int x1), .val (.int x2), .val (.int (2 : Int32)), .val (.ref b193), .unset] [(.ref b193), (.ref b205), (.ref b205)])) rfl (by rw [hml]; rfl) (Steps.refl _) (argsL := []) (rest := [(.ref b205), (.ref b205)]) (lenOf pd___AB rfl) rfl (by show 2 * 0 + _ ≤ _; exact Nat.le_of_eq rfl) (hb hby at_44) (fun _ _ => ⟨rfl, e205, (by decide : 3 + 1 ≤ _), (by decide : 20 + 16 ≤ _)⟩)
    dsimp only [Pt.U, Pt.locs, Pt.cells, Pt.slots] at X214 l214 y214 z214 st214 hQ214
    subst l214 y214 z214
    obtain ⟨b_214, k2_214, rfl, N214q, K214q, gn214_b, sz214_b, p214_0⟩ := hQ214
    have N214 := Fr.app N203 N214q
    have ne215 : b193 ≠ b_214 := Nat.ne_of_lt (Nat.lt_of_lt_of_le f208.lt sz214_b)
    have ne216 : b_196 ≠ b_214 := Nat.ne_of_lt (Nat.lt_of_lt_of_le f211.lt sz214_b)
    have ne217 : b205 ≠ b_214 := Nat.ne_of_lt (Nat.lt_of_lt_of_le A205.lt sz214_b)
    have f218 := f208.keep K214q
    have f219 := f209.keep K214q nm0
    have f220 := f210.keep K214q nm0
    have f221 := f211.keep K214q nm0
    have f222 := A205.keep K214q
    have f223 := f212.keep K214q nm0
    have f224 := f213.keep K214q nm0
    have K214 : Keep h0 T214.heap [] := Keep.trans K205 K214q (fun _ q => nomatch q)
    have Z214 : n0 ≤ T214.heap.size := Nat.le_trans Z205 K214q.1
    have szz214_b : h0.size ≤ b_214 := Nat.le_trans K205.1 sz214_b
    refine Goes.to (B := (T214.setTop (mkF m 47 #[.val (.int x0), .val (.int x1), .val (.int x2), .val (.int (2 : Int32)), .val (.ref b193), .unset] [(.ref b_214), (.ref b205), (.ref b205)]))) st214 ?_
    obtain ⟨_, _, ⟨T225, L225, k225, n225⟩, -, X225, ⟨Lc225, hQ225, l225, y225, z225⟩, st225⟩ := X214.specialBack hx (y := (⟨"com/example/kartoteka/kartoteka/index/Varints$Reader", "<init>", "([B)V"⟩ : MethodName)) rfl hown (mvT hZ (hw _ (List.mem_of_getElem? (i := 43) rfl))) (mvT hZ (hw _ (List.mem_of_getElem? (i := 44) rfl))) (mvT hZ (hw _ (List.mem_of_getElem? (i := 45) rfl))) (by decide) (backOf (W := 1) (own_in0_rm l Z a0 hw [] b205 b_214  T214.heap n0 Z214 f222 f223 f224 gn205) hZ (hw _ (List.mem_of_getElem? (i := 45) rfl)) (hw _ (List.mem_of_getElem? (i := 25) rfl)) (by decide) (by decide)) (g := (mkF m 47 #[.val (.int x0), .val (.int x1), .val (.int x2), .val (.int (2 : Int32)), .val (.ref b193), .unset] [(.ref b_214), (.ref b205), (.ref b205)])) rfl (by rw [hml]; rfl) (Steps.refl _) (a := b205) (argsL := [(.ref b_214)]) (rest := [(.ref b205)]) (lenOf pd__AB_V rfl) rfl (by show 2 * 0 + _ ≤ _; exact Nat.le_of_eq rfl) (hb hby at_47) (fun _ _ => ⟨rfl, rfl, (by decide : 4 + 0 ≤ _), (by decide : 36 + 0 ≤ _)⟩)
    dsimp only [Pt.U, Pt.locs, Pt.cells, Pt.slots] at X225 l225 y225 z225 st225 hQ225
    subst l225 y225 z225
    obtain ⟨rfl, N225q, K225q, p225_0, p225_1, p225_2⟩ := hQ225
    have N225 := Fr.app N214 N225q
    have f226 := f218.keep K225q
    have f227 := f219.keep K225q (nm1 ne206)
    have f228 := f220.keep K225q (nm1 ne206)
    have f229 := f221.keep K225q (nm1 ne207)
    have f230 := f222.keep K225q
    have f231 := p214_0.keep K225q (nm1 (Ne.symm ne217))
    have K225 : Keep h0 T225.heap [] := Keep.trans K214 K225q (fun y q => by cases List.mem_singleton.mp q; exact (Or.inr sz205))
    have Z225 : n0 ≤ T225.heap.size := Nat.le_trans Z214 K225q.1
    refine Goes.to (B := (T225.setTop (mkF m 50 #[.val (.int x0), .val (.int x1), .val (.int x2), .val (.int (2 : Int32)), .val (.ref b193), .unset] [(.ref b205)]))) st225 ?_
    refine Goes.step (B := (T225.setTop (mkF m 52 #[.val (.int x0), .val (.int x1), .val (.int x2), .val (.int (2 : Int32)), .val (.ref b193), .val (.ref b205)] []))) (fun _ k => XS.astore X225.here hx rfl (hb hby at_50) rfl rfl (l' := #[.val (.int x0), .val (.int x1), .val (.int x2), .val (.int (2 : Int32)), .val (.ref b193), .val (.ref b205)]) rfl k) ?_
    refine Goes.step (B := (T225.setTop (mkF m 54 #[.val (.int x0), .val (.int x1), .val (.int x2), .val (.int (2 : Int32)), .val (.ref b193), .val (.ref b205)] [(.ref b205)]))) (fun _ k => XS.aload X225.here hx rfl (hb hby at_52) rfl rfl k) ?_
    obtain ⟨cq232, kq232, q232a, q232b, q232c⟩ := isOf hZ rfl p225_0
    obtain ⟨_, _, ⟨T232, L232, k232, n232⟩, -, X232, ⟨Lc232, hQ232, l232, y232, z232⟩, st232⟩ := X225.virtualBack hx (y := (⟨"com/example/kartoteka/kartoteka/index/Varints$Reader", "hasNext", "()Z"⟩ : MethodName)) (z := (⟨"com/example/kartoteka/kartoteka/index/Varints$Reader", "hasNext", "()Z"⟩ : MethodName)) hown (mvT hZ (hw _ (List.mem_of_getElem? (i := 49) rfl))) (mvT hZ (hw _ (List.mem_of_getElem? (i := 50) rfl))) (notFace_of_selects (args := #[]) (mvT hZ (hw _ (List.mem_of_getElem? (i := 52) rfl)))) (mvT hZ (hw _ (List.mem_of_getElem? (i := 52) rfl))) (mvT hZ (hw _ (List.mem_of_getElem? (i := 51) rfl))) (by decide) (backOf (W := 0) (own_hn_rm l Z a0 hw [] b205 b_214 k2_214 (0 : Int32) (own_n 4 (own_n 4 (0 : Int32) x0) x1) (own_l (own_n 4 (own_n 4 (0 : Int32) x0) x1).toNatClampNeg (own_w 4 (own_w 4 own_zero (0 : Int32) x0) (own_n 4 (0 : Int32) x0) x1)) (.int (0 : Int32)) T225.heap n0 Z225 p225_1 p225_2 f231) hZ (hw _ (List.mem_of_getElem? (i := 53) rfl)) (hw _ (List.mem_of_getElem? (i := 25) rfl)) (by decide) (by decide)) q232a q232c (g := (mkF m 54 #[.val (.int x0), .val (.int x1), .val (.int x2), .val (.int (2 : Int32)), .val (.ref b193), .val (.ref b205)] [(.ref b205)])) rfl (by rw [hml]; rfl) (Steps.refl _) (argsL := []) (rest := []) (lenOf pd___Z rfl) rfl (by show 2 * 0 + _ ≤ _; exact Nat.le_of_eq rfl) (hb hby at_54) (fun _ _ => ⟨rfl, rfl, (by decide : 4 + 0 ≤ _), (by decide : 36 + 0 ≤ _)⟩)
    dsimp only [Pt.U, Pt.locs, Pt.cells, Pt.slots] at X232 l232 y232 z232 st232 hQ232
    subst l232 y232 z232
    obtain ⟨rfl, N232q, e232⟩ := hQ232
    have N232 := Fr.app N225 N232q
    refine Goes.to (B := (T232.setTop (mkF m 57 #[.val (.int x0), .val (.int x1), .val (.int x2), .val (.int (2 : Int32)), .val (.ref b193), .val (.ref b205)] [(.int (own_hn_fn (0 : Int32) (own_n 4 (own_n 4 (0 : Int32) x0) x1)))]))) st232 ?_
    refine Goes.step (B := (T232.setTop (mkF m 58 #[.val (.int x0), .val (.int x1), .val (.int x2), .val (.int (2 : Int32)), .val (.ref b193), .val (.ref b205)] [(.int (2 : Int32)), (.int (own_hn_fn (0 : Int32) (own_n 4 (own_n 4 (0 : Int32) x0) x1)))]))) (fun _ k => XS.iloadN X232.here hx rfl (hb hby at_57) rfl k) ?_
    refine Goes.step (B := (T232.setTop (mkF m 59 #[.val (.int x0), .val (.int x1), .val (.int x2), .val (.int (2 : Int32)), .val (.ref b193), .val (.ref b205)] [(.int (1 : Int32)), (.int (2 : Int32)), (.int (own_hn_fn (0 : Int32) (own_n 4 (own_n 4 (0 : Int32) x0) x1)))]))) (fun _ k => XS.iconst X232.here hx rfl (hb hby at_58) k) ?_
    have hc233 : ¬ ((2 : Int32) < (1 : Int32)) := by decide
    refine Goes.step (B := (T232.setTop (mkF m 62 #[.val (.int x0), .val (.int x1), .val (.int x2), .val (.int (2 : Int32)), .val (.ref b193), .val (.ref b205)] [(.int (own_hn_fn (0 : Int32) (own_n 4 (own_n 4 (0 : Int32) x0) x1)))]))) (fun _ k => XS.icmpNo X232.here hx rfl (hb hby at_59) rfl (flt hc233).1 k) ?_
    refine Goes.step (B := (T232.setTop (mkF m 63 #[.val (.int x0), .val (.int x1), .val (.int x2), .val (.int (2 : Int32)), .val (.ref b193), .val (.ref b205)] [(.int (1 : Int32)), (.int (own_hn_fn (0 : Int32) (own_n 4 (own_n 4 (0 : Int32) x0) x1)))]))) (fun _ k => XS.iconst X232.here hx rfl (hb hby at_62) k) ?_
    refine Goes.step (B := (T232.setTop (mkF m 67 #[.val (.int x0), .val (.int x1), .val (.int x2), .val (.int (2 : Int32)), .val (.ref b193), .val (.ref b205)] [(.int (1 : Int32)), (.int (own_hn_fn (0 : Int32) (own_n 4 (own_n 4 (0 : Int32) x0) x1)))]))) (fun _ k => XS.goto X232.here hx rfl (pc0 := 63) (pc' := 67) rfl (hb hby at_63) (by decide) (by decide) k) ?_
    have hc234 : (own_hn_fn (0 : Int32) (own_n 4 (own_n 4 (0 : Int32) x0) x1)) = (1 : Int32) := own_h12 x0 x1
    refine Goes.step (B := (T232.setTop (mkF m 72 #[.val (.int x0), .val (.int x1), .val (.int x2), .val (.int (2 : Int32)), .val (.ref b193), .val (.ref b205)] []))) (fun _ k => XS.icmpYes X232.here hx rfl (pc0 := 67) (pc' := 72) rfl (hb hby at_67) rfl (teq hc234).1 (by decide) (by decide) k) ?_
    refine Goes.step (B := (T232.setTop (mkF m 73 #[.val (.int x0), .val (.int x1), .val (.int x2), .val (.int (2 : Int32)), .val (.ref b193), .val (.ref b205)] [(.int (2 : Int32))]))) (fun _ k => XS.iloadN X232.here hx rfl (hb hby at_72) rfl k) ?_
    have hc235 : ¬ ((2 : Int32) = (0 : Int32)) := by decide
    refine Goes.step (B := (T232.setTop (mkF m 78 #[.val (.int x0), .val (.int x1), .val (.int x2), .val (.int (2 : Int32)), .val (.ref b193), .val (.ref b205)] []))) (fun _ k => XS.ifYes X232.here hx rfl (pc0 := 73) (pc' := 78) rfl (hb hby at_73) rfl ((if0 _ _).trans (feq hc235).2) (by decide) (by decide) k) ?_
    refine Goes.step (B := (T232.setTop (mkF m 80 #[.val (.int x0), .val (.int x1), .val (.int x2), .val (.int (2 : Int32)), .val (.ref b193), .val (.ref b205)] [(.ref b205)]))) (fun _ k => XS.aload X232.here hx rfl (hb hby at_78) rfl rfl k) ?_
    obtain ⟨cq236, kq236, q236a, q236b, q236c⟩ := isOf hZ e232 p225_0
    obtain ⟨_, _, ⟨T236, L236, k236, n236⟩, -, X236, ⟨Lc236, hQ236, l236, y236, z236⟩, st236⟩ := X232.virtualBack hx (y := (⟨"com/example/kartoteka/kartoteka/index/Varints$Reader", "next", "()I"⟩ : MethodName)) (z := (⟨"com/example/kartoteka/kartoteka/index/Varints$Reader", "next", "()I"⟩ : MethodName)) hown (mvT hZ (hw _ (List.mem_of_getElem? (i := 56) rfl))) (mvT hZ (hw _ (List.mem_of_getElem? (i := 57) rfl))) (notFace_of_selects (args := #[]) (mvT hZ (hw _ (List.mem_of_getElem? (i := 59) rfl)))) (mvT hZ (hw _ (List.mem_of_getElem? (i := 59) rfl))) (mvT hZ (hw _ (List.mem_of_getElem? (i := 58) rfl))) (by decide) (backOf (W := 0) (own_nx_rm l Z a0 hw [] b205 b_214 k2_214 (0 : Int32) (own_n 4 (own_n 4 (0 : Int32) x0) x1) (own_w 4 (own_w 4 own_zero (0 : Int32) x0) (own_n 4 (0 : Int32) x0) x1) x0 T225.heap n0 Z225 p225_0 p225_1 p225_2 f231 gn205 (Ne.symm ne217) (by decide) (by decide) (own_E12 x0 x1) (own_B12 x0 x1)) hZ (hw _ (List.mem_of_getElem? (i := 60) rfl)) (hw _ (List.mem_of_getElem? (i := 25) rfl)) (by decide) (by decide)) q236a q236c (g := (mkF m 80 #[.val (.int x0), .val (.int x1), .val (.int x2), .val (.int (2 : Int32)), .val (.ref b193), .val (.ref b205)] [(.ref b205)])) rfl (by rw [hml]; rfl) (Steps.refl _) (argsL := []) (rest := []) (lenOf pd___I rfl) rfl (by show 2 * 0 + _ ≤ _; exact Nat.le_of_eq rfl) (hb hby at_80) (fun _ _ => ⟨rfl, e232, (by decide : 4 + 0 ≤ _), (by decide : 36 + 0 ≤ _)⟩)
    dsimp only [Pt.U, Pt.locs, Pt.cells, Pt.slots] at X236 l236 y236 z236 st236 hQ236
    subst l236 y236 z236
    obtain ⟨rfl, N236q, K236q, p236_0, p236_1, p236_2⟩ := hQ236
    have N236 := Fr.app N232 N236q
    have f237 := f226.keep K236q
    have f238 := f227.keep K236q (nm1 ne206)
    have f239 := f228.keep K236q (nm1 ne206)
    have f240 := f229.keep K236q (nm1 ne207)
    have f241 := p225_0.keep K236q
    have f242 := f231.keep K236q (nm1 (Ne.symm ne217))
    have K236 : Keep h0 T236.heap [] := Keep.trans K225 K236q (fun y q => by cases List.mem_singleton.mp q; exact (Or.inr sz205))
    have Z236 : n0 ≤ T236.heap.size := Nat.le_trans Z225 K236q.1
    refine Goes.to (B := (T236.setTop (mkF m 83 #[.val (.int x0), .val (.int x1), .val (.int x2), .val (.int (2 : Int32)), .val (.ref b193), .val (.ref b205)] [(.int x0)]))) st236 ?_
    refine Goes.step (B := (T236.setTop (mkF m 84 #[.val (.int x0), .val (.int x1), .val (.int x2), .val (.int (2 : Int32)), .val (.ref b193), .val (.ref b205)] [(.int x0), (.int x0)]))) (fun _ k => XS.iloadN X236.here hx rfl (hb hby at_83) rfl k) ?_
    have hc243 : x0 = x0 := rfl
    refine Goes.step (B := (T236.setTop (mkF m 89 #[.val (.int x0), .val (.int x1), .val (.int x2), .val (.int (2 : Int32)), .val (.ref b193), .val (.ref b205)] []))) (fun _ k => XS.icmpYes X236.here hx rfl (pc0 := 84) (pc' := 89) rfl (hb hby at_84) rfl (teq hc243).1 (by decide) (by decide) k) ?_
    refine Goes.step (B := (T236.setTop (mkF m 91 #[.val (.int x0), .val (.int x1), .val (.int x2), .val (.int (2 : Int32)), .val (.ref b193), .val (.ref b205)] [(.ref b205)]))) (fun _ k => XS.aload X236.here hx rfl (hb hby at_89) rfl rfl k) ?_
    obtain ⟨cq244, kq244, q244a, q244b, q244c⟩ := isOf hZ rfl p236_0
    obtain ⟨_, _, ⟨T244, L244, k244, n244⟩, -, X244, ⟨Lc244, hQ244, l244, y244, z244⟩, st244⟩ := X236.virtualBack hx (y := (⟨"com/example/kartoteka/kartoteka/index/Varints$Reader", "hasNext", "()Z"⟩ : MethodName)) (z := (⟨"com/example/kartoteka/kartoteka/index/Varints$Reader", "hasNext", "()Z"⟩ : MethodName)) hown (mvT hZ (hw _ (List.mem_of_getElem? (i := 49) rfl))) (mvT hZ (hw _ (List.mem_of_getElem? (i := 50) rfl))) (notFace_of_selects (args := #[]) (mvT hZ (hw _ (List.mem_of_getElem? (i := 52) rfl)))) (mvT hZ (hw _ (List.mem_of_getElem? (i := 52) rfl))) (mvT hZ (hw _ (List.mem_of_getElem? (i := 51) rfl))) (by decide) (backOf (W := 0) (own_hn_rm l Z a0 hw [] b205 b_214 k2_214 (own_n 4 (0 : Int32) x0) (own_n 4 (own_n 4 (0 : Int32) x0) x1) (own_l (own_n 4 (own_n 4 (0 : Int32) x0) x1).toNatClampNeg (own_w 4 (own_w 4 own_zero (0 : Int32) x0) (own_n 4 (0 : Int32) x0) x1)) (.int (0 : Int32)) T236.heap n0 Z236 p236_1 p236_2 f242) hZ (hw _ (List.mem_of_getElem? (i := 53) rfl)) (hw _ (List.mem_of_getElem? (i := 25) rfl)) (by decide) (by decide)) q244a q244c (g := (mkF m 91 #[.val (.int x0), .val (.int x1), .val (.int x2), .val (.int (2 : Int32)), .val (.ref b193), .val (.ref b205)] [(.ref b205)])) rfl (by rw [hml]; rfl) (Steps.refl _) (argsL := []) (rest := []) (lenOf pd___Z rfl) rfl (by show 2 * 0 + _ ≤ _; exact Nat.le_of_eq rfl) (hb hby at_91) (fun _ _ => ⟨rfl, rfl, (by decide : 4 + 0 ≤ _), (by decide : 36 + 0 ≤ _)⟩)
    dsimp only [Pt.U, Pt.locs, Pt.cells, Pt.slots] at X244 l244 y244 z244 st244 hQ244
    subst l244 y244 z244
    obtain ⟨rfl, N244q, e244⟩ := hQ244
    have N244 := Fr.app N236 N244q
    refine Goes.to (B := (T244.setTop (mkF m 94 #[.val (.int x0), .val (.int x1), .val (.int x2), .val (.int (2 : Int32)), .val (.ref b193), .val (.ref b205)] [(.int (own_hn_fn (own_n 4 (0 : Int32) x0) (own_n 4 (own_n 4 (0 : Int32) x0) x1)))]))) st244 ?_
    refine Goes.step (B := (T244.setTop (mkF m 95 #[.val (.int x0), .val (.int x1), .val (.int x2), .val (.int (2 : Int32)), .val (.ref b193), .val (.ref b205)] [(.int (2 : Int32)), (.int (own_hn_fn (own_n 4 (0 : Int32) x0) (own_n 4 (own_n 4 (0 : Int32) x0) x1)))]))) (fun _ k => XS.iloadN X244.here hx rfl (hb hby at_94) rfl k) ?_
    refine Goes.step (B := (T244.setTop (mkF m 96 #[.val (.int x0), .val (.int x1), .val (.int x2), .val (.int (2 : Int32)), .val (.ref b193), .val (.ref b205)] [(.int (2 : Int32)), (.int (2 : Int32)), (.int (own_hn_fn (own_n 4 (0 : Int32) x0) (own_n 4 (own_n 4 (0 : Int32) x0) x1)))]))) (fun _ k => XS.iconst X244.here hx rfl (hb hby at_95) k) ?_
    have hc245 : ¬ ((2 : Int32) < (2 : Int32)) := by decide
    refine Goes.step (B := (T244.setTop (mkF m 99 #[.val (.int x0), .val (.int x1), .val (.int x2), .val (.int (2 : Int32)), .val (.ref b193), .val (.ref b205)] [(.int (own_hn_fn (own_n 4 (0 : Int32) x0) (own_n 4 (own_n 4 (0 : Int32) x0) x1)))]))) (fun _ k => XS.icmpNo X244.here hx rfl (hb hby at_96) rfl (flt hc245).1 k) ?_
    refine Goes.step (B := (T244.setTop (mkF m 100 #[.val (.int x0), .val (.int x1), .val (.int x2), .val (.int (2 : Int32)), .val (.ref b193), .val (.ref b205)] [(.int (1 : Int32)), (.int (own_hn_fn (own_n 4 (0 : Int32) x0) (own_n 4 (own_n 4 (0 : Int32) x0) x1)))]))) (fun _ k => XS.iconst X244.here hx rfl (hb hby at_99) k) ?_
    refine Goes.step (B := (T244.setTop (mkF m 104 #[.val (.int x0), .val (.int x1), .val (.int x2), .val (.int (2 : Int32)), .val (.ref b193), .val (.ref b205)] [(.int (1 : Int32)), (.int (own_hn_fn (own_n 4 (0 : Int32) x0) (own_n 4 (own_n 4 (0 : Int32) x0) x1)))]))) (fun _ k => XS.goto X244.here hx rfl (pc0 := 100) (pc' := 104) rfl (hb hby at_100) (by decide) (by decide) k) ?_
    have hc246 : (own_hn_fn (own_n 4 (0 : Int32) x0) (own_n 4 (own_n 4 (0 : Int32) x0) x1)) = (1 : Int32) := own_h22 x0 x1
    refine Goes.step (B := (T244.setTop (mkF m 109 #[.val (.int x0), .val (.int x1), .val (.int x2), .val (.int (2 : Int32)), .val (.ref b193), .val (.ref b205)] []))) (fun _ k => XS.icmpYes X244.here hx rfl (pc0 := 104) (pc' := 109) rfl (hb hby at_104) rfl (teq hc246).1 (by decide) (by decide) k) ?_
    refine Goes.step (B := (T244.setTop (mkF m 110 #[.val (.int x0), .val (.int x1), .val (.int x2), .val (.int (2 : Int32)), .val (.ref b193), .val (.ref b205)] [(.int (2 : Int32))]))) (fun _ k => XS.iloadN X244.here hx rfl (hb hby at_109) rfl k) ?_
    refine Goes.step (B := (T244.setTop (mkF m 111 #[.val (.int x0), .val (.int x1), .val (.int x2), .val (.int (2 : Int32)), .val (.ref b193), .val (.ref b205)] [(.int (1 : Int32)), (.int (2 : Int32))]))) (fun _ k => XS.iconst X244.here hx rfl (hb hby at_110) k) ?_
    have hc247 : ¬ ((2 : Int32) = (1 : Int32)) := by decide
    refine Goes.step (B := (T244.setTop (mkF m 116 #[.val (.int x0), .val (.int x1), .val (.int x2), .val (.int (2 : Int32)), .val (.ref b193), .val (.ref b205)] []))) (fun _ k => XS.icmpYes X244.here hx rfl (pc0 := 111) (pc' := 116) rfl (hb hby at_111) rfl (feq hc247).2 (by decide) (by decide) k) ?_
    refine Goes.step (B := (T244.setTop (mkF m 118 #[.val (.int x0), .val (.int x1), .val (.int x2), .val (.int (2 : Int32)), .val (.ref b193), .val (.ref b205)] [(.ref b205)]))) (fun _ k => XS.aload X244.here hx rfl (hb hby at_116) rfl rfl k) ?_
    obtain ⟨cq248, kq248, q248a, q248b, q248c⟩ := isOf hZ e244 p236_0
    obtain ⟨_, _, ⟨T248, L248, k248, n248⟩, -, X248, ⟨Lc248, hQ248, l248, y248, z248⟩, st248⟩ := X244.virtualBack hx (y := (⟨"com/example/kartoteka/kartoteka/index/Varints$Reader", "next", "()I"⟩ : MethodName)) (z := (⟨"com/example/kartoteka/kartoteka/index/Varints$Reader", "next", "()I"⟩ : MethodName)) hown (mvT hZ (hw _ (List.mem_of_getElem? (i := 56) rfl))) (mvT hZ (hw _ (List.mem_of_getElem? (i := 57) rfl))) (notFace_of_selects (args := #[]) (mvT hZ (hw _ (List.mem_of_getElem? (i := 59) rfl)))) (mvT hZ (hw _ (List.mem_of_getElem? (i := 59) rfl))) (mvT hZ (hw _ (List.mem_of_getElem? (i := 58) rfl))) (by decide) (backOf (W := 0) (own_nx_rm l Z a0 hw [] b205 b_214 k2_214 (own_n 4 (0 : Int32) x0) (own_n 4 (own_n 4 (0 : Int32) x0) x1) (own_w 4 (own_w 4 own_zero (0 : Int32) x0) (own_n 4 (0 : Int32) x0) x1) x1 T236.heap n0 Z236 p236_0 p236_1 p236_2 f242 gn205 (Ne.symm ne217) (own_r0 x0) (own_r01 x0) (own_E2 x0 x1) (Int.le_refl _)) hZ (hw _ (List.mem_of_getElem? (i := 60) rfl)) (hw _ (List.mem_of_getElem? (i := 25) rfl)) (by decide) (by decide)) q248a q248c (g := (mkF m 118 #[.val (.int x0), .val (.int x1), .val (.int x2), .val (.int (2 : Int32)), .val (.ref b193), .val (.ref b205)] [(.ref b205)])) rfl (by rw [hml]; rfl) (Steps.refl _) (argsL := []) (rest := []) (lenOf pd___I rfl) rfl (by show 2 * 0 + _ ≤ _; exact Nat.le_of_eq rfl) (hb hby at_118) (fun _ _ => ⟨rfl, e244, (by decide : 4 + 0 ≤ _), (by decide : 36 + 0 ≤ _)⟩)
    dsimp only [Pt.U, Pt.locs, Pt.cells, Pt.slots] at X248 l248 y248 z248 st248 hQ248
    subst l248 y248 z248
    obtain ⟨rfl, N248q, K248q, p248_0, p248_1, p248_2⟩ := hQ248
    have N248 := Fr.app N244 N248q
    have f249 := f237.keep K248q
    have f250 := f238.keep K248q (nm1 ne206)
    have f251 := f239.keep K248q (nm1 ne206)
    have f252 := f240.keep K248q (nm1 ne207)
    have f253 := p236_0.keep K248q
    have f254 := f242.keep K248q (nm1 (Ne.symm ne217))
    have K248 : Keep h0 T248.heap [] := Keep.trans K236 K248q (fun y q => by cases List.mem_singleton.mp q; exact (Or.inr sz205))
    have Z248 : n0 ≤ T248.heap.size := Nat.le_trans Z236 K248q.1
    refine Goes.to (B := (T248.setTop (mkF m 121 #[.val (.int x0), .val (.int x1), .val (.int x2), .val (.int (2 : Int32)), .val (.ref b193), .val (.ref b205)] [(.int x1)]))) st248 ?_
    refine Goes.step (B := (T248.setTop (mkF m 122 #[.val (.int x0), .val (.int x1), .val (.int x2), .val (.int (2 : Int32)), .val (.ref b193), .val (.ref b205)] [(.int x1), (.int x1)]))) (fun _ k => XS.iloadN X248.here hx rfl (hb hby at_121) rfl k) ?_
    have hc255 : x1 = x1 := rfl
    refine Goes.step (B := (T248.setTop (mkF m 127 #[.val (.int x0), .val (.int x1), .val (.int x2), .val (.int (2 : Int32)), .val (.ref b193), .val (.ref b205)] []))) (fun _ k => XS.icmpYes X248.here hx rfl (pc0 := 122) (pc' := 127) rfl (hb hby at_122) rfl (teq hc255).1 (by decide) (by decide) k) ?_
    refine Goes.step (B := (T248.setTop (mkF m 129 #[.val (.int x0), .val (.int x1), .val (.int x2), .val (.int (2 : Int32)), .val (.ref b193), .val (.ref b205)] [(.ref b205)]))) (fun _ k => XS.aload X248.here hx rfl (hb hby at_127) rfl rfl k) ?_
    obtain ⟨cq256, kq256, q256a, q256b, q256c⟩ := isOf hZ rfl p248_0
    obtain ⟨_, _, ⟨T256, L256, k256, n256⟩, -, X256, ⟨Lc256, hQ256, l256, y256, z256⟩, st256⟩ := X248.virtualBack hx (y := (⟨"com/example/kartoteka/kartoteka/index/Varints$Reader", "hasNext", "()Z"⟩ : MethodName)) (z := (⟨"com/example/kartoteka/kartoteka/index/Varints$Reader", "hasNext", "()Z"⟩ : MethodName)) hown (mvT hZ (hw _ (List.mem_of_getElem? (i := 49) rfl))) (mvT hZ (hw _ (List.mem_of_getElem? (i := 50) rfl))) (notFace_of_selects (args := #[]) (mvT hZ (hw _ (List.mem_of_getElem? (i := 52) rfl)))) (mvT hZ (hw _ (List.mem_of_getElem? (i := 52) rfl))) (mvT hZ (hw _ (List.mem_of_getElem? (i := 51) rfl))) (by decide) (backOf (W := 0) (own_hn_rm l Z a0 hw [] b205 b_214 k2_214 (own_n 4 (own_n 4 (0 : Int32) x0) x1) (own_n 4 (own_n 4 (0 : Int32) x0) x1) (own_l (own_n 4 (own_n 4 (0 : Int32) x0) x1).toNatClampNeg (own_w 4 (own_w 4 own_zero (0 : Int32) x0) (own_n 4 (0 : Int32) x0) x1)) (.int (0 : Int32)) T248.heap n0 Z248 p248_1 p248_2 f254) hZ (hw _ (List.mem_of_getElem? (i := 53) rfl)) (hw _ (List.mem_of_getElem? (i := 25) rfl)) (by decide) (by decide)) q256a q256c (g := (mkF m 129 #[.val (.int x0), .val (.int x1), .val (.int x2), .val (.int (2 : Int32)), .val (.ref b193), .val (.ref b205)] [(.ref b205)])) rfl (by rw [hml]; rfl) (Steps.refl _) (argsL := []) (rest := []) (lenOf pd___Z rfl) rfl (by show 2 * 0 + _ ≤ _; exact Nat.le_of_eq rfl) (hb hby at_129) (fun _ _ => ⟨rfl, rfl, (by decide : 4 + 0 ≤ _), (by decide : 36 + 0 ≤ _)⟩)
    dsimp only [Pt.U, Pt.locs, Pt.cells, Pt.slots] at X256 l256 y256 z256 st256 hQ256
    subst l256 y256 z256
    obtain ⟨rfl, N256q, e256⟩ := hQ256
    have N256 := Fr.app N248 N256q
    refine Goes.to (B := (T256.setTop (mkF m 132 #[.val (.int x0), .val (.int x1), .val (.int x2), .val (.int (2 : Int32)), .val (.ref b193), .val (.ref b205)] [(.int (own_hn_fn (own_n 4 (own_n 4 (0 : Int32) x0) x1) (own_n 4 (own_n 4 (0 : Int32) x0) x1)))]))) st256 ?_
    have hc257 : (own_hn_fn (own_n 4 (own_n 4 (0 : Int32) x0) x1) (own_n 4 (own_n 4 (0 : Int32) x0) x1)) = (0 : Int32) := own_h3 x0 x1
    refine Goes.step (B := (T256.setTop (mkF m 135 #[.val (.int x0), .val (.int x1), .val (.int x2), .val (.int (2 : Int32)), .val (.ref b193), .val (.ref b205)] []))) (fun _ k => XS.ifNo X256.here hx rfl (hb hby at_132) rfl ((if0 _ _).trans (teq hc257).2) k) ?_
    refine Goes.step (B := (T256.setTop (mkF m 136 #[.val (.int x0), .val (.int x1), .val (.int x2), .val (.int (2 : Int32)), .val (.ref b193), .val (.ref b205)] [(.int (1 : Int32))]))) (fun _ k => XS.iconst X256.here hx rfl (hb hby at_135) k) ?_
    refine Goes.step (B := (T256.setTop (mkF m 140 #[.val (.int x0), .val (.int x1), .val (.int x2), .val (.int (2 : Int32)), .val (.ref b193), .val (.ref b205)] [(.int (1 : Int32))]))) (fun _ k => XS.goto X256.here hx rfl (pc0 := 136) (pc' := 140) rfl (hb hby at_136) (by decide) (by decide) k) ?_
    refine Goes.retN X256 hx hlk (t := .boolean) hrt (by simp) (hb hby at_140) ?_ (by decide) (by decide)
    rw [e256]
    exact ⟨rfl, N256⟩
set_option maxRecDepth 65536 in
set_option maxHeartbeats 40000000 in
theorem comes_1 {Post : Tables → Env → Array Value → State → Outcome → State → Prop} (hpost : ∀ tb e args s v u, (limb_1_1.after args s (.returned v) u = true ∧ limb_1_2.after args s (.returned v) u = true ∧ True) → FrameEnd s (.returned v) u (Jvm.fieldLocs frame_1_writes args s ++ Jvm.arrayLocs frame_1_arrays args s ++ Jvm.staticLocs frame_1_statics s) 16 128 → Post tb e args s (.returned v) u) :
    ArmFor flags0 classFile x code maxLocals ret World_1 tables_1 room_1 Calls_1 rest_1 Pre_1 Post := by
  intro l hfl _ _ p e ha hc hk s m args below hf hA hF happ hP
  obtain ⟨hcalls, hrest, hpre⟩ := hP
  obtain ⟨-, -, -, hnamed, -, -, -, hat⟩ := (Spec.applies_iff hf).mp happ
  obtain ⟨hg, hn⟩ := and_e (Cond.before_iff.mp (show (Jvm.Cond.and given_1 narrow_1).before args s = true from hpre))
  obtain ⟨hg1, hg2⟩ := and_e hg
  obtain ⟨hg3, hg4⟩ := and_e hg2
  obtain ⟨hg5, hg6⟩ := and_e hg4
  obtain ⟨w0, w1, w2, rfl⟩ : ∃ w0 w1 w2 : Value, args = #[w0, w1, w2] := by
    have hs : args.size = 3 := by simpa [Cond.value, given_1] using hg1
    obtain ⟨L⟩ := args
    match L, hs with
    | [w0, w1, w2], _ => exact ⟨w0, w1, w2, rfl⟩
  have hw := fun d (hd : d ∈ tables_1) => atoms_spec (ws := Jvm.Cond.code x code maxLocals ret :: tables_1) hat d (List.mem_cons_of_mem _ hd)
  have hfit : Fit s := fun {y c} hc i hi => by
    obtain ⟨ha, rfl⟩ := Array.getElem?_eq_some_iff.mp hc
    have q := List.all_eq_true.mp ((Array.all_eq_true_iff_forall_mem.mp hF) _ (Array.getElem_mem ha)) i (List.mem_range.mpr hi)
    simpa [Array.getElem?_eq_getElem hi] using q
  obtain ⟨i0, ei0⟩ := is_v hg3
  obtain rfl : w0 = (.int i0) := Option.some.inj ei0
  obtain ⟨i1, ei1⟩ := is_v hg5
  obtain rfl : w1 = (.int i1) := Option.some.inj ei1
  obtain ⟨i2, ei2⟩ := is_v hg6
  obtain rfl : w2 = (.int i2) := Option.some.inj ei2
  obtain ⟨n, o, h1, h2, h3, _, L, rfl, ⟨hv, N⟩, hq⟩ := own_law_rm l s _ hw tables_1 i0 i1 i2  s.heap s.heap.size (Nat.le_refl _)  p e ha hc hk s m _ below hf ((Spec.applies_iff_loose hf).mp happ).1 ⟨rfl, State.Warmed39.refl s, rfl⟩ trivial
  subst hv
  refine ⟨n, _, h1, h2, h3, hpost _ _ _ _ _ _ ⟨Cond.after_iff.mpr rfl, Cond.after_iff.mpr (eq_i res_at (Term.int_eval (1)) rfl), trivial⟩ ⟨hq.1, hq.2.1, (hq.2.2.sift fun y hy => Or.inr (N y hy)).mono (by decide) (by decide)⟩⟩
theorem main_1_1 : Claimed_1_1 := comes_1 fun _ _ _ _ _ _ h hF => ⟨h.1, hF⟩
theorem main_1_2 : Claimed_1_2 := comes_1 fun _ _ _ _ _ _ h hF => ⟨h.2.1, hF⟩
end Jvm.Pilot.@@N@@
namespace Jvm.Pilot.@@N@@
open Jvm Jvm.ClassFile Sem Op Lib Jvm.Free Jvm.Stand Jvm.Pilot.@@N@@.Jvm.D
/-! MADE BY PROGRAM (witnessworld.py) out of the Statement's table words and the real class files: 13 classes; the members and pool entries that the words name. The judged class is class 1, her method 1. -/
namespace start1
open Jvm.ClassFile
def u (s : String) : CpInfo := .utf8 (stringToUtf16 s)
/-- a pool by its gaps: so many unusable entries, then the entry; so many at the end -/
def gap : Nat → List CpInfo → List CpInfo
  | 0, r => r
  | n + 1, r => .unusable :: gap n r
def poolList (es : List (Nat × CpInfo)) (last : Nat) : List CpInfo := es.foldr (fun e r => gap e.1 (e.2 :: r)) (gap last [])
def pool (es : List (Nat × CpInfo)) (last : Nat) : Array CpInfo := ⟨poolList es last⟩
def fileOf (pool : Array CpInfo) (this : Nat) (attrs : Array Attribute := #[]) (ms : Array MethodInfo := #[]) (fl : Nat := 33) (sup : Nat := 0) (ifs : Array Nat := #[]) (fds : Array FieldInfo := #[]) : ClassFile where
  minorVersion := 0
  majorVersion := 65
  constantPool := pool
  accessFlags := fl
  thisClass := this
  superClass := sup
  interfaces := ifs
  fields := fds
  methods := ms
  attributes := attrs
def plain (name : String) (sup : Option ClassId) : Class where
  name := name
  kind := .ordinary
  loader := none
  accessFlags := 33
  super := sup
  interfaces := #[]
  cf := none
  fields := #[]
  methods := #[]
  instanceTypes := #[]
  staticTypes := #[]
  resolved := #[]
  callSites := []
  init := .initialized
  statics := none
  mirror := none

def pool0 : Array CpInfo := pool [(5, u "<init>"), (0, u "()V"), (1, .class_ 10), (1, u "java/lang/Object")] 113

def k0c0 : Code := { maxStack := 0, maxLocals := 1, code := object_method_1_code, exceptionTable := #[], attributes := #[] }
def k0m0 : Method := { name := "<init>", desc := "()V", sig := { parameters := [], returnType := none }, accessFlags := 1, code := some k0c0 }
/-- java/lang/Object -/
def k0 : Class := { plain "java/lang/Object" none with
  accessFlags := 33
  interfaces := #[]
  cf := some (fileOf pool0 8 #[] #[{ accessFlags := 1, nameIndex := 5, descriptorIndex := 6, attributes := #[] }] 33 0 #[] #[])
  fields := #[]
  methods := #[k0m0]
  instanceTypes := #[]
  staticTypes := #[]
  resolved := Array.replicate 124 none
  statics := none }

def pool1 : Array CpInfo := pool [(2, .class_ 4), (0, .nameAndType 5 6), (0, u "java/lang/Object"), (0, u "<init>"), (0, u "()V"), (0, .integer 2147483647), (0, .class_ 9), (0, u "com/example/kartoteka/kartoteka/index/Varints$Writer"), (0, .methodref 8 3), (0, .methodref 8 12), (0, .nameAndType 13 14), (0, u "write"), (0, u "(I)V"), (0, .class_ 16), (0, u "com/example/kartoteka/kartoteka/index/Varints$Reader"), (0, .methodref 8 18), (0, .nameAndType 19 20), (0, u "toByteArray"), (0, u "()[B"), (0, .methodref 15 22), (0, .nameAndType 5 23), (0, u "([B)V"), (0, .methodref 15 25), (0, .nameAndType 26 27), (0, u "hasNext"), (0, u "()Z"), (0, .methodref 15 29), (0, .nameAndType 30 31), (0, u "next"), (0, u "()I"), (0, .class_ 33), (0, u "com/example/kartoteka/kartoteka/index/ReaderHasNextPinLaw"), (2, u "law"), (0, u "(III)Z")] 8

def k1m0 : Method := { name := "<init>", desc := "()V", sig := { parameters := [], returnType := none }, accessFlags := 1, code := none }
def k1c1 : Code := { maxStack := 3, maxLocals := 6, code := code, exceptionTable := #[], attributes := #[] }
def k1m1 : Method := { name := "law", desc := "(III)Z", sig := { parameters := [.int, .int, .int], returnType := some .boolean }, accessFlags := 9, code := some k1c1 }
/-- com/example/kartoteka/kartoteka/index/ReaderHasNextPinLaw -/
def k1 : Class := { plain "com/example/kartoteka/kartoteka/index/ReaderHasNextPinLaw" (some 0) with
  accessFlags := 49
  interfaces := #[]
  cf := some (fileOf pool1 32 #[] #[{ accessFlags := 1, nameIndex := 5, descriptorIndex := 6, attributes := #[] }, { accessFlags := 9, nameIndex := 36, descriptorIndex := 37, attributes := #[] }] 49 2 #[] #[])
  fields := #[]
  methods := #[k1m0, k1m1]
  instanceTypes := #[]
  staticTypes := #[]
  resolved := Array.replicate 46 none
  statics := none }

def pool2 : Array CpInfo := pool [(1, .class_ 2), (0, u "com/example/kartoteka/kartoteka/index/Varints"), (0, .methodref 4 5), (0, .class_ 6), (0, .nameAndType 7 8), (0, u "com/example/kartoteka/kartoteka/index/Varints$Writer"), (0, u "<init>"), (0, u "(I)V"), (0, .methodref 10 11), (0, .class_ 12), (0, .nameAndType 7 13), (0, u "java/lang/Object"), (0, u "()V"), (0, .fieldref 4 15), (0, .nameAndType 16 17), (0, u "bytes"), (0, u "[B"), (0, .fieldref 4 19), (0, .nameAndType 20 21), (0, u "length"), (0, u "I"), (6, .methodref 29 30), (0, .class_ 31), (0, .nameAndType 32 33), (0, u "java/util/Arrays"), (0, u "copyOf"), (0, u "([BI)[B"), (3, u "write"), (1, u "toByteArray"), (0, u "()[B")] 5

def k2c0 : Code := { maxStack := 2, maxLocals := 1, code := prog_43_method_1_code, exceptionTable := #[], attributes := #[] }
def k2m0 : Method := { name := "<init>", desc := "()V", sig := { parameters := [], returnType := none }, accessFlags := 0, code := some k2c0 }
def k2c1 : Code := { maxStack := 2, maxLocals := 2, code := prog_43_method_2_code, exceptionTable := #[], attributes := #[] }
def k2m1 : Method := { name := "<init>", desc := "(I)V", sig := { parameters := [.int], returnType := none }, accessFlags := 0, code := some k2c1 }
def k2c2 : Code := { maxStack := 5, maxLocals := 2, code := prog_43_method_4_code, exceptionTable := #[], attributes := #[] }
def k2m2 : Method := { name := "write", desc := "(I)V", sig := { parameters := [.int], returnType := none }, accessFlags := 0, code := some k2c2 }
def k2c3 : Code := { maxStack := 2, maxLocals := 1, code := prog_43_method_5_code, exceptionTable := #[], attributes := #[] }
def k2m3 : Method := { name := "toByteArray", desc := "()[B", sig := { parameters := [], returnType := some (.array .byte) }, accessFlags := 0, code := some k2c3 }
/-- com/example/kartoteka/kartoteka/index/Varints$Writer -/
def k2 : Class := { plain "com/example/kartoteka/kartoteka/index/Varints$Writer" (some 0) with
  accessFlags := 48
  interfaces := #[]
  cf := some (fileOf pool2 4 #[.nestHost 1] #[{ accessFlags := 0, nameIndex := 7, descriptorIndex := 13, attributes := #[] }, { accessFlags := 0, nameIndex := 7, descriptorIndex := 8, attributes := #[] }, { accessFlags := 0, nameIndex := 37, descriptorIndex := 8, attributes := #[] }, { accessFlags := 0, nameIndex := 39, descriptorIndex := 40, attributes := #[] }] 48 10 #[] #[{ accessFlags := 2, nameIndex := 16, descriptorIndex := 17, attributes := #[] }, { accessFlags := 2, nameIndex := 20, descriptorIndex := 21, attributes := #[] }])
  fields := #[{ name := "bytes", type := (.array .byte), accessFlags := 2, slot := 0, constantValue := 0 }, { name := "length", type := .int, accessFlags := 2, slot := 1, constantValue := 0 }]
  methods := #[k2m0, k2m1, k2m2, k2m3]
  instanceTypes := #[(.array .byte), .int]
  staticTypes := #[]
  resolved := Array.replicate 46 none
  statics := none }

def pool3 : Array CpInfo := pool [(1, .methodref 2 3), (0, .class_ 4), (0, .nameAndType 5 6), (0, u "java/lang/Object"), (0, u "<init>"), (0, u "()V"), (0, .fieldref 8 9), (0, .class_ 10), (0, .nameAndType 11 12), (0, u "com/example/kartoteka/kartoteka/index/Varints$Reader"), (0, u "bytes"), (0, u "[B"), (0, .fieldref 8 14), (0, .nameAndType 15 16), (0, u "at"), (0, u "I"), (7, u "([B)V"), (2, u "hasNext"), (0, u "()Z"), (2, u "()I"), (0, u "next"), (3, .class_ 37), (0, u "com/example/kartoteka/kartoteka/index/Varints")] 2

def k3c0 : Code := { maxStack := 2, maxLocals := 2, code := prog_42_method_1_code, exceptionTable := #[], attributes := #[] }
def k3m0 : Method := { name := "<init>", desc := "([B)V", sig := { parameters := [(.array .byte)], returnType := none }, accessFlags := 0, code := some k3c0 }
def k3c1 : Code := { maxStack := 2, maxLocals := 1, code := prog_42_method_2_code, exceptionTable := #[], attributes := #[] }
def k3m1 : Method := { name := "hasNext", desc := "()Z", sig := { parameters := [], returnType := some .boolean }, accessFlags := 0, code := some k3c1 }
def k3c2 : Code := { maxStack := 5, maxLocals := 4, code := prog_42_method_4_code, exceptionTable := #[], attributes := #[] }
def k3m2 : Method := { name := "next", desc := "()I", sig := { parameters := [], returnType := some .int }, accessFlags := 0, code := some k3c2 }
/-- com/example/kartoteka/kartoteka/index/Varints$Reader -/
def k3 : Class := { plain "com/example/kartoteka/kartoteka/index/Varints$Reader" (some 0) with
  accessFlags := 48
  interfaces := #[]
  cf := some (fileOf pool3 8 #[.nestHost 36] #[{ accessFlags := 0, nameIndex := 5, descriptorIndex := 24, attributes := #[] }, { accessFlags := 0, nameIndex := 27, descriptorIndex := 28, attributes := #[] }, { accessFlags := 0, nameIndex := 32, descriptorIndex := 31, attributes := #[] }] 48 2 #[] #[{ accessFlags := 18, nameIndex := 11, descriptorIndex := 12, attributes := #[] }, { accessFlags := 2, nameIndex := 15, descriptorIndex := 16, attributes := #[] }])
  fields := #[{ name := "bytes", type := (.array .byte), accessFlags := 18, slot := 0, constantValue := 0 }, { name := "at", type := .int, accessFlags := 2, slot := 1, constantValue := 0 }]
  methods := #[k3m0, k3m1, k3m2]
  instanceTypes := #[(.array .byte), .int]
  staticTypes := #[]
  resolved := Array.replicate 40 none
  statics := none }

def pool4 : Array CpInfo := pool [(2, .class_ 4), (1, u "java/lang/Object"), (0, u "<init>"), (0, u "()V"), (7, .class_ 16), (1, u "java/util/Arrays"), (57, .class_ 76), (1, u "java/util/Arrays$NaturalOrder"), (36, .class_ 115), (1, u "java/util/Arrays$LegacyMergeSort"), (1, u "Z"), (32, .methodref 151 152), (0, .class_ 153), (0, .nameAndType 154 155), (0, u "java/lang/System"), (0, u "arraycopy"), (0, u "(Ljava/lang/Object;ILjava/lang/Object;II)V"), (146, u "copyOf"), (1, .methodref 305 306), (0, .class_ 307), (0, .nameAndType 308 309), (0, u "java/lang/Math"), (0, u "min"), (0, u "(II)I"), (65, .class_ 376), (0, u "java/util/Arrays$ArrayList"), (68, u "$assertionsDisabled"), (269, u "MIN_ARRAY_SORT_GRAN"), (0, u "I"), (2, u "INSERTIONSORT_THRESHOLD"), (149, u "([BI)[B"), (105, .class_ 976), (0, u "java/util/Arrays$ArrayItr")] 52

def k4m0 : Method := { name := "<init>", desc := "()V", sig := { parameters := [], returnType := none }, accessFlags := 2, code := none }
def k4c1 : Code := { maxStack := 6, maxLocals := 3, code := jdk_65_method_121_code, exceptionTable := #[], attributes := #[] }
def k4m1 : Method := { name := "copyOf", desc := "([BI)[B", sig := { parameters := [(.array .byte), .int], returnType := some (.array .byte) }, accessFlags := 9, code := some k4c1 }
/-- java/util/Arrays -/
def k4 : Class := { plain "java/util/Arrays" (some 0) with
  accessFlags := 49
  interfaces := #[]
  cf := some (fileOf pool4 14 #[.nestMembers #[975, 375, 113, 74]] #[{ accessFlags := 2, nameIndex := 5, descriptorIndex := 6, attributes := #[] }, { accessFlags := 9, nameIndex := 302, descriptorIndex := 869, attributes := #[] }] 49 2 #[] #[{ accessFlags := 26, nameIndex := 715, descriptorIndex := 716, attributes := #[] }, { accessFlags := 26, nameIndex := 719, descriptorIndex := 716, attributes := #[] }, { accessFlags := 4120, nameIndex := 445, descriptorIndex := 117, attributes := #[] }])
  fields := #[{ name := "MIN_ARRAY_SORT_GRAN", type := .int, accessFlags := 26, slot := 0, constantValue := 0 }, { name := "INSERTIONSORT_THRESHOLD", type := .int, accessFlags := 26, slot := 1, constantValue := 0 }, { name := "$assertionsDisabled", type := .boolean, accessFlags := 4120, slot := 2, constantValue := 0 }]
  methods := #[k4m0, k4m1]
  instanceTypes := #[]
  staticTypes := #[.int, .int, .boolean]
  resolved := Array.replicate 1029 none
  statics := none }

def pool5 : Array CpInfo := pool [(1, .class_ 2), (0, u "java/lang/Math"), (1, .class_ 6), (1, u "java/lang/Object"), (0, u "<init>"), (0, u "()V"), (89, .class_ 100), (1, u "java/lang/Math$RandomNumberGeneratorHolder"), (71, u "negativeZeroFloatBits"), (0, u "J"), (2, u "negativeZeroDoubleBits"), (24, u "min"), (43, u "$assertionsDisabled"), (0, u "Z"), (88, u "(II)I"), (2, u "twoToTheDoubleScaleDown"), (0, u "D"), (4, u "twoToTheDoubleScaleUp"), (9, u "E"), (3, u "PI"), (2, u "TAU"), (2, u "DEGREES_TO_RADIANS"), (0, u "RADIANS_TO_DEGREES")] 94

def k5m0 : Method := { name := "<init>", desc := "()V", sig := { parameters := [], returnType := none }, accessFlags := 2, code := none }
def k5c1 : Code := { maxStack := 2, maxLocals := 2, code := jdk_29_method_69_code, exceptionTable := #[], attributes := #[] }
def k5m1 : Method := { name := "min", desc := "(II)I", sig := { parameters := [.int, .int], returnType := some .int }, accessFlags := 9, code := some k5c1 }
/-- java/lang/Math -/
def k5 : Class := { plain "java/lang/Math" (some 0) with
  accessFlags := 49
  interfaces := #[]
  cf := some (fileOf pool5 1 #[.nestMembers #[98]] #[{ accessFlags := 2, nameIndex := 7, descriptorIndex := 8, attributes := #[] }, { accessFlags := 9, nameIndex := 201, descriptorIndex := 335, attributes := #[] }] 49 4 #[] #[{ accessFlags := 25, nameIndex := 354, descriptorIndex := 339, attributes := #[] }, { accessFlags := 25, nameIndex := 358, descriptorIndex := 339, attributes := #[] }, { accessFlags := 25, nameIndex := 361, descriptorIndex := 339, attributes := #[] }, { accessFlags := 26, nameIndex := 364, descriptorIndex := 339, attributes := #[] }, { accessFlags := 26, nameIndex := 365, descriptorIndex := 339, attributes := #[] }, { accessFlags := 26, nameIndex := 172, descriptorIndex := 173, attributes := #[] }, { accessFlags := 26, nameIndex := 176, descriptorIndex := 173, attributes := #[] }, { accessFlags := 8, nameIndex := 344, descriptorIndex := 339, attributes := #[] }, { accessFlags := 8, nameIndex := 338, descriptorIndex := 339, attributes := #[] }, { accessFlags := 4120, nameIndex := 245, descriptorIndex := 246, attributes := #[] }])
  fields := #[{ name := "E", type := .double, accessFlags := 25, slot := 0, constantValue := 0 }, { name := "PI", type := .double, accessFlags := 25, slot := 1, constantValue := 0 }, { name := "TAU", type := .double, accessFlags := 25, slot := 2, constantValue := 0 }, { name := "DEGREES_TO_RADIANS", type := .double, accessFlags := 26, slot := 3, constantValue := 0 }, { name := "RADIANS_TO_DEGREES", type := .double, accessFlags := 26, slot := 4, constantValue := 0 }, { name := "negativeZeroFloatBits", type := .long, accessFlags := 26, slot := 5, constantValue := 0 }, { name := "negativeZeroDoubleBits", type := .long, accessFlags := 26, slot := 6, constantValue := 0 }, { name := "twoToTheDoubleScaleUp", type := .double, accessFlags := 8, slot := 7, constantValue := 0 }, { name := "twoToTheDoubleScaleDown", type := .double, accessFlags := 8, slot := 8, constantValue := 0 }, { name := "$assertionsDisabled", type := .boolean, accessFlags := 4120, slot := 9, constantValue := 0 }]
  methods := #[k5m0, k5m1]
  instanceTypes := #[]
  staticTypes := #[.double, .double, .double, .double, .double, .long, .long, .double, .double, .boolean]
  resolved := Array.replicate 460 none
  statics := none }

def pool6 : Array CpInfo := pool [(2, .class_ 4), (1, u "java/lang/Object"), (0, u "<init>"), (0, u "()V"), (1, .class_ 10), (1, u "java/lang/System"), (0, u "allowSecurityManager"), (0, u "I"), (16, u "cons"), (0, u "Ljava/io/Console;"), (77, .class_ 110), (1, u "java/lang/System$CallersHolder"), (43, u "initialErrStream"), (0, u "Ljava/io/PrintStream;"), (19, u "security"), (0, u "Ljava/lang/SecurityManager;"), (31, .class_ 209), (0, u "java/lang/System$1"), (7, u "props"), (0, u "Ljava/util/Properties;"), (2, u "lineSeparator"), (0, u "Ljava/lang/String;"), (96, .class_ 321), (1, u "java/lang/System$LoggerFinder"), (5, .class_ 328), (0, u "java/lang/System$Logger"), (67, u "err"), (2, u "out"), (91, u "notSupportedJnuEncoding"), (15, u "in"), (17, u "initialIn"), (0, u "Ljava/io/InputStream;"), (35, u "bootLayer"), (0, u "Ljava/lang/ModuleLayer;"), (99, .class_ 664), (0, u "java/lang/System$2"), (9, u "NEVER"), (2, u "MAYBE"), (49, u "arraycopy"), (0, u "(Ljava/lang/Object;ILjava/lang/Object;II)V"), (72, .class_ 802), (0, u "java/lang/System$Logger$Level")] 31

def k6m0 : Method := { name := "<init>", desc := "()V", sig := { parameters := [], returnType := none }, accessFlags := 2, code := none }
def k6m1 : Method := { name := "arraycopy", desc := "(Ljava/lang/Object;ILjava/lang/Object;II)V", sig := { parameters := [(.object "java/lang/Object"), .int, (.object "java/lang/Object"), .int, .int], returnType := none }, accessFlags := 265, code := none }
/-- java/lang/System -/
def k6 : Class := { plain "java/lang/System" (some 0) with
  accessFlags := 49
  interfaces := #[]
  cf := some (fileOf pool6 8 #[.nestMembers #[319, 327, 801, 108, 663, 208]] #[{ accessFlags := 2, nameIndex := 5, descriptorIndex := 6, attributes := #[] }, { accessFlags := 265, nameIndex := 727, descriptorIndex := 728, attributes := #[] }] 49 2 #[] #[{ accessFlags := 25, nameIndex := 507, descriptorIndex := 526, attributes := #[] }, { accessFlags := 25, nameIndex := 399, descriptorIndex := 155, attributes := #[] }, { accessFlags := 25, nameIndex := 396, descriptorIndex := 155, attributes := #[] }, { accessFlags := 10, nameIndex := 525, descriptorIndex := 526, attributes := #[] }, { accessFlags := 26, nameIndex := 674, descriptorIndex := 12, attributes := #[] }, { accessFlags := 26, nameIndex := 677, descriptorIndex := 12, attributes := #[] }, { accessFlags := 10, nameIndex := 11, descriptorIndex := 12, attributes := #[] }, { accessFlags := 74, nameIndex := 175, descriptorIndex := 176, attributes := #[] }, { accessFlags := 10, nameIndex := 491, descriptorIndex := 222, attributes := #[] }, { accessFlags := 74, nameIndex := 29, descriptorIndex := 30, attributes := #[] }, { accessFlags := 74, nameIndex := 154, descriptorIndex := 155, attributes := #[] }, { accessFlags := 10, nameIndex := 217, descriptorIndex := 218, attributes := #[] }, { accessFlags := 10, nameIndex := 221, descriptorIndex := 222, attributes := #[] }, { accessFlags := 8, nameIndex := 562, descriptorIndex := 563, attributes := #[] }])
  fields := #[{ name := "in", type := (.object "java/io/InputStream"), accessFlags := 25, slot := 0, constantValue := 0 }, { name := "out", type := (.object "java/io/PrintStream"), accessFlags := 25, slot := 1, constantValue := 0 }, { name := "err", type := (.object "java/io/PrintStream"), accessFlags := 25, slot := 2, constantValue := 0 }, { name := "initialIn", type := (.object "java/io/InputStream"), accessFlags := 10, slot := 3, constantValue := 0 }, { name := "NEVER", type := .int, accessFlags := 26, slot := 4, constantValue := 0 }, { name := "MAYBE", type := .int, accessFlags := 26, slot := 5, constantValue := 0 }, { name := "allowSecurityManager", type := .int, accessFlags := 10, slot := 6, constantValue := 0 }, { name := "security", type := (.object "java/lang/SecurityManager"), accessFlags := 74, slot := 7, constantValue := 0 }, { name := "notSupportedJnuEncoding", type := (.object "java/lang/String"), accessFlags := 10, slot := 8, constantValue := 0 }, { name := "cons", type := (.object "java/io/Console"), accessFlags := 74, slot := 9, constantValue := 0 }, { name := "initialErrStream", type := (.object "java/io/PrintStream"), accessFlags := 74, slot := 10, constantValue := 0 }, { name := "props", type := (.object "java/util/Properties"), accessFlags := 10, slot := 11, constantValue := 0 }, { name := "lineSeparator", type := (.object "java/lang/String"), accessFlags := 10, slot := 12, constantValue := 0 }, { name := "bootLayer", type := (.object "java/lang/ModuleLayer"), accessFlags := 8, slot := 13, constantValue := 0 }]
  methods := #[k6m0, k6m1]
  instanceTypes := #[]
  staticTypes := #[(.object "java/io/InputStream"), (.object "java/io/PrintStream"), (.object "java/io/PrintStream"), (.object "java/io/InputStream"), .int, .int, .int, (.object "java/lang/SecurityManager"), (.object "java/lang/String"), (.object "java/io/Console"), (.object "java/io/PrintStream"), (.object "java/util/Properties"), (.object "java/lang/String"), (.object "java/lang/ModuleLayer")]
  resolved := Array.replicate 834 none
  statics := none }

def pool7 : Array CpInfo := pool [(1, u "java/lang/Cloneable"), (0, .class_ 1), (0, u "java/lang/Object"), (0, .class_ 3)] 3

/-- java/lang/Cloneable -/
def k7 : Class := { plain "java/lang/Cloneable" (some 0) with
  accessFlags := 1537
  interfaces := #[]
  cf := some (fileOf pool7 2 #[] #[] 1537 4 #[] #[])
  fields := #[]
  methods := #[]
  instanceTypes := #[]
  staticTypes := #[]
  resolved := Array.replicate 8 none
  statics := none }

def pool8 : Array CpInfo := pool [(1, u "java/io/Serializable"), (0, .class_ 1), (0, u "java/lang/Object"), (0, .class_ 3)] 3

/-- java/io/Serializable -/
def k8 : Class := { plain "java/io/Serializable" (some 0) with
  accessFlags := 1537
  interfaces := #[]
  cf := some (fileOf pool8 2 #[] #[] 1537 4 #[] #[])
  fields := #[]
  methods := #[]
  instanceTypes := #[]
  staticTypes := #[]
  resolved := Array.replicate 8 none
  statics := none }

/-- the primitive byte -/
def k9 : Class := { plain "byte" none with kind := .primitive 'B', accessFlags := 0x411 }
/-- [B -/
def k10 : Class := { plain "[B" (some 0) with kind := .array 9 .byte, interfaces := #[7, 8], accessFlags := 1041 }

/-- the primitive int -/
def k11 : Class := { plain "int" none with kind := .primitive 'I', accessFlags := 0x411 }
/-- [I -/
def k12 : Class := { plain "[I" (some 0) with kind := .array 11 .int, interfaces := #[7, 8], accessFlags := 1041 }

def heap : Heap := #[]
def classes : Array Class := #[k0, k1, k2, k3, k4, k5, k6, k7, k8, k9, k10, k11, k12]
def interned : List (Array UInt16 × Addr) := []
def slotsUsed : Nat := 0
def theMethod : MethodId := ⟨1, 1⟩
def args0 : Array Value := #[.int 3, .int 65, .int 1]
def aboutOver (below : List Frame) : State where
  vm := { classes := classes, interned := interned.toArray }
  heap := heap
  slotsUsed := slotsUsed
  threads := #[{ frames := .invoking theMethod args0 :: below }]
def below0 : List Frame := [.native { method := ⟨0, 0⟩, args := #[] }]
def about1 : State := aboutOver below0
def p0 : Program := .bare "" "" ""
def e0 : Env := launch0.env 0 0 0
theorem w_frames : about1.frames = Frame.invoking theMethod args0 :: below0 := rfl
set_option maxRecDepth 65536 in
theorem w_args : argsFit about1.vm theMethod args0 = true := by decide +kernel
set_option maxRecDepth 65536 in
theorem w_heap : heapFits about1 = true := by decide +kernel
set_option maxRecDepth 65536 in
theorem w_runnable : about1.curStatus? = some .runnable := by decide +kernel
set_option maxRecDepth 65536 in
theorem w_alone : about1.alone = true := by decide +kernel
set_option maxRecDepth 65536 in
theorem w_named : about1.methodNamed? x = some theMethod := by decide +kernel
set_option maxRecDepth 65536 in
theorem w_hears : about1.hears theMethod below0 = true := by decide +kernel
set_option maxRecDepth 65536 in
theorem w_ripe : about1.ripe theMethod args0 below0 = true := by decide +kernel
theorem w_running : about1.status = .running := rfl
set_option maxRecDepth 65536 in
theorem w_room : about1.hasRoom e0.platform room_1 = true :=
  launch0.hasRoom_least _ room_1 (by decide +kernel) (by decide +kernel) (by decide +kernel) (by decide +kernel) (by decide +kernel) (by decide +kernel)
theorem allAtoms_all (ts : List Jvm.Cond) (a : Array Jvm.Value) (st : Jvm.State) : (allAtoms ts).before a st = ts.all (fun c => c.before a st) := by
  induction ts with
  | nil => rfl
  | cons c t ih =>
    show (Jvm.Cond.and c (allAtoms t)).before a st = _
    rw [Jvm.Cond.before_and, ih, List.all_cons]
def words1 : List Jvm.Cond := Jvm.Cond.code x code maxLocals ret :: tables_1
/-- a 'code' word, met by the world's own term for the bytes: nothing is compared byte by byte -/
theorem code_word {y : MethodName} {bytes : ByteArray} {mx : Nat} {rt : Option FieldType} {a : Array Value} {s : State} {m : MethodId} {meth : Method} {c : Code} (h1 : s.methodNamed? y = some m) (h2 : s.vm.method? m = some meth) (h3 : meth.code = some c) (h4 : c.code = bytes)
    (h5 : (c.maxLocals == mx && c.exceptionTable.isEmpty && decide (c.maxStack ≤ mostOperands) && decide (meth.sig.returnType = rt) && !meth.locks && decide (parseMethodDescriptor y.desc = some meth.sig)) = true) : (Jvm.Cond.code y bytes mx rt).before a s = true := by
  simp only [Bool.and_eq_true, beq_iff_eq, Bool.not_eq_true', decide_eq_true_eq] at h5
  obtain ⟨⟨⟨⟨⟨g1, g2⟩, g3⟩, g4⟩, g5⟩, g6⟩ := h5
  simp [Cond.before, Cond.holds, Cond.value, h1, h2, h3, h4, g1, g2, g3, g4, g5, g6]
def isCode : Jvm.Cond → Bool
  | .code _ _ _ _ => true
  | _ => false
theorem all_split {L : List Jvm.Cond} {P : Jvm.Cond → Bool} (h1 : L.all (fun c => isCode c || P c) = true) (h2 : ∀ c ∈ L.filter isCode, P c = true) : L.all P = true := by
  refine List.all_eq_true.mpr fun c hc => ?_
  have h := List.all_eq_true.mp h1 c hc
  rcases Bool.eq_false_or_eq_true (isCode c) with hi | hi
  · exact h2 c (List.mem_filter.mpr ⟨hc, hi⟩)
  · simpa [hi] using h
set_option maxRecDepth 65536 in
theorem w_c0 : (Jvm.Cond.code x code maxLocals ret).before args0 about1 = true := code_word (m := ⟨1, 1⟩) (meth := k1m1) (c := k1c1) (by decide +kernel) rfl rfl rfl (by decide +kernel)
set_option maxRecDepth 65536 in
theorem w_c1 : (Jvm.Cond.code ({ cls := "com/example/kartoteka/kartoteka/index/Varints$Writer", name := "<init>", desc := "()V" } : Jvm.MethodName) prog_43_method_1_code (1 : Nat) (Option.none : Option Jvm.ClassFile.FieldType)).before args0 about1 = true := code_word (m := ⟨2, 0⟩) (meth := k2m0) (c := k2c0) (by decide +kernel) rfl rfl rfl (by decide +kernel)
set_option maxRecDepth 65536 in
theorem w_c2 : (Jvm.Cond.code ({ cls := "com/example/kartoteka/kartoteka/index/Varints$Writer", name := "<init>", desc := "(I)V" } : Jvm.MethodName) prog_43_method_2_code (2 : Nat) (Option.none : Option Jvm.ClassFile.FieldType)).before args0 about1 = true := code_word (m := ⟨2, 1⟩) (meth := k2m1) (c := k2c1) (by decide +kernel) rfl rfl rfl (by decide +kernel)
set_option maxRecDepth 65536 in
theorem w_c3 : (Jvm.Cond.code ({ cls := "java/lang/Object", name := "<init>", desc := "()V" } : Jvm.MethodName) object_method_1_code (1 : Nat) (Option.none : Option Jvm.ClassFile.FieldType)).before args0 about1 = true := code_word (m := ⟨0, 0⟩) (meth := k0m0) (c := k0c0) (by decide +kernel) rfl rfl rfl (by decide +kernel)
set_option maxRecDepth 65536 in
theorem w_c4 : (Jvm.Cond.code ({ cls := "com/example/kartoteka/kartoteka/index/Varints$Writer", name := "write", desc := "(I)V" } : Jvm.MethodName) prog_43_method_4_code (2 : Nat) (Option.none : Option Jvm.ClassFile.FieldType)).before args0 about1 = true := code_word (m := ⟨2, 2⟩) (meth := k2m2) (c := k2c2) (by decide +kernel) rfl rfl rfl (by decide +kernel)
set_option maxRecDepth 65536 in
theorem w_c5 : (Jvm.Cond.code ({ cls := "com/example/kartoteka/kartoteka/index/Varints$Writer", name := "toByteArray", desc := "()[B" } : Jvm.MethodName) prog_43_method_5_code (1 : Nat) (Option.some (Jvm.ClassFile.FieldType.array Jvm.ClassFile.FieldType.byte))).before args0 about1 = true := code_word (m := ⟨2, 3⟩) (meth := k2m3) (c := k2c3) (by decide +kernel) rfl rfl rfl (by decide +kernel)
set_option maxRecDepth 65536 in
theorem w_c6 : (Jvm.Cond.code ({ cls := "java/util/Arrays", name := "copyOf", desc := "([BI)[B" } : Jvm.MethodName) jdk_65_method_121_code (3 : Nat) (Option.some (Jvm.ClassFile.FieldType.array Jvm.ClassFile.FieldType.byte))).before args0 about1 = true := code_word (m := ⟨4, 1⟩) (meth := k4m1) (c := k4c1) (by decide +kernel) rfl rfl rfl (by decide +kernel)
set_option maxRecDepth 65536 in
theorem w_c7 : (Jvm.Cond.code ({ cls := "java/lang/Math", name := "min", desc := "(II)I" } : Jvm.MethodName) jdk_29_method_69_code (2 : Nat) (Option.some Jvm.ClassFile.FieldType.int)).before args0 about1 = true := code_word (m := ⟨5, 1⟩) (meth := k5m1) (c := k5c1) (by decide +kernel) rfl rfl rfl (by decide +kernel)
set_option maxRecDepth 65536 in
theorem w_c8 : (Jvm.Cond.code ({ cls := "com/example/kartoteka/kartoteka/index/Varints$Reader", name := "<init>", desc := "([B)V" } : Jvm.MethodName) prog_42_method_1_code (2 : Nat) (Option.none : Option Jvm.ClassFile.FieldType)).before args0 about1 = true := code_word (m := ⟨3, 0⟩) (meth := k3m0) (c := k3c0) (by decide +kernel) rfl rfl rfl (by decide +kernel)
set_option maxRecDepth 65536 in
theorem w_c9 : (Jvm.Cond.code ({ cls := "com/example/kartoteka/kartoteka/index/Varints$Reader", name := "hasNext", desc := "()Z" } : Jvm.MethodName) prog_42_method_2_code (1 : Nat) (Option.some Jvm.ClassFile.FieldType.boolean)).before args0 about1 = true := code_word (m := ⟨3, 1⟩) (meth := k3m1) (c := k3c1) (by decide +kernel) rfl rfl rfl (by decide +kernel)
set_option maxRecDepth 65536 in
theorem w_c10 : (Jvm.Cond.code ({ cls := "com/example/kartoteka/kartoteka/index/Varints$Reader", name := "next", desc := "()I" } : Jvm.MethodName) prog_42_method_4_code (4 : Nat) (Option.some Jvm.ClassFile.FieldType.int)).before args0 about1 = true := code_word (m := ⟨3, 2⟩) (meth := k3m2) (c := k3c2) (by decide +kernel) rfl rfl rfl (by decide +kernel)
def codes1 : List Jvm.Cond := [Jvm.Cond.code x code maxLocals ret, Jvm.Cond.code ({ cls := "com/example/kartoteka/kartoteka/index/Varints$Writer", name := "<init>", desc := "()V" } : Jvm.MethodName) prog_43_method_1_code (1 : Nat) (Option.none : Option Jvm.ClassFile.FieldType), Jvm.Cond.code ({ cls := "com/example/kartoteka/kartoteka/index/Varints$Writer", name := "<init>", desc := "(I)V" } : Jvm.MethodName) prog_43_method_2_code (2 : Nat) (Option.none : Option Jvm.ClassFile.FieldType), Jvm.Cond.code ({ cls := "java/lang/Object", name := "<init>", desc := "()V" } : Jvm.MethodName) object_method_1_code (1 : Nat) (Option.none : Option Jvm.ClassFile.FieldType), Jvm.Cond.code ({ cls := "com/example/kartoteka/kartoteka/index/Varints$Writer", name := "write", desc := "(I)V" } : Jvm.MethodName) prog_43_method_4_code (2 : Nat) (Option.none : Option Jvm.ClassFile.FieldType), Jvm.Cond.code ({ cls := "com/example/kartoteka/kartoteka/index/Varints$Writer", name := "toByteArray", desc := "()[B" } : Jvm.MethodName) prog_43_method_5_code (1 : Nat) (Option.some (Jvm.ClassFile.FieldType.array Jvm.ClassFile.FieldType.byte)), Jvm.Cond.code ({ cls := "java/util/Arrays", name := "copyOf", desc := "([BI)[B" } : Jvm.MethodName) jdk_65_method_121_code (3 : Nat) (Option.some (Jvm.ClassFile.FieldType.array Jvm.ClassFile.FieldType.byte)), Jvm.Cond.code ({ cls := "java/lang/Math", name := "min", desc := "(II)I" } : Jvm.MethodName) jdk_29_method_69_code (2 : Nat) (Option.some Jvm.ClassFile.FieldType.int), Jvm.Cond.code ({ cls := "com/example/kartoteka/kartoteka/index/Varints$Reader", name := "<init>", desc := "([B)V" } : Jvm.MethodName) prog_42_method_1_code (2 : Nat) (Option.none : Option Jvm.ClassFile.FieldType), Jvm.Cond.code ({ cls := "com/example/kartoteka/kartoteka/index/Varints$Reader", name := "hasNext", desc := "()Z" } : Jvm.MethodName) prog_42_method_2_code (1 : Nat) (Option.some Jvm.ClassFile.FieldType.boolean), Jvm.Cond.code ({ cls := "com/example/kartoteka/kartoteka/index/Varints$Reader", name := "next", desc := "()I" } : Jvm.MethodName) prog_42_method_4_code (4 : Nat) (Option.some Jvm.ClassFile.FieldType.int)]
set_option maxRecDepth 65536 in
theorem codes_eq : words1.filter isCode = codes1 := rfl
theorem w_codes : ∀ c ∈ words1.filter isCode, c.before args0 about1 = true := by
  rw [codes_eq]
  intro c hc
  simp only [codes1, List.mem_cons, List.not_mem_nil, or_false] at hc
  rcases hc with rfl | rfl | rfl | rfl | rfl | rfl | rfl | rfl | rfl | rfl | rfl
  · exact w_c0
  · exact w_c1
  · exact w_c2
  · exact w_c3
  · exact w_c4
  · exact w_c5
  · exact w_c6
  · exact w_c7
  · exact w_c8
  · exact w_c9
  · exact w_c10
set_option maxRecDepth 65536 in
theorem w_t1 : (words1.take 24).all (fun c => isCode c || c.before args0 about1) = true := by decide +kernel
set_option maxRecDepth 65536 in
theorem w_t2 : ((words1.drop 24).take 24).all (fun c => isCode c || c.before args0 about1) = true := by decide +kernel
set_option maxRecDepth 65536 in
theorem w_t3 : ((words1.drop 24).drop 24).all (fun c => isCode c || c.before args0 about1) = true := by decide +kernel
theorem w_tables : (allAtoms (Jvm.Cond.code x code maxLocals ret :: tables_1)).before args0 about1 = true := by
  rw [allAtoms_all]
  show words1.all (fun c => c.before args0 about1) = true
  refine all_split ?_ w_codes
  rw [← List.take_append_drop 24 words1, List.all_append, w_t1, ← List.take_append_drop 24 (words1.drop 24), List.all_append, w_t2, w_t3]
  rfl
set_option maxRecDepth 65536 in
theorem w_case : (Jvm.Cond.and given_1 narrow_1).before args0 about1 = true := by decide +kernel
theorem w_applies : (headSpec (Jvm.Cond.code x code maxLocals ret :: tables_1) room_1).applies x e0.platform about1 = true :=
  (Spec.applies_iff w_frames).mpr ⟨w_running, w_runnable, w_alone, w_named, w_hears, w_ripe, w_room, w_tables⟩
theorem atStart : AtStart classFile x code maxLocals ret World_1 tables_1 room_1 Calls_1 rest_1 Pre_1 launch0 p0 e0 about1 theMethod args0 below0 :=
  ⟨lists_1, trivial, launch0.admits_env _ _ _, launch0.least_env, fairChoices_fair.cas, fairChoices_fair.clock, w_frames, w_args, w_heap, w_applies, trivial, trivial, w_case⟩
end start1
theorem witness_1 : WitnessClaimed_1 := ⟨start1.p0, start1.e0, start1.about1, start1.theMethod, start1.args0, start1.below0, start1.atStart⟩
end Jvm.Pilot.@@N@@
