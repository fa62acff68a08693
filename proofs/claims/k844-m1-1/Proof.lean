import JvmDerived
import JvmDerived.Pilot.@@N@@Statement
import JvmDerived.Pilot.@@N@@Code
set_option linter.unusedVariables false
set_option linter.unusedSimpArgs false
@@BLOCK:NumsL.lean.txt@@
namespace Jvm.RoadKit
open Sem ClassFile Op Lib Jvm.Stand Jvm.Free Jvm.LawKit
section New
variable {p : Program} {l : Launch} {e : Env} {R : Room} {s : State} {m : MethodId} {args : Array Value} {below : List Frame} {meth : Method} {c : Code} {T : State} {locs : List Loc} {cells slots : Nat}
theorem retI (X : Stand p l e R s m args below meth c T locs cells slots) (hx : p.tables.exec = Jvm.exec) {pc : Nat} {Ls : Array Slot} {z : Int32} {rest : List Value} (hret : meth.sig.returnType = some .int) (hd : decode c.code pc = .ok (.ireturn, 1)) {fs : List Frame}
    (hl : ∀ (f : JFrame) (acts : List Action), f.method = m → f.locked = none → f.entered = [] → (doReturn e (T.setTop f) acts (some (.int z))).1 = T.setFrames fs) : Steps p.tables e below (T.setTop (mkF m pc Ls (.int z :: rest))) (T.setFrames fs) := by
  have hm' : T.vm.method? m = some meth := X.method'
  have hn : narrow .int (.int z) = .int z := rfl
  show Steps p.tables e below (T.setTop { method := m, pc := pc, locals := Ls, stack := _ :: rest, locked := none }) _
  jvm_step X.here [X.here.top, hx, hd, hm', hret, hn]
  first | (intro acts; rw [hl _ acts rfl rfl rfl]) | rw [hl _ _ rfl rfl rfl]
  exact Steps.refl _
end New
end Jvm.RoadKit
namespace Jvm.Pilot.@@N@@
open Jvm Jvm.ClassFile Sem Op Lib Jvm.Free Jvm.Stand Jvm.LawKit Jvm.RoadKit Bundle Jvm.Pilot.@@N@@.Jvm.D
abbrev Gx (p : Program) (e : Env) (below : List Frame) (T0 : State) (f0 : JFrame) (T : State) (f : JFrame) : Prop := ∀ t, Steps p.tables e below (T.setTop f) t → Steps p.tables e below (T0.setTop f0) t
def x1F (x : Int32) : Int32 := if x < (65536 : Int32) then x else (x.toUInt32 >>> ((16 : Int32) &&& 31).toUInt32).toInt32
def n1F (x : Int32) : Int32 := if x < (65536 : Int32) then (31 : Int32) else (15 : Int32)
def x2F (x : Int32) : Int32 := if x1F x < (256 : Int32) then x1F x else ((x1F x).toUInt32 >>> ((8 : Int32) &&& 31).toUInt32).toInt32
def n2F (x : Int32) : Int32 := if x1F x < (256 : Int32) then n1F x else (n1F x + (-8 : Int32))
def x3F (x : Int32) : Int32 := if x2F x < (16 : Int32) then x2F x else ((x2F x).toUInt32 >>> ((4 : Int32) &&& 31).toUInt32).toInt32
def n3F (x : Int32) : Int32 := if x2F x < (16 : Int32) then n2F x else (n2F x + (-4 : Int32))
def x4F (x : Int32) : Int32 := if x3F x < (4 : Int32) then x3F x else ((x3F x).toUInt32 >>> ((2 : Int32) &&& 31).toUInt32).toInt32
def n4F (x : Int32) : Int32 := if x3F x < (4 : Int32) then n3F x else (n3F x + (-2 : Int32))
def nlzP (x : Int32) : Int32 := n4F x - ((x4F x).toUInt32 >>> ((1 : Int32) &&& 31).toUInt32).toInt32
def nlzI (x : Int32) : Int32 := if (0 : Int32) < x then nlzP x else (if x = (0 : Int32) then (32 : Int32) else (0 : Int32))
def hiF (v : Int64) : Int32 := ((v.toUInt64 >>> ((32 : Int32) &&& 0x3f).toInt64.toUInt64).toInt64).toInt32
def nlzJ (v : Int64) : Int32 := if hiF v = (0 : Int32) then ((32 : Int32) + nlzI v.toInt32) else nlzI (hiF v)
def bktF (v : Int64) : Int32 := if lcmpW v (128 : Int64) < (0 : Int32) then v.toInt32 else (((((63 : Int32) - nlzJ v) - (6 : Int32)) <<< ((6 : Int32) &&& 31)) + ((v.toUInt64 >>> ((((63 : Int32) - nlzJ v) - (6 : Int32)) &&& 0x3f).toInt64.toUInt64).toInt64).toInt32)
theorem stp (x n lim dn : Int32) (c : UInt32) (k : Nat) (hc : c.toNat = k) (hk : k < 32) (hl : lim.toInt = 2 ^ k) (hx0 : 0 < x.toInt) (hx1 : x.toInt < 2 ^ k * 2 ^ k) (hdn : dn.toInt = -(k : Int)) (hn : (k : Int) ≤ n.toInt) (hn' : n.toInt ≤ 31) :
    ∃ d : Nat, (if x < lim then x else (x.toUInt32 >>> c).toInt32).toInt = x.toInt / 2 ^ d ∧ (if x < lim then n else n + dn).toInt = n.toInt - d ∧ d ≤ k ∧ 0 < (if x < lim then x else (x.toUInt32 >>> c).toInt32).toInt ∧ (if x < lim then x else (x.toUInt32 >>> c).toInt32).toInt < 2 ^ k := by
  by_cases q : x < lim
  · refine ⟨0, ?_, ?_, Nat.zero_le _, ?_, ?_⟩ <;> simp only [if_pos q]
    · simp
    · simp
    · exact hx0
    · rw [Int32.lt_iff_toInt_lt] at q; omega
  · have q' : 2 ^ k ≤ x.toInt := by rw [Int32.lt_iff_toInt_lt] at q; omega
    have hu := Jvm.Kit.i32_iushr (x := x) (Jvm.Kit.i32_nonneg.mpr (by omega)) hc hk
    have hp : (0 : Int) < 2 ^ k := Int.pow_pos (by decide)
    refine ⟨k, ?_, ?_, Nat.le_refl _, ?_, ?_⟩ <;> simp only [if_neg q]
    · exact hu
    · rw [Jvm.Kit.i32_add (by rw [hdn]; omega) (by rw [hdn]; omega), hdn]; omega
    · rw [hu]; exact (Int.le_ediv_iff_mul_le hp).mpr (by omega)
    · rw [hu]; exact Int.ediv_lt_of_lt_mul hp hx1

theorem dd {a : Int} (i j : Nat) : a / 2 ^ i / 2 ^ j = a / 2 ^ (i + j) := by
  rw [Int.ediv_ediv_of_nonneg (Int.le_of_lt (Int.pow_pos (by decide))), Int.pow_add]
theorem nlzP_spec (x : Int32) (h : 0 < x.toInt) : ∃ s : Nat, s ≤ 31 ∧ (nlzP x).toInt = 31 - (s : Int) ∧ x.toInt / 2 ^ s = 1 := by
  have hx : x.toInt < 2147483648 := x.toInt_lt
  obtain ⟨d1, a1, b1, c1, p1, q1⟩ := stp x 31 65536 (-16) ((16 : Int32) &&& 31).toUInt32 16 (by decide) (by decide) (by decide) h (by omega) (by decide) (by decide) (by decide)
  have e1 : (if x < (65536 : Int32) then (31 : Int32) else (31 : Int32) + (-16 : Int32)) = n1F x := rfl
  rw [e1] at b1
  obtain ⟨d2, a2, b2, c2, p2, q2⟩ := stp (x1F x) (n1F x) 256 (-8) ((8 : Int32) &&& 31).toUInt32 8 (by decide) (by decide) (by decide) p1 q1 (by decide) (by rw [b1]; have : (31 : Int32).toInt = 31 := rfl; omega) (by rw [b1]; have : (31 : Int32).toInt = 31 := rfl; omega)
  have b1' : (n1F x).toInt = 31 - (d1 : Int) := b1
  have b2' : (n2F x).toInt = (n1F x).toInt - (d2 : Int) := b2
  obtain ⟨d3, a3, b3, c3, p3, q3⟩ := stp (x2F x) (n2F x) 16 (-4) ((4 : Int32) &&& 31).toUInt32 4 (by decide) (by decide) (by decide) p2 q2 (by decide) (by omega) (by omega)
  have b3' : (n3F x).toInt = (n2F x).toInt - (d3 : Int) := b3
  obtain ⟨d4, a4, b4, c4, p4, q4⟩ := stp (x3F x) (n3F x) 4 (-2) ((2 : Int32) &&& 31).toUInt32 2 (by decide) (by decide) (by decide) p3 q3 (by decide) (by omega) (by omega)
  have b4' : (n4F x).toInt = (n3F x).toInt - (d4 : Int) := b4
  have a1' : (x1F x).toInt = x.toInt / 2 ^ d1 := a1
  have a2' : (x2F x).toInt = (x1F x).toInt / 2 ^ d2 := a2
  have a3' : (x3F x).toInt = (x2F x).toInt / 2 ^ d3 := a3
  have a4' : (x4F x).toInt = (x3F x).toInt / 2 ^ d4 := a4
  have p4' : 0 < (x4F x).toInt := p4
  have q4' : (x4F x).toInt < 4 := q4
  have hX : (x4F x).toInt = x.toInt / 2 ^ (d1 + d2 + d3 + d4) := by
    rw [a4', a3', a2', a1', dd, dd, dd]
    simp only [Nat.add_assoc]
  have hu := Jvm.Kit.i32_iushr (x := x4F x) (n := ((1 : Int32) &&& 31).toUInt32) (k := 1) (Jvm.Kit.i32_nonneg.mpr (by omega)) (by decide) (by decide)
  have hu' : (((x4F x).toUInt32 >>> ((1 : Int32) &&& 31).toUInt32).toInt32).toInt = (x4F x).toInt / 2 := hu
  have hr : (nlzP x).toInt = (n4F x).toInt - (x4F x).toInt / 2 := by
    unfold nlzP
    rw [Jvm.Kit.i32_sub (by rw [hu']; omega) (by rw [hu']; omega), hu']
  have hc : (x4F x).toInt = 1 ∨ (x4F x).toInt / 2 = 1 := by omega
  rcases hc with q | q
  · exact ⟨d1 + d2 + d3 + d4, by omega, by rw [hr, q]; omega, by rw [← hX]; exact q⟩
  · refine ⟨d1 + d2 + d3 + d4 + 1, by omega, by rw [hr, q]; omega, ?_⟩
    rw [← dd, ← hX]; exact q
theorem hi_toInt (v : Int64) (h : 0 ≤ v.toInt) : (hiF v).toInt = v.toInt / 4294967296 := by
  have hv : v.toInt < 9223372036854775808 := v.toInt_lt
  have hu := Jvm.Kit.i64_lushr (x := v) (Jvm.Kit.i64_nonneg.mpr h) (n := ((32 : Int32) &&& 0x3f).toInt64.toUInt64) (k := 32) (by decide) (by decide)
  have hu' : ((v.toUInt64 >>> ((32 : Int32) &&& 0x3f).toInt64.toUInt64).toInt64).toInt = v.toInt / 4294967296 := hu
  unfold hiF
  rw [Jvm.Kit.i32_of_i64 (by rw [hu']; omega) (by rw [hu']; omega), hu']
theorem nlzJ_spec (v : Int64) (h : 0 < v.toInt) : ∃ s : Nat, s ≤ 63 ∧ (nlzJ v).toInt = 63 - (s : Int) ∧ v.toInt / 2 ^ s = 1 := by
  have hv : v.toInt < 9223372036854775808 := v.toInt_lt
  have hh := hi_toInt v (by omega)
  by_cases q : hiF v = (0 : Int32)
  · have h0 : v.toInt / 4294967296 = 0 := by rw [← hh, q]; rfl
    have e : nlzJ v = (32 : Int32) + nlzI v.toInt32 := if_pos q
    by_cases g : v.toInt < 2147483648
    · have hl : v.toInt32.toInt = v.toInt := Jvm.Kit.i32_of_i64 (by omega) (by omega)
      obtain ⟨s, s1, s2, s3⟩ := nlzP_spec v.toInt32 (by rw [hl]; exact h)
      have hp : (0 : Int32) < v.toInt32 := Int32.lt_iff_toInt_lt.mpr (by rw [hl]; exact h)
      have e2 : nlzI v.toInt32 = nlzP v.toInt32 := if_pos hp
      rw [hl] at s3
      have e32 : (32 : Int32).toInt = 32 := rfl
      exact ⟨s, by omega, by rw [e, e2, Jvm.Kit.i32_add (by rw [s2]; omega) (by rw [s2]; omega), s2]; omega, s3⟩
    · have hl : v.toInt32.toInt = v.toInt - 4294967296 := by
        have hm : ((2 ^ 32 : Nat) : Int) = 4294967296 := by decide
        rw [Int64.toInt_toInt32, Int.bmod_def, hm]
        split <;> omega
      have hn : ¬ ((0 : Int32) < v.toInt32) := by
        rw [Int32.lt_iff_toInt_lt, hl]; have : (0 : Int32).toInt = 0 := rfl; omega
      have hz : ¬ (v.toInt32 = (0 : Int32)) := by
        intro w; have : v.toInt32.toInt = 0 := by rw [w]; rfl
        omega
      have e2 : nlzI v.toInt32 = (0 : Int32) := by unfold nlzI; rw [if_neg hn, if_neg hz]
      exact ⟨31, by decide, by rw [e, e2]; rfl, by show v.toInt / 2147483648 = 1; omega⟩
  · have hz : (hiF v).toInt ≠ 0 := fun w => q (Int32.toInt_inj.mp w)
    have e : nlzJ v = nlzI (hiF v) := if_neg q
    have hpos : 0 < (hiF v).toInt := by omega
    obtain ⟨s, s1, s2, s3⟩ := nlzP_spec (hiF v) hpos
    have hp : (0 : Int32) < hiF v := Int32.lt_iff_toInt_lt.mpr hpos
    have e2 : nlzI (hiF v) = nlzP (hiF v) := if_pos hp
    refine ⟨32 + s, by omega, by rw [e, e2, s2]; omega, ?_⟩
    rw [hh] at s3
    rw [← dd]; exact s3
theorem shft : ∀ k : Fin 57, (Int32.ofNat k.1).toInt = k.1 ∧ ((Int32.ofNat k.1 &&& 0x3f).toInt64.toUInt64).toNat = k.1 := by decide +kernel
theorem bkt_bound (v : Int64) (h : ¬ (v < (0 : Int64))) : ¬ (bktF v < (0 : Int32)) ∧ bktF v < (3712 : Int32) := by
  have h0 : 0 ≤ v.toInt := by rw [Int64.lt_iff_toInt_lt] at h; have : (0 : Int64).toInt = 0 := rfl; omega
  have hv : v.toInt < 9223372036854775808 := v.toInt_lt
  suffices hs : 0 ≤ (bktF v).toInt ∧ (bktF v).toInt < 3712 by
    rw [Int32.lt_iff_toInt_lt, Int32.lt_iff_toInt_lt]
    have e0 : (0 : Int32).toInt = 0 := rfl
    have e1 : (3712 : Int32).toInt = 3712 := rfl
    omega
  unfold bktF
  have e128 : (128 : Int64).toInt = 128 := rfl
  by_cases q : lcmpW v (128 : Int64) < (0 : Int32)
  · have q' : v.toInt < 128 := by have := Int64.lt_iff_toInt_lt.mp ((lw_lt _ _).mp q); omega
    rw [if_pos q, Jvm.Kit.i32_of_i64 (by omega) (by omega)]; omega
  · have q' : 128 ≤ v.toInt := Int.not_lt.mp fun w => q ((lw_lt _ _).mpr (Int64.lt_iff_toInt_lt.mpr (by rw [e128]; exact w)))
    rw [if_neg q]
    obtain ⟨s, s1, s2, s3⟩ := nlzJ_spec v (by omega)
    have hs7 : 7 ≤ s := by
      apply Nat.le_of_not_lt; intro w
      rcases (show s = 0 ∨ s = 1 ∨ s = 2 ∨ s = 3 ∨ s = 4 ∨ s = 5 ∨ s = 6 by omega) with rfl | rfl | rfl | rfl | rfl | rfl | rfl <;> omega
    have hs62 : s ≤ 62 := by
      apply Nat.le_of_not_lt; intro w
      have h6 : s = 63 := by omega
      rw [h6] at s3
      have : v.toInt / 9223372036854775808 = 1 := s3
      omega
    obtain ⟨k, rfl⟩ : ∃ k, s = k + 6 := ⟨s - 6, by omega⟩
    have hk : (Int32.ofNat k).toInt = (k : Int) ∧ ((Int32.ofNat k &&& 0x3f).toInt64.toUInt64).toNat = k := shft ⟨k, by omega⟩
    have hsh : ((63 : Int32) - nlzJ v) - (6 : Int32) = Int32.ofNat k := by
      apply Int32.toInt_inj.mp
      have e63 : (63 : Int32).toInt = 63 := rfl
      have e6 : (6 : Int32).toInt = 6 := rfl
      have t1 : ((63 : Int32) - nlzJ v).toInt = (k : Int) + 6 := by rw [Jvm.Kit.i32_sub (by rw [s2]; omega) (by rw [s2]; omega), s2]; omega
      rw [Jvm.Kit.i32_sub (by rw [t1]; omega) (by rw [t1]; omega), t1, hk.1, e6]; omega
    rw [hsh]
    have hl := Jvm.Kit.i32_shl (Int32.ofNat k) ((6 : Int32) &&& 31) (k := 6) (by decide) (by rw [hk.1]; show _ ≤ (k : Int) * 64; omega) (by rw [hk.1]; show (k : Int) * 64 < _; omega)
    have hl' : (Int32.ofNat k <<< ((6 : Int32) &&& 31)).toInt = (k : Int) * 64 := by rw [hl, hk.1]; rfl
    have hu := Jvm.Kit.i64_lushr (x := v) (Jvm.Kit.i64_nonneg.mpr h0) (n := (Int32.ofNat k &&& 0x3f).toInt64.toUInt64) hk.2 (by omega)
    have hs3 : v.toInt / 2 ^ k / 64 = 1 := by
      have := dd (a := v.toInt) k 6
      rw [s3] at this; exact this
    have hu2 : (((v.toUInt64 >>> (Int32.ofNat k &&& 0x3f).toInt64.toUInt64).toInt64).toInt32).toInt = v.toInt / 2 ^ k := by
      rw [Jvm.Kit.i32_of_i64 (by rw [hu]; omega) (by rw [hu]; omega), hu]
    rw [Jvm.Kit.i32_add (by rw [hl', hu2]; omega) (by rw [hl', hu2]; omega), hl', hu2]
    omega

def tab (f : Nat → Int64) : List Value := (List.range 3712).map (fun i => Value.long (f i))
theorem tab_len (f : Nat → Int64) : (tab f).length = 3712 := by simp [tab]
theorem tab_get (f : Nat → Int64) {i : Nat} (h : i < 3712) (d : Value) : (tab f).getD i d = .long (f i) := by
  simp [tab, List.getD_eq_getElem?_getD, h]
theorem tab_congr {f g : Nat → Int64} (h : ∀ i, i < 3712 → f i = g i) : tab f = tab g := by
  unfold tab
  apply List.map_congr_left
  intro i hi
  rw [h i (List.mem_range.mp hi)]
theorem tab_set (f : Nat → Int64) (j : Nat) (x : Int64) : (tab f).set j (.long x) = tab (fun i => if i = j then x else f i) := by
  apply List.ext_getElem
  · simp [tab]
  · intro i h1 h2
    simp only [tab, List.getElem_set, List.getElem_map, List.getElem_range]
    by_cases q : j = i
    · subst q; simp
    · have q' : ¬ i = j := fun e => q e.symm
      simp [q, q']
theorem tab_new {Z : State} {h : Heap} {a : Addr} {k : ClassId} (A : Arv Z h a k .long (3712 : Int32) [] (.long (0 : Int64))) : Arv Z h a k .long (3712 : Int32) (tab fun _ => (0 : Int64)) (.long (0 : Int64)) := by
  refine A.pad fun i => ?_
  by_cases q : i < 3712
  · rw [tab_get _ q]; rfl
  · have : (tab fun _ => (0 : Int64)).length ≤ i := by rw [tab_len]; omega
    simp [List.getD_eq_getElem?_getD, List.getElem?_eq_none this]
def upd (j : Nat) (f : Nat → Int64) : Nat → Int64 := fun i => if i = j then f j + 1 else f i
def addF (n : Nat) (f g : Nat → Int64) : Nat → Int64 := fun i => if i < n then f i + g i else f i
def prf (f : Nat → Int64) : Nat → Int64
  | 0 => 0
  | n + 1 => prf f n + f n
theorem addF_step (n : Nat) (f g : Nat → Int64) : (fun i => if i = n then addF n f g n + g n else addF n f g i) = addF (n + 1) f g := by
  funext i
  by_cases q : i = n
  · subst q; simp [addF]
  · have : (i < n + 1) = (i < n) := by apply propext; omega
    simp [addF, q, this]
theorem addF_zero (f g : Nat → Int64) : addF 0 f g = f := by funext i; simp [addF]
theorem prf_zero (n : Nat) : prf (fun _ => 0) n = 0 := by
  induction n with
  | zero => rfl
  | succ n ih => simp [prf, ih]
theorem prf_upd (j : Nat) (f : Nat → Int64) (n : Nat) : prf (upd j f) n = prf f n + (if j < n then 1 else 0) := by
  induction n with
  | zero => simp [prf]
  | succ n ih =>
    simp only [prf, ih]
    by_cases q : n = j
    · subst q
      simp only [upd, if_true, Nat.lt_irrefl, if_false, Nat.lt_succ_self, Int64.add_zero, Int64.add_assoc]
    · have e : upd j f n = f n := by simp [upd, q]
      have e2 : (j < n + 1) = (j < n) := by apply propext; omega
      rw [e, Int64.add_assoc, Int64.add_comm (if j < n then (1 : Int64) else 0) (f n), ← Int64.add_assoc]
      simp only [e2]
theorem own_find (f : Nat → Int64) (r : Int64) (h : ¬ (prf f 3712 < r)) : ∃ J, J < 3712 ∧ (∀ i, i < J → prf f (i + 1) < r) ∧ ¬ (prf f (J + 1) < r) := by
  have key : ∀ n, n ≤ 3712 → (∀ i, i < n → prf f (i + 1) < r) ∨ ∃ J, J < 3712 ∧ (∀ i, i < J → prf f (i + 1) < r) ∧ ¬ (prf f (J + 1) < r) := by
    intro n
    induction n with
    | zero => intro _; exact Or.inl fun i hi => absurd hi (Nat.not_lt_zero i)
    | succ n ih =>
      intro hn
      rcases ih (by omega) with a | a
      · by_cases q : prf f (n + 1) < r
        · refine Or.inl fun i hi => ?_
          by_cases w : i = n
          · subst w; exact q
          · exact a i (by omega)
        · exact Or.inr ⟨n, by omega, a, q⟩
      · exact Or.inr a
  rcases key 3712 (Nat.le_refl _) with a | a
  · exact absurd (a 3711 (by decide)) h
  · exact a
def maxJ (x y : Int64) : Int64 := if lcmpW x y < (0 : Int32) then y else x
theorem max0 (y : Int64) : ¬ (maxJ (0 : Int64) y < (0 : Int64)) := by
  unfold maxJ
  by_cases q : lcmpW (0 : Int64) y < (0 : Int32)
  · rw [if_pos q]
    have := (lw_lt _ _).mp q
    rw [Int64.lt_iff_toInt_lt] at this ⊢; omega
  · rw [if_neg q]; decide
def bk (y : Int64) : Nat := (bktF (maxJ (0 : Int64) y)).toNatClampNeg
theorem nat_lt {j : Int32} (h1 : ¬ j < 0) (h2 : j < (3712 : Int32)) : j.toNatClampNeg < 3712 := by
  rw [Int32.lt_iff_toInt_lt] at h1 h2
  have e0 : (0 : Int32).toInt = 0 := rfl
  have e1 : (3712 : Int32).toInt = 3712 := rfl
  have : j.toNatClampNeg = j.toInt.toNat := rfl
  omega
theorem bk_lt (y : Int64) : bk y < 3712 := nat_lt (bkt_bound _ (max0 y)).1 (bkt_bound _ (max0 y)).2
theorem of_toInt {i : Nat} (h : i ≤ 3712) : (Int32.ofNat i).toInt = (i : Int) := by
  rw [Int32.toInt_ofNat']
  exact Jvm.Kit.bmod32 (by omega) (by omega)
theorem of_ok {i : Nat} (h : i < 3712) : ¬ (Int32.ofNat i < (0 : Int32)) ∧ Int32.ofNat i < (3712 : Int32) := by
  rw [Int32.lt_iff_toInt_lt, Int32.lt_iff_toInt_lt, of_toInt (by omega)]
  have e0 : (0 : Int32).toInt = 0 := rfl
  have e1 : (3712 : Int32).toInt = 3712 := rfl
  omega
theorem of_nat {i : Nat} (h : i < 3712) : (Int32.ofNat i).toNatClampNeg = i := by
  have : (Int32.ofNat i).toNatClampNeg = (Int32.ofNat i).toInt.toNat := rfl
  rw [this, of_toInt (by omega)]; omega
theorem of_up {i : Nat} (h : i < 3712) : Int32.ofNat i + (1 : Int32) = Int32.ofNat (i + 1) := by
  apply Int32.toInt_inj.mp
  have e1 : (1 : Int32).toInt = 1 := rfl
  rw [Jvm.Kit.i32_add (by rw [of_toInt (by omega)]; omega) (by rw [of_toInt (by omega)]; omega), of_toInt (by omega), of_toInt (by omega), e1]; omega
theorem of_end : ¬ (Int32.ofNat 3712 < (3712 : Int32)) := by decide
theorem of_read (f : Nat → Int64) {i : Nat} (h : i < 3712) (d : Value) : (tab f).getD (Int32.ofNat i).toNatClampNeg d = .long (f i) := by rw [of_nat h]; exact tab_get f h d
def zF : Nat → Int64 := fun _ => 0
theorem tab_pad : ∀ i, (tab zF).getD i (.long (0 : Int64)) = ([] : List Value).getD i (.long (0 : Int64)) := fun i => by
  by_cases q : i < 3712
  · rw [tab_get _ q]; rfl
  · have : (tab zF).length ≤ i := by rw [tab_len]; omega
    simp [List.getD_eq_getElem?_getD, List.getElem?_eq_none this]
theorem tab_upd (f : Nat → Int64) (j : Nat) : (tab f).set j (.long (f j + 1)) = tab (upd j f) := tab_set f j _
theorem read_bk (f : Nat → Int64) (y : Int64) (d : Value) : (tab f).getD (bktF (maxJ (0 : Int64) y)).toNatClampNeg d = .long (f (bk y)) := tab_get f (bk_lt y) d
def midF (x : Int32) : UInt64 := if x < (128 : Int32) then FP.i2d x else FP.dadd (FP.l2d (((x % (64 : Int32)) + (64 : Int32)).toInt64 <<< (((x / (64 : Int32)) - (1 : Int32)) &&& 0x3f).toInt64)) (FP.ddiv (FP.l2d (((1 : Int64) <<< (((x / (64 : Int32)) - (1 : Int32)) &&& 0x3f).toInt64) - (1 : Int64))) (4611686018427387904 : UInt64))
theorem nn_div (a : Int64) : Jvm.Free.Fl.NoNaN64 (FP.ddiv (FP.l2d a) (4611686018427387904 : UInt64)) := Jvm.Free.Fl.ddiv_out (Jvm.Free.Fl.l2d_fin a).noNaN (by unfold Jvm.Free.Fl.Fin64; decide +kernel) (by unfold Jvm.Free.Fl.Nz64; decide +kernel)
theorem nn_add (a b : Int64) : Jvm.Free.Fl.NoNaN64 (FP.dadd (FP.l2d b) (FP.ddiv (FP.l2d a) (4611686018427387904 : UInt64))) := Jvm.Free.Fl.dadd_out' (Jvm.Free.Fl.l2d_fin b) (nn_div a)
theorem prf1 (a : Int64) : prf (upd (bk a) zF) 3712 = 1 := by rw [prf_upd, if_pos (bk_lt a), show prf zF 3712 = 0 from prf_zero _]; rfl
theorem prf2 (a b : Int64) : prf (upd (bk b) (upd (bk a) zF)) 3712 = 2 := by rw [prf_upd, if_pos (bk_lt b), prf1]; rfl
theorem addU0 (j : Nat) : tab (addF 3712 zF (upd j zF)) = tab (upd j zF) := tab_congr fun i hi => by
  simp only [addF, hi, if_true, upd, zF]
  by_cases q : i = j <;> simp [q]
theorem addU (j k : Nat) : tab (addF 3712 (upd j zF) (upd k zF)) = tab (upd k (upd j zF)) := tab_congr fun i hi => by
  simp only [addF, hi, if_true, upd, zF]
  by_cases q : i = k
  · subst q; simp
  · have q' : ¬ k = i := fun w => q w.symm
    by_cases w : i = j
    · subst w; simp [q, q']
    · simp [q, w]
theorem retD {p : Program} {l : Launch} {e : Env} {R : Room} {s : State} {m : MethodId} {args : Array Value} {below : List Frame} {meth : Method} {c : Code} {T : State} {locs : List Loc} {cells slots : Nat} (X : Stand p l e R s m args below meth c T locs cells slots) (hx : p.tables.exec = Jvm.exec) {pc : Nat} {Ls : Array Slot} {z : UInt64} {rest : List Value} (hret : meth.sig.returnType = some .double) (hd : decode c.code pc = .ok (.dreturn, 1)) {fs : List Frame}
    (hl : ∀ (f : JFrame) (acts : List Action), f.method = m → f.locked = none → f.entered = [] → (doReturn e (T.setTop f) acts (some (.double z))).1 = T.setFrames fs) : Steps p.tables e below (T.setTop (mkF m pc Ls (.double z :: rest))) (T.setFrames fs) := by
  have hm' : T.vm.method? m = some meth := X.method'
  have hn : narrow .double (.double z) = .double z := rfl
  show Steps p.tables e below (T.setTop { method := m, pc := pc, locals := Ls, stack := _ :: rest, locked := none }) _
  jvm_step X.here [X.here.top, hx, hd, hm', hret, hn]
  first | (intro acts; rw [hl _ acts rfl rfl rfl]) | rw [hl _ _ rfl rfl rfl]
  exact Steps.refl _
theorem own_ad {s : State} {args : Array Value} (hsets : ∀ d ∈ jdkStatics_1, d.before args s = true) : Sta s s.heap "java/lang/StrictMath" "$assertionsDisabled" "Z" (.int (1 : Int32)) := by
  have w0 := hsets _ (List.mem_of_getElem? (i := 1) rfl)
  have w2 := hsets _ (List.mem_of_getElem? (i := 2) rfl)
  exact Sta.start (Cond.eq_int w2 rfl) (Or.inl w0)
/-! Math.ceil lies under a native's frame, for which a claim's room weighs 1024 words more than the sheet gives: so her callees are walked, not taken by contract. -/
def Stt (U : State) (vm : Vm) (F : List Frame) : State := (U.setVm vm).setFrames F
section Raw
variable {p : Program} {l : Launch} {e : Env} {below : List Frame} {s U T : State} {m mU : MethodId} {c cU : Code} {meth : Method} {vm vm' : Vm} {F G : List Frame} {f g : JFrame}
theorem Stt_frames (hc : U.cur < U.threads.size) : (Stt U vm F).frames = F := State.frames_setFrames _ hc
theorem Stt_setVm : (Stt U vm F).setVm vm' = Stt U vm' F := rfl
theorem Stt_setFrames : (Stt U vm F).setFrames G = Stt U vm G := State.setFrames_setFrames ..
theorem Stt_setTop (hc : U.cur < U.threads.size) : (Stt U vm (.java f :: F)).setTop g = Stt U vm (.java g :: F) := by rw [State.setTop_of_frames _ (Stt_frames hc), Stt_setFrames]
theorem Stt_push (hc : U.cur < U.threads.size) (x : Frame) : (Stt U vm F).pushFrame x = Stt U vm (x :: F) := by rw [State.pushFrame, Stt_frames hc, Stt_setFrames]
theorem Stt_lim : e.platform.stackLimits (Stt U vm F).me = e.platform.stackLimits U.me := by rw [Stt, State.stackLimits_setFrames]; rfl
theorem Stt_full (hc : U.cur < U.threads.size) {vars : Nat} (h1 : F.length < (e.platform.stackLimits U.me).1) (h2 : (stackUse F).2 + vars + 11 ≤ (e.platform.stackLimits U.me).2) :
    e.platform.stackFull (((Stt U vm F).threads[(Stt U vm F).cur]?).getD { frames := [] }) (Stt U vm F).frames vars = false := by
  rw [Stt_frames hc]
  refine Platform.stackFull_eq_false ?_ ?_
  · show F.length < (e.platform.stackLimits (Stt U vm F).me).1
    rw [Stt_lim]; exact h1
  · show _ ≤ (e.platform.stackLimits (Stt U vm F).me).2
    rw [Stt_lim]; exact h2
theorem Stt_at (hU : At U mU cU below) (hW : s.WarmedH vm) (hab : ∃ mid, F = mid ++ below) {y : MethodName} (hn : s.methodNamed? y = some m) (hm : s.vm.method? m = some meth) (hc : meth.code = some c) (hp : plainFor y = true) : At (Stt U vm (.java f :: F)) m c below := by
  have hcur := State.cur_lt_of_top hU.top
  have h0 : At (Stt U s.vm (.java f :: F)) m c below :=
    ⟨by rw [State.topJava?_of_frames (Stt_frames hcur)]; rfl, by rw [Stt_frames hcur]; exact hab, hU.running, by simpa [Stt] using hU.runnable, by simpa [Stt] using hU.alone,
      by rw [State.code?_eq]; show (s.vm.method? m).bind _ = _; simp [hm, hc], State.plainMethod.of_named (s := Stt U s.vm (.java f :: F)) hp hn hm⟩
  exact h0.setVm (vm' := vm) hW.alike
theorem rawEnter (hcur : U.cur < U.threads.size) (hW : s.WarmedH vm) {args : Array Value} (acts : List Action) (hm : s.vm.method? m = some meth) (hc : meth.code = some c) (hl : meth.locks = false)
    (h1 : F.length < (e.platform.stackLimits U.me).1) (h2 : (stackUse F).2 + c.maxLocals + 11 ≤ (e.platform.stackLimits U.me).2) :
    (doInvoke e (Stt U vm F) acts m args).1 = Stt U vm (.java (entryFrame m args c.maxLocals) :: F) := by
  rw [(doInvoke_java (s := Stt U vm F) (e := e) (acts := acts) (args := args) (meth := meth) (code := c) (by show vm.method? m = _; rw [hW.alike.method?]; exact hm) hc hl (Stt_full hcur h1 h2)).1, Stt_push hcur]
  rfl
theorem rawLeave (hcur : U.cur < U.threads.size) (hW : s.WarmedH vm) {f0 : JFrame} {v : Option Value} {fs : List Frame} (hm : s.vm.method? m = some meth) (hl : meth.locks = false) (hfs : handOver (Stt U vm (.java f :: F)) v F = some fs) (acts : List Action) (hfm : f.method = m) (hlocked : f.locked = none) (hentered : f.entered = []) :
    (doReturn e ((Stt U vm (.java f0 :: F)).setTop f) acts v).1 = Stt U vm fs := by
  rw [Stt_setTop hcur, (doReturn_plain (s := Stt U vm (.java f :: F)) (e := e) (acts := acts) (v := v) (f := f) (below := F) (fs := fs) (meth := meth) (Stt_frames hcur) (by show vm.method? f.method = _; rw [hfm, hW.alike.method?]; exact hm) hl hlocked hentered hfs).1, Stt_setFrames]
/-- a walk's place in a frame above the walked call's own -/
def Nst (l : Launch) (e : Env) (s : State) (below : List Frame) (T : State) (m : MethodId) (c : Code) : Prop := l.admits e ∧ At T m c below ∧ s.WarmedH T.vm
theorem Nst.adm (N : Nst l e s below T m c) : l.admits e := N.1
theorem Nst.here (N : Nst l e s below T m c) : At T m c below := N.2.1
theorem Nst.warm (N : Nst l e s below T m c) : s.WarmedH T.vm := N.2.2
theorem Nst.setVm (N : Nst l e s below T m c) (hW : s.WarmedH vm') : Nst l e s below (T.setVm vm') m c := ⟨N.adm, N.here.setVm (N.warm.alike.symm.trans hW.alike), hW⟩
theorem Nst.ldc2Long (N : Nst l e s below T m c) (hexec : p.tables.exec = Jvm.exec) {own : String} {index : Nat} {v : Int64} (hown : s.vm.findClass own = some m.cls) (hconst : (Cond.constantLong own index v).before #[] s = true) {g : JFrame} (hg : g.method = m) (hdg : decode c.code g.pc = .ok (.ldc2_w index, 3)) :
    ∀ target, Steps p.tables e below (T.setTop { g with pc := g.pc + 3, stack := .long v :: g.stack }) target → Steps p.tables e below (T.setTop g) target := by
  obtain ⟨k, cf, bytes, hk, hcf, hcp, hb⟩ := Cond.constantLong_spec hown hconst
  obtain ⟨k', hk', he⟩ := N.warm.alike.2.2 _ _ hk
  intro target hrest
  subst hg
  jvm_step N.here [hexec, hdg, ldc2_w.wp_long (s := T) (f := g) N.here.top hk' (by rw [he]; exact hcf) hcp, hb]
  exact hrest
theorem Nst.ldc2DoubleC (N : Nst l e s below T m c) (hexec : p.tables.exec = Jvm.exec) {own : String} {index : Nat} {b : UInt64} (hown : s.vm.findClass own = some m.cls) (hconst : (Cond.constantDouble own index b).before #[] s = true) {g : JFrame} (hg : g.method = m) (hdg : decode c.code g.pc = .ok (.ldc2_w index, 3)) :
    ∀ target, Steps p.tables e below (T.setTop { g with pc := g.pc + 3, stack := .double b :: g.stack }) target → Steps p.tables e below (T.setTop g) target := by
  obtain ⟨k, cf, hk, hcf, hcp⟩ := Cond.constantDouble_spec hown hconst
  obtain ⟨k', hk', he⟩ := N.warm.alike.2.2 _ _ hk
  intro target hrest
  subst hg
  jvm_step N.here [hexec, hdg, ldc2_w.wp_double (s := T) (f := g) N.here.top hk' (by rw [he]; exact hcf) hcp]
  exact hrest
theorem Nst.static (N : Nst l e s below T m c) (hexec : p.tables.exec = Jvm.exec) {own : String} {index : Nat} {x : MethodName} {args : Array Value} (hown : s.vm.findClass own = some m.cls) (hlink : (Cond.methodLink own index x).before args s = true)
    {m' : MethodId} {meth' : Method} {k' : Class} (hn : s.methodNamed? x = some m') (hm' : s.vm.method? m' = some meth') (hstatic : meth'.isStatic = true) (hk' : s.vm.classes[m'.cls]? = some k') (hinit : k'.init = .initialized)
    (hx : x.cls ≠ "java/lang/invoke/MethodHandle" ∧ x.cls ≠ "java/lang/invoke/VarHandle") {g : JFrame} (hg : g.method = m) {argsL rest : List Value} (hlen : argsL.length = meth'.sig.parameters.length) (hstack : g.stack = argsL.reverse ++ rest) (hdg : decode c.code g.pc = .ok (.invokestatic index, 3)) :
    ∃ vm', s.WarmedH vm' ∧ ∀ target, (∀ acts, Steps p.tables e below (doInvoke e ((T.setVm vm').setTop { g with stack := rest }) acts m' argsL.toArray).1 target) → Steps p.tables e below (T.setTop g) target := by
  have hpl : e.platform.magicAccessors = ({} : Platform).magicAccessors := by rw [N.adm.platform]
  have hpv : e.platform.polymorphicOnlyByInvokevirtual = true := by rw [N.adm.platform]
  obtain ⟨ci, hl, hright⟩ := Cond.methodLink_spec hown hn hlink e.platform hpl
  obtain ⟨kx, hkx, hnx⟩ := className_of_methodNamed hn
  cases hk'.symm.trans hkx
  have hE : s.MethodEntry e T.vm m.cls index m' ci := State.methodEntry N.warm hl hright fun k hk => by
    cases hk'.symm.trans hk
    rw [hnx]; exact hx
  obtain ⟨dk, cfile, nt, mname, mdesc, via, ck, _, hd, hcf, hcp, hnt, -, -, hck, -, hnopoly, -⟩ := hl.here
  cases hk'.symm.trans hck
  have alike := hE.warmed.alike
  obtain ⟨dk₂, hdk₂, hed₂⟩ := alike.2.2 _ _ hd
  obtain ⟨k₂, hk₂, he₂⟩ := alike.2.2 _ _ hk'
  have hnone : (k'.methods.any fun y => y.name == mname && !y.isStatic && signaturePolymorphic k' y) = false := by simp [hnopoly]
  have hnone₂ : (k₂.methods.any fun y => y.name == mname && !y.isStatic && signaturePolymorphic k₂ y) = false := by rw [he₂]; exact hnone
  refine ⟨T.vm.called m.cls ci index m', hE.warmed, fun target hrest => ?_⟩
  subst hg
  jvm_step N.here [hexec, hdg, invokestatic.wp_cold (e := e) (s := T) (s₀ := s) (f := g) N.here.top hpv N.warm hE hd hcf hcp hnt hk' hnone,
    invokestatic.wp_ready (e := e) (s := T.setVm (T.vm.called g.method.cls ci index m')) (k := k₂) (meth := meth') (m := m') (args := argsL) (rest := rest) (f := g)
      N.here.top ⟨ci, mname, mdesc, via, m'.cls, k₂, memberRef_ask_via (e := e) hdk₂ (by rw [hed₂]; exact hcf) hcp hnt, hE.classReady, hk₂, hnone₂⟩ hE.ready hk₂
      (by show (T.vm.called g.method.cls ci index m').method? m' = some meth'; rw [alike.method?]; exact hm') (by rw [he₂]; exact hnopoly meth') hstatic (by rw [he₂]; exact hinit) hlen hstack]
  exact fun acts => hrest _
theorem Nst.getstatic (N : Nst l e s below T m c) (hexec : p.tables.exec = Jvm.exec) {own ref name desc : String} {index : Nat} {args : Array Value} (hown : s.vm.findClass own = some m.cls) (hlink : (Cond.fieldLink own index ref name desc).before args s = true)
    {cf i : Nat} {k : Class} {f : Field} (hi : s.fieldFound? ref name desc = some (cf, k, i, f)) (hst : f.isStatic = true) (hinit : k.init = .initialized) {a₁ : Addr} {cell₁ : Cell} {v : Value} (hstatics : k.statics = some a₁) (hcell : T.heap[a₁]? = some cell₁) (hknown : cell₁.vm ≠ .unknown) (hslot : cell₁.slots[f.slot]? = some v)
    {g : JFrame} (hg : g.method = m) (hdg : decode c.code g.pc = .ok (.getstatic index, 3)) :
    ∃ vm', s.WarmedH vm' ∧ ∀ target, Steps p.tables e below ((T.setVm vm').setTop { g with pc := g.pc + 3, stack := v :: g.stack }) target → Steps p.tables e below (T.setTop g) target := by
  have hpl : e.platform.magicAccessors = ({} : Platform).magicAccessors := by rw [N.adm.platform]
  obtain ⟨ci', cfl, k', i', f', hi', hlinks, hright⟩ := Cond.fieldLink_spec hown hlink e.platform hpl
  cases hi.symm.trans hi'
  obtain ⟨hk, hf⟩ := State.fieldFound?_spec hi
  obtain ⟨vm', hgives, hW', hready, hfi⟩ := State.fieldEntry (e := e) N.warm hlinks hright hk hf
  obtain ⟨kc, hkc, hekc⟩ := hW'.alike.2.2 _ _ hk
  refine ⟨vm', hW', fun target hrest => ?_⟩
  subst hg
  jvm_step N.here [hexec, hdg, getstatic.wp_cold (e := e) (s := T) (f := g) N.here.top hgives hready hfi (N.warm.alike.symm.trans hW'.alike).size_le,
    getstatic.wp_ready (e := e) (s := T.setVm vm') (f := g) N.here.top hready hst hkc (by rw [hekc]; exact hinit) (by rw [hekc]; exact hstatics) (show (T.setVm vm').heap[a₁]? = some cell₁ from hcell) hknown hslot]
  exact hrest
theorem Nst.getS (N : Nst l e s below T m c) (hx : p.tables.exec = Jvm.exec) {Z : State} {a0 : Array Value} {h : Heap} (hZ : Z.Warmed39 s.vm) {own O n d : String} {index : Nat} (hown : s.vm.findClass own = some m.cls) (w : (Cond.fieldLink own index O n d).before a0 Z = true) (eT : T.heap = h) {v : Value} (F : Sta Z h O n d v) {g : JFrame} (hg : g.method = m) (hd : decode c.code g.pc = .ok (.getstatic index, 3)) :
    ∃ vm', s.WarmedH vm' ∧ ∀ target, Steps p.tables e below ((T.setVm vm').setTop { g with pc := g.pc + 3, stack := v :: g.stack }) target → Steps p.tables e below (T.setTop g) target := by
  obtain ⟨cf, i, k, f, st, cell, h1, h2, h3, h4, h5, h6, h7⟩ := F
  obtain ⟨k', hi, ek⟩ := State.fieldFound?_setVm (s := Z) hZ.alike h1
  exact N.getstatic hx hown (mvT hZ w (args := #[])) hi h2 (by rw [ek]; exact h3) (a₁ := st) (by rw [ek]; exact h4) (by rw [eT]; exact h5) (fun q => by rw [q] at h6; cases h6) h7 hg hd
theorem Nst.retD (N : Nst l e s below T m c) (hx : p.tables.exec = Jvm.exec) (hm : s.vm.method? m = some meth) {pc : Nat} {Ls : Array Slot} {z : UInt64} {rest : List Value} (hret : meth.sig.returnType = some .double) (hd : decode c.code pc = .ok (.dreturn, 1)) {T' : State}
    (hl : ∀ (f : JFrame) (acts : List Action), f.method = m → f.locked = none → f.entered = [] → (doReturn e (T.setTop f) acts (some (.double z))).1 = T') : Steps p.tables e below (T.setTop (mkF m pc Ls (.double z :: rest))) T' := by
  have hm' : T.vm.method? m = some meth := by rw [N.warm.alike.method?]; exact hm
  have hn : narrow .double (.double z) = .double z := rfl
  show Steps p.tables e below (T.setTop { method := m, pc := pc, locals := Ls, stack := _ :: rest, locked := none }) _
  jvm_step N.here [N.here.top, hx, hd, hm', hret, hn]
  first | (intro acts; rw [hl _ acts rfl rfl rfl]) | rw [hl _ _ rfl rfl rfl]
  exact Steps.refl _
theorem Nst.retI (N : Nst l e s below T m c) (hx : p.tables.exec = Jvm.exec) (hm : s.vm.method? m = some meth) {pc : Nat} {Ls : Array Slot} {z : Int32} {rest : List Value} (hret : meth.sig.returnType = some .int) (hd : decode c.code pc = .ok (.ireturn, 1)) {T' : State}
    (hl : ∀ (f : JFrame) (acts : List Action), f.method = m → f.locked = none → f.entered = [] → (doReturn e (T.setTop f) acts (some (.int z))).1 = T') : Steps p.tables e below (T.setTop (mkF m pc Ls (.int z :: rest))) T' := by
  have hm' : T.vm.method? m = some meth := by rw [N.warm.alike.method?]; exact hm
  have hn : narrow .int (.int z) = .int z := rfl
  show Steps p.tables e below (T.setTop { method := m, pc := pc, locals := Ls, stack := _ :: rest, locked := none }) _
  jvm_step N.here [N.here.top, hx, hd, hm', hret, hn]
  first | (intro acts; rw [hl _ acts rfl rfl rfl]) | rw [hl _ _ rfl rfl rfl]
  exact Steps.refl _
theorem Nst.native (N : Nst l e s below T m c) (hexec : p.tables.exec = Jvm.exec) {own : String} {index : Nat} {args : Array Value} (hown : s.vm.findClass own = some m.cls) (hlink : (Cond.methodLink own index doubleToRawLongBitsName).before args s = true) (hnat : (Cond.native doubleToRawLongBitsName).before args s = true) (hstat : (Cond.static doubleToRawLongBitsName).before args s = true) (hinit : (Cond.initialized "java/lang/Double").before args s = true)
    {g : JFrame} (hg : g.method = m) {rest : List Value} {b : UInt64} (hstack : g.stack = .double b :: rest) (hdg : decode c.code g.pc = .ok (.invokestatic index, 3)) {Lim : Nat × Nat} {w : Nat} (hT : T.frames.tail = F) (hL : e.platform.stackLimits T.me = Lim) (h1 : F.length + 1 < Lim.1) (h2 : (stackUse F).2 + w + 15 ≤ Lim.2) (hw : g.locals.size + 11 + 2 * g.monitorRoom + operandWords rest ≤ w) :
    ∃ vm', s.WarmedH vm' ∧ ∀ target, Steps p.tables e below ((T.setVm vm').setTop { g with pc := g.pc + 3, stack := .long b.toInt64 :: rest }) target → Steps p.tables e below (T.setTop g) target := by
  obtain ⟨r, kS, methS, hnS, hmS, hkS, Na⟩ := NativeOf.of_static hnat hstat (ps := [.double]) (ret := some .long) (by decide +kernel)
  have hinitS : kS.init = .initialized := Cond.initialized_spec (findClass_of_methodNamed hnS) hkS hinit
  obtain ⟨vm', hW', step⟩ := N.static hexec hown hlink hnS hmS Na.static hkS hinitS (by decide) hg (argsL := [.double b]) (rest := rest) (by rw [Na.sig]; rfl) hstack hdg
  refine ⟨vm', hW', fun target hrest => step target fun acts => ?_⟩
  subst hg
  have N' := N.setVm hW'
  obtain ⟨kS', Na'⟩ := Na.alike N'.warm.alike
  have hf : ((T.setVm vm').setTop { g with stack := rest }).frames = .java { g with stack := rest } :: F := by
    rw [State.frames_setTop' _ N'.here.top]
    show _ :: T.frames.tail = _
    rw [hT]
  have hlim : e.platform.stackLimits ((T.setVm vm').setTop { g with stack := rest }).me = Lim := by
    rw [State.stackLimits_setTop _ N'.here.top]; exact hL
  refine Steps.doubleToRawLongBitsOf (g := { g with stack := rest }) (ig := .invokestatic index) (len := 3) p N'.here acts Na' b ?_ hdg hrest
  rw [hf]
  refine Platform.stackFull_eq_false ?_ ?_
  · show _ < (e.platform.stackLimits ((T.setVm vm').setTop { g with stack := rest }).me).1
    rw [hlim]; simpa using h1
  · show _ ≤ (e.platform.stackLimits ((T.setVm vm').setTop { g with stack := rest }).me).2
    rw [hlim, stackUse_java]
    have : nativeFrameWords "java/lang/Double" "doubleToRawLongBits" 2 = 4 := by decide +kernel
    rw [this]
    show (stackUse F).2 + (g.locals.size + 11 + 2 * g.monitorRoom + operandWords rest) + 4 + 11 ≤ _
    omega
theorem handJ {ig : Instr} {len : Nat} {v : Value} (hcode : vm'.method? g.method = some meth) (hc : meth.code = some c) (hd : decode c.code g.pc = .ok (ig, len)) : handOver (Stt U vm' G) (some v) (.java g :: F) = some (.java { g with pc := g.pc + len, stack := v :: g.stack } :: F) := by
  have h : (Stt U vm' G).code? g.method = some c := by
    rw [State.code?_eq]; show (vm'.method? g.method).bind _ = _; simp [hcode, hc]
  simp [handOver, h, hd, Except.toOption]
end Raw
theorem own_static {s : State} {args : Array Value} {y : MethodName} {m : MethodId} {meth : Method} (hn : s.methodNamed? y = some m) (hm : s.vm.method? m = some meth) (h : (Cond.static y).before args s = true) : meth.isStatic = true := Cond.static_spec hn hm h
theorem d5_0 : decode jdk_33_method_47_code 0 = .ok (.iload_n 0, 1) := by decide +kernel
theorem d5_1 : decode jdk_33_method_47_code 1 = .ok (.ifCond .gt 14, 3) := by decide +kernel
theorem d5_4 : decode jdk_33_method_47_code 4 = .ok (.iload_n 0, 1) := by decide +kernel
theorem d5_5 : decode jdk_33_method_47_code 5 = .ok (.ifCond .ne 8, 3) := by decide +kernel
theorem d5_8 : decode jdk_33_method_47_code 8 = .ok (.bipush 32, 2) := by decide +kernel
theorem d5_10 : decode jdk_33_method_47_code 10 = .ok (.goto 4, 3) := by decide +kernel
theorem d5_13 : decode jdk_33_method_47_code 13 = .ok (.iconst 0, 1) := by decide +kernel
theorem d5_14 : decode jdk_33_method_47_code 14 = .ok (.ireturn, 1) := by decide +kernel
theorem d5_15 : decode jdk_33_method_47_code 15 = .ok (.bipush 31, 2) := by decide +kernel
theorem d5_17 : decode jdk_33_method_47_code 17 = .ok (.istore_n 1, 1) := by decide +kernel
theorem d5_18 : decode jdk_33_method_47_code 18 = .ok (.iload_n 0, 1) := by decide +kernel
theorem d5_19 : decode jdk_33_method_47_code 19 = .ok (.ldc_w 264, 3) := by decide +kernel
theorem d5_22 : decode jdk_33_method_47_code 22 = .ok (.if_icmp .lt 11, 3) := by decide +kernel
theorem d5_25 : decode jdk_33_method_47_code 25 = .ok (.iinc 1 (-16), 3) := by decide +kernel
theorem d5_28 : decode jdk_33_method_47_code 28 = .ok (.iload_n 0, 1) := by decide +kernel
theorem d5_29 : decode jdk_33_method_47_code 29 = .ok (.bipush 16, 2) := by decide +kernel
theorem d5_31 : decode jdk_33_method_47_code 31 = .ok (.iushr, 1) := by decide +kernel
theorem d5_32 : decode jdk_33_method_47_code 32 = .ok (.istore_n 0, 1) := by decide +kernel
theorem d5_33 : decode jdk_33_method_47_code 33 = .ok (.iload_n 0, 1) := by decide +kernel
theorem d5_34 : decode jdk_33_method_47_code 34 = .ok (.sipush 256, 3) := by decide +kernel
theorem d5_37 : decode jdk_33_method_47_code 37 = .ok (.if_icmp .lt 11, 3) := by decide +kernel
theorem d5_40 : decode jdk_33_method_47_code 40 = .ok (.iinc 1 (-8), 3) := by decide +kernel
theorem d5_43 : decode jdk_33_method_47_code 43 = .ok (.iload_n 0, 1) := by decide +kernel
theorem d5_44 : decode jdk_33_method_47_code 44 = .ok (.bipush 8, 2) := by decide +kernel
theorem d5_46 : decode jdk_33_method_47_code 46 = .ok (.iushr, 1) := by decide +kernel
theorem d5_47 : decode jdk_33_method_47_code 47 = .ok (.istore_n 0, 1) := by decide +kernel
theorem d5_48 : decode jdk_33_method_47_code 48 = .ok (.iload_n 0, 1) := by decide +kernel
theorem d5_49 : decode jdk_33_method_47_code 49 = .ok (.bipush 16, 2) := by decide +kernel
theorem d5_51 : decode jdk_33_method_47_code 51 = .ok (.if_icmp .lt 10, 3) := by decide +kernel
theorem d5_54 : decode jdk_33_method_47_code 54 = .ok (.iinc 1 (-4), 3) := by decide +kernel
theorem d5_57 : decode jdk_33_method_47_code 57 = .ok (.iload_n 0, 1) := by decide +kernel
theorem d5_58 : decode jdk_33_method_47_code 58 = .ok (.iconst 4, 1) := by decide +kernel
theorem d5_59 : decode jdk_33_method_47_code 59 = .ok (.iushr, 1) := by decide +kernel
theorem d5_60 : decode jdk_33_method_47_code 60 = .ok (.istore_n 0, 1) := by decide +kernel
theorem d5_61 : decode jdk_33_method_47_code 61 = .ok (.iload_n 0, 1) := by decide +kernel
theorem d5_62 : decode jdk_33_method_47_code 62 = .ok (.iconst 4, 1) := by decide +kernel
theorem d5_63 : decode jdk_33_method_47_code 63 = .ok (.if_icmp .lt 10, 3) := by decide +kernel
theorem d5_66 : decode jdk_33_method_47_code 66 = .ok (.iinc 1 (-2), 3) := by decide +kernel
theorem d5_69 : decode jdk_33_method_47_code 69 = .ok (.iload_n 0, 1) := by decide +kernel
theorem d5_70 : decode jdk_33_method_47_code 70 = .ok (.iconst 2, 1) := by decide +kernel
theorem d5_71 : decode jdk_33_method_47_code 71 = .ok (.iushr, 1) := by decide +kernel
theorem d5_72 : decode jdk_33_method_47_code 72 = .ok (.istore_n 0, 1) := by decide +kernel
theorem d5_73 : decode jdk_33_method_47_code 73 = .ok (.iload_n 1, 1) := by decide +kernel
theorem d5_74 : decode jdk_33_method_47_code 74 = .ok (.iload_n 0, 1) := by decide +kernel
theorem d5_75 : decode jdk_33_method_47_code 75 = .ok (.iconst 1, 1) := by decide +kernel
theorem d5_76 : decode jdk_33_method_47_code 76 = .ok (.iushr, 1) := by decide +kernel
theorem d5_77 : decode jdk_33_method_47_code 77 = .ok (.isub, 1) := by decide +kernel
theorem d5_78 : decode jdk_33_method_47_code 78 = .ok (.ireturn, 1) := by decide +kernel
theorem pn_5 : plainName "java/lang/Integer" = true := by first | (simp [plainName, overriddenIn]; done) | decide +kernel
theorem ef_Nlz (m : MethodId) (p1 : Int32) : entryFrame m #[(.int p1)] 2 = mkF m 0 #[.val (.int p1), .unset] [] := by first | (simp [entryFrame, mkF, argsToLocals, Value.category]; done) | rfl
def QNlz (Z : State) (p1 : Int32) (h0 : Heap) (n0 : Nat) (v : Option Value) (h : Heap) (L : List Loc) : Prop := v = some (.int (nlzI p1)) ∧ Fr n0 L ∧ h = h0
set_option maxRecDepth 65536 in
set_option maxHeartbeats 40000000 in
theorem rmNlz (l : Launch) (Z : State) (a0 : Array Value) (hw : ∀ d ∈ tables_1, d.before a0 Z = true) (ws : List Jvm.Cond) (p1 : Int32) (h0 : Heap) (n0 : Nat) (Z0 : n0 ≤ h0.size) :
    MetFree l (⟨"java/lang/Integer", "numberOfLeadingZeros", "(I)I"⟩ : MethodName) (head1 (Jvm.Cond.code (⟨"java/lang/Integer", "numberOfLeadingZeros", "(I)I"⟩ : MethodName) jdk_33_method_47_code 2 (some .int) :: ws) ({ frames := 0, cells := 0, slots := 0, locals := 0 } : Room)) (fun a U => a = #[(.int p1)] ∧ Z.Warmed39 U.vm ∧ U.heap = h0) (fun _ _ _ _ _ => True) (fun _ U o U' => ∃ v L, o = .returned v ∧ QNlz Z p1 h0 n0 v U'.heap L ∧ FrameEnd U o U' L ({ frames := 0, cells := 0, slots := 0, locals := 0 } : Room).cells ({ frames := 0, cells := 0, slots := 0, locals := 0 } : Room).slots) := by
  refine MetFree.of_bodySF (plainFor_of_name pn_5) hisR ?_
  intro p e s m args below meth c s₁ Bd hml0 hP hK
  obtain ⟨rfl, hZ, hh⟩ := hP
  have hx := Bd.exec
  have hby := Bd.bytes
  have hml : c.maxLocals = 2 := hml0
  have hown : s.vm.findClass "java/lang/Integer" = some m.cls := findClass_of_methodNamed Bd.named
  have hnm := (name_of_methodNamed Bd.named Bd.method).1
  have X0 : Stand p l e ({ frames := 0, cells := 0, slots := 0, locals := 0 } : Room) s m #[(.int p1)] below meth c s₁ [] 0 0 := Stand.of_body Bd
  have hs0 : h0 = s.heap := hh.symm
  have e0 : s₁.heap = h0 := by rw [← hh, Bd.state]; rfl
  have N0 := Fr.nil n0
  obtain ⟨f0, hf0⟩ : ∃ f, f = entryFrame m #[(.int p1)] 2 := ⟨_, rfl⟩
  have pre0 : ∀ t, Steps p.tables e below (s₁.setTop f0) t → Steps p.tables e below (s₁.setTop (entryFrame m #[(.int p1)] 2)) t := fun t k => hf0 ▸ k
  have K0 : Gx p e below s₁ f0 s₁ (mkF m 0 #[.val (.int p1), .unset] []) := fun t kt => by rw [hf0]; exact castTop (ef_Nlz m p1) kt
  have K1 : Gx p e below s₁ f0 s₁ (mkF m 1 #[.val (.int p1), .unset] [(.int p1)]) := fun t kt => K0 t (by
    show Steps p.tables e below (s₁.setTop (mkF m 0 #[.val (.int p1), .unset] [])) _
    refine XS.iloadN X0.here hx rfl (hb hby d5_0) rfl ?_
    exact kt)
  by_cases hb2 : (0 : Int32) < p1
  · skip
    have K6 : Gx p e below s₁ f0 s₁ (mkF m 22 #[.val (.int p1), .val (.int (31 : Int32))] [(.int (65536 : Int32)), (.int p1)]) := fun t kt => K1 t (by
      show Steps p.tables e below (s₁.setTop (mkF m 1 #[.val (.int p1), .unset] [(.int p1)])) _
      refine XS.ifYes X0.here hx rfl (pc0 := 1) (pc' := 15) rfl (hb hby d5_1) rfl ((if0 _ _).trans (tlt hb2).2.2.1) (by decide) (by decide) ?_
      show Steps p.tables e below (s₁.setTop (mkF m 15 #[.val (.int p1), .unset] [])) _
      refine XS.bipush X0.here hx rfl (hb hby d5_15) ?_
      show Steps p.tables e below (s₁.setTop (mkF m 17 #[.val (.int p1), .unset] [(.int (31 : Int32))])) _
      refine XS.istoreN X0.here hx rfl (hb hby d5_17) rfl (l' := #[.val (.int p1), .val (.int (31 : Int32))]) rfl ?_
      show Steps p.tables e below (s₁.setTop (mkF m 18 #[.val (.int p1), .val (.int (31 : Int32))] [])) _
      refine XS.iloadN X0.here hx rfl (hb hby d5_18) rfl ?_
      show Steps p.tables e below (s₁.setTop (mkF m 19 #[.val (.int p1), .val (.int (31 : Int32))] [(.int p1)])) _
      refine X0.ldcwInt hx hown (mvT hZ (hw _ (List.mem_of_getElem? (i := 22) rfl))) (g := (mkF m 19 #[.val (.int p1), .val (.int (31 : Int32))] [(.int p1)])) rfl (hb hby d5_19) _ ?_
      exact kt)
    obtain ⟨v4, hv4⟩ : ∃ z : Int32, z = (if p1 < (65536 : Int32) then p1 else ((p1.toUInt32 >>> ((16 : Int32) &&& 31).toUInt32).toInt32)) := ⟨_, rfl⟩
    obtain ⟨v5, hv5⟩ : ∃ z : Int32, z = (if p1 < (65536 : Int32) then (31 : Int32) else (15 : Int32)) := ⟨_, rfl⟩
    have K7 : Gx p e below s₁ f0 s₁ (mkF m 33 #[.val (.int v4), .val (.int v5)] []) := fun t kt => K6 t (by
      by_cases hc22_2 : p1 < (65536 : Int32)
      · skip
        show Steps p.tables e below (s₁.setTop (mkF m 22 #[.val (.int p1), .val (.int (31 : Int32))] [(.int (65536 : Int32)), (.int p1)])) _
        refine XS.icmpYes X0.here hx rfl (pc0 := 22) (pc' := 33) rfl (hb hby d5_22) rfl (tlt hc22_2).1 (by decide) (by decide) ?_
        show Steps p.tables e below (s₁.setTop (mkF m 33 #[.val (.int p1), .val (.int (31 : Int32))] [])) _
        exact castTop (by simp only [hv4, hv5, if_pos hc22_2]) kt
      · skip
        show Steps p.tables e below (s₁.setTop (mkF m 22 #[.val (.int p1), .val (.int (31 : Int32))] [(.int (65536 : Int32)), (.int p1)])) _
        refine XS.icmpNo X0.here hx rfl (hb hby d5_22) rfl (flt hc22_2).1 ?_
        show Steps p.tables e below (s₁.setTop (mkF m 25 #[.val (.int p1), .val (.int (31 : Int32))] [])) _
        refine XS.iinc X0.here hx rfl (hb hby d5_25) rfl (l' := #[.val (.int p1), .val (.int (15 : Int32))]) rfl ?_
        show Steps p.tables e below (s₁.setTop (mkF m 28 #[.val (.int p1), .val (.int (15 : Int32))] [])) _
        refine XS.iloadN X0.here hx rfl (hb hby d5_28) rfl ?_
        show Steps p.tables e below (s₁.setTop (mkF m 29 #[.val (.int p1), .val (.int (15 : Int32))] [(.int p1)])) _
        refine XS.bipush X0.here hx rfl (hb hby d5_29) ?_
        show Steps p.tables e below (s₁.setTop (mkF m 31 #[.val (.int p1), .val (.int (15 : Int32))] [(.int (16 : Int32)), (.int p1)])) _
        refine XS.iushr X0.here hx rfl (hb hby d5_31) rfl ?_
        show Steps p.tables e below (s₁.setTop (mkF m 32 #[.val (.int p1), .val (.int (15 : Int32))] [(.int ((p1.toUInt32 >>> ((16 : Int32) &&& 31).toUInt32).toInt32))])) _
        refine XS.istoreN X0.here hx rfl (hb hby d5_32) rfl (l' := #[.val (.int ((p1.toUInt32 >>> ((16 : Int32) &&& 31).toUInt32).toInt32)), .val (.int (15 : Int32))]) rfl ?_
        show Steps p.tables e below (s₁.setTop (mkF m 33 #[.val (.int ((p1.toUInt32 >>> ((16 : Int32) &&& 31).toUInt32).toInt32)), .val (.int (15 : Int32))] [])) _
        exact castTop (by simp only [hv4, hv5, if_neg hc22_2]) kt)
    have K11 : Gx p e below s₁ f0 s₁ (mkF m 37 #[.val (.int v4), .val (.int v5)] [(.int (256 : Int32)), (.int v4)]) := fun t kt => K7 t (by
      show Steps p.tables e below (s₁.setTop (mkF m 33 #[.val (.int v4), .val (.int v5)] [])) _
      refine XS.iloadN X0.here hx rfl (hb hby d5_33) rfl ?_
      show Steps p.tables e below (s₁.setTop (mkF m 34 #[.val (.int v4), .val (.int v5)] [(.int v4)])) _
      refine XS.sipush X0.here hx rfl (hb hby d5_34) ?_
      exact kt)
    obtain ⟨v9, hv9⟩ : ∃ z : Int32, z = (if v4 < (256 : Int32) then v4 else ((v4.toUInt32 >>> ((8 : Int32) &&& 31).toUInt32).toInt32)) := ⟨_, rfl⟩
    obtain ⟨v10, hv10⟩ : ∃ z : Int32, z = (if v4 < (256 : Int32) then v5 else (v5 + (-8 : Int32))) := ⟨_, rfl⟩
    have K12 : Gx p e below s₁ f0 s₁ (mkF m 48 #[.val (.int v9), .val (.int v10)] []) := fun t kt => K11 t (by
      by_cases hc37_7 : v4 < (256 : Int32)
      · skip
        show Steps p.tables e below (s₁.setTop (mkF m 37 #[.val (.int v4), .val (.int v5)] [(.int (256 : Int32)), (.int v4)])) _
        refine XS.icmpYes X0.here hx rfl (pc0 := 37) (pc' := 48) rfl (hb hby d5_37) rfl (tlt hc37_7).1 (by decide) (by decide) ?_
        show Steps p.tables e below (s₁.setTop (mkF m 48 #[.val (.int v4), .val (.int v5)] [])) _
        exact castTop (by simp only [hv9, hv10, if_pos hc37_7]) kt
      · skip
        show Steps p.tables e below (s₁.setTop (mkF m 37 #[.val (.int v4), .val (.int v5)] [(.int (256 : Int32)), (.int v4)])) _
        refine XS.icmpNo X0.here hx rfl (hb hby d5_37) rfl (flt hc37_7).1 ?_
        show Steps p.tables e below (s₁.setTop (mkF m 40 #[.val (.int v4), .val (.int v5)] [])) _
        refine XS.iinc X0.here hx rfl (hb hby d5_40) rfl (l' := #[.val (.int v4), .val (.int (v5 + (-8 : Int32)))]) rfl ?_
        show Steps p.tables e below (s₁.setTop (mkF m 43 #[.val (.int v4), .val (.int (v5 + (-8 : Int32)))] [])) _
        refine XS.iloadN X0.here hx rfl (hb hby d5_43) rfl ?_
        show Steps p.tables e below (s₁.setTop (mkF m 44 #[.val (.int v4), .val (.int (v5 + (-8 : Int32)))] [(.int v4)])) _
        refine XS.bipush X0.here hx rfl (hb hby d5_44) ?_
        show Steps p.tables e below (s₁.setTop (mkF m 46 #[.val (.int v4), .val (.int (v5 + (-8 : Int32)))] [(.int (8 : Int32)), (.int v4)])) _
        refine XS.iushr X0.here hx rfl (hb hby d5_46) rfl ?_
        show Steps p.tables e below (s₁.setTop (mkF m 47 #[.val (.int v4), .val (.int (v5 + (-8 : Int32)))] [(.int ((v4.toUInt32 >>> ((8 : Int32) &&& 31).toUInt32).toInt32))])) _
        refine XS.istoreN X0.here hx rfl (hb hby d5_47) rfl (l' := #[.val (.int ((v4.toUInt32 >>> ((8 : Int32) &&& 31).toUInt32).toInt32)), .val (.int (v5 + (-8 : Int32)))]) rfl ?_
        show Steps p.tables e below (s₁.setTop (mkF m 48 #[.val (.int ((v4.toUInt32 >>> ((8 : Int32) &&& 31).toUInt32).toInt32)), .val (.int (v5 + (-8 : Int32)))] [])) _
        exact castTop (by simp only [hv9, hv10, if_neg hc37_7]) kt)
    have K16 : Gx p e below s₁ f0 s₁ (mkF m 51 #[.val (.int v9), .val (.int v10)] [(.int (16 : Int32)), (.int v9)]) := fun t kt => K12 t (by
      show Steps p.tables e below (s₁.setTop (mkF m 48 #[.val (.int v9), .val (.int v10)] [])) _
      refine XS.iloadN X0.here hx rfl (hb hby d5_48) rfl ?_
      show Steps p.tables e below (s₁.setTop (mkF m 49 #[.val (.int v9), .val (.int v10)] [(.int v9)])) _
      refine XS.bipush X0.here hx rfl (hb hby d5_49) ?_
      exact kt)
    obtain ⟨v14, hv14⟩ : ∃ z : Int32, z = (if v9 < (16 : Int32) then v9 else ((v9.toUInt32 >>> ((4 : Int32) &&& 31).toUInt32).toInt32)) := ⟨_, rfl⟩
    obtain ⟨v15, hv15⟩ : ∃ z : Int32, z = (if v9 < (16 : Int32) then v10 else (v10 + (-4 : Int32))) := ⟨_, rfl⟩
    have K17 : Gx p e below s₁ f0 s₁ (mkF m 61 #[.val (.int v14), .val (.int v15)] []) := fun t kt => K16 t (by
      by_cases hc51_12 : v9 < (16 : Int32)
      · skip
        show Steps p.tables e below (s₁.setTop (mkF m 51 #[.val (.int v9), .val (.int v10)] [(.int (16 : Int32)), (.int v9)])) _
        refine XS.icmpYes X0.here hx rfl (pc0 := 51) (pc' := 61) rfl (hb hby d5_51) rfl (tlt hc51_12).1 (by decide) (by decide) ?_
        show Steps p.tables e below (s₁.setTop (mkF m 61 #[.val (.int v9), .val (.int v10)] [])) _
        exact castTop (by simp only [hv14, hv15, if_pos hc51_12]) kt
      · skip
        show Steps p.tables e below (s₁.setTop (mkF m 51 #[.val (.int v9), .val (.int v10)] [(.int (16 : Int32)), (.int v9)])) _
        refine XS.icmpNo X0.here hx rfl (hb hby d5_51) rfl (flt hc51_12).1 ?_
        show Steps p.tables e below (s₁.setTop (mkF m 54 #[.val (.int v9), .val (.int v10)] [])) _
        refine XS.iinc X0.here hx rfl (hb hby d5_54) rfl (l' := #[.val (.int v9), .val (.int (v10 + (-4 : Int32)))]) rfl ?_
        show Steps p.tables e below (s₁.setTop (mkF m 57 #[.val (.int v9), .val (.int (v10 + (-4 : Int32)))] [])) _
        refine XS.iloadN X0.here hx rfl (hb hby d5_57) rfl ?_
        show Steps p.tables e below (s₁.setTop (mkF m 58 #[.val (.int v9), .val (.int (v10 + (-4 : Int32)))] [(.int v9)])) _
        refine XS.iconst X0.here hx rfl (hb hby d5_58) ?_
        show Steps p.tables e below (s₁.setTop (mkF m 59 #[.val (.int v9), .val (.int (v10 + (-4 : Int32)))] [(.int (4 : Int32)), (.int v9)])) _
        refine XS.iushr X0.here hx rfl (hb hby d5_59) rfl ?_
        show Steps p.tables e below (s₁.setTop (mkF m 60 #[.val (.int v9), .val (.int (v10 + (-4 : Int32)))] [(.int ((v9.toUInt32 >>> ((4 : Int32) &&& 31).toUInt32).toInt32))])) _
        refine XS.istoreN X0.here hx rfl (hb hby d5_60) rfl (l' := #[.val (.int ((v9.toUInt32 >>> ((4 : Int32) &&& 31).toUInt32).toInt32)), .val (.int (v10 + (-4 : Int32)))]) rfl ?_
        show Steps p.tables e below (s₁.setTop (mkF m 61 #[.val (.int ((v9.toUInt32 >>> ((4 : Int32) &&& 31).toUInt32).toInt32)), .val (.int (v10 + (-4 : Int32)))] [])) _
        exact castTop (by simp only [hv14, hv15, if_neg hc51_12]) kt)
    have K21 : Gx p e below s₁ f0 s₁ (mkF m 63 #[.val (.int v14), .val (.int v15)] [(.int (4 : Int32)), (.int v14)]) := fun t kt => K17 t (by
      show Steps p.tables e below (s₁.setTop (mkF m 61 #[.val (.int v14), .val (.int v15)] [])) _
      refine XS.iloadN X0.here hx rfl (hb hby d5_61) rfl ?_
      show Steps p.tables e below (s₁.setTop (mkF m 62 #[.val (.int v14), .val (.int v15)] [(.int v14)])) _
      refine XS.iconst X0.here hx rfl (hb hby d5_62) ?_
      exact kt)
    obtain ⟨v19, hv19⟩ : ∃ z : Int32, z = (if v14 < (4 : Int32) then v14 else ((v14.toUInt32 >>> ((2 : Int32) &&& 31).toUInt32).toInt32)) := ⟨_, rfl⟩
    obtain ⟨v20, hv20⟩ : ∃ z : Int32, z = (if v14 < (4 : Int32) then v15 else (v15 + (-2 : Int32))) := ⟨_, rfl⟩
    have K22 : Gx p e below s₁ f0 s₁ (mkF m 73 #[.val (.int v19), .val (.int v20)] []) := fun t kt => K21 t (by
      by_cases hc63_17 : v14 < (4 : Int32)
      · skip
        show Steps p.tables e below (s₁.setTop (mkF m 63 #[.val (.int v14), .val (.int v15)] [(.int (4 : Int32)), (.int v14)])) _
        refine XS.icmpYes X0.here hx rfl (pc0 := 63) (pc' := 73) rfl (hb hby d5_63) rfl (tlt hc63_17).1 (by decide) (by decide) ?_
        show Steps p.tables e below (s₁.setTop (mkF m 73 #[.val (.int v14), .val (.int v15)] [])) _
        exact castTop (by simp only [hv19, hv20, if_pos hc63_17]) kt
      · skip
        show Steps p.tables e below (s₁.setTop (mkF m 63 #[.val (.int v14), .val (.int v15)] [(.int (4 : Int32)), (.int v14)])) _
        refine XS.icmpNo X0.here hx rfl (hb hby d5_63) rfl (flt hc63_17).1 ?_
        show Steps p.tables e below (s₁.setTop (mkF m 66 #[.val (.int v14), .val (.int v15)] [])) _
        refine XS.iinc X0.here hx rfl (hb hby d5_66) rfl (l' := #[.val (.int v14), .val (.int (v15 + (-2 : Int32)))]) rfl ?_
        show Steps p.tables e below (s₁.setTop (mkF m 69 #[.val (.int v14), .val (.int (v15 + (-2 : Int32)))] [])) _
        refine XS.iloadN X0.here hx rfl (hb hby d5_69) rfl ?_
        show Steps p.tables e below (s₁.setTop (mkF m 70 #[.val (.int v14), .val (.int (v15 + (-2 : Int32)))] [(.int v14)])) _
        refine XS.iconst X0.here hx rfl (hb hby d5_70) ?_
        show Steps p.tables e below (s₁.setTop (mkF m 71 #[.val (.int v14), .val (.int (v15 + (-2 : Int32)))] [(.int (2 : Int32)), (.int v14)])) _
        refine XS.iushr X0.here hx rfl (hb hby d5_71) rfl ?_
        show Steps p.tables e below (s₁.setTop (mkF m 72 #[.val (.int v14), .val (.int (v15 + (-2 : Int32)))] [(.int ((v14.toUInt32 >>> ((2 : Int32) &&& 31).toUInt32).toInt32))])) _
        refine XS.istoreN X0.here hx rfl (hb hby d5_72) rfl (l' := #[.val (.int ((v14.toUInt32 >>> ((2 : Int32) &&& 31).toUInt32).toInt32)), .val (.int (v15 + (-2 : Int32)))]) rfl ?_
        show Steps p.tables e below (s₁.setTop (mkF m 73 #[.val (.int ((v14.toUInt32 >>> ((2 : Int32) &&& 31).toUInt32).toInt32)), .val (.int (v15 + (-2 : Int32)))] [])) _
        exact castTop (by simp only [hv19, hv20, if_neg hc63_17]) kt)
    have K23 : Gx p e below s₁ f0 s₁ (mkF m 78 #[.val (.int v19), .val (.int v20)] [(.int (v20 - ((v19.toUInt32 >>> ((1 : Int32) &&& 31).toUInt32).toInt32)))]) := fun t kt => K22 t (by
      show Steps p.tables e below (s₁.setTop (mkF m 73 #[.val (.int v19), .val (.int v20)] [])) _
      refine XS.iloadN X0.here hx rfl (hb hby d5_73) rfl ?_
      show Steps p.tables e below (s₁.setTop (mkF m 74 #[.val (.int v19), .val (.int v20)] [(.int v20)])) _
      refine XS.iloadN X0.here hx rfl (hb hby d5_74) rfl ?_
      show Steps p.tables e below (s₁.setTop (mkF m 75 #[.val (.int v19), .val (.int v20)] [(.int v19), (.int v20)])) _
      refine XS.iconst X0.here hx rfl (hb hby d5_75) ?_
      show Steps p.tables e below (s₁.setTop (mkF m 76 #[.val (.int v19), .val (.int v20)] [(.int (1 : Int32)), (.int v19), (.int v20)])) _
      refine XS.iushr X0.here hx rfl (hb hby d5_76) rfl ?_
      show Steps p.tables e below (s₁.setTop (mkF m 77 #[.val (.int v19), .val (.int v20)] [(.int ((v19.toUInt32 >>> ((1 : Int32) &&& 31).toUInt32).toInt32)), (.int v20)])) _
      refine XS.isub X0.here hx rfl (hb hby d5_77) rfl ?_
      exact kt)
    obtain ⟨fs24, hr24, hrun24, hended24, hW24, hsame24⟩ := X0.leave (v := some (.int (v20 - ((v19.toUInt32 >>> ((1 : Int32) &&& 31).toUInt32).toInt32)))) (fun h => by rw [Bd.returns] at h; cases h)
    refine ⟨_, _, pre0 _ (K23 _ ?_), hrun24, hended24, _, _, rfl, ?_, ⟨_, rfl⟩, hW24, hsame24.mono (by decide) (by decide)⟩
    · exact retI X0 hx Bd.returns (hb hby d5_78) hr24
    · show QNlz Z p1 h0 n0 _ s₁.heap _
      rw [e0]
      exact ⟨(congrArg some (congrArg Value.int (by rw [nlzI, if_pos hb2]; subst hv20 hv19 hv15 hv14 hv10 hv9 hv5 hv4; rfl))), N0, rfl⟩
  · skip
    have K27 : Gx p e below s₁ f0 s₁ (mkF m 5 #[.val (.int p1), .unset] [(.int p1)]) := fun t kt => K1 t (by
      show Steps p.tables e below (s₁.setTop (mkF m 1 #[.val (.int p1), .unset] [(.int p1)])) _
      refine XS.ifNo X0.here hx rfl (hb hby d5_1) rfl ((if0 _ _).trans (flt hb2).2.2.1) ?_
      show Steps p.tables e below (s₁.setTop (mkF m 4 #[.val (.int p1), .unset] [])) _
      refine XS.iloadN X0.here hx rfl (hb hby d5_4) rfl ?_
      exact kt)
    obtain ⟨v26, hv26⟩ : ∃ z : Int32, z = (if p1 = (0 : Int32) then (32 : Int32) else (0 : Int32)) := ⟨_, rfl⟩
    have K28 : Gx p e below s₁ f0 s₁ (mkF m 14 #[.val (.int p1), .unset] [(.int v26)]) := fun t kt => K27 t (by
      by_cases hc5_24 : p1 = (0 : Int32)
      · skip
        show Steps p.tables e below (s₁.setTop (mkF m 5 #[.val (.int p1), .unset] [(.int p1)])) _
        refine XS.ifNo X0.here hx rfl (hb hby d5_5) rfl ((if0 _ _).trans (teq hc5_24).2) ?_
        show Steps p.tables e below (s₁.setTop (mkF m 8 #[.val (.int p1), .unset] [])) _
        refine XS.bipush X0.here hx rfl (hb hby d5_8) ?_
        show Steps p.tables e below (s₁.setTop (mkF m 10 #[.val (.int p1), .unset] [(.int (32 : Int32))])) _
        refine XS.goto X0.here hx rfl (pc0 := 10) (pc' := 14) rfl (hb hby d5_10) (by decide) (by decide) ?_
        show Steps p.tables e below (s₁.setTop (mkF m 14 #[.val (.int p1), .unset] [(.int (32 : Int32))])) _
        exact castTop (by simp only [hv26, if_pos hc5_24]) kt
      · skip
        show Steps p.tables e below (s₁.setTop (mkF m 5 #[.val (.int p1), .unset] [(.int p1)])) _
        refine XS.ifYes X0.here hx rfl (pc0 := 5) (pc' := 13) rfl (hb hby d5_5) rfl ((if0 _ _).trans (feq hc5_24).2) (by decide) (by decide) ?_
        show Steps p.tables e below (s₁.setTop (mkF m 13 #[.val (.int p1), .unset] [])) _
        refine XS.iconst X0.here hx rfl (hb hby d5_13) ?_
        show Steps p.tables e below (s₁.setTop (mkF m 14 #[.val (.int p1), .unset] [(.int (0 : Int32))])) _
        exact castTop (by simp only [hv26, if_neg hc5_24]) kt)
    obtain ⟨fs29, hr29, hrun29, hended29, hW29, hsame29⟩ := X0.leave (v := some (.int v26)) (fun h => by rw [Bd.returns] at h; cases h)
    refine ⟨_, _, pre0 _ (K28 _ ?_), hrun29, hended29, _, _, rfl, ?_, ⟨_, rfl⟩, hW29, hsame29.mono (by decide) (by decide)⟩
    · exact retI X0 hx Bd.returns (hb hby d5_14) hr29
    · show QNlz Z p1 h0 n0 _ s₁.heap _
      rw [e0]
      exact ⟨(congrArg some (congrArg Value.int (by rw [nlzI, if_neg hb2]; subst hv26; rfl))), N0, rfl⟩
theorem d4_0 : decode jdk_35_method_48_code 0 = .ok (.lload_n 0, 1) := by decide +kernel
theorem d4_1 : decode jdk_35_method_48_code 1 = .ok (.bipush 32, 2) := by decide +kernel
theorem d4_3 : decode jdk_35_method_48_code 3 = .ok (.lushr, 1) := by decide +kernel
theorem d4_4 : decode jdk_35_method_48_code 4 = .ok (.l2i, 1) := by decide +kernel
theorem d4_5 : decode jdk_35_method_48_code 5 = .ok (.istore_n 2, 1) := by decide +kernel
theorem d4_6 : decode jdk_35_method_48_code 6 = .ok (.iload_n 2, 1) := by decide +kernel
theorem d4_7 : decode jdk_35_method_48_code 7 = .ok (.ifCond .ne 14, 3) := by decide +kernel
theorem d4_10 : decode jdk_35_method_48_code 10 = .ok (.bipush 32, 2) := by decide +kernel
theorem d4_12 : decode jdk_35_method_48_code 12 = .ok (.lload_n 0, 1) := by decide +kernel
theorem d4_13 : decode jdk_35_method_48_code 13 = .ok (.l2i, 1) := by decide +kernel
theorem d4_14 : decode jdk_35_method_48_code 14 = .ok (.invokestatic 308, 3) := by decide +kernel
theorem d4_17 : decode jdk_35_method_48_code 17 = .ok (.iadd, 1) := by decide +kernel
theorem d4_18 : decode jdk_35_method_48_code 18 = .ok (.goto 7, 3) := by decide +kernel
theorem d4_21 : decode jdk_35_method_48_code 21 = .ok (.iload_n 2, 1) := by decide +kernel
theorem d4_22 : decode jdk_35_method_48_code 22 = .ok (.invokestatic 308, 3) := by decide +kernel
theorem d4_25 : decode jdk_35_method_48_code 25 = .ok (.ireturn, 1) := by decide +kernel
theorem pn_4 : plainName "java/lang/Long" = true := by first | (simp [plainName, overriddenIn]; done) | decide +kernel
theorem pd__I_I : parseMethodDescriptor "(I)I" = some ⟨[.int], some .int⟩ := by decide +kernel
theorem ef_Nlj (m : MethodId) (p1 : Int64) : entryFrame m #[(.long p1)] 3 = mkF m 0 #[.val (.long p1), .second, .unset] [] := by first | (simp [entryFrame, mkF, argsToLocals, Value.category]; done) | rfl
def QNlj (Z : State) (p1 : Int64) (h0 : Heap) (n0 : Nat) (v : Option Value) (h : Heap) (L : List Loc) : Prop := v = some (.int (nlzJ p1)) ∧ Fr n0 L ∧ h = h0
set_option maxRecDepth 65536 in
set_option maxHeartbeats 40000000 in
theorem rmNlj (l : Launch) (Z : State) (a0 : Array Value) (hw : ∀ d ∈ tables_1, d.before a0 Z = true) (ws : List Jvm.Cond) (p1 : Int64) (h0 : Heap) (n0 : Nat) (Z0 : n0 ≤ h0.size) :
    MetFree l (⟨"java/lang/Long", "numberOfLeadingZeros", "(J)I"⟩ : MethodName) (head1 (Jvm.Cond.code (⟨"java/lang/Long", "numberOfLeadingZeros", "(J)I"⟩ : MethodName) jdk_35_method_48_code 3 (some .int) :: ws) ({ frames := 1, cells := 0, slots := 0, locals := 14 } : Room)) (fun a U => a = #[(.long p1)] ∧ Z.Warmed39 U.vm ∧ U.heap = h0) (fun _ _ _ _ _ => True) (fun _ U o U' => ∃ v L, o = .returned v ∧ QNlj Z p1 h0 n0 v U'.heap L ∧ FrameEnd U o U' L ({ frames := 1, cells := 0, slots := 0, locals := 14 } : Room).cells ({ frames := 1, cells := 0, slots := 0, locals := 14 } : Room).slots) := by
  refine MetFree.of_bodySF (plainFor_of_name pn_4) hisR ?_
  intro p e s m args below meth c s₁ Bd hml0 hP hK
  obtain ⟨rfl, hZ, hh⟩ := hP
  have hx := Bd.exec
  have hby := Bd.bytes
  have hml : c.maxLocals = 3 := hml0
  have hown : s.vm.findClass "java/lang/Long" = some m.cls := findClass_of_methodNamed Bd.named
  have hnm := (name_of_methodNamed Bd.named Bd.method).1
  have X0 : Stand p l e ({ frames := 1, cells := 0, slots := 0, locals := 14 } : Room) s m #[(.long p1)] below meth c s₁ [] 0 0 := Stand.of_body Bd
  have hs0 : h0 = s.heap := hh.symm
  have e0 : s₁.heap = h0 := by rw [← hh, Bd.state]; rfl
  have N0 := Fr.nil n0
  obtain ⟨f0, hf0⟩ : ∃ f, f = entryFrame m #[(.long p1)] 3 := ⟨_, rfl⟩
  have pre0 : ∀ t, Steps p.tables e below (s₁.setTop f0) t → Steps p.tables e below (s₁.setTop (entryFrame m #[(.long p1)] 3)) t := fun t k => hf0 ▸ k
  have K0 : Gx p e below s₁ f0 s₁ (mkF m 0 #[.val (.long p1), .second, .unset] []) := fun t kt => by rw [hf0]; exact castTop (ef_Nlj m p1) kt
  have K1 : Gx p e below s₁ f0 s₁ (mkF m 7 #[.val (.long p1), .second, .val (.int (((p1.toUInt64 >>> ((32 : Int32) &&& 0x3f).toInt64.toUInt64).toInt64).toInt32))] [(.int (((p1.toUInt64 >>> ((32 : Int32) &&& 0x3f).toInt64.toUInt64).toInt64).toInt32))]) := fun t kt => K0 t (by
    show Steps p.tables e below (s₁.setTop (mkF m 0 #[.val (.long p1), .second, .unset] [])) _
    refine XS.lloadN X0.here hx rfl (hb hby d4_0) rfl ?_
    show Steps p.tables e below (s₁.setTop (mkF m 1 #[.val (.long p1), .second, .unset] [(.long p1)])) _
    refine XS.bipush X0.here hx rfl (hb hby d4_1) ?_
    show Steps p.tables e below (s₁.setTop (mkF m 3 #[.val (.long p1), .second, .unset] [(.int (32 : Int32)), (.long p1)])) _
    refine XS.lushr X0.here hx rfl (hb hby d4_3) rfl ?_
    show Steps p.tables e below (s₁.setTop (mkF m 4 #[.val (.long p1), .second, .unset] [(.long ((p1.toUInt64 >>> ((32 : Int32) &&& 0x3f).toInt64.toUInt64).toInt64))])) _
    refine XS.l2i X0.here hx rfl (hb hby d4_4) rfl ?_
    show Steps p.tables e below (s₁.setTop (mkF m 5 #[.val (.long p1), .second, .unset] [(.int (((p1.toUInt64 >>> ((32 : Int32) &&& 0x3f).toInt64.toUInt64).toInt64).toInt32))])) _
    refine XS.istoreN X0.here hx rfl (hb hby d4_5) rfl (l' := #[.val (.long p1), .second, .val (.int (((p1.toUInt64 >>> ((32 : Int32) &&& 0x3f).toInt64.toUInt64).toInt64).toInt32))]) rfl ?_
    show Steps p.tables e below (s₁.setTop (mkF m 6 #[.val (.long p1), .second, .val (.int (((p1.toUInt64 >>> ((32 : Int32) &&& 0x3f).toInt64.toUInt64).toInt64).toInt32))] [])) _
    refine XS.iloadN X0.here hx rfl (hb hby d4_6) rfl ?_
    exact kt)
  by_cases hb2 : (((p1.toUInt64 >>> ((32 : Int32) &&& 0x3f).toInt64.toUInt64).toInt64).toInt32) = (0 : Int32)
  · skip
    have K3 : Gx p e below s₁ f0 s₁ (mkF m 14 #[.val (.long p1), .second, .val (.int (((p1.toUInt64 >>> ((32 : Int32) &&& 0x3f).toInt64.toUInt64).toInt64).toInt32))] [(.int (p1.toInt32)), (.int (32 : Int32))]) := fun t kt => K1 t (by
      show Steps p.tables e below (s₁.setTop (mkF m 7 #[.val (.long p1), .second, .val (.int (((p1.toUInt64 >>> ((32 : Int32) &&& 0x3f).toInt64.toUInt64).toInt64).toInt32))] [(.int (((p1.toUInt64 >>> ((32 : Int32) &&& 0x3f).toInt64.toUInt64).toInt64).toInt32))])) _
      refine XS.ifNo X0.here hx rfl (hb hby d4_7) rfl ((if0 _ _).trans (teq hb2).2) ?_
      show Steps p.tables e below (s₁.setTop (mkF m 10 #[.val (.long p1), .second, .val (.int (((p1.toUInt64 >>> ((32 : Int32) &&& 0x3f).toInt64.toUInt64).toInt64).toInt32))] [])) _
      refine XS.bipush X0.here hx rfl (hb hby d4_10) ?_
      show Steps p.tables e below (s₁.setTop (mkF m 12 #[.val (.long p1), .second, .val (.int (((p1.toUInt64 >>> ((32 : Int32) &&& 0x3f).toInt64.toUInt64).toInt64).toInt32))] [(.int (32 : Int32))])) _
      refine XS.lloadN X0.here hx rfl (hb hby d4_12) rfl ?_
      show Steps p.tables e below (s₁.setTop (mkF m 13 #[.val (.long p1), .second, .val (.int (((p1.toUInt64 >>> ((32 : Int32) &&& 0x3f).toInt64.toUInt64).toInt64).toInt32))] [(.long p1), (.int (32 : Int32))])) _
      refine XS.l2i X0.here hx rfl (hb hby d4_13) rfl ?_
      exact kt)
    obtain ⟨_, _, ⟨T4, L4, k4, n4⟩, -, X4', ⟨Lc4, hQ4, l4, y4, z4⟩, st4⟩ := Jvm.LawKit.callS X0 hx (y := (⟨"java/lang/Integer", "numberOfLeadingZeros", "(I)I"⟩ : MethodName)) hown (mvT hZ (hw _ (List.mem_of_getElem? (i := 18) rfl))) (mvT hZ (hw _ (List.mem_of_getElem? (i := 19) rfl))) (mvT hZ (hw _ (List.mem_of_getElem? (i := 20) rfl))) (mvT hZ (hw _ (List.mem_of_getElem? (i := 21) rfl))) (by decide) (backOf (W := 1) (rmNlz l Z a0 hw [] (p1.toInt32) h0 n0 (Nat.le_trans Z0 (Keep.refl h0 []).1) ) hZ (hw _ (List.mem_of_getElem? (i := 21) rfl)) (hw _ (List.mem_of_getElem? (i := 20) rfl)) (by decide) (by decide)) (g := (mkF m 14 #[.val (.long p1), .second, .val (.int (((p1.toUInt64 >>> ((32 : Int32) &&& 0x3f).toInt64.toUInt64).toInt64).toInt32))] [(.int (p1.toInt32)), (.int (32 : Int32))])) rfl (by rw [hml]; rfl) (argsL := [(.int (p1.toInt32))]) (rest := [(.int (32 : Int32))]) (lenOf pd__I_I rfl) rfl (by show 2 * 0 + _ ≤ _; exact Nat.le_of_eq rfl) (hb hby d4_14) (fun _ _ => ⟨rfl, e0, (by decide : 0 + 0 ≤ _), (by decide : 0 + 0 ≤ _)⟩)
    dsimp only [Pt.U, Pt.locs, Pt.cells, Pt.slots] at X4' l4 y4 z4 st4 hQ4
    subst l4 y4 z4
    obtain ⟨rfl, N4q, e4⟩ := hQ4
    obtain ⟨lc4, X4, N4⟩ : ∃ lc, Stand p l e ({ frames := 1, cells := 0, slots := 0, locals := 14 } : Room) s m #[(.long p1)] below meth c T4 lc 0 0 ∧ Fr n0 lc := ⟨_, X4', Fr.app N0 N4q⟩
    have K5 : Gx p e below s₁ f0 T4 (mkF m 17 #[.val (.long p1), .second, .val (.int (((p1.toUInt64 >>> ((32 : Int32) &&& 0x3f).toInt64.toUInt64).toInt64).toInt32))] [(.int (nlzI (p1.toInt32))), (.int (32 : Int32))]) := fun t kt => K3 t (st4 t kt)
    have K6 : Gx p e below s₁ f0 T4 (mkF m 25 #[.val (.long p1), .second, .val (.int (((p1.toUInt64 >>> ((32 : Int32) &&& 0x3f).toInt64.toUInt64).toInt64).toInt32))] [(.int ((32 : Int32) + (nlzI (p1.toInt32))))]) := fun t kt => K5 t (by
      show Steps p.tables e below (T4.setTop (mkF m 17 #[.val (.long p1), .second, .val (.int (((p1.toUInt64 >>> ((32 : Int32) &&& 0x3f).toInt64.toUInt64).toInt64).toInt32))] [(.int (nlzI (p1.toInt32))), (.int (32 : Int32))])) _
      refine XS.iadd X4.here hx rfl (hb hby d4_17) rfl ?_
      show Steps p.tables e below (T4.setTop (mkF m 18 #[.val (.long p1), .second, .val (.int (((p1.toUInt64 >>> ((32 : Int32) &&& 0x3f).toInt64.toUInt64).toInt64).toInt32))] [(.int ((32 : Int32) + (nlzI (p1.toInt32))))])) _
      refine XS.goto X4.here hx rfl (pc0 := 18) (pc' := 25) rfl (hb hby d4_18) (by decide) (by decide) ?_
      exact kt)
    obtain ⟨fs7, hr7, hrun7, hended7, hW7, hsame7⟩ := X4.leave (v := some (.int ((32 : Int32) + (nlzI (p1.toInt32))))) (fun h => by rw [Bd.returns] at h; cases h)
    refine ⟨_, _, pre0 _ (K6 _ ?_), hrun7, hended7, _, _, rfl, ?_, ⟨_, rfl⟩, hW7, hsame7.mono (by decide) (by decide)⟩
    · exact retI X4 hx Bd.returns (hb hby d4_25) hr7
    · show QNlj Z p1 h0 n0 _ T4.heap _
      rw [e4]
      exact ⟨(congrArg some (congrArg Value.int (by unfold nlzJ hiF; rw [if_pos hb2]))), N4, rfl⟩
  · skip
    have K8 : Gx p e below s₁ f0 s₁ (mkF m 22 #[.val (.long p1), .second, .val (.int (((p1.toUInt64 >>> ((32 : Int32) &&& 0x3f).toInt64.toUInt64).toInt64).toInt32))] [(.int (((p1.toUInt64 >>> ((32 : Int32) &&& 0x3f).toInt64.toUInt64).toInt64).toInt32))]) := fun t kt => K1 t (by
      show Steps p.tables e below (s₁.setTop (mkF m 7 #[.val (.long p1), .second, .val (.int (((p1.toUInt64 >>> ((32 : Int32) &&& 0x3f).toInt64.toUInt64).toInt64).toInt32))] [(.int (((p1.toUInt64 >>> ((32 : Int32) &&& 0x3f).toInt64.toUInt64).toInt64).toInt32))])) _
      refine XS.ifYes X0.here hx rfl (pc0 := 7) (pc' := 21) rfl (hb hby d4_7) rfl ((if0 _ _).trans (feq hb2).2) (by decide) (by decide) ?_
      show Steps p.tables e below (s₁.setTop (mkF m 21 #[.val (.long p1), .second, .val (.int (((p1.toUInt64 >>> ((32 : Int32) &&& 0x3f).toInt64.toUInt64).toInt64).toInt32))] [])) _
      refine XS.iloadN X0.here hx rfl (hb hby d4_21) rfl ?_
      exact kt)
    obtain ⟨_, _, ⟨T9, L9, k9, n9⟩, -, X9', ⟨Lc9, hQ9, l9, y9, z9⟩, st9⟩ := Jvm.LawKit.callS X0 hx (y := (⟨"java/lang/Integer", "numberOfLeadingZeros", "(I)I"⟩ : MethodName)) hown (mvT hZ (hw _ (List.mem_of_getElem? (i := 18) rfl))) (mvT hZ (hw _ (List.mem_of_getElem? (i := 19) rfl))) (mvT hZ (hw _ (List.mem_of_getElem? (i := 20) rfl))) (mvT hZ (hw _ (List.mem_of_getElem? (i := 21) rfl))) (by decide) (backOf (W := 0) (rmNlz l Z a0 hw [] (((p1.toUInt64 >>> ((32 : Int32) &&& 0x3f).toInt64.toUInt64).toInt64).toInt32) h0 n0 (Nat.le_trans Z0 (Keep.refl h0 []).1) ) hZ (hw _ (List.mem_of_getElem? (i := 21) rfl)) (hw _ (List.mem_of_getElem? (i := 20) rfl)) (by decide) (by decide)) (g := (mkF m 22 #[.val (.long p1), .second, .val (.int (((p1.toUInt64 >>> ((32 : Int32) &&& 0x3f).toInt64.toUInt64).toInt64).toInt32))] [(.int (((p1.toUInt64 >>> ((32 : Int32) &&& 0x3f).toInt64.toUInt64).toInt64).toInt32))])) rfl (by rw [hml]; rfl) (argsL := [(.int (((p1.toUInt64 >>> ((32 : Int32) &&& 0x3f).toInt64.toUInt64).toInt64).toInt32))]) (rest := []) (lenOf pd__I_I rfl) rfl (by show 2 * 0 + _ ≤ _; exact Nat.le_of_eq rfl) (hb hby d4_22) (fun _ _ => ⟨rfl, e0, (by decide : 0 + 0 ≤ _), (by decide : 0 + 0 ≤ _)⟩)
    dsimp only [Pt.U, Pt.locs, Pt.cells, Pt.slots] at X9' l9 y9 z9 st9 hQ9
    subst l9 y9 z9
    obtain ⟨rfl, N9q, e9⟩ := hQ9
    obtain ⟨lc9, X9, N9⟩ : ∃ lc, Stand p l e ({ frames := 1, cells := 0, slots := 0, locals := 14 } : Room) s m #[(.long p1)] below meth c T9 lc 0 0 ∧ Fr n0 lc := ⟨_, X9', Fr.app N0 N9q⟩
    have K10 : Gx p e below s₁ f0 T9 (mkF m 25 #[.val (.long p1), .second, .val (.int (((p1.toUInt64 >>> ((32 : Int32) &&& 0x3f).toInt64.toUInt64).toInt64).toInt32))] [(.int (nlzI (((p1.toUInt64 >>> ((32 : Int32) &&& 0x3f).toInt64.toUInt64).toInt64).toInt32)))]) := fun t kt => K8 t (st9 t kt)
    obtain ⟨fs11, hr11, hrun11, hended11, hW11, hsame11⟩ := X9.leave (v := some (.int (nlzI (((p1.toUInt64 >>> ((32 : Int32) &&& 0x3f).toInt64.toUInt64).toInt64).toInt32)))) (fun h => by rw [Bd.returns] at h; cases h)
    refine ⟨_, _, pre0 _ (K10 _ ?_), hrun11, hended11, _, _, rfl, ?_, ⟨_, rfl⟩, hW11, hsame11.mono (by decide) (by decide)⟩
    · exact retI X9 hx Bd.returns (hb hby d4_25) hr11
    · show QNlj Z p1 h0 n0 _ T9.heap _
      rw [e9]
      exact ⟨(congrArg some (congrArg Value.int (by unfold nlzJ hiF; rw [if_neg hb2]))), N9, rfl⟩
theorem d3_0 : decode prog_30_method_7_code 0 = .ok (.lload_n 0, 1) := by decide +kernel
theorem d3_1 : decode prog_30_method_7_code 1 = .ok (.ldc2_w 49, 3) := by decide +kernel
theorem d3_4 : decode prog_30_method_7_code 4 = .ok (.lcmp, 1) := by decide +kernel
theorem d3_5 : decode prog_30_method_7_code 5 = .ok (.ifCond .ge 6, 3) := by decide +kernel
theorem d3_8 : decode prog_30_method_7_code 8 = .ok (.lload_n 0, 1) := by decide +kernel
theorem d3_9 : decode prog_30_method_7_code 9 = .ok (.l2i, 1) := by decide +kernel
theorem d3_10 : decode prog_30_method_7_code 10 = .ok (.ireturn, 1) := by decide +kernel
theorem d3_11 : decode prog_30_method_7_code 11 = .ok (.bipush 63, 2) := by decide +kernel
theorem d3_13 : decode prog_30_method_7_code 13 = .ok (.lload_n 0, 1) := by decide +kernel
theorem d3_14 : decode prog_30_method_7_code 14 = .ok (.invokestatic 51, 3) := by decide +kernel
theorem d3_17 : decode prog_30_method_7_code 17 = .ok (.isub, 1) := by decide +kernel
theorem d3_18 : decode prog_30_method_7_code 18 = .ok (.bipush 6, 2) := by decide +kernel
theorem d3_20 : decode prog_30_method_7_code 20 = .ok (.isub, 1) := by decide +kernel
theorem d3_21 : decode prog_30_method_7_code 21 = .ok (.istore_n 2, 1) := by decide +kernel
theorem d3_22 : decode prog_30_method_7_code 22 = .ok (.iload_n 2, 1) := by decide +kernel
theorem d3_23 : decode prog_30_method_7_code 23 = .ok (.bipush 6, 2) := by decide +kernel
theorem d3_25 : decode prog_30_method_7_code 25 = .ok (.ishl, 1) := by decide +kernel
theorem d3_26 : decode prog_30_method_7_code 26 = .ok (.lload_n 0, 1) := by decide +kernel
theorem d3_27 : decode prog_30_method_7_code 27 = .ok (.iload_n 2, 1) := by decide +kernel
theorem d3_28 : decode prog_30_method_7_code 28 = .ok (.lushr, 1) := by decide +kernel
theorem d3_29 : decode prog_30_method_7_code 29 = .ok (.l2i, 1) := by decide +kernel
theorem d3_30 : decode prog_30_method_7_code 30 = .ok (.iadd, 1) := by decide +kernel
theorem d3_31 : decode prog_30_method_7_code 31 = .ok (.ireturn, 1) := by decide +kernel
theorem pn_3 : plainName "com/example/tideshift/tideshift/cli/LatencyHistogram" = true := by first | (simp [plainName, overriddenIn]; done) | decide +kernel
theorem pd__J_I : parseMethodDescriptor "(J)I" = some ⟨[.long], some .int⟩ := by decide +kernel
theorem ef_Bkt (m : MethodId) (p1 : Int64) : entryFrame m #[(.long p1)] 3 = mkF m 0 #[.val (.long p1), .second, .unset] [] := by first | (simp [entryFrame, mkF, argsToLocals, Value.category]; done) | rfl
def QBkt (Z : State) (p1 : Int64) (h0 : Heap) (n0 : Nat) (v : Option Value) (h : Heap) (L : List Loc) : Prop := v = some (.int (bktF p1)) ∧ Fr n0 L ∧ h = h0
set_option maxRecDepth 65536 in
set_option maxHeartbeats 40000000 in
theorem rmBkt (l : Launch) (Z : State) (a0 : Array Value) (hw : ∀ d ∈ tables_1, d.before a0 Z = true) (ws : List Jvm.Cond) (p1 : Int64) (h0 : Heap) (n0 : Nat) (Z0 : n0 ≤ h0.size) :
    MetFree l (⟨"com/example/tideshift/tideshift/cli/LatencyHistogram", "bucketOf", "(J)I"⟩ : MethodName) (head1 (Jvm.Cond.code (⟨"com/example/tideshift/tideshift/cli/LatencyHistogram", "bucketOf", "(J)I"⟩ : MethodName) prog_30_method_7_code 3 (some .int) :: ws) ({ frames := 2, cells := 0, slots := 0, locals := 29 } : Room)) (fun a U => a = #[(.long p1)] ∧ Z.Warmed39 U.vm ∧ U.heap = h0) (fun _ _ _ _ _ => True) (fun _ U o U' => ∃ v L, o = .returned v ∧ QBkt Z p1 h0 n0 v U'.heap L ∧ FrameEnd U o U' L ({ frames := 2, cells := 0, slots := 0, locals := 29 } : Room).cells ({ frames := 2, cells := 0, slots := 0, locals := 29 } : Room).slots) := by
  refine MetFree.of_bodySF (plainFor_of_name pn_3) hisR ?_
  intro p e s m args below meth c s₁ Bd hml0 hP hK
  obtain ⟨rfl, hZ, hh⟩ := hP
  have hx := Bd.exec
  have hby := Bd.bytes
  have hml : c.maxLocals = 3 := hml0
  have hown : s.vm.findClass "com/example/tideshift/tideshift/cli/LatencyHistogram" = some m.cls := findClass_of_methodNamed Bd.named
  have hnm := (name_of_methodNamed Bd.named Bd.method).1
  have X0 : Stand p l e ({ frames := 2, cells := 0, slots := 0, locals := 29 } : Room) s m #[(.long p1)] below meth c s₁ [] 0 0 := Stand.of_body Bd
  have hs0 : h0 = s.heap := hh.symm
  have e0 : s₁.heap = h0 := by rw [← hh, Bd.state]; rfl
  have N0 := Fr.nil n0
  obtain ⟨f0, hf0⟩ : ∃ f, f = entryFrame m #[(.long p1)] 3 := ⟨_, rfl⟩
  have pre0 : ∀ t, Steps p.tables e below (s₁.setTop f0) t → Steps p.tables e below (s₁.setTop (entryFrame m #[(.long p1)] 3)) t := fun t k => hf0 ▸ k
  have K0 : Gx p e below s₁ f0 s₁ (mkF m 0 #[.val (.long p1), .second, .unset] []) := fun t kt => by rw [hf0]; exact castTop (ef_Bkt m p1) kt
  have K1 : Gx p e below s₁ f0 s₁ (mkF m 5 #[.val (.long p1), .second, .unset] [(.int (lcmpW p1 (128 : Int64)))]) := fun t kt => K0 t (by
    show Steps p.tables e below (s₁.setTop (mkF m 0 #[.val (.long p1), .second, .unset] [])) _
    refine XS.lloadN X0.here hx rfl (hb hby d3_0) rfl ?_
    show Steps p.tables e below (s₁.setTop (mkF m 1 #[.val (.long p1), .second, .unset] [(.long p1)])) _
    refine X0.ldc2Long hx hown (mvT hZ (hw _ (List.mem_of_getElem? (i := 13) rfl))) (g := (mkF m 1 #[.val (.long p1), .second, .unset] [(.long p1)])) rfl (hb hby d3_1) _ ?_
    show Steps p.tables e below (s₁.setTop (mkF m 4 #[.val (.long p1), .second, .unset] [(.long (128 : Int64)), (.long p1)])) _
    refine XS.lcmp X0.here hx rfl (hb hby d3_4) rfl ?_
    exact kt)
  by_cases hb2 : (lcmpW p1 (128 : Int64)) < (0 : Int32)
  · skip
    have K3 : Gx p e below s₁ f0 s₁ (mkF m 10 #[.val (.long p1), .second, .unset] [(.int (p1.toInt32))]) := fun t kt => K1 t (by
      show Steps p.tables e below (s₁.setTop (mkF m 5 #[.val (.long p1), .second, .unset] [(.int (lcmpW p1 (128 : Int64)))])) _
      refine XS.ifNo X0.here hx rfl (hb hby d3_5) rfl ((if0 _ _).trans (tlt hb2).2.1) ?_
      show Steps p.tables e below (s₁.setTop (mkF m 8 #[.val (.long p1), .second, .unset] [])) _
      refine XS.lloadN X0.here hx rfl (hb hby d3_8) rfl ?_
      show Steps p.tables e below (s₁.setTop (mkF m 9 #[.val (.long p1), .second, .unset] [(.long p1)])) _
      refine XS.l2i X0.here hx rfl (hb hby d3_9) rfl ?_
      exact kt)
    obtain ⟨fs4, hr4, hrun4, hended4, hW4, hsame4⟩ := X0.leave (v := some (.int (p1.toInt32))) (fun h => by rw [Bd.returns] at h; cases h)
    refine ⟨_, _, pre0 _ (K3 _ ?_), hrun4, hended4, _, _, rfl, ?_, ⟨_, rfl⟩, hW4, hsame4.mono (by decide) (by decide)⟩
    · exact retI X0 hx Bd.returns (hb hby d3_10) hr4
    · show QBkt Z p1 h0 n0 _ s₁.heap _
      rw [e0]
      exact ⟨(congrArg some (congrArg Value.int (by unfold bktF; rw [if_pos hb2]))), N0, rfl⟩
  · skip
    have K5 : Gx p e below s₁ f0 s₁ (mkF m 14 #[.val (.long p1), .second, .unset] [(.long p1), (.int (63 : Int32))]) := fun t kt => K1 t (by
      show Steps p.tables e below (s₁.setTop (mkF m 5 #[.val (.long p1), .second, .unset] [(.int (lcmpW p1 (128 : Int64)))])) _
      refine XS.ifYes X0.here hx rfl (pc0 := 5) (pc' := 11) rfl (hb hby d3_5) rfl ((if0 _ _).trans (flt hb2).2.1) (by decide) (by decide) ?_
      show Steps p.tables e below (s₁.setTop (mkF m 11 #[.val (.long p1), .second, .unset] [])) _
      refine XS.bipush X0.here hx rfl (hb hby d3_11) ?_
      show Steps p.tables e below (s₁.setTop (mkF m 13 #[.val (.long p1), .second, .unset] [(.int (63 : Int32))])) _
      refine XS.lloadN X0.here hx rfl (hb hby d3_13) rfl ?_
      exact kt)
    obtain ⟨_, _, ⟨T6, L6, k6, n6⟩, -, X6', ⟨Lc6, hQ6, l6, y6, z6⟩, st6⟩ := Jvm.LawKit.callS X0 hx (y := (⟨"java/lang/Long", "numberOfLeadingZeros", "(J)I"⟩ : MethodName)) hown (mvT hZ (hw _ (List.mem_of_getElem? (i := 14) rfl))) (mvT hZ (hw _ (List.mem_of_getElem? (i := 15) rfl))) (mvT hZ (hw _ (List.mem_of_getElem? (i := 16) rfl))) (mvT hZ (hw _ (List.mem_of_getElem? (i := 17) rfl))) (by decide) (backOf (W := 1) (rmNlj l Z a0 hw [] p1 h0 n0 (Nat.le_trans Z0 (Keep.refl h0 []).1) ) hZ (hw _ (List.mem_of_getElem? (i := 17) rfl)) (hw _ (List.mem_of_getElem? (i := 16) rfl)) (by decide) (by decide)) (g := (mkF m 14 #[.val (.long p1), .second, .unset] [(.long p1), (.int (63 : Int32))])) rfl (by rw [hml]; rfl) (argsL := [(.long p1)]) (rest := [(.int (63 : Int32))]) (lenOf pd__J_I rfl) rfl (by show 2 * 0 + _ ≤ _; exact Nat.le_of_eq rfl) (hb hby d3_14) (fun _ _ => ⟨rfl, e0, (by decide : 0 + 0 ≤ _), (by decide : 0 + 0 ≤ _)⟩)
    dsimp only [Pt.U, Pt.locs, Pt.cells, Pt.slots] at X6' l6 y6 z6 st6 hQ6
    subst l6 y6 z6
    obtain ⟨rfl, N6q, e6⟩ := hQ6
    obtain ⟨lc6, X6, N6⟩ : ∃ lc, Stand p l e ({ frames := 2, cells := 0, slots := 0, locals := 29 } : Room) s m #[(.long p1)] below meth c T6 lc 0 0 ∧ Fr n0 lc := ⟨_, X6', Fr.app N0 N6q⟩
    have K7 : Gx p e below s₁ f0 T6 (mkF m 17 #[.val (.long p1), .second, .unset] [(.int (nlzJ p1)), (.int (63 : Int32))]) := fun t kt => K5 t (st6 t kt)
    have K8 : Gx p e below s₁ f0 T6 (mkF m 31 #[.val (.long p1), .second, .val (.int (((63 : Int32) - (nlzJ p1)) - (6 : Int32)))] [(.int (((((63 : Int32) - (nlzJ p1)) - (6 : Int32)) <<< ((6 : Int32) &&& 31)) + (((p1.toUInt64 >>> ((((63 : Int32) - (nlzJ p1)) - (6 : Int32)) &&& 0x3f).toInt64.toUInt64).toInt64).toInt32)))]) := fun t kt => K7 t (by
      show Steps p.tables e below (T6.setTop (mkF m 17 #[.val (.long p1), .second, .unset] [(.int (nlzJ p1)), (.int (63 : Int32))])) _
      refine XS.isub X6.here hx rfl (hb hby d3_17) rfl ?_
      show Steps p.tables e below (T6.setTop (mkF m 18 #[.val (.long p1), .second, .unset] [(.int ((63 : Int32) - (nlzJ p1)))])) _
      refine XS.bipush X6.here hx rfl (hb hby d3_18) ?_
      show Steps p.tables e below (T6.setTop (mkF m 20 #[.val (.long p1), .second, .unset] [(.int (6 : Int32)), (.int ((63 : Int32) - (nlzJ p1)))])) _
      refine XS.isub X6.here hx rfl (hb hby d3_20) rfl ?_
      show Steps p.tables e below (T6.setTop (mkF m 21 #[.val (.long p1), .second, .unset] [(.int (((63 : Int32) - (nlzJ p1)) - (6 : Int32)))])) _
      refine XS.istoreN X6.here hx rfl (hb hby d3_21) rfl (l' := #[.val (.long p1), .second, .val (.int (((63 : Int32) - (nlzJ p1)) - (6 : Int32)))]) rfl ?_
      show Steps p.tables e below (T6.setTop (mkF m 22 #[.val (.long p1), .second, .val (.int (((63 : Int32) - (nlzJ p1)) - (6 : Int32)))] [])) _
      refine XS.iloadN X6.here hx rfl (hb hby d3_22) rfl ?_
      show Steps p.tables e below (T6.setTop (mkF m 23 #[.val (.long p1), .second, .val (.int (((63 : Int32) - (nlzJ p1)) - (6 : Int32)))] [(.int (((63 : Int32) - (nlzJ p1)) - (6 : Int32)))])) _
      refine XS.bipush X6.here hx rfl (hb hby d3_23) ?_
      show Steps p.tables e below (T6.setTop (mkF m 25 #[.val (.long p1), .second, .val (.int (((63 : Int32) - (nlzJ p1)) - (6 : Int32)))] [(.int (6 : Int32)), (.int (((63 : Int32) - (nlzJ p1)) - (6 : Int32)))])) _
      refine XS.ishl X6.here hx rfl (hb hby d3_25) rfl ?_
      show Steps p.tables e below (T6.setTop (mkF m 26 #[.val (.long p1), .second, .val (.int (((63 : Int32) - (nlzJ p1)) - (6 : Int32)))] [(.int ((((63 : Int32) - (nlzJ p1)) - (6 : Int32)) <<< ((6 : Int32) &&& 31)))])) _
      refine XS.lloadN X6.here hx rfl (hb hby d3_26) rfl ?_
      show Steps p.tables e below (T6.setTop (mkF m 27 #[.val (.long p1), .second, .val (.int (((63 : Int32) - (nlzJ p1)) - (6 : Int32)))] [(.long p1), (.int ((((63 : Int32) - (nlzJ p1)) - (6 : Int32)) <<< ((6 : Int32) &&& 31)))])) _
      refine XS.iloadN X6.here hx rfl (hb hby d3_27) rfl ?_
      show Steps p.tables e below (T6.setTop (mkF m 28 #[.val (.long p1), .second, .val (.int (((63 : Int32) - (nlzJ p1)) - (6 : Int32)))] [(.int (((63 : Int32) - (nlzJ p1)) - (6 : Int32))), (.long p1), (.int ((((63 : Int32) - (nlzJ p1)) - (6 : Int32)) <<< ((6 : Int32) &&& 31)))])) _
      refine XS.lushr X6.here hx rfl (hb hby d3_28) rfl ?_
      show Steps p.tables e below (T6.setTop (mkF m 29 #[.val (.long p1), .second, .val (.int (((63 : Int32) - (nlzJ p1)) - (6 : Int32)))] [(.long ((p1.toUInt64 >>> ((((63 : Int32) - (nlzJ p1)) - (6 : Int32)) &&& 0x3f).toInt64.toUInt64).toInt64)), (.int ((((63 : Int32) - (nlzJ p1)) - (6 : Int32)) <<< ((6 : Int32) &&& 31)))])) _
      refine XS.l2i X6.here hx rfl (hb hby d3_29) rfl ?_
      show Steps p.tables e below (T6.setTop (mkF m 30 #[.val (.long p1), .second, .val (.int (((63 : Int32) - (nlzJ p1)) - (6 : Int32)))] [(.int (((p1.toUInt64 >>> ((((63 : Int32) - (nlzJ p1)) - (6 : Int32)) &&& 0x3f).toInt64.toUInt64).toInt64).toInt32)), (.int ((((63 : Int32) - (nlzJ p1)) - (6 : Int32)) <<< ((6 : Int32) &&& 31)))])) _
      refine XS.iadd X6.here hx rfl (hb hby d3_30) rfl ?_
      exact kt)
    obtain ⟨fs9, hr9, hrun9, hended9, hW9, hsame9⟩ := X6.leave (v := some (.int (((((63 : Int32) - (nlzJ p1)) - (6 : Int32)) <<< ((6 : Int32) &&& 31)) + (((p1.toUInt64 >>> ((((63 : Int32) - (nlzJ p1)) - (6 : Int32)) &&& 0x3f).toInt64.toUInt64).toInt64).toInt32)))) (fun h => by rw [Bd.returns] at h; cases h)
    refine ⟨_, _, pre0 _ (K8 _ ?_), hrun9, hended9, _, _, rfl, ?_, ⟨_, rfl⟩, hW9, hsame9.mono (by decide) (by decide)⟩
    · exact retI X6 hx Bd.returns (hb hby d3_31) hr9
    · show QBkt Z p1 h0 n0 _ T6.heap _
      rw [e6]
      exact ⟨(congrArg some (congrArg Value.int (by unfold bktF; rw [if_neg hb2]))), N6, rfl⟩
theorem d11_0 : decode jdk_29_method_66_code 0 = .ok (.lload_n 0, 1) := by decide +kernel
theorem d11_1 : decode jdk_29_method_66_code 1 = .ok (.lload_n 2, 1) := by decide +kernel
theorem d11_2 : decode jdk_29_method_66_code 2 = .ok (.lcmp, 1) := by decide +kernel
theorem d11_3 : decode jdk_29_method_66_code 3 = .ok (.ifCond .lt 7, 3) := by decide +kernel
theorem d11_6 : decode jdk_29_method_66_code 6 = .ok (.lload_n 0, 1) := by decide +kernel
theorem d11_7 : decode jdk_29_method_66_code 7 = .ok (.goto 4, 3) := by decide +kernel
theorem d11_10 : decode jdk_29_method_66_code 10 = .ok (.lload_n 2, 1) := by decide +kernel
theorem d11_11 : decode jdk_29_method_66_code 11 = .ok (.lreturn, 1) := by decide +kernel
theorem ef_Max (m : MethodId) (p1 : Int64) (p2 : Int64) : entryFrame m #[(.long p1), (.long p2)] 4 = mkF m 0 #[.val (.long p1), .second, .val (.long p2), .second] [] := by first | (simp [entryFrame, mkF, argsToLocals, Value.category]; done) | rfl
def QMax (Z : State) (p1 : Int64) (p2 : Int64) (h0 : Heap) (n0 : Nat) (v : Option Value) (h : Heap) (L : List Loc) : Prop := v = some (.long (maxJ p1 p2)) ∧ Fr n0 L ∧ h = h0
set_option maxRecDepth 65536 in
set_option maxHeartbeats 40000000 in
theorem rmMax (l : Launch) (Z : State) (a0 : Array Value) (hw : ∀ d ∈ tables_1, d.before a0 Z = true) (ws : List Jvm.Cond) (p1 : Int64) (p2 : Int64) (h0 : Heap) (n0 : Nat) (Z0 : n0 ≤ h0.size) :
    MetFree l (⟨"java/lang/Math", "max", "(JJ)J"⟩ : MethodName) (head1 (Jvm.Cond.code (⟨"java/lang/Math", "max", "(JJ)J"⟩ : MethodName) jdk_29_method_66_code 4 (some .long) :: ws) ({ frames := 0, cells := 0, slots := 0, locals := 0 } : Room)) (fun a U => a = #[(.long p1), (.long p2)] ∧ Z.Warmed39 U.vm ∧ U.heap = h0) (fun _ _ _ _ _ => True) (fun _ U o U' => ∃ v L, o = .returned v ∧ QMax Z p1 p2 h0 n0 v U'.heap L ∧ FrameEnd U o U' L ({ frames := 0, cells := 0, slots := 0, locals := 0 } : Room).cells ({ frames := 0, cells := 0, slots := 0, locals := 0 } : Room).slots) := by
  refine MetFree.of_bodySF (Jvm.Free.JP.mathPlain rfl (by decide +kernel)) hisR ?_
  intro p e s m args below meth c s₁ Bd hml0 hP hK
  obtain ⟨rfl, hZ, hh⟩ := hP
  have hx := Bd.exec
  have hby := Bd.bytes
  have hml : c.maxLocals = 4 := hml0
  have hown : s.vm.findClass "java/lang/Math" = some m.cls := findClass_of_methodNamed Bd.named
  have hnm := (name_of_methodNamed Bd.named Bd.method).1
  have X0 : Stand p l e ({ frames := 0, cells := 0, slots := 0, locals := 0 } : Room) s m #[(.long p1), (.long p2)] below meth c s₁ [] 0 0 := Stand.of_body Bd
  have hs0 : h0 = s.heap := hh.symm
  have e0 : s₁.heap = h0 := by rw [← hh, Bd.state]; rfl
  have N0 := Fr.nil n0
  obtain ⟨f0, hf0⟩ : ∃ f, f = entryFrame m #[(.long p1), (.long p2)] 4 := ⟨_, rfl⟩
  have pre0 : ∀ t, Steps p.tables e below (s₁.setTop f0) t → Steps p.tables e below (s₁.setTop (entryFrame m #[(.long p1), (.long p2)] 4)) t := fun t k => hf0 ▸ k
  have K0 : Gx p e below s₁ f0 s₁ (mkF m 0 #[.val (.long p1), .second, .val (.long p2), .second] []) := fun t kt => by rw [hf0]; exact castTop (ef_Max m p1 p2) kt
  have K3 : Gx p e below s₁ f0 s₁ (mkF m 3 #[.val (.long p1), .second, .val (.long p2), .second] [(.int (lcmpW p1 p2))]) := fun t kt => K0 t (by
    show Steps p.tables e below (s₁.setTop (mkF m 0 #[.val (.long p1), .second, .val (.long p2), .second] [])) _
    refine XS.lloadN X0.here hx rfl (hb hby d11_0) rfl ?_
    show Steps p.tables e below (s₁.setTop (mkF m 1 #[.val (.long p1), .second, .val (.long p2), .second] [(.long p1)])) _
    refine XS.lloadN X0.here hx rfl (hb hby d11_1) rfl ?_
    show Steps p.tables e below (s₁.setTop (mkF m 2 #[.val (.long p1), .second, .val (.long p2), .second] [(.long p2), (.long p1)])) _
    refine XS.lcmp X0.here hx rfl (hb hby d11_2) rfl ?_
    exact kt)
  obtain ⟨v2, hv2⟩ : ∃ z : Int64, z = (if (lcmpW p1 p2) < (0 : Int32) then p2 else p1) := ⟨_, rfl⟩
  have K4 : Gx p e below s₁ f0 s₁ (mkF m 11 #[.val (.long p1), .second, .val (.long p2), .second] [(.long v2)]) := fun t kt => K3 t (by
    by_cases hc3_0 : (lcmpW p1 p2) < (0 : Int32)
    · skip
      show Steps p.tables e below (s₁.setTop (mkF m 3 #[.val (.long p1), .second, .val (.long p2), .second] [(.int (lcmpW p1 p2))])) _
      refine XS.ifYes X0.here hx rfl (pc0 := 3) (pc' := 10) rfl (hb hby d11_3) rfl ((if0 _ _).trans (tlt hc3_0).1) (by decide) (by decide) ?_
      show Steps p.tables e below (s₁.setTop (mkF m 10 #[.val (.long p1), .second, .val (.long p2), .second] [])) _
      refine XS.lloadN X0.here hx rfl (hb hby d11_10) rfl ?_
      show Steps p.tables e below (s₁.setTop (mkF m 11 #[.val (.long p1), .second, .val (.long p2), .second] [(.long p2)])) _
      exact castTop (by simp only [hv2, if_pos hc3_0]) kt
    · skip
      show Steps p.tables e below (s₁.setTop (mkF m 3 #[.val (.long p1), .second, .val (.long p2), .second] [(.int (lcmpW p1 p2))])) _
      refine XS.ifNo X0.here hx rfl (hb hby d11_3) rfl ((if0 _ _).trans (flt hc3_0).1) ?_
      show Steps p.tables e below (s₁.setTop (mkF m 6 #[.val (.long p1), .second, .val (.long p2), .second] [])) _
      refine XS.lloadN X0.here hx rfl (hb hby d11_6) rfl ?_
      show Steps p.tables e below (s₁.setTop (mkF m 7 #[.val (.long p1), .second, .val (.long p2), .second] [(.long p1)])) _
      refine XS.goto X0.here hx rfl (pc0 := 7) (pc' := 11) rfl (hb hby d11_7) (by decide) (by decide) ?_
      show Steps p.tables e below (s₁.setTop (mkF m 11 #[.val (.long p1), .second, .val (.long p2), .second] [(.long p1)])) _
      exact castTop (by simp only [hv2, if_neg hc3_0]) kt)
  obtain ⟨fs5, hr5, hrun5, hended5, hW5, hsame5⟩ := X0.leave (v := some (.long v2)) (fun h => by rw [Bd.returns] at h; cases h)
  refine ⟨_, _, pre0 _ (K4 _ ?_), hrun5, hended5, _, _, rfl, ?_, ⟨_, rfl⟩, hW5, hsame5.mono (by decide) (by decide)⟩
  · show Steps p.tables e below (s₁.setTop (mkF m 11 #[.val (.long p1), .second, .val (.long p2), .second] [(.long v2)])) _
    jvm_step X0.here [X0.here.top, hx, (hb hby d11_11), X0.method', Bd.returns, narrow]
    first | (intro acts; rw [hr5 _ acts rfl rfl rfl]) | rw [hr5 _ _ rfl rfl rfl]
    exact Steps.refl _
  · show QMax Z p1 p2 h0 n0 _ s₁.heap _
    rw [e0]
    exact ⟨(congrArg some (congrArg Value.long hv2)), N0, rfl⟩
theorem d1_0 : decode prog_30_method_1_code 0 = .ok (.aload_n 0, 1) := by decide +kernel
theorem d1_1 : decode prog_30_method_1_code 1 = .ok (.invokespecial 3, 3) := by decide +kernel
theorem d1_4 : decode prog_30_method_1_code 4 = .ok (.aload_n 0, 1) := by decide +kernel
theorem d1_5 : decode prog_30_method_1_code 5 = .ok (.ldc2_w 11, 3) := by decide +kernel
theorem d1_8 : decode prog_30_method_1_code 8 = .ok (.invokestatic 13, 3) := by decide +kernel
theorem d1_11 : decode prog_30_method_1_code 11 = .ok (.iconst 1, 1) := by decide +kernel
theorem d1_12 : decode prog_30_method_1_code 12 = .ok (.iadd, 1) := by decide +kernel
theorem d1_13 : decode prog_30_method_1_code 13 = .ok (.newarray .long, 2) := by decide +kernel
theorem d1_15 : decode prog_30_method_1_code 15 = .ok (.putfield 17, 3) := by decide +kernel
theorem d1_18 : decode prog_30_method_1_code 18 = .ok (.return_, 1) := by decide +kernel
theorem pn_1 : plainName "com/example/tideshift/tideshift/cli/LatencyHistogram" = true := by first | (simp [plainName, overriddenIn]; done) | decide +kernel
theorem ef_Ini (m : MethodId) (a1 : Addr) : entryFrame m #[(.ref a1)] 1 = mkF m 0 #[.val (.ref a1)] [] := by first | (simp [entryFrame, mkF, argsToLocals, Value.category]; done) | rfl
def QIni (Z : State) (a1 : Addr) (h0 : Heap) (n0 : Nat) (v : Option Value) (h : Heap) (L : List Loc) : Prop := ∃ va : Addr, ∃ ka : ClassId, v = none ∧ Fr n0 L ∧ Keep h0 h [a1] ∧ h0.size ≤ va ∧ Exa Z h a1 "com/example/tideshift/tideshift/cli/LatencyHistogram" ∧ Fld Z h a1 "com/example/tideshift/tideshift/cli/LatencyHistogram" "counts" "[J" (.ref va) ∧ Fld Z h a1 "com/example/tideshift/tideshift/cli/LatencyHistogram" "count" "J" (.long (0 : Int64)) ∧ Arv Z h va ka .long (3712 : Int32) (tab zF) (.long (0 : Int64))
set_option maxRecDepth 65536 in
set_option maxHeartbeats 40000000 in
theorem rmIni (l : Launch) (Z : State) (a0 : Array Value) (hw : ∀ d ∈ tables_1, d.before a0 Z = true) (ws : List Jvm.Cond) (a1 : Addr) (h0 : Heap) (n0 : Nat) (Z0 : n0 ≤ h0.size) (pr0 : n0 ≤ a1) (pr1 : Exa Z h0 a1 "com/example/tideshift/tideshift/cli/LatencyHistogram") (pr2 : Fld Z h0 a1 "com/example/tideshift/tideshift/cli/LatencyHistogram" "counts" "[J" .null) (pr3 : Fld Z h0 a1 "com/example/tideshift/tideshift/cli/LatencyHistogram" "count" "J" (.long (0 : Int64))) :
    MetFree l (⟨"com/example/tideshift/tideshift/cli/LatencyHistogram", "<init>", "()V"⟩ : MethodName) (head1 (Jvm.Cond.code (⟨"com/example/tideshift/tideshift/cli/LatencyHistogram", "<init>", "()V"⟩ : MethodName) prog_30_method_1_code 1 none :: ws) ({ frames := 3, cells := 1, slots := 3712, locals := 44 } : Room)) (fun a U => a = #[(.ref a1)] ∧ Z.Warmed39 U.vm ∧ U.heap = h0) (fun _ _ _ _ _ => True) (fun _ U o U' => ∃ v L, o = .returned v ∧ QIni Z a1 h0 n0 v U'.heap L ∧ FrameEnd U o U' L ({ frames := 3, cells := 1, slots := 3712, locals := 44 } : Room).cells ({ frames := 3, cells := 1, slots := 3712, locals := 44 } : Room).slots) := by
  refine MetFree.of_bodySF (plainFor_of_name pn_1) hisR ?_
  intro p e s m args below meth c s₁ Bd hml0 hP hK
  obtain ⟨rfl, hZ, hh⟩ := hP
  have hx := Bd.exec
  have hby := Bd.bytes
  have hml : c.maxLocals = 1 := hml0
  have hown : s.vm.findClass "com/example/tideshift/tideshift/cli/LatencyHistogram" = some m.cls := findClass_of_methodNamed Bd.named
  have hnm := (name_of_methodNamed Bd.named Bd.method).1
  have X0 : Stand p l e ({ frames := 3, cells := 1, slots := 3712, locals := 44 } : Room) s m #[(.ref a1)] below meth c s₁ [] 0 0 := Stand.of_body Bd
  have hs0 : h0 = s.heap := hh.symm
  have e0 : s₁.heap = h0 := by rw [← hh, Bd.state]; rfl
  have N0 := Fr.nil n0
  obtain ⟨f0, hf0⟩ : ∃ f, f = entryFrame m #[(.ref a1)] 1 := ⟨_, rfl⟩
  have pre0 : ∀ t, Steps p.tables e below (s₁.setTop f0) t → Steps p.tables e below (s₁.setTop (entryFrame m #[(.ref a1)] 1)) t := fun t k => hf0 ▸ k
  have K0 : Gx p e below s₁ f0 s₁ (mkF m 0 #[.val (.ref a1)] []) := fun t kt => by rw [hf0]; exact castTop (ef_Ini m a1) kt
  have K1 : Gx p e below s₁ f0 s₁ (mkF m 1 #[.val (.ref a1)] [(.ref a1)]) := fun t kt => K0 t (by
    show Steps p.tables e below (s₁.setTop (mkF m 0 #[.val (.ref a1)] [])) _
    refine XS.aloadN X0.here hx rfl (hb hby d1_0) rfl rfl ?_
    exact kt)
  obtain ⟨T2, X2, e2, st2⟩ := initO X0 hx hZ hown (hw _ (List.mem_of_getElem? (i := 6) rfl)) (hw _ (List.mem_of_getElem? (i := 7) rfl)) (hw _ (List.mem_of_getElem? (i := 8) rfl)) e0 (g := (mkF m 1 #[.val (.ref a1)] [(.ref a1)])) rfl (by rw [hml]; rfl) rfl (hb hby d1_1) (by decide) (W := 0) (by show 2 * 0 + _ ≤ _; exact Nat.le_of_eq rfl) (by decide)
  have K3 : Gx p e below s₁ f0 T2 (mkF m 4 #[.val (.ref a1)] []) := fun t kt => K1 t (st2 t kt)
  have K4 : Gx p e below s₁ f0 T2 (mkF m 8 #[.val (.ref a1)] [(.long (9223372036854775807 : Int64)), (.ref a1)]) := fun t kt => K3 t (by
    show Steps p.tables e below (T2.setTop (mkF m 4 #[.val (.ref a1)] [])) _
    refine XS.aloadN X2.here hx rfl (hb hby d1_4) rfl rfl ?_
    show Steps p.tables e below (T2.setTop (mkF m 5 #[.val (.ref a1)] [(.ref a1)])) _
    refine X2.ldc2Long hx hown (mvT hZ (hw _ (List.mem_of_getElem? (i := 9) rfl))) (g := (mkF m 5 #[.val (.ref a1)] [(.ref a1)])) rfl (hb hby d1_5) _ ?_
    exact kt)
  obtain ⟨_, _, ⟨T5, L5, k5, n5⟩, -, X5', ⟨Lc5, hQ5, l5, y5, z5⟩, st5⟩ := Jvm.LawKit.callS X2 hx (y := (⟨"com/example/tideshift/tideshift/cli/LatencyHistogram", "bucketOf", "(J)I"⟩ : MethodName)) hown (mvT hZ (hw _ (List.mem_of_getElem? (i := 10) rfl))) (mvT hZ (hw _ (List.mem_of_getElem? (i := 11) rfl))) (mvT hZ (hw _ (List.mem_of_getElem? (i := 2) rfl))) (mvT hZ (hw _ (List.mem_of_getElem? (i := 12) rfl))) (by decide) (backOf (W := 1) (rmBkt l Z a0 hw [] (9223372036854775807 : Int64) h0 n0 (Nat.le_trans Z0 (Keep.refl h0 [a1]).1) ) hZ (hw _ (List.mem_of_getElem? (i := 12) rfl)) (hw _ (List.mem_of_getElem? (i := 2) rfl)) (by decide) (by decide)) (g := (mkF m 8 #[.val (.ref a1)] [(.long (9223372036854775807 : Int64)), (.ref a1)])) rfl (by rw [hml]; rfl) (argsL := [(.long (9223372036854775807 : Int64))]) (rest := [(.ref a1)]) (lenOf pd__J_I rfl) rfl (by show 2 * 0 + _ ≤ _; exact Nat.le_of_eq rfl) (hb hby d1_8) (fun _ _ => ⟨rfl, e2, (by decide : 0 + 0 ≤ _), (by decide : 0 + 0 ≤ _)⟩)
  dsimp only [Pt.U, Pt.locs, Pt.cells, Pt.slots] at X5' l5 y5 z5 st5 hQ5
  subst l5 y5 z5
  obtain ⟨rfl, N5q, e5⟩ := hQ5
  obtain ⟨lc5, X5, N5⟩ : ∃ lc, Stand p l e ({ frames := 3, cells := 1, slots := 3712, locals := 44 } : Room) s m #[(.ref a1)] below meth c T5 lc 0 0 ∧ Fr n0 lc := ⟨_, X5', Fr.app N0 N5q⟩
  have K6 : Gx p e below s₁ f0 T5 (mkF m 11 #[.val (.ref a1)] [(.int (bktF (9223372036854775807 : Int64))), (.ref a1)]) := fun t kt => K4 t (st5 t kt)
  have K7 : Gx p e below s₁ f0 T5 (mkF m 13 #[.val (.ref a1)] [(.int ((bktF (9223372036854775807 : Int64)) + (1 : Int32))), (.ref a1)]) := fun t kt => K6 t (by
    show Steps p.tables e below (T5.setTop (mkF m 11 #[.val (.ref a1)] [(.int (bktF (9223372036854775807 : Int64))), (.ref a1)])) _
    refine XS.iconst X5.here hx rfl (hb hby d1_11) ?_
    show Steps p.tables e below (T5.setTop (mkF m 12 #[.val (.ref a1)] [(.int (1 : Int32)), (.int (bktF (9223372036854775807 : Int64))), (.ref a1)])) _
    refine XS.iadd X5.here hx rfl (hb hby d1_12) rfl ?_
    exact kt)
  rw [(by decide +kernel : ((bktF (9223372036854775807 : Int64)) + (1 : Int32)) = (3712 : Int32))] at K7
  obtain ⟨T8, h8, k8, X8, e8, E8, A8, st8⟩ := newP X5 hx hZ (hw _ (List.mem_of_getElem? (i := 23) rfl)) e5 (g := (mkF m 13 #[.val (.ref a1)] [(.int (3712 : Int32)), (.ref a1)])) rfl (hb hby d1_13) rfl (by decide) (cap := 3712) (by decide) (by decide) (by decide) (by decide)
  obtain ⟨b8, g8⟩ : ∃ z, z = h0.size := ⟨_, rfl⟩
  rw [← g8] at A8 st8
  have V8 : Arv Z h8 b8 k8 .long (3712 : Int32) (tab zF) (.long (0 : Int64)) := (Arv.new A8 (by decide)).pad tab_pad
  have K9 : Gx p e below s₁ f0 T8 (mkF m 15 #[.val (.ref a1)] [(.ref b8), (.ref a1)]) := fun t kt => K7 t (st8 t kt)
  have f10 : Fld Z h8 a1 "com/example/tideshift/tideshift/cli/LatencyHistogram" "counts" "[J" .null := (pr2.ext E8)
  have f11 : Exa Z h8 a1 "com/example/tideshift/tideshift/cli/LatencyHistogram" := (pr1.ext E8)
  obtain ⟨T12, h12, X12', e12, W12, st12⟩ := putF X8 hx hZ hown (host := "") (Or.inl (hw _ (List.mem_of_getElem? (i := 24) rfl))) Via.refl e8 f10 f11 (Or.inr ⟨(hw _ (List.mem_of_getElem? (i := 25) rfl)), rfl, hnm⟩) (hw _ (List.mem_of_getElem? (i := 1) rfl)) (ty := (.array .long)) (by decide) rfl rfl (g := (mkF m 15 #[.val (.ref a1)] [(.ref b8), (.ref a1)])) rfl rfl (hb hby d1_15)
  obtain ⟨lc12, X12, N12⟩ : ∃ lc, Stand p l e ({ frames := 3, cells := 1, slots := 3712, locals := 44 } : Room) s m #[(.ref a1)] below meth c T12 lc 1 3712 ∧ Fr n0 lc := ⟨_, X12', Fr.snoc X12' N5 pr0⟩
  have f12_ : Fld Z h12 a1 "com/example/tideshift/tideshift/cli/LatencyHistogram" "counts" "[J" (.ref b8) := f10.same W12
  have K13 : Gx p e below s₁ f0 T12 (mkF m 18 #[.val (.ref a1)] []) := fun t kt => K9 t (st12 t kt)
  have f15 : Arv Z h12 b8 k8 .long (3712 : Int32) (tab zF) (.long (0 : Int64)) := (V8.other W12 (Ne.symm (Nat.ne_of_lt (Nat.lt_of_lt_of_le pr1.lt (Nat.le_of_eq g8.symm)))))
  have kp16 : Keep h0 h12 [a1] := (((Keep.refl h0 [a1]).ext E8).wr W12 (Or.inl (List.mem_of_getElem? (i := 0) rfl)))
  have f17 : Exa Z h12 a1 "com/example/tideshift/tideshift/cli/LatencyHistogram" := (f11.wr W12)
  have f18 : Fld Z h12 a1 "com/example/tideshift/tideshift/cli/LatencyHistogram" "count" "J" (.long (0 : Int64)) := ((pr3.ext E8).other W12 (Or.inr (slot_ne (Or.inl (hw _ (List.mem_of_getElem? (i := 32) rfl))) (Or.inr (hw _ (List.mem_of_getElem? (i := 25) rfl))) (by decide) (t := .long) (t' := (.array .long)) (by decide) (by decide))))
  obtain ⟨fs14, hr14, hrun14, hended14, hW14, hsame14⟩ := X12.leave (v := none) (fun _ => rfl)
  refine ⟨_, _, pre0 _ (K13 _ ?_), hrun14, hended14, _, _, rfl, ?_, ⟨_, rfl⟩, hW14, hsame14.mono (by decide) (by decide)⟩
  · exact X12.returnOut hx Bd.returns (hb hby d1_18) hr14
  · show QIni Z a1 h0 n0 _ T12.heap _
    rw [e12]
    exact ⟨b8, k8, rfl, N12, kp16, (Nat.le_trans (Keep.refl h0 [a1]).1 (Nat.le_of_eq g8.symm)), f17, f12_, f18, f15⟩
theorem d10_0 : decode prog_30_method_2_code 0 = .ok (.aload_n 0, 1) := by decide +kernel
theorem d10_1 : decode prog_30_method_2_code 1 = .ok (.getfield 17, 3) := by decide +kernel
theorem d10_4 : decode prog_30_method_2_code 4 = .ok (.lconst 0, 1) := by decide +kernel
theorem d10_5 : decode prog_30_method_2_code 5 = .ok (.lload_n 1, 1) := by decide +kernel
theorem d10_6 : decode prog_30_method_2_code 6 = .ok (.invokestatic 21, 3) := by decide +kernel
theorem d10_9 : decode prog_30_method_2_code 9 = .ok (.invokestatic 13, 3) := by decide +kernel
theorem d10_12 : decode prog_30_method_2_code 12 = .ok (.dup2, 1) := by decide +kernel
theorem d10_13 : decode prog_30_method_2_code 13 = .ok (.laload, 1) := by decide +kernel
theorem d10_14 : decode prog_30_method_2_code 14 = .ok (.lconst 1, 1) := by decide +kernel
theorem d10_15 : decode prog_30_method_2_code 15 = .ok (.ladd, 1) := by decide +kernel
theorem d10_16 : decode prog_30_method_2_code 16 = .ok (.lastore, 1) := by decide +kernel
theorem d10_17 : decode prog_30_method_2_code 17 = .ok (.aload_n 0, 1) := by decide +kernel
theorem d10_18 : decode prog_30_method_2_code 18 = .ok (.dup, 1) := by decide +kernel
theorem d10_19 : decode prog_30_method_2_code 19 = .ok (.getfield 27, 3) := by decide +kernel
theorem d10_22 : decode prog_30_method_2_code 22 = .ok (.lconst 1, 1) := by decide +kernel
theorem d10_23 : decode prog_30_method_2_code 23 = .ok (.ladd, 1) := by decide +kernel
theorem d10_24 : decode prog_30_method_2_code 24 = .ok (.putfield 27, 3) := by decide +kernel
theorem d10_27 : decode prog_30_method_2_code 27 = .ok (.return_, 1) := by decide +kernel
theorem pn_10 : plainName "com/example/tideshift/tideshift/cli/LatencyHistogram" = true := by first | (simp [plainName, overriddenIn]; done) | decide +kernel
theorem pd__JJ_J : parseMethodDescriptor "(JJ)J" = some ⟨[.long, .long], some .long⟩ := by decide +kernel
theorem ef_Rec0 (m : MethodId) (a1 : Addr) (p1 : Int64) : entryFrame m #[(.ref a1), (.long p1)] 3 = mkF m 0 #[.val (.ref a1), .val (.long p1), .second] [] := by first | (simp [entryFrame, mkF, argsToLocals, Value.category]; done) | rfl
def QRec0 (Z : State) (a1 : Addr) (p1 : Int64) (va : Addr) (ka : ClassId) (ff : Nat → Int64) (h0 : Heap) (n0 : Nat) (v : Option Value) (h : Heap) (L : List Loc) : Prop := v = none ∧ Fr n0 L ∧ Keep h0 h [a1, va] ∧ Exa Z h a1 "com/example/tideshift/tideshift/cli/LatencyHistogram" ∧ Fld Z h a1 "com/example/tideshift/tideshift/cli/LatencyHistogram" "counts" "[J" (.ref va) ∧ Fld Z h a1 "com/example/tideshift/tideshift/cli/LatencyHistogram" "count" "J" (.long (1 : Int64)) ∧ Arv Z h va ka .long (3712 : Int32) (tab (upd (bk p1) ff)) (.long (0 : Int64))
set_option maxRecDepth 65536 in
set_option maxHeartbeats 40000000 in
theorem rmRec0 (l : Launch) (Z : State) (a0 : Array Value) (hw : ∀ d ∈ tables_1, d.before a0 Z = true) (ws : List Jvm.Cond) (a1 : Addr) (p1 : Int64) (va : Addr) (ka : ClassId) (ff : Nat → Int64) (h0 : Heap) (n0 : Nat) (Z0 : n0 ≤ h0.size) (pr0 : Exa Z h0 a1 "com/example/tideshift/tideshift/cli/LatencyHistogram") (pr1 : Fld Z h0 a1 "com/example/tideshift/tideshift/cli/LatencyHistogram" "counts" "[J" (.ref va)) (pr2 : Fld Z h0 a1 "com/example/tideshift/tideshift/cli/LatencyHistogram" "count" "J" (.long (0 : Int64))) (pr3 : Arv Z h0 va ka .long (3712 : Int32) (tab ff) (.long (0 : Int64))) (pr4 : n0 ≤ a1) (pr5 : n0 ≤ va) :
    MetFree l (⟨"com/example/tideshift/tideshift/cli/LatencyHistogram", "record", "(J)V"⟩ : MethodName) (head1 (Jvm.Cond.code (⟨"com/example/tideshift/tideshift/cli/LatencyHistogram", "record", "(J)V"⟩ : MethodName) prog_30_method_2_code 3 none :: ws) ({ frames := 3, cells := 0, slots := 0, locals := 44 } : Room)) (fun a U => a = #[(.ref a1), (.long p1)] ∧ Z.Warmed39 U.vm ∧ U.heap = h0) (fun _ _ _ _ _ => True) (fun _ U o U' => ∃ v L, o = .returned v ∧ QRec0 Z a1 p1 va ka ff h0 n0 v U'.heap L ∧ FrameEnd U o U' L ({ frames := 3, cells := 0, slots := 0, locals := 44 } : Room).cells ({ frames := 3, cells := 0, slots := 0, locals := 44 } : Room).slots) := by
  refine MetFree.of_bodySF (plainFor_of_name pn_10) hisR ?_
  intro p e s m args below meth c s₁ Bd hml0 hP hK
  obtain ⟨rfl, hZ, hh⟩ := hP
  have hx := Bd.exec
  have hby := Bd.bytes
  have hml : c.maxLocals = 3 := hml0
  have hown : s.vm.findClass "com/example/tideshift/tideshift/cli/LatencyHistogram" = some m.cls := findClass_of_methodNamed Bd.named
  have hnm := (name_of_methodNamed Bd.named Bd.method).1
  have X0 : Stand p l e ({ frames := 3, cells := 0, slots := 0, locals := 44 } : Room) s m #[(.ref a1), (.long p1)] below meth c s₁ [] 0 0 := Stand.of_body Bd
  have hs0 : h0 = s.heap := hh.symm
  have e0 : s₁.heap = h0 := by rw [← hh, Bd.state]; rfl
  have N0 := Fr.nil n0
  obtain ⟨f0, hf0⟩ : ∃ f, f = entryFrame m #[(.ref a1), (.long p1)] 3 := ⟨_, rfl⟩
  have pre0 : ∀ t, Steps p.tables e below (s₁.setTop f0) t → Steps p.tables e below (s₁.setTop (entryFrame m #[(.ref a1), (.long p1)] 3)) t := fun t k => hf0 ▸ k
  have K0 : Gx p e below s₁ f0 s₁ (mkF m 0 #[.val (.ref a1), .val (.long p1), .second] []) := fun t kt => by rw [hf0]; exact castTop (ef_Rec0 m a1 p1) kt
  have K1 : Gx p e below s₁ f0 s₁ (mkF m 1 #[.val (.ref a1), .val (.long p1), .second] [(.ref a1)]) := fun t kt => K0 t (by
    show Steps p.tables e below (s₁.setTop (mkF m 0 #[.val (.ref a1), .val (.long p1), .second] [])) _
    refine XS.aloadN X0.here hx rfl (hb hby d10_0) rfl rfl ?_
    exact kt)
  obtain ⟨T2, X2, e2, st2⟩ := getF X0 hx hZ hown (host := "") (Or.inl (hw _ (List.mem_of_getElem? (i := 24) rfl))) Via.refl e0 pr1 (g := (mkF m 1 #[.val (.ref a1), .val (.long p1), .second] [(.ref a1)])) rfl rfl (hb hby d10_1)
  have K3 : Gx p e below s₁ f0 T2 (mkF m 4 #[.val (.ref a1), .val (.long p1), .second] [(.ref va)]) := fun t kt => K1 t (st2 t kt)
  have K4 : Gx p e below s₁ f0 T2 (mkF m 6 #[.val (.ref a1), .val (.long p1), .second] [(.long p1), (.long (0 : Int64)), (.ref va)]) := fun t kt => K3 t (by
    show Steps p.tables e below (T2.setTop (mkF m 4 #[.val (.ref a1), .val (.long p1), .second] [(.ref va)])) _
    refine XS.lconst X2.here hx rfl (hb hby d10_4) ?_
    show Steps p.tables e below (T2.setTop (mkF m 5 #[.val (.ref a1), .val (.long p1), .second] [(.long (0 : Int64)), (.ref va)])) _
    refine XS.lloadN X2.here hx rfl (hb hby d10_5) rfl ?_
    exact kt)
  obtain ⟨_, _, ⟨T5, L5, k5, n5⟩, -, X5', ⟨Lc5, hQ5, l5, y5, z5⟩, st5⟩ := Jvm.LawKit.callS X2 hx (y := (⟨"java/lang/Math", "max", "(JJ)J"⟩ : MethodName)) hown (mvT hZ (hw _ (List.mem_of_getElem? (i := 53) rfl))) (mvT hZ (hw _ (List.mem_of_getElem? (i := 54) rfl))) (mvT hZ (hw _ (List.mem_of_getElem? (i := 55) rfl))) (mvT hZ (hw _ (List.mem_of_getElem? (i := 56) rfl))) (by decide) (backOf (W := 1) (rmMax l Z a0 hw [] (0 : Int64) p1 h0 n0 (Nat.le_trans Z0 (Keep.refl h0 [a1, va]).1) ) hZ (hw _ (List.mem_of_getElem? (i := 56) rfl)) (hw _ (List.mem_of_getElem? (i := 55) rfl)) (by decide) (by decide)) (g := (mkF m 6 #[.val (.ref a1), .val (.long p1), .second] [(.long p1), (.long (0 : Int64)), (.ref va)])) rfl (by rw [hml]; rfl) (argsL := [(.long (0 : Int64)), (.long p1)]) (rest := [(.ref va)]) (lenOf pd__JJ_J rfl) rfl (by show 2 * 0 + _ ≤ _; exact Nat.le_of_eq rfl) (hb hby d10_6) (fun _ _ => ⟨rfl, e2, (by decide : 0 + 0 ≤ _), (by decide : 0 + 0 ≤ _)⟩)
  dsimp only [Pt.U, Pt.locs, Pt.cells, Pt.slots] at X5' l5 y5 z5 st5 hQ5
  subst l5 y5 z5
  obtain ⟨rfl, N5q, e5⟩ := hQ5
  obtain ⟨lc5, X5, N5⟩ : ∃ lc, Stand p l e ({ frames := 3, cells := 0, slots := 0, locals := 44 } : Room) s m #[(.ref a1), (.long p1)] below meth c T5 lc 0 0 ∧ Fr n0 lc := ⟨_, X5', Fr.app N0 N5q⟩
  have K6 : Gx p e below s₁ f0 T5 (mkF m 9 #[.val (.ref a1), .val (.long p1), .second] [(.long (maxJ (0 : Int64) p1)), (.ref va)]) := fun t kt => K4 t (st5 t kt)
  obtain ⟨_, _, ⟨T7, L7, k7, n7⟩, -, X7', ⟨Lc7, hQ7, l7, y7, z7⟩, st7⟩ := Jvm.LawKit.callS X5 hx (y := (⟨"com/example/tideshift/tideshift/cli/LatencyHistogram", "bucketOf", "(J)I"⟩ : MethodName)) hown (mvT hZ (hw _ (List.mem_of_getElem? (i := 10) rfl))) (mvT hZ (hw _ (List.mem_of_getElem? (i := 11) rfl))) (mvT hZ (hw _ (List.mem_of_getElem? (i := 2) rfl))) (mvT hZ (hw _ (List.mem_of_getElem? (i := 12) rfl))) (by decide) (backOf (W := 1) (rmBkt l Z a0 hw [] (maxJ (0 : Int64) p1) h0 n0 (Nat.le_trans Z0 (Keep.refl h0 [a1, va]).1) ) hZ (hw _ (List.mem_of_getElem? (i := 12) rfl)) (hw _ (List.mem_of_getElem? (i := 2) rfl)) (by decide) (by decide)) (g := (mkF m 9 #[.val (.ref a1), .val (.long p1), .second] [(.long (maxJ (0 : Int64) p1)), (.ref va)])) rfl (by rw [hml]; rfl) (argsL := [(.long (maxJ (0 : Int64) p1))]) (rest := [(.ref va)]) (lenOf pd__J_I rfl) rfl (by show 2 * 0 + _ ≤ _; exact Nat.le_of_eq rfl) (hb hby d10_9) (fun _ _ => ⟨rfl, e5, (by decide : 0 + 0 ≤ _), (by decide : 0 + 0 ≤ _)⟩)
  dsimp only [Pt.U, Pt.locs, Pt.cells, Pt.slots] at X7' l7 y7 z7 st7 hQ7
  subst l7 y7 z7
  obtain ⟨rfl, N7q, e7⟩ := hQ7
  obtain ⟨lc7, X7, N7⟩ : ∃ lc, Stand p l e ({ frames := 3, cells := 0, slots := 0, locals := 44 } : Room) s m #[(.ref a1), (.long p1)] below meth c T7 lc 0 0 ∧ Fr n0 lc := ⟨_, X7', Fr.app N5 N7q⟩
  have K8 : Gx p e below s₁ f0 T7 (mkF m 12 #[.val (.ref a1), .val (.long p1), .second] [(.int (bktF (maxJ (0 : Int64) p1))), (.ref va)]) := fun t kt => K6 t (st7 t kt)
  obtain ⟨clq9, Arq9, ckq9, cSq9, cNq9, cHq9, cGq9⟩ := id pr3
  have K10 : Gx p e below s₁ f0 T7 (mkF m 16 #[.val (.ref a1), .val (.long p1), .second] [(.long ((ff (bk p1)) + (1 : Int64))), (.int (bktF (maxJ (0 : Int64) p1))), (.ref va)]) := fun t kt => K8 t (by
    show Steps p.tables e below (T7.setTop (mkF m 12 #[.val (.ref a1), .val (.long p1), .second] [(.int (bktF (maxJ (0 : Int64) p1))), (.ref va)])) _
    refine XT.dup2 X7.here hx rfl (hb hby d10_12) rfl rfl rfl ?_
    show Steps p.tables e below (T7.setTop (mkF m 13 #[.val (.ref a1), .val (.long p1), .second] [(.int (bktF (maxJ (0 : Int64) p1))), (.ref va), (.int (bktF (maxJ (0 : Int64) p1))), (.ref va)])) _
    refine X7.laload hx (j := (bktF (maxJ (0 : Int64) p1))) (v := (.long (ff (bk p1)))) (by rw [e7]; exact Arq9.1) (State.isArrayOf_alike hZ.alike Arq9.2.1) Arq9.2.2 (inb_of cSq9 (bkt_bound _ (max0 p1))) (Has.at cHq9 (inb_of cSq9 (bkt_bound _ (max0 p1))) (read_bk ff p1 _)) (g := (mkF m 13 #[.val (.ref a1), .val (.long p1), .second] [(.int (bktF (maxJ (0 : Int64) p1))), (.ref va), (.int (bktF (maxJ (0 : Int64) p1))), (.ref va)])) rfl rfl (hb hby d10_13) _ ?_
    show Steps p.tables e below (T7.setTop (mkF m 14 #[.val (.ref a1), .val (.long p1), .second] [(.long (ff (bk p1))), (.int (bktF (maxJ (0 : Int64) p1))), (.ref va)])) _
    refine XS.lconst X7.here hx rfl (hb hby d10_14) ?_
    show Steps p.tables e below (T7.setTop (mkF m 15 #[.val (.ref a1), .val (.long p1), .second] [(.long (1 : Int64)), (.long (ff (bk p1))), (.int (bktF (maxJ (0 : Int64) p1))), (.ref va)])) _
    refine XS.ladd X7.here hx rfl (hb hby d10_15) rfl ?_
    exact kt)
  obtain ⟨T11, h11, X11', e11, W11, st11⟩ := stJ X7 hx hZ e7 Arq9 (j := (bktF (maxJ (0 : Int64) p1))) (inb_of cSq9 (bkt_bound _ (max0 p1))) (g := (mkF m 16 #[.val (.ref a1), .val (.long p1), .second] [(.long ((ff (bk p1)) + (1 : Int64))), (.int (bktF (maxJ (0 : Int64) p1))), (.ref va)])) rfl rfl (hb hby d10_16)
  obtain ⟨lc11, X11, N11⟩ : ∃ lc, Stand p l e ({ frames := 3, cells := 0, slots := 0, locals := 44 } : Room) s m #[(.ref a1), (.long p1)] below meth c T11 lc 0 0 ∧ Fr n0 lc := ⟨_, X11', Fr.snoc X11' N7 pr5⟩
  have V11 : Arv Z h11 va ka .long (3712 : Int32) ((tab ff).set (bk p1) (.long ((ff (bk p1)) + (1 : Int64)))) (.long (0 : Int64)) := Arv.set Arq9 ckq9 cSq9 cNq9 cHq9 cGq9 rfl W11 (bk p1) rfl (by rw [tab_len]; exact bk_lt p1)
  have K12 : Gx p e below s₁ f0 T11 (mkF m 17 #[.val (.ref a1), .val (.long p1), .second] []) := fun t kt => K10 t (st11 t kt)
  have f13 : Arv Z h11 va ka .long (3712 : Int32) (tab (upd (bk p1) ff)) (.long (0 : Int64)) := by rw [← tab_upd]; exact V11
  have K14 : Gx p e below s₁ f0 T11 (mkF m 19 #[.val (.ref a1), .val (.long p1), .second] [(.ref a1), (.ref a1)]) := fun t kt => K12 t (by
    show Steps p.tables e below (T11.setTop (mkF m 17 #[.val (.ref a1), .val (.long p1), .second] [])) _
    refine XS.aloadN X11.here hx rfl (hb hby d10_17) rfl rfl ?_
    show Steps p.tables e below (T11.setTop (mkF m 18 #[.val (.ref a1), .val (.long p1), .second] [(.ref a1)])) _
    refine XS.dup X11.here hx rfl (hb hby d10_18) rfl rfl ?_
    exact kt)
  have f15 : Fld Z h11 a1 "com/example/tideshift/tideshift/cli/LatencyHistogram" "count" "J" (.long (0 : Int64)) := (pr2.other W11 (Or.inl (Exa.neArv (pr0.wr W11) f13 (hw _ (List.mem_of_getElem? (i := 1) rfl)))))
  obtain ⟨T16, X16, e16, st16⟩ := getF X11 hx hZ hown (host := "") (Or.inl (hw _ (List.mem_of_getElem? (i := 31) rfl))) Via.refl e11 f15 (g := (mkF m 19 #[.val (.ref a1), .val (.long p1), .second] [(.ref a1), (.ref a1)])) rfl rfl (hb hby d10_19)
  have K17 : Gx p e below s₁ f0 T16 (mkF m 22 #[.val (.ref a1), .val (.long p1), .second] [(.long (0 : Int64)), (.ref a1)]) := fun t kt => K14 t (st16 t kt)
  have K18 : Gx p e below s₁ f0 T16 (mkF m 24 #[.val (.ref a1), .val (.long p1), .second] [(.long (1 : Int64)), (.ref a1)]) := fun t kt => K17 t (by
    show Steps p.tables e below (T16.setTop (mkF m 22 #[.val (.ref a1), .val (.long p1), .second] [(.long (0 : Int64)), (.ref a1)])) _
    refine XS.lconst X16.here hx rfl (hb hby d10_22) ?_
    show Steps p.tables e below (T16.setTop (mkF m 23 #[.val (.ref a1), .val (.long p1), .second] [(.long (1 : Int64)), (.long (0 : Int64)), (.ref a1)])) _
    refine XS.ladd X16.here hx rfl (hb hby d10_23) rfl ?_
    exact kt)
  have f19 : Exa Z h11 a1 "com/example/tideshift/tideshift/cli/LatencyHistogram" := (pr0.wr W11)
  obtain ⟨T20, h20, X20', e20, W20, st20⟩ := putF X16 hx hZ hown (host := "") (Or.inl (hw _ (List.mem_of_getElem? (i := 31) rfl))) Via.refl e16 f15 f19 (Or.inl (hw _ (List.mem_of_getElem? (i := 32) rfl))) (hw _ (List.mem_of_getElem? (i := 1) rfl)) (ty := .long) (by decide) rfl rfl (g := (mkF m 24 #[.val (.ref a1), .val (.long p1), .second] [(.long (1 : Int64)), (.ref a1)])) rfl rfl (hb hby d10_24)
  obtain ⟨lc20, X20, N20⟩ : ∃ lc, Stand p l e ({ frames := 3, cells := 0, slots := 0, locals := 44 } : Room) s m #[(.ref a1), (.long p1)] below meth c T20 lc 0 0 ∧ Fr n0 lc := ⟨_, X20', Fr.snoc X20' N11 pr4⟩
  have f20_ : Fld Z h20 a1 "com/example/tideshift/tideshift/cli/LatencyHistogram" "count" "J" (.long (1 : Int64)) := f15.same W20
  have K21 : Gx p e below s₁ f0 T20 (mkF m 27 #[.val (.ref a1), .val (.long p1), .second] []) := fun t kt => K18 t (st20 t kt)
  have kp23 : Keep h0 h20 [a1, va] := (((Keep.refl h0 [a1, va]).wr W11 (Or.inl (List.mem_of_getElem? (i := 1) rfl))).wr W20 (Or.inl (List.mem_of_getElem? (i := 0) rfl)))
  have f24 : Exa Z h20 a1 "com/example/tideshift/tideshift/cli/LatencyHistogram" := (f19.wr W20)
  have f25 : Fld Z h20 a1 "com/example/tideshift/tideshift/cli/LatencyHistogram" "counts" "[J" (.ref va) := ((pr1.other W11 (Or.inl (Exa.neArv f19 f13 (hw _ (List.mem_of_getElem? (i := 1) rfl))))).other W20 (Or.inr (slot_ne (Or.inr (hw _ (List.mem_of_getElem? (i := 25) rfl))) (Or.inl (hw _ (List.mem_of_getElem? (i := 32) rfl))) (by decide) (t := (.array .long)) (t' := .long) (by decide) (by decide))))
  have f26 : Arv Z h20 va ka .long (3712 : Int32) (tab (upd (bk p1) ff)) (.long (0 : Int64)) := (f13.other W20 (Ne.symm (Exa.neArv f19 f13 (hw _ (List.mem_of_getElem? (i := 1) rfl)))))
  obtain ⟨fs22, hr22, hrun22, hended22, hW22, hsame22⟩ := X20.leave (v := none) (fun _ => rfl)
  refine ⟨_, _, pre0 _ (K21 _ ?_), hrun22, hended22, _, _, rfl, ?_, ⟨_, rfl⟩, hW22, hsame22.mono (by decide) (by decide)⟩
  · exact X20.returnOut hx Bd.returns (hb hby d10_27) hr22
  · show QRec0 Z a1 p1 va ka ff h0 n0 _ T20.heap _
    rw [e20]
    exact ⟨rfl, N20, kp23, f24, f25, f20_, f26⟩
theorem ef_Rec1 (m : MethodId) (a1 : Addr) (p1 : Int64) : entryFrame m #[(.ref a1), (.long p1)] 3 = mkF m 0 #[.val (.ref a1), .val (.long p1), .second] [] := by first | (simp [entryFrame, mkF, argsToLocals, Value.category]; done) | rfl
def QRec1 (Z : State) (a1 : Addr) (p1 : Int64) (va : Addr) (ka : ClassId) (ff : Nat → Int64) (h0 : Heap) (n0 : Nat) (v : Option Value) (h : Heap) (L : List Loc) : Prop := v = none ∧ Fr n0 L ∧ Keep h0 h [a1, va] ∧ Exa Z h a1 "com/example/tideshift/tideshift/cli/LatencyHistogram" ∧ Fld Z h a1 "com/example/tideshift/tideshift/cli/LatencyHistogram" "counts" "[J" (.ref va) ∧ Fld Z h a1 "com/example/tideshift/tideshift/cli/LatencyHistogram" "count" "J" (.long (2 : Int64)) ∧ Arv Z h va ka .long (3712 : Int32) (tab (upd (bk p1) ff)) (.long (0 : Int64))
set_option maxRecDepth 65536 in
set_option maxHeartbeats 40000000 in
theorem rmRec1 (l : Launch) (Z : State) (a0 : Array Value) (hw : ∀ d ∈ tables_1, d.before a0 Z = true) (ws : List Jvm.Cond) (a1 : Addr) (p1 : Int64) (va : Addr) (ka : ClassId) (ff : Nat → Int64) (h0 : Heap) (n0 : Nat) (Z0 : n0 ≤ h0.size) (pr0 : Exa Z h0 a1 "com/example/tideshift/tideshift/cli/LatencyHistogram") (pr1 : Fld Z h0 a1 "com/example/tideshift/tideshift/cli/LatencyHistogram" "counts" "[J" (.ref va)) (pr2 : Fld Z h0 a1 "com/example/tideshift/tideshift/cli/LatencyHistogram" "count" "J" (.long (1 : Int64))) (pr3 : Arv Z h0 va ka .long (3712 : Int32) (tab ff) (.long (0 : Int64))) (pr4 : n0 ≤ a1) (pr5 : n0 ≤ va) :
    MetFree l (⟨"com/example/tideshift/tideshift/cli/LatencyHistogram", "record", "(J)V"⟩ : MethodName) (head1 (Jvm.Cond.code (⟨"com/example/tideshift/tideshift/cli/LatencyHistogram", "record", "(J)V"⟩ : MethodName) prog_30_method_2_code 3 none :: ws) ({ frames := 3, cells := 0, slots := 0, locals := 44 } : Room)) (fun a U => a = #[(.ref a1), (.long p1)] ∧ Z.Warmed39 U.vm ∧ U.heap = h0) (fun _ _ _ _ _ => True) (fun _ U o U' => ∃ v L, o = .returned v ∧ QRec1 Z a1 p1 va ka ff h0 n0 v U'.heap L ∧ FrameEnd U o U' L ({ frames := 3, cells := 0, slots := 0, locals := 44 } : Room).cells ({ frames := 3, cells := 0, slots := 0, locals := 44 } : Room).slots) := by
  refine MetFree.of_bodySF (plainFor_of_name pn_10) hisR ?_
  intro p e s m args below meth c s₁ Bd hml0 hP hK
  obtain ⟨rfl, hZ, hh⟩ := hP
  have hx := Bd.exec
  have hby := Bd.bytes
  have hml : c.maxLocals = 3 := hml0
  have hown : s.vm.findClass "com/example/tideshift/tideshift/cli/LatencyHistogram" = some m.cls := findClass_of_methodNamed Bd.named
  have hnm := (name_of_methodNamed Bd.named Bd.method).1
  have X0 : Stand p l e ({ frames := 3, cells := 0, slots := 0, locals := 44 } : Room) s m #[(.ref a1), (.long p1)] below meth c s₁ [] 0 0 := Stand.of_body Bd
  have hs0 : h0 = s.heap := hh.symm
  have e0 : s₁.heap = h0 := by rw [← hh, Bd.state]; rfl
  have N0 := Fr.nil n0
  obtain ⟨f0, hf0⟩ : ∃ f, f = entryFrame m #[(.ref a1), (.long p1)] 3 := ⟨_, rfl⟩
  have pre0 : ∀ t, Steps p.tables e below (s₁.setTop f0) t → Steps p.tables e below (s₁.setTop (entryFrame m #[(.ref a1), (.long p1)] 3)) t := fun t k => hf0 ▸ k
  have K0 : Gx p e below s₁ f0 s₁ (mkF m 0 #[.val (.ref a1), .val (.long p1), .second] []) := fun t kt => by rw [hf0]; exact castTop (ef_Rec1 m a1 p1) kt
  have K1 : Gx p e below s₁ f0 s₁ (mkF m 1 #[.val (.ref a1), .val (.long p1), .second] [(.ref a1)]) := fun t kt => K0 t (by
    show Steps p.tables e below (s₁.setTop (mkF m 0 #[.val (.ref a1), .val (.long p1), .second] [])) _
    refine XS.aloadN X0.here hx rfl (hb hby d10_0) rfl rfl ?_
    exact kt)
  obtain ⟨T2, X2, e2, st2⟩ := getF X0 hx hZ hown (host := "") (Or.inl (hw _ (List.mem_of_getElem? (i := 24) rfl))) Via.refl e0 pr1 (g := (mkF m 1 #[.val (.ref a1), .val (.long p1), .second] [(.ref a1)])) rfl rfl (hb hby d10_1)
  have K3 : Gx p e below s₁ f0 T2 (mkF m 4 #[.val (.ref a1), .val (.long p1), .second] [(.ref va)]) := fun t kt => K1 t (st2 t kt)
  have K4 : Gx p e below s₁ f0 T2 (mkF m 6 #[.val (.ref a1), .val (.long p1), .second] [(.long p1), (.long (0 : Int64)), (.ref va)]) := fun t kt => K3 t (by
    show Steps p.tables e below (T2.setTop (mkF m 4 #[.val (.ref a1), .val (.long p1), .second] [(.ref va)])) _
    refine XS.lconst X2.here hx rfl (hb hby d10_4) ?_
    show Steps p.tables e below (T2.setTop (mkF m 5 #[.val (.ref a1), .val (.long p1), .second] [(.long (0 : Int64)), (.ref va)])) _
    refine XS.lloadN X2.here hx rfl (hb hby d10_5) rfl ?_
    exact kt)
  obtain ⟨_, _, ⟨T5, L5, k5, n5⟩, -, X5', ⟨Lc5, hQ5, l5, y5, z5⟩, st5⟩ := Jvm.LawKit.callS X2 hx (y := (⟨"java/lang/Math", "max", "(JJ)J"⟩ : MethodName)) hown (mvT hZ (hw _ (List.mem_of_getElem? (i := 53) rfl))) (mvT hZ (hw _ (List.mem_of_getElem? (i := 54) rfl))) (mvT hZ (hw _ (List.mem_of_getElem? (i := 55) rfl))) (mvT hZ (hw _ (List.mem_of_getElem? (i := 56) rfl))) (by decide) (backOf (W := 1) (rmMax l Z a0 hw [] (0 : Int64) p1 h0 n0 (Nat.le_trans Z0 (Keep.refl h0 [a1, va]).1) ) hZ (hw _ (List.mem_of_getElem? (i := 56) rfl)) (hw _ (List.mem_of_getElem? (i := 55) rfl)) (by decide) (by decide)) (g := (mkF m 6 #[.val (.ref a1), .val (.long p1), .second] [(.long p1), (.long (0 : Int64)), (.ref va)])) rfl (by rw [hml]; rfl) (argsL := [(.long (0 : Int64)), (.long p1)]) (rest := [(.ref va)]) (lenOf pd__JJ_J rfl) rfl (by show 2 * 0 + _ ≤ _; exact Nat.le_of_eq rfl) (hb hby d10_6) (fun _ _ => ⟨rfl, e2, (by decide : 0 + 0 ≤ _), (by decide : 0 + 0 ≤ _)⟩)
  dsimp only [Pt.U, Pt.locs, Pt.cells, Pt.slots] at X5' l5 y5 z5 st5 hQ5
  subst l5 y5 z5
  obtain ⟨rfl, N5q, e5⟩ := hQ5
  obtain ⟨lc5, X5, N5⟩ : ∃ lc, Stand p l e ({ frames := 3, cells := 0, slots := 0, locals := 44 } : Room) s m #[(.ref a1), (.long p1)] below meth c T5 lc 0 0 ∧ Fr n0 lc := ⟨_, X5', Fr.app N0 N5q⟩
  have K6 : Gx p e below s₁ f0 T5 (mkF m 9 #[.val (.ref a1), .val (.long p1), .second] [(.long (maxJ (0 : Int64) p1)), (.ref va)]) := fun t kt => K4 t (st5 t kt)
  obtain ⟨_, _, ⟨T7, L7, k7, n7⟩, -, X7', ⟨Lc7, hQ7, l7, y7, z7⟩, st7⟩ := Jvm.LawKit.callS X5 hx (y := (⟨"com/example/tideshift/tideshift/cli/LatencyHistogram", "bucketOf", "(J)I"⟩ : MethodName)) hown (mvT hZ (hw _ (List.mem_of_getElem? (i := 10) rfl))) (mvT hZ (hw _ (List.mem_of_getElem? (i := 11) rfl))) (mvT hZ (hw _ (List.mem_of_getElem? (i := 2) rfl))) (mvT hZ (hw _ (List.mem_of_getElem? (i := 12) rfl))) (by decide) (backOf (W := 1) (rmBkt l Z a0 hw [] (maxJ (0 : Int64) p1) h0 n0 (Nat.le_trans Z0 (Keep.refl h0 [a1, va]).1) ) hZ (hw _ (List.mem_of_getElem? (i := 12) rfl)) (hw _ (List.mem_of_getElem? (i := 2) rfl)) (by decide) (by decide)) (g := (mkF m 9 #[.val (.ref a1), .val (.long p1), .second] [(.long (maxJ (0 : Int64) p1)), (.ref va)])) rfl (by rw [hml]; rfl) (argsL := [(.long (maxJ (0 : Int64) p1))]) (rest := [(.ref va)]) (lenOf pd__J_I rfl) rfl (by show 2 * 0 + _ ≤ _; exact Nat.le_of_eq rfl) (hb hby d10_9) (fun _ _ => ⟨rfl, e5, (by decide : 0 + 0 ≤ _), (by decide : 0 + 0 ≤ _)⟩)
  dsimp only [Pt.U, Pt.locs, Pt.cells, Pt.slots] at X7' l7 y7 z7 st7 hQ7
  subst l7 y7 z7
  obtain ⟨rfl, N7q, e7⟩ := hQ7
  obtain ⟨lc7, X7, N7⟩ : ∃ lc, Stand p l e ({ frames := 3, cells := 0, slots := 0, locals := 44 } : Room) s m #[(.ref a1), (.long p1)] below meth c T7 lc 0 0 ∧ Fr n0 lc := ⟨_, X7', Fr.app N5 N7q⟩
  have K8 : Gx p e below s₁ f0 T7 (mkF m 12 #[.val (.ref a1), .val (.long p1), .second] [(.int (bktF (maxJ (0 : Int64) p1))), (.ref va)]) := fun t kt => K6 t (st7 t kt)
  obtain ⟨clq9, Arq9, ckq9, cSq9, cNq9, cHq9, cGq9⟩ := id pr3
  have K10 : Gx p e below s₁ f0 T7 (mkF m 16 #[.val (.ref a1), .val (.long p1), .second] [(.long ((ff (bk p1)) + (1 : Int64))), (.int (bktF (maxJ (0 : Int64) p1))), (.ref va)]) := fun t kt => K8 t (by
    show Steps p.tables e below (T7.setTop (mkF m 12 #[.val (.ref a1), .val (.long p1), .second] [(.int (bktF (maxJ (0 : Int64) p1))), (.ref va)])) _
    refine XT.dup2 X7.here hx rfl (hb hby d10_12) rfl rfl rfl ?_
    show Steps p.tables e below (T7.setTop (mkF m 13 #[.val (.ref a1), .val (.long p1), .second] [(.int (bktF (maxJ (0 : Int64) p1))), (.ref va), (.int (bktF (maxJ (0 : Int64) p1))), (.ref va)])) _
    refine X7.laload hx (j := (bktF (maxJ (0 : Int64) p1))) (v := (.long (ff (bk p1)))) (by rw [e7]; exact Arq9.1) (State.isArrayOf_alike hZ.alike Arq9.2.1) Arq9.2.2 (inb_of cSq9 (bkt_bound _ (max0 p1))) (Has.at cHq9 (inb_of cSq9 (bkt_bound _ (max0 p1))) (read_bk ff p1 _)) (g := (mkF m 13 #[.val (.ref a1), .val (.long p1), .second] [(.int (bktF (maxJ (0 : Int64) p1))), (.ref va), (.int (bktF (maxJ (0 : Int64) p1))), (.ref va)])) rfl rfl (hb hby d10_13) _ ?_
    show Steps p.tables e below (T7.setTop (mkF m 14 #[.val (.ref a1), .val (.long p1), .second] [(.long (ff (bk p1))), (.int (bktF (maxJ (0 : Int64) p1))), (.ref va)])) _
    refine XS.lconst X7.here hx rfl (hb hby d10_14) ?_
    show Steps p.tables e below (T7.setTop (mkF m 15 #[.val (.ref a1), .val (.long p1), .second] [(.long (1 : Int64)), (.long (ff (bk p1))), (.int (bktF (maxJ (0 : Int64) p1))), (.ref va)])) _
    refine XS.ladd X7.here hx rfl (hb hby d10_15) rfl ?_
    exact kt)
  obtain ⟨T11, h11, X11', e11, W11, st11⟩ := stJ X7 hx hZ e7 Arq9 (j := (bktF (maxJ (0 : Int64) p1))) (inb_of cSq9 (bkt_bound _ (max0 p1))) (g := (mkF m 16 #[.val (.ref a1), .val (.long p1), .second] [(.long ((ff (bk p1)) + (1 : Int64))), (.int (bktF (maxJ (0 : Int64) p1))), (.ref va)])) rfl rfl (hb hby d10_16)
  obtain ⟨lc11, X11, N11⟩ : ∃ lc, Stand p l e ({ frames := 3, cells := 0, slots := 0, locals := 44 } : Room) s m #[(.ref a1), (.long p1)] below meth c T11 lc 0 0 ∧ Fr n0 lc := ⟨_, X11', Fr.snoc X11' N7 pr5⟩
  have V11 : Arv Z h11 va ka .long (3712 : Int32) ((tab ff).set (bk p1) (.long ((ff (bk p1)) + (1 : Int64)))) (.long (0 : Int64)) := Arv.set Arq9 ckq9 cSq9 cNq9 cHq9 cGq9 rfl W11 (bk p1) rfl (by rw [tab_len]; exact bk_lt p1)
  have K12 : Gx p e below s₁ f0 T11 (mkF m 17 #[.val (.ref a1), .val (.long p1), .second] []) := fun t kt => K10 t (st11 t kt)
  have f13 : Arv Z h11 va ka .long (3712 : Int32) (tab (upd (bk p1) ff)) (.long (0 : Int64)) := by rw [← tab_upd]; exact V11
  have K14 : Gx p e below s₁ f0 T11 (mkF m 19 #[.val (.ref a1), .val (.long p1), .second] [(.ref a1), (.ref a1)]) := fun t kt => K12 t (by
    show Steps p.tables e below (T11.setTop (mkF m 17 #[.val (.ref a1), .val (.long p1), .second] [])) _
    refine XS.aloadN X11.here hx rfl (hb hby d10_17) rfl rfl ?_
    show Steps p.tables e below (T11.setTop (mkF m 18 #[.val (.ref a1), .val (.long p1), .second] [(.ref a1)])) _
    refine XS.dup X11.here hx rfl (hb hby d10_18) rfl rfl ?_
    exact kt)
  have f15 : Fld Z h11 a1 "com/example/tideshift/tideshift/cli/LatencyHistogram" "count" "J" (.long (1 : Int64)) := (pr2.other W11 (Or.inl (Exa.neArv (pr0.wr W11) f13 (hw _ (List.mem_of_getElem? (i := 1) rfl)))))
  obtain ⟨T16, X16, e16, st16⟩ := getF X11 hx hZ hown (host := "") (Or.inl (hw _ (List.mem_of_getElem? (i := 31) rfl))) Via.refl e11 f15 (g := (mkF m 19 #[.val (.ref a1), .val (.long p1), .second] [(.ref a1), (.ref a1)])) rfl rfl (hb hby d10_19)
  have K17 : Gx p e below s₁ f0 T16 (mkF m 22 #[.val (.ref a1), .val (.long p1), .second] [(.long (1 : Int64)), (.ref a1)]) := fun t kt => K14 t (st16 t kt)
  have K18 : Gx p e below s₁ f0 T16 (mkF m 24 #[.val (.ref a1), .val (.long p1), .second] [(.long (2 : Int64)), (.ref a1)]) := fun t kt => K17 t (by
    show Steps p.tables e below (T16.setTop (mkF m 22 #[.val (.ref a1), .val (.long p1), .second] [(.long (1 : Int64)), (.ref a1)])) _
    refine XS.lconst X16.here hx rfl (hb hby d10_22) ?_
    show Steps p.tables e below (T16.setTop (mkF m 23 #[.val (.ref a1), .val (.long p1), .second] [(.long (1 : Int64)), (.long (1 : Int64)), (.ref a1)])) _
    refine XS.ladd X16.here hx rfl (hb hby d10_23) rfl ?_
    exact kt)
  have f19 : Exa Z h11 a1 "com/example/tideshift/tideshift/cli/LatencyHistogram" := (pr0.wr W11)
  obtain ⟨T20, h20, X20', e20, W20, st20⟩ := putF X16 hx hZ hown (host := "") (Or.inl (hw _ (List.mem_of_getElem? (i := 31) rfl))) Via.refl e16 f15 f19 (Or.inl (hw _ (List.mem_of_getElem? (i := 32) rfl))) (hw _ (List.mem_of_getElem? (i := 1) rfl)) (ty := .long) (by decide) rfl rfl (g := (mkF m 24 #[.val (.ref a1), .val (.long p1), .second] [(.long (2 : Int64)), (.ref a1)])) rfl rfl (hb hby d10_24)
  obtain ⟨lc20, X20, N20⟩ : ∃ lc, Stand p l e ({ frames := 3, cells := 0, slots := 0, locals := 44 } : Room) s m #[(.ref a1), (.long p1)] below meth c T20 lc 0 0 ∧ Fr n0 lc := ⟨_, X20', Fr.snoc X20' N11 pr4⟩
  have f20_ : Fld Z h20 a1 "com/example/tideshift/tideshift/cli/LatencyHistogram" "count" "J" (.long (2 : Int64)) := f15.same W20
  have K21 : Gx p e below s₁ f0 T20 (mkF m 27 #[.val (.ref a1), .val (.long p1), .second] []) := fun t kt => K18 t (st20 t kt)
  have kp23 : Keep h0 h20 [a1, va] := (((Keep.refl h0 [a1, va]).wr W11 (Or.inl (List.mem_of_getElem? (i := 1) rfl))).wr W20 (Or.inl (List.mem_of_getElem? (i := 0) rfl)))
  have f24 : Exa Z h20 a1 "com/example/tideshift/tideshift/cli/LatencyHistogram" := (f19.wr W20)
  have f25 : Fld Z h20 a1 "com/example/tideshift/tideshift/cli/LatencyHistogram" "counts" "[J" (.ref va) := ((pr1.other W11 (Or.inl (Exa.neArv f19 f13 (hw _ (List.mem_of_getElem? (i := 1) rfl))))).other W20 (Or.inr (slot_ne (Or.inr (hw _ (List.mem_of_getElem? (i := 25) rfl))) (Or.inl (hw _ (List.mem_of_getElem? (i := 32) rfl))) (by decide) (t := (.array .long)) (t' := .long) (by decide) (by decide))))
  have f26 : Arv Z h20 va ka .long (3712 : Int32) (tab (upd (bk p1) ff)) (.long (0 : Int64)) := (f13.other W20 (Ne.symm (Exa.neArv f19 f13 (hw _ (List.mem_of_getElem? (i := 1) rfl)))))
  obtain ⟨fs22, hr22, hrun22, hended22, hW22, hsame22⟩ := X20.leave (v := none) (fun _ => rfl)
  refine ⟨_, _, pre0 _ (K21 _ ?_), hrun22, hended22, _, _, rfl, ?_, ⟨_, rfl⟩, hW22, hsame22.mono (by decide) (by decide)⟩
  · exact X20.returnOut hx Bd.returns (hb hby d10_27) hr22
  · show QRec1 Z a1 p1 va ka ff h0 n0 _ T20.heap _
    rw [e20]
    exact ⟨rfl, N20, kp23, f24, f25, f20_, f26⟩
theorem d7_0 : decode prog_30_method_5_code 0 = .ok (.aload_n 0, 1) := by decide +kernel
theorem d7_1 : decode prog_30_method_5_code 1 = .ok (.getfield 27, 3) := by decide +kernel
theorem d7_4 : decode prog_30_method_5_code 4 = .ok (.lreturn, 1) := by decide +kernel
theorem pn_7 : plainName "com/example/tideshift/tideshift/cli/LatencyHistogram" = true := by first | (simp [plainName, overriddenIn]; done) | decide +kernel
theorem ef_Cnt (m : MethodId) (a1 : Addr) : entryFrame m #[(.ref a1)] 1 = mkF m 0 #[.val (.ref a1)] [] := by first | (simp [entryFrame, mkF, argsToLocals, Value.category]; done) | rfl
def QCnt (Z : State) (a1 : Addr) (cc : Int64) (h0 : Heap) (n0 : Nat) (v : Option Value) (h : Heap) (L : List Loc) : Prop := v = some (.long cc) ∧ Fr n0 L ∧ h = h0
set_option maxRecDepth 65536 in
set_option maxHeartbeats 40000000 in
theorem rmCnt (l : Launch) (Z : State) (a0 : Array Value) (hw : ∀ d ∈ tables_1, d.before a0 Z = true) (ws : List Jvm.Cond) (a1 : Addr) (cc : Int64) (h0 : Heap) (n0 : Nat) (Z0 : n0 ≤ h0.size) (pr0 : Fld Z h0 a1 "com/example/tideshift/tideshift/cli/LatencyHistogram" "count" "J" (.long cc)) :
    MetFree l (⟨"com/example/tideshift/tideshift/cli/LatencyHistogram", "count", "()J"⟩ : MethodName) (head1 (Jvm.Cond.code (⟨"com/example/tideshift/tideshift/cli/LatencyHistogram", "count", "()J"⟩ : MethodName) prog_30_method_5_code 1 (some .long) :: ws) ({ frames := 0, cells := 0, slots := 0, locals := 0 } : Room)) (fun a U => a = #[(.ref a1)] ∧ Z.Warmed39 U.vm ∧ U.heap = h0) (fun _ _ _ _ _ => True) (fun _ U o U' => ∃ v L, o = .returned v ∧ QCnt Z a1 cc h0 n0 v U'.heap L ∧ FrameEnd U o U' L ({ frames := 0, cells := 0, slots := 0, locals := 0 } : Room).cells ({ frames := 0, cells := 0, slots := 0, locals := 0 } : Room).slots) := by
  refine MetFree.of_bodySF (plainFor_of_name pn_7) hisR ?_
  intro p e s m args below meth c s₁ Bd hml0 hP hK
  obtain ⟨rfl, hZ, hh⟩ := hP
  have hx := Bd.exec
  have hby := Bd.bytes
  have hml : c.maxLocals = 1 := hml0
  have hown : s.vm.findClass "com/example/tideshift/tideshift/cli/LatencyHistogram" = some m.cls := findClass_of_methodNamed Bd.named
  have hnm := (name_of_methodNamed Bd.named Bd.method).1
  have X0 : Stand p l e ({ frames := 0, cells := 0, slots := 0, locals := 0 } : Room) s m #[(.ref a1)] below meth c s₁ [] 0 0 := Stand.of_body Bd
  have hs0 : h0 = s.heap := hh.symm
  have e0 : s₁.heap = h0 := by rw [← hh, Bd.state]; rfl
  have N0 := Fr.nil n0
  obtain ⟨f0, hf0⟩ : ∃ f, f = entryFrame m #[(.ref a1)] 1 := ⟨_, rfl⟩
  have pre0 : ∀ t, Steps p.tables e below (s₁.setTop f0) t → Steps p.tables e below (s₁.setTop (entryFrame m #[(.ref a1)] 1)) t := fun t k => hf0 ▸ k
  have K0 : Gx p e below s₁ f0 s₁ (mkF m 0 #[.val (.ref a1)] []) := fun t kt => by rw [hf0]; exact castTop (ef_Cnt m a1) kt
  have K1 : Gx p e below s₁ f0 s₁ (mkF m 1 #[.val (.ref a1)] [(.ref a1)]) := fun t kt => K0 t (by
    show Steps p.tables e below (s₁.setTop (mkF m 0 #[.val (.ref a1)] [])) _
    refine XS.aloadN X0.here hx rfl (hb hby d7_0) rfl rfl ?_
    exact kt)
  obtain ⟨T2, X2, e2, st2⟩ := getF X0 hx hZ hown (host := "") (Or.inl (hw _ (List.mem_of_getElem? (i := 31) rfl))) Via.refl e0 pr0 (g := (mkF m 1 #[.val (.ref a1)] [(.ref a1)])) rfl rfl (hb hby d7_1)
  have K3 : Gx p e below s₁ f0 T2 (mkF m 4 #[.val (.ref a1)] [(.long cc)]) := fun t kt => K1 t (st2 t kt)
  obtain ⟨fs4, hr4, hrun4, hended4, hW4, hsame4⟩ := X2.leave (v := some (.long cc)) (fun h => by rw [Bd.returns] at h; cases h)
  refine ⟨_, _, pre0 _ (K3 _ ?_), hrun4, hended4, _, _, rfl, ?_, ⟨_, rfl⟩, hW4, hsame4.mono (by decide) (by decide)⟩
  · show Steps p.tables e below (T2.setTop (mkF m 4 #[.val (.ref a1)] [(.long cc)])) _
    jvm_step X2.here [X2.here.top, hx, (hb hby d7_4), X2.method', Bd.returns, narrow]
    first | (intro acts; rw [hr4 _ acts rfl rfl rfl]) | rw [hr4 _ _ rfl rfl rfl]
    exact Steps.refl _
  · show QCnt Z a1 cc h0 n0 _ T2.heap _
    rw [e2]
    exact ⟨rfl, N0, rfl⟩
theorem d9_0 : decode method_3_code 0 = .ok (.dload_n 0, 1) := by decide +kernel
theorem d9_1 : decode method_3_code 1 = .ok (.dload_n 2, 1) := by decide +kernel
theorem d9_2 : decode method_3_code 2 = .ok (.dcmp .l, 1) := by decide +kernel
theorem d9_3 : decode method_3_code 3 = .ok (.ifCond .eq 15, 3) := by decide +kernel
theorem d9_6 : decode method_3_code 6 = .ok (.dload_n 0, 1) := by decide +kernel
theorem d9_7 : decode method_3_code 7 = .ok (.dload_n 0, 1) := by decide +kernel
theorem d9_8 : decode method_3_code 8 = .ok (.dcmp .l, 1) := by decide +kernel
theorem d9_9 : decode method_3_code 9 = .ok (.ifCond .eq 13, 3) := by decide +kernel
theorem d9_12 : decode method_3_code 12 = .ok (.dload_n 2, 1) := by decide +kernel
theorem d9_13 : decode method_3_code 13 = .ok (.dload_n 2, 1) := by decide +kernel
theorem d9_14 : decode method_3_code 14 = .ok (.dcmp .l, 1) := by decide +kernel
theorem d9_15 : decode method_3_code 15 = .ok (.ifCond .eq 7, 3) := by decide +kernel
theorem d9_18 : decode method_3_code 18 = .ok (.iconst 1, 1) := by decide +kernel
theorem d9_19 : decode method_3_code 19 = .ok (.goto 4, 3) := by decide +kernel
theorem d9_23 : decode method_3_code 23 = .ok (.ireturn, 1) := by decide +kernel
theorem pn_9 : plainName "com/example/tideshift/tideshift/cli/LatencyHistogramAddPinLaw" = true := by first | (simp [plainName, overriddenIn]; done) | decide +kernel
theorem ef_Sam (m : MethodId) (p1 : UInt64) : entryFrame m #[(.double p1), (.double p1)] 4 = mkF m 0 #[.val (.double p1), .second, .val (.double p1), .second] [] := by first | (simp [entryFrame, mkF, argsToLocals, Value.category]; done) | rfl
def QSam (Z : State) (p1 : UInt64) (h0 : Heap) (n0 : Nat) (v : Option Value) (h : Heap) (L : List Loc) : Prop := v = some (.int (1 : Int32)) ∧ Fr n0 L ∧ h = h0
set_option maxRecDepth 65536 in
set_option maxHeartbeats 40000000 in
theorem rmSam (l : Launch) (Z : State) (a0 : Array Value) (hw : ∀ d ∈ tables_1, d.before a0 Z = true) (ws : List Jvm.Cond) (p1 : UInt64) (h0 : Heap) (n0 : Nat) (Z0 : n0 ≤ h0.size) :
    MetFree l (⟨"com/example/tideshift/tideshift/cli/LatencyHistogramAddPinLaw", "same", "(DD)Z"⟩ : MethodName) (head1 (Jvm.Cond.code (⟨"com/example/tideshift/tideshift/cli/LatencyHistogramAddPinLaw", "same", "(DD)Z"⟩ : MethodName) method_3_code 4 (some .boolean) :: ws) ({ frames := 0, cells := 0, slots := 0, locals := 0 } : Room)) (fun a U => a = #[(.double p1), (.double p1)] ∧ Z.Warmed39 U.vm ∧ U.heap = h0) (fun _ _ _ _ _ => True) (fun _ U o U' => ∃ v L, o = .returned v ∧ QSam Z p1 h0 n0 v U'.heap L ∧ FrameEnd U o U' L ({ frames := 0, cells := 0, slots := 0, locals := 0 } : Room).cells ({ frames := 0, cells := 0, slots := 0, locals := 0 } : Room).slots) := by
  refine MetFree.of_bodySF (plainFor_of_name pn_9) hisR ?_
  intro p e s m args below meth c s₁ Bd hml0 hP hK
  obtain ⟨rfl, hZ, hh⟩ := hP
  have hx := Bd.exec
  have hby := Bd.bytes
  have hml : c.maxLocals = 4 := hml0
  have hown : s.vm.findClass "com/example/tideshift/tideshift/cli/LatencyHistogramAddPinLaw" = some m.cls := findClass_of_methodNamed Bd.named
  have hnm := (name_of_methodNamed Bd.named Bd.method).1
  have X0 : Stand p l e ({ frames := 0, cells := 0, slots := 0, locals := 0 } : Room) s m #[(.double p1), (.double p1)] below meth c s₁ [] 0 0 := Stand.of_body Bd
  have hs0 : h0 = s.heap := hh.symm
  have e0 : s₁.heap = h0 := by rw [← hh, Bd.state]; rfl
  have N0 := Fr.nil n0
  obtain ⟨f0, hf0⟩ : ∃ f, f = entryFrame m #[(.double p1), (.double p1)] 4 := ⟨_, rfl⟩
  have pre0 : ∀ t, Steps p.tables e below (s₁.setTop f0) t → Steps p.tables e below (s₁.setTop (entryFrame m #[(.double p1), (.double p1)] 4)) t := fun t k => hf0 ▸ k
  have K0 : Gx p e below s₁ f0 s₁ (mkF m 0 #[.val (.double p1), .second, .val (.double p1), .second] []) := fun t kt => by rw [hf0]; exact castTop (ef_Sam m p1) kt
  have K1 : Gx p e below s₁ f0 s₁ (mkF m 3 #[.val (.double p1), .second, .val (.double p1), .second] [(.int (cmpValue (FP.dcmp p1 p1) .l))]) := fun t kt => K0 t (by
    show Steps p.tables e below (s₁.setTop (mkF m 0 #[.val (.double p1), .second, .val (.double p1), .second] [])) _
    refine XS.dloadN X0.here hx rfl (hb hby d9_0) rfl ?_
    show Steps p.tables e below (s₁.setTop (mkF m 1 #[.val (.double p1), .second, .val (.double p1), .second] [(.double p1)])) _
    refine XS.dloadN X0.here hx rfl (hb hby d9_1) rfl ?_
    show Steps p.tables e below (s₁.setTop (mkF m 2 #[.val (.double p1), .second, .val (.double p1), .second] [(.double p1), (.double p1)])) _
    refine XS.dcmpS X0.here hx rfl (hb hby d9_2) rfl (v := (cmpValue (FP.dcmp p1 p1) .l)) rfl ?_
    exact kt)
  by_cases hb2 : (cmpValue (FP.dcmp p1 p1) .l) = (0 : Int32)
  · skip
    have K3 : Gx p e below s₁ f0 s₁ (mkF m 23 #[.val (.double p1), .second, .val (.double p1), .second] [(.int (1 : Int32))]) := fun t kt => K1 t (by
      show Steps p.tables e below (s₁.setTop (mkF m 3 #[.val (.double p1), .second, .val (.double p1), .second] [(.int (cmpValue (FP.dcmp p1 p1) .l))])) _
      refine XS.ifYes X0.here hx rfl (pc0 := 3) (pc' := 18) rfl (hb hby d9_3) rfl ((if0 _ _).trans (teq hb2).1) (by decide) (by decide) ?_
      show Steps p.tables e below (s₁.setTop (mkF m 18 #[.val (.double p1), .second, .val (.double p1), .second] [])) _
      refine XS.iconst X0.here hx rfl (hb hby d9_18) ?_
      show Steps p.tables e below (s₁.setTop (mkF m 19 #[.val (.double p1), .second, .val (.double p1), .second] [(.int (1 : Int32))])) _
      refine XS.goto X0.here hx rfl (pc0 := 19) (pc' := 23) rfl (hb hby d9_19) (by decide) (by decide) ?_
      exact kt)
    obtain ⟨fs4, hr4, hrun4, hended4, hW4, hsame4⟩ := X0.leave (v := some (.int (1 : Int32))) (fun h => by rw [Bd.returns] at h; cases h)
    refine ⟨_, _, pre0 _ (K3 _ ?_), hrun4, hended4, _, _, rfl, ?_, ⟨_, rfl⟩, hW4, hsame4.mono (by decide) (by decide)⟩
    · exact retN X0 hx (t := .boolean) Bd.returns (by simp) (hb hby d9_23) hr4
    · show QSam Z p1 h0 n0 _ s₁.heap _
      rw [e0]
      exact ⟨rfl, N0, rfl⟩
  · skip
    have K5 : Gx p e below s₁ f0 s₁ (mkF m 23 #[.val (.double p1), .second, .val (.double p1), .second] [(.int (1 : Int32))]) := fun t kt => K1 t (by
      show Steps p.tables e below (s₁.setTop (mkF m 3 #[.val (.double p1), .second, .val (.double p1), .second] [(.int (cmpValue (FP.dcmp p1 p1) .l))])) _
      refine XS.ifNo X0.here hx rfl (hb hby d9_3) rfl ((if0 _ _).trans (feq hb2).1) ?_
      show Steps p.tables e below (s₁.setTop (mkF m 6 #[.val (.double p1), .second, .val (.double p1), .second] [])) _
      refine XS.dloadN X0.here hx rfl (hb hby d9_6) rfl ?_
      show Steps p.tables e below (s₁.setTop (mkF m 7 #[.val (.double p1), .second, .val (.double p1), .second] [(.double p1)])) _
      refine XS.dloadN X0.here hx rfl (hb hby d9_7) rfl ?_
      show Steps p.tables e below (s₁.setTop (mkF m 8 #[.val (.double p1), .second, .val (.double p1), .second] [(.double p1), (.double p1)])) _
      refine XS.dcmpS X0.here hx rfl (hb hby d9_8) rfl (v := (cmpValue (FP.dcmp p1 p1) .l)) rfl ?_
      show Steps p.tables e below (s₁.setTop (mkF m 9 #[.val (.double p1), .second, .val (.double p1), .second] [(.int (cmpValue (FP.dcmp p1 p1) .l))])) _
      refine XS.ifNo X0.here hx rfl (hb hby d9_9) rfl ((if0 _ _).trans (feq hb2).1) ?_
      show Steps p.tables e below (s₁.setTop (mkF m 12 #[.val (.double p1), .second, .val (.double p1), .second] [])) _
      refine XS.dloadN X0.here hx rfl (hb hby d9_12) rfl ?_
      show Steps p.tables e below (s₁.setTop (mkF m 13 #[.val (.double p1), .second, .val (.double p1), .second] [(.double p1)])) _
      refine XS.dloadN X0.here hx rfl (hb hby d9_13) rfl ?_
      show Steps p.tables e below (s₁.setTop (mkF m 14 #[.val (.double p1), .second, .val (.double p1), .second] [(.double p1), (.double p1)])) _
      refine XS.dcmpS X0.here hx rfl (hb hby d9_14) rfl (v := (cmpValue (FP.dcmp p1 p1) .l)) rfl ?_
      show Steps p.tables e below (s₁.setTop (mkF m 15 #[.val (.double p1), .second, .val (.double p1), .second] [(.int (cmpValue (FP.dcmp p1 p1) .l))])) _
      refine XS.ifNo X0.here hx rfl (hb hby d9_15) rfl ((if0 _ _).trans (feq hb2).1) ?_
      show Steps p.tables e below (s₁.setTop (mkF m 18 #[.val (.double p1), .second, .val (.double p1), .second] [])) _
      refine XS.iconst X0.here hx rfl (hb hby d9_18) ?_
      show Steps p.tables e below (s₁.setTop (mkF m 19 #[.val (.double p1), .second, .val (.double p1), .second] [(.int (1 : Int32))])) _
      refine XS.goto X0.here hx rfl (pc0 := 19) (pc' := 23) rfl (hb hby d9_19) (by decide) (by decide) ?_
      exact kt)
    obtain ⟨fs6, hr6, hrun6, hended6, hW6, hsame6⟩ := X0.leave (v := some (.int (1 : Int32))) (fun h => by rw [Bd.returns] at h; cases h)
    refine ⟨_, _, pre0 _ (K5 _ ?_), hrun6, hended6, _, _, rfl, ?_, ⟨_, rfl⟩, hW6, hsame6.mono (by decide) (by decide)⟩
    · exact retN X0 hx (t := .boolean) Bd.returns (by simp) (hb hby d9_23) hr6
    · show QSam Z p1 h0 n0 _ s₁.heap _
      rw [e0]
      exact ⟨rfl, N0, rfl⟩
theorem d16_0 : decode prog_30_method_8_code 0 = .ok (.iload_n 0, 1) := by decide +kernel
theorem d16_1 : decode prog_30_method_8_code 1 = .ok (.sipush 128, 3) := by decide +kernel
theorem d16_4 : decode prog_30_method_8_code 4 = .ok (.if_icmp .ge 6, 3) := by decide +kernel
theorem d16_7 : decode prog_30_method_8_code 7 = .ok (.iload_n 0, 1) := by decide +kernel
theorem d16_8 : decode prog_30_method_8_code 8 = .ok (.i2d, 1) := by decide +kernel
theorem d16_9 : decode prog_30_method_8_code 9 = .ok (.dreturn, 1) := by decide +kernel
theorem d16_10 : decode prog_30_method_8_code 10 = .ok (.iload_n 0, 1) := by decide +kernel
theorem d16_11 : decode prog_30_method_8_code 11 = .ok (.bipush 64, 2) := by decide +kernel
theorem d16_13 : decode prog_30_method_8_code 13 = .ok (.idiv, 1) := by decide +kernel
theorem d16_14 : decode prog_30_method_8_code 14 = .ok (.iconst 1, 1) := by decide +kernel
theorem d16_15 : decode prog_30_method_8_code 15 = .ok (.isub, 1) := by decide +kernel
theorem d16_16 : decode prog_30_method_8_code 16 = .ok (.istore_n 1, 1) := by decide +kernel
theorem d16_17 : decode prog_30_method_8_code 17 = .ok (.iload_n 0, 1) := by decide +kernel
theorem d16_18 : decode prog_30_method_8_code 18 = .ok (.bipush 64, 2) := by decide +kernel
theorem d16_20 : decode prog_30_method_8_code 20 = .ok (.irem, 1) := by decide +kernel
theorem d16_21 : decode prog_30_method_8_code 21 = .ok (.bipush 64, 2) := by decide +kernel
theorem d16_23 : decode prog_30_method_8_code 23 = .ok (.iadd, 1) := by decide +kernel
theorem d16_24 : decode prog_30_method_8_code 24 = .ok (.i2l, 1) := by decide +kernel
theorem d16_25 : decode prog_30_method_8_code 25 = .ok (.iload_n 1, 1) := by decide +kernel
theorem d16_26 : decode prog_30_method_8_code 26 = .ok (.lshl, 1) := by decide +kernel
theorem d16_27 : decode prog_30_method_8_code 27 = .ok (.lstore_n 2, 1) := by decide +kernel
theorem d16_28 : decode prog_30_method_8_code 28 = .ok (.lload_n 2, 1) := by decide +kernel
theorem d16_29 : decode prog_30_method_8_code 29 = .ok (.l2d, 1) := by decide +kernel
theorem d16_30 : decode prog_30_method_8_code 30 = .ok (.lconst 1, 1) := by decide +kernel
theorem d16_31 : decode prog_30_method_8_code 31 = .ok (.iload_n 1, 1) := by decide +kernel
theorem d16_32 : decode prog_30_method_8_code 32 = .ok (.lshl, 1) := by decide +kernel
theorem d16_33 : decode prog_30_method_8_code 33 = .ok (.lconst 1, 1) := by decide +kernel
theorem d16_34 : decode prog_30_method_8_code 34 = .ok (.lsub, 1) := by decide +kernel
theorem d16_35 : decode prog_30_method_8_code 35 = .ok (.l2d, 1) := by decide +kernel
theorem d16_36 : decode prog_30_method_8_code 36 = .ok (.ldc2_w 54, 3) := by decide +kernel
theorem d16_39 : decode prog_30_method_8_code 39 = .ok (.ddiv, 1) := by decide +kernel
theorem d16_40 : decode prog_30_method_8_code 40 = .ok (.dadd, 1) := by decide +kernel
theorem d16_41 : decode prog_30_method_8_code 41 = .ok (.dreturn, 1) := by decide +kernel
theorem pn_16 : plainName "com/example/tideshift/tideshift/cli/LatencyHistogram" = true := by first | (simp [plainName, overriddenIn]; done) | decide +kernel
theorem ef_Mid (m : MethodId) (p1 : Int32) : entryFrame m #[(.int p1)] 4 = mkF m 0 #[.val (.int p1), .unset, .unset, .unset] [] := by first | (simp [entryFrame, mkF, argsToLocals, Value.category]; done) | rfl
def QMid (Z : State) (p1 : Int32) (h0 : Heap) (n0 : Nat) (v : Option Value) (h : Heap) (L : List Loc) : Prop := v = some (.double (midF p1)) ∧ Fr n0 L ∧ h = h0
set_option maxRecDepth 65536 in
set_option maxHeartbeats 40000000 in
theorem rmMid (l : Launch) (Z : State) (a0 : Array Value) (hw : ∀ d ∈ tables_1, d.before a0 Z = true) (ws : List Jvm.Cond) (p1 : Int32) (h0 : Heap) (n0 : Nat) (Z0 : n0 ≤ h0.size) :
    MetFree l (⟨"com/example/tideshift/tideshift/cli/LatencyHistogram", "middle", "(I)D"⟩ : MethodName) (head1 (Jvm.Cond.code (⟨"com/example/tideshift/tideshift/cli/LatencyHistogram", "middle", "(I)D"⟩ : MethodName) prog_30_method_8_code 4 (some .double) :: ws) ({ frames := 0, cells := 0, slots := 0, locals := 0 } : Room)) (fun a U => a = #[(.int p1)] ∧ Z.Warmed39 U.vm ∧ U.heap = h0) (fun _ _ _ _ _ => True) (fun _ U o U' => ∃ v L, o = .returned v ∧ QMid Z p1 h0 n0 v U'.heap L ∧ FrameEnd U o U' L ({ frames := 0, cells := 0, slots := 0, locals := 0 } : Room).cells ({ frames := 0, cells := 0, slots := 0, locals := 0 } : Room).slots) := by
  refine MetFree.of_bodySF (plainFor_of_name pn_16) hisR ?_
  intro p e s m args below meth c s₁ Bd hml0 hP hK
  obtain ⟨rfl, hZ, hh⟩ := hP
  have hx := Bd.exec
  have hby := Bd.bytes
  have hml : c.maxLocals = 4 := hml0
  have hown : s.vm.findClass "com/example/tideshift/tideshift/cli/LatencyHistogram" = some m.cls := findClass_of_methodNamed Bd.named
  have hnm := (name_of_methodNamed Bd.named Bd.method).1
  have X0 : Stand p l e ({ frames := 0, cells := 0, slots := 0, locals := 0 } : Room) s m #[(.int p1)] below meth c s₁ [] 0 0 := Stand.of_body Bd
  have hs0 : h0 = s.heap := hh.symm
  have e0 : s₁.heap = h0 := by rw [← hh, Bd.state]; rfl
  have N0 := Fr.nil n0
  obtain ⟨f0, hf0⟩ : ∃ f, f = entryFrame m #[(.int p1)] 4 := ⟨_, rfl⟩
  have pre0 : ∀ t, Steps p.tables e below (s₁.setTop f0) t → Steps p.tables e below (s₁.setTop (entryFrame m #[(.int p1)] 4)) t := fun t k => hf0 ▸ k
  have K0 : Gx p e below s₁ f0 s₁ (mkF m 0 #[.val (.int p1), .unset, .unset, .unset] []) := fun t kt => by rw [hf0]; exact castTop (ef_Mid m p1) kt
  have K1 : Gx p e below s₁ f0 s₁ (mkF m 4 #[.val (.int p1), .unset, .unset, .unset] [(.int (128 : Int32)), (.int p1)]) := fun t kt => K0 t (by
    show Steps p.tables e below (s₁.setTop (mkF m 0 #[.val (.int p1), .unset, .unset, .unset] [])) _
    refine XS.iloadN X0.here hx rfl (hb hby d16_0) rfl ?_
    show Steps p.tables e below (s₁.setTop (mkF m 1 #[.val (.int p1), .unset, .unset, .unset] [(.int p1)])) _
    refine XS.sipush X0.here hx rfl (hb hby d16_1) ?_
    exact kt)
  by_cases hb2 : p1 < (128 : Int32)
  · skip
    have K3 : Gx p e below s₁ f0 s₁ (mkF m 9 #[.val (.int p1), .unset, .unset, .unset] [(.double (FP.i2d p1))]) := fun t kt => K1 t (by
      show Steps p.tables e below (s₁.setTop (mkF m 4 #[.val (.int p1), .unset, .unset, .unset] [(.int (128 : Int32)), (.int p1)])) _
      refine XS.icmpNo X0.here hx rfl (hb hby d16_4) rfl (tlt hb2).2.1 ?_
      show Steps p.tables e below (s₁.setTop (mkF m 7 #[.val (.int p1), .unset, .unset, .unset] [])) _
      refine XS.iloadN X0.here hx rfl (hb hby d16_7) rfl ?_
      show Steps p.tables e below (s₁.setTop (mkF m 8 #[.val (.int p1), .unset, .unset, .unset] [(.int p1)])) _
      refine XS.i2dS X0.here hx rfl (hb hby d16_8) rfl (v := (FP.i2d p1)) rfl ?_
      exact kt)
    obtain ⟨fs4, hr4, hrun4, hended4, hW4, hsame4⟩ := X0.leave (v := some (.double (FP.i2d p1))) (fun h => by rw [Bd.returns] at h; cases h)
    refine ⟨_, _, pre0 _ (K3 _ ?_), hrun4, hended4, _, _, rfl, ?_, ⟨_, rfl⟩, hW4, hsame4.mono (by decide) (by decide)⟩
    · exact retD X0 hx Bd.returns (hb hby d16_9) hr4
    · show QMid Z p1 h0 n0 _ s₁.heap _
      rw [e0]
      exact ⟨(congrArg some (congrArg Value.double (by unfold midF; rw [if_pos hb2]))), N0, rfl⟩
  · skip
    have K5 : Gx p e below s₁ f0 s₁ (mkF m 41 #[.val (.int p1), .val (.int ((p1 / (64 : Int32)) - (1 : Int32))), .val (.long ((((p1 % (64 : Int32)) + (64 : Int32)).toInt64) <<< (((p1 / (64 : Int32)) - (1 : Int32)) &&& 0x3f).toInt64)), .second] [(.double (FP.dadd (FP.l2d ((((p1 % (64 : Int32)) + (64 : Int32)).toInt64) <<< (((p1 / (64 : Int32)) - (1 : Int32)) &&& 0x3f).toInt64)) (FP.ddiv (FP.l2d (((1 : Int64) <<< (((p1 / (64 : Int32)) - (1 : Int32)) &&& 0x3f).toInt64) - (1 : Int64))) (4611686018427387904 : UInt64))))]) := fun t kt => K1 t (by
      show Steps p.tables e below (s₁.setTop (mkF m 4 #[.val (.int p1), .unset, .unset, .unset] [(.int (128 : Int32)), (.int p1)])) _
      refine XS.icmpYes X0.here hx rfl (pc0 := 4) (pc' := 10) rfl (hb hby d16_4) rfl (flt hb2).2.1 (by decide) (by decide) ?_
      show Steps p.tables e below (s₁.setTop (mkF m 10 #[.val (.int p1), .unset, .unset, .unset] [])) _
      refine XS.iloadN X0.here hx rfl (hb hby d16_10) rfl ?_
      show Steps p.tables e below (s₁.setTop (mkF m 11 #[.val (.int p1), .unset, .unset, .unset] [(.int p1)])) _
      refine XS.bipush X0.here hx rfl (hb hby d16_11) ?_
      show Steps p.tables e below (s₁.setTop (mkF m 13 #[.val (.int p1), .unset, .unset, .unset] [(.int (64 : Int32)), (.int p1)])) _
      refine XS.idiv X0.here hx rfl (hb hby d16_13) rfl (by decide) ?_
      show Steps p.tables e below (s₁.setTop (mkF m 14 #[.val (.int p1), .unset, .unset, .unset] [(.int (p1 / (64 : Int32)))])) _
      refine XS.iconst X0.here hx rfl (hb hby d16_14) ?_
      show Steps p.tables e below (s₁.setTop (mkF m 15 #[.val (.int p1), .unset, .unset, .unset] [(.int (1 : Int32)), (.int (p1 / (64 : Int32)))])) _
      refine XS.isub X0.here hx rfl (hb hby d16_15) rfl ?_
      show Steps p.tables e below (s₁.setTop (mkF m 16 #[.val (.int p1), .unset, .unset, .unset] [(.int ((p1 / (64 : Int32)) - (1 : Int32)))])) _
      refine XS.istoreN X0.here hx rfl (hb hby d16_16) rfl (l' := #[.val (.int p1), .val (.int ((p1 / (64 : Int32)) - (1 : Int32))), .unset, .unset]) rfl ?_
      show Steps p.tables e below (s₁.setTop (mkF m 17 #[.val (.int p1), .val (.int ((p1 / (64 : Int32)) - (1 : Int32))), .unset, .unset] [])) _
      refine XS.iloadN X0.here hx rfl (hb hby d16_17) rfl ?_
      show Steps p.tables e below (s₁.setTop (mkF m 18 #[.val (.int p1), .val (.int ((p1 / (64 : Int32)) - (1 : Int32))), .unset, .unset] [(.int p1)])) _
      refine XS.bipush X0.here hx rfl (hb hby d16_18) ?_
      show Steps p.tables e below (s₁.setTop (mkF m 20 #[.val (.int p1), .val (.int ((p1 / (64 : Int32)) - (1 : Int32))), .unset, .unset] [(.int (64 : Int32)), (.int p1)])) _
      refine iremM X0 hx rfl (hb hby d16_20) rfl (by decide) ?_
      show Steps p.tables e below (s₁.setTop (mkF m 21 #[.val (.int p1), .val (.int ((p1 / (64 : Int32)) - (1 : Int32))), .unset, .unset] [(.int (p1 % (64 : Int32)))])) _
      refine XS.bipush X0.here hx rfl (hb hby d16_21) ?_
      show Steps p.tables e below (s₁.setTop (mkF m 23 #[.val (.int p1), .val (.int ((p1 / (64 : Int32)) - (1 : Int32))), .unset, .unset] [(.int (64 : Int32)), (.int (p1 % (64 : Int32)))])) _
      refine XS.iadd X0.here hx rfl (hb hby d16_23) rfl ?_
      show Steps p.tables e below (s₁.setTop (mkF m 24 #[.val (.int p1), .val (.int ((p1 / (64 : Int32)) - (1 : Int32))), .unset, .unset] [(.int ((p1 % (64 : Int32)) + (64 : Int32)))])) _
      refine XS.i2l X0.here hx rfl (hb hby d16_24) rfl ?_
      show Steps p.tables e below (s₁.setTop (mkF m 25 #[.val (.int p1), .val (.int ((p1 / (64 : Int32)) - (1 : Int32))), .unset, .unset] [(.long (((p1 % (64 : Int32)) + (64 : Int32)).toInt64))])) _
      refine XS.iloadN X0.here hx rfl (hb hby d16_25) rfl ?_
      show Steps p.tables e below (s₁.setTop (mkF m 26 #[.val (.int p1), .val (.int ((p1 / (64 : Int32)) - (1 : Int32))), .unset, .unset] [(.int ((p1 / (64 : Int32)) - (1 : Int32))), (.long (((p1 % (64 : Int32)) + (64 : Int32)).toInt64))])) _
      refine XS.lshl X0.here hx rfl (hb hby d16_26) rfl ?_
      show Steps p.tables e below (s₁.setTop (mkF m 27 #[.val (.int p1), .val (.int ((p1 / (64 : Int32)) - (1 : Int32))), .unset, .unset] [(.long ((((p1 % (64 : Int32)) + (64 : Int32)).toInt64) <<< (((p1 / (64 : Int32)) - (1 : Int32)) &&& 0x3f).toInt64))])) _
      refine XS.lstoreN X0.here hx rfl (hb hby d16_27) rfl (l' := #[.val (.int p1), .val (.int ((p1 / (64 : Int32)) - (1 : Int32))), .val (.long ((((p1 % (64 : Int32)) + (64 : Int32)).toInt64) <<< (((p1 / (64 : Int32)) - (1 : Int32)) &&& 0x3f).toInt64)), .second]) rfl ?_
      show Steps p.tables e below (s₁.setTop (mkF m 28 #[.val (.int p1), .val (.int ((p1 / (64 : Int32)) - (1 : Int32))), .val (.long ((((p1 % (64 : Int32)) + (64 : Int32)).toInt64) <<< (((p1 / (64 : Int32)) - (1 : Int32)) &&& 0x3f).toInt64)), .second] [])) _
      refine XS.lloadN X0.here hx rfl (hb hby d16_28) rfl ?_
      show Steps p.tables e below (s₁.setTop (mkF m 29 #[.val (.int p1), .val (.int ((p1 / (64 : Int32)) - (1 : Int32))), .val (.long ((((p1 % (64 : Int32)) + (64 : Int32)).toInt64) <<< (((p1 / (64 : Int32)) - (1 : Int32)) &&& 0x3f).toInt64)), .second] [(.long ((((p1 % (64 : Int32)) + (64 : Int32)).toInt64) <<< (((p1 / (64 : Int32)) - (1 : Int32)) &&& 0x3f).toInt64))])) _
      refine XS.l2dS X0.here hx rfl (hb hby d16_29) rfl (v := (FP.l2d ((((p1 % (64 : Int32)) + (64 : Int32)).toInt64) <<< (((p1 / (64 : Int32)) - (1 : Int32)) &&& 0x3f).toInt64))) rfl ?_
      show Steps p.tables e below (s₁.setTop (mkF m 30 #[.val (.int p1), .val (.int ((p1 / (64 : Int32)) - (1 : Int32))), .val (.long ((((p1 % (64 : Int32)) + (64 : Int32)).toInt64) <<< (((p1 / (64 : Int32)) - (1 : Int32)) &&& 0x3f).toInt64)), .second] [(.double (FP.l2d ((((p1 % (64 : Int32)) + (64 : Int32)).toInt64) <<< (((p1 / (64 : Int32)) - (1 : Int32)) &&& 0x3f).toInt64)))])) _
      refine XS.lconst X0.here hx rfl (hb hby d16_30) ?_
      show Steps p.tables e below (s₁.setTop (mkF m 31 #[.val (.int p1), .val (.int ((p1 / (64 : Int32)) - (1 : Int32))), .val (.long ((((p1 % (64 : Int32)) + (64 : Int32)).toInt64) <<< (((p1 / (64 : Int32)) - (1 : Int32)) &&& 0x3f).toInt64)), .second] [(.long (1 : Int64)), (.double (FP.l2d ((((p1 % (64 : Int32)) + (64 : Int32)).toInt64) <<< (((p1 / (64 : Int32)) - (1 : Int32)) &&& 0x3f).toInt64)))])) _
      refine XS.iloadN X0.here hx rfl (hb hby d16_31) rfl ?_
      show Steps p.tables e below (s₁.setTop (mkF m 32 #[.val (.int p1), .val (.int ((p1 / (64 : Int32)) - (1 : Int32))), .val (.long ((((p1 % (64 : Int32)) + (64 : Int32)).toInt64) <<< (((p1 / (64 : Int32)) - (1 : Int32)) &&& 0x3f).toInt64)), .second] [(.int ((p1 / (64 : Int32)) - (1 : Int32))), (.long (1 : Int64)), (.double (FP.l2d ((((p1 % (64 : Int32)) + (64 : Int32)).toInt64) <<< (((p1 / (64 : Int32)) - (1 : Int32)) &&& 0x3f).toInt64)))])) _
      refine XS.lshl X0.here hx rfl (hb hby d16_32) rfl ?_
      show Steps p.tables e below (s₁.setTop (mkF m 33 #[.val (.int p1), .val (.int ((p1 / (64 : Int32)) - (1 : Int32))), .val (.long ((((p1 % (64 : Int32)) + (64 : Int32)).toInt64) <<< (((p1 / (64 : Int32)) - (1 : Int32)) &&& 0x3f).toInt64)), .second] [(.long ((1 : Int64) <<< (((p1 / (64 : Int32)) - (1 : Int32)) &&& 0x3f).toInt64)), (.double (FP.l2d ((((p1 % (64 : Int32)) + (64 : Int32)).toInt64) <<< (((p1 / (64 : Int32)) - (1 : Int32)) &&& 0x3f).toInt64)))])) _
      refine XS.lconst X0.here hx rfl (hb hby d16_33) ?_
      show Steps p.tables e below (s₁.setTop (mkF m 34 #[.val (.int p1), .val (.int ((p1 / (64 : Int32)) - (1 : Int32))), .val (.long ((((p1 % (64 : Int32)) + (64 : Int32)).toInt64) <<< (((p1 / (64 : Int32)) - (1 : Int32)) &&& 0x3f).toInt64)), .second] [(.long (1 : Int64)), (.long ((1 : Int64) <<< (((p1 / (64 : Int32)) - (1 : Int32)) &&& 0x3f).toInt64)), (.double (FP.l2d ((((p1 % (64 : Int32)) + (64 : Int32)).toInt64) <<< (((p1 / (64 : Int32)) - (1 : Int32)) &&& 0x3f).toInt64)))])) _
      refine XS.lsub X0.here hx rfl (hb hby d16_34) rfl ?_
      show Steps p.tables e below (s₁.setTop (mkF m 35 #[.val (.int p1), .val (.int ((p1 / (64 : Int32)) - (1 : Int32))), .val (.long ((((p1 % (64 : Int32)) + (64 : Int32)).toInt64) <<< (((p1 / (64 : Int32)) - (1 : Int32)) &&& 0x3f).toInt64)), .second] [(.long (((1 : Int64) <<< (((p1 / (64 : Int32)) - (1 : Int32)) &&& 0x3f).toInt64) - (1 : Int64))), (.double (FP.l2d ((((p1 % (64 : Int32)) + (64 : Int32)).toInt64) <<< (((p1 / (64 : Int32)) - (1 : Int32)) &&& 0x3f).toInt64)))])) _
      refine XS.l2dS X0.here hx rfl (hb hby d16_35) rfl (v := (FP.l2d (((1 : Int64) <<< (((p1 / (64 : Int32)) - (1 : Int32)) &&& 0x3f).toInt64) - (1 : Int64)))) rfl ?_
      show Steps p.tables e below (s₁.setTop (mkF m 36 #[.val (.int p1), .val (.int ((p1 / (64 : Int32)) - (1 : Int32))), .val (.long ((((p1 % (64 : Int32)) + (64 : Int32)).toInt64) <<< (((p1 / (64 : Int32)) - (1 : Int32)) &&& 0x3f).toInt64)), .second] [(.double (FP.l2d (((1 : Int64) <<< (((p1 / (64 : Int32)) - (1 : Int32)) &&& 0x3f).toInt64) - (1 : Int64)))), (.double (FP.l2d ((((p1 % (64 : Int32)) + (64 : Int32)).toInt64) <<< (((p1 / (64 : Int32)) - (1 : Int32)) &&& 0x3f).toInt64)))])) _
      refine X0.ldc2DoubleC hx hown (mvT hZ (hw _ (List.mem_of_getElem? (i := 83) rfl))) (g := (mkF m 36 #[.val (.int p1), .val (.int ((p1 / (64 : Int32)) - (1 : Int32))), .val (.long ((((p1 % (64 : Int32)) + (64 : Int32)).toInt64) <<< (((p1 / (64 : Int32)) - (1 : Int32)) &&& 0x3f).toInt64)), .second] [(.double (FP.l2d (((1 : Int64) <<< (((p1 / (64 : Int32)) - (1 : Int32)) &&& 0x3f).toInt64) - (1 : Int64)))), (.double (FP.l2d ((((p1 % (64 : Int32)) + (64 : Int32)).toInt64) <<< (((p1 / (64 : Int32)) - (1 : Int32)) &&& 0x3f).toInt64)))])) rfl (hb hby d16_36) _ ?_
      show Steps p.tables e below (s₁.setTop (mkF m 39 #[.val (.int p1), .val (.int ((p1 / (64 : Int32)) - (1 : Int32))), .val (.long ((((p1 % (64 : Int32)) + (64 : Int32)).toInt64) <<< (((p1 / (64 : Int32)) - (1 : Int32)) &&& 0x3f).toInt64)), .second] [(.double (4611686018427387904 : UInt64)), (.double (FP.l2d (((1 : Int64) <<< (((p1 / (64 : Int32)) - (1 : Int32)) &&& 0x3f).toInt64) - (1 : Int64)))), (.double (FP.l2d ((((p1 % (64 : Int32)) + (64 : Int32)).toInt64) <<< (((p1 / (64 : Int32)) - (1 : Int32)) &&& 0x3f).toInt64)))])) _
      refine XS.ddivS X0.here hx rfl (hb hby d16_39) rfl (nn_div _) (v := (FP.ddiv (FP.l2d (((1 : Int64) <<< (((p1 / (64 : Int32)) - (1 : Int32)) &&& 0x3f).toInt64) - (1 : Int64))) (4611686018427387904 : UInt64))) rfl ?_
      show Steps p.tables e below (s₁.setTop (mkF m 40 #[.val (.int p1), .val (.int ((p1 / (64 : Int32)) - (1 : Int32))), .val (.long ((((p1 % (64 : Int32)) + (64 : Int32)).toInt64) <<< (((p1 / (64 : Int32)) - (1 : Int32)) &&& 0x3f).toInt64)), .second] [(.double (FP.ddiv (FP.l2d (((1 : Int64) <<< (((p1 / (64 : Int32)) - (1 : Int32)) &&& 0x3f).toInt64) - (1 : Int64))) (4611686018427387904 : UInt64))), (.double (FP.l2d ((((p1 % (64 : Int32)) + (64 : Int32)).toInt64) <<< (((p1 / (64 : Int32)) - (1 : Int32)) &&& 0x3f).toInt64)))])) _
      refine XS.daddS X0.here hx rfl (hb hby d16_40) rfl (nn_add _ _) (v := (FP.dadd (FP.l2d ((((p1 % (64 : Int32)) + (64 : Int32)).toInt64) <<< (((p1 / (64 : Int32)) - (1 : Int32)) &&& 0x3f).toInt64)) (FP.ddiv (FP.l2d (((1 : Int64) <<< (((p1 / (64 : Int32)) - (1 : Int32)) &&& 0x3f).toInt64) - (1 : Int64))) (4611686018427387904 : UInt64)))) rfl ?_
      exact kt)
    obtain ⟨fs6, hr6, hrun6, hended6, hW6, hsame6⟩ := X0.leave (v := some (.double (FP.dadd (FP.l2d ((((p1 % (64 : Int32)) + (64 : Int32)).toInt64) <<< (((p1 / (64 : Int32)) - (1 : Int32)) &&& 0x3f).toInt64)) (FP.ddiv (FP.l2d (((1 : Int64) <<< (((p1 / (64 : Int32)) - (1 : Int32)) &&& 0x3f).toInt64) - (1 : Int64))) (4611686018427387904 : UInt64))))) (fun h => by rw [Bd.returns] at h; cases h)
    refine ⟨_, _, pre0 _ (K5 _ ?_), hrun6, hended6, _, _, rfl, ?_, ⟨_, rfl⟩, hW6, hsame6.mono (by decide) (by decide)⟩
    · exact retD X0 hx Bd.returns (hb hby d16_41) hr6
    · show QMid Z p1 h0 n0 _ s₁.heap _
      rw [e0]
      exact ⟨(congrArg some (congrArg Value.double (by unfold midF; rw [if_neg hb2]))), N0, rfl⟩
theorem d15_0 : decode jdk_29_method_92_code 0 = .ok (.dload_n 0, 1) := by decide +kernel
theorem d15_1 : decode jdk_29_method_92_code 1 = .ok (.invokestatic 79, 3) := by decide +kernel
theorem d15_4 : decode jdk_29_method_92_code 4 = .ok (.ldc2_w 87, 3) := by decide +kernel
theorem d15_7 : decode jdk_29_method_92_code 7 = .ok (.land, 1) := by decide +kernel
theorem d15_8 : decode jdk_29_method_92_code 8 = .ok (.bipush 52, 2) := by decide +kernel
theorem d15_10 : decode jdk_29_method_92_code 10 = .ok (.lshr, 1) := by decide +kernel
theorem d15_11 : decode jdk_29_method_92_code 11 = .ok (.ldc2_w 322, 3) := by decide +kernel
theorem d15_14 : decode jdk_29_method_92_code 14 = .ok (.lsub, 1) := by decide +kernel
theorem d15_15 : decode jdk_29_method_92_code 15 = .ok (.l2i, 1) := by decide +kernel
theorem d15_16 : decode jdk_29_method_92_code 16 = .ok (.ireturn, 1) := by decide +kernel
theorem pf_15 : plainFor (⟨"java/lang/Math", "getExponent", "(D)I"⟩ : MethodName) = true := Jvm.Free.JP.mathPlain rfl (by decide +kernel)
set_option maxRecDepth 65536 in
set_option maxHeartbeats 40000000 in
theorem rawGex0 {p : Program} {l : Launch} {e : Env} {below : List Frame} {s U : State} {mU : MethodId} {cU : Code} {Z : State} {a0 : Array Value} {h : Heap} (hw : ∀ d ∈ tables_1, d.before a0 Z = true) (hx : p.tables.exec = Jvm.exec) (hZ : Z.Warmed39 s.vm) (adm : l.admits e) (hU : At U mU cU below) (eU : U.heap = h) {vm : Vm} {F fs : List Frame} {m : MethodId} (hn : s.methodNamed? (⟨"java/lang/Math", "getExponent", "(D)I"⟩ : MethodName) = some m) (hW : s.WarmedH vm) (hab : ∃ mid, F = mid ++ below)
    (hq1 : F.length + 1 < (e.platform.stackLimits U.me).1) (hq2 : (stackUse F).2 + 13 + 15 ≤ (e.platform.stackLimits U.me).2) (hfs : ∀ vm' f, s.WarmedH vm' → handOver (Stt U vm' (.java f :: F)) (some (.int (-1023 : Int32))) F = some fs) :
    ∃ vm', s.WarmedH vm' ∧ ∀ acts, Steps p.tables e below (doInvoke e (Stt U vm F) acts m #[(.double (0 : UInt64))]).1 (Stt U vm' fs) := by
  have hcur := State.cur_lt_of_top hU.top
  obtain ⟨meth, c, hm, hc, hby, hml, hret, hlk, -, -⟩ := Cond.code_spec hn (mvT hZ (hw _ (List.mem_of_getElem? (i := 70) rfl)) (args := #[]))
  have hown : s.vm.findClass "java/lang/Math" = some m.cls := findClass_of_methodNamed hn
  have he : entryFrame m #[(.double (0 : UInt64))] 2 = (mkF m 0 #[.val (.double (0 : UInt64)), .second] []) := by first | (simp [entryFrame, mkF, argsToLocals, Value.category]; done) | rfl
  obtain ⟨f0, hf0⟩ : ∃ f, f = (mkF m 0 #[.val (.double (0 : UInt64)), .second] []) := ⟨_, rfl⟩
  obtain ⟨T0, hT0⟩ : ∃ T, T = Stt U vm (.java f0 :: F) := ⟨_, rfl⟩
  have X0 : Nst l e s below T0 m c := by rw [hT0]; exact ⟨adm, Stt_at hU hW hab hn hm hc pf_15, hW⟩
  have hTF : T0.frames.tail = F := by rw [hT0, Stt_frames hcur]; rfl
  have hTL : e.platform.stackLimits T0.me = (e.platform.stackLimits U.me) := by rw [hT0]; exact Stt_lim
  have hTH : T0.heap = h := by rw [hT0]; exact eU
  have K0 : Gx p e below T0 f0 T0 (mkF m 0 #[.val (.double (0 : UInt64)), .second] []) := fun t kt => by rw [hf0]; exact kt
  have K1 : Gx p e below T0 f0 T0 (mkF m 1 #[.val (.double (0 : UInt64)), .second] [(.double (0 : UInt64))]) := fun t kt => K0 t (by
    show Steps p.tables e below (T0.setTop (mkF m 0 #[.val (.double (0 : UInt64)), .second] [])) _
    refine XS.dloadN X0.here hx rfl (hb hby d15_0) rfl ?_
    exact kt)
  obtain ⟨vm2, hW2, st2⟩ := X0.native hx hown (mvT hZ (hw _ (List.mem_of_getElem? (i := 71) rfl)) (args := #[])) (mvT hZ (hw _ (List.mem_of_getElem? (i := 74) rfl))) (mvT hZ (hw _ (List.mem_of_getElem? (i := 72) rfl))) (mvT hZ (hw _ (List.mem_of_getElem? (i := 73) rfl))) (g := (mkF m 1 #[.val (.double (0 : UInt64)), .second] [(.double (0 : UInt64))])) rfl (rest := []) (b := (0 : UInt64)) rfl (hb hby d15_1) (w := 13) hTF hTL (by omega) (by omega) (Nat.le_of_eq rfl)
  have X2 : Nst l e s below (T0.setVm vm2) m c := X0.setVm hW2
  have K3 : Gx p e below T0 f0 (T0.setVm vm2) (mkF m 4 #[.val (.double (0 : UInt64)), .second] [(.long ((0 : UInt64).toInt64))]) := fun t kt => K1 t (st2 t kt)
  rw [(by decide +kernel : ((0 : UInt64).toInt64) = (0 : Int64))] at K3
  have K4 : Gx p e below T0 f0 (T0.setVm vm2) (mkF m 11 #[.val (.double (0 : UInt64)), .second] [(.long ((0 : Int64) >>> ((52 : Int32) &&& 0x3f).toInt64))]) := fun t kt => K3 t (by
    show Steps p.tables e below ((T0.setVm vm2).setTop (mkF m 4 #[.val (.double (0 : UInt64)), .second] [(.long (0 : Int64))])) _
    refine X2.ldc2Long hx hown (mvT hZ (hw _ (List.mem_of_getElem? (i := 75) rfl))) (g := (mkF m 4 #[.val (.double (0 : UInt64)), .second] [(.long (0 : Int64))])) rfl (hb hby d15_4) _ ?_
    show Steps p.tables e below ((T0.setVm vm2).setTop (mkF m 7 #[.val (.double (0 : UInt64)), .second] [(.long (9218868437227405312 : Int64)), (.long (0 : Int64))])) _
    refine XS.land X2.here hx rfl (hb hby d15_7) rfl ?_
    show Steps p.tables e below ((T0.setVm vm2).setTop (mkF m 8 #[.val (.double (0 : UInt64)), .second] [(.long (0 : Int64))])) _
    refine XS.bipush X2.here hx rfl (hb hby d15_8) ?_
    show Steps p.tables e below ((T0.setVm vm2).setTop (mkF m 10 #[.val (.double (0 : UInt64)), .second] [(.int (52 : Int32)), (.long (0 : Int64))])) _
    refine XS.lshr X2.here hx rfl (hb hby d15_10) rfl ?_
    exact kt)
  rw [(by decide +kernel : ((0 : Int64) >>> ((52 : Int32) &&& 0x3f).toInt64) = (0 : Int64))] at K4
  have K5 : Gx p e below T0 f0 (T0.setVm vm2) (mkF m 16 #[.val (.double (0 : UInt64)), .second] [(.int ((-1023 : Int64).toInt32))]) := fun t kt => K4 t (by
    show Steps p.tables e below ((T0.setVm vm2).setTop (mkF m 11 #[.val (.double (0 : UInt64)), .second] [(.long (0 : Int64))])) _
    refine X2.ldc2Long hx hown (mvT hZ (hw _ (List.mem_of_getElem? (i := 76) rfl))) (g := (mkF m 11 #[.val (.double (0 : UInt64)), .second] [(.long (0 : Int64))])) rfl (hb hby d15_11) _ ?_
    show Steps p.tables e below ((T0.setVm vm2).setTop (mkF m 14 #[.val (.double (0 : UInt64)), .second] [(.long (1023 : Int64)), (.long (0 : Int64))])) _
    refine XS.lsub X2.here hx rfl (hb hby d15_14) rfl ?_
    show Steps p.tables e below ((T0.setVm vm2).setTop (mkF m 15 #[.val (.double (0 : UInt64)), .second] [(.long (-1023 : Int64))])) _
    refine XS.l2i X2.here hx rfl (hb hby d15_15) rfl ?_
    exact kt)
  rw [(by decide +kernel : ((-1023 : Int64).toInt32) = (-1023 : Int32))] at K5
  refine ⟨vm2, hW2, fun acts => ?_⟩
  rw [rawEnter hcur hW acts hm hc hlk (by omega) (by rw [hml]; omega), hml, he]
  have e0 : Stt U vm (.java (mkF m 0 #[.val (.double (0 : UInt64)), .second] []) :: F) = T0.setTop f0 := by rw [hT0, Stt_setTop hcur, hf0]
  rw [e0]
  refine K5 _ (X2.retI hx hm hret (hb hby d15_16) (fun f acts q1 q2 q3 => ?_))
  rw [hT0]
  exact rawLeave hcur hW2 hm hlk (hfs _ _ hW2) acts q1 q2 q3
theorem d14_0 : decode jdk_128_method_18_code 0 = .ok (.dload_n 0, 1) := by decide +kernel
theorem d14_1 : decode jdk_128_method_18_code 1 = .ok (.invokestatic 66, 3) := by decide +kernel
theorem d14_4 : decode jdk_128_method_18_code 4 = .ok (.istore 8, 2) := by decide +kernel
theorem d14_6 : decode jdk_128_method_18_code 6 = .ok (.iload 8, 2) := by decide +kernel
theorem d14_8 : decode jdk_128_method_18_code 8 = .ok (.ifCond .ge 26, 3) := by decide +kernel
theorem d14_11 : decode jdk_128_method_18_code 11 = .ok (.dload_n 0, 1) := by decide +kernel
theorem d14_12 : decode jdk_128_method_18_code 12 = .ok (.dconst 0, 1) := by decide +kernel
theorem d14_13 : decode jdk_128_method_18_code 13 = .ok (.dcmp .l, 1) := by decide +kernel
theorem d14_14 : decode jdk_128_method_18_code 14 = .ok (.ifCond .ne 7, 3) := by decide +kernel
theorem d14_17 : decode jdk_128_method_18_code 17 = .ok (.dload_n 0, 1) := by decide +kernel
theorem d14_18 : decode jdk_128_method_18_code 18 = .ok (.goto 15, 3) := by decide +kernel
theorem d14_33 : decode jdk_128_method_18_code 33 = .ok (.dreturn, 1) := by decide +kernel
theorem pd__D_I : parseMethodDescriptor "(D)I" = some ⟨[.double], some .int⟩ := by decide +kernel
theorem pf_14 : plainFor (⟨"java/lang/StrictMath", "floorOrCeil", "(DDDD)D"⟩ : MethodName) = true := plainFor_of_name (by first | (simp [plainName, overriddenIn]; done) | decide +kernel)
set_option maxRecDepth 65536 in
set_option maxHeartbeats 40000000 in
theorem rawFoc0 {p : Program} {l : Launch} {e : Env} {below : List Frame} {s U : State} {mU : MethodId} {cU : Code} {Z : State} {a0 : Array Value} {h : Heap} (hw : ∀ d ∈ tables_1, d.before a0 Z = true) (hx : p.tables.exec = Jvm.exec) (hZ : Z.Warmed39 s.vm) (adm : l.admits e) (hU : At U mU cU below) (eU : U.heap = h) (SA : Sta Z h "java/lang/StrictMath" "$assertionsDisabled" "Z" (.int (1 : Int32))) {vm : Vm} {F fs : List Frame} {m : MethodId} (hn : s.methodNamed? (⟨"java/lang/StrictMath", "floorOrCeil", "(DDDD)D"⟩ : MethodName) = some m) (hW : s.WarmedH vm) (hab : ∃ mid, F = mid ++ below)
    (hq1 : F.length + 2 < (e.platform.stackLimits U.me).1) (hq2 : (stackUse F).2 + 26 + 28 ≤ (e.platform.stackLimits U.me).2) (hfs : ∀ vm' f, s.WarmedH vm' → handOver (Stt U vm' (.java f :: F)) (some (.double (0 : UInt64))) F = some fs) :
    ∃ vm', s.WarmedH vm' ∧ ∀ acts, Steps p.tables e below (doInvoke e (Stt U vm F) acts m #[(.double (0 : UInt64)), (.double (9223372036854775808 : UInt64)), (.double (4607182418800017408 : UInt64)), (.double (4607182418800017408 : UInt64))]).1 (Stt U vm' fs) := by
  have hcur := State.cur_lt_of_top hU.top
  obtain ⟨meth, c, hm, hc, hby, hml, hret, hlk, -, -⟩ := Cond.code_spec hn (mvT hZ (hw _ (List.mem_of_getElem? (i := 67) rfl)) (args := #[]))
  have hown : s.vm.findClass "java/lang/StrictMath" = some m.cls := findClass_of_methodNamed hn
  have he : entryFrame m #[(.double (0 : UInt64)), (.double (9223372036854775808 : UInt64)), (.double (4607182418800017408 : UInt64)), (.double (4607182418800017408 : UInt64))] 15 = (mkF m 0 #[.val (.double (0 : UInt64)), .second, .val (.double (9223372036854775808 : UInt64)), .second, .val (.double (4607182418800017408 : UInt64)), .second, .val (.double (4607182418800017408 : UInt64)), .second, .unset, .unset, .unset, .unset, .unset, .unset, .unset] []) := by first | (simp [entryFrame, mkF, argsToLocals, Value.category]; done) | rfl
  obtain ⟨f0, hf0⟩ : ∃ f, f = (mkF m 0 #[.val (.double (0 : UInt64)), .second, .val (.double (9223372036854775808 : UInt64)), .second, .val (.double (4607182418800017408 : UInt64)), .second, .val (.double (4607182418800017408 : UInt64)), .second, .unset, .unset, .unset, .unset, .unset, .unset, .unset] []) := ⟨_, rfl⟩
  obtain ⟨T0, hT0⟩ : ∃ T, T = Stt U vm (.java f0 :: F) := ⟨_, rfl⟩
  have X0 : Nst l e s below T0 m c := by rw [hT0]; exact ⟨adm, Stt_at hU hW hab hn hm hc pf_14, hW⟩
  have hTF : T0.frames.tail = F := by rw [hT0, Stt_frames hcur]; rfl
  have hTL : e.platform.stackLimits T0.me = (e.platform.stackLimits U.me) := by rw [hT0]; exact Stt_lim
  have hTH : T0.heap = h := by rw [hT0]; exact eU
  have K0 : Gx p e below T0 f0 T0 (mkF m 0 #[.val (.double (0 : UInt64)), .second, .val (.double (9223372036854775808 : UInt64)), .second, .val (.double (4607182418800017408 : UInt64)), .second, .val (.double (4607182418800017408 : UInt64)), .second, .unset, .unset, .unset, .unset, .unset, .unset, .unset] []) := fun t kt => by rw [hf0]; exact kt
  have K1 : Gx p e below T0 f0 T0 (mkF m 1 #[.val (.double (0 : UInt64)), .second, .val (.double (9223372036854775808 : UInt64)), .second, .val (.double (4607182418800017408 : UInt64)), .second, .val (.double (4607182418800017408 : UInt64)), .second, .unset, .unset, .unset, .unset, .unset, .unset, .unset] [(.double (0 : UInt64))]) := fun t kt => K0 t (by
    show Steps p.tables e below (T0.setTop (mkF m 0 #[.val (.double (0 : UInt64)), .second, .val (.double (9223372036854775808 : UInt64)), .second, .val (.double (4607182418800017408 : UInt64)), .second, .val (.double (4607182418800017408 : UInt64)), .second, .unset, .unset, .unset, .unset, .unset, .unset, .unset] [])) _
    refine XS.dloadN X0.here hx rfl (hb hby d14_0) rfl ?_
    exact kt)
  obtain ⟨mk2, hn2⟩ : ∃ k, s.methodNamed? (⟨"java/lang/Math", "getExponent", "(D)I"⟩ : MethodName) = some k := Cond.code_named (mvT hZ (hw _ (List.mem_of_getElem? (i := 70) rfl)) (args := #[]))
  obtain ⟨me2, cd2, hm2, hc2, -, -, -, -, -, hsg2⟩ := Cond.code_spec hn2 (mvT hZ (hw _ (List.mem_of_getElem? (i := 70) rfl)) (args := #[]))
  obtain ⟨kc2, hk2, -⟩ := className_of_methodNamed hn2
  have hst2 : me2.isStatic = true := own_static hn2 hm2 (mvT hZ (hw _ (List.mem_of_getElem? (i := 69) rfl)) (args := #[]))
  have hin2 : kc2.init = .initialized := Cond.initialized_spec (findClass_of_methodNamed hn2) hk2 (mvT hZ (hw _ (List.mem_of_getElem? (i := 55) rfl)) (args := #[]))
  obtain ⟨vm2, hW2, st2⟩ := X0.static hx hown (mvT hZ (hw _ (List.mem_of_getElem? (i := 68) rfl)) (args := #[])) hn2 hm2 hst2 hk2 hin2 (by decide) (g := (mkF m 1 #[.val (.double (0 : UInt64)), .second, .val (.double (9223372036854775808 : UInt64)), .second, .val (.double (4607182418800017408 : UInt64)), .second, .val (.double (4607182418800017408 : UInt64)), .second, .unset, .unset, .unset, .unset, .unset, .unset, .unset] [(.double (0 : UInt64))])) rfl (argsL := [(.double (0 : UInt64))]) (rest := []) (lenOf pd__D_I rfl _ hsg2) rfl (hb hby d14_1)
  have hab2 : ∃ mid, .java (mkF m 1 #[.val (.double (0 : UInt64)), .second, .val (.double (9223372036854775808 : UInt64)), .second, .val (.double (4607182418800017408 : UInt64)), .second, .val (.double (4607182418800017408 : UInt64)), .second, .unset, .unset, .unset, .unset, .unset, .unset, .unset] []) :: F = mid ++ below := by obtain ⟨mid, q⟩ := hab; exact ⟨.java (mkF m 1 #[.val (.double (0 : UInt64)), .second, .val (.double (9223372036854775808 : UInt64)), .second, .val (.double (4607182418800017408 : UInt64)), .second, .val (.double (4607182418800017408 : UInt64)), .second, .unset, .unset, .unset, .unset, .unset, .unset, .unset] []) :: mid, by rw [q]; rfl⟩
  have hu2 : (stackUse (.java (mkF m 1 #[.val (.double (0 : UInt64)), .second, .val (.double (9223372036854775808 : UInt64)), .second, .val (.double (4607182418800017408 : UInt64)), .second, .val (.double (4607182418800017408 : UInt64)), .second, .unset, .unset, .unset, .unset, .unset, .unset, .unset] []) :: F)).2 = (stackUse F).2 + 26 := by rw [stackUse_java]; rfl
  obtain ⟨vn2, hV2, sn2⟩ := rawGex0 hw hx hZ adm hU eU (F := .java (mkF m 1 #[.val (.double (0 : UInt64)), .second, .val (.double (9223372036854775808 : UInt64)), .second, .val (.double (4607182418800017408 : UInt64)), .second, .val (.double (4607182418800017408 : UInt64)), .second, .unset, .unset, .unset, .unset, .unset, .unset, .unset] []) :: F) (vm := vm2) (fs := .java (mkF m 4 #[.val (.double (0 : UInt64)), .second, .val (.double (9223372036854775808 : UInt64)), .second, .val (.double (4607182418800017408 : UInt64)), .second, .val (.double (4607182418800017408 : UInt64)), .second, .unset, .unset, .unset, .unset, .unset, .unset, .unset] [(.int (-1023 : Int32))]) :: F) hn2 hW2 hab2 (by rw [List.length_cons]; omega) (by rw [hu2]; omega) (fun vm' f hW' => handJ (g := (mkF m 1 #[.val (.double (0 : UInt64)), .second, .val (.double (9223372036854775808 : UInt64)), .second, .val (.double (4607182418800017408 : UInt64)), .second, .val (.double (4607182418800017408 : UInt64)), .second, .unset, .unset, .unset, .unset, .unset, .unset, .unset] [])) (v := (.int (-1023 : Int32))) (by show vm'.method? m = _; rw [hW'.alike.method?]; exact hm) hc (hb hby d14_1))
  obtain ⟨T2, hT2⟩ : ∃ T, T = Stt U vn2 (.java (mkF m 4 #[.val (.double (0 : UInt64)), .second, .val (.double (9223372036854775808 : UInt64)), .second, .val (.double (4607182418800017408 : UInt64)), .second, .val (.double (4607182418800017408 : UInt64)), .second, .unset, .unset, .unset, .unset, .unset, .unset, .unset] [(.int (-1023 : Int32))]) :: F) := ⟨_, rfl⟩
  have X2 : Nst l e s below T2 m c := by rw [hT2]; exact ⟨adm, Stt_at hU hV2 hab hn hm hc pf_14, hV2⟩
  have tf2 : T2.frames.tail = F := by rw [hT2, Stt_frames hcur]; rfl
  have tl2 : e.platform.stackLimits T2.me = e.platform.stackLimits U.me := by rw [hT2]; exact Stt_lim
  have th2 : T2.heap = h := by rw [hT2]; exact eU
  have K3 : Gx p e below T0 f0 T2 (mkF m 4 #[.val (.double (0 : UInt64)), .second, .val (.double (9223372036854775808 : UInt64)), .second, .val (.double (4607182418800017408 : UInt64)), .second, .val (.double (4607182418800017408 : UInt64)), .second, .unset, .unset, .unset, .unset, .unset, .unset, .unset] [(.int (-1023 : Int32))]) := fun t kt => K1 t (st2 t fun acts => by
    have e1 : (T0.setVm vm2).setTop (mkF m 1 #[.val (.double (0 : UInt64)), .second, .val (.double (9223372036854775808 : UInt64)), .second, .val (.double (4607182418800017408 : UInt64)), .second, .val (.double (4607182418800017408 : UInt64)), .second, .unset, .unset, .unset, .unset, .unset, .unset, .unset] []) = Stt U vm2 (.java (mkF m 1 #[.val (.double (0 : UInt64)), .second, .val (.double (9223372036854775808 : UInt64)), .second, .val (.double (4607182418800017408 : UInt64)), .second, .val (.double (4607182418800017408 : UInt64)), .second, .unset, .unset, .unset, .unset, .unset, .unset, .unset] []) :: F) := by rw [hT0]; exact Stt_setTop hcur
    have e2 : T2.setTop (mkF m 4 #[.val (.double (0 : UInt64)), .second, .val (.double (9223372036854775808 : UInt64)), .second, .val (.double (4607182418800017408 : UInt64)), .second, .val (.double (4607182418800017408 : UInt64)), .second, .unset, .unset, .unset, .unset, .unset, .unset, .unset] [(.int (-1023 : Int32))]) = Stt U vn2 (.java (mkF m 4 #[.val (.double (0 : UInt64)), .second, .val (.double (9223372036854775808 : UInt64)), .second, .val (.double (4607182418800017408 : UInt64)), .second, .val (.double (4607182418800017408 : UInt64)), .second, .unset, .unset, .unset, .unset, .unset, .unset, .unset] [(.int (-1023 : Int32))]) :: F) := by rw [hT2]; exact Stt_setTop hcur
    rw [e2] at kt
    show Steps p.tables e below (doInvoke e ((T0.setVm vm2).setTop (mkF m 1 #[.val (.double (0 : UInt64)), .second, .val (.double (9223372036854775808 : UInt64)), .second, .val (.double (4607182418800017408 : UInt64)), .second, .val (.double (4607182418800017408 : UInt64)), .second, .unset, .unset, .unset, .unset, .unset, .unset, .unset] [])) acts mk2 #[(.double (0 : UInt64))]).1 t
    rw [e1]; exact (sn2 acts).trans kt)
  have K4 : Gx p e below T0 f0 T2 (mkF m 33 #[.val (.double (0 : UInt64)), .second, .val (.double (9223372036854775808 : UInt64)), .second, .val (.double (4607182418800017408 : UInt64)), .second, .val (.double (4607182418800017408 : UInt64)), .second, .val (.int (-1023 : Int32)), .unset, .unset, .unset, .unset, .unset, .unset] [(.double (0 : UInt64))]) := fun t kt => K3 t (by
    show Steps p.tables e below (T2.setTop (mkF m 4 #[.val (.double (0 : UInt64)), .second, .val (.double (9223372036854775808 : UInt64)), .second, .val (.double (4607182418800017408 : UInt64)), .second, .val (.double (4607182418800017408 : UInt64)), .second, .unset, .unset, .unset, .unset, .unset, .unset, .unset] [(.int (-1023 : Int32))])) _
    refine XS.istore X2.here hx rfl (hb hby d14_4) rfl (l' := #[.val (.double (0 : UInt64)), .second, .val (.double (9223372036854775808 : UInt64)), .second, .val (.double (4607182418800017408 : UInt64)), .second, .val (.double (4607182418800017408 : UInt64)), .second, .val (.int (-1023 : Int32)), .unset, .unset, .unset, .unset, .unset, .unset]) rfl ?_
    show Steps p.tables e below (T2.setTop (mkF m 6 #[.val (.double (0 : UInt64)), .second, .val (.double (9223372036854775808 : UInt64)), .second, .val (.double (4607182418800017408 : UInt64)), .second, .val (.double (4607182418800017408 : UInt64)), .second, .val (.int (-1023 : Int32)), .unset, .unset, .unset, .unset, .unset, .unset] [])) _
    refine XS.iload X2.here hx rfl (hb hby d14_6) rfl ?_
    show Steps p.tables e below (T2.setTop (mkF m 8 #[.val (.double (0 : UInt64)), .second, .val (.double (9223372036854775808 : UInt64)), .second, .val (.double (4607182418800017408 : UInt64)), .second, .val (.double (4607182418800017408 : UInt64)), .second, .val (.int (-1023 : Int32)), .unset, .unset, .unset, .unset, .unset, .unset] [(.int (-1023 : Int32))])) _
    refine XS.ifNo X2.here hx rfl (hb hby d14_8) rfl ((if0 _ _).trans (tlt (by decide)).2.1) ?_
    show Steps p.tables e below (T2.setTop (mkF m 11 #[.val (.double (0 : UInt64)), .second, .val (.double (9223372036854775808 : UInt64)), .second, .val (.double (4607182418800017408 : UInt64)), .second, .val (.double (4607182418800017408 : UInt64)), .second, .val (.int (-1023 : Int32)), .unset, .unset, .unset, .unset, .unset, .unset] [])) _
    refine XS.dloadN X2.here hx rfl (hb hby d14_11) rfl ?_
    show Steps p.tables e below (T2.setTop (mkF m 12 #[.val (.double (0 : UInt64)), .second, .val (.double (9223372036854775808 : UInt64)), .second, .val (.double (4607182418800017408 : UInt64)), .second, .val (.double (4607182418800017408 : UInt64)), .second, .val (.int (-1023 : Int32)), .unset, .unset, .unset, .unset, .unset, .unset] [(.double (0 : UInt64))])) _
    refine XS.dconst0 X2.here hx rfl (hb hby d14_12) (v := (0 : UInt64)) (by decide +kernel) ?_
    show Steps p.tables e below (T2.setTop (mkF m 13 #[.val (.double (0 : UInt64)), .second, .val (.double (9223372036854775808 : UInt64)), .second, .val (.double (4607182418800017408 : UInt64)), .second, .val (.double (4607182418800017408 : UInt64)), .second, .val (.int (-1023 : Int32)), .unset, .unset, .unset, .unset, .unset, .unset] [(.double (0 : UInt64)), (.double (0 : UInt64))])) _
    refine XS.dcmpS X2.here hx rfl (hb hby d14_13) rfl (v := (0 : Int32)) (by decide +kernel) ?_
    show Steps p.tables e below (T2.setTop (mkF m 14 #[.val (.double (0 : UInt64)), .second, .val (.double (9223372036854775808 : UInt64)), .second, .val (.double (4607182418800017408 : UInt64)), .second, .val (.double (4607182418800017408 : UInt64)), .second, .val (.int (-1023 : Int32)), .unset, .unset, .unset, .unset, .unset, .unset] [(.int (0 : Int32))])) _
    refine XS.ifNo X2.here hx rfl (hb hby d14_14) rfl ((if0 _ _).trans (teq (by decide)).2) ?_
    show Steps p.tables e below (T2.setTop (mkF m 17 #[.val (.double (0 : UInt64)), .second, .val (.double (9223372036854775808 : UInt64)), .second, .val (.double (4607182418800017408 : UInt64)), .second, .val (.double (4607182418800017408 : UInt64)), .second, .val (.int (-1023 : Int32)), .unset, .unset, .unset, .unset, .unset, .unset] [])) _
    refine XS.dloadN X2.here hx rfl (hb hby d14_17) rfl ?_
    show Steps p.tables e below (T2.setTop (mkF m 18 #[.val (.double (0 : UInt64)), .second, .val (.double (9223372036854775808 : UInt64)), .second, .val (.double (4607182418800017408 : UInt64)), .second, .val (.double (4607182418800017408 : UInt64)), .second, .val (.int (-1023 : Int32)), .unset, .unset, .unset, .unset, .unset, .unset] [(.double (0 : UInt64))])) _
    refine XS.goto X2.here hx rfl (pc0 := 18) (pc' := 33) rfl (hb hby d14_18) (by decide) (by decide) ?_
    exact kt)
  refine ⟨vn2, hV2, fun acts => ?_⟩
  rw [rawEnter hcur hW acts hm hc hlk (by omega) (by rw [hml]; omega), hml, he]
  have e0 : Stt U vm (.java (mkF m 0 #[.val (.double (0 : UInt64)), .second, .val (.double (9223372036854775808 : UInt64)), .second, .val (.double (4607182418800017408 : UInt64)), .second, .val (.double (4607182418800017408 : UInt64)), .second, .unset, .unset, .unset, .unset, .unset, .unset, .unset] []) :: F) = T0.setTop f0 := by rw [hT0, Stt_setTop hcur, hf0]
  rw [e0]
  refine K4 _ (X2.retD hx hm hret (hb hby d14_33) (fun f acts q1 q2 q3 => ?_))
  rw [hT2]
  exact rawLeave hcur hV2 hm hlk (hfs _ _ hV2) acts q1 q2 q3
theorem d13_0 : decode jdk_128_method_16_code 0 = .ok (.dload_n 0, 1) := by decide +kernel
theorem d13_1 : decode jdk_128_method_16_code 1 = .ok (.ldc2_w 58, 3) := by decide +kernel
theorem d13_4 : decode jdk_128_method_16_code 4 = .ok (.dconst 1, 1) := by decide +kernel
theorem d13_5 : decode jdk_128_method_16_code 5 = .ok (.dconst 1, 1) := by decide +kernel
theorem d13_6 : decode jdk_128_method_16_code 6 = .ok (.invokestatic 60, 3) := by decide +kernel
theorem d13_9 : decode jdk_128_method_16_code 9 = .ok (.dreturn, 1) := by decide +kernel
theorem pd__DDDD_D : parseMethodDescriptor "(DDDD)D" = some ⟨[.double, .double, .double, .double], some .double⟩ := by decide +kernel
theorem pf_13 : plainFor (⟨"java/lang/StrictMath", "ceil", "(D)D"⟩ : MethodName) = true := plainFor_of_name (by first | (simp [plainName, overriddenIn]; done) | decide +kernel)
set_option maxRecDepth 65536 in
set_option maxHeartbeats 40000000 in
theorem rawSce0 {p : Program} {l : Launch} {e : Env} {below : List Frame} {s U : State} {mU : MethodId} {cU : Code} {Z : State} {a0 : Array Value} {h : Heap} (hw : ∀ d ∈ tables_1, d.before a0 Z = true) (hx : p.tables.exec = Jvm.exec) (hZ : Z.Warmed39 s.vm) (adm : l.admits e) (hU : At U mU cU below) (eU : U.heap = h) (SA : Sta Z h "java/lang/StrictMath" "$assertionsDisabled" "Z" (.int (1 : Int32))) {vm : Vm} {F fs : List Frame} {m : MethodId} (hn : s.methodNamed? (⟨"java/lang/StrictMath", "ceil", "(D)D"⟩ : MethodName) = some m) (hW : s.WarmedH vm) (hab : ∃ mid, F = mid ++ below)
    (hq1 : F.length + 3 < (e.platform.stackLimits U.me).1) (hq2 : (stackUse F).2 + 13 + 54 ≤ (e.platform.stackLimits U.me).2) (hfs : ∀ vm' f, s.WarmedH vm' → handOver (Stt U vm' (.java f :: F)) (some (.double (0 : UInt64))) F = some fs) :
    ∃ vm', s.WarmedH vm' ∧ ∀ acts, Steps p.tables e below (doInvoke e (Stt U vm F) acts m #[(.double (0 : UInt64))]).1 (Stt U vm' fs) := by
  have hcur := State.cur_lt_of_top hU.top
  obtain ⟨meth, c, hm, hc, hby, hml, hret, hlk, -, -⟩ := Cond.code_spec hn (mvT hZ (hw _ (List.mem_of_getElem? (i := 63) rfl)) (args := #[]))
  have hown : s.vm.findClass "java/lang/StrictMath" = some m.cls := findClass_of_methodNamed hn
  have he : entryFrame m #[(.double (0 : UInt64))] 2 = (mkF m 0 #[.val (.double (0 : UInt64)), .second] []) := by first | (simp [entryFrame, mkF, argsToLocals, Value.category]; done) | rfl
  obtain ⟨f0, hf0⟩ : ∃ f, f = (mkF m 0 #[.val (.double (0 : UInt64)), .second] []) := ⟨_, rfl⟩
  obtain ⟨T0, hT0⟩ : ∃ T, T = Stt U vm (.java f0 :: F) := ⟨_, rfl⟩
  have X0 : Nst l e s below T0 m c := by rw [hT0]; exact ⟨adm, Stt_at hU hW hab hn hm hc pf_13, hW⟩
  have hTF : T0.frames.tail = F := by rw [hT0, Stt_frames hcur]; rfl
  have hTL : e.platform.stackLimits T0.me = (e.platform.stackLimits U.me) := by rw [hT0]; exact Stt_lim
  have hTH : T0.heap = h := by rw [hT0]; exact eU
  have K0 : Gx p e below T0 f0 T0 (mkF m 0 #[.val (.double (0 : UInt64)), .second] []) := fun t kt => by rw [hf0]; exact kt
  have K1 : Gx p e below T0 f0 T0 (mkF m 6 #[.val (.double (0 : UInt64)), .second] [(.double (4607182418800017408 : UInt64)), (.double (4607182418800017408 : UInt64)), (.double (9223372036854775808 : UInt64)), (.double (0 : UInt64))]) := fun t kt => K0 t (by
    show Steps p.tables e below (T0.setTop (mkF m 0 #[.val (.double (0 : UInt64)), .second] [])) _
    refine XS.dloadN X0.here hx rfl (hb hby d13_0) rfl ?_
    show Steps p.tables e below (T0.setTop (mkF m 1 #[.val (.double (0 : UInt64)), .second] [(.double (0 : UInt64))])) _
    refine X0.ldc2DoubleC hx hown (mvT hZ (hw _ (List.mem_of_getElem? (i := 64) rfl))) (g := (mkF m 1 #[.val (.double (0 : UInt64)), .second] [(.double (0 : UInt64))])) rfl (hb hby d13_1) _ ?_
    show Steps p.tables e below (T0.setTop (mkF m 4 #[.val (.double (0 : UInt64)), .second] [(.double (9223372036854775808 : UInt64)), (.double (0 : UInt64))])) _
    refine XS.dconst1 X0.here hx rfl (hb hby d13_4) (v := (4607182418800017408 : UInt64)) (by decide +kernel) ?_
    show Steps p.tables e below (T0.setTop (mkF m 5 #[.val (.double (0 : UInt64)), .second] [(.double (4607182418800017408 : UInt64)), (.double (9223372036854775808 : UInt64)), (.double (0 : UInt64))])) _
    refine XS.dconst1 X0.here hx rfl (hb hby d13_5) (v := (4607182418800017408 : UInt64)) (by decide +kernel) ?_
    exact kt)
  obtain ⟨mk2, hn2⟩ : ∃ k, s.methodNamed? (⟨"java/lang/StrictMath", "floorOrCeil", "(DDDD)D"⟩ : MethodName) = some k := Cond.code_named (mvT hZ (hw _ (List.mem_of_getElem? (i := 67) rfl)) (args := #[]))
  obtain ⟨me2, cd2, hm2, hc2, -, -, -, -, -, hsg2⟩ := Cond.code_spec hn2 (mvT hZ (hw _ (List.mem_of_getElem? (i := 67) rfl)) (args := #[]))
  obtain ⟨kc2, hk2, -⟩ := className_of_methodNamed hn2
  have hst2 : me2.isStatic = true := own_static hn2 hm2 (mvT hZ (hw _ (List.mem_of_getElem? (i := 66) rfl)) (args := #[]))
  have hin2 : kc2.init = .initialized := Cond.initialized_spec (findClass_of_methodNamed hn2) hk2 (mvT hZ (hw _ (List.mem_of_getElem? (i := 62) rfl)) (args := #[]))
  obtain ⟨vm2, hW2, st2⟩ := X0.static hx hown (mvT hZ (hw _ (List.mem_of_getElem? (i := 65) rfl)) (args := #[])) hn2 hm2 hst2 hk2 hin2 (by decide) (g := (mkF m 6 #[.val (.double (0 : UInt64)), .second] [(.double (4607182418800017408 : UInt64)), (.double (4607182418800017408 : UInt64)), (.double (9223372036854775808 : UInt64)), (.double (0 : UInt64))])) rfl (argsL := [(.double (0 : UInt64)), (.double (9223372036854775808 : UInt64)), (.double (4607182418800017408 : UInt64)), (.double (4607182418800017408 : UInt64))]) (rest := []) (lenOf pd__DDDD_D rfl _ hsg2) rfl (hb hby d13_6)
  have hab2 : ∃ mid, .java (mkF m 6 #[.val (.double (0 : UInt64)), .second] []) :: F = mid ++ below := by obtain ⟨mid, q⟩ := hab; exact ⟨.java (mkF m 6 #[.val (.double (0 : UInt64)), .second] []) :: mid, by rw [q]; rfl⟩
  have hu2 : (stackUse (.java (mkF m 6 #[.val (.double (0 : UInt64)), .second] []) :: F)).2 = (stackUse F).2 + 13 := by rw [stackUse_java]; rfl
  obtain ⟨vn2, hV2, sn2⟩ := rawFoc0 hw hx hZ adm hU eU SA (F := .java (mkF m 6 #[.val (.double (0 : UInt64)), .second] []) :: F) (vm := vm2) (fs := .java (mkF m 9 #[.val (.double (0 : UInt64)), .second] [(.double (0 : UInt64))]) :: F) hn2 hW2 hab2 (by rw [List.length_cons]; omega) (by rw [hu2]; omega) (fun vm' f hW' => handJ (g := (mkF m 6 #[.val (.double (0 : UInt64)), .second] [])) (v := (.double (0 : UInt64))) (by show vm'.method? m = _; rw [hW'.alike.method?]; exact hm) hc (hb hby d13_6))
  obtain ⟨T2, hT2⟩ : ∃ T, T = Stt U vn2 (.java (mkF m 9 #[.val (.double (0 : UInt64)), .second] [(.double (0 : UInt64))]) :: F) := ⟨_, rfl⟩
  have X2 : Nst l e s below T2 m c := by rw [hT2]; exact ⟨adm, Stt_at hU hV2 hab hn hm hc pf_13, hV2⟩
  have tf2 : T2.frames.tail = F := by rw [hT2, Stt_frames hcur]; rfl
  have tl2 : e.platform.stackLimits T2.me = e.platform.stackLimits U.me := by rw [hT2]; exact Stt_lim
  have th2 : T2.heap = h := by rw [hT2]; exact eU
  have K3 : Gx p e below T0 f0 T2 (mkF m 9 #[.val (.double (0 : UInt64)), .second] [(.double (0 : UInt64))]) := fun t kt => K1 t (st2 t fun acts => by
    have e1 : (T0.setVm vm2).setTop (mkF m 6 #[.val (.double (0 : UInt64)), .second] []) = Stt U vm2 (.java (mkF m 6 #[.val (.double (0 : UInt64)), .second] []) :: F) := by rw [hT0]; exact Stt_setTop hcur
    have e2 : T2.setTop (mkF m 9 #[.val (.double (0 : UInt64)), .second] [(.double (0 : UInt64))]) = Stt U vn2 (.java (mkF m 9 #[.val (.double (0 : UInt64)), .second] [(.double (0 : UInt64))]) :: F) := by rw [hT2]; exact Stt_setTop hcur
    rw [e2] at kt
    show Steps p.tables e below (doInvoke e ((T0.setVm vm2).setTop (mkF m 6 #[.val (.double (0 : UInt64)), .second] [])) acts mk2 #[(.double (0 : UInt64)), (.double (9223372036854775808 : UInt64)), (.double (4607182418800017408 : UInt64)), (.double (4607182418800017408 : UInt64))]).1 t
    rw [e1]; exact (sn2 acts).trans kt)
  refine ⟨vn2, hV2, fun acts => ?_⟩
  rw [rawEnter hcur hW acts hm hc hlk (by omega) (by rw [hml]; omega), hml, he]
  have e0 : Stt U vm (.java (mkF m 0 #[.val (.double (0 : UInt64)), .second] []) :: F) = T0.setTop f0 := by rw [hT0, Stt_setTop hcur, hf0]
  rw [e0]
  refine K3 _ (X2.retD hx hm hret (hb hby d13_9) (fun f acts q1 q2 q3 => ?_))
  rw [hT2]
  exact rawLeave hcur hV2 hm hlk (hfs _ _ hV2) acts q1 q2 q3
set_option maxRecDepth 65536 in
set_option maxHeartbeats 40000000 in
theorem rawGex1 {p : Program} {l : Launch} {e : Env} {below : List Frame} {s U : State} {mU : MethodId} {cU : Code} {Z : State} {a0 : Array Value} {h : Heap} (hw : ∀ d ∈ tables_1, d.before a0 Z = true) (hx : p.tables.exec = Jvm.exec) (hZ : Z.Warmed39 s.vm) (adm : l.admits e) (hU : At U mU cU below) (eU : U.heap = h) {vm : Vm} {F fs : List Frame} {m : MethodId} (hn : s.methodNamed? (⟨"java/lang/Math", "getExponent", "(D)I"⟩ : MethodName) = some m) (hW : s.WarmedH vm) (hab : ∃ mid, F = mid ++ below)
    (hq1 : F.length + 1 < (e.platform.stackLimits U.me).1) (hq2 : (stackUse F).2 + 13 + 15 ≤ (e.platform.stackLimits U.me).2) (hfs : ∀ vm' f, s.WarmedH vm' → handOver (Stt U vm' (.java f :: F)) (some (.int (0 : Int32))) F = some fs) :
    ∃ vm', s.WarmedH vm' ∧ ∀ acts, Steps p.tables e below (doInvoke e (Stt U vm F) acts m #[(.double (4607182418800017408 : UInt64))]).1 (Stt U vm' fs) := by
  have hcur := State.cur_lt_of_top hU.top
  obtain ⟨meth, c, hm, hc, hby, hml, hret, hlk, -, -⟩ := Cond.code_spec hn (mvT hZ (hw _ (List.mem_of_getElem? (i := 70) rfl)) (args := #[]))
  have hown : s.vm.findClass "java/lang/Math" = some m.cls := findClass_of_methodNamed hn
  have he : entryFrame m #[(.double (4607182418800017408 : UInt64))] 2 = (mkF m 0 #[.val (.double (4607182418800017408 : UInt64)), .second] []) := by first | (simp [entryFrame, mkF, argsToLocals, Value.category]; done) | rfl
  obtain ⟨f0, hf0⟩ : ∃ f, f = (mkF m 0 #[.val (.double (4607182418800017408 : UInt64)), .second] []) := ⟨_, rfl⟩
  obtain ⟨T0, hT0⟩ : ∃ T, T = Stt U vm (.java f0 :: F) := ⟨_, rfl⟩
  have X0 : Nst l e s below T0 m c := by rw [hT0]; exact ⟨adm, Stt_at hU hW hab hn hm hc pf_15, hW⟩
  have hTF : T0.frames.tail = F := by rw [hT0, Stt_frames hcur]; rfl
  have hTL : e.platform.stackLimits T0.me = (e.platform.stackLimits U.me) := by rw [hT0]; exact Stt_lim
  have hTH : T0.heap = h := by rw [hT0]; exact eU
  have K0 : Gx p e below T0 f0 T0 (mkF m 0 #[.val (.double (4607182418800017408 : UInt64)), .second] []) := fun t kt => by rw [hf0]; exact kt
  have K1 : Gx p e below T0 f0 T0 (mkF m 1 #[.val (.double (4607182418800017408 : UInt64)), .second] [(.double (4607182418800017408 : UInt64))]) := fun t kt => K0 t (by
    show Steps p.tables e below (T0.setTop (mkF m 0 #[.val (.double (4607182418800017408 : UInt64)), .second] [])) _
    refine XS.dloadN X0.here hx rfl (hb hby d15_0) rfl ?_
    exact kt)
  obtain ⟨vm2, hW2, st2⟩ := X0.native hx hown (mvT hZ (hw _ (List.mem_of_getElem? (i := 71) rfl)) (args := #[])) (mvT hZ (hw _ (List.mem_of_getElem? (i := 74) rfl))) (mvT hZ (hw _ (List.mem_of_getElem? (i := 72) rfl))) (mvT hZ (hw _ (List.mem_of_getElem? (i := 73) rfl))) (g := (mkF m 1 #[.val (.double (4607182418800017408 : UInt64)), .second] [(.double (4607182418800017408 : UInt64))])) rfl (rest := []) (b := (4607182418800017408 : UInt64)) rfl (hb hby d15_1) (w := 13) hTF hTL (by omega) (by omega) (Nat.le_of_eq rfl)
  have X2 : Nst l e s below (T0.setVm vm2) m c := X0.setVm hW2
  have K3 : Gx p e below T0 f0 (T0.setVm vm2) (mkF m 4 #[.val (.double (4607182418800017408 : UInt64)), .second] [(.long ((4607182418800017408 : UInt64).toInt64))]) := fun t kt => K1 t (st2 t kt)
  rw [(by decide +kernel : ((4607182418800017408 : UInt64).toInt64) = (4607182418800017408 : Int64))] at K3
  have K4 : Gx p e below T0 f0 (T0.setVm vm2) (mkF m 11 #[.val (.double (4607182418800017408 : UInt64)), .second] [(.long ((4607182418800017408 : Int64) >>> ((52 : Int32) &&& 0x3f).toInt64))]) := fun t kt => K3 t (by
    show Steps p.tables e below ((T0.setVm vm2).setTop (mkF m 4 #[.val (.double (4607182418800017408 : UInt64)), .second] [(.long (4607182418800017408 : Int64))])) _
    refine X2.ldc2Long hx hown (mvT hZ (hw _ (List.mem_of_getElem? (i := 75) rfl))) (g := (mkF m 4 #[.val (.double (4607182418800017408 : UInt64)), .second] [(.long (4607182418800017408 : Int64))])) rfl (hb hby d15_4) _ ?_
    show Steps p.tables e below ((T0.setVm vm2).setTop (mkF m 7 #[.val (.double (4607182418800017408 : UInt64)), .second] [(.long (9218868437227405312 : Int64)), (.long (4607182418800017408 : Int64))])) _
    refine XS.land X2.here hx rfl (hb hby d15_7) rfl ?_
    show Steps p.tables e below ((T0.setVm vm2).setTop (mkF m 8 #[.val (.double (4607182418800017408 : UInt64)), .second] [(.long (4607182418800017408 : Int64))])) _
    refine XS.bipush X2.here hx rfl (hb hby d15_8) ?_
    show Steps p.tables e below ((T0.setVm vm2).setTop (mkF m 10 #[.val (.double (4607182418800017408 : UInt64)), .second] [(.int (52 : Int32)), (.long (4607182418800017408 : Int64))])) _
    refine XS.lshr X2.here hx rfl (hb hby d15_10) rfl ?_
    exact kt)
  rw [(by decide +kernel : ((4607182418800017408 : Int64) >>> ((52 : Int32) &&& 0x3f).toInt64) = (1023 : Int64))] at K4
  have K5 : Gx p e below T0 f0 (T0.setVm vm2) (mkF m 16 #[.val (.double (4607182418800017408 : UInt64)), .second] [(.int ((0 : Int64).toInt32))]) := fun t kt => K4 t (by
    show Steps p.tables e below ((T0.setVm vm2).setTop (mkF m 11 #[.val (.double (4607182418800017408 : UInt64)), .second] [(.long (1023 : Int64))])) _
    refine X2.ldc2Long hx hown (mvT hZ (hw _ (List.mem_of_getElem? (i := 76) rfl))) (g := (mkF m 11 #[.val (.double (4607182418800017408 : UInt64)), .second] [(.long (1023 : Int64))])) rfl (hb hby d15_11) _ ?_
    show Steps p.tables e below ((T0.setVm vm2).setTop (mkF m 14 #[.val (.double (4607182418800017408 : UInt64)), .second] [(.long (1023 : Int64)), (.long (1023 : Int64))])) _
    refine XS.lsub X2.here hx rfl (hb hby d15_14) rfl ?_
    show Steps p.tables e below ((T0.setVm vm2).setTop (mkF m 15 #[.val (.double (4607182418800017408 : UInt64)), .second] [(.long (0 : Int64))])) _
    refine XS.l2i X2.here hx rfl (hb hby d15_15) rfl ?_
    exact kt)
  rw [(by decide +kernel : ((0 : Int64).toInt32) = (0 : Int32))] at K5
  refine ⟨vm2, hW2, fun acts => ?_⟩
  rw [rawEnter hcur hW acts hm hc hlk (by omega) (by rw [hml]; omega), hml, he]
  have e0 : Stt U vm (.java (mkF m 0 #[.val (.double (4607182418800017408 : UInt64)), .second] []) :: F) = T0.setTop f0 := by rw [hT0, Stt_setTop hcur, hf0]
  rw [e0]
  refine K5 _ (X2.retI hx hm hret (hb hby d15_16) (fun f acts q1 q2 q3 => ?_))
  rw [hT0]
  exact rawLeave hcur hW2 hm hlk (hfs _ _ hW2) acts q1 q2 q3
theorem d14_34 : decode jdk_128_method_18_code 34 = .ok (.iload 8, 2) := by decide +kernel
theorem d14_36 : decode jdk_128_method_18_code 36 = .ok (.bipush 52, 2) := by decide +kernel
theorem d14_38 : decode jdk_128_method_18_code 38 = .ok (.if_icmp .lt 5, 3) := by decide +kernel
theorem d14_43 : decode jdk_128_method_18_code 43 = .ok (.getstatic 70, 3) := by decide +kernel
theorem d14_46 : decode jdk_128_method_18_code 46 = .ok (.ifCond .ne 23, 3) := by decide +kernel
theorem d14_69 : decode jdk_128_method_18_code 69 = .ok (.dload_n 0, 1) := by decide +kernel
theorem d14_70 : decode jdk_128_method_18_code 70 = .ok (.invokestatic 77, 3) := by decide +kernel
theorem d14_73 : decode jdk_128_method_18_code 73 = .ok (.lstore 9, 2) := by decide +kernel
theorem d14_75 : decode jdk_128_method_18_code 75 = .ok (.ldc2_w 85, 3) := by decide +kernel
theorem d14_78 : decode jdk_128_method_18_code 78 = .ok (.iload 8, 2) := by decide +kernel
theorem d14_80 : decode jdk_128_method_18_code 80 = .ok (.lshr, 1) := by decide +kernel
theorem d14_81 : decode jdk_128_method_18_code 81 = .ok (.lstore 11, 2) := by decide +kernel
theorem d14_83 : decode jdk_128_method_18_code 83 = .ok (.lload 11, 2) := by decide +kernel
theorem d14_85 : decode jdk_128_method_18_code 85 = .ok (.lload 9, 2) := by decide +kernel
theorem d14_87 : decode jdk_128_method_18_code 87 = .ok (.land, 1) := by decide +kernel
theorem d14_88 : decode jdk_128_method_18_code 88 = .ok (.lconst 0, 1) := by decide +kernel
theorem d14_89 : decode jdk_128_method_18_code 89 = .ok (.lcmp, 1) := by decide +kernel
theorem d14_90 : decode jdk_128_method_18_code 90 = .ok (.ifCond .ne 5, 3) := by decide +kernel
theorem d14_93 : decode jdk_128_method_18_code 93 = .ok (.dload_n 0, 1) := by decide +kernel
theorem d14_94 : decode jdk_128_method_18_code 94 = .ok (.dreturn, 1) := by decide +kernel
set_option maxRecDepth 65536 in
set_option maxHeartbeats 40000000 in
theorem rawFoc1 {p : Program} {l : Launch} {e : Env} {below : List Frame} {s U : State} {mU : MethodId} {cU : Code} {Z : State} {a0 : Array Value} {h : Heap} (hw : ∀ d ∈ tables_1, d.before a0 Z = true) (hx : p.tables.exec = Jvm.exec) (hZ : Z.Warmed39 s.vm) (adm : l.admits e) (hU : At U mU cU below) (eU : U.heap = h) (SA : Sta Z h "java/lang/StrictMath" "$assertionsDisabled" "Z" (.int (1 : Int32))) {vm : Vm} {F fs : List Frame} {m : MethodId} (hn : s.methodNamed? (⟨"java/lang/StrictMath", "floorOrCeil", "(DDDD)D"⟩ : MethodName) = some m) (hW : s.WarmedH vm) (hab : ∃ mid, F = mid ++ below)
    (hq1 : F.length + 2 < (e.platform.stackLimits U.me).1) (hq2 : (stackUse F).2 + 26 + 28 ≤ (e.platform.stackLimits U.me).2) (hfs : ∀ vm' f, s.WarmedH vm' → handOver (Stt U vm' (.java f :: F)) (some (.double (4607182418800017408 : UInt64))) F = some fs) :
    ∃ vm', s.WarmedH vm' ∧ ∀ acts, Steps p.tables e below (doInvoke e (Stt U vm F) acts m #[(.double (4607182418800017408 : UInt64)), (.double (9223372036854775808 : UInt64)), (.double (4607182418800017408 : UInt64)), (.double (4607182418800017408 : UInt64))]).1 (Stt U vm' fs) := by
  have hcur := State.cur_lt_of_top hU.top
  obtain ⟨meth, c, hm, hc, hby, hml, hret, hlk, -, -⟩ := Cond.code_spec hn (mvT hZ (hw _ (List.mem_of_getElem? (i := 67) rfl)) (args := #[]))
  have hown : s.vm.findClass "java/lang/StrictMath" = some m.cls := findClass_of_methodNamed hn
  have he : entryFrame m #[(.double (4607182418800017408 : UInt64)), (.double (9223372036854775808 : UInt64)), (.double (4607182418800017408 : UInt64)), (.double (4607182418800017408 : UInt64))] 15 = (mkF m 0 #[.val (.double (4607182418800017408 : UInt64)), .second, .val (.double (9223372036854775808 : UInt64)), .second, .val (.double (4607182418800017408 : UInt64)), .second, .val (.double (4607182418800017408 : UInt64)), .second, .unset, .unset, .unset, .unset, .unset, .unset, .unset] []) := by first | (simp [entryFrame, mkF, argsToLocals, Value.category]; done) | rfl
  obtain ⟨f0, hf0⟩ : ∃ f, f = (mkF m 0 #[.val (.double (4607182418800017408 : UInt64)), .second, .val (.double (9223372036854775808 : UInt64)), .second, .val (.double (4607182418800017408 : UInt64)), .second, .val (.double (4607182418800017408 : UInt64)), .second, .unset, .unset, .unset, .unset, .unset, .unset, .unset] []) := ⟨_, rfl⟩
  obtain ⟨T0, hT0⟩ : ∃ T, T = Stt U vm (.java f0 :: F) := ⟨_, rfl⟩
  have X0 : Nst l e s below T0 m c := by rw [hT0]; exact ⟨adm, Stt_at hU hW hab hn hm hc pf_14, hW⟩
  have hTF : T0.frames.tail = F := by rw [hT0, Stt_frames hcur]; rfl
  have hTL : e.platform.stackLimits T0.me = (e.platform.stackLimits U.me) := by rw [hT0]; exact Stt_lim
  have hTH : T0.heap = h := by rw [hT0]; exact eU
  have K0 : Gx p e below T0 f0 T0 (mkF m 0 #[.val (.double (4607182418800017408 : UInt64)), .second, .val (.double (9223372036854775808 : UInt64)), .second, .val (.double (4607182418800017408 : UInt64)), .second, .val (.double (4607182418800017408 : UInt64)), .second, .unset, .unset, .unset, .unset, .unset, .unset, .unset] []) := fun t kt => by rw [hf0]; exact kt
  have K1 : Gx p e below T0 f0 T0 (mkF m 1 #[.val (.double (4607182418800017408 : UInt64)), .second, .val (.double (9223372036854775808 : UInt64)), .second, .val (.double (4607182418800017408 : UInt64)), .second, .val (.double (4607182418800017408 : UInt64)), .second, .unset, .unset, .unset, .unset, .unset, .unset, .unset] [(.double (4607182418800017408 : UInt64))]) := fun t kt => K0 t (by
    show Steps p.tables e below (T0.setTop (mkF m 0 #[.val (.double (4607182418800017408 : UInt64)), .second, .val (.double (9223372036854775808 : UInt64)), .second, .val (.double (4607182418800017408 : UInt64)), .second, .val (.double (4607182418800017408 : UInt64)), .second, .unset, .unset, .unset, .unset, .unset, .unset, .unset] [])) _
    refine XS.dloadN X0.here hx rfl (hb hby d14_0) rfl ?_
    exact kt)
  obtain ⟨mk2, hn2⟩ : ∃ k, s.methodNamed? (⟨"java/lang/Math", "getExponent", "(D)I"⟩ : MethodName) = some k := Cond.code_named (mvT hZ (hw _ (List.mem_of_getElem? (i := 70) rfl)) (args := #[]))
  obtain ⟨me2, cd2, hm2, hc2, -, -, -, -, -, hsg2⟩ := Cond.code_spec hn2 (mvT hZ (hw _ (List.mem_of_getElem? (i := 70) rfl)) (args := #[]))
  obtain ⟨kc2, hk2, -⟩ := className_of_methodNamed hn2
  have hst2 : me2.isStatic = true := own_static hn2 hm2 (mvT hZ (hw _ (List.mem_of_getElem? (i := 69) rfl)) (args := #[]))
  have hin2 : kc2.init = .initialized := Cond.initialized_spec (findClass_of_methodNamed hn2) hk2 (mvT hZ (hw _ (List.mem_of_getElem? (i := 55) rfl)) (args := #[]))
  obtain ⟨vm2, hW2, st2⟩ := X0.static hx hown (mvT hZ (hw _ (List.mem_of_getElem? (i := 68) rfl)) (args := #[])) hn2 hm2 hst2 hk2 hin2 (by decide) (g := (mkF m 1 #[.val (.double (4607182418800017408 : UInt64)), .second, .val (.double (9223372036854775808 : UInt64)), .second, .val (.double (4607182418800017408 : UInt64)), .second, .val (.double (4607182418800017408 : UInt64)), .second, .unset, .unset, .unset, .unset, .unset, .unset, .unset] [(.double (4607182418800017408 : UInt64))])) rfl (argsL := [(.double (4607182418800017408 : UInt64))]) (rest := []) (lenOf pd__D_I rfl _ hsg2) rfl (hb hby d14_1)
  have hab2 : ∃ mid, .java (mkF m 1 #[.val (.double (4607182418800017408 : UInt64)), .second, .val (.double (9223372036854775808 : UInt64)), .second, .val (.double (4607182418800017408 : UInt64)), .second, .val (.double (4607182418800017408 : UInt64)), .second, .unset, .unset, .unset, .unset, .unset, .unset, .unset] []) :: F = mid ++ below := by obtain ⟨mid, q⟩ := hab; exact ⟨.java (mkF m 1 #[.val (.double (4607182418800017408 : UInt64)), .second, .val (.double (9223372036854775808 : UInt64)), .second, .val (.double (4607182418800017408 : UInt64)), .second, .val (.double (4607182418800017408 : UInt64)), .second, .unset, .unset, .unset, .unset, .unset, .unset, .unset] []) :: mid, by rw [q]; rfl⟩
  have hu2 : (stackUse (.java (mkF m 1 #[.val (.double (4607182418800017408 : UInt64)), .second, .val (.double (9223372036854775808 : UInt64)), .second, .val (.double (4607182418800017408 : UInt64)), .second, .val (.double (4607182418800017408 : UInt64)), .second, .unset, .unset, .unset, .unset, .unset, .unset, .unset] []) :: F)).2 = (stackUse F).2 + 26 := by rw [stackUse_java]; rfl
  obtain ⟨vn2, hV2, sn2⟩ := rawGex1 hw hx hZ adm hU eU (F := .java (mkF m 1 #[.val (.double (4607182418800017408 : UInt64)), .second, .val (.double (9223372036854775808 : UInt64)), .second, .val (.double (4607182418800017408 : UInt64)), .second, .val (.double (4607182418800017408 : UInt64)), .second, .unset, .unset, .unset, .unset, .unset, .unset, .unset] []) :: F) (vm := vm2) (fs := .java (mkF m 4 #[.val (.double (4607182418800017408 : UInt64)), .second, .val (.double (9223372036854775808 : UInt64)), .second, .val (.double (4607182418800017408 : UInt64)), .second, .val (.double (4607182418800017408 : UInt64)), .second, .unset, .unset, .unset, .unset, .unset, .unset, .unset] [(.int (0 : Int32))]) :: F) hn2 hW2 hab2 (by rw [List.length_cons]; omega) (by rw [hu2]; omega) (fun vm' f hW' => handJ (g := (mkF m 1 #[.val (.double (4607182418800017408 : UInt64)), .second, .val (.double (9223372036854775808 : UInt64)), .second, .val (.double (4607182418800017408 : UInt64)), .second, .val (.double (4607182418800017408 : UInt64)), .second, .unset, .unset, .unset, .unset, .unset, .unset, .unset] [])) (v := (.int (0 : Int32))) (by show vm'.method? m = _; rw [hW'.alike.method?]; exact hm) hc (hb hby d14_1))
  obtain ⟨T2, hT2⟩ : ∃ T, T = Stt U vn2 (.java (mkF m 4 #[.val (.double (4607182418800017408 : UInt64)), .second, .val (.double (9223372036854775808 : UInt64)), .second, .val (.double (4607182418800017408 : UInt64)), .second, .val (.double (4607182418800017408 : UInt64)), .second, .unset, .unset, .unset, .unset, .unset, .unset, .unset] [(.int (0 : Int32))]) :: F) := ⟨_, rfl⟩
  have X2 : Nst l e s below T2 m c := by rw [hT2]; exact ⟨adm, Stt_at hU hV2 hab hn hm hc pf_14, hV2⟩
  have tf2 : T2.frames.tail = F := by rw [hT2, Stt_frames hcur]; rfl
  have tl2 : e.platform.stackLimits T2.me = e.platform.stackLimits U.me := by rw [hT2]; exact Stt_lim
  have th2 : T2.heap = h := by rw [hT2]; exact eU
  have K3 : Gx p e below T0 f0 T2 (mkF m 4 #[.val (.double (4607182418800017408 : UInt64)), .second, .val (.double (9223372036854775808 : UInt64)), .second, .val (.double (4607182418800017408 : UInt64)), .second, .val (.double (4607182418800017408 : UInt64)), .second, .unset, .unset, .unset, .unset, .unset, .unset, .unset] [(.int (0 : Int32))]) := fun t kt => K1 t (st2 t fun acts => by
    have e1 : (T0.setVm vm2).setTop (mkF m 1 #[.val (.double (4607182418800017408 : UInt64)), .second, .val (.double (9223372036854775808 : UInt64)), .second, .val (.double (4607182418800017408 : UInt64)), .second, .val (.double (4607182418800017408 : UInt64)), .second, .unset, .unset, .unset, .unset, .unset, .unset, .unset] []) = Stt U vm2 (.java (mkF m 1 #[.val (.double (4607182418800017408 : UInt64)), .second, .val (.double (9223372036854775808 : UInt64)), .second, .val (.double (4607182418800017408 : UInt64)), .second, .val (.double (4607182418800017408 : UInt64)), .second, .unset, .unset, .unset, .unset, .unset, .unset, .unset] []) :: F) := by rw [hT0]; exact Stt_setTop hcur
    have e2 : T2.setTop (mkF m 4 #[.val (.double (4607182418800017408 : UInt64)), .second, .val (.double (9223372036854775808 : UInt64)), .second, .val (.double (4607182418800017408 : UInt64)), .second, .val (.double (4607182418800017408 : UInt64)), .second, .unset, .unset, .unset, .unset, .unset, .unset, .unset] [(.int (0 : Int32))]) = Stt U vn2 (.java (mkF m 4 #[.val (.double (4607182418800017408 : UInt64)), .second, .val (.double (9223372036854775808 : UInt64)), .second, .val (.double (4607182418800017408 : UInt64)), .second, .val (.double (4607182418800017408 : UInt64)), .second, .unset, .unset, .unset, .unset, .unset, .unset, .unset] [(.int (0 : Int32))]) :: F) := by rw [hT2]; exact Stt_setTop hcur
    rw [e2] at kt
    show Steps p.tables e below (doInvoke e ((T0.setVm vm2).setTop (mkF m 1 #[.val (.double (4607182418800017408 : UInt64)), .second, .val (.double (9223372036854775808 : UInt64)), .second, .val (.double (4607182418800017408 : UInt64)), .second, .val (.double (4607182418800017408 : UInt64)), .second, .unset, .unset, .unset, .unset, .unset, .unset, .unset] [])) acts mk2 #[(.double (4607182418800017408 : UInt64))]).1 t
    rw [e1]; exact (sn2 acts).trans kt)
  have K4 : Gx p e below T0 f0 T2 (mkF m 43 #[.val (.double (4607182418800017408 : UInt64)), .second, .val (.double (9223372036854775808 : UInt64)), .second, .val (.double (4607182418800017408 : UInt64)), .second, .val (.double (4607182418800017408 : UInt64)), .second, .val (.int (0 : Int32)), .unset, .unset, .unset, .unset, .unset, .unset] []) := fun t kt => K3 t (by
    show Steps p.tables e below (T2.setTop (mkF m 4 #[.val (.double (4607182418800017408 : UInt64)), .second, .val (.double (9223372036854775808 : UInt64)), .second, .val (.double (4607182418800017408 : UInt64)), .second, .val (.double (4607182418800017408 : UInt64)), .second, .unset, .unset, .unset, .unset, .unset, .unset, .unset] [(.int (0 : Int32))])) _
    refine XS.istore X2.here hx rfl (hb hby d14_4) rfl (l' := #[.val (.double (4607182418800017408 : UInt64)), .second, .val (.double (9223372036854775808 : UInt64)), .second, .val (.double (4607182418800017408 : UInt64)), .second, .val (.double (4607182418800017408 : UInt64)), .second, .val (.int (0 : Int32)), .unset, .unset, .unset, .unset, .unset, .unset]) rfl ?_
    show Steps p.tables e below (T2.setTop (mkF m 6 #[.val (.double (4607182418800017408 : UInt64)), .second, .val (.double (9223372036854775808 : UInt64)), .second, .val (.double (4607182418800017408 : UInt64)), .second, .val (.double (4607182418800017408 : UInt64)), .second, .val (.int (0 : Int32)), .unset, .unset, .unset, .unset, .unset, .unset] [])) _
    refine XS.iload X2.here hx rfl (hb hby d14_6) rfl ?_
    show Steps p.tables e below (T2.setTop (mkF m 8 #[.val (.double (4607182418800017408 : UInt64)), .second, .val (.double (9223372036854775808 : UInt64)), .second, .val (.double (4607182418800017408 : UInt64)), .second, .val (.double (4607182418800017408 : UInt64)), .second, .val (.int (0 : Int32)), .unset, .unset, .unset, .unset, .unset, .unset] [(.int (0 : Int32))])) _
    refine XS.ifYes X2.here hx rfl (pc0 := 8) (pc' := 34) rfl (hb hby d14_8) rfl ((if0 _ _).trans (flt (by decide)).2.1) (by decide) (by decide) ?_
    show Steps p.tables e below (T2.setTop (mkF m 34 #[.val (.double (4607182418800017408 : UInt64)), .second, .val (.double (9223372036854775808 : UInt64)), .second, .val (.double (4607182418800017408 : UInt64)), .second, .val (.double (4607182418800017408 : UInt64)), .second, .val (.int (0 : Int32)), .unset, .unset, .unset, .unset, .unset, .unset] [])) _
    refine XS.iload X2.here hx rfl (hb hby d14_34) rfl ?_
    show Steps p.tables e below (T2.setTop (mkF m 36 #[.val (.double (4607182418800017408 : UInt64)), .second, .val (.double (9223372036854775808 : UInt64)), .second, .val (.double (4607182418800017408 : UInt64)), .second, .val (.double (4607182418800017408 : UInt64)), .second, .val (.int (0 : Int32)), .unset, .unset, .unset, .unset, .unset, .unset] [(.int (0 : Int32))])) _
    refine XS.bipush X2.here hx rfl (hb hby d14_36) ?_
    show Steps p.tables e below (T2.setTop (mkF m 38 #[.val (.double (4607182418800017408 : UInt64)), .second, .val (.double (9223372036854775808 : UInt64)), .second, .val (.double (4607182418800017408 : UInt64)), .second, .val (.double (4607182418800017408 : UInt64)), .second, .val (.int (0 : Int32)), .unset, .unset, .unset, .unset, .unset, .unset] [(.int (52 : Int32)), (.int (0 : Int32))])) _
    refine XS.icmpYes X2.here hx rfl (pc0 := 38) (pc' := 43) rfl (hb hby d14_38) rfl (tlt (by decide)).1 (by decide) (by decide) ?_
    exact kt)
  obtain ⟨vm5, hW5, st5⟩ := X2.getS hx hZ hown (hw _ (List.mem_of_getElem? (i := 80) rfl)) th2 SA (g := (mkF m 43 #[.val (.double (4607182418800017408 : UInt64)), .second, .val (.double (9223372036854775808 : UInt64)), .second, .val (.double (4607182418800017408 : UInt64)), .second, .val (.double (4607182418800017408 : UInt64)), .second, .val (.int (0 : Int32)), .unset, .unset, .unset, .unset, .unset, .unset] [])) rfl (hb hby d14_43)
  have X5 : Nst l e s below (T2.setVm vm5) m c := X2.setVm hW5
  have K6 : Gx p e below T0 f0 (T2.setVm vm5) (mkF m 46 #[.val (.double (4607182418800017408 : UInt64)), .second, .val (.double (9223372036854775808 : UInt64)), .second, .val (.double (4607182418800017408 : UInt64)), .second, .val (.double (4607182418800017408 : UInt64)), .second, .val (.int (0 : Int32)), .unset, .unset, .unset, .unset, .unset, .unset] [(.int (1 : Int32))]) := fun t kt => K4 t (st5 t kt)
  have K7 : Gx p e below T0 f0 (T2.setVm vm5) (mkF m 70 #[.val (.double (4607182418800017408 : UInt64)), .second, .val (.double (9223372036854775808 : UInt64)), .second, .val (.double (4607182418800017408 : UInt64)), .second, .val (.double (4607182418800017408 : UInt64)), .second, .val (.int (0 : Int32)), .unset, .unset, .unset, .unset, .unset, .unset] [(.double (4607182418800017408 : UInt64))]) := fun t kt => K6 t (by
    show Steps p.tables e below ((T2.setVm vm5).setTop (mkF m 46 #[.val (.double (4607182418800017408 : UInt64)), .second, .val (.double (9223372036854775808 : UInt64)), .second, .val (.double (4607182418800017408 : UInt64)), .second, .val (.double (4607182418800017408 : UInt64)), .second, .val (.int (0 : Int32)), .unset, .unset, .unset, .unset, .unset, .unset] [(.int (1 : Int32))])) _
    refine XS.ifYes X5.here hx rfl (pc0 := 46) (pc' := 69) rfl (hb hby d14_46) rfl ((if0 _ _).trans (feq (by decide)).2) (by decide) (by decide) ?_
    show Steps p.tables e below ((T2.setVm vm5).setTop (mkF m 69 #[.val (.double (4607182418800017408 : UInt64)), .second, .val (.double (9223372036854775808 : UInt64)), .second, .val (.double (4607182418800017408 : UInt64)), .second, .val (.double (4607182418800017408 : UInt64)), .second, .val (.int (0 : Int32)), .unset, .unset, .unset, .unset, .unset, .unset] [])) _
    refine XS.dloadN X5.here hx rfl (hb hby d14_69) rfl ?_
    exact kt)
  obtain ⟨vm8, hW8, st8⟩ := X5.native hx hown (mvT hZ (hw _ (List.mem_of_getElem? (i := 81) rfl)) (args := #[])) (mvT hZ (hw _ (List.mem_of_getElem? (i := 74) rfl))) (mvT hZ (hw _ (List.mem_of_getElem? (i := 72) rfl))) (mvT hZ (hw _ (List.mem_of_getElem? (i := 73) rfl))) (g := (mkF m 70 #[.val (.double (4607182418800017408 : UInt64)), .second, .val (.double (9223372036854775808 : UInt64)), .second, .val (.double (4607182418800017408 : UInt64)), .second, .val (.double (4607182418800017408 : UInt64)), .second, .val (.int (0 : Int32)), .unset, .unset, .unset, .unset, .unset, .unset] [(.double (4607182418800017408 : UInt64))])) rfl (rest := []) (b := (4607182418800017408 : UInt64)) rfl (hb hby d14_70) (w := 26) tf2 tl2 (by omega) (by omega) (Nat.le_of_eq rfl)
  have X8 : Nst l e s below ((T2.setVm vm5).setVm vm8) m c := X5.setVm hW8
  have K9 : Gx p e below T0 f0 ((T2.setVm vm5).setVm vm8) (mkF m 73 #[.val (.double (4607182418800017408 : UInt64)), .second, .val (.double (9223372036854775808 : UInt64)), .second, .val (.double (4607182418800017408 : UInt64)), .second, .val (.double (4607182418800017408 : UInt64)), .second, .val (.int (0 : Int32)), .unset, .unset, .unset, .unset, .unset, .unset] [(.long ((4607182418800017408 : UInt64).toInt64))]) := fun t kt => K7 t (st8 t kt)
  rw [(by decide +kernel : ((4607182418800017408 : UInt64).toInt64) = (4607182418800017408 : Int64))] at K9
  have K10 : Gx p e below T0 f0 ((T2.setVm vm5).setVm vm8) (mkF m 81 #[.val (.double (4607182418800017408 : UInt64)), .second, .val (.double (9223372036854775808 : UInt64)), .second, .val (.double (4607182418800017408 : UInt64)), .second, .val (.double (4607182418800017408 : UInt64)), .second, .val (.int (0 : Int32)), .val (.long (4607182418800017408 : Int64)), .second, .unset, .unset, .unset, .unset] [(.long ((4503599627370495 : Int64) >>> ((0 : Int32) &&& 0x3f).toInt64))]) := fun t kt => K9 t (by
    show Steps p.tables e below (((T2.setVm vm5).setVm vm8).setTop (mkF m 73 #[.val (.double (4607182418800017408 : UInt64)), .second, .val (.double (9223372036854775808 : UInt64)), .second, .val (.double (4607182418800017408 : UInt64)), .second, .val (.double (4607182418800017408 : UInt64)), .second, .val (.int (0 : Int32)), .unset, .unset, .unset, .unset, .unset, .unset] [(.long (4607182418800017408 : Int64))])) _
    refine XS.lstore X8.here hx rfl (hb hby d14_73) rfl (l' := #[.val (.double (4607182418800017408 : UInt64)), .second, .val (.double (9223372036854775808 : UInt64)), .second, .val (.double (4607182418800017408 : UInt64)), .second, .val (.double (4607182418800017408 : UInt64)), .second, .val (.int (0 : Int32)), .val (.long (4607182418800017408 : Int64)), .second, .unset, .unset, .unset, .unset]) rfl ?_
    show Steps p.tables e below (((T2.setVm vm5).setVm vm8).setTop (mkF m 75 #[.val (.double (4607182418800017408 : UInt64)), .second, .val (.double (9223372036854775808 : UInt64)), .second, .val (.double (4607182418800017408 : UInt64)), .second, .val (.double (4607182418800017408 : UInt64)), .second, .val (.int (0 : Int32)), .val (.long (4607182418800017408 : Int64)), .second, .unset, .unset, .unset, .unset] [])) _
    refine X8.ldc2Long hx hown (mvT hZ (hw _ (List.mem_of_getElem? (i := 82) rfl))) (g := (mkF m 75 #[.val (.double (4607182418800017408 : UInt64)), .second, .val (.double (9223372036854775808 : UInt64)), .second, .val (.double (4607182418800017408 : UInt64)), .second, .val (.double (4607182418800017408 : UInt64)), .second, .val (.int (0 : Int32)), .val (.long (4607182418800017408 : Int64)), .second, .unset, .unset, .unset, .unset] [])) rfl (hb hby d14_75) _ ?_
    show Steps p.tables e below (((T2.setVm vm5).setVm vm8).setTop (mkF m 78 #[.val (.double (4607182418800017408 : UInt64)), .second, .val (.double (9223372036854775808 : UInt64)), .second, .val (.double (4607182418800017408 : UInt64)), .second, .val (.double (4607182418800017408 : UInt64)), .second, .val (.int (0 : Int32)), .val (.long (4607182418800017408 : Int64)), .second, .unset, .unset, .unset, .unset] [(.long (4503599627370495 : Int64))])) _
    refine XS.iload X8.here hx rfl (hb hby d14_78) rfl ?_
    show Steps p.tables e below (((T2.setVm vm5).setVm vm8).setTop (mkF m 80 #[.val (.double (4607182418800017408 : UInt64)), .second, .val (.double (9223372036854775808 : UInt64)), .second, .val (.double (4607182418800017408 : UInt64)), .second, .val (.double (4607182418800017408 : UInt64)), .second, .val (.int (0 : Int32)), .val (.long (4607182418800017408 : Int64)), .second, .unset, .unset, .unset, .unset] [(.int (0 : Int32)), (.long (4503599627370495 : Int64))])) _
    refine XS.lshr X8.here hx rfl (hb hby d14_80) rfl ?_
    exact kt)
  rw [(by decide +kernel : ((4503599627370495 : Int64) >>> ((0 : Int32) &&& 0x3f).toInt64) = (4503599627370495 : Int64))] at K10
  have K11 : Gx p e below T0 f0 ((T2.setVm vm5).setVm vm8) (mkF m 94 #[.val (.double (4607182418800017408 : UInt64)), .second, .val (.double (9223372036854775808 : UInt64)), .second, .val (.double (4607182418800017408 : UInt64)), .second, .val (.double (4607182418800017408 : UInt64)), .second, .val (.int (0 : Int32)), .val (.long (4607182418800017408 : Int64)), .second, .val (.long (4503599627370495 : Int64)), .second, .unset, .unset] [(.double (4607182418800017408 : UInt64))]) := fun t kt => K10 t (by
    show Steps p.tables e below (((T2.setVm vm5).setVm vm8).setTop (mkF m 81 #[.val (.double (4607182418800017408 : UInt64)), .second, .val (.double (9223372036854775808 : UInt64)), .second, .val (.double (4607182418800017408 : UInt64)), .second, .val (.double (4607182418800017408 : UInt64)), .second, .val (.int (0 : Int32)), .val (.long (4607182418800017408 : Int64)), .second, .unset, .unset, .unset, .unset] [(.long (4503599627370495 : Int64))])) _
    refine XS.lstore X8.here hx rfl (hb hby d14_81) rfl (l' := #[.val (.double (4607182418800017408 : UInt64)), .second, .val (.double (9223372036854775808 : UInt64)), .second, .val (.double (4607182418800017408 : UInt64)), .second, .val (.double (4607182418800017408 : UInt64)), .second, .val (.int (0 : Int32)), .val (.long (4607182418800017408 : Int64)), .second, .val (.long (4503599627370495 : Int64)), .second, .unset, .unset]) rfl ?_
    show Steps p.tables e below (((T2.setVm vm5).setVm vm8).setTop (mkF m 83 #[.val (.double (4607182418800017408 : UInt64)), .second, .val (.double (9223372036854775808 : UInt64)), .second, .val (.double (4607182418800017408 : UInt64)), .second, .val (.double (4607182418800017408 : UInt64)), .second, .val (.int (0 : Int32)), .val (.long (4607182418800017408 : Int64)), .second, .val (.long (4503599627370495 : Int64)), .second, .unset, .unset] [])) _
    refine XS.lload X8.here hx rfl (hb hby d14_83) rfl ?_
    show Steps p.tables e below (((T2.setVm vm5).setVm vm8).setTop (mkF m 85 #[.val (.double (4607182418800017408 : UInt64)), .second, .val (.double (9223372036854775808 : UInt64)), .second, .val (.double (4607182418800017408 : UInt64)), .second, .val (.double (4607182418800017408 : UInt64)), .second, .val (.int (0 : Int32)), .val (.long (4607182418800017408 : Int64)), .second, .val (.long (4503599627370495 : Int64)), .second, .unset, .unset] [(.long (4503599627370495 : Int64))])) _
    refine XS.lload X8.here hx rfl (hb hby d14_85) rfl ?_
    show Steps p.tables e below (((T2.setVm vm5).setVm vm8).setTop (mkF m 87 #[.val (.double (4607182418800017408 : UInt64)), .second, .val (.double (9223372036854775808 : UInt64)), .second, .val (.double (4607182418800017408 : UInt64)), .second, .val (.double (4607182418800017408 : UInt64)), .second, .val (.int (0 : Int32)), .val (.long (4607182418800017408 : Int64)), .second, .val (.long (4503599627370495 : Int64)), .second, .unset, .unset] [(.long (4607182418800017408 : Int64)), (.long (4503599627370495 : Int64))])) _
    refine XS.land X8.here hx rfl (hb hby d14_87) rfl ?_
    show Steps p.tables e below (((T2.setVm vm5).setVm vm8).setTop (mkF m 88 #[.val (.double (4607182418800017408 : UInt64)), .second, .val (.double (9223372036854775808 : UInt64)), .second, .val (.double (4607182418800017408 : UInt64)), .second, .val (.double (4607182418800017408 : UInt64)), .second, .val (.int (0 : Int32)), .val (.long (4607182418800017408 : Int64)), .second, .val (.long (4503599627370495 : Int64)), .second, .unset, .unset] [(.long (0 : Int64))])) _
    refine XS.lconst X8.here hx rfl (hb hby d14_88) ?_
    show Steps p.tables e below (((T2.setVm vm5).setVm vm8).setTop (mkF m 89 #[.val (.double (4607182418800017408 : UInt64)), .second, .val (.double (9223372036854775808 : UInt64)), .second, .val (.double (4607182418800017408 : UInt64)), .second, .val (.double (4607182418800017408 : UInt64)), .second, .val (.int (0 : Int32)), .val (.long (4607182418800017408 : Int64)), .second, .val (.long (4503599627370495 : Int64)), .second, .unset, .unset] [(.long (0 : Int64)), (.long (0 : Int64))])) _
    refine XS.lcmp X8.here hx rfl (hb hby d14_89) rfl ?_
    show Steps p.tables e below (((T2.setVm vm5).setVm vm8).setTop (mkF m 90 #[.val (.double (4607182418800017408 : UInt64)), .second, .val (.double (9223372036854775808 : UInt64)), .second, .val (.double (4607182418800017408 : UInt64)), .second, .val (.double (4607182418800017408 : UInt64)), .second, .val (.int (0 : Int32)), .val (.long (4607182418800017408 : Int64)), .second, .val (.long (4503599627370495 : Int64)), .second, .unset, .unset] [(.int (lcmpW (0 : Int64) (0 : Int64)))])) _
    refine XS.ifNo X8.here hx rfl (hb hby d14_90) rfl ((if0 _ _).trans (teq (by decide)).2) ?_
    show Steps p.tables e below (((T2.setVm vm5).setVm vm8).setTop (mkF m 93 #[.val (.double (4607182418800017408 : UInt64)), .second, .val (.double (9223372036854775808 : UInt64)), .second, .val (.double (4607182418800017408 : UInt64)), .second, .val (.double (4607182418800017408 : UInt64)), .second, .val (.int (0 : Int32)), .val (.long (4607182418800017408 : Int64)), .second, .val (.long (4503599627370495 : Int64)), .second, .unset, .unset] [])) _
    refine XS.dloadN X8.here hx rfl (hb hby d14_93) rfl ?_
    exact kt)
  refine ⟨vm8, hW8, fun acts => ?_⟩
  rw [rawEnter hcur hW acts hm hc hlk (by omega) (by rw [hml]; omega), hml, he]
  have e0 : Stt U vm (.java (mkF m 0 #[.val (.double (4607182418800017408 : UInt64)), .second, .val (.double (9223372036854775808 : UInt64)), .second, .val (.double (4607182418800017408 : UInt64)), .second, .val (.double (4607182418800017408 : UInt64)), .second, .unset, .unset, .unset, .unset, .unset, .unset, .unset] []) :: F) = T0.setTop f0 := by rw [hT0, Stt_setTop hcur, hf0]
  rw [e0]
  refine K11 _ (X8.retD hx hm hret (hb hby d14_94) (fun f acts q1 q2 q3 => ?_))
  rw [hT2]
  exact rawLeave hcur hW8 hm hlk (hfs _ _ hW8) acts q1 q2 q3
set_option maxRecDepth 65536 in
set_option maxHeartbeats 40000000 in
theorem rawSce1 {p : Program} {l : Launch} {e : Env} {below : List Frame} {s U : State} {mU : MethodId} {cU : Code} {Z : State} {a0 : Array Value} {h : Heap} (hw : ∀ d ∈ tables_1, d.before a0 Z = true) (hx : p.tables.exec = Jvm.exec) (hZ : Z.Warmed39 s.vm) (adm : l.admits e) (hU : At U mU cU below) (eU : U.heap = h) (SA : Sta Z h "java/lang/StrictMath" "$assertionsDisabled" "Z" (.int (1 : Int32))) {vm : Vm} {F fs : List Frame} {m : MethodId} (hn : s.methodNamed? (⟨"java/lang/StrictMath", "ceil", "(D)D"⟩ : MethodName) = some m) (hW : s.WarmedH vm) (hab : ∃ mid, F = mid ++ below)
    (hq1 : F.length + 3 < (e.platform.stackLimits U.me).1) (hq2 : (stackUse F).2 + 13 + 54 ≤ (e.platform.stackLimits U.me).2) (hfs : ∀ vm' f, s.WarmedH vm' → handOver (Stt U vm' (.java f :: F)) (some (.double (4607182418800017408 : UInt64))) F = some fs) :
    ∃ vm', s.WarmedH vm' ∧ ∀ acts, Steps p.tables e below (doInvoke e (Stt U vm F) acts m #[(.double (4607182418800017408 : UInt64))]).1 (Stt U vm' fs) := by
  have hcur := State.cur_lt_of_top hU.top
  obtain ⟨meth, c, hm, hc, hby, hml, hret, hlk, -, -⟩ := Cond.code_spec hn (mvT hZ (hw _ (List.mem_of_getElem? (i := 63) rfl)) (args := #[]))
  have hown : s.vm.findClass "java/lang/StrictMath" = some m.cls := findClass_of_methodNamed hn
  have he : entryFrame m #[(.double (4607182418800017408 : UInt64))] 2 = (mkF m 0 #[.val (.double (4607182418800017408 : UInt64)), .second] []) := by first | (simp [entryFrame, mkF, argsToLocals, Value.category]; done) | rfl
  obtain ⟨f0, hf0⟩ : ∃ f, f = (mkF m 0 #[.val (.double (4607182418800017408 : UInt64)), .second] []) := ⟨_, rfl⟩
  obtain ⟨T0, hT0⟩ : ∃ T, T = Stt U vm (.java f0 :: F) := ⟨_, rfl⟩
  have X0 : Nst l e s below T0 m c := by rw [hT0]; exact ⟨adm, Stt_at hU hW hab hn hm hc pf_13, hW⟩
  have hTF : T0.frames.tail = F := by rw [hT0, Stt_frames hcur]; rfl
  have hTL : e.platform.stackLimits T0.me = (e.platform.stackLimits U.me) := by rw [hT0]; exact Stt_lim
  have hTH : T0.heap = h := by rw [hT0]; exact eU
  have K0 : Gx p e below T0 f0 T0 (mkF m 0 #[.val (.double (4607182418800017408 : UInt64)), .second] []) := fun t kt => by rw [hf0]; exact kt
  have K1 : Gx p e below T0 f0 T0 (mkF m 6 #[.val (.double (4607182418800017408 : UInt64)), .second] [(.double (4607182418800017408 : UInt64)), (.double (4607182418800017408 : UInt64)), (.double (9223372036854775808 : UInt64)), (.double (4607182418800017408 : UInt64))]) := fun t kt => K0 t (by
    show Steps p.tables e below (T0.setTop (mkF m 0 #[.val (.double (4607182418800017408 : UInt64)), .second] [])) _
    refine XS.dloadN X0.here hx rfl (hb hby d13_0) rfl ?_
    show Steps p.tables e below (T0.setTop (mkF m 1 #[.val (.double (4607182418800017408 : UInt64)), .second] [(.double (4607182418800017408 : UInt64))])) _
    refine X0.ldc2DoubleC hx hown (mvT hZ (hw _ (List.mem_of_getElem? (i := 64) rfl))) (g := (mkF m 1 #[.val (.double (4607182418800017408 : UInt64)), .second] [(.double (4607182418800017408 : UInt64))])) rfl (hb hby d13_1) _ ?_
    show Steps p.tables e below (T0.setTop (mkF m 4 #[.val (.double (4607182418800017408 : UInt64)), .second] [(.double (9223372036854775808 : UInt64)), (.double (4607182418800017408 : UInt64))])) _
    refine XS.dconst1 X0.here hx rfl (hb hby d13_4) (v := (4607182418800017408 : UInt64)) (by decide +kernel) ?_
    show Steps p.tables e below (T0.setTop (mkF m 5 #[.val (.double (4607182418800017408 : UInt64)), .second] [(.double (4607182418800017408 : UInt64)), (.double (9223372036854775808 : UInt64)), (.double (4607182418800017408 : UInt64))])) _
    refine XS.dconst1 X0.here hx rfl (hb hby d13_5) (v := (4607182418800017408 : UInt64)) (by decide +kernel) ?_
    exact kt)
  obtain ⟨mk2, hn2⟩ : ∃ k, s.methodNamed? (⟨"java/lang/StrictMath", "floorOrCeil", "(DDDD)D"⟩ : MethodName) = some k := Cond.code_named (mvT hZ (hw _ (List.mem_of_getElem? (i := 67) rfl)) (args := #[]))
  obtain ⟨me2, cd2, hm2, hc2, -, -, -, -, -, hsg2⟩ := Cond.code_spec hn2 (mvT hZ (hw _ (List.mem_of_getElem? (i := 67) rfl)) (args := #[]))
  obtain ⟨kc2, hk2, -⟩ := className_of_methodNamed hn2
  have hst2 : me2.isStatic = true := own_static hn2 hm2 (mvT hZ (hw _ (List.mem_of_getElem? (i := 66) rfl)) (args := #[]))
  have hin2 : kc2.init = .initialized := Cond.initialized_spec (findClass_of_methodNamed hn2) hk2 (mvT hZ (hw _ (List.mem_of_getElem? (i := 62) rfl)) (args := #[]))
  obtain ⟨vm2, hW2, st2⟩ := X0.static hx hown (mvT hZ (hw _ (List.mem_of_getElem? (i := 65) rfl)) (args := #[])) hn2 hm2 hst2 hk2 hin2 (by decide) (g := (mkF m 6 #[.val (.double (4607182418800017408 : UInt64)), .second] [(.double (4607182418800017408 : UInt64)), (.double (4607182418800017408 : UInt64)), (.double (9223372036854775808 : UInt64)), (.double (4607182418800017408 : UInt64))])) rfl (argsL := [(.double (4607182418800017408 : UInt64)), (.double (9223372036854775808 : UInt64)), (.double (4607182418800017408 : UInt64)), (.double (4607182418800017408 : UInt64))]) (rest := []) (lenOf pd__DDDD_D rfl _ hsg2) rfl (hb hby d13_6)
  have hab2 : ∃ mid, .java (mkF m 6 #[.val (.double (4607182418800017408 : UInt64)), .second] []) :: F = mid ++ below := by obtain ⟨mid, q⟩ := hab; exact ⟨.java (mkF m 6 #[.val (.double (4607182418800017408 : UInt64)), .second] []) :: mid, by rw [q]; rfl⟩
  have hu2 : (stackUse (.java (mkF m 6 #[.val (.double (4607182418800017408 : UInt64)), .second] []) :: F)).2 = (stackUse F).2 + 13 := by rw [stackUse_java]; rfl
  obtain ⟨vn2, hV2, sn2⟩ := rawFoc1 hw hx hZ adm hU eU SA (F := .java (mkF m 6 #[.val (.double (4607182418800017408 : UInt64)), .second] []) :: F) (vm := vm2) (fs := .java (mkF m 9 #[.val (.double (4607182418800017408 : UInt64)), .second] [(.double (4607182418800017408 : UInt64))]) :: F) hn2 hW2 hab2 (by rw [List.length_cons]; omega) (by rw [hu2]; omega) (fun vm' f hW' => handJ (g := (mkF m 6 #[.val (.double (4607182418800017408 : UInt64)), .second] [])) (v := (.double (4607182418800017408 : UInt64))) (by show vm'.method? m = _; rw [hW'.alike.method?]; exact hm) hc (hb hby d13_6))
  obtain ⟨T2, hT2⟩ : ∃ T, T = Stt U vn2 (.java (mkF m 9 #[.val (.double (4607182418800017408 : UInt64)), .second] [(.double (4607182418800017408 : UInt64))]) :: F) := ⟨_, rfl⟩
  have X2 : Nst l e s below T2 m c := by rw [hT2]; exact ⟨adm, Stt_at hU hV2 hab hn hm hc pf_13, hV2⟩
  have tf2 : T2.frames.tail = F := by rw [hT2, Stt_frames hcur]; rfl
  have tl2 : e.platform.stackLimits T2.me = e.platform.stackLimits U.me := by rw [hT2]; exact Stt_lim
  have th2 : T2.heap = h := by rw [hT2]; exact eU
  have K3 : Gx p e below T0 f0 T2 (mkF m 9 #[.val (.double (4607182418800017408 : UInt64)), .second] [(.double (4607182418800017408 : UInt64))]) := fun t kt => K1 t (st2 t fun acts => by
    have e1 : (T0.setVm vm2).setTop (mkF m 6 #[.val (.double (4607182418800017408 : UInt64)), .second] []) = Stt U vm2 (.java (mkF m 6 #[.val (.double (4607182418800017408 : UInt64)), .second] []) :: F) := by rw [hT0]; exact Stt_setTop hcur
    have e2 : T2.setTop (mkF m 9 #[.val (.double (4607182418800017408 : UInt64)), .second] [(.double (4607182418800017408 : UInt64))]) = Stt U vn2 (.java (mkF m 9 #[.val (.double (4607182418800017408 : UInt64)), .second] [(.double (4607182418800017408 : UInt64))]) :: F) := by rw [hT2]; exact Stt_setTop hcur
    rw [e2] at kt
    show Steps p.tables e below (doInvoke e ((T0.setVm vm2).setTop (mkF m 6 #[.val (.double (4607182418800017408 : UInt64)), .second] [])) acts mk2 #[(.double (4607182418800017408 : UInt64)), (.double (9223372036854775808 : UInt64)), (.double (4607182418800017408 : UInt64)), (.double (4607182418800017408 : UInt64))]).1 t
    rw [e1]; exact (sn2 acts).trans kt)
  refine ⟨vn2, hV2, fun acts => ?_⟩
  rw [rawEnter hcur hW acts hm hc hlk (by omega) (by rw [hml]; omega), hml, he]
  have e0 : Stt U vm (.java (mkF m 0 #[.val (.double (4607182418800017408 : UInt64)), .second] []) :: F) = T0.setTop f0 := by rw [hT0, Stt_setTop hcur, hf0]
  rw [e0]
  refine K3 _ (X2.retD hx hm hret (hb hby d13_9) (fun f acts q1 q2 q3 => ?_))
  rw [hT2]
  exact rawLeave hcur hV2 hm hlk (hfs _ _ hV2) acts q1 q2 q3
set_option maxRecDepth 65536 in
set_option maxHeartbeats 40000000 in
theorem rawGex2 {p : Program} {l : Launch} {e : Env} {below : List Frame} {s U : State} {mU : MethodId} {cU : Code} {Z : State} {a0 : Array Value} {h : Heap} (hw : ∀ d ∈ tables_1, d.before a0 Z = true) (hx : p.tables.exec = Jvm.exec) (hZ : Z.Warmed39 s.vm) (adm : l.admits e) (hU : At U mU cU below) (eU : U.heap = h) {vm : Vm} {F fs : List Frame} {m : MethodId} (hn : s.methodNamed? (⟨"java/lang/Math", "getExponent", "(D)I"⟩ : MethodName) = some m) (hW : s.WarmedH vm) (hab : ∃ mid, F = mid ++ below)
    (hq1 : F.length + 1 < (e.platform.stackLimits U.me).1) (hq2 : (stackUse F).2 + 13 + 15 ≤ (e.platform.stackLimits U.me).2) (hfs : ∀ vm' f, s.WarmedH vm' → handOver (Stt U vm' (.java f :: F)) (some (.int (1 : Int32))) F = some fs) :
    ∃ vm', s.WarmedH vm' ∧ ∀ acts, Steps p.tables e below (doInvoke e (Stt U vm F) acts m #[(.double (4611686018427387904 : UInt64))]).1 (Stt U vm' fs) := by
  have hcur := State.cur_lt_of_top hU.top
  obtain ⟨meth, c, hm, hc, hby, hml, hret, hlk, -, -⟩ := Cond.code_spec hn (mvT hZ (hw _ (List.mem_of_getElem? (i := 70) rfl)) (args := #[]))
  have hown : s.vm.findClass "java/lang/Math" = some m.cls := findClass_of_methodNamed hn
  have he : entryFrame m #[(.double (4611686018427387904 : UInt64))] 2 = (mkF m 0 #[.val (.double (4611686018427387904 : UInt64)), .second] []) := by first | (simp [entryFrame, mkF, argsToLocals, Value.category]; done) | rfl
  obtain ⟨f0, hf0⟩ : ∃ f, f = (mkF m 0 #[.val (.double (4611686018427387904 : UInt64)), .second] []) := ⟨_, rfl⟩
  obtain ⟨T0, hT0⟩ : ∃ T, T = Stt U vm (.java f0 :: F) := ⟨_, rfl⟩
  have X0 : Nst l e s below T0 m c := by rw [hT0]; exact ⟨adm, Stt_at hU hW hab hn hm hc pf_15, hW⟩
  have hTF : T0.frames.tail = F := by rw [hT0, Stt_frames hcur]; rfl
  have hTL : e.platform.stackLimits T0.me = (e.platform.stackLimits U.me) := by rw [hT0]; exact Stt_lim
  have hTH : T0.heap = h := by rw [hT0]; exact eU
  have K0 : Gx p e below T0 f0 T0 (mkF m 0 #[.val (.double (4611686018427387904 : UInt64)), .second] []) := fun t kt => by rw [hf0]; exact kt
  have K1 : Gx p e below T0 f0 T0 (mkF m 1 #[.val (.double (4611686018427387904 : UInt64)), .second] [(.double (4611686018427387904 : UInt64))]) := fun t kt => K0 t (by
    show Steps p.tables e below (T0.setTop (mkF m 0 #[.val (.double (4611686018427387904 : UInt64)), .second] [])) _
    refine XS.dloadN X0.here hx rfl (hb hby d15_0) rfl ?_
    exact kt)
  obtain ⟨vm2, hW2, st2⟩ := X0.native hx hown (mvT hZ (hw _ (List.mem_of_getElem? (i := 71) rfl)) (args := #[])) (mvT hZ (hw _ (List.mem_of_getElem? (i := 74) rfl))) (mvT hZ (hw _ (List.mem_of_getElem? (i := 72) rfl))) (mvT hZ (hw _ (List.mem_of_getElem? (i := 73) rfl))) (g := (mkF m 1 #[.val (.double (4611686018427387904 : UInt64)), .second] [(.double (4611686018427387904 : UInt64))])) rfl (rest := []) (b := (4611686018427387904 : UInt64)) rfl (hb hby d15_1) (w := 13) hTF hTL (by omega) (by omega) (Nat.le_of_eq rfl)
  have X2 : Nst l e s below (T0.setVm vm2) m c := X0.setVm hW2
  have K3 : Gx p e below T0 f0 (T0.setVm vm2) (mkF m 4 #[.val (.double (4611686018427387904 : UInt64)), .second] [(.long ((4611686018427387904 : UInt64).toInt64))]) := fun t kt => K1 t (st2 t kt)
  rw [(by decide +kernel : ((4611686018427387904 : UInt64).toInt64) = (4611686018427387904 : Int64))] at K3
  have K4 : Gx p e below T0 f0 (T0.setVm vm2) (mkF m 11 #[.val (.double (4611686018427387904 : UInt64)), .second] [(.long ((4611686018427387904 : Int64) >>> ((52 : Int32) &&& 0x3f).toInt64))]) := fun t kt => K3 t (by
    show Steps p.tables e below ((T0.setVm vm2).setTop (mkF m 4 #[.val (.double (4611686018427387904 : UInt64)), .second] [(.long (4611686018427387904 : Int64))])) _
    refine X2.ldc2Long hx hown (mvT hZ (hw _ (List.mem_of_getElem? (i := 75) rfl))) (g := (mkF m 4 #[.val (.double (4611686018427387904 : UInt64)), .second] [(.long (4611686018427387904 : Int64))])) rfl (hb hby d15_4) _ ?_
    show Steps p.tables e below ((T0.setVm vm2).setTop (mkF m 7 #[.val (.double (4611686018427387904 : UInt64)), .second] [(.long (9218868437227405312 : Int64)), (.long (4611686018427387904 : Int64))])) _
    refine XS.land X2.here hx rfl (hb hby d15_7) rfl ?_
    show Steps p.tables e below ((T0.setVm vm2).setTop (mkF m 8 #[.val (.double (4611686018427387904 : UInt64)), .second] [(.long (4611686018427387904 : Int64))])) _
    refine XS.bipush X2.here hx rfl (hb hby d15_8) ?_
    show Steps p.tables e below ((T0.setVm vm2).setTop (mkF m 10 #[.val (.double (4611686018427387904 : UInt64)), .second] [(.int (52 : Int32)), (.long (4611686018427387904 : Int64))])) _
    refine XS.lshr X2.here hx rfl (hb hby d15_10) rfl ?_
    exact kt)
  rw [(by decide +kernel : ((4611686018427387904 : Int64) >>> ((52 : Int32) &&& 0x3f).toInt64) = (1024 : Int64))] at K4
  have K5 : Gx p e below T0 f0 (T0.setVm vm2) (mkF m 16 #[.val (.double (4611686018427387904 : UInt64)), .second] [(.int ((1 : Int64).toInt32))]) := fun t kt => K4 t (by
    show Steps p.tables e below ((T0.setVm vm2).setTop (mkF m 11 #[.val (.double (4611686018427387904 : UInt64)), .second] [(.long (1024 : Int64))])) _
    refine X2.ldc2Long hx hown (mvT hZ (hw _ (List.mem_of_getElem? (i := 76) rfl))) (g := (mkF m 11 #[.val (.double (4611686018427387904 : UInt64)), .second] [(.long (1024 : Int64))])) rfl (hb hby d15_11) _ ?_
    show Steps p.tables e below ((T0.setVm vm2).setTop (mkF m 14 #[.val (.double (4611686018427387904 : UInt64)), .second] [(.long (1023 : Int64)), (.long (1024 : Int64))])) _
    refine XS.lsub X2.here hx rfl (hb hby d15_14) rfl ?_
    show Steps p.tables e below ((T0.setVm vm2).setTop (mkF m 15 #[.val (.double (4611686018427387904 : UInt64)), .second] [(.long (1 : Int64))])) _
    refine XS.l2i X2.here hx rfl (hb hby d15_15) rfl ?_
    exact kt)
  rw [(by decide +kernel : ((1 : Int64).toInt32) = (1 : Int32))] at K5
  refine ⟨vm2, hW2, fun acts => ?_⟩
  rw [rawEnter hcur hW acts hm hc hlk (by omega) (by rw [hml]; omega), hml, he]
  have e0 : Stt U vm (.java (mkF m 0 #[.val (.double (4611686018427387904 : UInt64)), .second] []) :: F) = T0.setTop f0 := by rw [hT0, Stt_setTop hcur, hf0]
  rw [e0]
  refine K5 _ (X2.retI hx hm hret (hb hby d15_16) (fun f acts q1 q2 q3 => ?_))
  rw [hT0]
  exact rawLeave hcur hW2 hm hlk (hfs _ _ hW2) acts q1 q2 q3
set_option maxRecDepth 65536 in
set_option maxHeartbeats 40000000 in
theorem rawFoc2 {p : Program} {l : Launch} {e : Env} {below : List Frame} {s U : State} {mU : MethodId} {cU : Code} {Z : State} {a0 : Array Value} {h : Heap} (hw : ∀ d ∈ tables_1, d.before a0 Z = true) (hx : p.tables.exec = Jvm.exec) (hZ : Z.Warmed39 s.vm) (adm : l.admits e) (hU : At U mU cU below) (eU : U.heap = h) (SA : Sta Z h "java/lang/StrictMath" "$assertionsDisabled" "Z" (.int (1 : Int32))) {vm : Vm} {F fs : List Frame} {m : MethodId} (hn : s.methodNamed? (⟨"java/lang/StrictMath", "floorOrCeil", "(DDDD)D"⟩ : MethodName) = some m) (hW : s.WarmedH vm) (hab : ∃ mid, F = mid ++ below)
    (hq1 : F.length + 2 < (e.platform.stackLimits U.me).1) (hq2 : (stackUse F).2 + 26 + 28 ≤ (e.platform.stackLimits U.me).2) (hfs : ∀ vm' f, s.WarmedH vm' → handOver (Stt U vm' (.java f :: F)) (some (.double (4611686018427387904 : UInt64))) F = some fs) :
    ∃ vm', s.WarmedH vm' ∧ ∀ acts, Steps p.tables e below (doInvoke e (Stt U vm F) acts m #[(.double (4611686018427387904 : UInt64)), (.double (9223372036854775808 : UInt64)), (.double (4607182418800017408 : UInt64)), (.double (4607182418800017408 : UInt64))]).1 (Stt U vm' fs) := by
  have hcur := State.cur_lt_of_top hU.top
  obtain ⟨meth, c, hm, hc, hby, hml, hret, hlk, -, -⟩ := Cond.code_spec hn (mvT hZ (hw _ (List.mem_of_getElem? (i := 67) rfl)) (args := #[]))
  have hown : s.vm.findClass "java/lang/StrictMath" = some m.cls := findClass_of_methodNamed hn
  have he : entryFrame m #[(.double (4611686018427387904 : UInt64)), (.double (9223372036854775808 : UInt64)), (.double (4607182418800017408 : UInt64)), (.double (4607182418800017408 : UInt64))] 15 = (mkF m 0 #[.val (.double (4611686018427387904 : UInt64)), .second, .val (.double (9223372036854775808 : UInt64)), .second, .val (.double (4607182418800017408 : UInt64)), .second, .val (.double (4607182418800017408 : UInt64)), .second, .unset, .unset, .unset, .unset, .unset, .unset, .unset] []) := by first | (simp [entryFrame, mkF, argsToLocals, Value.category]; done) | rfl
  obtain ⟨f0, hf0⟩ : ∃ f, f = (mkF m 0 #[.val (.double (4611686018427387904 : UInt64)), .second, .val (.double (9223372036854775808 : UInt64)), .second, .val (.double (4607182418800017408 : UInt64)), .second, .val (.double (4607182418800017408 : UInt64)), .second, .unset, .unset, .unset, .unset, .unset, .unset, .unset] []) := ⟨_, rfl⟩
  obtain ⟨T0, hT0⟩ : ∃ T, T = Stt U vm (.java f0 :: F) := ⟨_, rfl⟩
  have X0 : Nst l e s below T0 m c := by rw [hT0]; exact ⟨adm, Stt_at hU hW hab hn hm hc pf_14, hW⟩
  have hTF : T0.frames.tail = F := by rw [hT0, Stt_frames hcur]; rfl
  have hTL : e.platform.stackLimits T0.me = (e.platform.stackLimits U.me) := by rw [hT0]; exact Stt_lim
  have hTH : T0.heap = h := by rw [hT0]; exact eU
  have K0 : Gx p e below T0 f0 T0 (mkF m 0 #[.val (.double (4611686018427387904 : UInt64)), .second, .val (.double (9223372036854775808 : UInt64)), .second, .val (.double (4607182418800017408 : UInt64)), .second, .val (.double (4607182418800017408 : UInt64)), .second, .unset, .unset, .unset, .unset, .unset, .unset, .unset] []) := fun t kt => by rw [hf0]; exact kt
  have K1 : Gx p e below T0 f0 T0 (mkF m 1 #[.val (.double (4611686018427387904 : UInt64)), .second, .val (.double (9223372036854775808 : UInt64)), .second, .val (.double (4607182418800017408 : UInt64)), .second, .val (.double (4607182418800017408 : UInt64)), .second, .unset, .unset, .unset, .unset, .unset, .unset, .unset] [(.double (4611686018427387904 : UInt64))]) := fun t kt => K0 t (by
    show Steps p.tables e below (T0.setTop (mkF m 0 #[.val (.double (4611686018427387904 : UInt64)), .second, .val (.double (9223372036854775808 : UInt64)), .second, .val (.double (4607182418800017408 : UInt64)), .second, .val (.double (4607182418800017408 : UInt64)), .second, .unset, .unset, .unset, .unset, .unset, .unset, .unset] [])) _
    refine XS.dloadN X0.here hx rfl (hb hby d14_0) rfl ?_
    exact kt)
  obtain ⟨mk2, hn2⟩ : ∃ k, s.methodNamed? (⟨"java/lang/Math", "getExponent", "(D)I"⟩ : MethodName) = some k := Cond.code_named (mvT hZ (hw _ (List.mem_of_getElem? (i := 70) rfl)) (args := #[]))
  obtain ⟨me2, cd2, hm2, hc2, -, -, -, -, -, hsg2⟩ := Cond.code_spec hn2 (mvT hZ (hw _ (List.mem_of_getElem? (i := 70) rfl)) (args := #[]))
  obtain ⟨kc2, hk2, -⟩ := className_of_methodNamed hn2
  have hst2 : me2.isStatic = true := own_static hn2 hm2 (mvT hZ (hw _ (List.mem_of_getElem? (i := 69) rfl)) (args := #[]))
  have hin2 : kc2.init = .initialized := Cond.initialized_spec (findClass_of_methodNamed hn2) hk2 (mvT hZ (hw _ (List.mem_of_getElem? (i := 55) rfl)) (args := #[]))
  obtain ⟨vm2, hW2, st2⟩ := X0.static hx hown (mvT hZ (hw _ (List.mem_of_getElem? (i := 68) rfl)) (args := #[])) hn2 hm2 hst2 hk2 hin2 (by decide) (g := (mkF m 1 #[.val (.double (4611686018427387904 : UInt64)), .second, .val (.double (9223372036854775808 : UInt64)), .second, .val (.double (4607182418800017408 : UInt64)), .second, .val (.double (4607182418800017408 : UInt64)), .second, .unset, .unset, .unset, .unset, .unset, .unset, .unset] [(.double (4611686018427387904 : UInt64))])) rfl (argsL := [(.double (4611686018427387904 : UInt64))]) (rest := []) (lenOf pd__D_I rfl _ hsg2) rfl (hb hby d14_1)
  have hab2 : ∃ mid, .java (mkF m 1 #[.val (.double (4611686018427387904 : UInt64)), .second, .val (.double (9223372036854775808 : UInt64)), .second, .val (.double (4607182418800017408 : UInt64)), .second, .val (.double (4607182418800017408 : UInt64)), .second, .unset, .unset, .unset, .unset, .unset, .unset, .unset] []) :: F = mid ++ below := by obtain ⟨mid, q⟩ := hab; exact ⟨.java (mkF m 1 #[.val (.double (4611686018427387904 : UInt64)), .second, .val (.double (9223372036854775808 : UInt64)), .second, .val (.double (4607182418800017408 : UInt64)), .second, .val (.double (4607182418800017408 : UInt64)), .second, .unset, .unset, .unset, .unset, .unset, .unset, .unset] []) :: mid, by rw [q]; rfl⟩
  have hu2 : (stackUse (.java (mkF m 1 #[.val (.double (4611686018427387904 : UInt64)), .second, .val (.double (9223372036854775808 : UInt64)), .second, .val (.double (4607182418800017408 : UInt64)), .second, .val (.double (4607182418800017408 : UInt64)), .second, .unset, .unset, .unset, .unset, .unset, .unset, .unset] []) :: F)).2 = (stackUse F).2 + 26 := by rw [stackUse_java]; rfl
  obtain ⟨vn2, hV2, sn2⟩ := rawGex2 hw hx hZ adm hU eU (F := .java (mkF m 1 #[.val (.double (4611686018427387904 : UInt64)), .second, .val (.double (9223372036854775808 : UInt64)), .second, .val (.double (4607182418800017408 : UInt64)), .second, .val (.double (4607182418800017408 : UInt64)), .second, .unset, .unset, .unset, .unset, .unset, .unset, .unset] []) :: F) (vm := vm2) (fs := .java (mkF m 4 #[.val (.double (4611686018427387904 : UInt64)), .second, .val (.double (9223372036854775808 : UInt64)), .second, .val (.double (4607182418800017408 : UInt64)), .second, .val (.double (4607182418800017408 : UInt64)), .second, .unset, .unset, .unset, .unset, .unset, .unset, .unset] [(.int (1 : Int32))]) :: F) hn2 hW2 hab2 (by rw [List.length_cons]; omega) (by rw [hu2]; omega) (fun vm' f hW' => handJ (g := (mkF m 1 #[.val (.double (4611686018427387904 : UInt64)), .second, .val (.double (9223372036854775808 : UInt64)), .second, .val (.double (4607182418800017408 : UInt64)), .second, .val (.double (4607182418800017408 : UInt64)), .second, .unset, .unset, .unset, .unset, .unset, .unset, .unset] [])) (v := (.int (1 : Int32))) (by show vm'.method? m = _; rw [hW'.alike.method?]; exact hm) hc (hb hby d14_1))
  obtain ⟨T2, hT2⟩ : ∃ T, T = Stt U vn2 (.java (mkF m 4 #[.val (.double (4611686018427387904 : UInt64)), .second, .val (.double (9223372036854775808 : UInt64)), .second, .val (.double (4607182418800017408 : UInt64)), .second, .val (.double (4607182418800017408 : UInt64)), .second, .unset, .unset, .unset, .unset, .unset, .unset, .unset] [(.int (1 : Int32))]) :: F) := ⟨_, rfl⟩
  have X2 : Nst l e s below T2 m c := by rw [hT2]; exact ⟨adm, Stt_at hU hV2 hab hn hm hc pf_14, hV2⟩
  have tf2 : T2.frames.tail = F := by rw [hT2, Stt_frames hcur]; rfl
  have tl2 : e.platform.stackLimits T2.me = e.platform.stackLimits U.me := by rw [hT2]; exact Stt_lim
  have th2 : T2.heap = h := by rw [hT2]; exact eU
  have K3 : Gx p e below T0 f0 T2 (mkF m 4 #[.val (.double (4611686018427387904 : UInt64)), .second, .val (.double (9223372036854775808 : UInt64)), .second, .val (.double (4607182418800017408 : UInt64)), .second, .val (.double (4607182418800017408 : UInt64)), .second, .unset, .unset, .unset, .unset, .unset, .unset, .unset] [(.int (1 : Int32))]) := fun t kt => K1 t (st2 t fun acts => by
    have e1 : (T0.setVm vm2).setTop (mkF m 1 #[.val (.double (4611686018427387904 : UInt64)), .second, .val (.double (9223372036854775808 : UInt64)), .second, .val (.double (4607182418800017408 : UInt64)), .second, .val (.double (4607182418800017408 : UInt64)), .second, .unset, .unset, .unset, .unset, .unset, .unset, .unset] []) = Stt U vm2 (.java (mkF m 1 #[.val (.double (4611686018427387904 : UInt64)), .second, .val (.double (9223372036854775808 : UInt64)), .second, .val (.double (4607182418800017408 : UInt64)), .second, .val (.double (4607182418800017408 : UInt64)), .second, .unset, .unset, .unset, .unset, .unset, .unset, .unset] []) :: F) := by rw [hT0]; exact Stt_setTop hcur
    have e2 : T2.setTop (mkF m 4 #[.val (.double (4611686018427387904 : UInt64)), .second, .val (.double (9223372036854775808 : UInt64)), .second, .val (.double (4607182418800017408 : UInt64)), .second, .val (.double (4607182418800017408 : UInt64)), .second, .unset, .unset, .unset, .unset, .unset, .unset, .unset] [(.int (1 : Int32))]) = Stt U vn2 (.java (mkF m 4 #[.val (.double (4611686018427387904 : UInt64)), .second, .val (.double (9223372036854775808 : UInt64)), .second, .val (.double (4607182418800017408 : UInt64)), .second, .val (.double (4607182418800017408 : UInt64)), .second, .unset, .unset, .unset, .unset, .unset, .unset, .unset] [(.int (1 : Int32))]) :: F) := by rw [hT2]; exact Stt_setTop hcur
    rw [e2] at kt
    show Steps p.tables e below (doInvoke e ((T0.setVm vm2).setTop (mkF m 1 #[.val (.double (4611686018427387904 : UInt64)), .second, .val (.double (9223372036854775808 : UInt64)), .second, .val (.double (4607182418800017408 : UInt64)), .second, .val (.double (4607182418800017408 : UInt64)), .second, .unset, .unset, .unset, .unset, .unset, .unset, .unset] [])) acts mk2 #[(.double (4611686018427387904 : UInt64))]).1 t
    rw [e1]; exact (sn2 acts).trans kt)
  have K4 : Gx p e below T0 f0 T2 (mkF m 43 #[.val (.double (4611686018427387904 : UInt64)), .second, .val (.double (9223372036854775808 : UInt64)), .second, .val (.double (4607182418800017408 : UInt64)), .second, .val (.double (4607182418800017408 : UInt64)), .second, .val (.int (1 : Int32)), .unset, .unset, .unset, .unset, .unset, .unset] []) := fun t kt => K3 t (by
    show Steps p.tables e below (T2.setTop (mkF m 4 #[.val (.double (4611686018427387904 : UInt64)), .second, .val (.double (9223372036854775808 : UInt64)), .second, .val (.double (4607182418800017408 : UInt64)), .second, .val (.double (4607182418800017408 : UInt64)), .second, .unset, .unset, .unset, .unset, .unset, .unset, .unset] [(.int (1 : Int32))])) _
    refine XS.istore X2.here hx rfl (hb hby d14_4) rfl (l' := #[.val (.double (4611686018427387904 : UInt64)), .second, .val (.double (9223372036854775808 : UInt64)), .second, .val (.double (4607182418800017408 : UInt64)), .second, .val (.double (4607182418800017408 : UInt64)), .second, .val (.int (1 : Int32)), .unset, .unset, .unset, .unset, .unset, .unset]) rfl ?_
    show Steps p.tables e below (T2.setTop (mkF m 6 #[.val (.double (4611686018427387904 : UInt64)), .second, .val (.double (9223372036854775808 : UInt64)), .second, .val (.double (4607182418800017408 : UInt64)), .second, .val (.double (4607182418800017408 : UInt64)), .second, .val (.int (1 : Int32)), .unset, .unset, .unset, .unset, .unset, .unset] [])) _
    refine XS.iload X2.here hx rfl (hb hby d14_6) rfl ?_
    show Steps p.tables e below (T2.setTop (mkF m 8 #[.val (.double (4611686018427387904 : UInt64)), .second, .val (.double (9223372036854775808 : UInt64)), .second, .val (.double (4607182418800017408 : UInt64)), .second, .val (.double (4607182418800017408 : UInt64)), .second, .val (.int (1 : Int32)), .unset, .unset, .unset, .unset, .unset, .unset] [(.int (1 : Int32))])) _
    refine XS.ifYes X2.here hx rfl (pc0 := 8) (pc' := 34) rfl (hb hby d14_8) rfl ((if0 _ _).trans (flt (by decide)).2.1) (by decide) (by decide) ?_
    show Steps p.tables e below (T2.setTop (mkF m 34 #[.val (.double (4611686018427387904 : UInt64)), .second, .val (.double (9223372036854775808 : UInt64)), .second, .val (.double (4607182418800017408 : UInt64)), .second, .val (.double (4607182418800017408 : UInt64)), .second, .val (.int (1 : Int32)), .unset, .unset, .unset, .unset, .unset, .unset] [])) _
    refine XS.iload X2.here hx rfl (hb hby d14_34) rfl ?_
    show Steps p.tables e below (T2.setTop (mkF m 36 #[.val (.double (4611686018427387904 : UInt64)), .second, .val (.double (9223372036854775808 : UInt64)), .second, .val (.double (4607182418800017408 : UInt64)), .second, .val (.double (4607182418800017408 : UInt64)), .second, .val (.int (1 : Int32)), .unset, .unset, .unset, .unset, .unset, .unset] [(.int (1 : Int32))])) _
    refine XS.bipush X2.here hx rfl (hb hby d14_36) ?_
    show Steps p.tables e below (T2.setTop (mkF m 38 #[.val (.double (4611686018427387904 : UInt64)), .second, .val (.double (9223372036854775808 : UInt64)), .second, .val (.double (4607182418800017408 : UInt64)), .second, .val (.double (4607182418800017408 : UInt64)), .second, .val (.int (1 : Int32)), .unset, .unset, .unset, .unset, .unset, .unset] [(.int (52 : Int32)), (.int (1 : Int32))])) _
    refine XS.icmpYes X2.here hx rfl (pc0 := 38) (pc' := 43) rfl (hb hby d14_38) rfl (tlt (by decide)).1 (by decide) (by decide) ?_
    exact kt)
  obtain ⟨vm5, hW5, st5⟩ := X2.getS hx hZ hown (hw _ (List.mem_of_getElem? (i := 80) rfl)) th2 SA (g := (mkF m 43 #[.val (.double (4611686018427387904 : UInt64)), .second, .val (.double (9223372036854775808 : UInt64)), .second, .val (.double (4607182418800017408 : UInt64)), .second, .val (.double (4607182418800017408 : UInt64)), .second, .val (.int (1 : Int32)), .unset, .unset, .unset, .unset, .unset, .unset] [])) rfl (hb hby d14_43)
  have X5 : Nst l e s below (T2.setVm vm5) m c := X2.setVm hW5
  have K6 : Gx p e below T0 f0 (T2.setVm vm5) (mkF m 46 #[.val (.double (4611686018427387904 : UInt64)), .second, .val (.double (9223372036854775808 : UInt64)), .second, .val (.double (4607182418800017408 : UInt64)), .second, .val (.double (4607182418800017408 : UInt64)), .second, .val (.int (1 : Int32)), .unset, .unset, .unset, .unset, .unset, .unset] [(.int (1 : Int32))]) := fun t kt => K4 t (st5 t kt)
  have K7 : Gx p e below T0 f0 (T2.setVm vm5) (mkF m 70 #[.val (.double (4611686018427387904 : UInt64)), .second, .val (.double (9223372036854775808 : UInt64)), .second, .val (.double (4607182418800017408 : UInt64)), .second, .val (.double (4607182418800017408 : UInt64)), .second, .val (.int (1 : Int32)), .unset, .unset, .unset, .unset, .unset, .unset] [(.double (4611686018427387904 : UInt64))]) := fun t kt => K6 t (by
    show Steps p.tables e below ((T2.setVm vm5).setTop (mkF m 46 #[.val (.double (4611686018427387904 : UInt64)), .second, .val (.double (9223372036854775808 : UInt64)), .second, .val (.double (4607182418800017408 : UInt64)), .second, .val (.double (4607182418800017408 : UInt64)), .second, .val (.int (1 : Int32)), .unset, .unset, .unset, .unset, .unset, .unset] [(.int (1 : Int32))])) _
    refine XS.ifYes X5.here hx rfl (pc0 := 46) (pc' := 69) rfl (hb hby d14_46) rfl ((if0 _ _).trans (feq (by decide)).2) (by decide) (by decide) ?_
    show Steps p.tables e below ((T2.setVm vm5).setTop (mkF m 69 #[.val (.double (4611686018427387904 : UInt64)), .second, .val (.double (9223372036854775808 : UInt64)), .second, .val (.double (4607182418800017408 : UInt64)), .second, .val (.double (4607182418800017408 : UInt64)), .second, .val (.int (1 : Int32)), .unset, .unset, .unset, .unset, .unset, .unset] [])) _
    refine XS.dloadN X5.here hx rfl (hb hby d14_69) rfl ?_
    exact kt)
  obtain ⟨vm8, hW8, st8⟩ := X5.native hx hown (mvT hZ (hw _ (List.mem_of_getElem? (i := 81) rfl)) (args := #[])) (mvT hZ (hw _ (List.mem_of_getElem? (i := 74) rfl))) (mvT hZ (hw _ (List.mem_of_getElem? (i := 72) rfl))) (mvT hZ (hw _ (List.mem_of_getElem? (i := 73) rfl))) (g := (mkF m 70 #[.val (.double (4611686018427387904 : UInt64)), .second, .val (.double (9223372036854775808 : UInt64)), .second, .val (.double (4607182418800017408 : UInt64)), .second, .val (.double (4607182418800017408 : UInt64)), .second, .val (.int (1 : Int32)), .unset, .unset, .unset, .unset, .unset, .unset] [(.double (4611686018427387904 : UInt64))])) rfl (rest := []) (b := (4611686018427387904 : UInt64)) rfl (hb hby d14_70) (w := 26) tf2 tl2 (by omega) (by omega) (Nat.le_of_eq rfl)
  have X8 : Nst l e s below ((T2.setVm vm5).setVm vm8) m c := X5.setVm hW8
  have K9 : Gx p e below T0 f0 ((T2.setVm vm5).setVm vm8) (mkF m 73 #[.val (.double (4611686018427387904 : UInt64)), .second, .val (.double (9223372036854775808 : UInt64)), .second, .val (.double (4607182418800017408 : UInt64)), .second, .val (.double (4607182418800017408 : UInt64)), .second, .val (.int (1 : Int32)), .unset, .unset, .unset, .unset, .unset, .unset] [(.long ((4611686018427387904 : UInt64).toInt64))]) := fun t kt => K7 t (st8 t kt)
  rw [(by decide +kernel : ((4611686018427387904 : UInt64).toInt64) = (4611686018427387904 : Int64))] at K9
  have K10 : Gx p e below T0 f0 ((T2.setVm vm5).setVm vm8) (mkF m 81 #[.val (.double (4611686018427387904 : UInt64)), .second, .val (.double (9223372036854775808 : UInt64)), .second, .val (.double (4607182418800017408 : UInt64)), .second, .val (.double (4607182418800017408 : UInt64)), .second, .val (.int (1 : Int32)), .val (.long (4611686018427387904 : Int64)), .second, .unset, .unset, .unset, .unset] [(.long ((4503599627370495 : Int64) >>> ((1 : Int32) &&& 0x3f).toInt64))]) := fun t kt => K9 t (by
    show Steps p.tables e below (((T2.setVm vm5).setVm vm8).setTop (mkF m 73 #[.val (.double (4611686018427387904 : UInt64)), .second, .val (.double (9223372036854775808 : UInt64)), .second, .val (.double (4607182418800017408 : UInt64)), .second, .val (.double (4607182418800017408 : UInt64)), .second, .val (.int (1 : Int32)), .unset, .unset, .unset, .unset, .unset, .unset] [(.long (4611686018427387904 : Int64))])) _
    refine XS.lstore X8.here hx rfl (hb hby d14_73) rfl (l' := #[.val (.double (4611686018427387904 : UInt64)), .second, .val (.double (9223372036854775808 : UInt64)), .second, .val (.double (4607182418800017408 : UInt64)), .second, .val (.double (4607182418800017408 : UInt64)), .second, .val (.int (1 : Int32)), .val (.long (4611686018427387904 : Int64)), .second, .unset, .unset, .unset, .unset]) rfl ?_
    show Steps p.tables e below (((T2.setVm vm5).setVm vm8).setTop (mkF m 75 #[.val (.double (4611686018427387904 : UInt64)), .second, .val (.double (9223372036854775808 : UInt64)), .second, .val (.double (4607182418800017408 : UInt64)), .second, .val (.double (4607182418800017408 : UInt64)), .second, .val (.int (1 : Int32)), .val (.long (4611686018427387904 : Int64)), .second, .unset, .unset, .unset, .unset] [])) _
    refine X8.ldc2Long hx hown (mvT hZ (hw _ (List.mem_of_getElem? (i := 82) rfl))) (g := (mkF m 75 #[.val (.double (4611686018427387904 : UInt64)), .second, .val (.double (9223372036854775808 : UInt64)), .second, .val (.double (4607182418800017408 : UInt64)), .second, .val (.double (4607182418800017408 : UInt64)), .second, .val (.int (1 : Int32)), .val (.long (4611686018427387904 : Int64)), .second, .unset, .unset, .unset, .unset] [])) rfl (hb hby d14_75) _ ?_
    show Steps p.tables e below (((T2.setVm vm5).setVm vm8).setTop (mkF m 78 #[.val (.double (4611686018427387904 : UInt64)), .second, .val (.double (9223372036854775808 : UInt64)), .second, .val (.double (4607182418800017408 : UInt64)), .second, .val (.double (4607182418800017408 : UInt64)), .second, .val (.int (1 : Int32)), .val (.long (4611686018427387904 : Int64)), .second, .unset, .unset, .unset, .unset] [(.long (4503599627370495 : Int64))])) _
    refine XS.iload X8.here hx rfl (hb hby d14_78) rfl ?_
    show Steps p.tables e below (((T2.setVm vm5).setVm vm8).setTop (mkF m 80 #[.val (.double (4611686018427387904 : UInt64)), .second, .val (.double (9223372036854775808 : UInt64)), .second, .val (.double (4607182418800017408 : UInt64)), .second, .val (.double (4607182418800017408 : UInt64)), .second, .val (.int (1 : Int32)), .val (.long (4611686018427387904 : Int64)), .second, .unset, .unset, .unset, .unset] [(.int (1 : Int32)), (.long (4503599627370495 : Int64))])) _
    refine XS.lshr X8.here hx rfl (hb hby d14_80) rfl ?_
    exact kt)
  rw [(by decide +kernel : ((4503599627370495 : Int64) >>> ((1 : Int32) &&& 0x3f).toInt64) = (2251799813685247 : Int64))] at K10
  have K11 : Gx p e below T0 f0 ((T2.setVm vm5).setVm vm8) (mkF m 94 #[.val (.double (4611686018427387904 : UInt64)), .second, .val (.double (9223372036854775808 : UInt64)), .second, .val (.double (4607182418800017408 : UInt64)), .second, .val (.double (4607182418800017408 : UInt64)), .second, .val (.int (1 : Int32)), .val (.long (4611686018427387904 : Int64)), .second, .val (.long (2251799813685247 : Int64)), .second, .unset, .unset] [(.double (4611686018427387904 : UInt64))]) := fun t kt => K10 t (by
    show Steps p.tables e below (((T2.setVm vm5).setVm vm8).setTop (mkF m 81 #[.val (.double (4611686018427387904 : UInt64)), .second, .val (.double (9223372036854775808 : UInt64)), .second, .val (.double (4607182418800017408 : UInt64)), .second, .val (.double (4607182418800017408 : UInt64)), .second, .val (.int (1 : Int32)), .val (.long (4611686018427387904 : Int64)), .second, .unset, .unset, .unset, .unset] [(.long (2251799813685247 : Int64))])) _
    refine XS.lstore X8.here hx rfl (hb hby d14_81) rfl (l' := #[.val (.double (4611686018427387904 : UInt64)), .second, .val (.double (9223372036854775808 : UInt64)), .second, .val (.double (4607182418800017408 : UInt64)), .second, .val (.double (4607182418800017408 : UInt64)), .second, .val (.int (1 : Int32)), .val (.long (4611686018427387904 : Int64)), .second, .val (.long (2251799813685247 : Int64)), .second, .unset, .unset]) rfl ?_
    show Steps p.tables e below (((T2.setVm vm5).setVm vm8).setTop (mkF m 83 #[.val (.double (4611686018427387904 : UInt64)), .second, .val (.double (9223372036854775808 : UInt64)), .second, .val (.double (4607182418800017408 : UInt64)), .second, .val (.double (4607182418800017408 : UInt64)), .second, .val (.int (1 : Int32)), .val (.long (4611686018427387904 : Int64)), .second, .val (.long (2251799813685247 : Int64)), .second, .unset, .unset] [])) _
    refine XS.lload X8.here hx rfl (hb hby d14_83) rfl ?_
    show Steps p.tables e below (((T2.setVm vm5).setVm vm8).setTop (mkF m 85 #[.val (.double (4611686018427387904 : UInt64)), .second, .val (.double (9223372036854775808 : UInt64)), .second, .val (.double (4607182418800017408 : UInt64)), .second, .val (.double (4607182418800017408 : UInt64)), .second, .val (.int (1 : Int32)), .val (.long (4611686018427387904 : Int64)), .second, .val (.long (2251799813685247 : Int64)), .second, .unset, .unset] [(.long (2251799813685247 : Int64))])) _
    refine XS.lload X8.here hx rfl (hb hby d14_85) rfl ?_
    show Steps p.tables e below (((T2.setVm vm5).setVm vm8).setTop (mkF m 87 #[.val (.double (4611686018427387904 : UInt64)), .second, .val (.double (9223372036854775808 : UInt64)), .second, .val (.double (4607182418800017408 : UInt64)), .second, .val (.double (4607182418800017408 : UInt64)), .second, .val (.int (1 : Int32)), .val (.long (4611686018427387904 : Int64)), .second, .val (.long (2251799813685247 : Int64)), .second, .unset, .unset] [(.long (4611686018427387904 : Int64)), (.long (2251799813685247 : Int64))])) _
    refine XS.land X8.here hx rfl (hb hby d14_87) rfl ?_
    show Steps p.tables e below (((T2.setVm vm5).setVm vm8).setTop (mkF m 88 #[.val (.double (4611686018427387904 : UInt64)), .second, .val (.double (9223372036854775808 : UInt64)), .second, .val (.double (4607182418800017408 : UInt64)), .second, .val (.double (4607182418800017408 : UInt64)), .second, .val (.int (1 : Int32)), .val (.long (4611686018427387904 : Int64)), .second, .val (.long (2251799813685247 : Int64)), .second, .unset, .unset] [(.long (0 : Int64))])) _
    refine XS.lconst X8.here hx rfl (hb hby d14_88) ?_
    show Steps p.tables e below (((T2.setVm vm5).setVm vm8).setTop (mkF m 89 #[.val (.double (4611686018427387904 : UInt64)), .second, .val (.double (9223372036854775808 : UInt64)), .second, .val (.double (4607182418800017408 : UInt64)), .second, .val (.double (4607182418800017408 : UInt64)), .second, .val (.int (1 : Int32)), .val (.long (4611686018427387904 : Int64)), .second, .val (.long (2251799813685247 : Int64)), .second, .unset, .unset] [(.long (0 : Int64)), (.long (0 : Int64))])) _
    refine XS.lcmp X8.here hx rfl (hb hby d14_89) rfl ?_
    show Steps p.tables e below (((T2.setVm vm5).setVm vm8).setTop (mkF m 90 #[.val (.double (4611686018427387904 : UInt64)), .second, .val (.double (9223372036854775808 : UInt64)), .second, .val (.double (4607182418800017408 : UInt64)), .second, .val (.double (4607182418800017408 : UInt64)), .second, .val (.int (1 : Int32)), .val (.long (4611686018427387904 : Int64)), .second, .val (.long (2251799813685247 : Int64)), .second, .unset, .unset] [(.int (lcmpW (0 : Int64) (0 : Int64)))])) _
    refine XS.ifNo X8.here hx rfl (hb hby d14_90) rfl ((if0 _ _).trans (teq (by decide)).2) ?_
    show Steps p.tables e below (((T2.setVm vm5).setVm vm8).setTop (mkF m 93 #[.val (.double (4611686018427387904 : UInt64)), .second, .val (.double (9223372036854775808 : UInt64)), .second, .val (.double (4607182418800017408 : UInt64)), .second, .val (.double (4607182418800017408 : UInt64)), .second, .val (.int (1 : Int32)), .val (.long (4611686018427387904 : Int64)), .second, .val (.long (2251799813685247 : Int64)), .second, .unset, .unset] [])) _
    refine XS.dloadN X8.here hx rfl (hb hby d14_93) rfl ?_
    exact kt)
  refine ⟨vm8, hW8, fun acts => ?_⟩
  rw [rawEnter hcur hW acts hm hc hlk (by omega) (by rw [hml]; omega), hml, he]
  have e0 : Stt U vm (.java (mkF m 0 #[.val (.double (4611686018427387904 : UInt64)), .second, .val (.double (9223372036854775808 : UInt64)), .second, .val (.double (4607182418800017408 : UInt64)), .second, .val (.double (4607182418800017408 : UInt64)), .second, .unset, .unset, .unset, .unset, .unset, .unset, .unset] []) :: F) = T0.setTop f0 := by rw [hT0, Stt_setTop hcur, hf0]
  rw [e0]
  refine K11 _ (X8.retD hx hm hret (hb hby d14_94) (fun f acts q1 q2 q3 => ?_))
  rw [hT2]
  exact rawLeave hcur hW8 hm hlk (hfs _ _ hW8) acts q1 q2 q3
set_option maxRecDepth 65536 in
set_option maxHeartbeats 40000000 in
theorem rawSce2 {p : Program} {l : Launch} {e : Env} {below : List Frame} {s U : State} {mU : MethodId} {cU : Code} {Z : State} {a0 : Array Value} {h : Heap} (hw : ∀ d ∈ tables_1, d.before a0 Z = true) (hx : p.tables.exec = Jvm.exec) (hZ : Z.Warmed39 s.vm) (adm : l.admits e) (hU : At U mU cU below) (eU : U.heap = h) (SA : Sta Z h "java/lang/StrictMath" "$assertionsDisabled" "Z" (.int (1 : Int32))) {vm : Vm} {F fs : List Frame} {m : MethodId} (hn : s.methodNamed? (⟨"java/lang/StrictMath", "ceil", "(D)D"⟩ : MethodName) = some m) (hW : s.WarmedH vm) (hab : ∃ mid, F = mid ++ below)
    (hq1 : F.length + 3 < (e.platform.stackLimits U.me).1) (hq2 : (stackUse F).2 + 13 + 54 ≤ (e.platform.stackLimits U.me).2) (hfs : ∀ vm' f, s.WarmedH vm' → handOver (Stt U vm' (.java f :: F)) (some (.double (4611686018427387904 : UInt64))) F = some fs) :
    ∃ vm', s.WarmedH vm' ∧ ∀ acts, Steps p.tables e below (doInvoke e (Stt U vm F) acts m #[(.double (4611686018427387904 : UInt64))]).1 (Stt U vm' fs) := by
  have hcur := State.cur_lt_of_top hU.top
  obtain ⟨meth, c, hm, hc, hby, hml, hret, hlk, -, -⟩ := Cond.code_spec hn (mvT hZ (hw _ (List.mem_of_getElem? (i := 63) rfl)) (args := #[]))
  have hown : s.vm.findClass "java/lang/StrictMath" = some m.cls := findClass_of_methodNamed hn
  have he : entryFrame m #[(.double (4611686018427387904 : UInt64))] 2 = (mkF m 0 #[.val (.double (4611686018427387904 : UInt64)), .second] []) := by first | (simp [entryFrame, mkF, argsToLocals, Value.category]; done) | rfl
  obtain ⟨f0, hf0⟩ : ∃ f, f = (mkF m 0 #[.val (.double (4611686018427387904 : UInt64)), .second] []) := ⟨_, rfl⟩
  obtain ⟨T0, hT0⟩ : ∃ T, T = Stt U vm (.java f0 :: F) := ⟨_, rfl⟩
  have X0 : Nst l e s below T0 m c := by rw [hT0]; exact ⟨adm, Stt_at hU hW hab hn hm hc pf_13, hW⟩
  have hTF : T0.frames.tail = F := by rw [hT0, Stt_frames hcur]; rfl
  have hTL : e.platform.stackLimits T0.me = (e.platform.stackLimits U.me) := by rw [hT0]; exact Stt_lim
  have hTH : T0.heap = h := by rw [hT0]; exact eU
  have K0 : Gx p e below T0 f0 T0 (mkF m 0 #[.val (.double (4611686018427387904 : UInt64)), .second] []) := fun t kt => by rw [hf0]; exact kt
  have K1 : Gx p e below T0 f0 T0 (mkF m 6 #[.val (.double (4611686018427387904 : UInt64)), .second] [(.double (4607182418800017408 : UInt64)), (.double (4607182418800017408 : UInt64)), (.double (9223372036854775808 : UInt64)), (.double (4611686018427387904 : UInt64))]) := fun t kt => K0 t (by
    show Steps p.tables e below (T0.setTop (mkF m 0 #[.val (.double (4611686018427387904 : UInt64)), .second] [])) _
    refine XS.dloadN X0.here hx rfl (hb hby d13_0) rfl ?_
    show Steps p.tables e below (T0.setTop (mkF m 1 #[.val (.double (4611686018427387904 : UInt64)), .second] [(.double (4611686018427387904 : UInt64))])) _
    refine X0.ldc2DoubleC hx hown (mvT hZ (hw _ (List.mem_of_getElem? (i := 64) rfl))) (g := (mkF m 1 #[.val (.double (4611686018427387904 : UInt64)), .second] [(.double (4611686018427387904 : UInt64))])) rfl (hb hby d13_1) _ ?_
    show Steps p.tables e below (T0.setTop (mkF m 4 #[.val (.double (4611686018427387904 : UInt64)), .second] [(.double (9223372036854775808 : UInt64)), (.double (4611686018427387904 : UInt64))])) _
    refine XS.dconst1 X0.here hx rfl (hb hby d13_4) (v := (4607182418800017408 : UInt64)) (by decide +kernel) ?_
    show Steps p.tables e below (T0.setTop (mkF m 5 #[.val (.double (4611686018427387904 : UInt64)), .second] [(.double (4607182418800017408 : UInt64)), (.double (9223372036854775808 : UInt64)), (.double (4611686018427387904 : UInt64))])) _
    refine XS.dconst1 X0.here hx rfl (hb hby d13_5) (v := (4607182418800017408 : UInt64)) (by decide +kernel) ?_
    exact kt)
  obtain ⟨mk2, hn2⟩ : ∃ k, s.methodNamed? (⟨"java/lang/StrictMath", "floorOrCeil", "(DDDD)D"⟩ : MethodName) = some k := Cond.code_named (mvT hZ (hw _ (List.mem_of_getElem? (i := 67) rfl)) (args := #[]))
  obtain ⟨me2, cd2, hm2, hc2, -, -, -, -, -, hsg2⟩ := Cond.code_spec hn2 (mvT hZ (hw _ (List.mem_of_getElem? (i := 67) rfl)) (args := #[]))
  obtain ⟨kc2, hk2, -⟩ := className_of_methodNamed hn2
  have hst2 : me2.isStatic = true := own_static hn2 hm2 (mvT hZ (hw _ (List.mem_of_getElem? (i := 66) rfl)) (args := #[]))
  have hin2 : kc2.init = .initialized := Cond.initialized_spec (findClass_of_methodNamed hn2) hk2 (mvT hZ (hw _ (List.mem_of_getElem? (i := 62) rfl)) (args := #[]))
  obtain ⟨vm2, hW2, st2⟩ := X0.static hx hown (mvT hZ (hw _ (List.mem_of_getElem? (i := 65) rfl)) (args := #[])) hn2 hm2 hst2 hk2 hin2 (by decide) (g := (mkF m 6 #[.val (.double (4611686018427387904 : UInt64)), .second] [(.double (4607182418800017408 : UInt64)), (.double (4607182418800017408 : UInt64)), (.double (9223372036854775808 : UInt64)), (.double (4611686018427387904 : UInt64))])) rfl (argsL := [(.double (4611686018427387904 : UInt64)), (.double (9223372036854775808 : UInt64)), (.double (4607182418800017408 : UInt64)), (.double (4607182418800017408 : UInt64))]) (rest := []) (lenOf pd__DDDD_D rfl _ hsg2) rfl (hb hby d13_6)
  have hab2 : ∃ mid, .java (mkF m 6 #[.val (.double (4611686018427387904 : UInt64)), .second] []) :: F = mid ++ below := by obtain ⟨mid, q⟩ := hab; exact ⟨.java (mkF m 6 #[.val (.double (4611686018427387904 : UInt64)), .second] []) :: mid, by rw [q]; rfl⟩
  have hu2 : (stackUse (.java (mkF m 6 #[.val (.double (4611686018427387904 : UInt64)), .second] []) :: F)).2 = (stackUse F).2 + 13 := by rw [stackUse_java]; rfl
  obtain ⟨vn2, hV2, sn2⟩ := rawFoc2 hw hx hZ adm hU eU SA (F := .java (mkF m 6 #[.val (.double (4611686018427387904 : UInt64)), .second] []) :: F) (vm := vm2) (fs := .java (mkF m 9 #[.val (.double (4611686018427387904 : UInt64)), .second] [(.double (4611686018427387904 : UInt64))]) :: F) hn2 hW2 hab2 (by rw [List.length_cons]; omega) (by rw [hu2]; omega) (fun vm' f hW' => handJ (g := (mkF m 6 #[.val (.double (4611686018427387904 : UInt64)), .second] [])) (v := (.double (4611686018427387904 : UInt64))) (by show vm'.method? m = _; rw [hW'.alike.method?]; exact hm) hc (hb hby d13_6))
  obtain ⟨T2, hT2⟩ : ∃ T, T = Stt U vn2 (.java (mkF m 9 #[.val (.double (4611686018427387904 : UInt64)), .second] [(.double (4611686018427387904 : UInt64))]) :: F) := ⟨_, rfl⟩
  have X2 : Nst l e s below T2 m c := by rw [hT2]; exact ⟨adm, Stt_at hU hV2 hab hn hm hc pf_13, hV2⟩
  have tf2 : T2.frames.tail = F := by rw [hT2, Stt_frames hcur]; rfl
  have tl2 : e.platform.stackLimits T2.me = e.platform.stackLimits U.me := by rw [hT2]; exact Stt_lim
  have th2 : T2.heap = h := by rw [hT2]; exact eU
  have K3 : Gx p e below T0 f0 T2 (mkF m 9 #[.val (.double (4611686018427387904 : UInt64)), .second] [(.double (4611686018427387904 : UInt64))]) := fun t kt => K1 t (st2 t fun acts => by
    have e1 : (T0.setVm vm2).setTop (mkF m 6 #[.val (.double (4611686018427387904 : UInt64)), .second] []) = Stt U vm2 (.java (mkF m 6 #[.val (.double (4611686018427387904 : UInt64)), .second] []) :: F) := by rw [hT0]; exact Stt_setTop hcur
    have e2 : T2.setTop (mkF m 9 #[.val (.double (4611686018427387904 : UInt64)), .second] [(.double (4611686018427387904 : UInt64))]) = Stt U vn2 (.java (mkF m 9 #[.val (.double (4611686018427387904 : UInt64)), .second] [(.double (4611686018427387904 : UInt64))]) :: F) := by rw [hT2]; exact Stt_setTop hcur
    rw [e2] at kt
    show Steps p.tables e below (doInvoke e ((T0.setVm vm2).setTop (mkF m 6 #[.val (.double (4611686018427387904 : UInt64)), .second] [])) acts mk2 #[(.double (4611686018427387904 : UInt64)), (.double (9223372036854775808 : UInt64)), (.double (4607182418800017408 : UInt64)), (.double (4607182418800017408 : UInt64))]).1 t
    rw [e1]; exact (sn2 acts).trans kt)
  refine ⟨vn2, hV2, fun acts => ?_⟩
  rw [rawEnter hcur hW acts hm hc hlk (by omega) (by rw [hml]; omega), hml, he]
  have e0 : Stt U vm (.java (mkF m 0 #[.val (.double (4611686018427387904 : UInt64)), .second] []) :: F) = T0.setTop f0 := by rw [hT0, Stt_setTop hcur, hf0]
  rw [e0]
  refine K3 _ (X2.retD hx hm hret (hb hby d13_9) (fun f acts q1 q2 q3 => ?_))
  rw [hT2]
  exact rawLeave hcur hV2 hm hlk (hfs _ _ hV2) acts q1 q2 q3
theorem pd__D_D : parseMethodDescriptor "(D)D" = some ⟨[.double], some .double⟩ := by decide +kernel
set_option maxRecDepth 65536 in
set_option maxHeartbeats 40000000 in
theorem ceilRaw0 {p : Program} {l : Launch} {e : Env} {R : Room} {s : State} {m : MethodId} {args : Array Value} {below : List Frame} {meth : Method} {c : Code} {T : State} {locs : List Loc} {cells slots : Nat} {h : Heap} {n0 : Nat} (X : Stand p l e R s m args below meth c T locs cells slots) (hx : p.tables.exec = Jvm.exec) (Z : State) (a0 : Array Value) (hw : ∀ d ∈ tables_1, d.before a0 Z = true) (hZ : Z.Warmed39 s.vm) (hown : s.vm.findClass "com/example/tideshift/tideshift/cli/LatencyHistogram" = some m.cls) (eT : T.heap = h) (O : Old Z n0 h) (SA0 : Sta Z Z.heap "java/lang/StrictMath" "$assertionsDisabled" "Z" (.int (1 : Int32))) {g : JFrame} (hg : g.method = m) (hsize : g.locals.size = c.maxLocals) {rest : List Value} (hst : g.stack = .double (0 : UInt64) :: rest) (hd : decode c.code g.pc = .ok (.invokestatic 41, 3)) (hfr : 6 ≤ R.frames) (hlo : 2 * g.monitorRoom + (rest.map fun v => v.category).sum + 100 ≤ R.locals) (hcl : cells ≤ R.cells) (hsl : slots ≤ R.slots) :
    ∃ T', Stand p l e R s m args below meth c T' locs cells slots ∧ T'.heap = h ∧ ∀ target, Steps p.tables e below (T'.setTop { g with pc := g.pc + 3, stack := .double (0 : UInt64) :: rest }) target → Steps p.tables e below (T.setTop g) target := by
  have SA := Sta.ext O.2 SA0
  obtain ⟨mM, hnM⟩ : ∃ k, s.methodNamed? (⟨"java/lang/Math", "ceil", "(D)D"⟩ : MethodName) = some k := Cond.code_named (mvT hZ (hw _ (List.mem_of_getElem? (i := 59) rfl)) (args := #[]))
  obtain ⟨meM, cM, hmM, hcM, -, hmlM, -, hlkM, -, hsgM⟩ := Cond.code_spec hnM (mvT hZ (hw _ (List.mem_of_getElem? (i := 59) rfl)) (args := #[]))
  obtain ⟨kM, hkM, hknM⟩ := className_of_methodNamed hnM
  obtain ⟨hmnM, hmdM⟩ := name_of_methodNamed hnM hmM
  have hstM : meM.isStatic = true := own_static hnM hmM (mvT hZ (hw _ (List.mem_of_getElem? (i := 58) rfl)) (args := #[]))
  have hinM : kM.init = .initialized := Cond.initialized_spec (findClass_of_methodNamed hnM) hkM (mvT hZ (hw _ (List.mem_of_getElem? (i := 55) rfl)) (args := #[]))
  obtain ⟨vm1, X1, st1⟩ := X.invokestatic hx hown (mvT hZ (hw _ (List.mem_of_getElem? (i := 57) rfl))) hnM hmM hstM hkM hinM (by decide) hg (argsL := [.double (0 : UInt64)]) (rest := rest) (lenOf pd__D_D rfl _ hsgM) hst hd
  obtain ⟨U, hUd⟩ : ∃ U, U = T.setVm vm1 := ⟨_, rfl⟩
  rw [← hUd] at X1 st1
  have eU : U.heap = h := by rw [hUd]; exact eT
  have hU : At U m c below := X1.here
  have hcur := State.cur_lt_of_top hU.top
  obtain ⟨gp, hgp⟩ : ∃ q : JFrame, q = { g with stack := rest } := ⟨_, rfl⟩
  rw [← hgp] at st1
  have hgm : gp.method = m := by rw [hgp]; exact hg
  have hroom : (U.calling gp mM #[.double (0 : UInt64)]).hasRoom e.platform { frames := 5, locals := 87, cells := 0, slots := 0 } = true :=
    X1.room_calling (by rw [hgp]; exact hsize) (by rw [X1.warmed.alike.method?]; exact hmM) hcM (by show 5 + 1 ≤ R.frames; omega) (by rw [hgp, hmlM]; show 2 * g.monitorRoom + (rest.map fun v => v.category).sum + (2 + 11) + 87 ≤ R.locals; omega) (by show cells + 0 ≤ R.cells; omega) (by show slots + 0 ≤ R.slots; omega)
  have hmU : U.vm.method? mM = some meM := by rw [X1.warmed.alike.method?]; exact hmM
  have hfc := State.frames_calling hU.top gp mM #[.double (0 : UInt64)]
  obtain ⟨-, r2, -, r4⟩ := State.hasRoom_stack hroom
  rw [State.localsInUse_invoking hfc (meth := meM) (c := cM) hmU hcM] at r4
  rw [hfc, X1.tail] at r2
  rw [X1.tail] at r4
  have hwt := stackUse_le_stackWeight (.java gp :: below)
  rw [State.calling_eq hU.top, State.stackLimits_setFrames] at r2 r4
  simp only [List.length_cons] at r2
  have hv : vmFrameWords = 1024 := rfl
  rw [hmlM, hv] at r4
  have eA : U.setTop gp = Stt U U.vm (.java gp :: below) := by
    obtain ⟨g₀, hg0⟩ := Option.isSome_iff_exists.mp hU.top
    obtain ⟨r, hr⟩ := State.topJava?_eq_some.mp hg0
    have hrb : r = below := by have := X1.tail; rw [hr] at this; exact this
    rw [State.setTop_of_frames _ hr, hrb]; rfl
  obtain ⟨kU, hkU, ekU⟩ := X1.warmed.alike.2.2 _ _ hkM
  have hbootM : kM.loader = none := Vm.bootOf_findClass (findClass_of_methodNamed hnM) hkM
  have hxM : kM.methods[mM.idx]? = some meM := by simpa [Vm.method?, hkM] using hmM
  have hbootU : kU.loader = none := by rw [ekU]; exact hbootM
  have hxU : kU.methods[mM.idx]? = some meM := by rw [ekU]; exact hxM
  have hknU : kU.name = "java/lang/Math" := by rw [ekU]; exact hknM
  obtain ⟨mS, hnS⟩ : ∃ k, s.methodNamed? (⟨"java/lang/StrictMath", "ceil", "(D)D"⟩ : MethodName) = some k := Cond.code_named (mvT hZ (hw _ (List.mem_of_getElem? (i := 63) rfl)) (args := #[]))
  obtain ⟨kS, hkS, -⟩ := className_of_methodNamed hnS
  have hfS : s.vm.findClass "java/lang/StrictMath" = some mS.cls := findClass_of_methodNamed hnS
  have hiS : kS.init = .initialized := Cond.initialized_spec hfS hkS (mvT hZ (hw _ (List.mem_of_getElem? (i := 62) rfl)) (args := #[]))
  have hmS : kS.findMethod "ceil" "(D)D" = some mS.idx := by
    have hq := hnS
    simp only [State.methodNamed?, Option.bind_eq_bind, Option.pure_def] at hq
    rw [hfS] at hq
    simp only [Option.bind_some, hkS] at hq
    cases hfm : kS.findMethod "ceil" "(D)D" with
    | none => rw [hfm] at hq; cases hq
    | some j => rw [hfm] at hq; simp at hq; rw [← hq]
  obtain ⟨kS', hkS', ekS⟩ := X1.warmed.alike.2.2 _ _ hkS
  obtain ⟨nf, hnf⟩ : ∃ q : NFrame, q = { method := mM, args := #[.double (0 : UInt64)], stage := 1, saved := #[], awaiting := true, answer := none, words := 0 } := ⟨_, rfl⟩
  obtain ⟨nf', hnf'⟩ : ∃ q : NFrame, q = { method := mM, args := #[.double (0 : UInt64)], stage := 1, saved := #[], awaiting := false, answer := some (.returned (some (.double (0 : UInt64)))), words := 0 } := ⟨_, rfl⟩
  have hus : (stackUse (.native nf :: .java gp :: below)).2 = (stackUse (.java gp :: below)).2 := by
    rw [stackUse_light _ _ (fun f q => by cases q) (by rw [hnf]; rfl)]
  obtain ⟨vm2, hW2, sn⟩ := rawSce0 hw hx hZ X1.admits hU eU SA (F := .native nf :: .java gp :: below) (vm := U.vm) (fs := .native nf' :: .java gp :: below) hnS X1.warmed ⟨[.native nf, .java gp], rfl⟩ (by simp only [List.length_cons]; omega) (by rw [hus]; omega) (fun vm' f _ => by rw [hnf, hnf']; rfl)
  refine ⟨U.setVm vm2, X1.noted hW2, eU, fun target hk => st1 target fun acts => ?_⟩
  show Steps p.tables e below (doInvoke e (U.setTop gp) acts mM #[.double (0 : UInt64)]).1 target
  rw [eA, rawEnter hcur X1.warmed acts hmM hcM hlkM (by simp only [List.length_cons]; omega) (by rw [hmlM]; omega), hmlM]
  obtain ⟨acts₂, hr2⟩ := Jvm.Free.Hsc.ceil_run (0 : UInt64) e (Stt U U.vm (.native { method := mM, args := #[.double (0 : UInt64)] } :: .java gp :: below)) (cS := mS.cls) (kS := kS') (i := mS.idx) (by show U.vm.findClass _ = _; rw [X1.warmed.alike.findClass]; exact hfS) hkS' (by rw [ekS]; exact hiS) (by rw [ekS]; exact hmS)
  have hf1 : (Stt U U.vm (.java (entryFrame mM #[.double (0 : UInt64)] 2) :: .java gp :: below)).frames = .java (entryFrame mM #[.double (0 : UInt64)] 2) :: .java gp :: below := Stt_frames hcur
  have hov : overridden p.tables e (Stt U U.vm (.java (entryFrame mM #[.double (0 : UInt64)] 2) :: .java gp :: below)) (entryFrame mM #[.double (0 : UInt64)] 2) = some Jvm.Free.Hsc.ceilRow :=
    Jvm.Free.Fl.Abs.overridden_some (k := kU) (x := meM) rfl hkU (by rw [hknU]; decide) hbootU hxU (by rw [hknU, hmnM, hmdM]; exact Jvm.Free.Hsc.ceil_row p)
  have hparams : meM.sig.parameters.length = 1 := (lenOf (L := [.double (0 : UInt64)]) pd__D_D rfl _ hsgM).symm
  have htake : ∀ n : Nat, List.take (1 + n) [Value.double (0 : UInt64)] = [Value.double (0 : UInt64)] := fun n => List.take_of_length_le (Nat.le_add_right 1 n)
  have hstep2 : (stepThread p.tables e (Stt U U.vm (.java (entryFrame mM #[.double (0 : UInt64)] 2) :: .java gp :: below))).1 = (doInvoke e (Stt U U.vm (.native nf :: .java gp :: below)) acts₂ mS #[.double (0 : UInt64)]).1 := by
    unfold stepThread
    simp only [hf1, hov]
    have hb2 : ∀ G : List Frame, ((Stt U U.vm G).vm.classes[mM.cls]?.bind fun y => y.methods[mM.idx]?) = some meM := by
      intro G
      show (U.vm.classes[mM.cls]?.bind fun y => y.methods[mM.idx]?) = some meM
      simp [hkU, hxU]
    have hb3 : (U.vm.classes[mM.cls]?.bind fun x => x.methods[mM.idx]?) = some meM := by simp [hkU, hxU]
    have hwords : ∀ G : List Frame, (((Stt U U.vm G).vm.classes[mM.cls]?).bind fun k => (k.methods[mM.idx]?).map fun n => upcallWords k.name n.name).getD 0 = 0 := by
      intro G
      show ((U.vm.classes[mM.cls]?).bind fun k => (k.methods[mM.idx]?).map fun n => upcallWords k.name n.name).getD 0 = 0
      simp [hkU, hxU, hknU, hmnM, upcallWords]
    have hw3 : ((U.vm.classes[mM.cls]?).bind fun k => Option.map (fun n => upcallWords k.name n.name) k.methods[mM.idx]?).getD 0 = 0 := by simp [hkU, hxU, hknU, hmnM, upcallWords]
    simp [entryFrame, argsToLocals, Value.category, argCount, hb2, hb3, hparams, htake, hr2, afterNative, hwords, hw3, Stt_setFrames, hnf]
  refine Steps.head ⟨hU.running, by simpa [Stt] using hU.runnable, by simpa [Stt] using hU.alone⟩ ⟨.java (entryFrame mM #[.double (0 : UInt64)] 2) :: [.java gp], by rw [hf1]; rfl, by simp, by simp⟩ ?_
  rw [hstep2]
  refine (sn acts₂).trans ?_
  obtain ⟨k2, hk2, ek2⟩ := hW2.alike.2.2 _ _ hkM
  obtain ⟨acts₃, hr3⟩ := Jvm.Free.Hsc.ceil_resume (r := (0 : UInt64)) (by decide) e (Stt U vm2 (.native nf' :: .java gp :: below))
  have hend : (Stt U vm2 (.native nf' :: .java gp :: below)).frames = .native nf' :: .java gp :: below := Stt_frames hcur
  have hfs2 : handOver (Stt U vm2 (.native nf' :: .java gp :: below)) (some (.double (0 : UInt64))) (.java gp :: below) = some (.java { gp with pc := gp.pc + 3, stack := .double (0 : UInt64) :: gp.stack } :: below) :=
    handJ (meth := meth) (c := c) (ig := .invokestatic 41) (by rw [hgm, hW2.alike.method?]; exact X1.method) X1.code (by rw [hgp]; exact hd)
  have hstep4 : (stepThread p.tables e (Stt U vm2 (.native nf' :: .java gp :: below))).1 = Stt U vm2 (.java { gp with pc := gp.pc + 3, stack := .double (0 : UInt64) :: gp.stack } :: below) := by
    rw [Jvm.Free.Hsc.stepThread_resumed' (f := nf') (k := k2) (x := meM) (row := Jvm.Free.Hsc.ceilRow) (o := .returned (some (.double (0 : UInt64)))) hend (by rw [hnf']; exact hk2) (by rw [ek2]; exact hbootM) (by rw [ek2, hnf']; exact hxM) (by rw [ek2, hmnM, hmdM]; show NativeRow.find? p.tables.natives kM.name _ _ = _; rw [hknM]; exact Jvm.Free.Hsc.ceil_row p) (by rw [hnf'])]
    have hsv : Jvm.Free.Hsc.ceilRow.resume nf'.stage nf'.saved (.returned (some (.double (0 : UInt64)))) = Jvm.Free.Hsc.ceilRow.resume 1 #[] (.returned (some (.double (0 : UInt64)))) := by rw [hnf']
    rw [hsv, hr3]
    show (doReturn e (Stt U vm2 (.native nf' :: .java gp :: below)) acts₃ (some (.double (0 : UInt64)))).1 = _
    rw [doReturn_native (f := nf') hend (by rw [hnf']) hfs2, Stt_setFrames]
  refine Steps.head ⟨hU.running, by simpa [Stt] using hU.runnable, by simpa [Stt] using hU.alone⟩ ⟨[.native nf', .java gp], by rw [hend]; rfl, by simp, by simp⟩ ?_
  rw [hstep4]
  have eB : (U.setVm vm2).setTop { g with pc := g.pc + 3, stack := .double (0 : UInt64) :: rest } = Stt U vm2 (.java { gp with pc := gp.pc + 3, stack := .double (0 : UInt64) :: gp.stack } :: below) := by
    obtain ⟨g₀, hg0⟩ := Option.isSome_iff_exists.mp hU.top
    obtain ⟨r, hr⟩ := State.topJava?_eq_some.mp hg0
    have hrb : r = below := by have := X1.tail; rw [hr] at this; exact this
    rw [State.setTop_of_frames (s := U.setVm vm2) _ (r := r) hr, hrb, hgp]; rfl
  rw [← eB]
  exact hk
set_option maxRecDepth 65536 in
set_option maxHeartbeats 40000000 in
theorem ceilRaw1 {p : Program} {l : Launch} {e : Env} {R : Room} {s : State} {m : MethodId} {args : Array Value} {below : List Frame} {meth : Method} {c : Code} {T : State} {locs : List Loc} {cells slots : Nat} {h : Heap} {n0 : Nat} (X : Stand p l e R s m args below meth c T locs cells slots) (hx : p.tables.exec = Jvm.exec) (Z : State) (a0 : Array Value) (hw : ∀ d ∈ tables_1, d.before a0 Z = true) (hZ : Z.Warmed39 s.vm) (hown : s.vm.findClass "com/example/tideshift/tideshift/cli/LatencyHistogram" = some m.cls) (eT : T.heap = h) (O : Old Z n0 h) (SA0 : Sta Z Z.heap "java/lang/StrictMath" "$assertionsDisabled" "Z" (.int (1 : Int32))) {g : JFrame} (hg : g.method = m) (hsize : g.locals.size = c.maxLocals) {rest : List Value} (hst : g.stack = .double (4607182418800017408 : UInt64) :: rest) (hd : decode c.code g.pc = .ok (.invokestatic 41, 3)) (hfr : 6 ≤ R.frames) (hlo : 2 * g.monitorRoom + (rest.map fun v => v.category).sum + 100 ≤ R.locals) (hcl : cells ≤ R.cells) (hsl : slots ≤ R.slots) :
    ∃ T', Stand p l e R s m args below meth c T' locs cells slots ∧ T'.heap = h ∧ ∀ target, Steps p.tables e below (T'.setTop { g with pc := g.pc + 3, stack := .double (4607182418800017408 : UInt64) :: rest }) target → Steps p.tables e below (T.setTop g) target := by
  have SA := Sta.ext O.2 SA0
  obtain ⟨mM, hnM⟩ : ∃ k, s.methodNamed? (⟨"java/lang/Math", "ceil", "(D)D"⟩ : MethodName) = some k := Cond.code_named (mvT hZ (hw _ (List.mem_of_getElem? (i := 59) rfl)) (args := #[]))
  obtain ⟨meM, cM, hmM, hcM, -, hmlM, -, hlkM, -, hsgM⟩ := Cond.code_spec hnM (mvT hZ (hw _ (List.mem_of_getElem? (i := 59) rfl)) (args := #[]))
  obtain ⟨kM, hkM, hknM⟩ := className_of_methodNamed hnM
  obtain ⟨hmnM, hmdM⟩ := name_of_methodNamed hnM hmM
  have hstM : meM.isStatic = true := own_static hnM hmM (mvT hZ (hw _ (List.mem_of_getElem? (i := 58) rfl)) (args := #[]))
  have hinM : kM.init = .initialized := Cond.initialized_spec (findClass_of_methodNamed hnM) hkM (mvT hZ (hw _ (List.mem_of_getElem? (i := 55) rfl)) (args := #[]))
  obtain ⟨vm1, X1, st1⟩ := X.invokestatic hx hown (mvT hZ (hw _ (List.mem_of_getElem? (i := 57) rfl))) hnM hmM hstM hkM hinM (by decide) hg (argsL := [.double (4607182418800017408 : UInt64)]) (rest := rest) (lenOf pd__D_D rfl _ hsgM) hst hd
  obtain ⟨U, hUd⟩ : ∃ U, U = T.setVm vm1 := ⟨_, rfl⟩
  rw [← hUd] at X1 st1
  have eU : U.heap = h := by rw [hUd]; exact eT
  have hU : At U m c below := X1.here
  have hcur := State.cur_lt_of_top hU.top
  obtain ⟨gp, hgp⟩ : ∃ q : JFrame, q = { g with stack := rest } := ⟨_, rfl⟩
  rw [← hgp] at st1
  have hgm : gp.method = m := by rw [hgp]; exact hg
  have hroom : (U.calling gp mM #[.double (4607182418800017408 : UInt64)]).hasRoom e.platform { frames := 5, locals := 87, cells := 0, slots := 0 } = true :=
    X1.room_calling (by rw [hgp]; exact hsize) (by rw [X1.warmed.alike.method?]; exact hmM) hcM (by show 5 + 1 ≤ R.frames; omega) (by rw [hgp, hmlM]; show 2 * g.monitorRoom + (rest.map fun v => v.category).sum + (2 + 11) + 87 ≤ R.locals; omega) (by show cells + 0 ≤ R.cells; omega) (by show slots + 0 ≤ R.slots; omega)
  have hmU : U.vm.method? mM = some meM := by rw [X1.warmed.alike.method?]; exact hmM
  have hfc := State.frames_calling hU.top gp mM #[.double (4607182418800017408 : UInt64)]
  obtain ⟨-, r2, -, r4⟩ := State.hasRoom_stack hroom
  rw [State.localsInUse_invoking hfc (meth := meM) (c := cM) hmU hcM] at r4
  rw [hfc, X1.tail] at r2
  rw [X1.tail] at r4
  have hwt := stackUse_le_stackWeight (.java gp :: below)
  rw [State.calling_eq hU.top, State.stackLimits_setFrames] at r2 r4
  simp only [List.length_cons] at r2
  have hv : vmFrameWords = 1024 := rfl
  rw [hmlM, hv] at r4
  have eA : U.setTop gp = Stt U U.vm (.java gp :: below) := by
    obtain ⟨g₀, hg0⟩ := Option.isSome_iff_exists.mp hU.top
    obtain ⟨r, hr⟩ := State.topJava?_eq_some.mp hg0
    have hrb : r = below := by have := X1.tail; rw [hr] at this; exact this
    rw [State.setTop_of_frames _ hr, hrb]; rfl
  obtain ⟨kU, hkU, ekU⟩ := X1.warmed.alike.2.2 _ _ hkM
  have hbootM : kM.loader = none := Vm.bootOf_findClass (findClass_of_methodNamed hnM) hkM
  have hxM : kM.methods[mM.idx]? = some meM := by simpa [Vm.method?, hkM] using hmM
  have hbootU : kU.loader = none := by rw [ekU]; exact hbootM
  have hxU : kU.methods[mM.idx]? = some meM := by rw [ekU]; exact hxM
  have hknU : kU.name = "java/lang/Math" := by rw [ekU]; exact hknM
  obtain ⟨mS, hnS⟩ : ∃ k, s.methodNamed? (⟨"java/lang/StrictMath", "ceil", "(D)D"⟩ : MethodName) = some k := Cond.code_named (mvT hZ (hw _ (List.mem_of_getElem? (i := 63) rfl)) (args := #[]))
  obtain ⟨kS, hkS, -⟩ := className_of_methodNamed hnS
  have hfS : s.vm.findClass "java/lang/StrictMath" = some mS.cls := findClass_of_methodNamed hnS
  have hiS : kS.init = .initialized := Cond.initialized_spec hfS hkS (mvT hZ (hw _ (List.mem_of_getElem? (i := 62) rfl)) (args := #[]))
  have hmS : kS.findMethod "ceil" "(D)D" = some mS.idx := by
    have hq := hnS
    simp only [State.methodNamed?, Option.bind_eq_bind, Option.pure_def] at hq
    rw [hfS] at hq
    simp only [Option.bind_some, hkS] at hq
    cases hfm : kS.findMethod "ceil" "(D)D" with
    | none => rw [hfm] at hq; cases hq
    | some j => rw [hfm] at hq; simp at hq; rw [← hq]
  obtain ⟨kS', hkS', ekS⟩ := X1.warmed.alike.2.2 _ _ hkS
  obtain ⟨nf, hnf⟩ : ∃ q : NFrame, q = { method := mM, args := #[.double (4607182418800017408 : UInt64)], stage := 1, saved := #[], awaiting := true, answer := none, words := 0 } := ⟨_, rfl⟩
  obtain ⟨nf', hnf'⟩ : ∃ q : NFrame, q = { method := mM, args := #[.double (4607182418800017408 : UInt64)], stage := 1, saved := #[], awaiting := false, answer := some (.returned (some (.double (4607182418800017408 : UInt64)))), words := 0 } := ⟨_, rfl⟩
  have hus : (stackUse (.native nf :: .java gp :: below)).2 = (stackUse (.java gp :: below)).2 := by
    rw [stackUse_light _ _ (fun f q => by cases q) (by rw [hnf]; rfl)]
  obtain ⟨vm2, hW2, sn⟩ := rawSce1 hw hx hZ X1.admits hU eU SA (F := .native nf :: .java gp :: below) (vm := U.vm) (fs := .native nf' :: .java gp :: below) hnS X1.warmed ⟨[.native nf, .java gp], rfl⟩ (by simp only [List.length_cons]; omega) (by rw [hus]; omega) (fun vm' f _ => by rw [hnf, hnf']; rfl)
  refine ⟨U.setVm vm2, X1.noted hW2, eU, fun target hk => st1 target fun acts => ?_⟩
  show Steps p.tables e below (doInvoke e (U.setTop gp) acts mM #[.double (4607182418800017408 : UInt64)]).1 target
  rw [eA, rawEnter hcur X1.warmed acts hmM hcM hlkM (by simp only [List.length_cons]; omega) (by rw [hmlM]; omega), hmlM]
  obtain ⟨acts₂, hr2⟩ := Jvm.Free.Hsc.ceil_run (4607182418800017408 : UInt64) e (Stt U U.vm (.native { method := mM, args := #[.double (4607182418800017408 : UInt64)] } :: .java gp :: below)) (cS := mS.cls) (kS := kS') (i := mS.idx) (by show U.vm.findClass _ = _; rw [X1.warmed.alike.findClass]; exact hfS) hkS' (by rw [ekS]; exact hiS) (by rw [ekS]; exact hmS)
  have hf1 : (Stt U U.vm (.java (entryFrame mM #[.double (4607182418800017408 : UInt64)] 2) :: .java gp :: below)).frames = .java (entryFrame mM #[.double (4607182418800017408 : UInt64)] 2) :: .java gp :: below := Stt_frames hcur
  have hov : overridden p.tables e (Stt U U.vm (.java (entryFrame mM #[.double (4607182418800017408 : UInt64)] 2) :: .java gp :: below)) (entryFrame mM #[.double (4607182418800017408 : UInt64)] 2) = some Jvm.Free.Hsc.ceilRow :=
    Jvm.Free.Fl.Abs.overridden_some (k := kU) (x := meM) rfl hkU (by rw [hknU]; decide) hbootU hxU (by rw [hknU, hmnM, hmdM]; exact Jvm.Free.Hsc.ceil_row p)
  have hparams : meM.sig.parameters.length = 1 := (lenOf (L := [.double (4607182418800017408 : UInt64)]) pd__D_D rfl _ hsgM).symm
  have htake : ∀ n : Nat, List.take (1 + n) [Value.double (4607182418800017408 : UInt64)] = [Value.double (4607182418800017408 : UInt64)] := fun n => List.take_of_length_le (Nat.le_add_right 1 n)
  have hstep2 : (stepThread p.tables e (Stt U U.vm (.java (entryFrame mM #[.double (4607182418800017408 : UInt64)] 2) :: .java gp :: below))).1 = (doInvoke e (Stt U U.vm (.native nf :: .java gp :: below)) acts₂ mS #[.double (4607182418800017408 : UInt64)]).1 := by
    unfold stepThread
    simp only [hf1, hov]
    have hb2 : ∀ G : List Frame, ((Stt U U.vm G).vm.classes[mM.cls]?.bind fun y => y.methods[mM.idx]?) = some meM := by
      intro G
      show (U.vm.classes[mM.cls]?.bind fun y => y.methods[mM.idx]?) = some meM
      simp [hkU, hxU]
    have hb3 : (U.vm.classes[mM.cls]?.bind fun x => x.methods[mM.idx]?) = some meM := by simp [hkU, hxU]
    have hwords : ∀ G : List Frame, (((Stt U U.vm G).vm.classes[mM.cls]?).bind fun k => (k.methods[mM.idx]?).map fun n => upcallWords k.name n.name).getD 0 = 0 := by
      intro G
      show ((U.vm.classes[mM.cls]?).bind fun k => (k.methods[mM.idx]?).map fun n => upcallWords k.name n.name).getD 0 = 0
      simp [hkU, hxU, hknU, hmnM, upcallWords]
    have hw3 : ((U.vm.classes[mM.cls]?).bind fun k => Option.map (fun n => upcallWords k.name n.name) k.methods[mM.idx]?).getD 0 = 0 := by simp [hkU, hxU, hknU, hmnM, upcallWords]
    simp [entryFrame, argsToLocals, Value.category, argCount, hb2, hb3, hparams, htake, hr2, afterNative, hwords, hw3, Stt_setFrames, hnf]
  refine Steps.head ⟨hU.running, by simpa [Stt] using hU.runnable, by simpa [Stt] using hU.alone⟩ ⟨.java (entryFrame mM #[.double (4607182418800017408 : UInt64)] 2) :: [.java gp], by rw [hf1]; rfl, by simp, by simp⟩ ?_
  rw [hstep2]
  refine (sn acts₂).trans ?_
  obtain ⟨k2, hk2, ek2⟩ := hW2.alike.2.2 _ _ hkM
  obtain ⟨acts₃, hr3⟩ := Jvm.Free.Hsc.ceil_resume (r := (4607182418800017408 : UInt64)) (by decide) e (Stt U vm2 (.native nf' :: .java gp :: below))
  have hend : (Stt U vm2 (.native nf' :: .java gp :: below)).frames = .native nf' :: .java gp :: below := Stt_frames hcur
  have hfs2 : handOver (Stt U vm2 (.native nf' :: .java gp :: below)) (some (.double (4607182418800017408 : UInt64))) (.java gp :: below) = some (.java { gp with pc := gp.pc + 3, stack := .double (4607182418800017408 : UInt64) :: gp.stack } :: below) :=
    handJ (meth := meth) (c := c) (ig := .invokestatic 41) (by rw [hgm, hW2.alike.method?]; exact X1.method) X1.code (by rw [hgp]; exact hd)
  have hstep4 : (stepThread p.tables e (Stt U vm2 (.native nf' :: .java gp :: below))).1 = Stt U vm2 (.java { gp with pc := gp.pc + 3, stack := .double (4607182418800017408 : UInt64) :: gp.stack } :: below) := by
    rw [Jvm.Free.Hsc.stepThread_resumed' (f := nf') (k := k2) (x := meM) (row := Jvm.Free.Hsc.ceilRow) (o := .returned (some (.double (4607182418800017408 : UInt64)))) hend (by rw [hnf']; exact hk2) (by rw [ek2]; exact hbootM) (by rw [ek2, hnf']; exact hxM) (by rw [ek2, hmnM, hmdM]; show NativeRow.find? p.tables.natives kM.name _ _ = _; rw [hknM]; exact Jvm.Free.Hsc.ceil_row p) (by rw [hnf'])]
    have hsv : Jvm.Free.Hsc.ceilRow.resume nf'.stage nf'.saved (.returned (some (.double (4607182418800017408 : UInt64)))) = Jvm.Free.Hsc.ceilRow.resume 1 #[] (.returned (some (.double (4607182418800017408 : UInt64)))) := by rw [hnf']
    rw [hsv, hr3]
    show (doReturn e (Stt U vm2 (.native nf' :: .java gp :: below)) acts₃ (some (.double (4607182418800017408 : UInt64)))).1 = _
    rw [doReturn_native (f := nf') hend (by rw [hnf']) hfs2, Stt_setFrames]
  refine Steps.head ⟨hU.running, by simpa [Stt] using hU.runnable, by simpa [Stt] using hU.alone⟩ ⟨[.native nf', .java gp], by rw [hend]; rfl, by simp, by simp⟩ ?_
  rw [hstep4]
  have eB : (U.setVm vm2).setTop { g with pc := g.pc + 3, stack := .double (4607182418800017408 : UInt64) :: rest } = Stt U vm2 (.java { gp with pc := gp.pc + 3, stack := .double (4607182418800017408 : UInt64) :: gp.stack } :: below) := by
    obtain ⟨g₀, hg0⟩ := Option.isSome_iff_exists.mp hU.top
    obtain ⟨r, hr⟩ := State.topJava?_eq_some.mp hg0
    have hrb : r = below := by have := X1.tail; rw [hr] at this; exact this
    rw [State.setTop_of_frames (s := U.setVm vm2) _ (r := r) hr, hrb, hgp]; rfl
  rw [← eB]
  exact hk
set_option maxRecDepth 65536 in
set_option maxHeartbeats 40000000 in
theorem ceilRaw2 {p : Program} {l : Launch} {e : Env} {R : Room} {s : State} {m : MethodId} {args : Array Value} {below : List Frame} {meth : Method} {c : Code} {T : State} {locs : List Loc} {cells slots : Nat} {h : Heap} {n0 : Nat} (X : Stand p l e R s m args below meth c T locs cells slots) (hx : p.tables.exec = Jvm.exec) (Z : State) (a0 : Array Value) (hw : ∀ d ∈ tables_1, d.before a0 Z = true) (hZ : Z.Warmed39 s.vm) (hown : s.vm.findClass "com/example/tideshift/tideshift/cli/LatencyHistogram" = some m.cls) (eT : T.heap = h) (O : Old Z n0 h) (SA0 : Sta Z Z.heap "java/lang/StrictMath" "$assertionsDisabled" "Z" (.int (1 : Int32))) {g : JFrame} (hg : g.method = m) (hsize : g.locals.size = c.maxLocals) {rest : List Value} (hst : g.stack = .double (4611686018427387904 : UInt64) :: rest) (hd : decode c.code g.pc = .ok (.invokestatic 41, 3)) (hfr : 6 ≤ R.frames) (hlo : 2 * g.monitorRoom + (rest.map fun v => v.category).sum + 100 ≤ R.locals) (hcl : cells ≤ R.cells) (hsl : slots ≤ R.slots) :
    ∃ T', Stand p l e R s m args below meth c T' locs cells slots ∧ T'.heap = h ∧ ∀ target, Steps p.tables e below (T'.setTop { g with pc := g.pc + 3, stack := .double (4611686018427387904 : UInt64) :: rest }) target → Steps p.tables e below (T.setTop g) target := by
  have SA := Sta.ext O.2 SA0
  obtain ⟨mM, hnM⟩ : ∃ k, s.methodNamed? (⟨"java/lang/Math", "ceil", "(D)D"⟩ : MethodName) = some k := Cond.code_named (mvT hZ (hw _ (List.mem_of_getElem? (i := 59) rfl)) (args := #[]))
  obtain ⟨meM, cM, hmM, hcM, -, hmlM, -, hlkM, -, hsgM⟩ := Cond.code_spec hnM (mvT hZ (hw _ (List.mem_of_getElem? (i := 59) rfl)) (args := #[]))
  obtain ⟨kM, hkM, hknM⟩ := className_of_methodNamed hnM
  obtain ⟨hmnM, hmdM⟩ := name_of_methodNamed hnM hmM
  have hstM : meM.isStatic = true := own_static hnM hmM (mvT hZ (hw _ (List.mem_of_getElem? (i := 58) rfl)) (args := #[]))
  have hinM : kM.init = .initialized := Cond.initialized_spec (findClass_of_methodNamed hnM) hkM (mvT hZ (hw _ (List.mem_of_getElem? (i := 55) rfl)) (args := #[]))
  obtain ⟨vm1, X1, st1⟩ := X.invokestatic hx hown (mvT hZ (hw _ (List.mem_of_getElem? (i := 57) rfl))) hnM hmM hstM hkM hinM (by decide) hg (argsL := [.double (4611686018427387904 : UInt64)]) (rest := rest) (lenOf pd__D_D rfl _ hsgM) hst hd
  obtain ⟨U, hUd⟩ : ∃ U, U = T.setVm vm1 := ⟨_, rfl⟩
  rw [← hUd] at X1 st1
  have eU : U.heap = h := by rw [hUd]; exact eT
  have hU : At U m c below := X1.here
  have hcur := State.cur_lt_of_top hU.top
  obtain ⟨gp, hgp⟩ : ∃ q : JFrame, q = { g with stack := rest } := ⟨_, rfl⟩
  rw [← hgp] at st1
  have hgm : gp.method = m := by rw [hgp]; exact hg
  have hroom : (U.calling gp mM #[.double (4611686018427387904 : UInt64)]).hasRoom e.platform { frames := 5, locals := 87, cells := 0, slots := 0 } = true :=
    X1.room_calling (by rw [hgp]; exact hsize) (by rw [X1.warmed.alike.method?]; exact hmM) hcM (by show 5 + 1 ≤ R.frames; omega) (by rw [hgp, hmlM]; show 2 * g.monitorRoom + (rest.map fun v => v.category).sum + (2 + 11) + 87 ≤ R.locals; omega) (by show cells + 0 ≤ R.cells; omega) (by show slots + 0 ≤ R.slots; omega)
  have hmU : U.vm.method? mM = some meM := by rw [X1.warmed.alike.method?]; exact hmM
  have hfc := State.frames_calling hU.top gp mM #[.double (4611686018427387904 : UInt64)]
  obtain ⟨-, r2, -, r4⟩ := State.hasRoom_stack hroom
  rw [State.localsInUse_invoking hfc (meth := meM) (c := cM) hmU hcM] at r4
  rw [hfc, X1.tail] at r2
  rw [X1.tail] at r4
  have hwt := stackUse_le_stackWeight (.java gp :: below)
  rw [State.calling_eq hU.top, State.stackLimits_setFrames] at r2 r4
  simp only [List.length_cons] at r2
  have hv : vmFrameWords = 1024 := rfl
  rw [hmlM, hv] at r4
  have eA : U.setTop gp = Stt U U.vm (.java gp :: below) := by
    obtain ⟨g₀, hg0⟩ := Option.isSome_iff_exists.mp hU.top
    obtain ⟨r, hr⟩ := State.topJava?_eq_some.mp hg0
    have hrb : r = below := by have := X1.tail; rw [hr] at this; exact this
    rw [State.setTop_of_frames _ hr, hrb]; rfl
  obtain ⟨kU, hkU, ekU⟩ := X1.warmed.alike.2.2 _ _ hkM
  have hbootM : kM.loader = none := Vm.bootOf_findClass (findClass_of_methodNamed hnM) hkM
  have hxM : kM.methods[mM.idx]? = some meM := by simpa [Vm.method?, hkM] using hmM
  have hbootU : kU.loader = none := by rw [ekU]; exact hbootM
  have hxU : kU.methods[mM.idx]? = some meM := by rw [ekU]; exact hxM
  have hknU : kU.name = "java/lang/Math" := by rw [ekU]; exact hknM
  obtain ⟨mS, hnS⟩ : ∃ k, s.methodNamed? (⟨"java/lang/StrictMath", "ceil", "(D)D"⟩ : MethodName) = some k := Cond.code_named (mvT hZ (hw _ (List.mem_of_getElem? (i := 63) rfl)) (args := #[]))
  obtain ⟨kS, hkS, -⟩ := className_of_methodNamed hnS
  have hfS : s.vm.findClass "java/lang/StrictMath" = some mS.cls := findClass_of_methodNamed hnS
  have hiS : kS.init = .initialized := Cond.initialized_spec hfS hkS (mvT hZ (hw _ (List.mem_of_getElem? (i := 62) rfl)) (args := #[]))
  have hmS : kS.findMethod "ceil" "(D)D" = some mS.idx := by
    have hq := hnS
    simp only [State.methodNamed?, Option.bind_eq_bind, Option.pure_def] at hq
    rw [hfS] at hq
    simp only [Option.bind_some, hkS] at hq
    cases hfm : kS.findMethod "ceil" "(D)D" with
    | none => rw [hfm] at hq; cases hq
    | some j => rw [hfm] at hq; simp at hq; rw [← hq]
  obtain ⟨kS', hkS', ekS⟩ := X1.warmed.alike.2.2 _ _ hkS
  obtain ⟨nf, hnf⟩ : ∃ q : NFrame, q = { method := mM, args := #[.double (4611686018427387904 : UInt64)], stage := 1, saved := #[], awaiting := true, answer := none, words := 0 } := ⟨_, rfl⟩
  obtain ⟨nf', hnf'⟩ : ∃ q : NFrame, q = { method := mM, args := #[.double (4611686018427387904 : UInt64)], stage := 1, saved := #[], awaiting := false, answer := some (.returned (some (.double (4611686018427387904 : UInt64)))), words := 0 } := ⟨_, rfl⟩
  have hus : (stackUse (.native nf :: .java gp :: below)).2 = (stackUse (.java gp :: below)).2 := by
    rw [stackUse_light _ _ (fun f q => by cases q) (by rw [hnf]; rfl)]
  obtain ⟨vm2, hW2, sn⟩ := rawSce2 hw hx hZ X1.admits hU eU SA (F := .native nf :: .java gp :: below) (vm := U.vm) (fs := .native nf' :: .java gp :: below) hnS X1.warmed ⟨[.native nf, .java gp], rfl⟩ (by simp only [List.length_cons]; omega) (by rw [hus]; omega) (fun vm' f _ => by rw [hnf, hnf']; rfl)
  refine ⟨U.setVm vm2, X1.noted hW2, eU, fun target hk => st1 target fun acts => ?_⟩
  show Steps p.tables e below (doInvoke e (U.setTop gp) acts mM #[.double (4611686018427387904 : UInt64)]).1 target
  rw [eA, rawEnter hcur X1.warmed acts hmM hcM hlkM (by simp only [List.length_cons]; omega) (by rw [hmlM]; omega), hmlM]
  obtain ⟨acts₂, hr2⟩ := Jvm.Free.Hsc.ceil_run (4611686018427387904 : UInt64) e (Stt U U.vm (.native { method := mM, args := #[.double (4611686018427387904 : UInt64)] } :: .java gp :: below)) (cS := mS.cls) (kS := kS') (i := mS.idx) (by show U.vm.findClass _ = _; rw [X1.warmed.alike.findClass]; exact hfS) hkS' (by rw [ekS]; exact hiS) (by rw [ekS]; exact hmS)
  have hf1 : (Stt U U.vm (.java (entryFrame mM #[.double (4611686018427387904 : UInt64)] 2) :: .java gp :: below)).frames = .java (entryFrame mM #[.double (4611686018427387904 : UInt64)] 2) :: .java gp :: below := Stt_frames hcur
  have hov : overridden p.tables e (Stt U U.vm (.java (entryFrame mM #[.double (4611686018427387904 : UInt64)] 2) :: .java gp :: below)) (entryFrame mM #[.double (4611686018427387904 : UInt64)] 2) = some Jvm.Free.Hsc.ceilRow :=
    Jvm.Free.Fl.Abs.overridden_some (k := kU) (x := meM) rfl hkU (by rw [hknU]; decide) hbootU hxU (by rw [hknU, hmnM, hmdM]; exact Jvm.Free.Hsc.ceil_row p)
  have hparams : meM.sig.parameters.length = 1 := (lenOf (L := [.double (4611686018427387904 : UInt64)]) pd__D_D rfl _ hsgM).symm
  have htake : ∀ n : Nat, List.take (1 + n) [Value.double (4611686018427387904 : UInt64)] = [Value.double (4611686018427387904 : UInt64)] := fun n => List.take_of_length_le (Nat.le_add_right 1 n)
  have hstep2 : (stepThread p.tables e (Stt U U.vm (.java (entryFrame mM #[.double (4611686018427387904 : UInt64)] 2) :: .java gp :: below))).1 = (doInvoke e (Stt U U.vm (.native nf :: .java gp :: below)) acts₂ mS #[.double (4611686018427387904 : UInt64)]).1 := by
    unfold stepThread
    simp only [hf1, hov]
    have hb2 : ∀ G : List Frame, ((Stt U U.vm G).vm.classes[mM.cls]?.bind fun y => y.methods[mM.idx]?) = some meM := by
      intro G
      show (U.vm.classes[mM.cls]?.bind fun y => y.methods[mM.idx]?) = some meM
      simp [hkU, hxU]
    have hb3 : (U.vm.classes[mM.cls]?.bind fun x => x.methods[mM.idx]?) = some meM := by simp [hkU, hxU]
    have hwords : ∀ G : List Frame, (((Stt U U.vm G).vm.classes[mM.cls]?).bind fun k => (k.methods[mM.idx]?).map fun n => upcallWords k.name n.name).getD 0 = 0 := by
      intro G
      show ((U.vm.classes[mM.cls]?).bind fun k => (k.methods[mM.idx]?).map fun n => upcallWords k.name n.name).getD 0 = 0
      simp [hkU, hxU, hknU, hmnM, upcallWords]
    have hw3 : ((U.vm.classes[mM.cls]?).bind fun k => Option.map (fun n => upcallWords k.name n.name) k.methods[mM.idx]?).getD 0 = 0 := by simp [hkU, hxU, hknU, hmnM, upcallWords]
    simp [entryFrame, argsToLocals, Value.category, argCount, hb2, hb3, hparams, htake, hr2, afterNative, hwords, hw3, Stt_setFrames, hnf]
  refine Steps.head ⟨hU.running, by simpa [Stt] using hU.runnable, by simpa [Stt] using hU.alone⟩ ⟨.java (entryFrame mM #[.double (4611686018427387904 : UInt64)] 2) :: [.java gp], by rw [hf1]; rfl, by simp, by simp⟩ ?_
  rw [hstep2]
  refine (sn acts₂).trans ?_
  obtain ⟨k2, hk2, ek2⟩ := hW2.alike.2.2 _ _ hkM
  obtain ⟨acts₃, hr3⟩ := Jvm.Free.Hsc.ceil_resume (r := (4611686018427387904 : UInt64)) (by decide) e (Stt U vm2 (.native nf' :: .java gp :: below))
  have hend : (Stt U vm2 (.native nf' :: .java gp :: below)).frames = .native nf' :: .java gp :: below := Stt_frames hcur
  have hfs2 : handOver (Stt U vm2 (.native nf' :: .java gp :: below)) (some (.double (4611686018427387904 : UInt64))) (.java gp :: below) = some (.java { gp with pc := gp.pc + 3, stack := .double (4611686018427387904 : UInt64) :: gp.stack } :: below) :=
    handJ (meth := meth) (c := c) (ig := .invokestatic 41) (by rw [hgm, hW2.alike.method?]; exact X1.method) X1.code (by rw [hgp]; exact hd)
  have hstep4 : (stepThread p.tables e (Stt U vm2 (.native nf' :: .java gp :: below))).1 = Stt U vm2 (.java { gp with pc := gp.pc + 3, stack := .double (4611686018427387904 : UInt64) :: gp.stack } :: below) := by
    rw [Jvm.Free.Hsc.stepThread_resumed' (f := nf') (k := k2) (x := meM) (row := Jvm.Free.Hsc.ceilRow) (o := .returned (some (.double (4611686018427387904 : UInt64)))) hend (by rw [hnf']; exact hk2) (by rw [ek2]; exact hbootM) (by rw [ek2, hnf']; exact hxM) (by rw [ek2, hmnM, hmdM]; show NativeRow.find? p.tables.natives kM.name _ _ = _; rw [hknM]; exact Jvm.Free.Hsc.ceil_row p) (by rw [hnf'])]
    have hsv : Jvm.Free.Hsc.ceilRow.resume nf'.stage nf'.saved (.returned (some (.double (4611686018427387904 : UInt64)))) = Jvm.Free.Hsc.ceilRow.resume 1 #[] (.returned (some (.double (4611686018427387904 : UInt64)))) := by rw [hnf']
    rw [hsv, hr3]
    show (doReturn e (Stt U vm2 (.native nf' :: .java gp :: below)) acts₃ (some (.double (4611686018427387904 : UInt64)))).1 = _
    rw [doReturn_native (f := nf') hend (by rw [hnf']) hfs2, Stt_setFrames]
  refine Steps.head ⟨hU.running, by simpa [Stt] using hU.runnable, by simpa [Stt] using hU.alone⟩ ⟨[.native nf', .java gp], by rw [hend]; rfl, by simp, by simp⟩ ?_
  rw [hstep4]
  have eB : (U.setVm vm2).setTop { g with pc := g.pc + 3, stack := .double (4611686018427387904 : UInt64) :: rest } = Stt U vm2 (.java { gp with pc := gp.pc + 3, stack := .double (4611686018427387904 : UInt64) :: gp.stack } :: below) := by
    obtain ⟨g₀, hg0⟩ := Option.isSome_iff_exists.mp hU.top
    obtain ⟨r, hr⟩ := State.topJava?_eq_some.mp hg0
    have hrb : r = below := by have := X1.tail; rw [hr] at this; exact this
    rw [State.setTop_of_frames (s := U.setVm vm2) _ (r := r) hr, hrb, hgp]; rfl
  rw [← eB]
  exact hk
theorem d8_35 : decode prog_30_method_6_code 35 = .ok (.lload 5, 2) := by decide +kernel
theorem d8_37 : decode prog_30_method_6_code 37 = .ok (.aload_n 0, 1) := by decide +kernel
theorem d8_38 : decode prog_30_method_6_code 38 = .ok (.getfield 17, 3) := by decide +kernel
theorem d8_41 : decode prog_30_method_6_code 41 = .ok (.iload 7, 2) := by decide +kernel
theorem d8_43 : decode prog_30_method_6_code 43 = .ok (.laload, 1) := by decide +kernel
theorem d8_44 : decode prog_30_method_6_code 44 = .ok (.ladd, 1) := by decide +kernel
theorem d8_45 : decode prog_30_method_6_code 45 = .ok (.lload_n 3, 1) := by decide +kernel
theorem d8_46 : decode prog_30_method_6_code 46 = .ok (.lcmp, 1) := by decide +kernel
theorem d8_47 : decode prog_30_method_6_code 47 = .ok (.ifCond .ge 21, 3) := by decide +kernel
theorem d8_50 : decode prog_30_method_6_code 50 = .ok (.lload 5, 2) := by decide +kernel
theorem d8_52 : decode prog_30_method_6_code 52 = .ok (.aload_n 0, 1) := by decide +kernel
theorem d8_53 : decode prog_30_method_6_code 53 = .ok (.getfield 17, 3) := by decide +kernel
theorem d8_56 : decode prog_30_method_6_code 56 = .ok (.iload 7, 2) := by decide +kernel
theorem d8_58 : decode prog_30_method_6_code 58 = .ok (.laload, 1) := by decide +kernel
theorem d8_59 : decode prog_30_method_6_code 59 = .ok (.ladd, 1) := by decide +kernel
theorem d8_60 : decode prog_30_method_6_code 60 = .ok (.lstore 5, 2) := by decide +kernel
theorem d8_62 : decode prog_30_method_6_code 62 = .ok (.iinc 7 1, 3) := by decide +kernel
theorem d8_65 : decode prog_30_method_6_code 65 = .ok (.goto (-30), 3) := by decide +kernel
set_option maxRecDepth 65536 in
set_option maxHeartbeats 40000000 in
theorem qturn {p : Program} {l : Launch} {e : Env} {R : Room} {s : State} {m : MethodId} {below : List Frame} {meth : Method} {c : Code} {T0 : State} {lc0 : List Loc} {h0 : Heap} {n0 : Nat} (Z : State) (a0 : Array Value) (hw : ∀ d ∈ tables_1, d.before a0 Z = true) {a1 : Addr} {fr : UInt64} {va : Addr} {ka : ClassId} {ff : Nat → Int64} {rk : Int64} {ix : Nat}
    (X0 : Stand p l e R s m #[(.ref a1), (.double fr)] below meth c T0 lc0 0 0) (hx : p.tables.exec = Jvm.exec) (hby : c.code = prog_30_method_6_code) (hml : c.maxLocals = 8) (hown : s.vm.findClass "com/example/tideshift/tideshift/cli/LatencyHistogram" = some m.cls) (hZ : Z.Warmed39 s.vm) (e0 : T0.heap = h0) (N0 : Fr n0 lc0) (pr0 : Fld Z h0 a1 "com/example/tideshift/tideshift/cli/LatencyHistogram" "counts" "[J" (.ref va)) (pr1 : Arv Z h0 va ka .long (3712 : Int32) (tab ff) (.long (0 : Int64))) (hi : ix < 3712) (hlt : prf ff (ix + 1) < rk) :
    ∃ T', Stand p l e R s m #[(.ref a1), (.double fr)] below meth c T' lc0 0 0 ∧ T'.heap = h0 ∧ ∀ t, Steps p.tables e below (T'.setTop (mkF m 35 #[.val (.ref a1), .val (.double fr), .second, .val (.long rk), .second, .val (.long (prf ff (ix + 1))), .second, .val (.int (Int32.ofNat (ix + 1)))] [])) t → Steps p.tables e below (T0.setTop (mkF m 35 #[.val (.ref a1), .val (.double fr), .second, .val (.long rk), .second, .val (.long (prf ff ix)), .second, .val (.int (Int32.ofNat ix))] [])) t := by
  obtain ⟨f0, hf0⟩ : ∃ f, f = (mkF m 35 #[.val (.ref a1), .val (.double fr), .second, .val (.long rk), .second, .val (.long (prf ff ix)), .second, .val (.int (Int32.ofNat ix))] []) := ⟨_, rfl⟩
  have pre0 : ∀ t, Steps p.tables e below (T0.setTop f0) t → Steps p.tables e below (T0.setTop (mkF m 35 #[.val (.ref a1), .val (.double fr), .second, .val (.long rk), .second, .val (.long (prf ff ix)), .second, .val (.int (Int32.ofNat ix))] [])) t := fun t k => hf0 ▸ k
  have K0 : Gx p e below T0 f0 T0 (mkF m 35 #[.val (.ref a1), .val (.double fr), .second, .val (.long rk), .second, .val (.long (prf ff ix)), .second, .val (.int (Int32.ofNat ix))] []) := fun t kt => by rw [hf0]; exact kt
  have K1 : Gx p e below T0 f0 T0 (mkF m 38 #[.val (.ref a1), .val (.double fr), .second, .val (.long rk), .second, .val (.long (prf ff ix)), .second, .val (.int (Int32.ofNat ix))] [(.ref a1), (.long (prf ff ix))]) := fun t kt => K0 t (by
    show Steps p.tables e below (T0.setTop (mkF m 35 #[.val (.ref a1), .val (.double fr), .second, .val (.long rk), .second, .val (.long (prf ff ix)), .second, .val (.int (Int32.ofNat ix))] [])) _
    refine XS.lload X0.here hx rfl (hb hby d8_35) rfl ?_
    show Steps p.tables e below (T0.setTop (mkF m 37 #[.val (.ref a1), .val (.double fr), .second, .val (.long rk), .second, .val (.long (prf ff ix)), .second, .val (.int (Int32.ofNat ix))] [(.long (prf ff ix))])) _
    refine XS.aloadN X0.here hx rfl (hb hby d8_37) rfl rfl ?_
    exact kt)
  obtain ⟨T2, X2, e2, st2⟩ := getF X0 hx hZ hown (host := "") (Or.inl (hw _ (List.mem_of_getElem? (i := 24) rfl))) Via.refl e0 pr0 (g := (mkF m 38 #[.val (.ref a1), .val (.double fr), .second, .val (.long rk), .second, .val (.long (prf ff ix)), .second, .val (.int (Int32.ofNat ix))] [(.ref a1), (.long (prf ff ix))])) rfl rfl (hb hby d8_38)
  have K3 : Gx p e below T0 f0 T2 (mkF m 41 #[.val (.ref a1), .val (.double fr), .second, .val (.long rk), .second, .val (.long (prf ff ix)), .second, .val (.int (Int32.ofNat ix))] [(.ref va), (.long (prf ff ix))]) := fun t kt => K1 t (st2 t kt)
  obtain ⟨clq4, Arq4, ckq4, cSq4, cNq4, cHq4, cGq4⟩ := id pr1
  have K5 : Gx p e below T0 f0 T2 (mkF m 53 #[.val (.ref a1), .val (.double fr), .second, .val (.long rk), .second, .val (.long (prf ff ix)), .second, .val (.int (Int32.ofNat ix))] [(.ref a1), (.long (prf ff ix))]) := fun t kt => K3 t (by
    show Steps p.tables e below (T2.setTop (mkF m 41 #[.val (.ref a1), .val (.double fr), .second, .val (.long rk), .second, .val (.long (prf ff ix)), .second, .val (.int (Int32.ofNat ix))] [(.ref va), (.long (prf ff ix))])) _
    refine XS.iload X2.here hx rfl (hb hby d8_41) rfl ?_
    show Steps p.tables e below (T2.setTop (mkF m 43 #[.val (.ref a1), .val (.double fr), .second, .val (.long rk), .second, .val (.long (prf ff ix)), .second, .val (.int (Int32.ofNat ix))] [(.int (Int32.ofNat ix)), (.ref va), (.long (prf ff ix))])) _
    refine X2.laload hx (j := (Int32.ofNat ix)) (v := (.long (ff ix))) (by rw [e2]; exact Arq4.1) (State.isArrayOf_alike hZ.alike Arq4.2.1) Arq4.2.2 (inb_of cSq4 (of_ok hi)) (Has.at cHq4 (inb_of cSq4 (of_ok hi)) (of_read ff hi _)) (g := (mkF m 43 #[.val (.ref a1), .val (.double fr), .second, .val (.long rk), .second, .val (.long (prf ff ix)), .second, .val (.int (Int32.ofNat ix))] [(.int (Int32.ofNat ix)), (.ref va), (.long (prf ff ix))])) rfl rfl (hb hby d8_43) _ ?_
    show Steps p.tables e below (T2.setTop (mkF m 44 #[.val (.ref a1), .val (.double fr), .second, .val (.long rk), .second, .val (.long (prf ff ix)), .second, .val (.int (Int32.ofNat ix))] [(.long (ff ix)), (.long (prf ff ix))])) _
    refine XS.ladd X2.here hx rfl (hb hby d8_44) rfl ?_
    show Steps p.tables e below (T2.setTop (mkF m 45 #[.val (.ref a1), .val (.double fr), .second, .val (.long rk), .second, .val (.long (prf ff ix)), .second, .val (.int (Int32.ofNat ix))] [(.long ((prf ff ix) + (ff ix)))])) _
    refine XS.lloadN X2.here hx rfl (hb hby d8_45) rfl ?_
    show Steps p.tables e below (T2.setTop (mkF m 46 #[.val (.ref a1), .val (.double fr), .second, .val (.long rk), .second, .val (.long (prf ff ix)), .second, .val (.int (Int32.ofNat ix))] [(.long rk), (.long ((prf ff ix) + (ff ix)))])) _
    refine XS.lcmp X2.here hx rfl (hb hby d8_46) rfl ?_
    show Steps p.tables e below (T2.setTop (mkF m 47 #[.val (.ref a1), .val (.double fr), .second, .val (.long rk), .second, .val (.long (prf ff ix)), .second, .val (.int (Int32.ofNat ix))] [(.int (lcmpW ((prf ff ix) + (ff ix)) rk))])) _
    refine XS.ifNo X2.here hx rfl (hb hby d8_47) rfl ((if0 _ _).trans (tlt ((lw_lt _ _).mpr hlt)).2.1) ?_
    show Steps p.tables e below (T2.setTop (mkF m 50 #[.val (.ref a1), .val (.double fr), .second, .val (.long rk), .second, .val (.long (prf ff ix)), .second, .val (.int (Int32.ofNat ix))] [])) _
    refine XS.lload X2.here hx rfl (hb hby d8_50) rfl ?_
    show Steps p.tables e below (T2.setTop (mkF m 52 #[.val (.ref a1), .val (.double fr), .second, .val (.long rk), .second, .val (.long (prf ff ix)), .second, .val (.int (Int32.ofNat ix))] [(.long (prf ff ix))])) _
    refine XS.aloadN X2.here hx rfl (hb hby d8_52) rfl rfl ?_
    exact kt)
  obtain ⟨T6, X6, e6, st6⟩ := getF X2 hx hZ hown (host := "") (Or.inl (hw _ (List.mem_of_getElem? (i := 24) rfl))) Via.refl e2 pr0 (g := (mkF m 53 #[.val (.ref a1), .val (.double fr), .second, .val (.long rk), .second, .val (.long (prf ff ix)), .second, .val (.int (Int32.ofNat ix))] [(.ref a1), (.long (prf ff ix))])) rfl rfl (hb hby d8_53)
  have K7 : Gx p e below T0 f0 T6 (mkF m 56 #[.val (.ref a1), .val (.double fr), .second, .val (.long rk), .second, .val (.long (prf ff ix)), .second, .val (.int (Int32.ofNat ix))] [(.ref va), (.long (prf ff ix))]) := fun t kt => K5 t (st6 t kt)
  have K8 : Gx p e below T0 f0 T6 (mkF m 35 #[.val (.ref a1), .val (.double fr), .second, .val (.long rk), .second, .val (.long ((prf ff ix) + (ff ix))), .second, .val (.int ((Int32.ofNat ix) + (1 : Int32)))] []) := fun t kt => K7 t (by
    show Steps p.tables e below (T6.setTop (mkF m 56 #[.val (.ref a1), .val (.double fr), .second, .val (.long rk), .second, .val (.long (prf ff ix)), .second, .val (.int (Int32.ofNat ix))] [(.ref va), (.long (prf ff ix))])) _
    refine XS.iload X6.here hx rfl (hb hby d8_56) rfl ?_
    show Steps p.tables e below (T6.setTop (mkF m 58 #[.val (.ref a1), .val (.double fr), .second, .val (.long rk), .second, .val (.long (prf ff ix)), .second, .val (.int (Int32.ofNat ix))] [(.int (Int32.ofNat ix)), (.ref va), (.long (prf ff ix))])) _
    refine X6.laload hx (j := (Int32.ofNat ix)) (v := (.long (ff ix))) (by rw [e6]; exact Arq4.1) (State.isArrayOf_alike hZ.alike Arq4.2.1) Arq4.2.2 (inb_of cSq4 (of_ok hi)) (Has.at cHq4 (inb_of cSq4 (of_ok hi)) (of_read ff hi _)) (g := (mkF m 58 #[.val (.ref a1), .val (.double fr), .second, .val (.long rk), .second, .val (.long (prf ff ix)), .second, .val (.int (Int32.ofNat ix))] [(.int (Int32.ofNat ix)), (.ref va), (.long (prf ff ix))])) rfl rfl (hb hby d8_58) _ ?_
    show Steps p.tables e below (T6.setTop (mkF m 59 #[.val (.ref a1), .val (.double fr), .second, .val (.long rk), .second, .val (.long (prf ff ix)), .second, .val (.int (Int32.ofNat ix))] [(.long (ff ix)), (.long (prf ff ix))])) _
    refine XS.ladd X6.here hx rfl (hb hby d8_59) rfl ?_
    show Steps p.tables e below (T6.setTop (mkF m 60 #[.val (.ref a1), .val (.double fr), .second, .val (.long rk), .second, .val (.long (prf ff ix)), .second, .val (.int (Int32.ofNat ix))] [(.long ((prf ff ix) + (ff ix)))])) _
    refine XS.lstore X6.here hx rfl (hb hby d8_60) rfl (l' := #[.val (.ref a1), .val (.double fr), .second, .val (.long rk), .second, .val (.long ((prf ff ix) + (ff ix))), .second, .val (.int (Int32.ofNat ix))]) rfl ?_
    show Steps p.tables e below (T6.setTop (mkF m 62 #[.val (.ref a1), .val (.double fr), .second, .val (.long rk), .second, .val (.long ((prf ff ix) + (ff ix))), .second, .val (.int (Int32.ofNat ix))] [])) _
    refine XS.iinc X6.here hx rfl (hb hby d8_62) rfl (l' := #[.val (.ref a1), .val (.double fr), .second, .val (.long rk), .second, .val (.long ((prf ff ix) + (ff ix))), .second, .val (.int ((Int32.ofNat ix) + (1 : Int32)))]) rfl ?_
    show Steps p.tables e below (T6.setTop (mkF m 65 #[.val (.ref a1), .val (.double fr), .second, .val (.long rk), .second, .val (.long ((prf ff ix) + (ff ix))), .second, .val (.int ((Int32.ofNat ix) + (1 : Int32)))] [])) _
    refine XS.goto X6.here hx rfl (pc0 := 65) (pc' := 35) rfl (hb hby d8_65) (by decide) (by decide) ?_
    exact kt)
  rw [(of_up hi)] at K8
  rw [(rfl : ((prf ff ix) + (ff ix)) = prf ff (ix + 1))] at K8
  exact ⟨T6, X6, e6, fun t k => pre0 _ (K8 t k)⟩
set_option maxRecDepth 65536 in
set_option maxHeartbeats 40000000 in
theorem qleave {p : Program} {l : Launch} {e : Env} {R : Room} {s : State} {m : MethodId} {below : List Frame} {meth : Method} {c : Code} {T0 : State} {lc0 : List Loc} {h0 : Heap} {n0 : Nat} (Z : State) (a0 : Array Value) (hw : ∀ d ∈ tables_1, d.before a0 Z = true) {a1 : Addr} {fr : UInt64} {va : Addr} {ka : ClassId} {ff : Nat → Int64} {rk : Int64} {ix : Nat}
    (X0 : Stand p l e R s m #[(.ref a1), (.double fr)] below meth c T0 lc0 0 0) (hx : p.tables.exec = Jvm.exec) (hby : c.code = prog_30_method_6_code) (hml : c.maxLocals = 8) (hown : s.vm.findClass "com/example/tideshift/tideshift/cli/LatencyHistogram" = some m.cls) (hZ : Z.Warmed39 s.vm) (e0 : T0.heap = h0) (N0 : Fr n0 lc0) (pr0 : Fld Z h0 a1 "com/example/tideshift/tideshift/cli/LatencyHistogram" "counts" "[J" (.ref va)) (pr1 : Arv Z h0 va ka .long (3712 : Int32) (tab ff) (.long (0 : Int64))) (hi : ix < 3712) (hlt : ¬ (prf ff (ix + 1) < rk)) :
    ∃ T', Stand p l e R s m #[(.ref a1), (.double fr)] below meth c T' lc0 0 0 ∧ T'.heap = h0 ∧ ∀ t, Steps p.tables e below (T'.setTop (mkF m 68 #[.val (.ref a1), .val (.double fr), .second, .val (.long rk), .second, .val (.long (prf ff ix)), .second, .val (.int (Int32.ofNat ix))] [])) t → Steps p.tables e below (T0.setTop (mkF m 35 #[.val (.ref a1), .val (.double fr), .second, .val (.long rk), .second, .val (.long (prf ff ix)), .second, .val (.int (Int32.ofNat ix))] [])) t := by
  obtain ⟨f0, hf0⟩ : ∃ f, f = (mkF m 35 #[.val (.ref a1), .val (.double fr), .second, .val (.long rk), .second, .val (.long (prf ff ix)), .second, .val (.int (Int32.ofNat ix))] []) := ⟨_, rfl⟩
  have pre0 : ∀ t, Steps p.tables e below (T0.setTop f0) t → Steps p.tables e below (T0.setTop (mkF m 35 #[.val (.ref a1), .val (.double fr), .second, .val (.long rk), .second, .val (.long (prf ff ix)), .second, .val (.int (Int32.ofNat ix))] [])) t := fun t k => hf0 ▸ k
  have K0 : Gx p e below T0 f0 T0 (mkF m 35 #[.val (.ref a1), .val (.double fr), .second, .val (.long rk), .second, .val (.long (prf ff ix)), .second, .val (.int (Int32.ofNat ix))] []) := fun t kt => by rw [hf0]; exact kt
  have K1 : Gx p e below T0 f0 T0 (mkF m 38 #[.val (.ref a1), .val (.double fr), .second, .val (.long rk), .second, .val (.long (prf ff ix)), .second, .val (.int (Int32.ofNat ix))] [(.ref a1), (.long (prf ff ix))]) := fun t kt => K0 t (by
    show Steps p.tables e below (T0.setTop (mkF m 35 #[.val (.ref a1), .val (.double fr), .second, .val (.long rk), .second, .val (.long (prf ff ix)), .second, .val (.int (Int32.ofNat ix))] [])) _
    refine XS.lload X0.here hx rfl (hb hby d8_35) rfl ?_
    show Steps p.tables e below (T0.setTop (mkF m 37 #[.val (.ref a1), .val (.double fr), .second, .val (.long rk), .second, .val (.long (prf ff ix)), .second, .val (.int (Int32.ofNat ix))] [(.long (prf ff ix))])) _
    refine XS.aloadN X0.here hx rfl (hb hby d8_37) rfl rfl ?_
    exact kt)
  obtain ⟨T2, X2, e2, st2⟩ := getF X0 hx hZ hown (host := "") (Or.inl (hw _ (List.mem_of_getElem? (i := 24) rfl))) Via.refl e0 pr0 (g := (mkF m 38 #[.val (.ref a1), .val (.double fr), .second, .val (.long rk), .second, .val (.long (prf ff ix)), .second, .val (.int (Int32.ofNat ix))] [(.ref a1), (.long (prf ff ix))])) rfl rfl (hb hby d8_38)
  have K3 : Gx p e below T0 f0 T2 (mkF m 41 #[.val (.ref a1), .val (.double fr), .second, .val (.long rk), .second, .val (.long (prf ff ix)), .second, .val (.int (Int32.ofNat ix))] [(.ref va), (.long (prf ff ix))]) := fun t kt => K1 t (st2 t kt)
  obtain ⟨clq4, Arq4, ckq4, cSq4, cNq4, cHq4, cGq4⟩ := id pr1
  have K5 : Gx p e below T0 f0 T2 (mkF m 68 #[.val (.ref a1), .val (.double fr), .second, .val (.long rk), .second, .val (.long (prf ff ix)), .second, .val (.int (Int32.ofNat ix))] []) := fun t kt => K3 t (by
    show Steps p.tables e below (T2.setTop (mkF m 41 #[.val (.ref a1), .val (.double fr), .second, .val (.long rk), .second, .val (.long (prf ff ix)), .second, .val (.int (Int32.ofNat ix))] [(.ref va), (.long (prf ff ix))])) _
    refine XS.iload X2.here hx rfl (hb hby d8_41) rfl ?_
    show Steps p.tables e below (T2.setTop (mkF m 43 #[.val (.ref a1), .val (.double fr), .second, .val (.long rk), .second, .val (.long (prf ff ix)), .second, .val (.int (Int32.ofNat ix))] [(.int (Int32.ofNat ix)), (.ref va), (.long (prf ff ix))])) _
    refine X2.laload hx (j := (Int32.ofNat ix)) (v := (.long (ff ix))) (by rw [e2]; exact Arq4.1) (State.isArrayOf_alike hZ.alike Arq4.2.1) Arq4.2.2 (inb_of cSq4 (of_ok hi)) (Has.at cHq4 (inb_of cSq4 (of_ok hi)) (of_read ff hi _)) (g := (mkF m 43 #[.val (.ref a1), .val (.double fr), .second, .val (.long rk), .second, .val (.long (prf ff ix)), .second, .val (.int (Int32.ofNat ix))] [(.int (Int32.ofNat ix)), (.ref va), (.long (prf ff ix))])) rfl rfl (hb hby d8_43) _ ?_
    show Steps p.tables e below (T2.setTop (mkF m 44 #[.val (.ref a1), .val (.double fr), .second, .val (.long rk), .second, .val (.long (prf ff ix)), .second, .val (.int (Int32.ofNat ix))] [(.long (ff ix)), (.long (prf ff ix))])) _
    refine XS.ladd X2.here hx rfl (hb hby d8_44) rfl ?_
    show Steps p.tables e below (T2.setTop (mkF m 45 #[.val (.ref a1), .val (.double fr), .second, .val (.long rk), .second, .val (.long (prf ff ix)), .second, .val (.int (Int32.ofNat ix))] [(.long ((prf ff ix) + (ff ix)))])) _
    refine XS.lloadN X2.here hx rfl (hb hby d8_45) rfl ?_
    show Steps p.tables e below (T2.setTop (mkF m 46 #[.val (.ref a1), .val (.double fr), .second, .val (.long rk), .second, .val (.long (prf ff ix)), .second, .val (.int (Int32.ofNat ix))] [(.long rk), (.long ((prf ff ix) + (ff ix)))])) _
    refine XS.lcmp X2.here hx rfl (hb hby d8_46) rfl ?_
    show Steps p.tables e below (T2.setTop (mkF m 47 #[.val (.ref a1), .val (.double fr), .second, .val (.long rk), .second, .val (.long (prf ff ix)), .second, .val (.int (Int32.ofNat ix))] [(.int (lcmpW ((prf ff ix) + (ff ix)) rk))])) _
    refine XS.ifYes X2.here hx rfl (pc0 := 47) (pc' := 68) rfl (hb hby d8_47) rfl ((if0 _ _).trans (flt (fun q => hlt ((lw_lt _ _).mp q))).2.1) (by decide) (by decide) ?_
    exact kt)
  exact ⟨T2, X2, e2, fun t k => pre0 _ (K5 t k)⟩
theorem qloop {p : Program} {l : Launch} {e : Env} {R : Room} {s : State} {m : MethodId} {below : List Frame} {meth : Method} {c : Code} {lc0 : List Loc} {h0 : Heap} {n0 : Nat} (Z : State) (a0 : Array Value) (hw : ∀ d ∈ tables_1, d.before a0 Z = true) {a1 : Addr} {fr : UInt64} {va : Addr} {ka : ClassId} {ff : Nat → Int64} {rk : Int64} {J : Nat}
    (hx : p.tables.exec = Jvm.exec) (hby : c.code = prog_30_method_6_code) (hml : c.maxLocals = 8) (hown : s.vm.findClass "com/example/tideshift/tideshift/cli/LatencyHistogram" = some m.cls) (hZ : Z.Warmed39 s.vm) (N0 : Fr n0 lc0) (pr0 : Fld Z h0 a1 "com/example/tideshift/tideshift/cli/LatencyHistogram" "counts" "[J" (.ref va)) (pr1 : Arv Z h0 va ka .long (3712 : Int32) (tab ff) (.long (0 : Int64))) (hJ : J < 3712) (h2 : ∀ i, i < J → prf ff (i + 1) < rk) (h3 : ¬ (prf ff (J + 1) < rk)) :
    ∀ (d ix : Nat), ix + d = J → ∀ T0 : State, Stand p l e R s m #[(.ref a1), (.double fr)] below meth c T0 lc0 0 0 → T0.heap = h0 → ∃ T', Stand p l e R s m #[(.ref a1), (.double fr)] below meth c T' lc0 0 0 ∧ T'.heap = h0 ∧ ∀ t, Steps p.tables e below (T'.setTop (mkF m 68 #[.val (.ref a1), .val (.double fr), .second, .val (.long rk), .second, .val (.long (prf ff J)), .second, .val (.int (Int32.ofNat J))] [])) t → Steps p.tables e below (T0.setTop (mkF m 35 #[.val (.ref a1), .val (.double fr), .second, .val (.long rk), .second, .val (.long (prf ff ix)), .second, .val (.int (Int32.ofNat ix))] [])) t := by
  intro d
  induction d with
  | zero =>
    intro ix q T0 X0 e0
    obtain rfl : ix = J := q
    exact qleave Z a0 hw X0 hx hby hml hown hZ e0 N0 pr0 pr1 hJ h3
  | succ d ih =>
    intro ix q T0 X0 e0
    obtain ⟨T1, X1, e1, st1⟩ := qturn Z a0 hw X0 hx hby hml hown hZ e0 N0 pr0 pr1 (by omega) (h2 ix (by omega))
    obtain ⟨T2, X2, e2, st2⟩ := ih (ix + 1) (by omega) T1 X1 e1
    exact ⟨T2, X2, e2, fun t k => st1 t (st2 t k)⟩
theorem d8_0 : decode prog_30_method_6_code 0 = .ok (.aload_n 0, 1) := by decide +kernel
theorem d8_1 : decode prog_30_method_6_code 1 = .ok (.getfield 27, 3) := by decide +kernel
theorem d8_4 : decode prog_30_method_6_code 4 = .ok (.lconst 0, 1) := by decide +kernel
theorem d8_5 : decode prog_30_method_6_code 5 = .ok (.lcmp, 1) := by decide +kernel
theorem d8_6 : decode prog_30_method_6_code 6 = .ok (.ifCond .ne 7, 3) := by decide +kernel
theorem d8_9 : decode prog_30_method_6_code 9 = .ok (.ldc2_w 39, 3) := by decide +kernel
theorem d8_12 : decode prog_30_method_6_code 12 = .ok (.dreturn, 1) := by decide +kernel
theorem pn_8 : plainName "com/example/tideshift/tideshift/cli/LatencyHistogram" = true := by first | (simp [plainName, overriddenIn]; done) | decide +kernel
theorem ef_Qnt0 (m : MethodId) (a1 : Addr) (fr : UInt64) : entryFrame m #[(.ref a1), (.double fr)] 8 = mkF m 0 #[.val (.ref a1), .val (.double fr), .second, .unset, .unset, .unset, .unset, .unset] [] := by first | (simp [entryFrame, mkF, argsToLocals, Value.category]; done) | rfl
def QQnt0 (Z : State) (a1 : Addr) (fr : UInt64) (h0 : Heap) (n0 : Nat) (v : Option Value) (h : Heap) (L : List Loc) : Prop := v = some (.double (9221120237041090560 : UInt64)) ∧ Fr n0 L ∧ h = h0
set_option maxRecDepth 65536 in
set_option maxHeartbeats 40000000 in
theorem rmQnt0 (l : Launch) (Z : State) (a0 : Array Value) (hw : ∀ d ∈ tables_1, d.before a0 Z = true) (ws : List Jvm.Cond) (a1 : Addr) (fr : UInt64) (h0 : Heap) (n0 : Nat) (Z0 : n0 ≤ h0.size) (pr0 : Exa Z h0 a1 "com/example/tideshift/tideshift/cli/LatencyHistogram") (pr1 : Fld Z h0 a1 "com/example/tideshift/tideshift/cli/LatencyHistogram" "count" "J" (.long (0 : Int64))) :
    MetFree l (⟨"com/example/tideshift/tideshift/cli/LatencyHistogram", "quantile", "(D)D"⟩ : MethodName) (head1 (Jvm.Cond.code (⟨"com/example/tideshift/tideshift/cli/LatencyHistogram", "quantile", "(D)D"⟩ : MethodName) prog_30_method_6_code 8 (some .double) :: ws) ({ frames := 0, cells := 0, slots := 0, locals := 0 } : Room)) (fun a U => a = #[(.ref a1), (.double fr)] ∧ Z.Warmed39 U.vm ∧ U.heap = h0) (fun _ _ _ _ _ => True) (fun _ U o U' => ∃ v L, o = .returned v ∧ QQnt0 Z a1 fr h0 n0 v U'.heap L ∧ FrameEnd U o U' L ({ frames := 0, cells := 0, slots := 0, locals := 0 } : Room).cells ({ frames := 0, cells := 0, slots := 0, locals := 0 } : Room).slots) := by
  refine MetFree.of_bodySF (plainFor_of_name pn_8) hisR ?_
  intro p e s m args below meth c s₁ Bd hml0 hP hK
  obtain ⟨rfl, hZ, hh⟩ := hP
  have hx := Bd.exec
  have hby := Bd.bytes
  have hml : c.maxLocals = 8 := hml0
  have hown : s.vm.findClass "com/example/tideshift/tideshift/cli/LatencyHistogram" = some m.cls := findClass_of_methodNamed Bd.named
  have hnm := (name_of_methodNamed Bd.named Bd.method).1
  have X0 : Stand p l e ({ frames := 0, cells := 0, slots := 0, locals := 0 } : Room) s m #[(.ref a1), (.double fr)] below meth c s₁ [] 0 0 := Stand.of_body Bd
  have hs0 : h0 = s.heap := hh.symm
  have e0 : s₁.heap = h0 := by rw [← hh, Bd.state]; rfl
  have N0 := Fr.nil n0
  obtain ⟨f0, hf0⟩ : ∃ f, f = entryFrame m #[(.ref a1), (.double fr)] 8 := ⟨_, rfl⟩
  have pre0 : ∀ t, Steps p.tables e below (s₁.setTop f0) t → Steps p.tables e below (s₁.setTop (entryFrame m #[(.ref a1), (.double fr)] 8)) t := fun t k => hf0 ▸ k
  have K0 : Gx p e below s₁ f0 s₁ (mkF m 0 #[.val (.ref a1), .val (.double fr), .second, .unset, .unset, .unset, .unset, .unset] []) := fun t kt => by rw [hf0]; exact castTop (ef_Qnt0 m a1 fr) kt
  have K1 : Gx p e below s₁ f0 s₁ (mkF m 1 #[.val (.ref a1), .val (.double fr), .second, .unset, .unset, .unset, .unset, .unset] [(.ref a1)]) := fun t kt => K0 t (by
    show Steps p.tables e below (s₁.setTop (mkF m 0 #[.val (.ref a1), .val (.double fr), .second, .unset, .unset, .unset, .unset, .unset] [])) _
    refine XS.aloadN X0.here hx rfl (hb hby d8_0) rfl rfl ?_
    exact kt)
  obtain ⟨T2, X2, e2, st2⟩ := getF X0 hx hZ hown (host := "") (Or.inl (hw _ (List.mem_of_getElem? (i := 31) rfl))) Via.refl e0 pr1 (g := (mkF m 1 #[.val (.ref a1), .val (.double fr), .second, .unset, .unset, .unset, .unset, .unset] [(.ref a1)])) rfl rfl (hb hby d8_1)
  have K3 : Gx p e below s₁ f0 T2 (mkF m 4 #[.val (.ref a1), .val (.double fr), .second, .unset, .unset, .unset, .unset, .unset] [(.long (0 : Int64))]) := fun t kt => K1 t (st2 t kt)
  have K4 : Gx p e below s₁ f0 T2 (mkF m 12 #[.val (.ref a1), .val (.double fr), .second, .unset, .unset, .unset, .unset, .unset] [(.double (9221120237041090560 : UInt64))]) := fun t kt => K3 t (by
    show Steps p.tables e below (T2.setTop (mkF m 4 #[.val (.ref a1), .val (.double fr), .second, .unset, .unset, .unset, .unset, .unset] [(.long (0 : Int64))])) _
    refine XS.lconst X2.here hx rfl (hb hby d8_4) ?_
    show Steps p.tables e below (T2.setTop (mkF m 5 #[.val (.ref a1), .val (.double fr), .second, .unset, .unset, .unset, .unset, .unset] [(.long (0 : Int64)), (.long (0 : Int64))])) _
    refine XS.lcmp X2.here hx rfl (hb hby d8_5) rfl ?_
    show Steps p.tables e below (T2.setTop (mkF m 6 #[.val (.ref a1), .val (.double fr), .second, .unset, .unset, .unset, .unset, .unset] [(.int (lcmpW (0 : Int64) (0 : Int64)))])) _
    refine XS.ifNo X2.here hx rfl (hb hby d8_6) rfl ((if0 _ _).trans (teq (by decide)).2) ?_
    show Steps p.tables e below (T2.setTop (mkF m 9 #[.val (.ref a1), .val (.double fr), .second, .unset, .unset, .unset, .unset, .unset] [])) _
    refine X2.ldc2DoubleC hx hown (mvT hZ (hw _ (List.mem_of_getElem? (i := 43) rfl))) (g := (mkF m 9 #[.val (.ref a1), .val (.double fr), .second, .unset, .unset, .unset, .unset, .unset] [])) rfl (hb hby d8_9) _ ?_
    exact kt)
  obtain ⟨fs5, hr5, hrun5, hended5, hW5, hsame5⟩ := X2.leave (v := some (.double (9221120237041090560 : UInt64))) (fun h => by rw [Bd.returns] at h; cases h)
  refine ⟨_, _, pre0 _ (K4 _ ?_), hrun5, hended5, _, _, rfl, ?_, ⟨_, rfl⟩, hW5, hsame5.mono (by decide) (by decide)⟩
  · exact retD X2 hx Bd.returns (hb hby d8_12) hr5
  · show QQnt0 Z a1 fr h0 n0 _ T2.heap _
    rw [e2]
    exact ⟨rfl, N0, rfl⟩
theorem d8_13 : decode prog_30_method_6_code 13 = .ok (.lconst 1, 1) := by decide +kernel
theorem d8_14 : decode prog_30_method_6_code 14 = .ok (.dload_n 1, 1) := by decide +kernel
theorem d8_15 : decode prog_30_method_6_code 15 = .ok (.aload_n 0, 1) := by decide +kernel
theorem d8_16 : decode prog_30_method_6_code 16 = .ok (.getfield 27, 3) := by decide +kernel
theorem d8_19 : decode prog_30_method_6_code 19 = .ok (.l2d, 1) := by decide +kernel
theorem d8_20 : decode prog_30_method_6_code 20 = .ok (.dmul, 1) := by decide +kernel
theorem d8_21 : decode prog_30_method_6_code 21 = .ok (.invokestatic 41, 3) := by decide +kernel
theorem d8_24 : decode prog_30_method_6_code 24 = .ok (.d2l, 1) := by decide +kernel
theorem d8_25 : decode prog_30_method_6_code 25 = .ok (.invokestatic 21, 3) := by decide +kernel
theorem d8_28 : decode prog_30_method_6_code 28 = .ok (.lstore_n 3, 1) := by decide +kernel
theorem d8_29 : decode prog_30_method_6_code 29 = .ok (.lconst 0, 1) := by decide +kernel
theorem d8_30 : decode prog_30_method_6_code 30 = .ok (.lstore 5, 2) := by decide +kernel
theorem d8_32 : decode prog_30_method_6_code 32 = .ok (.iconst 0, 1) := by decide +kernel
theorem d8_33 : decode prog_30_method_6_code 33 = .ok (.istore 7, 2) := by decide +kernel
theorem d8_68 : decode prog_30_method_6_code 68 = .ok (.iload 7, 2) := by decide +kernel
theorem d8_70 : decode prog_30_method_6_code 70 = .ok (.invokestatic 45, 3) := by decide +kernel
theorem d8_73 : decode prog_30_method_6_code 73 = .ok (.dreturn, 1) := by decide +kernel
theorem pd__I_D : parseMethodDescriptor "(I)D" = some ⟨[.int], some .double⟩ := by decide +kernel
theorem ef_Qnt10 (m : MethodId) (a1 : Addr) : entryFrame m #[(.ref a1), (.double (0 : UInt64))] 8 = mkF m 0 #[.val (.ref a1), .val (.double (0 : UInt64)), .second, .unset, .unset, .unset, .unset, .unset] [] := by first | (simp [entryFrame, mkF, argsToLocals, Value.category]; done) | rfl
def QQnt10 (Z : State) (a1 : Addr) (va : Addr) (ka : ClassId) (ff : Nat → Int64) (J : Nat) (h0 : Heap) (n0 : Nat) (v : Option Value) (h : Heap) (L : List Loc) : Prop := v = some (.double (midF (Int32.ofNat J))) ∧ Fr n0 L ∧ h = h0
set_option maxRecDepth 65536 in
set_option maxHeartbeats 40000000 in
theorem rmQnt10 (l : Launch) (Z : State) (a0 : Array Value) (hw : ∀ d ∈ tables_1, d.before a0 Z = true) (ws : List Jvm.Cond) (a1 : Addr) (va : Addr) (ka : ClassId) (ff : Nat → Int64) (J : Nat) (h0 : Heap) (n0 : Nat) (Z0 : n0 ≤ h0.size) (pr0 : Exa Z h0 a1 "com/example/tideshift/tideshift/cli/LatencyHistogram") (pr1 : Fld Z h0 a1 "com/example/tideshift/tideshift/cli/LatencyHistogram" "counts" "[J" (.ref va)) (pr2 : Fld Z h0 a1 "com/example/tideshift/tideshift/cli/LatencyHistogram" "count" "J" (.long (1 : Int64))) (pr3 : Arv Z h0 va ka .long (3712 : Int32) (tab ff) (.long (0 : Int64))) (pr4 : Old Z n0 h0) (pr5 : Sta Z Z.heap "java/lang/StrictMath" "$assertionsDisabled" "Z" (.int (1 : Int32))) (hJ : J < 3712) (hJa : ∀ i, i < J → prf ff (i + 1) < (1 : Int64)) (hJb : ¬ (prf ff (J + 1) < (1 : Int64))) :
    MetFree l (⟨"com/example/tideshift/tideshift/cli/LatencyHistogram", "quantile", "(D)D"⟩ : MethodName) (head1 (Jvm.Cond.code (⟨"com/example/tideshift/tideshift/cli/LatencyHistogram", "quantile", "(D)D"⟩ : MethodName) prog_30_method_6_code 8 (some .double) :: ws) ({ frames := 6, cells := 0, slots := 0, locals := 102 } : Room)) (fun a U => a = #[(.ref a1), (.double (0 : UInt64))] ∧ Z.Warmed39 U.vm ∧ U.heap = h0) (fun _ _ _ _ _ => True) (fun _ U o U' => ∃ v L, o = .returned v ∧ QQnt10 Z a1 va ka ff J h0 n0 v U'.heap L ∧ FrameEnd U o U' L ({ frames := 6, cells := 0, slots := 0, locals := 102 } : Room).cells ({ frames := 6, cells := 0, slots := 0, locals := 102 } : Room).slots) := by
  refine MetFree.of_bodySF (plainFor_of_name pn_8) hisR ?_
  intro p e s m args below meth c s₁ Bd hml0 hP hK
  obtain ⟨rfl, hZ, hh⟩ := hP
  have hx := Bd.exec
  have hby := Bd.bytes
  have hml : c.maxLocals = 8 := hml0
  have hown : s.vm.findClass "com/example/tideshift/tideshift/cli/LatencyHistogram" = some m.cls := findClass_of_methodNamed Bd.named
  have hnm := (name_of_methodNamed Bd.named Bd.method).1
  have X0 : Stand p l e ({ frames := 6, cells := 0, slots := 0, locals := 102 } : Room) s m #[(.ref a1), (.double (0 : UInt64))] below meth c s₁ [] 0 0 := Stand.of_body Bd
  have hs0 : h0 = s.heap := hh.symm
  have e0 : s₁.heap = h0 := by rw [← hh, Bd.state]; rfl
  have N0 := Fr.nil n0
  obtain ⟨f0, hf0⟩ : ∃ f, f = entryFrame m #[(.ref a1), (.double (0 : UInt64))] 8 := ⟨_, rfl⟩
  have pre0 : ∀ t, Steps p.tables e below (s₁.setTop f0) t → Steps p.tables e below (s₁.setTop (entryFrame m #[(.ref a1), (.double (0 : UInt64))] 8)) t := fun t k => hf0 ▸ k
  have K0 : Gx p e below s₁ f0 s₁ (mkF m 0 #[.val (.ref a1), .val (.double (0 : UInt64)), .second, .unset, .unset, .unset, .unset, .unset] []) := fun t kt => by rw [hf0]; exact castTop (ef_Qnt10 m a1) kt
  have K1 : Gx p e below s₁ f0 s₁ (mkF m 1 #[.val (.ref a1), .val (.double (0 : UInt64)), .second, .unset, .unset, .unset, .unset, .unset] [(.ref a1)]) := fun t kt => K0 t (by
    show Steps p.tables e below (s₁.setTop (mkF m 0 #[.val (.ref a1), .val (.double (0 : UInt64)), .second, .unset, .unset, .unset, .unset, .unset] [])) _
    refine XS.aloadN X0.here hx rfl (hb hby d8_0) rfl rfl ?_
    exact kt)
  obtain ⟨T2, X2, e2, st2⟩ := getF X0 hx hZ hown (host := "") (Or.inl (hw _ (List.mem_of_getElem? (i := 31) rfl))) Via.refl e0 pr2 (g := (mkF m 1 #[.val (.ref a1), .val (.double (0 : UInt64)), .second, .unset, .unset, .unset, .unset, .unset] [(.ref a1)])) rfl rfl (hb hby d8_1)
  have K3 : Gx p e below s₁ f0 T2 (mkF m 4 #[.val (.ref a1), .val (.double (0 : UInt64)), .second, .unset, .unset, .unset, .unset, .unset] [(.long (1 : Int64))]) := fun t kt => K1 t (st2 t kt)
  have K4 : Gx p e below s₁ f0 T2 (mkF m 16 #[.val (.ref a1), .val (.double (0 : UInt64)), .second, .unset, .unset, .unset, .unset, .unset] [(.ref a1), (.double (0 : UInt64)), (.long (1 : Int64))]) := fun t kt => K3 t (by
    show Steps p.tables e below (T2.setTop (mkF m 4 #[.val (.ref a1), .val (.double (0 : UInt64)), .second, .unset, .unset, .unset, .unset, .unset] [(.long (1 : Int64))])) _
    refine XS.lconst X2.here hx rfl (hb hby d8_4) ?_
    show Steps p.tables e below (T2.setTop (mkF m 5 #[.val (.ref a1), .val (.double (0 : UInt64)), .second, .unset, .unset, .unset, .unset, .unset] [(.long (0 : Int64)), (.long (1 : Int64))])) _
    refine XS.lcmp X2.here hx rfl (hb hby d8_5) rfl ?_
    show Steps p.tables e below (T2.setTop (mkF m 6 #[.val (.ref a1), .val (.double (0 : UInt64)), .second, .unset, .unset, .unset, .unset, .unset] [(.int (lcmpW (1 : Int64) (0 : Int64)))])) _
    refine XS.ifYes X2.here hx rfl (pc0 := 6) (pc' := 13) rfl (hb hby d8_6) rfl ((if0 _ _).trans (feq (by decide)).2) (by decide) (by decide) ?_
    show Steps p.tables e below (T2.setTop (mkF m 13 #[.val (.ref a1), .val (.double (0 : UInt64)), .second, .unset, .unset, .unset, .unset, .unset] [])) _
    refine XS.lconst X2.here hx rfl (hb hby d8_13) ?_
    show Steps p.tables e below (T2.setTop (mkF m 14 #[.val (.ref a1), .val (.double (0 : UInt64)), .second, .unset, .unset, .unset, .unset, .unset] [(.long (1 : Int64))])) _
    refine XS.dloadN X2.here hx rfl (hb hby d8_14) rfl ?_
    show Steps p.tables e below (T2.setTop (mkF m 15 #[.val (.ref a1), .val (.double (0 : UInt64)), .second, .unset, .unset, .unset, .unset, .unset] [(.double (0 : UInt64)), (.long (1 : Int64))])) _
    refine XS.aloadN X2.here hx rfl (hb hby d8_15) rfl rfl ?_
    exact kt)
  obtain ⟨T5, X5, e5, st5⟩ := getF X2 hx hZ hown (host := "") (Or.inl (hw _ (List.mem_of_getElem? (i := 31) rfl))) Via.refl e2 pr2 (g := (mkF m 16 #[.val (.ref a1), .val (.double (0 : UInt64)), .second, .unset, .unset, .unset, .unset, .unset] [(.ref a1), (.double (0 : UInt64)), (.long (1 : Int64))])) rfl rfl (hb hby d8_16)
  have K6 : Gx p e below s₁ f0 T5 (mkF m 19 #[.val (.ref a1), .val (.double (0 : UInt64)), .second, .unset, .unset, .unset, .unset, .unset] [(.long (1 : Int64)), (.double (0 : UInt64)), (.long (1 : Int64))]) := fun t kt => K4 t (st5 t kt)
  have K7 : Gx p e below s₁ f0 T5 (mkF m 21 #[.val (.ref a1), .val (.double (0 : UInt64)), .second, .unset, .unset, .unset, .unset, .unset] [(.double (0 : UInt64)), (.long (1 : Int64))]) := fun t kt => K6 t (by
    show Steps p.tables e below (T5.setTop (mkF m 19 #[.val (.ref a1), .val (.double (0 : UInt64)), .second, .unset, .unset, .unset, .unset, .unset] [(.long (1 : Int64)), (.double (0 : UInt64)), (.long (1 : Int64))])) _
    refine XS.l2dS X5.here hx rfl (hb hby d8_19) rfl (v := (4607182418800017408 : UInt64)) (by decide +kernel) ?_
    show Steps p.tables e below (T5.setTop (mkF m 20 #[.val (.ref a1), .val (.double (0 : UInt64)), .second, .unset, .unset, .unset, .unset, .unset] [(.double (4607182418800017408 : UInt64)), (.double (0 : UInt64)), (.long (1 : Int64))])) _
    refine XS.dmulS X5.here hx rfl (hb hby d8_20) rfl (by unfold Jvm.Free.Fl.NoNaN64; decide +kernel) (v := (0 : UInt64)) (by decide +kernel) ?_
    exact kt)
  obtain ⟨T8, X8, e8, st8⟩ := ceilRaw0 X5 hx Z a0 hw hZ hown e5 pr4 pr5 (g := (mkF m 21 #[.val (.ref a1), .val (.double (0 : UInt64)), .second, .unset, .unset, .unset, .unset, .unset] [(.double (0 : UInt64)), (.long (1 : Int64))])) rfl (by rw [hml]; rfl) rfl (hb hby d8_21) (by decide) (by show 2 * 0 + 2 + 100 ≤ _; decide) (by decide) (by decide)
  have K9 : Gx p e below s₁ f0 T8 (mkF m 24 #[.val (.ref a1), .val (.double (0 : UInt64)), .second, .unset, .unset, .unset, .unset, .unset] [(.double (0 : UInt64)), (.long (1 : Int64))]) := fun t kt => K7 t (st8 t kt)
  have K10 : Gx p e below s₁ f0 T8 (mkF m 25 #[.val (.ref a1), .val (.double (0 : UInt64)), .second, .unset, .unset, .unset, .unset, .unset] [(.long (0 : Int64)), (.long (1 : Int64))]) := fun t kt => K9 t (by
    show Steps p.tables e below (T8.setTop (mkF m 24 #[.val (.ref a1), .val (.double (0 : UInt64)), .second, .unset, .unset, .unset, .unset, .unset] [(.double (0 : UInt64)), (.long (1 : Int64))])) _
    refine XS.d2lS X8.here hx rfl (hb hby d8_24) rfl (v := (0 : Int64)) (by decide +kernel) ?_
    exact kt)
  obtain ⟨_, _, ⟨T11, L11, k11, n11⟩, -, X11', ⟨Lc11, hQ11, l11, y11, z11⟩, st11⟩ := Jvm.LawKit.callS X8 hx (y := (⟨"java/lang/Math", "max", "(JJ)J"⟩ : MethodName)) hown (mvT hZ (hw _ (List.mem_of_getElem? (i := 53) rfl))) (mvT hZ (hw _ (List.mem_of_getElem? (i := 54) rfl))) (mvT hZ (hw _ (List.mem_of_getElem? (i := 55) rfl))) (mvT hZ (hw _ (List.mem_of_getElem? (i := 56) rfl))) (by decide) (backOf (W := 0) (rmMax l Z a0 hw [] (1 : Int64) (0 : Int64) h0 n0 (Nat.le_trans Z0 (Keep.refl h0 []).1) ) hZ (hw _ (List.mem_of_getElem? (i := 56) rfl)) (hw _ (List.mem_of_getElem? (i := 55) rfl)) (by decide) (by decide)) (g := (mkF m 25 #[.val (.ref a1), .val (.double (0 : UInt64)), .second, .unset, .unset, .unset, .unset, .unset] [(.long (0 : Int64)), (.long (1 : Int64))])) rfl (by rw [hml]; rfl) (argsL := [(.long (1 : Int64)), (.long (0 : Int64))]) (rest := []) (lenOf pd__JJ_J rfl) rfl (by show 2 * 0 + _ ≤ _; exact Nat.le_of_eq rfl) (hb hby d8_25) (fun _ _ => ⟨rfl, e8, (by decide : 0 + 0 ≤ _), (by decide : 0 + 0 ≤ _)⟩)
  dsimp only [Pt.U, Pt.locs, Pt.cells, Pt.slots] at X11' l11 y11 z11 st11 hQ11
  subst l11 y11 z11
  obtain ⟨rfl, N11q, e11⟩ := hQ11
  obtain ⟨lc11, X11, N11⟩ : ∃ lc, Stand p l e ({ frames := 6, cells := 0, slots := 0, locals := 102 } : Room) s m #[(.ref a1), (.double (0 : UInt64))] below meth c T11 lc 0 0 ∧ Fr n0 lc := ⟨_, X11', Fr.app N0 N11q⟩
  have K12 : Gx p e below s₁ f0 T11 (mkF m 28 #[.val (.ref a1), .val (.double (0 : UInt64)), .second, .unset, .unset, .unset, .unset, .unset] [(.long (maxJ (1 : Int64) (0 : Int64)))]) := fun t kt => K10 t (st11 t kt)
  rw [(by decide +kernel : (maxJ (1 : Int64) (0 : Int64)) = (1 : Int64))] at K12
  have K13 : Gx p e below s₁ f0 T11 (mkF m 35 #[.val (.ref a1), .val (.double (0 : UInt64)), .second, .val (.long (1 : Int64)), .second, .val (.long (0 : Int64)), .second, .val (.int (0 : Int32))] []) := fun t kt => K12 t (by
    show Steps p.tables e below (T11.setTop (mkF m 28 #[.val (.ref a1), .val (.double (0 : UInt64)), .second, .unset, .unset, .unset, .unset, .unset] [(.long (1 : Int64))])) _
    refine XS.lstoreN X11.here hx rfl (hb hby d8_28) rfl (l' := #[.val (.ref a1), .val (.double (0 : UInt64)), .second, .val (.long (1 : Int64)), .second, .unset, .unset, .unset]) rfl ?_
    show Steps p.tables e below (T11.setTop (mkF m 29 #[.val (.ref a1), .val (.double (0 : UInt64)), .second, .val (.long (1 : Int64)), .second, .unset, .unset, .unset] [])) _
    refine XS.lconst X11.here hx rfl (hb hby d8_29) ?_
    show Steps p.tables e below (T11.setTop (mkF m 30 #[.val (.ref a1), .val (.double (0 : UInt64)), .second, .val (.long (1 : Int64)), .second, .unset, .unset, .unset] [(.long (0 : Int64))])) _
    refine XS.lstore X11.here hx rfl (hb hby d8_30) rfl (l' := #[.val (.ref a1), .val (.double (0 : UInt64)), .second, .val (.long (1 : Int64)), .second, .val (.long (0 : Int64)), .second, .unset]) rfl ?_
    show Steps p.tables e below (T11.setTop (mkF m 32 #[.val (.ref a1), .val (.double (0 : UInt64)), .second, .val (.long (1 : Int64)), .second, .val (.long (0 : Int64)), .second, .unset] [])) _
    refine XS.iconst X11.here hx rfl (hb hby d8_32) ?_
    show Steps p.tables e below (T11.setTop (mkF m 33 #[.val (.ref a1), .val (.double (0 : UInt64)), .second, .val (.long (1 : Int64)), .second, .val (.long (0 : Int64)), .second, .unset] [(.int (0 : Int32))])) _
    refine XS.istore X11.here hx rfl (hb hby d8_33) rfl (l' := #[.val (.ref a1), .val (.double (0 : UInt64)), .second, .val (.long (1 : Int64)), .second, .val (.long (0 : Int64)), .second, .val (.int (0 : Int32))]) rfl ?_
    exact kt)
  obtain ⟨T14, X14, e14, st14⟩ := qloop Z a0 hw (R := ({ frames := 6, cells := 0, slots := 0, locals := 102 } : Room)) (fr := (0 : UInt64)) (rk := (1 : Int64)) hx hby hml hown hZ N11 pr1 pr3 hJ hJa hJb J 0 (Nat.zero_add J) T11 X11 e11
  have K15 : Gx p e below s₁ f0 T14 (mkF m 68 #[.val (.ref a1), .val (.double (0 : UInt64)), .second, .val (.long (1 : Int64)), .second, .val (.long (prf ff J)), .second, .val (.int (Int32.ofNat J))] []) := fun t kt => K13 t (st14 t kt)
  have K16 : Gx p e below s₁ f0 T14 (mkF m 70 #[.val (.ref a1), .val (.double (0 : UInt64)), .second, .val (.long (1 : Int64)), .second, .val (.long (prf ff J)), .second, .val (.int (Int32.ofNat J))] [(.int (Int32.ofNat J))]) := fun t kt => K15 t (by
    show Steps p.tables e below (T14.setTop (mkF m 68 #[.val (.ref a1), .val (.double (0 : UInt64)), .second, .val (.long (1 : Int64)), .second, .val (.long (prf ff J)), .second, .val (.int (Int32.ofNat J))] [])) _
    refine XS.iload X14.here hx rfl (hb hby d8_68) rfl ?_
    exact kt)
  obtain ⟨_, _, ⟨T17, L17, k17, n17⟩, -, X17', ⟨Lc17, hQ17, l17, y17, z17⟩, st17⟩ := Jvm.LawKit.callS X14 hx (y := (⟨"com/example/tideshift/tideshift/cli/LatencyHistogram", "middle", "(I)D"⟩ : MethodName)) hown (mvT hZ (hw _ (List.mem_of_getElem? (i := 77) rfl))) (mvT hZ (hw _ (List.mem_of_getElem? (i := 78) rfl))) (mvT hZ (hw _ (List.mem_of_getElem? (i := 2) rfl))) (mvT hZ (hw _ (List.mem_of_getElem? (i := 79) rfl))) (by decide) (backOf (W := 0) (rmMid l Z a0 hw [] (Int32.ofNat J) h0 n0 (Nat.le_trans Z0 (Keep.refl h0 []).1) ) hZ (hw _ (List.mem_of_getElem? (i := 79) rfl)) (hw _ (List.mem_of_getElem? (i := 2) rfl)) (by decide) (by decide)) (g := (mkF m 70 #[.val (.ref a1), .val (.double (0 : UInt64)), .second, .val (.long (1 : Int64)), .second, .val (.long (prf ff J)), .second, .val (.int (Int32.ofNat J))] [(.int (Int32.ofNat J))])) rfl (by rw [hml]; rfl) (argsL := [(.int (Int32.ofNat J))]) (rest := []) (lenOf pd__I_D rfl) rfl (by show 2 * 0 + _ ≤ _; exact Nat.le_of_eq rfl) (hb hby d8_70) (fun _ _ => ⟨rfl, e14, (by decide : 0 + 0 ≤ _), (by decide : 0 + 0 ≤ _)⟩)
  dsimp only [Pt.U, Pt.locs, Pt.cells, Pt.slots] at X17' l17 y17 z17 st17 hQ17
  subst l17 y17 z17
  obtain ⟨rfl, N17q, e17⟩ := hQ17
  obtain ⟨lc17, X17, N17⟩ : ∃ lc, Stand p l e ({ frames := 6, cells := 0, slots := 0, locals := 102 } : Room) s m #[(.ref a1), (.double (0 : UInt64))] below meth c T17 lc 0 0 ∧ Fr n0 lc := ⟨_, X17', Fr.app N11 N17q⟩
  have K18 : Gx p e below s₁ f0 T17 (mkF m 73 #[.val (.ref a1), .val (.double (0 : UInt64)), .second, .val (.long (1 : Int64)), .second, .val (.long (prf ff J)), .second, .val (.int (Int32.ofNat J))] [(.double (midF (Int32.ofNat J)))]) := fun t kt => K16 t (st17 t kt)
  obtain ⟨fs19, hr19, hrun19, hended19, hW19, hsame19⟩ := X17.leave (v := some (.double (midF (Int32.ofNat J)))) (fun h => by rw [Bd.returns] at h; cases h)
  refine ⟨_, _, pre0 _ (K18 _ ?_), hrun19, hended19, _, _, rfl, ?_, ⟨_, rfl⟩, hW19, hsame19.mono (by decide) (by decide)⟩
  · exact retD X17 hx Bd.returns (hb hby d8_73) hr19
  · show QQnt10 Z a1 va ka ff J h0 n0 _ T17.heap _
    rw [e17]
    exact ⟨rfl, N17, rfl⟩
theorem ef_Qnt11 (m : MethodId) (a1 : Addr) : entryFrame m #[(.ref a1), (.double (4607182418800017408 : UInt64))] 8 = mkF m 0 #[.val (.ref a1), .val (.double (4607182418800017408 : UInt64)), .second, .unset, .unset, .unset, .unset, .unset] [] := by first | (simp [entryFrame, mkF, argsToLocals, Value.category]; done) | rfl
def QQnt11 (Z : State) (a1 : Addr) (va : Addr) (ka : ClassId) (ff : Nat → Int64) (J : Nat) (h0 : Heap) (n0 : Nat) (v : Option Value) (h : Heap) (L : List Loc) : Prop := v = some (.double (midF (Int32.ofNat J))) ∧ Fr n0 L ∧ h = h0
set_option maxRecDepth 65536 in
set_option maxHeartbeats 40000000 in
theorem rmQnt11 (l : Launch) (Z : State) (a0 : Array Value) (hw : ∀ d ∈ tables_1, d.before a0 Z = true) (ws : List Jvm.Cond) (a1 : Addr) (va : Addr) (ka : ClassId) (ff : Nat → Int64) (J : Nat) (h0 : Heap) (n0 : Nat) (Z0 : n0 ≤ h0.size) (pr0 : Exa Z h0 a1 "com/example/tideshift/tideshift/cli/LatencyHistogram") (pr1 : Fld Z h0 a1 "com/example/tideshift/tideshift/cli/LatencyHistogram" "counts" "[J" (.ref va)) (pr2 : Fld Z h0 a1 "com/example/tideshift/tideshift/cli/LatencyHistogram" "count" "J" (.long (1 : Int64))) (pr3 : Arv Z h0 va ka .long (3712 : Int32) (tab ff) (.long (0 : Int64))) (pr4 : Old Z n0 h0) (pr5 : Sta Z Z.heap "java/lang/StrictMath" "$assertionsDisabled" "Z" (.int (1 : Int32))) (hJ : J < 3712) (hJa : ∀ i, i < J → prf ff (i + 1) < (1 : Int64)) (hJb : ¬ (prf ff (J + 1) < (1 : Int64))) :
    MetFree l (⟨"com/example/tideshift/tideshift/cli/LatencyHistogram", "quantile", "(D)D"⟩ : MethodName) (head1 (Jvm.Cond.code (⟨"com/example/tideshift/tideshift/cli/LatencyHistogram", "quantile", "(D)D"⟩ : MethodName) prog_30_method_6_code 8 (some .double) :: ws) ({ frames := 6, cells := 0, slots := 0, locals := 102 } : Room)) (fun a U => a = #[(.ref a1), (.double (4607182418800017408 : UInt64))] ∧ Z.Warmed39 U.vm ∧ U.heap = h0) (fun _ _ _ _ _ => True) (fun _ U o U' => ∃ v L, o = .returned v ∧ QQnt11 Z a1 va ka ff J h0 n0 v U'.heap L ∧ FrameEnd U o U' L ({ frames := 6, cells := 0, slots := 0, locals := 102 } : Room).cells ({ frames := 6, cells := 0, slots := 0, locals := 102 } : Room).slots) := by
  refine MetFree.of_bodySF (plainFor_of_name pn_8) hisR ?_
  intro p e s m args below meth c s₁ Bd hml0 hP hK
  obtain ⟨rfl, hZ, hh⟩ := hP
  have hx := Bd.exec
  have hby := Bd.bytes
  have hml : c.maxLocals = 8 := hml0
  have hown : s.vm.findClass "com/example/tideshift/tideshift/cli/LatencyHistogram" = some m.cls := findClass_of_methodNamed Bd.named
  have hnm := (name_of_methodNamed Bd.named Bd.method).1
  have X0 : Stand p l e ({ frames := 6, cells := 0, slots := 0, locals := 102 } : Room) s m #[(.ref a1), (.double (4607182418800017408 : UInt64))] below meth c s₁ [] 0 0 := Stand.of_body Bd
  have hs0 : h0 = s.heap := hh.symm
  have e0 : s₁.heap = h0 := by rw [← hh, Bd.state]; rfl
  have N0 := Fr.nil n0
  obtain ⟨f0, hf0⟩ : ∃ f, f = entryFrame m #[(.ref a1), (.double (4607182418800017408 : UInt64))] 8 := ⟨_, rfl⟩
  have pre0 : ∀ t, Steps p.tables e below (s₁.setTop f0) t → Steps p.tables e below (s₁.setTop (entryFrame m #[(.ref a1), (.double (4607182418800017408 : UInt64))] 8)) t := fun t k => hf0 ▸ k
  have K0 : Gx p e below s₁ f0 s₁ (mkF m 0 #[.val (.ref a1), .val (.double (4607182418800017408 : UInt64)), .second, .unset, .unset, .unset, .unset, .unset] []) := fun t kt => by rw [hf0]; exact castTop (ef_Qnt11 m a1) kt
  have K1 : Gx p e below s₁ f0 s₁ (mkF m 1 #[.val (.ref a1), .val (.double (4607182418800017408 : UInt64)), .second, .unset, .unset, .unset, .unset, .unset] [(.ref a1)]) := fun t kt => K0 t (by
    show Steps p.tables e below (s₁.setTop (mkF m 0 #[.val (.ref a1), .val (.double (4607182418800017408 : UInt64)), .second, .unset, .unset, .unset, .unset, .unset] [])) _
    refine XS.aloadN X0.here hx rfl (hb hby d8_0) rfl rfl ?_
    exact kt)
  obtain ⟨T2, X2, e2, st2⟩ := getF X0 hx hZ hown (host := "") (Or.inl (hw _ (List.mem_of_getElem? (i := 31) rfl))) Via.refl e0 pr2 (g := (mkF m 1 #[.val (.ref a1), .val (.double (4607182418800017408 : UInt64)), .second, .unset, .unset, .unset, .unset, .unset] [(.ref a1)])) rfl rfl (hb hby d8_1)
  have K3 : Gx p e below s₁ f0 T2 (mkF m 4 #[.val (.ref a1), .val (.double (4607182418800017408 : UInt64)), .second, .unset, .unset, .unset, .unset, .unset] [(.long (1 : Int64))]) := fun t kt => K1 t (st2 t kt)
  have K4 : Gx p e below s₁ f0 T2 (mkF m 16 #[.val (.ref a1), .val (.double (4607182418800017408 : UInt64)), .second, .unset, .unset, .unset, .unset, .unset] [(.ref a1), (.double (4607182418800017408 : UInt64)), (.long (1 : Int64))]) := fun t kt => K3 t (by
    show Steps p.tables e below (T2.setTop (mkF m 4 #[.val (.ref a1), .val (.double (4607182418800017408 : UInt64)), .second, .unset, .unset, .unset, .unset, .unset] [(.long (1 : Int64))])) _
    refine XS.lconst X2.here hx rfl (hb hby d8_4) ?_
    show Steps p.tables e below (T2.setTop (mkF m 5 #[.val (.ref a1), .val (.double (4607182418800017408 : UInt64)), .second, .unset, .unset, .unset, .unset, .unset] [(.long (0 : Int64)), (.long (1 : Int64))])) _
    refine XS.lcmp X2.here hx rfl (hb hby d8_5) rfl ?_
    show Steps p.tables e below (T2.setTop (mkF m 6 #[.val (.ref a1), .val (.double (4607182418800017408 : UInt64)), .second, .unset, .unset, .unset, .unset, .unset] [(.int (lcmpW (1 : Int64) (0 : Int64)))])) _
    refine XS.ifYes X2.here hx rfl (pc0 := 6) (pc' := 13) rfl (hb hby d8_6) rfl ((if0 _ _).trans (feq (by decide)).2) (by decide) (by decide) ?_
    show Steps p.tables e below (T2.setTop (mkF m 13 #[.val (.ref a1), .val (.double (4607182418800017408 : UInt64)), .second, .unset, .unset, .unset, .unset, .unset] [])) _
    refine XS.lconst X2.here hx rfl (hb hby d8_13) ?_
    show Steps p.tables e below (T2.setTop (mkF m 14 #[.val (.ref a1), .val (.double (4607182418800017408 : UInt64)), .second, .unset, .unset, .unset, .unset, .unset] [(.long (1 : Int64))])) _
    refine XS.dloadN X2.here hx rfl (hb hby d8_14) rfl ?_
    show Steps p.tables e below (T2.setTop (mkF m 15 #[.val (.ref a1), .val (.double (4607182418800017408 : UInt64)), .second, .unset, .unset, .unset, .unset, .unset] [(.double (4607182418800017408 : UInt64)), (.long (1 : Int64))])) _
    refine XS.aloadN X2.here hx rfl (hb hby d8_15) rfl rfl ?_
    exact kt)
  obtain ⟨T5, X5, e5, st5⟩ := getF X2 hx hZ hown (host := "") (Or.inl (hw _ (List.mem_of_getElem? (i := 31) rfl))) Via.refl e2 pr2 (g := (mkF m 16 #[.val (.ref a1), .val (.double (4607182418800017408 : UInt64)), .second, .unset, .unset, .unset, .unset, .unset] [(.ref a1), (.double (4607182418800017408 : UInt64)), (.long (1 : Int64))])) rfl rfl (hb hby d8_16)
  have K6 : Gx p e below s₁ f0 T5 (mkF m 19 #[.val (.ref a1), .val (.double (4607182418800017408 : UInt64)), .second, .unset, .unset, .unset, .unset, .unset] [(.long (1 : Int64)), (.double (4607182418800017408 : UInt64)), (.long (1 : Int64))]) := fun t kt => K4 t (st5 t kt)
  have K7 : Gx p e below s₁ f0 T5 (mkF m 21 #[.val (.ref a1), .val (.double (4607182418800017408 : UInt64)), .second, .unset, .unset, .unset, .unset, .unset] [(.double (4607182418800017408 : UInt64)), (.long (1 : Int64))]) := fun t kt => K6 t (by
    show Steps p.tables e below (T5.setTop (mkF m 19 #[.val (.ref a1), .val (.double (4607182418800017408 : UInt64)), .second, .unset, .unset, .unset, .unset, .unset] [(.long (1 : Int64)), (.double (4607182418800017408 : UInt64)), (.long (1 : Int64))])) _
    refine XS.l2dS X5.here hx rfl (hb hby d8_19) rfl (v := (4607182418800017408 : UInt64)) (by decide +kernel) ?_
    show Steps p.tables e below (T5.setTop (mkF m 20 #[.val (.ref a1), .val (.double (4607182418800017408 : UInt64)), .second, .unset, .unset, .unset, .unset, .unset] [(.double (4607182418800017408 : UInt64)), (.double (4607182418800017408 : UInt64)), (.long (1 : Int64))])) _
    refine XS.dmulS X5.here hx rfl (hb hby d8_20) rfl (by unfold Jvm.Free.Fl.NoNaN64; decide +kernel) (v := (4607182418800017408 : UInt64)) (by decide +kernel) ?_
    exact kt)
  obtain ⟨T8, X8, e8, st8⟩ := ceilRaw1 X5 hx Z a0 hw hZ hown e5 pr4 pr5 (g := (mkF m 21 #[.val (.ref a1), .val (.double (4607182418800017408 : UInt64)), .second, .unset, .unset, .unset, .unset, .unset] [(.double (4607182418800017408 : UInt64)), (.long (1 : Int64))])) rfl (by rw [hml]; rfl) rfl (hb hby d8_21) (by decide) (by show 2 * 0 + 2 + 100 ≤ _; decide) (by decide) (by decide)
  have K9 : Gx p e below s₁ f0 T8 (mkF m 24 #[.val (.ref a1), .val (.double (4607182418800017408 : UInt64)), .second, .unset, .unset, .unset, .unset, .unset] [(.double (4607182418800017408 : UInt64)), (.long (1 : Int64))]) := fun t kt => K7 t (st8 t kt)
  have K10 : Gx p e below s₁ f0 T8 (mkF m 25 #[.val (.ref a1), .val (.double (4607182418800017408 : UInt64)), .second, .unset, .unset, .unset, .unset, .unset] [(.long (1 : Int64)), (.long (1 : Int64))]) := fun t kt => K9 t (by
    show Steps p.tables e below (T8.setTop (mkF m 24 #[.val (.ref a1), .val (.double (4607182418800017408 : UInt64)), .second, .unset, .unset, .unset, .unset, .unset] [(.double (4607182418800017408 : UInt64)), (.long (1 : Int64))])) _
    refine XS.d2lS X8.here hx rfl (hb hby d8_24) rfl (v := (1 : Int64)) (by decide +kernel) ?_
    exact kt)
  obtain ⟨_, _, ⟨T11, L11, k11, n11⟩, -, X11', ⟨Lc11, hQ11, l11, y11, z11⟩, st11⟩ := Jvm.LawKit.callS X8 hx (y := (⟨"java/lang/Math", "max", "(JJ)J"⟩ : MethodName)) hown (mvT hZ (hw _ (List.mem_of_getElem? (i := 53) rfl))) (mvT hZ (hw _ (List.mem_of_getElem? (i := 54) rfl))) (mvT hZ (hw _ (List.mem_of_getElem? (i := 55) rfl))) (mvT hZ (hw _ (List.mem_of_getElem? (i := 56) rfl))) (by decide) (backOf (W := 0) (rmMax l Z a0 hw [] (1 : Int64) (1 : Int64) h0 n0 (Nat.le_trans Z0 (Keep.refl h0 []).1) ) hZ (hw _ (List.mem_of_getElem? (i := 56) rfl)) (hw _ (List.mem_of_getElem? (i := 55) rfl)) (by decide) (by decide)) (g := (mkF m 25 #[.val (.ref a1), .val (.double (4607182418800017408 : UInt64)), .second, .unset, .unset, .unset, .unset, .unset] [(.long (1 : Int64)), (.long (1 : Int64))])) rfl (by rw [hml]; rfl) (argsL := [(.long (1 : Int64)), (.long (1 : Int64))]) (rest := []) (lenOf pd__JJ_J rfl) rfl (by show 2 * 0 + _ ≤ _; exact Nat.le_of_eq rfl) (hb hby d8_25) (fun _ _ => ⟨rfl, e8, (by decide : 0 + 0 ≤ _), (by decide : 0 + 0 ≤ _)⟩)
  dsimp only [Pt.U, Pt.locs, Pt.cells, Pt.slots] at X11' l11 y11 z11 st11 hQ11
  subst l11 y11 z11
  obtain ⟨rfl, N11q, e11⟩ := hQ11
  obtain ⟨lc11, X11, N11⟩ : ∃ lc, Stand p l e ({ frames := 6, cells := 0, slots := 0, locals := 102 } : Room) s m #[(.ref a1), (.double (4607182418800017408 : UInt64))] below meth c T11 lc 0 0 ∧ Fr n0 lc := ⟨_, X11', Fr.app N0 N11q⟩
  have K12 : Gx p e below s₁ f0 T11 (mkF m 28 #[.val (.ref a1), .val (.double (4607182418800017408 : UInt64)), .second, .unset, .unset, .unset, .unset, .unset] [(.long (maxJ (1 : Int64) (1 : Int64)))]) := fun t kt => K10 t (st11 t kt)
  rw [(by decide +kernel : (maxJ (1 : Int64) (1 : Int64)) = (1 : Int64))] at K12
  have K13 : Gx p e below s₁ f0 T11 (mkF m 35 #[.val (.ref a1), .val (.double (4607182418800017408 : UInt64)), .second, .val (.long (1 : Int64)), .second, .val (.long (0 : Int64)), .second, .val (.int (0 : Int32))] []) := fun t kt => K12 t (by
    show Steps p.tables e below (T11.setTop (mkF m 28 #[.val (.ref a1), .val (.double (4607182418800017408 : UInt64)), .second, .unset, .unset, .unset, .unset, .unset] [(.long (1 : Int64))])) _
    refine XS.lstoreN X11.here hx rfl (hb hby d8_28) rfl (l' := #[.val (.ref a1), .val (.double (4607182418800017408 : UInt64)), .second, .val (.long (1 : Int64)), .second, .unset, .unset, .unset]) rfl ?_
    show Steps p.tables e below (T11.setTop (mkF m 29 #[.val (.ref a1), .val (.double (4607182418800017408 : UInt64)), .second, .val (.long (1 : Int64)), .second, .unset, .unset, .unset] [])) _
    refine XS.lconst X11.here hx rfl (hb hby d8_29) ?_
    show Steps p.tables e below (T11.setTop (mkF m 30 #[.val (.ref a1), .val (.double (4607182418800017408 : UInt64)), .second, .val (.long (1 : Int64)), .second, .unset, .unset, .unset] [(.long (0 : Int64))])) _
    refine XS.lstore X11.here hx rfl (hb hby d8_30) rfl (l' := #[.val (.ref a1), .val (.double (4607182418800017408 : UInt64)), .second, .val (.long (1 : Int64)), .second, .val (.long (0 : Int64)), .second, .unset]) rfl ?_
    show Steps p.tables e below (T11.setTop (mkF m 32 #[.val (.ref a1), .val (.double (4607182418800017408 : UInt64)), .second, .val (.long (1 : Int64)), .second, .val (.long (0 : Int64)), .second, .unset] [])) _
    refine XS.iconst X11.here hx rfl (hb hby d8_32) ?_
    show Steps p.tables e below (T11.setTop (mkF m 33 #[.val (.ref a1), .val (.double (4607182418800017408 : UInt64)), .second, .val (.long (1 : Int64)), .second, .val (.long (0 : Int64)), .second, .unset] [(.int (0 : Int32))])) _
    refine XS.istore X11.here hx rfl (hb hby d8_33) rfl (l' := #[.val (.ref a1), .val (.double (4607182418800017408 : UInt64)), .second, .val (.long (1 : Int64)), .second, .val (.long (0 : Int64)), .second, .val (.int (0 : Int32))]) rfl ?_
    exact kt)
  obtain ⟨T14, X14, e14, st14⟩ := qloop Z a0 hw (R := ({ frames := 6, cells := 0, slots := 0, locals := 102 } : Room)) (fr := (4607182418800017408 : UInt64)) (rk := (1 : Int64)) hx hby hml hown hZ N11 pr1 pr3 hJ hJa hJb J 0 (Nat.zero_add J) T11 X11 e11
  have K15 : Gx p e below s₁ f0 T14 (mkF m 68 #[.val (.ref a1), .val (.double (4607182418800017408 : UInt64)), .second, .val (.long (1 : Int64)), .second, .val (.long (prf ff J)), .second, .val (.int (Int32.ofNat J))] []) := fun t kt => K13 t (st14 t kt)
  have K16 : Gx p e below s₁ f0 T14 (mkF m 70 #[.val (.ref a1), .val (.double (4607182418800017408 : UInt64)), .second, .val (.long (1 : Int64)), .second, .val (.long (prf ff J)), .second, .val (.int (Int32.ofNat J))] [(.int (Int32.ofNat J))]) := fun t kt => K15 t (by
    show Steps p.tables e below (T14.setTop (mkF m 68 #[.val (.ref a1), .val (.double (4607182418800017408 : UInt64)), .second, .val (.long (1 : Int64)), .second, .val (.long (prf ff J)), .second, .val (.int (Int32.ofNat J))] [])) _
    refine XS.iload X14.here hx rfl (hb hby d8_68) rfl ?_
    exact kt)
  obtain ⟨_, _, ⟨T17, L17, k17, n17⟩, -, X17', ⟨Lc17, hQ17, l17, y17, z17⟩, st17⟩ := Jvm.LawKit.callS X14 hx (y := (⟨"com/example/tideshift/tideshift/cli/LatencyHistogram", "middle", "(I)D"⟩ : MethodName)) hown (mvT hZ (hw _ (List.mem_of_getElem? (i := 77) rfl))) (mvT hZ (hw _ (List.mem_of_getElem? (i := 78) rfl))) (mvT hZ (hw _ (List.mem_of_getElem? (i := 2) rfl))) (mvT hZ (hw _ (List.mem_of_getElem? (i := 79) rfl))) (by decide) (backOf (W := 0) (rmMid l Z a0 hw [] (Int32.ofNat J) h0 n0 (Nat.le_trans Z0 (Keep.refl h0 []).1) ) hZ (hw _ (List.mem_of_getElem? (i := 79) rfl)) (hw _ (List.mem_of_getElem? (i := 2) rfl)) (by decide) (by decide)) (g := (mkF m 70 #[.val (.ref a1), .val (.double (4607182418800017408 : UInt64)), .second, .val (.long (1 : Int64)), .second, .val (.long (prf ff J)), .second, .val (.int (Int32.ofNat J))] [(.int (Int32.ofNat J))])) rfl (by rw [hml]; rfl) (argsL := [(.int (Int32.ofNat J))]) (rest := []) (lenOf pd__I_D rfl) rfl (by show 2 * 0 + _ ≤ _; exact Nat.le_of_eq rfl) (hb hby d8_70) (fun _ _ => ⟨rfl, e14, (by decide : 0 + 0 ≤ _), (by decide : 0 + 0 ≤ _)⟩)
  dsimp only [Pt.U, Pt.locs, Pt.cells, Pt.slots] at X17' l17 y17 z17 st17 hQ17
  subst l17 y17 z17
  obtain ⟨rfl, N17q, e17⟩ := hQ17
  obtain ⟨lc17, X17, N17⟩ : ∃ lc, Stand p l e ({ frames := 6, cells := 0, slots := 0, locals := 102 } : Room) s m #[(.ref a1), (.double (4607182418800017408 : UInt64))] below meth c T17 lc 0 0 ∧ Fr n0 lc := ⟨_, X17', Fr.app N11 N17q⟩
  have K18 : Gx p e below s₁ f0 T17 (mkF m 73 #[.val (.ref a1), .val (.double (4607182418800017408 : UInt64)), .second, .val (.long (1 : Int64)), .second, .val (.long (prf ff J)), .second, .val (.int (Int32.ofNat J))] [(.double (midF (Int32.ofNat J)))]) := fun t kt => K16 t (st17 t kt)
  obtain ⟨fs19, hr19, hrun19, hended19, hW19, hsame19⟩ := X17.leave (v := some (.double (midF (Int32.ofNat J)))) (fun h => by rw [Bd.returns] at h; cases h)
  refine ⟨_, _, pre0 _ (K18 _ ?_), hrun19, hended19, _, _, rfl, ?_, ⟨_, rfl⟩, hW19, hsame19.mono (by decide) (by decide)⟩
  · exact retD X17 hx Bd.returns (hb hby d8_73) hr19
  · show QQnt11 Z a1 va ka ff J h0 n0 _ T17.heap _
    rw [e17]
    exact ⟨rfl, N17, rfl⟩
theorem ef_Qnt20 (m : MethodId) (a1 : Addr) : entryFrame m #[(.ref a1), (.double (0 : UInt64))] 8 = mkF m 0 #[.val (.ref a1), .val (.double (0 : UInt64)), .second, .unset, .unset, .unset, .unset, .unset] [] := by first | (simp [entryFrame, mkF, argsToLocals, Value.category]; done) | rfl
def QQnt20 (Z : State) (a1 : Addr) (va : Addr) (ka : ClassId) (ff : Nat → Int64) (J : Nat) (h0 : Heap) (n0 : Nat) (v : Option Value) (h : Heap) (L : List Loc) : Prop := v = some (.double (midF (Int32.ofNat J))) ∧ Fr n0 L ∧ h = h0
set_option maxRecDepth 65536 in
set_option maxHeartbeats 40000000 in
theorem rmQnt20 (l : Launch) (Z : State) (a0 : Array Value) (hw : ∀ d ∈ tables_1, d.before a0 Z = true) (ws : List Jvm.Cond) (a1 : Addr) (va : Addr) (ka : ClassId) (ff : Nat → Int64) (J : Nat) (h0 : Heap) (n0 : Nat) (Z0 : n0 ≤ h0.size) (pr0 : Exa Z h0 a1 "com/example/tideshift/tideshift/cli/LatencyHistogram") (pr1 : Fld Z h0 a1 "com/example/tideshift/tideshift/cli/LatencyHistogram" "counts" "[J" (.ref va)) (pr2 : Fld Z h0 a1 "com/example/tideshift/tideshift/cli/LatencyHistogram" "count" "J" (.long (2 : Int64))) (pr3 : Arv Z h0 va ka .long (3712 : Int32) (tab ff) (.long (0 : Int64))) (pr4 : Old Z n0 h0) (pr5 : Sta Z Z.heap "java/lang/StrictMath" "$assertionsDisabled" "Z" (.int (1 : Int32))) (hJ : J < 3712) (hJa : ∀ i, i < J → prf ff (i + 1) < (1 : Int64)) (hJb : ¬ (prf ff (J + 1) < (1 : Int64))) :
    MetFree l (⟨"com/example/tideshift/tideshift/cli/LatencyHistogram", "quantile", "(D)D"⟩ : MethodName) (head1 (Jvm.Cond.code (⟨"com/example/tideshift/tideshift/cli/LatencyHistogram", "quantile", "(D)D"⟩ : MethodName) prog_30_method_6_code 8 (some .double) :: ws) ({ frames := 6, cells := 0, slots := 0, locals := 102 } : Room)) (fun a U => a = #[(.ref a1), (.double (0 : UInt64))] ∧ Z.Warmed39 U.vm ∧ U.heap = h0) (fun _ _ _ _ _ => True) (fun _ U o U' => ∃ v L, o = .returned v ∧ QQnt20 Z a1 va ka ff J h0 n0 v U'.heap L ∧ FrameEnd U o U' L ({ frames := 6, cells := 0, slots := 0, locals := 102 } : Room).cells ({ frames := 6, cells := 0, slots := 0, locals := 102 } : Room).slots) := by
  refine MetFree.of_bodySF (plainFor_of_name pn_8) hisR ?_
  intro p e s m args below meth c s₁ Bd hml0 hP hK
  obtain ⟨rfl, hZ, hh⟩ := hP
  have hx := Bd.exec
  have hby := Bd.bytes
  have hml : c.maxLocals = 8 := hml0
  have hown : s.vm.findClass "com/example/tideshift/tideshift/cli/LatencyHistogram" = some m.cls := findClass_of_methodNamed Bd.named
  have hnm := (name_of_methodNamed Bd.named Bd.method).1
  have X0 : Stand p l e ({ frames := 6, cells := 0, slots := 0, locals := 102 } : Room) s m #[(.ref a1), (.double (0 : UInt64))] below meth c s₁ [] 0 0 := Stand.of_body Bd
  have hs0 : h0 = s.heap := hh.symm
  have e0 : s₁.heap = h0 := by rw [← hh, Bd.state]; rfl
  have N0 := Fr.nil n0
  obtain ⟨f0, hf0⟩ : ∃ f, f = entryFrame m #[(.ref a1), (.double (0 : UInt64))] 8 := ⟨_, rfl⟩
  have pre0 : ∀ t, Steps p.tables e below (s₁.setTop f0) t → Steps p.tables e below (s₁.setTop (entryFrame m #[(.ref a1), (.double (0 : UInt64))] 8)) t := fun t k => hf0 ▸ k
  have K0 : Gx p e below s₁ f0 s₁ (mkF m 0 #[.val (.ref a1), .val (.double (0 : UInt64)), .second, .unset, .unset, .unset, .unset, .unset] []) := fun t kt => by rw [hf0]; exact castTop (ef_Qnt20 m a1) kt
  have K1 : Gx p e below s₁ f0 s₁ (mkF m 1 #[.val (.ref a1), .val (.double (0 : UInt64)), .second, .unset, .unset, .unset, .unset, .unset] [(.ref a1)]) := fun t kt => K0 t (by
    show Steps p.tables e below (s₁.setTop (mkF m 0 #[.val (.ref a1), .val (.double (0 : UInt64)), .second, .unset, .unset, .unset, .unset, .unset] [])) _
    refine XS.aloadN X0.here hx rfl (hb hby d8_0) rfl rfl ?_
    exact kt)
  obtain ⟨T2, X2, e2, st2⟩ := getF X0 hx hZ hown (host := "") (Or.inl (hw _ (List.mem_of_getElem? (i := 31) rfl))) Via.refl e0 pr2 (g := (mkF m 1 #[.val (.ref a1), .val (.double (0 : UInt64)), .second, .unset, .unset, .unset, .unset, .unset] [(.ref a1)])) rfl rfl (hb hby d8_1)
  have K3 : Gx p e below s₁ f0 T2 (mkF m 4 #[.val (.ref a1), .val (.double (0 : UInt64)), .second, .unset, .unset, .unset, .unset, .unset] [(.long (2 : Int64))]) := fun t kt => K1 t (st2 t kt)
  have K4 : Gx p e below s₁ f0 T2 (mkF m 16 #[.val (.ref a1), .val (.double (0 : UInt64)), .second, .unset, .unset, .unset, .unset, .unset] [(.ref a1), (.double (0 : UInt64)), (.long (1 : Int64))]) := fun t kt => K3 t (by
    show Steps p.tables e below (T2.setTop (mkF m 4 #[.val (.ref a1), .val (.double (0 : UInt64)), .second, .unset, .unset, .unset, .unset, .unset] [(.long (2 : Int64))])) _
    refine XS.lconst X2.here hx rfl (hb hby d8_4) ?_
    show Steps p.tables e below (T2.setTop (mkF m 5 #[.val (.ref a1), .val (.double (0 : UInt64)), .second, .unset, .unset, .unset, .unset, .unset] [(.long (0 : Int64)), (.long (2 : Int64))])) _
    refine XS.lcmp X2.here hx rfl (hb hby d8_5) rfl ?_
    show Steps p.tables e below (T2.setTop (mkF m 6 #[.val (.ref a1), .val (.double (0 : UInt64)), .second, .unset, .unset, .unset, .unset, .unset] [(.int (lcmpW (2 : Int64) (0 : Int64)))])) _
    refine XS.ifYes X2.here hx rfl (pc0 := 6) (pc' := 13) rfl (hb hby d8_6) rfl ((if0 _ _).trans (feq (by decide)).2) (by decide) (by decide) ?_
    show Steps p.tables e below (T2.setTop (mkF m 13 #[.val (.ref a1), .val (.double (0 : UInt64)), .second, .unset, .unset, .unset, .unset, .unset] [])) _
    refine XS.lconst X2.here hx rfl (hb hby d8_13) ?_
    show Steps p.tables e below (T2.setTop (mkF m 14 #[.val (.ref a1), .val (.double (0 : UInt64)), .second, .unset, .unset, .unset, .unset, .unset] [(.long (1 : Int64))])) _
    refine XS.dloadN X2.here hx rfl (hb hby d8_14) rfl ?_
    show Steps p.tables e below (T2.setTop (mkF m 15 #[.val (.ref a1), .val (.double (0 : UInt64)), .second, .unset, .unset, .unset, .unset, .unset] [(.double (0 : UInt64)), (.long (1 : Int64))])) _
    refine XS.aloadN X2.here hx rfl (hb hby d8_15) rfl rfl ?_
    exact kt)
  obtain ⟨T5, X5, e5, st5⟩ := getF X2 hx hZ hown (host := "") (Or.inl (hw _ (List.mem_of_getElem? (i := 31) rfl))) Via.refl e2 pr2 (g := (mkF m 16 #[.val (.ref a1), .val (.double (0 : UInt64)), .second, .unset, .unset, .unset, .unset, .unset] [(.ref a1), (.double (0 : UInt64)), (.long (1 : Int64))])) rfl rfl (hb hby d8_16)
  have K6 : Gx p e below s₁ f0 T5 (mkF m 19 #[.val (.ref a1), .val (.double (0 : UInt64)), .second, .unset, .unset, .unset, .unset, .unset] [(.long (2 : Int64)), (.double (0 : UInt64)), (.long (1 : Int64))]) := fun t kt => K4 t (st5 t kt)
  have K7 : Gx p e below s₁ f0 T5 (mkF m 21 #[.val (.ref a1), .val (.double (0 : UInt64)), .second, .unset, .unset, .unset, .unset, .unset] [(.double (0 : UInt64)), (.long (1 : Int64))]) := fun t kt => K6 t (by
    show Steps p.tables e below (T5.setTop (mkF m 19 #[.val (.ref a1), .val (.double (0 : UInt64)), .second, .unset, .unset, .unset, .unset, .unset] [(.long (2 : Int64)), (.double (0 : UInt64)), (.long (1 : Int64))])) _
    refine XS.l2dS X5.here hx rfl (hb hby d8_19) rfl (v := (4611686018427387904 : UInt64)) (by decide +kernel) ?_
    show Steps p.tables e below (T5.setTop (mkF m 20 #[.val (.ref a1), .val (.double (0 : UInt64)), .second, .unset, .unset, .unset, .unset, .unset] [(.double (4611686018427387904 : UInt64)), (.double (0 : UInt64)), (.long (1 : Int64))])) _
    refine XS.dmulS X5.here hx rfl (hb hby d8_20) rfl (by unfold Jvm.Free.Fl.NoNaN64; decide +kernel) (v := (0 : UInt64)) (by decide +kernel) ?_
    exact kt)
  obtain ⟨T8, X8, e8, st8⟩ := ceilRaw0 X5 hx Z a0 hw hZ hown e5 pr4 pr5 (g := (mkF m 21 #[.val (.ref a1), .val (.double (0 : UInt64)), .second, .unset, .unset, .unset, .unset, .unset] [(.double (0 : UInt64)), (.long (1 : Int64))])) rfl (by rw [hml]; rfl) rfl (hb hby d8_21) (by decide) (by show 2 * 0 + 2 + 100 ≤ _; decide) (by decide) (by decide)
  have K9 : Gx p e below s₁ f0 T8 (mkF m 24 #[.val (.ref a1), .val (.double (0 : UInt64)), .second, .unset, .unset, .unset, .unset, .unset] [(.double (0 : UInt64)), (.long (1 : Int64))]) := fun t kt => K7 t (st8 t kt)
  have K10 : Gx p e below s₁ f0 T8 (mkF m 25 #[.val (.ref a1), .val (.double (0 : UInt64)), .second, .unset, .unset, .unset, .unset, .unset] [(.long (0 : Int64)), (.long (1 : Int64))]) := fun t kt => K9 t (by
    show Steps p.tables e below (T8.setTop (mkF m 24 #[.val (.ref a1), .val (.double (0 : UInt64)), .second, .unset, .unset, .unset, .unset, .unset] [(.double (0 : UInt64)), (.long (1 : Int64))])) _
    refine XS.d2lS X8.here hx rfl (hb hby d8_24) rfl (v := (0 : Int64)) (by decide +kernel) ?_
    exact kt)
  obtain ⟨_, _, ⟨T11, L11, k11, n11⟩, -, X11', ⟨Lc11, hQ11, l11, y11, z11⟩, st11⟩ := Jvm.LawKit.callS X8 hx (y := (⟨"java/lang/Math", "max", "(JJ)J"⟩ : MethodName)) hown (mvT hZ (hw _ (List.mem_of_getElem? (i := 53) rfl))) (mvT hZ (hw _ (List.mem_of_getElem? (i := 54) rfl))) (mvT hZ (hw _ (List.mem_of_getElem? (i := 55) rfl))) (mvT hZ (hw _ (List.mem_of_getElem? (i := 56) rfl))) (by decide) (backOf (W := 0) (rmMax l Z a0 hw [] (1 : Int64) (0 : Int64) h0 n0 (Nat.le_trans Z0 (Keep.refl h0 []).1) ) hZ (hw _ (List.mem_of_getElem? (i := 56) rfl)) (hw _ (List.mem_of_getElem? (i := 55) rfl)) (by decide) (by decide)) (g := (mkF m 25 #[.val (.ref a1), .val (.double (0 : UInt64)), .second, .unset, .unset, .unset, .unset, .unset] [(.long (0 : Int64)), (.long (1 : Int64))])) rfl (by rw [hml]; rfl) (argsL := [(.long (1 : Int64)), (.long (0 : Int64))]) (rest := []) (lenOf pd__JJ_J rfl) rfl (by show 2 * 0 + _ ≤ _; exact Nat.le_of_eq rfl) (hb hby d8_25) (fun _ _ => ⟨rfl, e8, (by decide : 0 + 0 ≤ _), (by decide : 0 + 0 ≤ _)⟩)
  dsimp only [Pt.U, Pt.locs, Pt.cells, Pt.slots] at X11' l11 y11 z11 st11 hQ11
  subst l11 y11 z11
  obtain ⟨rfl, N11q, e11⟩ := hQ11
  obtain ⟨lc11, X11, N11⟩ : ∃ lc, Stand p l e ({ frames := 6, cells := 0, slots := 0, locals := 102 } : Room) s m #[(.ref a1), (.double (0 : UInt64))] below meth c T11 lc 0 0 ∧ Fr n0 lc := ⟨_, X11', Fr.app N0 N11q⟩
  have K12 : Gx p e below s₁ f0 T11 (mkF m 28 #[.val (.ref a1), .val (.double (0 : UInt64)), .second, .unset, .unset, .unset, .unset, .unset] [(.long (maxJ (1 : Int64) (0 : Int64)))]) := fun t kt => K10 t (st11 t kt)
  rw [(by decide +kernel : (maxJ (1 : Int64) (0 : Int64)) = (1 : Int64))] at K12
  have K13 : Gx p e below s₁ f0 T11 (mkF m 35 #[.val (.ref a1), .val (.double (0 : UInt64)), .second, .val (.long (1 : Int64)), .second, .val (.long (0 : Int64)), .second, .val (.int (0 : Int32))] []) := fun t kt => K12 t (by
    show Steps p.tables e below (T11.setTop (mkF m 28 #[.val (.ref a1), .val (.double (0 : UInt64)), .second, .unset, .unset, .unset, .unset, .unset] [(.long (1 : Int64))])) _
    refine XS.lstoreN X11.here hx rfl (hb hby d8_28) rfl (l' := #[.val (.ref a1), .val (.double (0 : UInt64)), .second, .val (.long (1 : Int64)), .second, .unset, .unset, .unset]) rfl ?_
    show Steps p.tables e below (T11.setTop (mkF m 29 #[.val (.ref a1), .val (.double (0 : UInt64)), .second, .val (.long (1 : Int64)), .second, .unset, .unset, .unset] [])) _
    refine XS.lconst X11.here hx rfl (hb hby d8_29) ?_
    show Steps p.tables e below (T11.setTop (mkF m 30 #[.val (.ref a1), .val (.double (0 : UInt64)), .second, .val (.long (1 : Int64)), .second, .unset, .unset, .unset] [(.long (0 : Int64))])) _
    refine XS.lstore X11.here hx rfl (hb hby d8_30) rfl (l' := #[.val (.ref a1), .val (.double (0 : UInt64)), .second, .val (.long (1 : Int64)), .second, .val (.long (0 : Int64)), .second, .unset]) rfl ?_
    show Steps p.tables e below (T11.setTop (mkF m 32 #[.val (.ref a1), .val (.double (0 : UInt64)), .second, .val (.long (1 : Int64)), .second, .val (.long (0 : Int64)), .second, .unset] [])) _
    refine XS.iconst X11.here hx rfl (hb hby d8_32) ?_
    show Steps p.tables e below (T11.setTop (mkF m 33 #[.val (.ref a1), .val (.double (0 : UInt64)), .second, .val (.long (1 : Int64)), .second, .val (.long (0 : Int64)), .second, .unset] [(.int (0 : Int32))])) _
    refine XS.istore X11.here hx rfl (hb hby d8_33) rfl (l' := #[.val (.ref a1), .val (.double (0 : UInt64)), .second, .val (.long (1 : Int64)), .second, .val (.long (0 : Int64)), .second, .val (.int (0 : Int32))]) rfl ?_
    exact kt)
  obtain ⟨T14, X14, e14, st14⟩ := qloop Z a0 hw (R := ({ frames := 6, cells := 0, slots := 0, locals := 102 } : Room)) (fr := (0 : UInt64)) (rk := (1 : Int64)) hx hby hml hown hZ N11 pr1 pr3 hJ hJa hJb J 0 (Nat.zero_add J) T11 X11 e11
  have K15 : Gx p e below s₁ f0 T14 (mkF m 68 #[.val (.ref a1), .val (.double (0 : UInt64)), .second, .val (.long (1 : Int64)), .second, .val (.long (prf ff J)), .second, .val (.int (Int32.ofNat J))] []) := fun t kt => K13 t (st14 t kt)
  have K16 : Gx p e below s₁ f0 T14 (mkF m 70 #[.val (.ref a1), .val (.double (0 : UInt64)), .second, .val (.long (1 : Int64)), .second, .val (.long (prf ff J)), .second, .val (.int (Int32.ofNat J))] [(.int (Int32.ofNat J))]) := fun t kt => K15 t (by
    show Steps p.tables e below (T14.setTop (mkF m 68 #[.val (.ref a1), .val (.double (0 : UInt64)), .second, .val (.long (1 : Int64)), .second, .val (.long (prf ff J)), .second, .val (.int (Int32.ofNat J))] [])) _
    refine XS.iload X14.here hx rfl (hb hby d8_68) rfl ?_
    exact kt)
  obtain ⟨_, _, ⟨T17, L17, k17, n17⟩, -, X17', ⟨Lc17, hQ17, l17, y17, z17⟩, st17⟩ := Jvm.LawKit.callS X14 hx (y := (⟨"com/example/tideshift/tideshift/cli/LatencyHistogram", "middle", "(I)D"⟩ : MethodName)) hown (mvT hZ (hw _ (List.mem_of_getElem? (i := 77) rfl))) (mvT hZ (hw _ (List.mem_of_getElem? (i := 78) rfl))) (mvT hZ (hw _ (List.mem_of_getElem? (i := 2) rfl))) (mvT hZ (hw _ (List.mem_of_getElem? (i := 79) rfl))) (by decide) (backOf (W := 0) (rmMid l Z a0 hw [] (Int32.ofNat J) h0 n0 (Nat.le_trans Z0 (Keep.refl h0 []).1) ) hZ (hw _ (List.mem_of_getElem? (i := 79) rfl)) (hw _ (List.mem_of_getElem? (i := 2) rfl)) (by decide) (by decide)) (g := (mkF m 70 #[.val (.ref a1), .val (.double (0 : UInt64)), .second, .val (.long (1 : Int64)), .second, .val (.long (prf ff J)), .second, .val (.int (Int32.ofNat J))] [(.int (Int32.ofNat J))])) rfl (by rw [hml]; rfl) (argsL := [(.int (Int32.ofNat J))]) (rest := []) (lenOf pd__I_D rfl) rfl (by show 2 * 0 + _ ≤ _; exact Nat.le_of_eq rfl) (hb hby d8_70) (fun _ _ => ⟨rfl, e14, (by decide : 0 + 0 ≤ _), (by decide : 0 + 0 ≤ _)⟩)
  dsimp only [Pt.U, Pt.locs, Pt.cells, Pt.slots] at X17' l17 y17 z17 st17 hQ17
  subst l17 y17 z17
  obtain ⟨rfl, N17q, e17⟩ := hQ17
  obtain ⟨lc17, X17, N17⟩ : ∃ lc, Stand p l e ({ frames := 6, cells := 0, slots := 0, locals := 102 } : Room) s m #[(.ref a1), (.double (0 : UInt64))] below meth c T17 lc 0 0 ∧ Fr n0 lc := ⟨_, X17', Fr.app N11 N17q⟩
  have K18 : Gx p e below s₁ f0 T17 (mkF m 73 #[.val (.ref a1), .val (.double (0 : UInt64)), .second, .val (.long (1 : Int64)), .second, .val (.long (prf ff J)), .second, .val (.int (Int32.ofNat J))] [(.double (midF (Int32.ofNat J)))]) := fun t kt => K16 t (st17 t kt)
  obtain ⟨fs19, hr19, hrun19, hended19, hW19, hsame19⟩ := X17.leave (v := some (.double (midF (Int32.ofNat J)))) (fun h => by rw [Bd.returns] at h; cases h)
  refine ⟨_, _, pre0 _ (K18 _ ?_), hrun19, hended19, _, _, rfl, ?_, ⟨_, rfl⟩, hW19, hsame19.mono (by decide) (by decide)⟩
  · exact retD X17 hx Bd.returns (hb hby d8_73) hr19
  · show QQnt20 Z a1 va ka ff J h0 n0 _ T17.heap _
    rw [e17]
    exact ⟨rfl, N17, rfl⟩
theorem ef_Qnt21 (m : MethodId) (a1 : Addr) : entryFrame m #[(.ref a1), (.double (4607182418800017408 : UInt64))] 8 = mkF m 0 #[.val (.ref a1), .val (.double (4607182418800017408 : UInt64)), .second, .unset, .unset, .unset, .unset, .unset] [] := by first | (simp [entryFrame, mkF, argsToLocals, Value.category]; done) | rfl
def QQnt21 (Z : State) (a1 : Addr) (va : Addr) (ka : ClassId) (ff : Nat → Int64) (J : Nat) (h0 : Heap) (n0 : Nat) (v : Option Value) (h : Heap) (L : List Loc) : Prop := v = some (.double (midF (Int32.ofNat J))) ∧ Fr n0 L ∧ h = h0
set_option maxRecDepth 65536 in
set_option maxHeartbeats 40000000 in
theorem rmQnt21 (l : Launch) (Z : State) (a0 : Array Value) (hw : ∀ d ∈ tables_1, d.before a0 Z = true) (ws : List Jvm.Cond) (a1 : Addr) (va : Addr) (ka : ClassId) (ff : Nat → Int64) (J : Nat) (h0 : Heap) (n0 : Nat) (Z0 : n0 ≤ h0.size) (pr0 : Exa Z h0 a1 "com/example/tideshift/tideshift/cli/LatencyHistogram") (pr1 : Fld Z h0 a1 "com/example/tideshift/tideshift/cli/LatencyHistogram" "counts" "[J" (.ref va)) (pr2 : Fld Z h0 a1 "com/example/tideshift/tideshift/cli/LatencyHistogram" "count" "J" (.long (2 : Int64))) (pr3 : Arv Z h0 va ka .long (3712 : Int32) (tab ff) (.long (0 : Int64))) (pr4 : Old Z n0 h0) (pr5 : Sta Z Z.heap "java/lang/StrictMath" "$assertionsDisabled" "Z" (.int (1 : Int32))) (hJ : J < 3712) (hJa : ∀ i, i < J → prf ff (i + 1) < (2 : Int64)) (hJb : ¬ (prf ff (J + 1) < (2 : Int64))) :
    MetFree l (⟨"com/example/tideshift/tideshift/cli/LatencyHistogram", "quantile", "(D)D"⟩ : MethodName) (head1 (Jvm.Cond.code (⟨"com/example/tideshift/tideshift/cli/LatencyHistogram", "quantile", "(D)D"⟩ : MethodName) prog_30_method_6_code 8 (some .double) :: ws) ({ frames := 6, cells := 0, slots := 0, locals := 102 } : Room)) (fun a U => a = #[(.ref a1), (.double (4607182418800017408 : UInt64))] ∧ Z.Warmed39 U.vm ∧ U.heap = h0) (fun _ _ _ _ _ => True) (fun _ U o U' => ∃ v L, o = .returned v ∧ QQnt21 Z a1 va ka ff J h0 n0 v U'.heap L ∧ FrameEnd U o U' L ({ frames := 6, cells := 0, slots := 0, locals := 102 } : Room).cells ({ frames := 6, cells := 0, slots := 0, locals := 102 } : Room).slots) := by
  refine MetFree.of_bodySF (plainFor_of_name pn_8) hisR ?_
  intro p e s m args below meth c s₁ Bd hml0 hP hK
  obtain ⟨rfl, hZ, hh⟩ := hP
  have hx := Bd.exec
  have hby := Bd.bytes
  have hml : c.maxLocals = 8 := hml0
  have hown : s.vm.findClass "com/example/tideshift/tideshift/cli/LatencyHistogram" = some m.cls := findClass_of_methodNamed Bd.named
  have hnm := (name_of_methodNamed Bd.named Bd.method).1
  have X0 : Stand p l e ({ frames := 6, cells := 0, slots := 0, locals := 102 } : Room) s m #[(.ref a1), (.double (4607182418800017408 : UInt64))] below meth c s₁ [] 0 0 := Stand.of_body Bd
  have hs0 : h0 = s.heap := hh.symm
  have e0 : s₁.heap = h0 := by rw [← hh, Bd.state]; rfl
  have N0 := Fr.nil n0
  obtain ⟨f0, hf0⟩ : ∃ f, f = entryFrame m #[(.ref a1), (.double (4607182418800017408 : UInt64))] 8 := ⟨_, rfl⟩
  have pre0 : ∀ t, Steps p.tables e below (s₁.setTop f0) t → Steps p.tables e below (s₁.setTop (entryFrame m #[(.ref a1), (.double (4607182418800017408 : UInt64))] 8)) t := fun t k => hf0 ▸ k
  have K0 : Gx p e below s₁ f0 s₁ (mkF m 0 #[.val (.ref a1), .val (.double (4607182418800017408 : UInt64)), .second, .unset, .unset, .unset, .unset, .unset] []) := fun t kt => by rw [hf0]; exact castTop (ef_Qnt21 m a1) kt
  have K1 : Gx p e below s₁ f0 s₁ (mkF m 1 #[.val (.ref a1), .val (.double (4607182418800017408 : UInt64)), .second, .unset, .unset, .unset, .unset, .unset] [(.ref a1)]) := fun t kt => K0 t (by
    show Steps p.tables e below (s₁.setTop (mkF m 0 #[.val (.ref a1), .val (.double (4607182418800017408 : UInt64)), .second, .unset, .unset, .unset, .unset, .unset] [])) _
    refine XS.aloadN X0.here hx rfl (hb hby d8_0) rfl rfl ?_
    exact kt)
  obtain ⟨T2, X2, e2, st2⟩ := getF X0 hx hZ hown (host := "") (Or.inl (hw _ (List.mem_of_getElem? (i := 31) rfl))) Via.refl e0 pr2 (g := (mkF m 1 #[.val (.ref a1), .val (.double (4607182418800017408 : UInt64)), .second, .unset, .unset, .unset, .unset, .unset] [(.ref a1)])) rfl rfl (hb hby d8_1)
  have K3 : Gx p e below s₁ f0 T2 (mkF m 4 #[.val (.ref a1), .val (.double (4607182418800017408 : UInt64)), .second, .unset, .unset, .unset, .unset, .unset] [(.long (2 : Int64))]) := fun t kt => K1 t (st2 t kt)
  have K4 : Gx p e below s₁ f0 T2 (mkF m 16 #[.val (.ref a1), .val (.double (4607182418800017408 : UInt64)), .second, .unset, .unset, .unset, .unset, .unset] [(.ref a1), (.double (4607182418800017408 : UInt64)), (.long (1 : Int64))]) := fun t kt => K3 t (by
    show Steps p.tables e below (T2.setTop (mkF m 4 #[.val (.ref a1), .val (.double (4607182418800017408 : UInt64)), .second, .unset, .unset, .unset, .unset, .unset] [(.long (2 : Int64))])) _
    refine XS.lconst X2.here hx rfl (hb hby d8_4) ?_
    show Steps p.tables e below (T2.setTop (mkF m 5 #[.val (.ref a1), .val (.double (4607182418800017408 : UInt64)), .second, .unset, .unset, .unset, .unset, .unset] [(.long (0 : Int64)), (.long (2 : Int64))])) _
    refine XS.lcmp X2.here hx rfl (hb hby d8_5) rfl ?_
    show Steps p.tables e below (T2.setTop (mkF m 6 #[.val (.ref a1), .val (.double (4607182418800017408 : UInt64)), .second, .unset, .unset, .unset, .unset, .unset] [(.int (lcmpW (2 : Int64) (0 : Int64)))])) _
    refine XS.ifYes X2.here hx rfl (pc0 := 6) (pc' := 13) rfl (hb hby d8_6) rfl ((if0 _ _).trans (feq (by decide)).2) (by decide) (by decide) ?_
    show Steps p.tables e below (T2.setTop (mkF m 13 #[.val (.ref a1), .val (.double (4607182418800017408 : UInt64)), .second, .unset, .unset, .unset, .unset, .unset] [])) _
    refine XS.lconst X2.here hx rfl (hb hby d8_13) ?_
    show Steps p.tables e below (T2.setTop (mkF m 14 #[.val (.ref a1), .val (.double (4607182418800017408 : UInt64)), .second, .unset, .unset, .unset, .unset, .unset] [(.long (1 : Int64))])) _
    refine XS.dloadN X2.here hx rfl (hb hby d8_14) rfl ?_
    show Steps p.tables e below (T2.setTop (mkF m 15 #[.val (.ref a1), .val (.double (4607182418800017408 : UInt64)), .second, .unset, .unset, .unset, .unset, .unset] [(.double (4607182418800017408 : UInt64)), (.long (1 : Int64))])) _
    refine XS.aloadN X2.here hx rfl (hb hby d8_15) rfl rfl ?_
    exact kt)
  obtain ⟨T5, X5, e5, st5⟩ := getF X2 hx hZ hown (host := "") (Or.inl (hw _ (List.mem_of_getElem? (i := 31) rfl))) Via.refl e2 pr2 (g := (mkF m 16 #[.val (.ref a1), .val (.double (4607182418800017408 : UInt64)), .second, .unset, .unset, .unset, .unset, .unset] [(.ref a1), (.double (4607182418800017408 : UInt64)), (.long (1 : Int64))])) rfl rfl (hb hby d8_16)
  have K6 : Gx p e below s₁ f0 T5 (mkF m 19 #[.val (.ref a1), .val (.double (4607182418800017408 : UInt64)), .second, .unset, .unset, .unset, .unset, .unset] [(.long (2 : Int64)), (.double (4607182418800017408 : UInt64)), (.long (1 : Int64))]) := fun t kt => K4 t (st5 t kt)
  have K7 : Gx p e below s₁ f0 T5 (mkF m 21 #[.val (.ref a1), .val (.double (4607182418800017408 : UInt64)), .second, .unset, .unset, .unset, .unset, .unset] [(.double (4611686018427387904 : UInt64)), (.long (1 : Int64))]) := fun t kt => K6 t (by
    show Steps p.tables e below (T5.setTop (mkF m 19 #[.val (.ref a1), .val (.double (4607182418800017408 : UInt64)), .second, .unset, .unset, .unset, .unset, .unset] [(.long (2 : Int64)), (.double (4607182418800017408 : UInt64)), (.long (1 : Int64))])) _
    refine XS.l2dS X5.here hx rfl (hb hby d8_19) rfl (v := (4611686018427387904 : UInt64)) (by decide +kernel) ?_
    show Steps p.tables e below (T5.setTop (mkF m 20 #[.val (.ref a1), .val (.double (4607182418800017408 : UInt64)), .second, .unset, .unset, .unset, .unset, .unset] [(.double (4611686018427387904 : UInt64)), (.double (4607182418800017408 : UInt64)), (.long (1 : Int64))])) _
    refine XS.dmulS X5.here hx rfl (hb hby d8_20) rfl (by unfold Jvm.Free.Fl.NoNaN64; decide +kernel) (v := (4611686018427387904 : UInt64)) (by decide +kernel) ?_
    exact kt)
  obtain ⟨T8, X8, e8, st8⟩ := ceilRaw2 X5 hx Z a0 hw hZ hown e5 pr4 pr5 (g := (mkF m 21 #[.val (.ref a1), .val (.double (4607182418800017408 : UInt64)), .second, .unset, .unset, .unset, .unset, .unset] [(.double (4611686018427387904 : UInt64)), (.long (1 : Int64))])) rfl (by rw [hml]; rfl) rfl (hb hby d8_21) (by decide) (by show 2 * 0 + 2 + 100 ≤ _; decide) (by decide) (by decide)
  have K9 : Gx p e below s₁ f0 T8 (mkF m 24 #[.val (.ref a1), .val (.double (4607182418800017408 : UInt64)), .second, .unset, .unset, .unset, .unset, .unset] [(.double (4611686018427387904 : UInt64)), (.long (1 : Int64))]) := fun t kt => K7 t (st8 t kt)
  have K10 : Gx p e below s₁ f0 T8 (mkF m 25 #[.val (.ref a1), .val (.double (4607182418800017408 : UInt64)), .second, .unset, .unset, .unset, .unset, .unset] [(.long (2 : Int64)), (.long (1 : Int64))]) := fun t kt => K9 t (by
    show Steps p.tables e below (T8.setTop (mkF m 24 #[.val (.ref a1), .val (.double (4607182418800017408 : UInt64)), .second, .unset, .unset, .unset, .unset, .unset] [(.double (4611686018427387904 : UInt64)), (.long (1 : Int64))])) _
    refine XS.d2lS X8.here hx rfl (hb hby d8_24) rfl (v := (2 : Int64)) (by decide +kernel) ?_
    exact kt)
  obtain ⟨_, _, ⟨T11, L11, k11, n11⟩, -, X11', ⟨Lc11, hQ11, l11, y11, z11⟩, st11⟩ := Jvm.LawKit.callS X8 hx (y := (⟨"java/lang/Math", "max", "(JJ)J"⟩ : MethodName)) hown (mvT hZ (hw _ (List.mem_of_getElem? (i := 53) rfl))) (mvT hZ (hw _ (List.mem_of_getElem? (i := 54) rfl))) (mvT hZ (hw _ (List.mem_of_getElem? (i := 55) rfl))) (mvT hZ (hw _ (List.mem_of_getElem? (i := 56) rfl))) (by decide) (backOf (W := 0) (rmMax l Z a0 hw [] (1 : Int64) (2 : Int64) h0 n0 (Nat.le_trans Z0 (Keep.refl h0 []).1) ) hZ (hw _ (List.mem_of_getElem? (i := 56) rfl)) (hw _ (List.mem_of_getElem? (i := 55) rfl)) (by decide) (by decide)) (g := (mkF m 25 #[.val (.ref a1), .val (.double (4607182418800017408 : UInt64)), .second, .unset, .unset, .unset, .unset, .unset] [(.long (2 : Int64)), (.long (1 : Int64))])) rfl (by rw [hml]; rfl) (argsL := [(.long (1 : Int64)), (.long (2 : Int64))]) (rest := []) (lenOf pd__JJ_J rfl) rfl (by show 2 * 0 + _ ≤ _; exact Nat.le_of_eq rfl) (hb hby d8_25) (fun _ _ => ⟨rfl, e8, (by decide : 0 + 0 ≤ _), (by decide : 0 + 0 ≤ _)⟩)
  dsimp only [Pt.U, Pt.locs, Pt.cells, Pt.slots] at X11' l11 y11 z11 st11 hQ11
  subst l11 y11 z11
  obtain ⟨rfl, N11q, e11⟩ := hQ11
  obtain ⟨lc11, X11, N11⟩ : ∃ lc, Stand p l e ({ frames := 6, cells := 0, slots := 0, locals := 102 } : Room) s m #[(.ref a1), (.double (4607182418800017408 : UInt64))] below meth c T11 lc 0 0 ∧ Fr n0 lc := ⟨_, X11', Fr.app N0 N11q⟩
  have K12 : Gx p e below s₁ f0 T11 (mkF m 28 #[.val (.ref a1), .val (.double (4607182418800017408 : UInt64)), .second, .unset, .unset, .unset, .unset, .unset] [(.long (maxJ (1 : Int64) (2 : Int64)))]) := fun t kt => K10 t (st11 t kt)
  rw [(by decide +kernel : (maxJ (1 : Int64) (2 : Int64)) = (2 : Int64))] at K12
  have K13 : Gx p e below s₁ f0 T11 (mkF m 35 #[.val (.ref a1), .val (.double (4607182418800017408 : UInt64)), .second, .val (.long (2 : Int64)), .second, .val (.long (0 : Int64)), .second, .val (.int (0 : Int32))] []) := fun t kt => K12 t (by
    show Steps p.tables e below (T11.setTop (mkF m 28 #[.val (.ref a1), .val (.double (4607182418800017408 : UInt64)), .second, .unset, .unset, .unset, .unset, .unset] [(.long (2 : Int64))])) _
    refine XS.lstoreN X11.here hx rfl (hb hby d8_28) rfl (l' := #[.val (.ref a1), .val (.double (4607182418800017408 : UInt64)), .second, .val (.long (2 : Int64)), .second, .unset, .unset, .unset]) rfl ?_
    show Steps p.tables e below (T11.setTop (mkF m 29 #[.val (.ref a1), .val (.double (4607182418800017408 : UInt64)), .second, .val (.long (2 : Int64)), .second, .unset, .unset, .unset] [])) _
    refine XS.lconst X11.here hx rfl (hb hby d8_29) ?_
    show Steps p.tables e below (T11.setTop (mkF m 30 #[.val (.ref a1), .val (.double (4607182418800017408 : UInt64)), .second, .val (.long (2 : Int64)), .second, .unset, .unset, .unset] [(.long (0 : Int64))])) _
    refine XS.lstore X11.here hx rfl (hb hby d8_30) rfl (l' := #[.val (.ref a1), .val (.double (4607182418800017408 : UInt64)), .second, .val (.long (2 : Int64)), .second, .val (.long (0 : Int64)), .second, .unset]) rfl ?_
    show Steps p.tables e below (T11.setTop (mkF m 32 #[.val (.ref a1), .val (.double (4607182418800017408 : UInt64)), .second, .val (.long (2 : Int64)), .second, .val (.long (0 : Int64)), .second, .unset] [])) _
    refine XS.iconst X11.here hx rfl (hb hby d8_32) ?_
    show Steps p.tables e below (T11.setTop (mkF m 33 #[.val (.ref a1), .val (.double (4607182418800017408 : UInt64)), .second, .val (.long (2 : Int64)), .second, .val (.long (0 : Int64)), .second, .unset] [(.int (0 : Int32))])) _
    refine XS.istore X11.here hx rfl (hb hby d8_33) rfl (l' := #[.val (.ref a1), .val (.double (4607182418800017408 : UInt64)), .second, .val (.long (2 : Int64)), .second, .val (.long (0 : Int64)), .second, .val (.int (0 : Int32))]) rfl ?_
    exact kt)
  obtain ⟨T14, X14, e14, st14⟩ := qloop Z a0 hw (R := ({ frames := 6, cells := 0, slots := 0, locals := 102 } : Room)) (fr := (4607182418800017408 : UInt64)) (rk := (2 : Int64)) hx hby hml hown hZ N11 pr1 pr3 hJ hJa hJb J 0 (Nat.zero_add J) T11 X11 e11
  have K15 : Gx p e below s₁ f0 T14 (mkF m 68 #[.val (.ref a1), .val (.double (4607182418800017408 : UInt64)), .second, .val (.long (2 : Int64)), .second, .val (.long (prf ff J)), .second, .val (.int (Int32.ofNat J))] []) := fun t kt => K13 t (st14 t kt)
  have K16 : Gx p e below s₁ f0 T14 (mkF m 70 #[.val (.ref a1), .val (.double (4607182418800017408 : UInt64)), .second, .val (.long (2 : Int64)), .second, .val (.long (prf ff J)), .second, .val (.int (Int32.ofNat J))] [(.int (Int32.ofNat J))]) := fun t kt => K15 t (by
    show Steps p.tables e below (T14.setTop (mkF m 68 #[.val (.ref a1), .val (.double (4607182418800017408 : UInt64)), .second, .val (.long (2 : Int64)), .second, .val (.long (prf ff J)), .second, .val (.int (Int32.ofNat J))] [])) _
    refine XS.iload X14.here hx rfl (hb hby d8_68) rfl ?_
    exact kt)
  obtain ⟨_, _, ⟨T17, L17, k17, n17⟩, -, X17', ⟨Lc17, hQ17, l17, y17, z17⟩, st17⟩ := Jvm.LawKit.callS X14 hx (y := (⟨"com/example/tideshift/tideshift/cli/LatencyHistogram", "middle", "(I)D"⟩ : MethodName)) hown (mvT hZ (hw _ (List.mem_of_getElem? (i := 77) rfl))) (mvT hZ (hw _ (List.mem_of_getElem? (i := 78) rfl))) (mvT hZ (hw _ (List.mem_of_getElem? (i := 2) rfl))) (mvT hZ (hw _ (List.mem_of_getElem? (i := 79) rfl))) (by decide) (backOf (W := 0) (rmMid l Z a0 hw [] (Int32.ofNat J) h0 n0 (Nat.le_trans Z0 (Keep.refl h0 []).1) ) hZ (hw _ (List.mem_of_getElem? (i := 79) rfl)) (hw _ (List.mem_of_getElem? (i := 2) rfl)) (by decide) (by decide)) (g := (mkF m 70 #[.val (.ref a1), .val (.double (4607182418800017408 : UInt64)), .second, .val (.long (2 : Int64)), .second, .val (.long (prf ff J)), .second, .val (.int (Int32.ofNat J))] [(.int (Int32.ofNat J))])) rfl (by rw [hml]; rfl) (argsL := [(.int (Int32.ofNat J))]) (rest := []) (lenOf pd__I_D rfl) rfl (by show 2 * 0 + _ ≤ _; exact Nat.le_of_eq rfl) (hb hby d8_70) (fun _ _ => ⟨rfl, e14, (by decide : 0 + 0 ≤ _), (by decide : 0 + 0 ≤ _)⟩)
  dsimp only [Pt.U, Pt.locs, Pt.cells, Pt.slots] at X17' l17 y17 z17 st17 hQ17
  subst l17 y17 z17
  obtain ⟨rfl, N17q, e17⟩ := hQ17
  obtain ⟨lc17, X17, N17⟩ : ∃ lc, Stand p l e ({ frames := 6, cells := 0, slots := 0, locals := 102 } : Room) s m #[(.ref a1), (.double (4607182418800017408 : UInt64))] below meth c T17 lc 0 0 ∧ Fr n0 lc := ⟨_, X17', Fr.app N11 N17q⟩
  have K18 : Gx p e below s₁ f0 T17 (mkF m 73 #[.val (.ref a1), .val (.double (4607182418800017408 : UInt64)), .second, .val (.long (2 : Int64)), .second, .val (.long (prf ff J)), .second, .val (.int (Int32.ofNat J))] [(.double (midF (Int32.ofNat J)))]) := fun t kt => K16 t (st17 t kt)
  obtain ⟨fs19, hr19, hrun19, hended19, hW19, hsame19⟩ := X17.leave (v := some (.double (midF (Int32.ofNat J)))) (fun h => by rw [Bd.returns] at h; cases h)
  refine ⟨_, _, pre0 _ (K18 _ ?_), hrun19, hended19, _, _, rfl, ?_, ⟨_, rfl⟩, hW19, hsame19.mono (by decide) (by decide)⟩
  · exact retD X17 hx Bd.returns (hb hby d8_73) hr19
  · show QQnt21 Z a1 va ka ff J h0 n0 _ T17.heap _
    rw [e17]
    exact ⟨rfl, N17, rfl⟩
theorem d6_12 : decode prog_30_method_3_code 12 = .ok (.iload_n 2, 1) := by decide +kernel
theorem d6_13 : decode prog_30_method_3_code 13 = .ok (.aload_n 0, 1) := by decide +kernel
theorem d6_14 : decode prog_30_method_3_code 14 = .ok (.getfield 17, 3) := by decide +kernel
theorem d6_17 : decode prog_30_method_3_code 17 = .ok (.arraylength, 1) := by decide +kernel
theorem d6_18 : decode prog_30_method_3_code 18 = .ok (.if_icmp .ge 24, 3) := by decide +kernel
theorem d6_21 : decode prog_30_method_3_code 21 = .ok (.aload_n 0, 1) := by decide +kernel
theorem d6_22 : decode prog_30_method_3_code 22 = .ok (.getfield 17, 3) := by decide +kernel
theorem d6_25 : decode prog_30_method_3_code 25 = .ok (.iload_n 2, 1) := by decide +kernel
theorem d6_26 : decode prog_30_method_3_code 26 = .ok (.dup2, 1) := by decide +kernel
theorem d6_27 : decode prog_30_method_3_code 27 = .ok (.laload, 1) := by decide +kernel
theorem d6_28 : decode prog_30_method_3_code 28 = .ok (.aload_n 1, 1) := by decide +kernel
theorem d6_29 : decode prog_30_method_3_code 29 = .ok (.getfield 17, 3) := by decide +kernel
theorem d6_32 : decode prog_30_method_3_code 32 = .ok (.iload_n 2, 1) := by decide +kernel
theorem d6_33 : decode prog_30_method_3_code 33 = .ok (.laload, 1) := by decide +kernel
theorem d6_34 : decode prog_30_method_3_code 34 = .ok (.ladd, 1) := by decide +kernel
theorem d6_35 : decode prog_30_method_3_code 35 = .ok (.lastore, 1) := by decide +kernel
theorem d6_36 : decode prog_30_method_3_code 36 = .ok (.iinc 2 1, 3) := by decide +kernel
theorem d6_39 : decode prog_30_method_3_code 39 = .ok (.goto (-27), 3) := by decide +kernel
set_option maxRecDepth 65536 in
set_option maxHeartbeats 40000000 in
theorem aturn {p : Program} {l : Launch} {e : Env} {R : Room} {s : State} {m : MethodId} {below : List Frame} {meth : Method} {c : Code} {T0 : State} {lc0 : List Loc} {h0 : Heap} {n0 : Nat} (Z : State) (a0 : Array Value) (hw : ∀ d ∈ tables_1, d.before a0 Z = true) {a1 : Addr} {a2 : Addr} {va : Addr} {vb : Addr} {ka : ClassId} {kb : ClassId} {gg : Nat → Int64} {ff : Nat → Int64} {ix : Nat}
    (X0 : Stand p l e R s m #[(.ref a1), (.ref a2)] below meth c T0 lc0 0 0) (hx : p.tables.exec = Jvm.exec) (hby : c.code = prog_30_method_3_code) (hml : c.maxLocals = 3) (hown : s.vm.findClass "com/example/tideshift/tideshift/cli/LatencyHistogram" = some m.cls) (hZ : Z.Warmed39 s.vm) (e0 : T0.heap = h0) (N0 : Fr n0 lc0) (pr0 : Exa Z h0 a1 "com/example/tideshift/tideshift/cli/LatencyHistogram") (pr1 : Exa Z h0 a2 "com/example/tideshift/tideshift/cli/LatencyHistogram") (pr2 : Fld Z h0 a1 "com/example/tideshift/tideshift/cli/LatencyHistogram" "counts" "[J" (.ref va)) (pr3 : Fld Z h0 a2 "com/example/tideshift/tideshift/cli/LatencyHistogram" "counts" "[J" (.ref vb)) (pr4 : Arv Z h0 va ka .long (3712 : Int32) (tab gg) (.long (0 : Int64))) (pr5 : Arv Z h0 vb kb .long (3712 : Int32) (tab ff) (.long (0 : Int64))) (pr6 : n0 ≤ va) (pr7 : va ≠ vb) (hi : ix < 3712) :
    ∃ T' h' lc', Stand p l e R s m #[(.ref a1), (.ref a2)] below meth c T' lc' 0 0 ∧ T'.heap = h' ∧ Fr n0 lc' ∧ Keep h0 h' [va] ∧ Arv Z h' va ka .long (3712 : Int32) (tab (fun i => if i = ix then ((gg ix) + (ff ix)) else gg i)) (.long (0 : Int64)) ∧ ∀ t, Steps p.tables e below (T'.setTop (mkF m 12 #[.val (.ref a1), .val (.ref a2), .val (.int (Int32.ofNat (ix + 1)))] [])) t → Steps p.tables e below (T0.setTop (mkF m 12 #[.val (.ref a1), .val (.ref a2), .val (.int (Int32.ofNat ix))] [])) t := by
  obtain ⟨f0, hf0⟩ : ∃ f, f = (mkF m 12 #[.val (.ref a1), .val (.ref a2), .val (.int (Int32.ofNat ix))] []) := ⟨_, rfl⟩
  have pre0 : ∀ t, Steps p.tables e below (T0.setTop f0) t → Steps p.tables e below (T0.setTop (mkF m 12 #[.val (.ref a1), .val (.ref a2), .val (.int (Int32.ofNat ix))] [])) t := fun t k => hf0 ▸ k
  have K0 : Gx p e below T0 f0 T0 (mkF m 12 #[.val (.ref a1), .val (.ref a2), .val (.int (Int32.ofNat ix))] []) := fun t kt => by rw [hf0]; exact kt
  have K1 : Gx p e below T0 f0 T0 (mkF m 14 #[.val (.ref a1), .val (.ref a2), .val (.int (Int32.ofNat ix))] [(.ref a1), (.int (Int32.ofNat ix))]) := fun t kt => K0 t (by
    show Steps p.tables e below (T0.setTop (mkF m 12 #[.val (.ref a1), .val (.ref a2), .val (.int (Int32.ofNat ix))] [])) _
    refine XS.iloadN X0.here hx rfl (hb hby d6_12) rfl ?_
    show Steps p.tables e below (T0.setTop (mkF m 13 #[.val (.ref a1), .val (.ref a2), .val (.int (Int32.ofNat ix))] [(.int (Int32.ofNat ix))])) _
    refine XS.aloadN X0.here hx rfl (hb hby d6_13) rfl rfl ?_
    exact kt)
  obtain ⟨T2, X2, e2, st2⟩ := getF X0 hx hZ hown (host := "") (Or.inl (hw _ (List.mem_of_getElem? (i := 24) rfl))) Via.refl e0 pr2 (g := (mkF m 14 #[.val (.ref a1), .val (.ref a2), .val (.int (Int32.ofNat ix))] [(.ref a1), (.int (Int32.ofNat ix))])) rfl rfl (hb hby d6_14)
  have K3 : Gx p e below T0 f0 T2 (mkF m 17 #[.val (.ref a1), .val (.ref a2), .val (.int (Int32.ofNat ix))] [(.ref va), (.int (Int32.ofNat ix))]) := fun t kt => K1 t (st2 t kt)
  obtain ⟨clq4, Arq4, ckq4, cSq4, cNq4, cHq4, cGq4⟩ := id pr4
  have K5 : Gx p e below T0 f0 T2 (mkF m 22 #[.val (.ref a1), .val (.ref a2), .val (.int (Int32.ofNat ix))] [(.ref a1)]) := fun t kt => K3 t (by
    show Steps p.tables e below (T2.setTop (mkF m 17 #[.val (.ref a1), .val (.ref a2), .val (.int (Int32.ofNat ix))] [(.ref va), (.int (Int32.ofNat ix))])) _
    refine X2.arraylength hx (by rw [e2]; exact Arq4.1) (State.isArrayOf_alike hZ.alike Arq4.2.1) (g := (mkF m 17 #[.val (.ref a1), .val (.ref a2), .val (.int (Int32.ofNat ix))] [(.ref va), (.int (Int32.ofNat ix))])) rfl rfl (hb hby d6_17) _ ?_
    rw [len_of cSq4 cNq4]
    show Steps p.tables e below (T2.setTop (mkF m 18 #[.val (.ref a1), .val (.ref a2), .val (.int (Int32.ofNat ix))] [(.int (3712 : Int32)), (.int (Int32.ofNat ix))])) _
    refine XS.icmpNo X2.here hx rfl (hb hby d6_18) rfl (tlt (of_ok hi).2).2.1 ?_
    show Steps p.tables e below (T2.setTop (mkF m 21 #[.val (.ref a1), .val (.ref a2), .val (.int (Int32.ofNat ix))] [])) _
    refine XS.aloadN X2.here hx rfl (hb hby d6_21) rfl rfl ?_
    exact kt)
  obtain ⟨T6, X6, e6, st6⟩ := getF X2 hx hZ hown (host := "") (Or.inl (hw _ (List.mem_of_getElem? (i := 24) rfl))) Via.refl e2 pr2 (g := (mkF m 22 #[.val (.ref a1), .val (.ref a2), .val (.int (Int32.ofNat ix))] [(.ref a1)])) rfl rfl (hb hby d6_22)
  have K7 : Gx p e below T0 f0 T6 (mkF m 25 #[.val (.ref a1), .val (.ref a2), .val (.int (Int32.ofNat ix))] [(.ref va)]) := fun t kt => K5 t (st6 t kt)
  have K8 : Gx p e below T0 f0 T6 (mkF m 29 #[.val (.ref a1), .val (.ref a2), .val (.int (Int32.ofNat ix))] [(.ref a2), (.long (gg ix)), (.int (Int32.ofNat ix)), (.ref va)]) := fun t kt => K7 t (by
    show Steps p.tables e below (T6.setTop (mkF m 25 #[.val (.ref a1), .val (.ref a2), .val (.int (Int32.ofNat ix))] [(.ref va)])) _
    refine XS.iloadN X6.here hx rfl (hb hby d6_25) rfl ?_
    show Steps p.tables e below (T6.setTop (mkF m 26 #[.val (.ref a1), .val (.ref a2), .val (.int (Int32.ofNat ix))] [(.int (Int32.ofNat ix)), (.ref va)])) _
    refine XT.dup2 X6.here hx rfl (hb hby d6_26) rfl rfl rfl ?_
    show Steps p.tables e below (T6.setTop (mkF m 27 #[.val (.ref a1), .val (.ref a2), .val (.int (Int32.ofNat ix))] [(.int (Int32.ofNat ix)), (.ref va), (.int (Int32.ofNat ix)), (.ref va)])) _
    refine X6.laload hx (j := (Int32.ofNat ix)) (v := (.long (gg ix))) (by rw [e6]; exact Arq4.1) (State.isArrayOf_alike hZ.alike Arq4.2.1) Arq4.2.2 (inb_of cSq4 (of_ok hi)) (Has.at cHq4 (inb_of cSq4 (of_ok hi)) (of_read gg hi _)) (g := (mkF m 27 #[.val (.ref a1), .val (.ref a2), .val (.int (Int32.ofNat ix))] [(.int (Int32.ofNat ix)), (.ref va), (.int (Int32.ofNat ix)), (.ref va)])) rfl rfl (hb hby d6_27) _ ?_
    show Steps p.tables e below (T6.setTop (mkF m 28 #[.val (.ref a1), .val (.ref a2), .val (.int (Int32.ofNat ix))] [(.long (gg ix)), (.int (Int32.ofNat ix)), (.ref va)])) _
    refine XS.aloadN X6.here hx rfl (hb hby d6_28) rfl rfl ?_
    exact kt)
  obtain ⟨T9, X9, e9, st9⟩ := getF X6 hx hZ hown (host := "") (Or.inl (hw _ (List.mem_of_getElem? (i := 24) rfl))) Via.refl e6 pr3 (g := (mkF m 29 #[.val (.ref a1), .val (.ref a2), .val (.int (Int32.ofNat ix))] [(.ref a2), (.long (gg ix)), (.int (Int32.ofNat ix)), (.ref va)])) rfl rfl (hb hby d6_29)
  have K10 : Gx p e below T0 f0 T9 (mkF m 32 #[.val (.ref a1), .val (.ref a2), .val (.int (Int32.ofNat ix))] [(.ref vb), (.long (gg ix)), (.int (Int32.ofNat ix)), (.ref va)]) := fun t kt => K8 t (st9 t kt)
  obtain ⟨clq11, Arq11, ckq11, cSq11, cNq11, cHq11, cGq11⟩ := id pr5
  have K12 : Gx p e below T0 f0 T9 (mkF m 35 #[.val (.ref a1), .val (.ref a2), .val (.int (Int32.ofNat ix))] [(.long ((gg ix) + (ff ix))), (.int (Int32.ofNat ix)), (.ref va)]) := fun t kt => K10 t (by
    show Steps p.tables e below (T9.setTop (mkF m 32 #[.val (.ref a1), .val (.ref a2), .val (.int (Int32.ofNat ix))] [(.ref vb), (.long (gg ix)), (.int (Int32.ofNat ix)), (.ref va)])) _
    refine XS.iloadN X9.here hx rfl (hb hby d6_32) rfl ?_
    show Steps p.tables e below (T9.setTop (mkF m 33 #[.val (.ref a1), .val (.ref a2), .val (.int (Int32.ofNat ix))] [(.int (Int32.ofNat ix)), (.ref vb), (.long (gg ix)), (.int (Int32.ofNat ix)), (.ref va)])) _
    refine X9.laload hx (j := (Int32.ofNat ix)) (v := (.long (ff ix))) (by rw [e9]; exact Arq11.1) (State.isArrayOf_alike hZ.alike Arq11.2.1) Arq11.2.2 (inb_of cSq11 (of_ok hi)) (Has.at cHq11 (inb_of cSq11 (of_ok hi)) (of_read ff hi _)) (g := (mkF m 33 #[.val (.ref a1), .val (.ref a2), .val (.int (Int32.ofNat ix))] [(.int (Int32.ofNat ix)), (.ref vb), (.long (gg ix)), (.int (Int32.ofNat ix)), (.ref va)])) rfl rfl (hb hby d6_33) _ ?_
    show Steps p.tables e below (T9.setTop (mkF m 34 #[.val (.ref a1), .val (.ref a2), .val (.int (Int32.ofNat ix))] [(.long (ff ix)), (.long (gg ix)), (.int (Int32.ofNat ix)), (.ref va)])) _
    refine XS.ladd X9.here hx rfl (hb hby d6_34) rfl ?_
    exact kt)
  obtain ⟨T13, h13, X13', e13, W13, st13⟩ := stJ X9 hx hZ e9 Arq4 (j := (Int32.ofNat ix)) (inb_of cSq4 (of_ok hi)) (g := (mkF m 35 #[.val (.ref a1), .val (.ref a2), .val (.int (Int32.ofNat ix))] [(.long ((gg ix) + (ff ix))), (.int (Int32.ofNat ix)), (.ref va)])) rfl rfl (hb hby d6_35)
  obtain ⟨lc13, X13, N13⟩ : ∃ lc, Stand p l e R s m #[(.ref a1), (.ref a2)] below meth c T13 lc 0 0 ∧ Fr n0 lc := ⟨_, X13', Fr.snoc X13' N0 pr6⟩
  have V13 : Arv Z h13 va ka .long (3712 : Int32) ((tab gg).set ix (.long ((gg ix) + (ff ix)))) (.long (0 : Int64)) := Arv.set Arq4 ckq4 cSq4 cNq4 cHq4 cGq4 rfl W13 ix (of_nat hi) (by rw [tab_len]; exact hi)
  have K14 : Gx p e below T0 f0 T13 (mkF m 36 #[.val (.ref a1), .val (.ref a2), .val (.int (Int32.ofNat ix))] []) := fun t kt => K12 t (st13 t kt)
  have f15 : Arv Z h13 va ka .long (3712 : Int32) (tab (fun i => if i = ix then ((gg ix) + (ff ix)) else gg i)) (.long (0 : Int64)) := by rw [← tab_set]; exact V13
  have K16 : Gx p e below T0 f0 T13 (mkF m 12 #[.val (.ref a1), .val (.ref a2), .val (.int ((Int32.ofNat ix) + (1 : Int32)))] []) := fun t kt => K14 t (by
    show Steps p.tables e below (T13.setTop (mkF m 36 #[.val (.ref a1), .val (.ref a2), .val (.int (Int32.ofNat ix))] [])) _
    refine XS.iinc X13.here hx rfl (hb hby d6_36) rfl (l' := #[.val (.ref a1), .val (.ref a2), .val (.int ((Int32.ofNat ix) + (1 : Int32)))]) rfl ?_
    show Steps p.tables e below (T13.setTop (mkF m 39 #[.val (.ref a1), .val (.ref a2), .val (.int ((Int32.ofNat ix) + (1 : Int32)))] [])) _
    refine XS.goto X13.here hx rfl (pc0 := 39) (pc' := 12) rfl (hb hby d6_39) (by decide) (by decide) ?_
    exact kt)
  rw [(of_up hi)] at K16
  have kp17 : Keep h0 h13 [va] := ((Keep.refl h0 [va]).wr W13 (Or.inl (List.mem_of_getElem? (i := 0) rfl)))
  exact ⟨T13, h13, _, X13, e13, N13, kp17, f15, fun t k => pre0 _ (K16 t k)⟩
set_option maxRecDepth 65536 in
set_option maxHeartbeats 40000000 in
theorem aleave {p : Program} {l : Launch} {e : Env} {R : Room} {s : State} {m : MethodId} {below : List Frame} {meth : Method} {c : Code} {T0 : State} {lc0 : List Loc} {h0 : Heap} {n0 : Nat} (Z : State) (a0 : Array Value) (hw : ∀ d ∈ tables_1, d.before a0 Z = true) {a1 : Addr} {a2 : Addr} {va : Addr} {vb : Addr} {ka : ClassId} {kb : ClassId} {gg : Nat → Int64} {ff : Nat → Int64}
    (X0 : Stand p l e R s m #[(.ref a1), (.ref a2)] below meth c T0 lc0 0 0) (hx : p.tables.exec = Jvm.exec) (hby : c.code = prog_30_method_3_code) (hml : c.maxLocals = 3) (hown : s.vm.findClass "com/example/tideshift/tideshift/cli/LatencyHistogram" = some m.cls) (hZ : Z.Warmed39 s.vm) (e0 : T0.heap = h0) (N0 : Fr n0 lc0) (pr0 : Exa Z h0 a1 "com/example/tideshift/tideshift/cli/LatencyHistogram") (pr1 : Exa Z h0 a2 "com/example/tideshift/tideshift/cli/LatencyHistogram") (pr2 : Fld Z h0 a1 "com/example/tideshift/tideshift/cli/LatencyHistogram" "counts" "[J" (.ref va)) (pr3 : Fld Z h0 a2 "com/example/tideshift/tideshift/cli/LatencyHistogram" "counts" "[J" (.ref vb)) (pr4 : Arv Z h0 va ka .long (3712 : Int32) (tab gg) (.long (0 : Int64))) (pr5 : Arv Z h0 vb kb .long (3712 : Int32) (tab ff) (.long (0 : Int64))) (pr6 : n0 ≤ va) (pr7 : va ≠ vb) :
    ∃ T', Stand p l e R s m #[(.ref a1), (.ref a2)] below meth c T' lc0 0 0 ∧ T'.heap = h0 ∧ ∀ t, Steps p.tables e below (T'.setTop (mkF m 42 #[.val (.ref a1), .val (.ref a2), .val (.int (Int32.ofNat 3712))] [])) t → Steps p.tables e below (T0.setTop (mkF m 12 #[.val (.ref a1), .val (.ref a2), .val (.int (Int32.ofNat 3712))] [])) t := by
  obtain ⟨f0, hf0⟩ : ∃ f, f = (mkF m 12 #[.val (.ref a1), .val (.ref a2), .val (.int (Int32.ofNat 3712))] []) := ⟨_, rfl⟩
  have pre0 : ∀ t, Steps p.tables e below (T0.setTop f0) t → Steps p.tables e below (T0.setTop (mkF m 12 #[.val (.ref a1), .val (.ref a2), .val (.int (Int32.ofNat 3712))] [])) t := fun t k => hf0 ▸ k
  have K0 : Gx p e below T0 f0 T0 (mkF m 12 #[.val (.ref a1), .val (.ref a2), .val (.int (Int32.ofNat 3712))] []) := fun t kt => by rw [hf0]; exact kt
  have K1 : Gx p e below T0 f0 T0 (mkF m 14 #[.val (.ref a1), .val (.ref a2), .val (.int (Int32.ofNat 3712))] [(.ref a1), (.int (Int32.ofNat 3712))]) := fun t kt => K0 t (by
    show Steps p.tables e below (T0.setTop (mkF m 12 #[.val (.ref a1), .val (.ref a2), .val (.int (Int32.ofNat 3712))] [])) _
    refine XS.iloadN X0.here hx rfl (hb hby d6_12) rfl ?_
    show Steps p.tables e below (T0.setTop (mkF m 13 #[.val (.ref a1), .val (.ref a2), .val (.int (Int32.ofNat 3712))] [(.int (Int32.ofNat 3712))])) _
    refine XS.aloadN X0.here hx rfl (hb hby d6_13) rfl rfl ?_
    exact kt)
  obtain ⟨T2, X2, e2, st2⟩ := getF X0 hx hZ hown (host := "") (Or.inl (hw _ (List.mem_of_getElem? (i := 24) rfl))) Via.refl e0 pr2 (g := (mkF m 14 #[.val (.ref a1), .val (.ref a2), .val (.int (Int32.ofNat 3712))] [(.ref a1), (.int (Int32.ofNat 3712))])) rfl rfl (hb hby d6_14)
  have K3 : Gx p e below T0 f0 T2 (mkF m 17 #[.val (.ref a1), .val (.ref a2), .val (.int (Int32.ofNat 3712))] [(.ref va), (.int (Int32.ofNat 3712))]) := fun t kt => K1 t (st2 t kt)
  obtain ⟨clq4, Arq4, ckq4, cSq4, cNq4, cHq4, cGq4⟩ := id pr4
  have K5 : Gx p e below T0 f0 T2 (mkF m 42 #[.val (.ref a1), .val (.ref a2), .val (.int (Int32.ofNat 3712))] []) := fun t kt => K3 t (by
    show Steps p.tables e below (T2.setTop (mkF m 17 #[.val (.ref a1), .val (.ref a2), .val (.int (Int32.ofNat 3712))] [(.ref va), (.int (Int32.ofNat 3712))])) _
    refine X2.arraylength hx (by rw [e2]; exact Arq4.1) (State.isArrayOf_alike hZ.alike Arq4.2.1) (g := (mkF m 17 #[.val (.ref a1), .val (.ref a2), .val (.int (Int32.ofNat 3712))] [(.ref va), (.int (Int32.ofNat 3712))])) rfl rfl (hb hby d6_17) _ ?_
    rw [len_of cSq4 cNq4]
    show Steps p.tables e below (T2.setTop (mkF m 18 #[.val (.ref a1), .val (.ref a2), .val (.int (Int32.ofNat 3712))] [(.int (3712 : Int32)), (.int (Int32.ofNat 3712))])) _
    refine XS.icmpYes X2.here hx rfl (pc0 := 18) (pc' := 42) rfl (hb hby d6_18) rfl (flt of_end).2.1 (by decide) (by decide) ?_
    exact kt)
  exact ⟨T2, X2, e2, fun t k => pre0 _ (K5 t k)⟩
theorem aloop {p : Program} {l : Launch} {e : Env} {R : Room} {s : State} {m : MethodId} {below : List Frame} {meth : Method} {c : Code} {n0 : Nat} (Z : State) (a0 : Array Value) (hw : ∀ d ∈ tables_1, d.before a0 Z = true) {a1 a2 va vb : Addr} {ka kb : ClassId} {gg ff : Nat → Int64}
    (hx : p.tables.exec = Jvm.exec) (hby : c.code = prog_30_method_3_code) (hml : c.maxLocals = 3) (hown : s.vm.findClass "com/example/tideshift/tideshift/cli/LatencyHistogram" = some m.cls) (hZ : Z.Warmed39 s.vm) (gva : n0 ≤ va) (nab : va ≠ vb) :
    ∀ (d ix : Nat), ix + d = 3712 → ∀ (T0 : State) (lc0 : List Loc) (h0 : Heap), Stand p l e R s m #[(.ref a1), (.ref a2)] below meth c T0 lc0 0 0 → T0.heap = h0 → Fr n0 lc0 → Exa Z h0 a1 "com/example/tideshift/tideshift/cli/LatencyHistogram" → Exa Z h0 a2 "com/example/tideshift/tideshift/cli/LatencyHistogram" → Fld Z h0 a1 "com/example/tideshift/tideshift/cli/LatencyHistogram" "counts" "[J" (.ref va) → Fld Z h0 a2 "com/example/tideshift/tideshift/cli/LatencyHistogram" "counts" "[J" (.ref vb) → Arv Z h0 va ka .long (3712 : Int32) (tab (addF ix gg ff)) (.long (0 : Int64)) → Arv Z h0 vb kb .long (3712 : Int32) (tab ff) (.long (0 : Int64)) → ∃ T' h' lc', Stand p l e R s m #[(.ref a1), (.ref a2)] below meth c T' lc' 0 0 ∧ T'.heap = h' ∧ Fr n0 lc' ∧ Keep h0 h' [va] ∧ Arv Z h' va ka .long (3712 : Int32) (tab (addF 3712 gg ff)) (.long (0 : Int64)) ∧ ∀ t, Steps p.tables e below (T'.setTop (mkF m 42 #[.val (.ref a1), .val (.ref a2), .val (.int (Int32.ofNat 3712))] [])) t → Steps p.tables e below (T0.setTop (mkF m 12 #[.val (.ref a1), .val (.ref a2), .val (.int (Int32.ofNat ix))] [])) t := by
  intro d
  induction d with
  | zero =>
    intro ix q T0 lc0 h0 X0 e0 N0 E1 E2 F1 F2 V1 V2
    obtain rfl : ix = 3712 := q
    obtain ⟨T1, X1, e1, st1⟩ := aleave Z a0 hw X0 hx hby hml hown hZ e0 N0 E1 E2 F1 F2 V1 V2 gva nab
    exact ⟨T1, h0, lc0, X1, e1, N0, Keep.refl h0 [va], V1, st1⟩
  | succ d ih =>
    intro ix q T0 lc0 h0 X0 e0 N0 E1 E2 F1 F2 V1 V2
    obtain ⟨T1, h1, lc1, X1, e1, N1, K1, W1, st1⟩ := aturn (ix := ix) Z a0 hw X0 hx hby hml hown hZ e0 N0 E1 E2 F1 F2 V1 V2 gva nab (by omega)
    rw [addF_step] at W1
    have n1 : a1 ≠ va := Exa.neArv E1 V1 (hw _ (List.mem_of_getElem? (i := 1) rfl))
    have n2 : a2 ≠ va := Exa.neArv E2 V1 (hw _ (List.mem_of_getElem? (i := 1) rfl))
    obtain ⟨T2, h2, lc2, X2, e2, N2, K2, W2, st2⟩ := ih (ix + 1) (by omega) T1 lc1 h1 X1 e1 N1 (E1.keep K1) (E2.keep K1) (F1.keep K1 (ninS n1 nin0)) (F2.keep K1 (ninS n2 nin0)) W1 (V2.keep K1 (ninS (Ne.symm nab) nin0))
    exact ⟨T2, h2, lc2, X2, e2, N2, Keep.trans K1 K2 (allS (Or.inl (List.mem_of_getElem? (i := 0) rfl)) all0), W2, fun t k => st1 t (st2 t k)⟩
theorem d6_0 : decode prog_30_method_3_code 0 = .ok (.aload_n 1, 1) := by decide +kernel
theorem d6_1 : decode prog_30_method_3_code 1 = .ok (.getfield 27, 3) := by decide +kernel
theorem d6_4 : decode prog_30_method_3_code 4 = .ok (.lconst 0, 1) := by decide +kernel
theorem d6_5 : decode prog_30_method_3_code 5 = .ok (.lcmp, 1) := by decide +kernel
theorem d6_6 : decode prog_30_method_3_code 6 = .ok (.ifCond .ne 4, 3) := by decide +kernel
theorem d6_9 : decode prog_30_method_3_code 9 = .ok (.return_, 1) := by decide +kernel
theorem pn_6 : plainName "com/example/tideshift/tideshift/cli/LatencyHistogram" = true := by first | (simp [plainName, overriddenIn]; done) | decide +kernel
theorem ef_AddZ (m : MethodId) (a1 : Addr) (a2 : Addr) : entryFrame m #[(.ref a1), (.ref a2)] 3 = mkF m 0 #[.val (.ref a1), .val (.ref a2), .unset] [] := by first | (simp [entryFrame, mkF, argsToLocals, Value.category]; done) | rfl
def QAddZ (Z : State) (a1 : Addr) (a2 : Addr) (h0 : Heap) (n0 : Nat) (v : Option Value) (h : Heap) (L : List Loc) : Prop := v = none ∧ Fr n0 L ∧ h = h0
set_option maxRecDepth 65536 in
set_option maxHeartbeats 40000000 in
theorem rmAddZ (l : Launch) (Z : State) (a0 : Array Value) (hw : ∀ d ∈ tables_1, d.before a0 Z = true) (ws : List Jvm.Cond) (a1 : Addr) (a2 : Addr) (h0 : Heap) (n0 : Nat) (Z0 : n0 ≤ h0.size) (pr0 : Exa Z h0 a2 "com/example/tideshift/tideshift/cli/LatencyHistogram") (pr1 : Fld Z h0 a2 "com/example/tideshift/tideshift/cli/LatencyHistogram" "count" "J" (.long (0 : Int64))) :
    MetFree l (⟨"com/example/tideshift/tideshift/cli/LatencyHistogram", "add", "(Lcom/example/tideshift/tideshift/cli/LatencyHistogram;)V"⟩ : MethodName) (head1 (Jvm.Cond.code (⟨"com/example/tideshift/tideshift/cli/LatencyHistogram", "add", "(Lcom/example/tideshift/tideshift/cli/LatencyHistogram;)V"⟩ : MethodName) prog_30_method_3_code 3 none :: ws) ({ frames := 0, cells := 0, slots := 0, locals := 0 } : Room)) (fun a U => a = #[(.ref a1), (.ref a2)] ∧ Z.Warmed39 U.vm ∧ U.heap = h0) (fun _ _ _ _ _ => True) (fun _ U o U' => ∃ v L, o = .returned v ∧ QAddZ Z a1 a2 h0 n0 v U'.heap L ∧ FrameEnd U o U' L ({ frames := 0, cells := 0, slots := 0, locals := 0 } : Room).cells ({ frames := 0, cells := 0, slots := 0, locals := 0 } : Room).slots) := by
  refine MetFree.of_bodySF (plainFor_of_name pn_6) hisR ?_
  intro p e s m args below meth c s₁ Bd hml0 hP hK
  obtain ⟨rfl, hZ, hh⟩ := hP
  have hx := Bd.exec
  have hby := Bd.bytes
  have hml : c.maxLocals = 3 := hml0
  have hown : s.vm.findClass "com/example/tideshift/tideshift/cli/LatencyHistogram" = some m.cls := findClass_of_methodNamed Bd.named
  have hnm := (name_of_methodNamed Bd.named Bd.method).1
  have X0 : Stand p l e ({ frames := 0, cells := 0, slots := 0, locals := 0 } : Room) s m #[(.ref a1), (.ref a2)] below meth c s₁ [] 0 0 := Stand.of_body Bd
  have hs0 : h0 = s.heap := hh.symm
  have e0 : s₁.heap = h0 := by rw [← hh, Bd.state]; rfl
  have N0 := Fr.nil n0
  obtain ⟨f0, hf0⟩ : ∃ f, f = entryFrame m #[(.ref a1), (.ref a2)] 3 := ⟨_, rfl⟩
  have pre0 : ∀ t, Steps p.tables e below (s₁.setTop f0) t → Steps p.tables e below (s₁.setTop (entryFrame m #[(.ref a1), (.ref a2)] 3)) t := fun t k => hf0 ▸ k
  have K0 : Gx p e below s₁ f0 s₁ (mkF m 0 #[.val (.ref a1), .val (.ref a2), .unset] []) := fun t kt => by rw [hf0]; exact castTop (ef_AddZ m a1 a2) kt
  have K1 : Gx p e below s₁ f0 s₁ (mkF m 1 #[.val (.ref a1), .val (.ref a2), .unset] [(.ref a2)]) := fun t kt => K0 t (by
    show Steps p.tables e below (s₁.setTop (mkF m 0 #[.val (.ref a1), .val (.ref a2), .unset] [])) _
    refine XS.aloadN X0.here hx rfl (hb hby d6_0) rfl rfl ?_
    exact kt)
  obtain ⟨T2, X2, e2, st2⟩ := getF X0 hx hZ hown (host := "") (Or.inl (hw _ (List.mem_of_getElem? (i := 31) rfl))) Via.refl e0 pr1 (g := (mkF m 1 #[.val (.ref a1), .val (.ref a2), .unset] [(.ref a2)])) rfl rfl (hb hby d6_1)
  have K3 : Gx p e below s₁ f0 T2 (mkF m 4 #[.val (.ref a1), .val (.ref a2), .unset] [(.long (0 : Int64))]) := fun t kt => K1 t (st2 t kt)
  have K4 : Gx p e below s₁ f0 T2 (mkF m 9 #[.val (.ref a1), .val (.ref a2), .unset] []) := fun t kt => K3 t (by
    show Steps p.tables e below (T2.setTop (mkF m 4 #[.val (.ref a1), .val (.ref a2), .unset] [(.long (0 : Int64))])) _
    refine XS.lconst X2.here hx rfl (hb hby d6_4) ?_
    show Steps p.tables e below (T2.setTop (mkF m 5 #[.val (.ref a1), .val (.ref a2), .unset] [(.long (0 : Int64)), (.long (0 : Int64))])) _
    refine XS.lcmp X2.here hx rfl (hb hby d6_5) rfl ?_
    show Steps p.tables e below (T2.setTop (mkF m 6 #[.val (.ref a1), .val (.ref a2), .unset] [(.int (lcmpW (0 : Int64) (0 : Int64)))])) _
    refine XS.ifNo X2.here hx rfl (hb hby d6_6) rfl ((if0 _ _).trans (teq (by decide)).2) ?_
    exact kt)
  obtain ⟨fs5, hr5, hrun5, hended5, hW5, hsame5⟩ := X2.leave (v := none) (fun _ => rfl)
  refine ⟨_, _, pre0 _ (K4 _ ?_), hrun5, hended5, _, _, rfl, ?_, ⟨_, rfl⟩, hW5, hsame5.mono (by decide) (by decide)⟩
  · exact X2.returnOut hx Bd.returns (hb hby d6_9) hr5
  · show QAddZ Z a1 a2 h0 n0 _ T2.heap _
    rw [e2]
    exact ⟨rfl, N0, rfl⟩
theorem d6_10 : decode prog_30_method_3_code 10 = .ok (.iconst 0, 1) := by decide +kernel
theorem d6_11 : decode prog_30_method_3_code 11 = .ok (.istore_n 2, 1) := by decide +kernel
theorem d6_42 : decode prog_30_method_3_code 42 = .ok (.aload_n 0, 1) := by decide +kernel
theorem d6_43 : decode prog_30_method_3_code 43 = .ok (.dup, 1) := by decide +kernel
theorem d6_44 : decode prog_30_method_3_code 44 = .ok (.getfield 27, 3) := by decide +kernel
theorem d6_47 : decode prog_30_method_3_code 47 = .ok (.aload_n 1, 1) := by decide +kernel
theorem d6_48 : decode prog_30_method_3_code 48 = .ok (.getfield 27, 3) := by decide +kernel
theorem d6_51 : decode prog_30_method_3_code 51 = .ok (.ladd, 1) := by decide +kernel
theorem d6_52 : decode prog_30_method_3_code 52 = .ok (.putfield 27, 3) := by decide +kernel
theorem d6_55 : decode prog_30_method_3_code 55 = .ok (.return_, 1) := by decide +kernel
theorem ef_Add0 (m : MethodId) (a1 : Addr) (a2 : Addr) : entryFrame m #[(.ref a1), (.ref a2)] 3 = mkF m 0 #[.val (.ref a1), .val (.ref a2), .unset] [] := by first | (simp [entryFrame, mkF, argsToLocals, Value.category]; done) | rfl
def QAdd0 (Z : State) (a1 : Addr) (a2 : Addr) (va : Addr) (vb : Addr) (ka : ClassId) (kb : ClassId) (gg : Nat → Int64) (ff : Nat → Int64) (h0 : Heap) (n0 : Nat) (v : Option Value) (h : Heap) (L : List Loc) : Prop := v = none ∧ Fr n0 L ∧ Keep h0 h [a1, va] ∧ Fld Z h a1 "com/example/tideshift/tideshift/cli/LatencyHistogram" "counts" "[J" (.ref va) ∧ Fld Z h a1 "com/example/tideshift/tideshift/cli/LatencyHistogram" "count" "J" (.long (1 : Int64)) ∧ Arv Z h va ka .long (3712 : Int32) (tab (addF 3712 gg ff)) (.long (0 : Int64))
set_option maxRecDepth 65536 in
set_option maxHeartbeats 40000000 in
theorem rmAdd0 (l : Launch) (Z : State) (a0 : Array Value) (hw : ∀ d ∈ tables_1, d.before a0 Z = true) (ws : List Jvm.Cond) (a1 : Addr) (a2 : Addr) (va : Addr) (vb : Addr) (ka : ClassId) (kb : ClassId) (gg : Nat → Int64) (ff : Nat → Int64) (h0 : Heap) (n0 : Nat) (Z0 : n0 ≤ h0.size) (pr0 : Exa Z h0 a1 "com/example/tideshift/tideshift/cli/LatencyHistogram") (pr1 : Exa Z h0 a2 "com/example/tideshift/tideshift/cli/LatencyHistogram") (pr2 : Fld Z h0 a1 "com/example/tideshift/tideshift/cli/LatencyHistogram" "counts" "[J" (.ref va)) (pr3 : Fld Z h0 a2 "com/example/tideshift/tideshift/cli/LatencyHistogram" "counts" "[J" (.ref vb)) (pr4 : Arv Z h0 va ka .long (3712 : Int32) (tab gg) (.long (0 : Int64))) (pr5 : Arv Z h0 vb kb .long (3712 : Int32) (tab ff) (.long (0 : Int64))) (pr6 : n0 ≤ va) (pr7 : va ≠ vb) (pr8 : Fld Z h0 a1 "com/example/tideshift/tideshift/cli/LatencyHistogram" "count" "J" (.long (0 : Int64))) (pr9 : Fld Z h0 a2 "com/example/tideshift/tideshift/cli/LatencyHistogram" "count" "J" (.long (1 : Int64))) (pr10 : n0 ≤ a1) (pr11 : a1 ≠ a2) :
    MetFree l (⟨"com/example/tideshift/tideshift/cli/LatencyHistogram", "add", "(Lcom/example/tideshift/tideshift/cli/LatencyHistogram;)V"⟩ : MethodName) (head1 (Jvm.Cond.code (⟨"com/example/tideshift/tideshift/cli/LatencyHistogram", "add", "(Lcom/example/tideshift/tideshift/cli/LatencyHistogram;)V"⟩ : MethodName) prog_30_method_3_code 3 none :: ws) ({ frames := 0, cells := 0, slots := 0, locals := 0 } : Room)) (fun a U => a = #[(.ref a1), (.ref a2)] ∧ Z.Warmed39 U.vm ∧ U.heap = h0) (fun _ _ _ _ _ => True) (fun _ U o U' => ∃ v L, o = .returned v ∧ QAdd0 Z a1 a2 va vb ka kb gg ff h0 n0 v U'.heap L ∧ FrameEnd U o U' L ({ frames := 0, cells := 0, slots := 0, locals := 0 } : Room).cells ({ frames := 0, cells := 0, slots := 0, locals := 0 } : Room).slots) := by
  refine MetFree.of_bodySF (plainFor_of_name pn_6) hisR ?_
  intro p e s m args below meth c s₁ Bd hml0 hP hK
  obtain ⟨rfl, hZ, hh⟩ := hP
  have hx := Bd.exec
  have hby := Bd.bytes
  have hml : c.maxLocals = 3 := hml0
  have hown : s.vm.findClass "com/example/tideshift/tideshift/cli/LatencyHistogram" = some m.cls := findClass_of_methodNamed Bd.named
  have hnm := (name_of_methodNamed Bd.named Bd.method).1
  have X0 : Stand p l e ({ frames := 0, cells := 0, slots := 0, locals := 0 } : Room) s m #[(.ref a1), (.ref a2)] below meth c s₁ [] 0 0 := Stand.of_body Bd
  have hs0 : h0 = s.heap := hh.symm
  have e0 : s₁.heap = h0 := by rw [← hh, Bd.state]; rfl
  have N0 := Fr.nil n0
  obtain ⟨f0, hf0⟩ : ∃ f, f = entryFrame m #[(.ref a1), (.ref a2)] 3 := ⟨_, rfl⟩
  have pre0 : ∀ t, Steps p.tables e below (s₁.setTop f0) t → Steps p.tables e below (s₁.setTop (entryFrame m #[(.ref a1), (.ref a2)] 3)) t := fun t k => hf0 ▸ k
  have K0 : Gx p e below s₁ f0 s₁ (mkF m 0 #[.val (.ref a1), .val (.ref a2), .unset] []) := fun t kt => by rw [hf0]; exact castTop (ef_Add0 m a1 a2) kt
  have K1 : Gx p e below s₁ f0 s₁ (mkF m 1 #[.val (.ref a1), .val (.ref a2), .unset] [(.ref a2)]) := fun t kt => K0 t (by
    show Steps p.tables e below (s₁.setTop (mkF m 0 #[.val (.ref a1), .val (.ref a2), .unset] [])) _
    refine XS.aloadN X0.here hx rfl (hb hby d6_0) rfl rfl ?_
    exact kt)
  obtain ⟨T2, X2, e2, st2⟩ := getF X0 hx hZ hown (host := "") (Or.inl (hw _ (List.mem_of_getElem? (i := 31) rfl))) Via.refl e0 pr9 (g := (mkF m 1 #[.val (.ref a1), .val (.ref a2), .unset] [(.ref a2)])) rfl rfl (hb hby d6_1)
  have K3 : Gx p e below s₁ f0 T2 (mkF m 4 #[.val (.ref a1), .val (.ref a2), .unset] [(.long (1 : Int64))]) := fun t kt => K1 t (st2 t kt)
  have K4 : Gx p e below s₁ f0 T2 (mkF m 12 #[.val (.ref a1), .val (.ref a2), .val (.int (0 : Int32))] []) := fun t kt => K3 t (by
    show Steps p.tables e below (T2.setTop (mkF m 4 #[.val (.ref a1), .val (.ref a2), .unset] [(.long (1 : Int64))])) _
    refine XS.lconst X2.here hx rfl (hb hby d6_4) ?_
    show Steps p.tables e below (T2.setTop (mkF m 5 #[.val (.ref a1), .val (.ref a2), .unset] [(.long (0 : Int64)), (.long (1 : Int64))])) _
    refine XS.lcmp X2.here hx rfl (hb hby d6_5) rfl ?_
    show Steps p.tables e below (T2.setTop (mkF m 6 #[.val (.ref a1), .val (.ref a2), .unset] [(.int (lcmpW (1 : Int64) (0 : Int64)))])) _
    refine XS.ifYes X2.here hx rfl (pc0 := 6) (pc' := 10) rfl (hb hby d6_6) rfl ((if0 _ _).trans (feq (by decide)).2) (by decide) (by decide) ?_
    show Steps p.tables e below (T2.setTop (mkF m 10 #[.val (.ref a1), .val (.ref a2), .unset] [])) _
    refine XS.iconst X2.here hx rfl (hb hby d6_10) ?_
    show Steps p.tables e below (T2.setTop (mkF m 11 #[.val (.ref a1), .val (.ref a2), .unset] [(.int (0 : Int32))])) _
    refine XS.istoreN X2.here hx rfl (hb hby d6_11) rfl (l' := #[.val (.ref a1), .val (.ref a2), .val (.int (0 : Int32))]) rfl ?_
    exact kt)
  obtain ⟨T5, h5, lc5, X5, e5, N5, Kc5, V5, st5⟩ := aloop Z a0 hw (R := ({ frames := 0, cells := 0, slots := 0, locals := 0 } : Room)) (gg := gg) (ff := ff) hx hby hml hown hZ pr6 pr7 3712 0 (Nat.zero_add 3712) T2 _ _ X2 e2 N0 pr0 pr1 pr2 pr3 (by rw [addF_zero]; exact pr4) pr5
  have K6 : Gx p e below s₁ f0 T5 (mkF m 42 #[.val (.ref a1), .val (.ref a2), .val (.int (Int32.ofNat 3712))] []) := fun t kt => K4 t (st5 t kt)
  have K7 : Gx p e below s₁ f0 T5 (mkF m 44 #[.val (.ref a1), .val (.ref a2), .val (.int (Int32.ofNat 3712))] [(.ref a1), (.ref a1)]) := fun t kt => K6 t (by
    show Steps p.tables e below (T5.setTop (mkF m 42 #[.val (.ref a1), .val (.ref a2), .val (.int (Int32.ofNat 3712))] [])) _
    refine XS.aloadN X5.here hx rfl (hb hby d6_42) rfl rfl ?_
    show Steps p.tables e below (T5.setTop (mkF m 43 #[.val (.ref a1), .val (.ref a2), .val (.int (Int32.ofNat 3712))] [(.ref a1)])) _
    refine XS.dup X5.here hx rfl (hb hby d6_43) rfl rfl ?_
    exact kt)
  have f8 : Fld Z h5 a1 "com/example/tideshift/tideshift/cli/LatencyHistogram" "count" "J" (.long (0 : Int64)) := (pr8.keep Kc5 (ninS (Exa.neArv (pr0.keep Kc5) V5 (hw _ (List.mem_of_getElem? (i := 1) rfl))) nin0))
  obtain ⟨T9, X9, e9, st9⟩ := getF X5 hx hZ hown (host := "") (Or.inl (hw _ (List.mem_of_getElem? (i := 31) rfl))) Via.refl e5 f8 (g := (mkF m 44 #[.val (.ref a1), .val (.ref a2), .val (.int (Int32.ofNat 3712))] [(.ref a1), (.ref a1)])) rfl rfl (hb hby d6_44)
  have K10 : Gx p e below s₁ f0 T9 (mkF m 47 #[.val (.ref a1), .val (.ref a2), .val (.int (Int32.ofNat 3712))] [(.long (0 : Int64)), (.ref a1)]) := fun t kt => K7 t (st9 t kt)
  have K11 : Gx p e below s₁ f0 T9 (mkF m 48 #[.val (.ref a1), .val (.ref a2), .val (.int (Int32.ofNat 3712))] [(.ref a2), (.long (0 : Int64)), (.ref a1)]) := fun t kt => K10 t (by
    show Steps p.tables e below (T9.setTop (mkF m 47 #[.val (.ref a1), .val (.ref a2), .val (.int (Int32.ofNat 3712))] [(.long (0 : Int64)), (.ref a1)])) _
    refine XS.aloadN X9.here hx rfl (hb hby d6_47) rfl rfl ?_
    exact kt)
  have f12 : Fld Z h5 a2 "com/example/tideshift/tideshift/cli/LatencyHistogram" "count" "J" (.long (1 : Int64)) := (pr9.keep Kc5 (ninS (Exa.neArv (pr1.keep Kc5) V5 (hw _ (List.mem_of_getElem? (i := 1) rfl))) nin0))
  obtain ⟨T13, X13, e13, st13⟩ := getF X9 hx hZ hown (host := "") (Or.inl (hw _ (List.mem_of_getElem? (i := 31) rfl))) Via.refl e9 f12 (g := (mkF m 48 #[.val (.ref a1), .val (.ref a2), .val (.int (Int32.ofNat 3712))] [(.ref a2), (.long (0 : Int64)), (.ref a1)])) rfl rfl (hb hby d6_48)
  have K14 : Gx p e below s₁ f0 T13 (mkF m 51 #[.val (.ref a1), .val (.ref a2), .val (.int (Int32.ofNat 3712))] [(.long (1 : Int64)), (.long (0 : Int64)), (.ref a1)]) := fun t kt => K11 t (st13 t kt)
  have K15 : Gx p e below s₁ f0 T13 (mkF m 52 #[.val (.ref a1), .val (.ref a2), .val (.int (Int32.ofNat 3712))] [(.long (1 : Int64)), (.ref a1)]) := fun t kt => K14 t (by
    show Steps p.tables e below (T13.setTop (mkF m 51 #[.val (.ref a1), .val (.ref a2), .val (.int (Int32.ofNat 3712))] [(.long (1 : Int64)), (.long (0 : Int64)), (.ref a1)])) _
    refine XS.ladd X13.here hx rfl (hb hby d6_51) rfl ?_
    exact kt)
  have f16 : Exa Z h5 a1 "com/example/tideshift/tideshift/cli/LatencyHistogram" := (pr0.keep Kc5)
  obtain ⟨T17, h17, X17', e17, W17, st17⟩ := putF X13 hx hZ hown (host := "") (Or.inl (hw _ (List.mem_of_getElem? (i := 31) rfl))) Via.refl e13 f8 f16 (Or.inl (hw _ (List.mem_of_getElem? (i := 32) rfl))) (hw _ (List.mem_of_getElem? (i := 1) rfl)) (ty := .long) (by decide) rfl rfl (g := (mkF m 52 #[.val (.ref a1), .val (.ref a2), .val (.int (Int32.ofNat 3712))] [(.long (1 : Int64)), (.ref a1)])) rfl rfl (hb hby d6_52)
  obtain ⟨lc17, X17, N17⟩ : ∃ lc, Stand p l e ({ frames := 0, cells := 0, slots := 0, locals := 0 } : Room) s m #[(.ref a1), (.ref a2)] below meth c T17 lc 0 0 ∧ Fr n0 lc := ⟨_, X17', Fr.snoc X17' N5 pr10⟩
  have f17_ : Fld Z h17 a1 "com/example/tideshift/tideshift/cli/LatencyHistogram" "count" "J" (.long (1 : Int64)) := f8.same W17
  have K18 : Gx p e below s₁ f0 T17 (mkF m 55 #[.val (.ref a1), .val (.ref a2), .val (.int (Int32.ofNat 3712))] []) := fun t kt => K15 t (st17 t kt)
  have kp20 : Keep h0 h17 [a1, va] := ((Keep.trans (Keep.refl h0 [a1, va]) Kc5 (allS (Or.inl (List.mem_of_getElem? (i := 1) rfl)) all0)).wr W17 (Or.inl (List.mem_of_getElem? (i := 0) rfl)))
  have f21 : Fld Z h17 a1 "com/example/tideshift/tideshift/cli/LatencyHistogram" "counts" "[J" (.ref va) := ((pr2.keep Kc5 (ninS (Exa.neArv f16 V5 (hw _ (List.mem_of_getElem? (i := 1) rfl))) nin0)).other W17 (Or.inr (slot_ne (Or.inr (hw _ (List.mem_of_getElem? (i := 25) rfl))) (Or.inl (hw _ (List.mem_of_getElem? (i := 32) rfl))) (by decide) (t := (.array .long)) (t' := .long) (by decide) (by decide))))
  have f22 : Arv Z h17 va ka .long (3712 : Int32) (tab (addF 3712 gg ff)) (.long (0 : Int64)) := (V5.other W17 (Ne.symm (Exa.neArv f16 V5 (hw _ (List.mem_of_getElem? (i := 1) rfl)))))
  obtain ⟨fs19, hr19, hrun19, hended19, hW19, hsame19⟩ := X17.leave (v := none) (fun _ => rfl)
  refine ⟨_, _, pre0 _ (K18 _ ?_), hrun19, hended19, _, _, rfl, ?_, ⟨_, rfl⟩, hW19, hsame19.mono (by decide) (by decide)⟩
  · exact X17.returnOut hx Bd.returns (hb hby d6_55) hr19
  · show QAdd0 Z a1 a2 va vb ka kb gg ff h0 n0 _ T17.heap _
    rw [e17]
    exact ⟨rfl, N17, kp20, f21, f17_, f22⟩
theorem ef_Add1 (m : MethodId) (a1 : Addr) (a2 : Addr) : entryFrame m #[(.ref a1), (.ref a2)] 3 = mkF m 0 #[.val (.ref a1), .val (.ref a2), .unset] [] := by first | (simp [entryFrame, mkF, argsToLocals, Value.category]; done) | rfl
def QAdd1 (Z : State) (a1 : Addr) (a2 : Addr) (va : Addr) (vb : Addr) (ka : ClassId) (kb : ClassId) (gg : Nat → Int64) (ff : Nat → Int64) (h0 : Heap) (n0 : Nat) (v : Option Value) (h : Heap) (L : List Loc) : Prop := v = none ∧ Fr n0 L ∧ Keep h0 h [a1, va] ∧ Fld Z h a1 "com/example/tideshift/tideshift/cli/LatencyHistogram" "counts" "[J" (.ref va) ∧ Fld Z h a1 "com/example/tideshift/tideshift/cli/LatencyHistogram" "count" "J" (.long (2 : Int64)) ∧ Arv Z h va ka .long (3712 : Int32) (tab (addF 3712 gg ff)) (.long (0 : Int64))
set_option maxRecDepth 65536 in
set_option maxHeartbeats 40000000 in
theorem rmAdd1 (l : Launch) (Z : State) (a0 : Array Value) (hw : ∀ d ∈ tables_1, d.before a0 Z = true) (ws : List Jvm.Cond) (a1 : Addr) (a2 : Addr) (va : Addr) (vb : Addr) (ka : ClassId) (kb : ClassId) (gg : Nat → Int64) (ff : Nat → Int64) (h0 : Heap) (n0 : Nat) (Z0 : n0 ≤ h0.size) (pr0 : Exa Z h0 a1 "com/example/tideshift/tideshift/cli/LatencyHistogram") (pr1 : Exa Z h0 a2 "com/example/tideshift/tideshift/cli/LatencyHistogram") (pr2 : Fld Z h0 a1 "com/example/tideshift/tideshift/cli/LatencyHistogram" "counts" "[J" (.ref va)) (pr3 : Fld Z h0 a2 "com/example/tideshift/tideshift/cli/LatencyHistogram" "counts" "[J" (.ref vb)) (pr4 : Arv Z h0 va ka .long (3712 : Int32) (tab gg) (.long (0 : Int64))) (pr5 : Arv Z h0 vb kb .long (3712 : Int32) (tab ff) (.long (0 : Int64))) (pr6 : n0 ≤ va) (pr7 : va ≠ vb) (pr8 : Fld Z h0 a1 "com/example/tideshift/tideshift/cli/LatencyHistogram" "count" "J" (.long (1 : Int64))) (pr9 : Fld Z h0 a2 "com/example/tideshift/tideshift/cli/LatencyHistogram" "count" "J" (.long (1 : Int64))) (pr10 : n0 ≤ a1) (pr11 : a1 ≠ a2) :
    MetFree l (⟨"com/example/tideshift/tideshift/cli/LatencyHistogram", "add", "(Lcom/example/tideshift/tideshift/cli/LatencyHistogram;)V"⟩ : MethodName) (head1 (Jvm.Cond.code (⟨"com/example/tideshift/tideshift/cli/LatencyHistogram", "add", "(Lcom/example/tideshift/tideshift/cli/LatencyHistogram;)V"⟩ : MethodName) prog_30_method_3_code 3 none :: ws) ({ frames := 0, cells := 0, slots := 0, locals := 0 } : Room)) (fun a U => a = #[(.ref a1), (.ref a2)] ∧ Z.Warmed39 U.vm ∧ U.heap = h0) (fun _ _ _ _ _ => True) (fun _ U o U' => ∃ v L, o = .returned v ∧ QAdd1 Z a1 a2 va vb ka kb gg ff h0 n0 v U'.heap L ∧ FrameEnd U o U' L ({ frames := 0, cells := 0, slots := 0, locals := 0 } : Room).cells ({ frames := 0, cells := 0, slots := 0, locals := 0 } : Room).slots) := by
  refine MetFree.of_bodySF (plainFor_of_name pn_6) hisR ?_
  intro p e s m args below meth c s₁ Bd hml0 hP hK
  obtain ⟨rfl, hZ, hh⟩ := hP
  have hx := Bd.exec
  have hby := Bd.bytes
  have hml : c.maxLocals = 3 := hml0
  have hown : s.vm.findClass "com/example/tideshift/tideshift/cli/LatencyHistogram" = some m.cls := findClass_of_methodNamed Bd.named
  have hnm := (name_of_methodNamed Bd.named Bd.method).1
  have X0 : Stand p l e ({ frames := 0, cells := 0, slots := 0, locals := 0 } : Room) s m #[(.ref a1), (.ref a2)] below meth c s₁ [] 0 0 := Stand.of_body Bd
  have hs0 : h0 = s.heap := hh.symm
  have e0 : s₁.heap = h0 := by rw [← hh, Bd.state]; rfl
  have N0 := Fr.nil n0
  obtain ⟨f0, hf0⟩ : ∃ f, f = entryFrame m #[(.ref a1), (.ref a2)] 3 := ⟨_, rfl⟩
  have pre0 : ∀ t, Steps p.tables e below (s₁.setTop f0) t → Steps p.tables e below (s₁.setTop (entryFrame m #[(.ref a1), (.ref a2)] 3)) t := fun t k => hf0 ▸ k
  have K0 : Gx p e below s₁ f0 s₁ (mkF m 0 #[.val (.ref a1), .val (.ref a2), .unset] []) := fun t kt => by rw [hf0]; exact castTop (ef_Add1 m a1 a2) kt
  have K1 : Gx p e below s₁ f0 s₁ (mkF m 1 #[.val (.ref a1), .val (.ref a2), .unset] [(.ref a2)]) := fun t kt => K0 t (by
    show Steps p.tables e below (s₁.setTop (mkF m 0 #[.val (.ref a1), .val (.ref a2), .unset] [])) _
    refine XS.aloadN X0.here hx rfl (hb hby d6_0) rfl rfl ?_
    exact kt)
  obtain ⟨T2, X2, e2, st2⟩ := getF X0 hx hZ hown (host := "") (Or.inl (hw _ (List.mem_of_getElem? (i := 31) rfl))) Via.refl e0 pr9 (g := (mkF m 1 #[.val (.ref a1), .val (.ref a2), .unset] [(.ref a2)])) rfl rfl (hb hby d6_1)
  have K3 : Gx p e below s₁ f0 T2 (mkF m 4 #[.val (.ref a1), .val (.ref a2), .unset] [(.long (1 : Int64))]) := fun t kt => K1 t (st2 t kt)
  have K4 : Gx p e below s₁ f0 T2 (mkF m 12 #[.val (.ref a1), .val (.ref a2), .val (.int (0 : Int32))] []) := fun t kt => K3 t (by
    show Steps p.tables e below (T2.setTop (mkF m 4 #[.val (.ref a1), .val (.ref a2), .unset] [(.long (1 : Int64))])) _
    refine XS.lconst X2.here hx rfl (hb hby d6_4) ?_
    show Steps p.tables e below (T2.setTop (mkF m 5 #[.val (.ref a1), .val (.ref a2), .unset] [(.long (0 : Int64)), (.long (1 : Int64))])) _
    refine XS.lcmp X2.here hx rfl (hb hby d6_5) rfl ?_
    show Steps p.tables e below (T2.setTop (mkF m 6 #[.val (.ref a1), .val (.ref a2), .unset] [(.int (lcmpW (1 : Int64) (0 : Int64)))])) _
    refine XS.ifYes X2.here hx rfl (pc0 := 6) (pc' := 10) rfl (hb hby d6_6) rfl ((if0 _ _).trans (feq (by decide)).2) (by decide) (by decide) ?_
    show Steps p.tables e below (T2.setTop (mkF m 10 #[.val (.ref a1), .val (.ref a2), .unset] [])) _
    refine XS.iconst X2.here hx rfl (hb hby d6_10) ?_
    show Steps p.tables e below (T2.setTop (mkF m 11 #[.val (.ref a1), .val (.ref a2), .unset] [(.int (0 : Int32))])) _
    refine XS.istoreN X2.here hx rfl (hb hby d6_11) rfl (l' := #[.val (.ref a1), .val (.ref a2), .val (.int (0 : Int32))]) rfl ?_
    exact kt)
  obtain ⟨T5, h5, lc5, X5, e5, N5, Kc5, V5, st5⟩ := aloop Z a0 hw (R := ({ frames := 0, cells := 0, slots := 0, locals := 0 } : Room)) (gg := gg) (ff := ff) hx hby hml hown hZ pr6 pr7 3712 0 (Nat.zero_add 3712) T2 _ _ X2 e2 N0 pr0 pr1 pr2 pr3 (by rw [addF_zero]; exact pr4) pr5
  have K6 : Gx p e below s₁ f0 T5 (mkF m 42 #[.val (.ref a1), .val (.ref a2), .val (.int (Int32.ofNat 3712))] []) := fun t kt => K4 t (st5 t kt)
  have K7 : Gx p e below s₁ f0 T5 (mkF m 44 #[.val (.ref a1), .val (.ref a2), .val (.int (Int32.ofNat 3712))] [(.ref a1), (.ref a1)]) := fun t kt => K6 t (by
    show Steps p.tables e below (T5.setTop (mkF m 42 #[.val (.ref a1), .val (.ref a2), .val (.int (Int32.ofNat 3712))] [])) _
    refine XS.aloadN X5.here hx rfl (hb hby d6_42) rfl rfl ?_
    show Steps p.tables e below (T5.setTop (mkF m 43 #[.val (.ref a1), .val (.ref a2), .val (.int (Int32.ofNat 3712))] [(.ref a1)])) _
    refine XS.dup X5.here hx rfl (hb hby d6_43) rfl rfl ?_
    exact kt)
  have f8 : Fld Z h5 a1 "com/example/tideshift/tideshift/cli/LatencyHistogram" "count" "J" (.long (1 : Int64)) := (pr8.keep Kc5 (ninS (Exa.neArv (pr0.keep Kc5) V5 (hw _ (List.mem_of_getElem? (i := 1) rfl))) nin0))
  obtain ⟨T9, X9, e9, st9⟩ := getF X5 hx hZ hown (host := "") (Or.inl (hw _ (List.mem_of_getElem? (i := 31) rfl))) Via.refl e5 f8 (g := (mkF m 44 #[.val (.ref a1), .val (.ref a2), .val (.int (Int32.ofNat 3712))] [(.ref a1), (.ref a1)])) rfl rfl (hb hby d6_44)
  have K10 : Gx p e below s₁ f0 T9 (mkF m 47 #[.val (.ref a1), .val (.ref a2), .val (.int (Int32.ofNat 3712))] [(.long (1 : Int64)), (.ref a1)]) := fun t kt => K7 t (st9 t kt)
  have K11 : Gx p e below s₁ f0 T9 (mkF m 48 #[.val (.ref a1), .val (.ref a2), .val (.int (Int32.ofNat 3712))] [(.ref a2), (.long (1 : Int64)), (.ref a1)]) := fun t kt => K10 t (by
    show Steps p.tables e below (T9.setTop (mkF m 47 #[.val (.ref a1), .val (.ref a2), .val (.int (Int32.ofNat 3712))] [(.long (1 : Int64)), (.ref a1)])) _
    refine XS.aloadN X9.here hx rfl (hb hby d6_47) rfl rfl ?_
    exact kt)
  have f12 : Fld Z h5 a2 "com/example/tideshift/tideshift/cli/LatencyHistogram" "count" "J" (.long (1 : Int64)) := (pr9.keep Kc5 (ninS (Exa.neArv (pr1.keep Kc5) V5 (hw _ (List.mem_of_getElem? (i := 1) rfl))) nin0))
  obtain ⟨T13, X13, e13, st13⟩ := getF X9 hx hZ hown (host := "") (Or.inl (hw _ (List.mem_of_getElem? (i := 31) rfl))) Via.refl e9 f12 (g := (mkF m 48 #[.val (.ref a1), .val (.ref a2), .val (.int (Int32.ofNat 3712))] [(.ref a2), (.long (1 : Int64)), (.ref a1)])) rfl rfl (hb hby d6_48)
  have K14 : Gx p e below s₁ f0 T13 (mkF m 51 #[.val (.ref a1), .val (.ref a2), .val (.int (Int32.ofNat 3712))] [(.long (1 : Int64)), (.long (1 : Int64)), (.ref a1)]) := fun t kt => K11 t (st13 t kt)
  have K15 : Gx p e below s₁ f0 T13 (mkF m 52 #[.val (.ref a1), .val (.ref a2), .val (.int (Int32.ofNat 3712))] [(.long (2 : Int64)), (.ref a1)]) := fun t kt => K14 t (by
    show Steps p.tables e below (T13.setTop (mkF m 51 #[.val (.ref a1), .val (.ref a2), .val (.int (Int32.ofNat 3712))] [(.long (1 : Int64)), (.long (1 : Int64)), (.ref a1)])) _
    refine XS.ladd X13.here hx rfl (hb hby d6_51) rfl ?_
    exact kt)
  have f16 : Exa Z h5 a1 "com/example/tideshift/tideshift/cli/LatencyHistogram" := (pr0.keep Kc5)
  obtain ⟨T17, h17, X17', e17, W17, st17⟩ := putF X13 hx hZ hown (host := "") (Or.inl (hw _ (List.mem_of_getElem? (i := 31) rfl))) Via.refl e13 f8 f16 (Or.inl (hw _ (List.mem_of_getElem? (i := 32) rfl))) (hw _ (List.mem_of_getElem? (i := 1) rfl)) (ty := .long) (by decide) rfl rfl (g := (mkF m 52 #[.val (.ref a1), .val (.ref a2), .val (.int (Int32.ofNat 3712))] [(.long (2 : Int64)), (.ref a1)])) rfl rfl (hb hby d6_52)
  obtain ⟨lc17, X17, N17⟩ : ∃ lc, Stand p l e ({ frames := 0, cells := 0, slots := 0, locals := 0 } : Room) s m #[(.ref a1), (.ref a2)] below meth c T17 lc 0 0 ∧ Fr n0 lc := ⟨_, X17', Fr.snoc X17' N5 pr10⟩
  have f17_ : Fld Z h17 a1 "com/example/tideshift/tideshift/cli/LatencyHistogram" "count" "J" (.long (2 : Int64)) := f8.same W17
  have K18 : Gx p e below s₁ f0 T17 (mkF m 55 #[.val (.ref a1), .val (.ref a2), .val (.int (Int32.ofNat 3712))] []) := fun t kt => K15 t (st17 t kt)
  have kp20 : Keep h0 h17 [a1, va] := ((Keep.trans (Keep.refl h0 [a1, va]) Kc5 (allS (Or.inl (List.mem_of_getElem? (i := 1) rfl)) all0)).wr W17 (Or.inl (List.mem_of_getElem? (i := 0) rfl)))
  have f21 : Fld Z h17 a1 "com/example/tideshift/tideshift/cli/LatencyHistogram" "counts" "[J" (.ref va) := ((pr2.keep Kc5 (ninS (Exa.neArv f16 V5 (hw _ (List.mem_of_getElem? (i := 1) rfl))) nin0)).other W17 (Or.inr (slot_ne (Or.inr (hw _ (List.mem_of_getElem? (i := 25) rfl))) (Or.inl (hw _ (List.mem_of_getElem? (i := 32) rfl))) (by decide) (t := (.array .long)) (t' := .long) (by decide) (by decide))))
  have f22 : Arv Z h17 va ka .long (3712 : Int32) (tab (addF 3712 gg ff)) (.long (0 : Int64)) := (V5.other W17 (Ne.symm (Exa.neArv f16 V5 (hw _ (List.mem_of_getElem? (i := 1) rfl)))))
  obtain ⟨fs19, hr19, hrun19, hended19, hW19, hsame19⟩ := X17.leave (v := none) (fun _ => rfl)
  refine ⟨_, _, pre0 _ (K18 _ ?_), hrun19, hended19, _, _, rfl, ?_, ⟨_, rfl⟩, hW19, hsame19.mono (by decide) (by decide)⟩
  · exact X17.returnOut hx Bd.returns (hb hby d6_55) hr19
  · show QAdd1 Z a1 a2 va vb ka kb gg ff h0 n0 _ T17.heap _
    rw [e17]
    exact ⟨rfl, N17, kp20, f21, f17_, f22⟩
theorem pn_0 : plainName "com/example/tideshift/tideshift/cli/LatencyHistogramAddPinLaw" = true := by first | (simp [plainName, overriddenIn]; done) | decide +kernel
theorem pd___V : parseMethodDescriptor "()V" = some ⟨[], none⟩ := by decide +kernel
theorem pd__Lcom_example_tideshift_tideshift_cli_LatencyHistogram__V : parseMethodDescriptor "(Lcom/example/tideshift/tideshift/cli/LatencyHistogram;)V" = some ⟨[(.object "com/example/tideshift/tideshift/cli/LatencyHistogram")], none⟩ := by decide +kernel
theorem pd___J : parseMethodDescriptor "()J" = some ⟨[], some .long⟩ := by decide +kernel
theorem pd__DD_Z : parseMethodDescriptor "(DD)Z" = some ⟨[.double, .double], some .boolean⟩ := by decide +kernel
theorem pd__J_V : parseMethodDescriptor "(J)V" = some ⟨[.long], none⟩ := by decide +kernel
theorem ef_0 (m : MethodId) (p1 : Int64) (p2 : Int64) (p3 : Int32) : entryFrame m #[(.long p1), (.long p2), (.int p3)] maxLocals = mkF m 0 #[.val (.long p1), .second, .val (.long p2), .second, .val (.int p3), .unset, .unset, .unset, .unset, .unset, .unset, .unset, .unset] [] := by first | (simp [entryFrame, mkF, argsToLocals, Value.category, maxLocals]; done) | rfl
def Q0 (Z : State) (p1 : Int64) (p2 : Int64) (p3 : Int32) (h0 : Heap) (n0 : Nat) (v : Option Value) (h : Heap) (L : List Loc) : Prop := v = some (.int (1 : Int32)) ∧ Fr n0 L
set_option maxRecDepth 65536 in
set_option maxHeartbeats 40000000 in
theorem rm0 (l : Launch) (Z : State) (a0 : Array Value) (hw : ∀ d ∈ tables_1, d.before a0 Z = true) (ws : List Jvm.Cond) (p1 : Int64) (p2 : Int64) (p3 : Int32) (h0 : Heap) (n0 : Nat) (Z0 : n0 ≤ h0.size) (pr0 : Old Z n0 h0) (pr1 : Sta Z Z.heap "java/lang/StrictMath" "$assertionsDisabled" "Z" (.int (1 : Int32))) :
    MetFree l x (head1 (Jvm.Cond.code x code maxLocals ret :: ws) room_1) (fun a U => a = #[(.long p1), (.long p2), (.int p3)] ∧ Z.Warmed39 U.vm ∧ U.heap = h0) (fun _ _ _ _ _ => True) (fun _ U o U' => ∃ v L, o = .returned v ∧ Q0 Z p1 p2 p3 h0 n0 v U'.heap L ∧ FrameEnd U o U' L room_1.cells room_1.slots) := by
  refine MetFree.of_bodySF (plainFor_of_name pn_0) hisR ?_
  intro p e s m args below meth c s₁ Bd hml0 hP hK
  obtain ⟨rfl, hZ, hh⟩ := hP
  have hx := Bd.exec
  have hby := Bd.bytes
  have hml : c.maxLocals = 13 := hml0
  have hown : s.vm.findClass "com/example/tideshift/tideshift/cli/LatencyHistogramAddPinLaw" = some m.cls := findClass_of_methodNamed Bd.named
  have hnm := (name_of_methodNamed Bd.named Bd.method).1
  have X0 : Stand p l e room_1 s m #[(.long p1), (.long p2), (.int p3)] below meth c s₁ [] 0 0 := Stand.of_body Bd
  have hs0 : h0 = s.heap := hh.symm
  have e0 : s₁.heap = h0 := by rw [← hh, Bd.state]; rfl
  have N0 := Fr.nil n0
  obtain ⟨f0, hf0⟩ : ∃ f, f = entryFrame m #[(.long p1), (.long p2), (.int p3)] maxLocals := ⟨_, rfl⟩
  have pre0 : ∀ t, Steps p.tables e below (s₁.setTop f0) t → Steps p.tables e below (s₁.setTop (entryFrame m #[(.long p1), (.long p2), (.int p3)] maxLocals)) t := fun t k => hf0 ▸ k
  have K0 : Gx p e below s₁ f0 s₁ (mkF m 0 #[.val (.long p1), .second, .val (.long p2), .second, .val (.int p3), .unset, .unset, .unset, .unset, .unset, .unset, .unset, .unset] []) := fun t kt => by rw [hf0]; exact castTop (ef_0 m p1 p2 p3) kt
  have K1 : Gx p e below s₁ f0 s₁ (mkF m 4 #[.val (.long p1), .second, .val (.long p2), .second, .val (.int p3), .unset, .unset, .unset, .unset, .unset, .unset, .unset, .unset] [(.int (p3 &&& (1 : Int32)))]) := fun t kt => K0 t (by
    show Steps p.tables e below (s₁.setTop (mkF m 0 #[.val (.long p1), .second, .val (.long p2), .second, .val (.int p3), .unset, .unset, .unset, .unset, .unset, .unset, .unset, .unset] [])) _
    refine XS.iload X0.here hx rfl (hb hby at_0) rfl ?_
    show Steps p.tables e below (s₁.setTop (mkF m 2 #[.val (.long p1), .second, .val (.long p2), .second, .val (.int p3), .unset, .unset, .unset, .unset, .unset, .unset, .unset, .unset] [(.int p3)])) _
    refine XS.iconst X0.here hx rfl (hb hby at_2) ?_
    show Steps p.tables e below (s₁.setTop (mkF m 3 #[.val (.long p1), .second, .val (.long p2), .second, .val (.int p3), .unset, .unset, .unset, .unset, .unset, .unset, .unset, .unset] [(.int (1 : Int32)), (.int p3)])) _
    refine XS.iand X0.here hx rfl (hb hby at_3) rfl ?_
    exact kt)
  by_cases hb2 : (p3 &&& (1 : Int32)) = (0 : Int32)
  · skip
    have K3 : Gx p e below s₁ f0 s₁ (mkF m 18 #[.val (.long p1), .second, .val (.long p2), .second, .val (.int p3), .val (.int (0 : Int32)), .unset, .unset, .unset, .unset, .unset, .unset, .unset] [(.int (p3 &&& (2 : Int32)))]) := fun t kt => K1 t (by
      show Steps p.tables e below (s₁.setTop (mkF m 4 #[.val (.long p1), .second, .val (.long p2), .second, .val (.int p3), .unset, .unset, .unset, .unset, .unset, .unset, .unset, .unset] [(.int (p3 &&& (1 : Int32)))])) _
      refine XS.ifYes X0.here hx rfl (pc0 := 4) (pc' := 11) rfl (hb hby at_4) rfl ((if0 _ _).trans (teq hb2).1) (by decide) (by decide) ?_
      show Steps p.tables e below (s₁.setTop (mkF m 11 #[.val (.long p1), .second, .val (.long p2), .second, .val (.int p3), .unset, .unset, .unset, .unset, .unset, .unset, .unset, .unset] [])) _
      refine XS.iconst X0.here hx rfl (hb hby at_11) ?_
      show Steps p.tables e below (s₁.setTop (mkF m 12 #[.val (.long p1), .second, .val (.long p2), .second, .val (.int p3), .unset, .unset, .unset, .unset, .unset, .unset, .unset, .unset] [(.int (0 : Int32))])) _
      refine XS.istore X0.here hx rfl (hb hby at_12) rfl (l' := #[.val (.long p1), .second, .val (.long p2), .second, .val (.int p3), .val (.int (0 : Int32)), .unset, .unset, .unset, .unset, .unset, .unset, .unset]) rfl ?_
      show Steps p.tables e below (s₁.setTop (mkF m 14 #[.val (.long p1), .second, .val (.long p2), .second, .val (.int p3), .val (.int (0 : Int32)), .unset, .unset, .unset, .unset, .unset, .unset, .unset] [])) _
      refine XS.iload X0.here hx rfl (hb hby at_14) rfl ?_
      show Steps p.tables e below (s₁.setTop (mkF m 16 #[.val (.long p1), .second, .val (.long p2), .second, .val (.int p3), .val (.int (0 : Int32)), .unset, .unset, .unset, .unset, .unset, .unset, .unset] [(.int p3)])) _
      refine XS.iconst X0.here hx rfl (hb hby at_16) ?_
      show Steps p.tables e below (s₁.setTop (mkF m 17 #[.val (.long p1), .second, .val (.long p2), .second, .val (.int p3), .val (.int (0 : Int32)), .unset, .unset, .unset, .unset, .unset, .unset, .unset] [(.int (2 : Int32)), (.int p3)])) _
      refine XS.iand X0.here hx rfl (hb hby at_17) rfl ?_
      exact kt)
    by_cases hb4 : (p3 &&& (2 : Int32)) = (0 : Int32)
    · skip
      have K5 : Gx p e below s₁ f0 s₁ (mkF m 28 #[.val (.long p1), .second, .val (.long p2), .second, .val (.int p3), .val (.int (0 : Int32)), .val (.int (0 : Int32)), .unset, .unset, .unset, .unset, .unset, .unset] []) := fun t kt => K3 t (by
        show Steps p.tables e below (s₁.setTop (mkF m 18 #[.val (.long p1), .second, .val (.long p2), .second, .val (.int p3), .val (.int (0 : Int32)), .unset, .unset, .unset, .unset, .unset, .unset, .unset] [(.int (p3 &&& (2 : Int32)))])) _
        refine XS.ifYes X0.here hx rfl (pc0 := 18) (pc' := 25) rfl (hb hby at_18) rfl ((if0 _ _).trans (teq hb4).1) (by decide) (by decide) ?_
        show Steps p.tables e below (s₁.setTop (mkF m 25 #[.val (.long p1), .second, .val (.long p2), .second, .val (.int p3), .val (.int (0 : Int32)), .unset, .unset, .unset, .unset, .unset, .unset, .unset] [])) _
        refine XS.iconst X0.here hx rfl (hb hby at_25) ?_
        show Steps p.tables e below (s₁.setTop (mkF m 26 #[.val (.long p1), .second, .val (.long p2), .second, .val (.int p3), .val (.int (0 : Int32)), .unset, .unset, .unset, .unset, .unset, .unset, .unset] [(.int (0 : Int32))])) _
        refine XS.istore X0.here hx rfl (hb hby at_26) rfl (l' := #[.val (.long p1), .second, .val (.long p2), .second, .val (.int p3), .val (.int (0 : Int32)), .val (.int (0 : Int32)), .unset, .unset, .unset, .unset, .unset, .unset]) rfl ?_
        exact kt)
      obtain ⟨T6, h6, X6, e6, E6, A6, D6, -, st6⟩ := newO X0 hx hZ hown (hw _ (List.mem_of_getElem? (i := 0) rfl)) (hw _ (List.mem_of_getElem? (i := 1) rfl)) (hw _ (List.mem_of_getElem? (i := 2) rfl)) e0 (g := (mkF m 28 #[.val (.long p1), .second, .val (.long p2), .second, .val (.int p3), .val (.int (0 : Int32)), .val (.int (0 : Int32)), .unset, .unset, .unset, .unset, .unset, .unset] [])) rfl (hb hby at_28) (by decide) (by decide)
      obtain ⟨b6, g6⟩ : ∃ z, z = h0.size := ⟨_, rfl⟩
      rw [← g6] at A6 D6 st6
      have f7 : Fld Z h6 b6 "com/example/tideshift/tideshift/cli/LatencyHistogram" "counts" "[J" .null := D6 (Or.inr (hw _ (List.mem_of_getElem? (i := 25) rfl))) (ty := (.array .long)) (by decide)
      have f8 : Fld Z h6 b6 "com/example/tideshift/tideshift/cli/LatencyHistogram" "count" "J" (.long (0 : Int64)) := D6 (Or.inl (hw _ (List.mem_of_getElem? (i := 32) rfl))) (ty := .long) (by decide)
      have K9 : Gx p e below s₁ f0 T6 (mkF m 31 #[.val (.long p1), .second, .val (.long p2), .second, .val (.int p3), .val (.int (0 : Int32)), .val (.int (0 : Int32)), .unset, .unset, .unset, .unset, .unset, .unset] [(.ref b6)]) := fun t kt => K5 t (st6 t kt)
      have K10 : Gx p e below s₁ f0 T6 (mkF m 32 #[.val (.long p1), .second, .val (.long p2), .second, .val (.int p3), .val (.int (0 : Int32)), .val (.int (0 : Int32)), .unset, .unset, .unset, .unset, .unset, .unset] [(.ref b6), (.ref b6)]) := fun t kt => K9 t (by
        show Steps p.tables e below (T6.setTop (mkF m 31 #[.val (.long p1), .second, .val (.long p2), .second, .val (.int p3), .val (.int (0 : Int32)), .val (.int (0 : Int32)), .unset, .unset, .unset, .unset, .unset, .unset] [(.ref b6)])) _
        refine XS.dup X6.here hx rfl (hb hby at_31) rfl rfl ?_
        exact kt)
      have kp11 : Keep h0 h6 [] := ((Keep.refl h0 []).ext E6)
      obtain ⟨_, _, ⟨T12, L12, k12, n12⟩, -, X12', ⟨Lc12, hQ12, l12, y12, z12⟩, st12⟩ := X6.specialBack hx (y := (⟨"com/example/tideshift/tideshift/cli/LatencyHistogram", "<init>", "()V"⟩ : MethodName)) rfl hown (mvT hZ (hw _ (List.mem_of_getElem? (i := 3) rfl))) (mvT hZ (hw _ (List.mem_of_getElem? (i := 4) rfl))) (mvT hZ (hw _ (List.mem_of_getElem? (i := 5) rfl))) (by decide) (backOf (W := 1) (rmIni l Z a0 hw [] b6 h6 n0 (Nat.le_trans Z0 kp11.1) (Nat.le_trans Z0 (Nat.le_trans (Keep.refl h0 []).1 (Nat.le_of_eq g6.symm))) A6 f7 f8) hZ (hw _ (List.mem_of_getElem? (i := 5) rfl)) (hw _ (List.mem_of_getElem? (i := 2) rfl)) (by decide) (by decide)) (g := (mkF m 32 #[.val (.long p1), .second, .val (.long p2), .second, .val (.int p3), .val (.int (0 : Int32)), .val (.int (0 : Int32)), .unset, .unset, .unset, .unset, .unset, .unset] [(.ref b6), (.ref b6)])) rfl (by rw [hml]; rfl) (Steps.refl _) (a := b6) (argsL := []) (rest := [(.ref b6)]) (lenOf pd___V rfl) rfl (by show 2 * 0 + _ ≤ _; exact Nat.le_of_eq rfl) (hb hby at_32) (fun _ _ => ⟨rfl, e6, (by decide : 1 + 1 ≤ _), (by decide : 2 + 3712 ≤ _)⟩)
      dsimp only [Pt.U, Pt.locs, Pt.cells, Pt.slots] at X12' l12 y12 z12 st12 hQ12
      subst l12 y12 z12
      obtain ⟨h12, e12⟩ : ∃ z, T12.heap = z := ⟨_, rfl⟩
      rw [e12] at hQ12
      obtain ⟨va_12, ka_12, rfl, N12q, Kc12, f13, f14, f15, f16, f17⟩ := hQ12
      obtain ⟨lc12, X12, N12⟩ : ∃ lc, Stand p l e room_1 s m #[(.long p1), (.long p2), (.int p3)] below meth c T12 lc 2 3714 ∧ Fr n0 lc := ⟨_, X12', Fr.app N0 N12q⟩
      have K18 : Gx p e below s₁ f0 T12 (mkF m 35 #[.val (.long p1), .second, .val (.long p2), .second, .val (.int p3), .val (.int (0 : Int32)), .val (.int (0 : Int32)), .unset, .unset, .unset, .unset, .unset, .unset] [(.ref b6)]) := fun t kt => K10 t (st12.trans kt)
      have K19 : Gx p e below s₁ f0 T12 (mkF m 37 #[.val (.long p1), .second, .val (.long p2), .second, .val (.int p3), .val (.int (0 : Int32)), .val (.int (0 : Int32)), .val (.ref b6), .unset, .unset, .unset, .unset, .unset] []) := fun t kt => K18 t (by
        show Steps p.tables e below (T12.setTop (mkF m 35 #[.val (.long p1), .second, .val (.long p2), .second, .val (.int p3), .val (.int (0 : Int32)), .val (.int (0 : Int32)), .unset, .unset, .unset, .unset, .unset, .unset] [(.ref b6)])) _
        refine XS.astore X12.here hx rfl (hb hby at_35) rfl rfl (l' := #[.val (.long p1), .second, .val (.long p2), .second, .val (.int p3), .val (.int (0 : Int32)), .val (.int (0 : Int32)), .val (.ref b6), .unset, .unset, .unset, .unset, .unset]) rfl ?_
        exact kt)
      obtain ⟨T20, h20, X20, e20, E20, A20, D20, -, st20⟩ := newO X12 hx hZ hown (hw _ (List.mem_of_getElem? (i := 0) rfl)) (hw _ (List.mem_of_getElem? (i := 1) rfl)) (hw _ (List.mem_of_getElem? (i := 2) rfl)) e12 (g := (mkF m 37 #[.val (.long p1), .second, .val (.long p2), .second, .val (.int p3), .val (.int (0 : Int32)), .val (.int (0 : Int32)), .val (.ref b6), .unset, .unset, .unset, .unset, .unset] [])) rfl (hb hby at_37) (by decide) (by decide)
      obtain ⟨b20, g20⟩ : ∃ z, z = h12.size := ⟨_, rfl⟩
      rw [← g20] at A20 D20 st20
      have f21 : Fld Z h20 b20 "com/example/tideshift/tideshift/cli/LatencyHistogram" "counts" "[J" .null := D20 (Or.inr (hw _ (List.mem_of_getElem? (i := 25) rfl))) (ty := (.array .long)) (by decide)
      have f22 : Fld Z h20 b20 "com/example/tideshift/tideshift/cli/LatencyHistogram" "count" "J" (.long (0 : Int64)) := D20 (Or.inl (hw _ (List.mem_of_getElem? (i := 32) rfl))) (ty := .long) (by decide)
      have K23 : Gx p e below s₁ f0 T20 (mkF m 40 #[.val (.long p1), .second, .val (.long p2), .second, .val (.int p3), .val (.int (0 : Int32)), .val (.int (0 : Int32)), .val (.ref b6), .unset, .unset, .unset, .unset, .unset] [(.ref b20)]) := fun t kt => K19 t (st20 t kt)
      have K24 : Gx p e below s₁ f0 T20 (mkF m 41 #[.val (.long p1), .second, .val (.long p2), .second, .val (.int p3), .val (.int (0 : Int32)), .val (.int (0 : Int32)), .val (.ref b6), .unset, .unset, .unset, .unset, .unset] [(.ref b20), (.ref b20)]) := fun t kt => K23 t (by
        show Steps p.tables e below (T20.setTop (mkF m 40 #[.val (.long p1), .second, .val (.long p2), .second, .val (.int p3), .val (.int (0 : Int32)), .val (.int (0 : Int32)), .val (.ref b6), .unset, .unset, .unset, .unset, .unset] [(.ref b20)])) _
        refine XS.dup X20.here hx rfl (hb hby at_40) rfl rfl ?_
        exact kt)
      have kp25 : Keep h0 h20 [] := ((Keep.trans kp11 Kc12 (allS (Or.inr (Nat.le_trans (Keep.refl h0 []).1 (Nat.le_of_eq g6.symm))) all0)).ext E20)
      obtain ⟨_, _, ⟨T26, L26, k26, n26⟩, -, X26', ⟨Lc26, hQ26, l26, y26, z26⟩, st26⟩ := X20.specialBack hx (y := (⟨"com/example/tideshift/tideshift/cli/LatencyHistogram", "<init>", "()V"⟩ : MethodName)) rfl hown (mvT hZ (hw _ (List.mem_of_getElem? (i := 3) rfl))) (mvT hZ (hw _ (List.mem_of_getElem? (i := 4) rfl))) (mvT hZ (hw _ (List.mem_of_getElem? (i := 5) rfl))) (by decide) (backOf (W := 1) (rmIni l Z a0 hw [] b20 h20 n0 (Nat.le_trans Z0 kp25.1) (Nat.le_trans Z0 (Nat.le_trans (Keep.trans kp11 Kc12 (allS (Or.inr (Nat.le_trans (Keep.refl h0 []).1 (Nat.le_of_eq g6.symm))) all0)).1 (Nat.le_of_eq g20.symm))) A20 f21 f22) hZ (hw _ (List.mem_of_getElem? (i := 5) rfl)) (hw _ (List.mem_of_getElem? (i := 2) rfl)) (by decide) (by decide)) (g := (mkF m 41 #[.val (.long p1), .second, .val (.long p2), .second, .val (.int p3), .val (.int (0 : Int32)), .val (.int (0 : Int32)), .val (.ref b6), .unset, .unset, .unset, .unset, .unset] [(.ref b20), (.ref b20)])) rfl (by rw [hml]; rfl) (Steps.refl _) (a := b20) (argsL := []) (rest := [(.ref b20)]) (lenOf pd___V rfl) rfl (by show 2 * 0 + _ ≤ _; exact Nat.le_of_eq rfl) (hb hby at_41) (fun _ _ => ⟨rfl, e20, (by decide : 3 + 1 ≤ _), (by decide : 3716 + 3712 ≤ _)⟩)
      dsimp only [Pt.U, Pt.locs, Pt.cells, Pt.slots] at X26' l26 y26 z26 st26 hQ26
      subst l26 y26 z26
      obtain ⟨h26, e26⟩ : ∃ z, T26.heap = z := ⟨_, rfl⟩
      rw [e26] at hQ26
      obtain ⟨va_26, ka_26, rfl, N26q, Kc26, f27, f28, f29, f30, f31⟩ := hQ26
      obtain ⟨lc26, X26, N26⟩ : ∃ lc, Stand p l e room_1 s m #[(.long p1), (.long p2), (.int p3)] below meth c T26 lc 4 7428 ∧ Fr n0 lc := ⟨_, X26', Fr.app N12 N26q⟩
      have K32 : Gx p e below s₁ f0 T26 (mkF m 44 #[.val (.long p1), .second, .val (.long p2), .second, .val (.int p3), .val (.int (0 : Int32)), .val (.int (0 : Int32)), .val (.ref b6), .unset, .unset, .unset, .unset, .unset] [(.ref b20)]) := fun t kt => K24 t (st26.trans kt)
      have K33 : Gx p e below s₁ f0 T26 (mkF m 46 #[.val (.long p1), .second, .val (.long p2), .second, .val (.int p3), .val (.int (0 : Int32)), .val (.int (0 : Int32)), .val (.ref b6), .val (.ref b20), .unset, .unset, .unset, .unset] []) := fun t kt => K32 t (by
        show Steps p.tables e below (T26.setTop (mkF m 44 #[.val (.long p1), .second, .val (.long p2), .second, .val (.int p3), .val (.int (0 : Int32)), .val (.int (0 : Int32)), .val (.ref b6), .unset, .unset, .unset, .unset, .unset] [(.ref b20)])) _
        refine XS.astore X26.here hx rfl (hb hby at_44) rfl rfl (l' := #[.val (.long p1), .second, .val (.long p2), .second, .val (.int p3), .val (.int (0 : Int32)), .val (.int (0 : Int32)), .val (.ref b6), .val (.ref b20), .unset, .unset, .unset, .unset]) rfl ?_
        exact kt)
      obtain ⟨T34, h34, X34, e34, E34, A34, D34, -, st34⟩ := newO X26 hx hZ hown (hw _ (List.mem_of_getElem? (i := 0) rfl)) (hw _ (List.mem_of_getElem? (i := 1) rfl)) (hw _ (List.mem_of_getElem? (i := 2) rfl)) e26 (g := (mkF m 46 #[.val (.long p1), .second, .val (.long p2), .second, .val (.int p3), .val (.int (0 : Int32)), .val (.int (0 : Int32)), .val (.ref b6), .val (.ref b20), .unset, .unset, .unset, .unset] [])) rfl (hb hby at_46) (by decide) (by decide)
      obtain ⟨b34, g34⟩ : ∃ z, z = h26.size := ⟨_, rfl⟩
      rw [← g34] at A34 D34 st34
      have f35 : Fld Z h34 b34 "com/example/tideshift/tideshift/cli/LatencyHistogram" "counts" "[J" .null := D34 (Or.inr (hw _ (List.mem_of_getElem? (i := 25) rfl))) (ty := (.array .long)) (by decide)
      have f36 : Fld Z h34 b34 "com/example/tideshift/tideshift/cli/LatencyHistogram" "count" "J" (.long (0 : Int64)) := D34 (Or.inl (hw _ (List.mem_of_getElem? (i := 32) rfl))) (ty := .long) (by decide)
      have K37 : Gx p e below s₁ f0 T34 (mkF m 49 #[.val (.long p1), .second, .val (.long p2), .second, .val (.int p3), .val (.int (0 : Int32)), .val (.int (0 : Int32)), .val (.ref b6), .val (.ref b20), .unset, .unset, .unset, .unset] [(.ref b34)]) := fun t kt => K33 t (st34 t kt)
      have K38 : Gx p e below s₁ f0 T34 (mkF m 50 #[.val (.long p1), .second, .val (.long p2), .second, .val (.int p3), .val (.int (0 : Int32)), .val (.int (0 : Int32)), .val (.ref b6), .val (.ref b20), .unset, .unset, .unset, .unset] [(.ref b34), (.ref b34)]) := fun t kt => K37 t (by
        show Steps p.tables e below (T34.setTop (mkF m 49 #[.val (.long p1), .second, .val (.long p2), .second, .val (.int p3), .val (.int (0 : Int32)), .val (.int (0 : Int32)), .val (.ref b6), .val (.ref b20), .unset, .unset, .unset, .unset] [(.ref b34)])) _
        refine XS.dup X34.here hx rfl (hb hby at_49) rfl rfl ?_
        exact kt)
      have kp39 : Keep h0 h34 [] := ((Keep.trans kp25 Kc26 (allS (Or.inr (Nat.le_trans (Keep.trans kp11 Kc12 (allS (Or.inr (Nat.le_trans (Keep.refl h0 []).1 (Nat.le_of_eq g6.symm))) all0)).1 (Nat.le_of_eq g20.symm))) all0)).ext E34)
      obtain ⟨_, _, ⟨T40, L40, k40, n40⟩, -, X40', ⟨Lc40, hQ40, l40, y40, z40⟩, st40⟩ := X34.specialBack hx (y := (⟨"com/example/tideshift/tideshift/cli/LatencyHistogram", "<init>", "()V"⟩ : MethodName)) rfl hown (mvT hZ (hw _ (List.mem_of_getElem? (i := 3) rfl))) (mvT hZ (hw _ (List.mem_of_getElem? (i := 4) rfl))) (mvT hZ (hw _ (List.mem_of_getElem? (i := 5) rfl))) (by decide) (backOf (W := 1) (rmIni l Z a0 hw [] b34 h34 n0 (Nat.le_trans Z0 kp39.1) (Nat.le_trans Z0 (Nat.le_trans (Keep.trans kp25 Kc26 (allS (Or.inr (Nat.le_trans (Keep.trans kp11 Kc12 (allS (Or.inr (Nat.le_trans (Keep.refl h0 []).1 (Nat.le_of_eq g6.symm))) all0)).1 (Nat.le_of_eq g20.symm))) all0)).1 (Nat.le_of_eq g34.symm))) A34 f35 f36) hZ (hw _ (List.mem_of_getElem? (i := 5) rfl)) (hw _ (List.mem_of_getElem? (i := 2) rfl)) (by decide) (by decide)) (g := (mkF m 50 #[.val (.long p1), .second, .val (.long p2), .second, .val (.int p3), .val (.int (0 : Int32)), .val (.int (0 : Int32)), .val (.ref b6), .val (.ref b20), .unset, .unset, .unset, .unset] [(.ref b34), (.ref b34)])) rfl (by rw [hml]; rfl) (Steps.refl _) (a := b34) (argsL := []) (rest := [(.ref b34)]) (lenOf pd___V rfl) rfl (by show 2 * 0 + _ ≤ _; exact Nat.le_of_eq rfl) (hb hby at_50) (fun _ _ => ⟨rfl, e34, (by decide : 5 + 1 ≤ _), (by decide : 7430 + 3712 ≤ _)⟩)
      dsimp only [Pt.U, Pt.locs, Pt.cells, Pt.slots] at X40' l40 y40 z40 st40 hQ40
      subst l40 y40 z40
      obtain ⟨h40, e40⟩ : ∃ z, T40.heap = z := ⟨_, rfl⟩
      rw [e40] at hQ40
      obtain ⟨va_40, ka_40, rfl, N40q, Kc40, f41, f42, f43, f44, f45⟩ := hQ40
      obtain ⟨lc40, X40, N40⟩ : ∃ lc, Stand p l e room_1 s m #[(.long p1), (.long p2), (.int p3)] below meth c T40 lc 6 11142 ∧ Fr n0 lc := ⟨_, X40', Fr.app N26 N40q⟩
      have K46 : Gx p e below s₁ f0 T40 (mkF m 53 #[.val (.long p1), .second, .val (.long p2), .second, .val (.int p3), .val (.int (0 : Int32)), .val (.int (0 : Int32)), .val (.ref b6), .val (.ref b20), .unset, .unset, .unset, .unset] [(.ref b34)]) := fun t kt => K38 t (st40.trans kt)
      have K47 : Gx p e below s₁ f0 T40 (mkF m 93 #[.val (.long p1), .second, .val (.long p2), .second, .val (.int p3), .val (.int (0 : Int32)), .val (.int (0 : Int32)), .val (.ref b6), .val (.ref b20), .val (.ref b34), .unset, .unset, .unset] [(.ref b20), (.ref b6)]) := fun t kt => K46 t (by
        show Steps p.tables e below (T40.setTop (mkF m 53 #[.val (.long p1), .second, .val (.long p2), .second, .val (.int p3), .val (.int (0 : Int32)), .val (.int (0 : Int32)), .val (.ref b6), .val (.ref b20), .unset, .unset, .unset, .unset] [(.ref b34)])) _
        refine XS.astore X40.here hx rfl (hb hby at_53) rfl rfl (l' := #[.val (.long p1), .second, .val (.long p2), .second, .val (.int p3), .val (.int (0 : Int32)), .val (.int (0 : Int32)), .val (.ref b6), .val (.ref b20), .val (.ref b34), .unset, .unset, .unset]) rfl ?_
        show Steps p.tables e below (T40.setTop (mkF m 55 #[.val (.long p1), .second, .val (.long p2), .second, .val (.int p3), .val (.int (0 : Int32)), .val (.int (0 : Int32)), .val (.ref b6), .val (.ref b20), .val (.ref b34), .unset, .unset, .unset] [])) _
        refine XS.iload X40.here hx rfl (hb hby at_55) rfl ?_
        show Steps p.tables e below (T40.setTop (mkF m 57 #[.val (.long p1), .second, .val (.long p2), .second, .val (.int p3), .val (.int (0 : Int32)), .val (.int (0 : Int32)), .val (.ref b6), .val (.ref b20), .val (.ref b34), .unset, .unset, .unset] [(.int (0 : Int32))])) _
        refine XS.ifYes X40.here hx rfl (pc0 := 57) (pc' := 72) rfl (hb hby at_57) rfl ((if0 _ _).trans (teq (by decide)).1) (by decide) (by decide) ?_
        show Steps p.tables e below (T40.setTop (mkF m 72 #[.val (.long p1), .second, .val (.long p2), .second, .val (.int p3), .val (.int (0 : Int32)), .val (.int (0 : Int32)), .val (.ref b6), .val (.ref b20), .val (.ref b34), .unset, .unset, .unset] [])) _
        refine XS.iload X40.here hx rfl (hb hby at_72) rfl ?_
        show Steps p.tables e below (T40.setTop (mkF m 74 #[.val (.long p1), .second, .val (.long p2), .second, .val (.int p3), .val (.int (0 : Int32)), .val (.int (0 : Int32)), .val (.ref b6), .val (.ref b20), .val (.ref b34), .unset, .unset, .unset] [(.int (0 : Int32))])) _
        refine XS.ifYes X40.here hx rfl (pc0 := 74) (pc' := 89) rfl (hb hby at_74) rfl ((if0 _ _).trans (teq (by decide)).1) (by decide) (by decide) ?_
        show Steps p.tables e below (T40.setTop (mkF m 89 #[.val (.long p1), .second, .val (.long p2), .second, .val (.int p3), .val (.int (0 : Int32)), .val (.int (0 : Int32)), .val (.ref b6), .val (.ref b20), .val (.ref b34), .unset, .unset, .unset] [])) _
        refine XS.aload X40.here hx rfl (hb hby at_89) rfl rfl ?_
        show Steps p.tables e below (T40.setTop (mkF m 91 #[.val (.long p1), .second, .val (.long p2), .second, .val (.int p3), .val (.int (0 : Int32)), .val (.int (0 : Int32)), .val (.ref b6), .val (.ref b20), .val (.ref b34), .unset, .unset, .unset] [(.ref b6)])) _
        refine XS.aload X40.here hx rfl (hb hby at_91) rfl rfl ?_
        exact kt)
      have f48 : Exa Z h40 b20 "com/example/tideshift/tideshift/cli/LatencyHistogram" := ((f28.ext E34).keep Kc40)
      have f49 : Fld Z h40 b20 "com/example/tideshift/tideshift/cli/LatencyHistogram" "count" "J" (.long (0 : Int64)) := ((f30.ext E34).keep Kc40 (ninS (Nat.ne_of_lt (Nat.lt_of_lt_of_le f28.lt (Nat.le_of_eq g34.symm))) nin0))
      have kp50 : Keep h0 h40 [] := (Keep.trans kp39 Kc40 (allS (Or.inr (Nat.le_trans (Keep.trans kp25 Kc26 (allS (Or.inr (Nat.le_trans (Keep.trans kp11 Kc12 (allS (Or.inr (Nat.le_trans (Keep.refl h0 []).1 (Nat.le_of_eq g6.symm))) all0)).1 (Nat.le_of_eq g20.symm))) all0)).1 (Nat.le_of_eq g34.symm))) all0))
      have f52 : Exa Z h40 b6 "com/example/tideshift/tideshift/cli/LatencyHistogram" := ((((f14.ext E20).keep Kc26).ext E34).keep Kc40)
      obtain ⟨cq51, kq51, q51a, q51b, q51c⟩ := isOf hZ e40 f52
      obtain ⟨_, _, ⟨T51, L51, k51, n51⟩, -, X51', ⟨Lc51, hQ51, l51, y51, z51⟩, st51⟩ := X40.virtualBack hx (y := (⟨"com/example/tideshift/tideshift/cli/LatencyHistogram", "add", "(Lcom/example/tideshift/tideshift/cli/LatencyHistogram;)V"⟩ : MethodName)) (z := (⟨"com/example/tideshift/tideshift/cli/LatencyHistogram", "add", "(Lcom/example/tideshift/tideshift/cli/LatencyHistogram;)V"⟩ : MethodName)) hown (mvT hZ (hw _ (List.mem_of_getElem? (i := 26) rfl))) (mvT hZ (hw _ (List.mem_of_getElem? (i := 27) rfl))) (notFace_of_selects (args := #[]) (mvT hZ (hw _ (List.mem_of_getElem? (i := 29) rfl)))) (mvT hZ (hw _ (List.mem_of_getElem? (i := 29) rfl))) (mvT hZ (hw _ (List.mem_of_getElem? (i := 28) rfl))) (by decide) (backOf (W := 0) (rmAddZ l Z a0 hw [] b6 b20 h40 n0 (Nat.le_trans Z0 kp50.1) f48 f49) hZ (hw _ (List.mem_of_getElem? (i := 30) rfl)) (hw _ (List.mem_of_getElem? (i := 2) rfl)) (by decide) (by decide)) q51a q51c (g := (mkF m 93 #[.val (.long p1), .second, .val (.long p2), .second, .val (.int p3), .val (.int (0 : Int32)), .val (.int (0 : Int32)), .val (.ref b6), .val (.ref b20), .val (.ref b34), .unset, .unset, .unset] [(.ref b20), (.ref b6)])) rfl (by rw [hml]; rfl) (Steps.refl _) (argsL := [(.ref b20)]) (rest := []) (lenOf pd__Lcom_example_tideshift_tideshift_cli_LatencyHistogram__V rfl) rfl (by show 2 * 0 + _ ≤ _; exact Nat.le_of_eq rfl) (hb hby at_93) (fun _ _ => ⟨rfl, e40, (by decide : 6 + 0 ≤ _), (by decide : 11142 + 0 ≤ _)⟩)
      dsimp only [Pt.U, Pt.locs, Pt.cells, Pt.slots] at X51' l51 y51 z51 st51 hQ51
      subst l51 y51 z51
      obtain ⟨rfl, N51q, e51⟩ := hQ51
      obtain ⟨lc51, X51, N51⟩ : ∃ lc, Stand p l e room_1 s m #[(.long p1), (.long p2), (.int p3)] below meth c T51 lc 6 11142 ∧ Fr n0 lc := ⟨_, X51', Fr.app N40 N51q⟩
      have K53 : Gx p e below s₁ f0 T51 (mkF m 96 #[.val (.long p1), .second, .val (.long p2), .second, .val (.int p3), .val (.int (0 : Int32)), .val (.int (0 : Int32)), .val (.ref b6), .val (.ref b20), .val (.ref b34), .unset, .unset, .unset] []) := fun t kt => K47 t (st51.trans kt)
      have K54 : Gx p e below s₁ f0 T51 (mkF m 121 #[.val (.long p1), .second, .val (.long p2), .second, .val (.int p3), .val (.int (0 : Int32)), .val (.int (0 : Int32)), .val (.ref b6), .val (.ref b20), .val (.ref b34), .val (.long (0 : Int64)), .second, .unset] [(.ref b6)]) := fun t kt => K53 t (by
        show Steps p.tables e below (T51.setTop (mkF m 96 #[.val (.long p1), .second, .val (.long p2), .second, .val (.int p3), .val (.int (0 : Int32)), .val (.int (0 : Int32)), .val (.ref b6), .val (.ref b20), .val (.ref b34), .unset, .unset, .unset] [])) _
        refine XS.iload X51.here hx rfl (hb hby at_96) rfl ?_
        show Steps p.tables e below (T51.setTop (mkF m 98 #[.val (.long p1), .second, .val (.long p2), .second, .val (.int p3), .val (.int (0 : Int32)), .val (.int (0 : Int32)), .val (.ref b6), .val (.ref b20), .val (.ref b34), .unset, .unset, .unset] [(.int (0 : Int32))])) _
        refine XS.ifYes X51.here hx rfl (pc0 := 98) (pc' := 105) rfl (hb hby at_98) rfl ((if0 _ _).trans (teq (by decide)).1) (by decide) (by decide) ?_
        show Steps p.tables e below (T51.setTop (mkF m 105 #[.val (.long p1), .second, .val (.long p2), .second, .val (.int p3), .val (.int (0 : Int32)), .val (.int (0 : Int32)), .val (.ref b6), .val (.ref b20), .val (.ref b34), .unset, .unset, .unset] [])) _
        refine XS.lconst X51.here hx rfl (hb hby at_105) ?_
        show Steps p.tables e below (T51.setTop (mkF m 106 #[.val (.long p1), .second, .val (.long p2), .second, .val (.int p3), .val (.int (0 : Int32)), .val (.int (0 : Int32)), .val (.ref b6), .val (.ref b20), .val (.ref b34), .unset, .unset, .unset] [(.long (0 : Int64))])) _
        refine XS.iload X51.here hx rfl (hb hby at_106) rfl ?_
        show Steps p.tables e below (T51.setTop (mkF m 108 #[.val (.long p1), .second, .val (.long p2), .second, .val (.int p3), .val (.int (0 : Int32)), .val (.int (0 : Int32)), .val (.ref b6), .val (.ref b20), .val (.ref b34), .unset, .unset, .unset] [(.int (0 : Int32)), (.long (0 : Int64))])) _
        refine XS.ifYes X51.here hx rfl (pc0 := 108) (pc' := 115) rfl (hb hby at_108) rfl ((if0 _ _).trans (teq (by decide)).1) (by decide) (by decide) ?_
        show Steps p.tables e below (T51.setTop (mkF m 115 #[.val (.long p1), .second, .val (.long p2), .second, .val (.int p3), .val (.int (0 : Int32)), .val (.int (0 : Int32)), .val (.ref b6), .val (.ref b20), .val (.ref b34), .unset, .unset, .unset] [(.long (0 : Int64))])) _
        refine XS.lconst X51.here hx rfl (hb hby at_115) ?_
        show Steps p.tables e below (T51.setTop (mkF m 116 #[.val (.long p1), .second, .val (.long p2), .second, .val (.int p3), .val (.int (0 : Int32)), .val (.int (0 : Int32)), .val (.ref b6), .val (.ref b20), .val (.ref b34), .unset, .unset, .unset] [(.long (0 : Int64)), (.long (0 : Int64))])) _
        refine XS.ladd X51.here hx rfl (hb hby at_116) rfl ?_
        show Steps p.tables e below (T51.setTop (mkF m 117 #[.val (.long p1), .second, .val (.long p2), .second, .val (.int p3), .val (.int (0 : Int32)), .val (.int (0 : Int32)), .val (.ref b6), .val (.ref b20), .val (.ref b34), .unset, .unset, .unset] [(.long (0 : Int64))])) _
        refine XS.lstore X51.here hx rfl (hb hby at_117) rfl (l' := #[.val (.long p1), .second, .val (.long p2), .second, .val (.int p3), .val (.int (0 : Int32)), .val (.int (0 : Int32)), .val (.ref b6), .val (.ref b20), .val (.ref b34), .val (.long (0 : Int64)), .second, .unset]) rfl ?_
        show Steps p.tables e below (T51.setTop (mkF m 119 #[.val (.long p1), .second, .val (.long p2), .second, .val (.int p3), .val (.int (0 : Int32)), .val (.int (0 : Int32)), .val (.ref b6), .val (.ref b20), .val (.ref b34), .val (.long (0 : Int64)), .second, .unset] [])) _
        refine XS.aload X51.here hx rfl (hb hby at_119) rfl rfl ?_
        exact kt)
      have f55 : Fld Z h40 b6 "com/example/tideshift/tideshift/cli/LatencyHistogram" "count" "J" (.long (0 : Int64)) := ((((f16.ext E20).keep Kc26 (ninS (Nat.ne_of_lt (Nat.lt_of_lt_of_le f14.lt (Nat.le_of_eq g20.symm))) nin0)).ext E34).keep Kc40 (ninS (Nat.ne_of_lt (Nat.lt_of_lt_of_le ((f14.ext E20).keep Kc26).lt (Nat.le_of_eq g34.symm))) nin0))
      obtain ⟨cq56, kq56, q56a, q56b, q56c⟩ := isOf hZ e51 f52
      obtain ⟨_, _, ⟨T56, L56, k56, n56⟩, -, X56', ⟨Lc56, hQ56, l56, y56, z56⟩, st56⟩ := X51.virtualBack hx (y := (⟨"com/example/tideshift/tideshift/cli/LatencyHistogram", "count", "()J"⟩ : MethodName)) (z := (⟨"com/example/tideshift/tideshift/cli/LatencyHistogram", "count", "()J"⟩ : MethodName)) hown (mvT hZ (hw _ (List.mem_of_getElem? (i := 33) rfl))) (mvT hZ (hw _ (List.mem_of_getElem? (i := 34) rfl))) (notFace_of_selects (args := #[]) (mvT hZ (hw _ (List.mem_of_getElem? (i := 36) rfl)))) (mvT hZ (hw _ (List.mem_of_getElem? (i := 36) rfl))) (mvT hZ (hw _ (List.mem_of_getElem? (i := 35) rfl))) (by decide) (backOf (W := 0) (rmCnt l Z a0 hw [] b6 (0 : Int64) h40 n0 (Nat.le_trans Z0 kp50.1) f55) hZ (hw _ (List.mem_of_getElem? (i := 37) rfl)) (hw _ (List.mem_of_getElem? (i := 2) rfl)) (by decide) (by decide)) q56a q56c (g := (mkF m 121 #[.val (.long p1), .second, .val (.long p2), .second, .val (.int p3), .val (.int (0 : Int32)), .val (.int (0 : Int32)), .val (.ref b6), .val (.ref b20), .val (.ref b34), .val (.long (0 : Int64)), .second, .unset] [(.ref b6)])) rfl (by rw [hml]; rfl) (Steps.refl _) (argsL := []) (rest := []) (lenOf pd___J rfl) rfl (by show 2 * 0 + _ ≤ _; exact Nat.le_of_eq rfl) (hb hby at_121) (fun _ _ => ⟨rfl, e51, (by decide : 6 + 0 ≤ _), (by decide : 11142 + 0 ≤ _)⟩)
      dsimp only [Pt.U, Pt.locs, Pt.cells, Pt.slots] at X56' l56 y56 z56 st56 hQ56
      subst l56 y56 z56
      obtain ⟨rfl, N56q, e56⟩ := hQ56
      obtain ⟨lc56, X56, N56⟩ : ∃ lc, Stand p l e room_1 s m #[(.long p1), (.long p2), (.int p3)] below meth c T56 lc 6 11142 ∧ Fr n0 lc := ⟨_, X56', Fr.app N51 N56q⟩
      have K57 : Gx p e below s₁ f0 T56 (mkF m 124 #[.val (.long p1), .second, .val (.long p2), .second, .val (.int p3), .val (.int (0 : Int32)), .val (.int (0 : Int32)), .val (.ref b6), .val (.ref b20), .val (.ref b34), .val (.long (0 : Int64)), .second, .unset] [(.long (0 : Int64))]) := fun t kt => K54 t (st56.trans kt)
      have K58 : Gx p e below s₁ f0 T56 (mkF m 132 #[.val (.long p1), .second, .val (.long p2), .second, .val (.int p3), .val (.int (0 : Int32)), .val (.int (0 : Int32)), .val (.ref b6), .val (.ref b20), .val (.ref b34), .val (.long (0 : Int64)), .second, .unset] [(.ref b20)]) := fun t kt => K57 t (by
        show Steps p.tables e below (T56.setTop (mkF m 124 #[.val (.long p1), .second, .val (.long p2), .second, .val (.int p3), .val (.int (0 : Int32)), .val (.int (0 : Int32)), .val (.ref b6), .val (.ref b20), .val (.ref b34), .val (.long (0 : Int64)), .second, .unset] [(.long (0 : Int64))])) _
        refine XS.lload X56.here hx rfl (hb hby at_124) rfl ?_
        show Steps p.tables e below (T56.setTop (mkF m 126 #[.val (.long p1), .second, .val (.long p2), .second, .val (.int p3), .val (.int (0 : Int32)), .val (.int (0 : Int32)), .val (.ref b6), .val (.ref b20), .val (.ref b34), .val (.long (0 : Int64)), .second, .unset] [(.long (0 : Int64)), (.long (0 : Int64))])) _
        refine XS.lcmp X56.here hx rfl (hb hby at_126) rfl ?_
        show Steps p.tables e below (T56.setTop (mkF m 127 #[.val (.long p1), .second, .val (.long p2), .second, .val (.int p3), .val (.int (0 : Int32)), .val (.int (0 : Int32)), .val (.ref b6), .val (.ref b20), .val (.ref b34), .val (.long (0 : Int64)), .second, .unset] [(.int (lcmpW (0 : Int64) (0 : Int64)))])) _
        refine XS.ifNo X56.here hx rfl (hb hby at_127) rfl ((if0 _ _).trans (teq (by decide)).2) ?_
        show Steps p.tables e below (T56.setTop (mkF m 130 #[.val (.long p1), .second, .val (.long p2), .second, .val (.int p3), .val (.int (0 : Int32)), .val (.int (0 : Int32)), .val (.ref b6), .val (.ref b20), .val (.ref b34), .val (.long (0 : Int64)), .second, .unset] [])) _
        refine XS.aload X56.here hx rfl (hb hby at_130) rfl rfl ?_
        exact kt)
      obtain ⟨cq59, kq59, q59a, q59b, q59c⟩ := isOf hZ e56 f48
      obtain ⟨_, _, ⟨T59, L59, k59, n59⟩, -, X59', ⟨Lc59, hQ59, l59, y59, z59⟩, st59⟩ := X56.virtualBack hx (y := (⟨"com/example/tideshift/tideshift/cli/LatencyHistogram", "count", "()J"⟩ : MethodName)) (z := (⟨"com/example/tideshift/tideshift/cli/LatencyHistogram", "count", "()J"⟩ : MethodName)) hown (mvT hZ (hw _ (List.mem_of_getElem? (i := 33) rfl))) (mvT hZ (hw _ (List.mem_of_getElem? (i := 34) rfl))) (notFace_of_selects (args := #[]) (mvT hZ (hw _ (List.mem_of_getElem? (i := 36) rfl)))) (mvT hZ (hw _ (List.mem_of_getElem? (i := 36) rfl))) (mvT hZ (hw _ (List.mem_of_getElem? (i := 35) rfl))) (by decide) (backOf (W := 0) (rmCnt l Z a0 hw [] b20 (0 : Int64) h40 n0 (Nat.le_trans Z0 kp50.1) f49) hZ (hw _ (List.mem_of_getElem? (i := 37) rfl)) (hw _ (List.mem_of_getElem? (i := 2) rfl)) (by decide) (by decide)) q59a q59c (g := (mkF m 132 #[.val (.long p1), .second, .val (.long p2), .second, .val (.int p3), .val (.int (0 : Int32)), .val (.int (0 : Int32)), .val (.ref b6), .val (.ref b20), .val (.ref b34), .val (.long (0 : Int64)), .second, .unset] [(.ref b20)])) rfl (by rw [hml]; rfl) (Steps.refl _) (argsL := []) (rest := []) (lenOf pd___J rfl) rfl (by show 2 * 0 + _ ≤ _; exact Nat.le_of_eq rfl) (hb hby at_132) (fun _ _ => ⟨rfl, e56, (by decide : 6 + 0 ≤ _), (by decide : 11142 + 0 ≤ _)⟩)
      dsimp only [Pt.U, Pt.locs, Pt.cells, Pt.slots] at X59' l59 y59 z59 st59 hQ59
      subst l59 y59 z59
      obtain ⟨rfl, N59q, e59⟩ := hQ59
      obtain ⟨lc59, X59, N59⟩ : ∃ lc, Stand p l e room_1 s m #[(.long p1), (.long p2), (.int p3)] below meth c T59 lc 6 11142 ∧ Fr n0 lc := ⟨_, X59', Fr.app N56 N59q⟩
      have K60 : Gx p e below s₁ f0 T59 (mkF m 135 #[.val (.long p1), .second, .val (.long p2), .second, .val (.int p3), .val (.int (0 : Int32)), .val (.int (0 : Int32)), .val (.ref b6), .val (.ref b20), .val (.ref b34), .val (.long (0 : Int64)), .second, .unset] [(.long (0 : Int64))]) := fun t kt => K58 t (st59.trans kt)
      have K61 : Gx p e below s₁ f0 T59 (mkF m 166 #[.val (.long p1), .second, .val (.long p2), .second, .val (.int p3), .val (.int (0 : Int32)), .val (.int (0 : Int32)), .val (.ref b6), .val (.ref b20), .val (.ref b34), .val (.long (0 : Int64)), .second, .val (.int (1 : Int32))] [(.double (0 : UInt64)), (.ref b6)]) := fun t kt => K60 t (by
        show Steps p.tables e below (T59.setTop (mkF m 135 #[.val (.long p1), .second, .val (.long p2), .second, .val (.int p3), .val (.int (0 : Int32)), .val (.int (0 : Int32)), .val (.ref b6), .val (.ref b20), .val (.ref b34), .val (.long (0 : Int64)), .second, .unset] [(.long (0 : Int64))])) _
        refine XS.iload X59.here hx rfl (hb hby at_135) rfl ?_
        show Steps p.tables e below (T59.setTop (mkF m 137 #[.val (.long p1), .second, .val (.long p2), .second, .val (.int p3), .val (.int (0 : Int32)), .val (.int (0 : Int32)), .val (.ref b6), .val (.ref b20), .val (.ref b34), .val (.long (0 : Int64)), .second, .unset] [(.int (0 : Int32)), (.long (0 : Int64))])) _
        refine XS.ifYes X59.here hx rfl (pc0 := 137) (pc' := 144) rfl (hb hby at_137) rfl ((if0 _ _).trans (teq (by decide)).1) (by decide) (by decide) ?_
        show Steps p.tables e below (T59.setTop (mkF m 144 #[.val (.long p1), .second, .val (.long p2), .second, .val (.int p3), .val (.int (0 : Int32)), .val (.int (0 : Int32)), .val (.ref b6), .val (.ref b20), .val (.ref b34), .val (.long (0 : Int64)), .second, .unset] [(.long (0 : Int64))])) _
        refine XS.lconst X59.here hx rfl (hb hby at_144) ?_
        show Steps p.tables e below (T59.setTop (mkF m 145 #[.val (.long p1), .second, .val (.long p2), .second, .val (.int p3), .val (.int (0 : Int32)), .val (.int (0 : Int32)), .val (.ref b6), .val (.ref b20), .val (.ref b34), .val (.long (0 : Int64)), .second, .unset] [(.long (0 : Int64)), (.long (0 : Int64))])) _
        refine XS.lcmp X59.here hx rfl (hb hby at_145) rfl ?_
        show Steps p.tables e below (T59.setTop (mkF m 146 #[.val (.long p1), .second, .val (.long p2), .second, .val (.int p3), .val (.int (0 : Int32)), .val (.int (0 : Int32)), .val (.ref b6), .val (.ref b20), .val (.ref b34), .val (.long (0 : Int64)), .second, .unset] [(.int (lcmpW (0 : Int64) (0 : Int64)))])) _
        refine XS.ifNo X59.here hx rfl (hb hby at_146) rfl ((if0 _ _).trans (teq (by decide)).2) ?_
        show Steps p.tables e below (T59.setTop (mkF m 149 #[.val (.long p1), .second, .val (.long p2), .second, .val (.int p3), .val (.int (0 : Int32)), .val (.int (0 : Int32)), .val (.ref b6), .val (.ref b20), .val (.ref b34), .val (.long (0 : Int64)), .second, .unset] [])) _
        refine XS.iconst X59.here hx rfl (hb hby at_149) ?_
        show Steps p.tables e below (T59.setTop (mkF m 150 #[.val (.long p1), .second, .val (.long p2), .second, .val (.int p3), .val (.int (0 : Int32)), .val (.int (0 : Int32)), .val (.ref b6), .val (.ref b20), .val (.ref b34), .val (.long (0 : Int64)), .second, .unset] [(.int (1 : Int32))])) _
        refine XS.goto X59.here hx rfl (pc0 := 150) (pc' := 154) rfl (hb hby at_150) (by decide) (by decide) ?_
        show Steps p.tables e below (T59.setTop (mkF m 154 #[.val (.long p1), .second, .val (.long p2), .second, .val (.int p3), .val (.int (0 : Int32)), .val (.int (0 : Int32)), .val (.ref b6), .val (.ref b20), .val (.ref b34), .val (.long (0 : Int64)), .second, .unset] [(.int (1 : Int32))])) _
        refine XS.istore X59.here hx rfl (hb hby at_154) rfl (l' := #[.val (.long p1), .second, .val (.long p2), .second, .val (.int p3), .val (.int (0 : Int32)), .val (.int (0 : Int32)), .val (.ref b6), .val (.ref b20), .val (.ref b34), .val (.long (0 : Int64)), .second, .val (.int (1 : Int32))]) rfl ?_
        show Steps p.tables e below (T59.setTop (mkF m 156 #[.val (.long p1), .second, .val (.long p2), .second, .val (.int p3), .val (.int (0 : Int32)), .val (.int (0 : Int32)), .val (.ref b6), .val (.ref b20), .val (.ref b34), .val (.long (0 : Int64)), .second, .val (.int (1 : Int32))] [])) _
        refine XS.iload X59.here hx rfl (hb hby at_156) rfl ?_
        show Steps p.tables e below (T59.setTop (mkF m 158 #[.val (.long p1), .second, .val (.long p2), .second, .val (.int p3), .val (.int (0 : Int32)), .val (.int (0 : Int32)), .val (.ref b6), .val (.ref b20), .val (.ref b34), .val (.long (0 : Int64)), .second, .val (.int (1 : Int32))] [(.int (1 : Int32))])) _
        refine XS.ifYes X59.here hx rfl (pc0 := 158) (pc' := 163) rfl (hb hby at_158) rfl ((if0 _ _).trans (feq (by decide)).2) (by decide) (by decide) ?_
        show Steps p.tables e below (T59.setTop (mkF m 163 #[.val (.long p1), .second, .val (.long p2), .second, .val (.int p3), .val (.int (0 : Int32)), .val (.int (0 : Int32)), .val (.ref b6), .val (.ref b20), .val (.ref b34), .val (.long (0 : Int64)), .second, .val (.int (1 : Int32))] [])) _
        refine XS.aload X59.here hx rfl (hb hby at_163) rfl rfl ?_
        show Steps p.tables e below (T59.setTop (mkF m 165 #[.val (.long p1), .second, .val (.long p2), .second, .val (.int p3), .val (.int (0 : Int32)), .val (.int (0 : Int32)), .val (.ref b6), .val (.ref b20), .val (.ref b34), .val (.long (0 : Int64)), .second, .val (.int (1 : Int32))] [(.ref b6)])) _
        refine XS.dconst0 X59.here hx rfl (hb hby at_165) (v := (0 : UInt64)) (by decide +kernel) ?_
        exact kt)
      obtain ⟨cq62, kq62, q62a, q62b, q62c⟩ := isOf hZ e59 f52
      obtain ⟨_, _, ⟨T62, L62, k62, n62⟩, -, X62', ⟨Lc62, hQ62, l62, y62, z62⟩, st62⟩ := X59.virtualBack hx (y := (⟨"com/example/tideshift/tideshift/cli/LatencyHistogram", "quantile", "(D)D"⟩ : MethodName)) (z := (⟨"com/example/tideshift/tideshift/cli/LatencyHistogram", "quantile", "(D)D"⟩ : MethodName)) hown (mvT hZ (hw _ (List.mem_of_getElem? (i := 38) rfl))) (mvT hZ (hw _ (List.mem_of_getElem? (i := 39) rfl))) (notFace_of_selects (args := #[]) (mvT hZ (hw _ (List.mem_of_getElem? (i := 41) rfl)))) (mvT hZ (hw _ (List.mem_of_getElem? (i := 41) rfl))) (mvT hZ (hw _ (List.mem_of_getElem? (i := 40) rfl))) (by decide) (backOf (W := 0) (rmQnt0 l Z a0 hw [] b6 (0 : UInt64) h40 n0 (Nat.le_trans Z0 kp50.1) f52 f55) hZ (hw _ (List.mem_of_getElem? (i := 42) rfl)) (hw _ (List.mem_of_getElem? (i := 2) rfl)) (by decide) (by decide)) q62a q62c (g := (mkF m 166 #[.val (.long p1), .second, .val (.long p2), .second, .val (.int p3), .val (.int (0 : Int32)), .val (.int (0 : Int32)), .val (.ref b6), .val (.ref b20), .val (.ref b34), .val (.long (0 : Int64)), .second, .val (.int (1 : Int32))] [(.double (0 : UInt64)), (.ref b6)])) rfl (by rw [hml]; rfl) (Steps.refl _) (argsL := [(.double (0 : UInt64))]) (rest := []) (lenOf pd__D_D rfl) rfl (by show 2 * 0 + _ ≤ _; exact Nat.le_of_eq rfl) (hb hby at_166) (fun _ _ => ⟨rfl, e59, (by decide : 6 + 0 ≤ _), (by decide : 11142 + 0 ≤ _)⟩)
      dsimp only [Pt.U, Pt.locs, Pt.cells, Pt.slots] at X62' l62 y62 z62 st62 hQ62
      subst l62 y62 z62
      obtain ⟨rfl, N62q, e62⟩ := hQ62
      obtain ⟨lc62, X62, N62⟩ : ∃ lc, Stand p l e room_1 s m #[(.long p1), (.long p2), (.int p3)] below meth c T62 lc 6 11142 ∧ Fr n0 lc := ⟨_, X62', Fr.app N59 N62q⟩
      have K63 : Gx p e below s₁ f0 T62 (mkF m 169 #[.val (.long p1), .second, .val (.long p2), .second, .val (.int p3), .val (.int (0 : Int32)), .val (.int (0 : Int32)), .val (.ref b6), .val (.ref b20), .val (.ref b34), .val (.long (0 : Int64)), .second, .val (.int (1 : Int32))] [(.double (9221120237041090560 : UInt64))]) := fun t kt => K61 t (st62.trans kt)
      have K64 : Gx p e below s₁ f0 T62 (mkF m 172 #[.val (.long p1), .second, .val (.long p2), .second, .val (.int p3), .val (.int (0 : Int32)), .val (.int (0 : Int32)), .val (.ref b6), .val (.ref b20), .val (.ref b34), .val (.long (0 : Int64)), .second, .val (.int (1 : Int32))] [(.double (0 : UInt64)), (.ref b34), (.double (9221120237041090560 : UInt64))]) := fun t kt => K63 t (by
        show Steps p.tables e below (T62.setTop (mkF m 169 #[.val (.long p1), .second, .val (.long p2), .second, .val (.int p3), .val (.int (0 : Int32)), .val (.int (0 : Int32)), .val (.ref b6), .val (.ref b20), .val (.ref b34), .val (.long (0 : Int64)), .second, .val (.int (1 : Int32))] [(.double (9221120237041090560 : UInt64))])) _
        refine XS.aload X62.here hx rfl (hb hby at_169) rfl rfl ?_
        show Steps p.tables e below (T62.setTop (mkF m 171 #[.val (.long p1), .second, .val (.long p2), .second, .val (.int p3), .val (.int (0 : Int32)), .val (.int (0 : Int32)), .val (.ref b6), .val (.ref b20), .val (.ref b34), .val (.long (0 : Int64)), .second, .val (.int (1 : Int32))] [(.ref b34), (.double (9221120237041090560 : UInt64))])) _
        refine XS.dconst0 X62.here hx rfl (hb hby at_171) (v := (0 : UInt64)) (by decide +kernel) ?_
        exact kt)
      obtain ⟨cq65, kq65, q65a, q65b, q65c⟩ := isOf hZ e62 f42
      obtain ⟨_, _, ⟨T65, L65, k65, n65⟩, -, X65', ⟨Lc65, hQ65, l65, y65, z65⟩, st65⟩ := X62.virtualBack hx (y := (⟨"com/example/tideshift/tideshift/cli/LatencyHistogram", "quantile", "(D)D"⟩ : MethodName)) (z := (⟨"com/example/tideshift/tideshift/cli/LatencyHistogram", "quantile", "(D)D"⟩ : MethodName)) hown (mvT hZ (hw _ (List.mem_of_getElem? (i := 38) rfl))) (mvT hZ (hw _ (List.mem_of_getElem? (i := 39) rfl))) (notFace_of_selects (args := #[]) (mvT hZ (hw _ (List.mem_of_getElem? (i := 41) rfl)))) (mvT hZ (hw _ (List.mem_of_getElem? (i := 41) rfl))) (mvT hZ (hw _ (List.mem_of_getElem? (i := 40) rfl))) (by decide) (backOf (W := 2) (rmQnt0 l Z a0 hw [] b34 (0 : UInt64) h40 n0 (Nat.le_trans Z0 kp50.1) f42 f44) hZ (hw _ (List.mem_of_getElem? (i := 42) rfl)) (hw _ (List.mem_of_getElem? (i := 2) rfl)) (by decide) (by decide)) q65a q65c (g := (mkF m 172 #[.val (.long p1), .second, .val (.long p2), .second, .val (.int p3), .val (.int (0 : Int32)), .val (.int (0 : Int32)), .val (.ref b6), .val (.ref b20), .val (.ref b34), .val (.long (0 : Int64)), .second, .val (.int (1 : Int32))] [(.double (0 : UInt64)), (.ref b34), (.double (9221120237041090560 : UInt64))])) rfl (by rw [hml]; rfl) (Steps.refl _) (argsL := [(.double (0 : UInt64))]) (rest := [(.double (9221120237041090560 : UInt64))]) (lenOf pd__D_D rfl) rfl (by show 2 * 0 + _ ≤ _; exact Nat.le_of_eq rfl) (hb hby at_172) (fun _ _ => ⟨rfl, e62, (by decide : 6 + 0 ≤ _), (by decide : 11142 + 0 ≤ _)⟩)
      dsimp only [Pt.U, Pt.locs, Pt.cells, Pt.slots] at X65' l65 y65 z65 st65 hQ65
      subst l65 y65 z65
      obtain ⟨rfl, N65q, e65⟩ := hQ65
      obtain ⟨lc65, X65, N65⟩ : ∃ lc, Stand p l e room_1 s m #[(.long p1), (.long p2), (.int p3)] below meth c T65 lc 6 11142 ∧ Fr n0 lc := ⟨_, X65', Fr.app N62 N65q⟩
      have K66 : Gx p e below s₁ f0 T65 (mkF m 175 #[.val (.long p1), .second, .val (.long p2), .second, .val (.int p3), .val (.int (0 : Int32)), .val (.int (0 : Int32)), .val (.ref b6), .val (.ref b20), .val (.ref b34), .val (.long (0 : Int64)), .second, .val (.int (1 : Int32))] [(.double (9221120237041090560 : UInt64)), (.double (9221120237041090560 : UInt64))]) := fun t kt => K64 t (st65.trans kt)
      obtain ⟨_, _, ⟨T67, L67, k67, n67⟩, -, X67', ⟨Lc67, hQ67, l67, y67, z67⟩, st67⟩ := Jvm.LawKit.callS X65 hx (y := (⟨"com/example/tideshift/tideshift/cli/LatencyHistogramAddPinLaw", "same", "(DD)Z"⟩ : MethodName)) hown (mvT hZ (hw _ (List.mem_of_getElem? (i := 44) rfl))) (mvT hZ (hw _ (List.mem_of_getElem? (i := 45) rfl))) (mvT hZ (hw _ (List.mem_of_getElem? (i := 46) rfl))) (mvT hZ (hw _ (List.mem_of_getElem? (i := 47) rfl))) (by decide) (backOf (W := 0) (rmSam l Z a0 hw [] (9221120237041090560 : UInt64) h40 n0 (Nat.le_trans Z0 kp50.1) ) hZ (hw _ (List.mem_of_getElem? (i := 47) rfl)) (hw _ (List.mem_of_getElem? (i := 46) rfl)) (by decide) (by decide)) (g := (mkF m 175 #[.val (.long p1), .second, .val (.long p2), .second, .val (.int p3), .val (.int (0 : Int32)), .val (.int (0 : Int32)), .val (.ref b6), .val (.ref b20), .val (.ref b34), .val (.long (0 : Int64)), .second, .val (.int (1 : Int32))] [(.double (9221120237041090560 : UInt64)), (.double (9221120237041090560 : UInt64))])) rfl (by rw [hml]; rfl) (argsL := [(.double (9221120237041090560 : UInt64)), (.double (9221120237041090560 : UInt64))]) (rest := []) (lenOf pd__DD_Z rfl) rfl (by show 2 * 0 + _ ≤ _; exact Nat.le_of_eq rfl) (hb hby at_175) (fun _ _ => ⟨rfl, e65, (by decide : 6 + 0 ≤ _), (by decide : 11142 + 0 ≤ _)⟩)
      dsimp only [Pt.U, Pt.locs, Pt.cells, Pt.slots] at X67' l67 y67 z67 st67 hQ67
      subst l67 y67 z67
      obtain ⟨rfl, N67q, e67⟩ := hQ67
      obtain ⟨lc67, X67, N67⟩ : ∃ lc, Stand p l e room_1 s m #[(.long p1), (.long p2), (.int p3)] below meth c T67 lc 6 11142 ∧ Fr n0 lc := ⟨_, X67', Fr.app N65 N67q⟩
      have K68 : Gx p e below s₁ f0 T67 (mkF m 178 #[.val (.long p1), .second, .val (.long p2), .second, .val (.int p3), .val (.int (0 : Int32)), .val (.int (0 : Int32)), .val (.ref b6), .val (.ref b20), .val (.ref b34), .val (.long (0 : Int64)), .second, .val (.int (1 : Int32))] [(.int (1 : Int32))]) := fun t kt => K66 t (st67 t kt)
      have K69 : Gx p e below s₁ f0 T67 (mkF m 184 #[.val (.long p1), .second, .val (.long p2), .second, .val (.int p3), .val (.int (0 : Int32)), .val (.int (0 : Int32)), .val (.ref b6), .val (.ref b20), .val (.ref b34), .val (.long (0 : Int64)), .second, .val (.int (1 : Int32))] [(.double (4607182418800017408 : UInt64)), (.ref b6)]) := fun t kt => K68 t (by
        show Steps p.tables e below (T67.setTop (mkF m 178 #[.val (.long p1), .second, .val (.long p2), .second, .val (.int p3), .val (.int (0 : Int32)), .val (.int (0 : Int32)), .val (.ref b6), .val (.ref b20), .val (.ref b34), .val (.long (0 : Int64)), .second, .val (.int (1 : Int32))] [(.int (1 : Int32))])) _
        refine XS.ifNo X67.here hx rfl (hb hby at_178) rfl ((if0 _ _).trans (feq (by decide)).1) ?_
        show Steps p.tables e below (T67.setTop (mkF m 181 #[.val (.long p1), .second, .val (.long p2), .second, .val (.int p3), .val (.int (0 : Int32)), .val (.int (0 : Int32)), .val (.ref b6), .val (.ref b20), .val (.ref b34), .val (.long (0 : Int64)), .second, .val (.int (1 : Int32))] [])) _
        refine XS.aload X67.here hx rfl (hb hby at_181) rfl rfl ?_
        show Steps p.tables e below (T67.setTop (mkF m 183 #[.val (.long p1), .second, .val (.long p2), .second, .val (.int p3), .val (.int (0 : Int32)), .val (.int (0 : Int32)), .val (.ref b6), .val (.ref b20), .val (.ref b34), .val (.long (0 : Int64)), .second, .val (.int (1 : Int32))] [(.ref b6)])) _
        refine XS.dconst1 X67.here hx rfl (hb hby at_183) (v := (4607182418800017408 : UInt64)) (by decide +kernel) ?_
        exact kt)
      obtain ⟨cq70, kq70, q70a, q70b, q70c⟩ := isOf hZ e67 f52
      obtain ⟨_, _, ⟨T70, L70, k70, n70⟩, -, X70', ⟨Lc70, hQ70, l70, y70, z70⟩, st70⟩ := X67.virtualBack hx (y := (⟨"com/example/tideshift/tideshift/cli/LatencyHistogram", "quantile", "(D)D"⟩ : MethodName)) (z := (⟨"com/example/tideshift/tideshift/cli/LatencyHistogram", "quantile", "(D)D"⟩ : MethodName)) hown (mvT hZ (hw _ (List.mem_of_getElem? (i := 38) rfl))) (mvT hZ (hw _ (List.mem_of_getElem? (i := 39) rfl))) (notFace_of_selects (args := #[]) (mvT hZ (hw _ (List.mem_of_getElem? (i := 41) rfl)))) (mvT hZ (hw _ (List.mem_of_getElem? (i := 41) rfl))) (mvT hZ (hw _ (List.mem_of_getElem? (i := 40) rfl))) (by decide) (backOf (W := 0) (rmQnt0 l Z a0 hw [] b6 (4607182418800017408 : UInt64) h40 n0 (Nat.le_trans Z0 kp50.1) f52 f55) hZ (hw _ (List.mem_of_getElem? (i := 42) rfl)) (hw _ (List.mem_of_getElem? (i := 2) rfl)) (by decide) (by decide)) q70a q70c (g := (mkF m 184 #[.val (.long p1), .second, .val (.long p2), .second, .val (.int p3), .val (.int (0 : Int32)), .val (.int (0 : Int32)), .val (.ref b6), .val (.ref b20), .val (.ref b34), .val (.long (0 : Int64)), .second, .val (.int (1 : Int32))] [(.double (4607182418800017408 : UInt64)), (.ref b6)])) rfl (by rw [hml]; rfl) (Steps.refl _) (argsL := [(.double (4607182418800017408 : UInt64))]) (rest := []) (lenOf pd__D_D rfl) rfl (by show 2 * 0 + _ ≤ _; exact Nat.le_of_eq rfl) (hb hby at_184) (fun _ _ => ⟨rfl, e67, (by decide : 6 + 0 ≤ _), (by decide : 11142 + 0 ≤ _)⟩)
      dsimp only [Pt.U, Pt.locs, Pt.cells, Pt.slots] at X70' l70 y70 z70 st70 hQ70
      subst l70 y70 z70
      obtain ⟨rfl, N70q, e70⟩ := hQ70
      obtain ⟨lc70, X70, N70⟩ : ∃ lc, Stand p l e room_1 s m #[(.long p1), (.long p2), (.int p3)] below meth c T70 lc 6 11142 ∧ Fr n0 lc := ⟨_, X70', Fr.app N67 N70q⟩
      have K71 : Gx p e below s₁ f0 T70 (mkF m 187 #[.val (.long p1), .second, .val (.long p2), .second, .val (.int p3), .val (.int (0 : Int32)), .val (.int (0 : Int32)), .val (.ref b6), .val (.ref b20), .val (.ref b34), .val (.long (0 : Int64)), .second, .val (.int (1 : Int32))] [(.double (9221120237041090560 : UInt64))]) := fun t kt => K69 t (st70.trans kt)
      have K72 : Gx p e below s₁ f0 T70 (mkF m 190 #[.val (.long p1), .second, .val (.long p2), .second, .val (.int p3), .val (.int (0 : Int32)), .val (.int (0 : Int32)), .val (.ref b6), .val (.ref b20), .val (.ref b34), .val (.long (0 : Int64)), .second, .val (.int (1 : Int32))] [(.double (4607182418800017408 : UInt64)), (.ref b34), (.double (9221120237041090560 : UInt64))]) := fun t kt => K71 t (by
        show Steps p.tables e below (T70.setTop (mkF m 187 #[.val (.long p1), .second, .val (.long p2), .second, .val (.int p3), .val (.int (0 : Int32)), .val (.int (0 : Int32)), .val (.ref b6), .val (.ref b20), .val (.ref b34), .val (.long (0 : Int64)), .second, .val (.int (1 : Int32))] [(.double (9221120237041090560 : UInt64))])) _
        refine XS.aload X70.here hx rfl (hb hby at_187) rfl rfl ?_
        show Steps p.tables e below (T70.setTop (mkF m 189 #[.val (.long p1), .second, .val (.long p2), .second, .val (.int p3), .val (.int (0 : Int32)), .val (.int (0 : Int32)), .val (.ref b6), .val (.ref b20), .val (.ref b34), .val (.long (0 : Int64)), .second, .val (.int (1 : Int32))] [(.ref b34), (.double (9221120237041090560 : UInt64))])) _
        refine XS.dconst1 X70.here hx rfl (hb hby at_189) (v := (4607182418800017408 : UInt64)) (by decide +kernel) ?_
        exact kt)
      obtain ⟨cq73, kq73, q73a, q73b, q73c⟩ := isOf hZ e70 f42
      obtain ⟨_, _, ⟨T73, L73, k73, n73⟩, -, X73', ⟨Lc73, hQ73, l73, y73, z73⟩, st73⟩ := X70.virtualBack hx (y := (⟨"com/example/tideshift/tideshift/cli/LatencyHistogram", "quantile", "(D)D"⟩ : MethodName)) (z := (⟨"com/example/tideshift/tideshift/cli/LatencyHistogram", "quantile", "(D)D"⟩ : MethodName)) hown (mvT hZ (hw _ (List.mem_of_getElem? (i := 38) rfl))) (mvT hZ (hw _ (List.mem_of_getElem? (i := 39) rfl))) (notFace_of_selects (args := #[]) (mvT hZ (hw _ (List.mem_of_getElem? (i := 41) rfl)))) (mvT hZ (hw _ (List.mem_of_getElem? (i := 41) rfl))) (mvT hZ (hw _ (List.mem_of_getElem? (i := 40) rfl))) (by decide) (backOf (W := 2) (rmQnt0 l Z a0 hw [] b34 (4607182418800017408 : UInt64) h40 n0 (Nat.le_trans Z0 kp50.1) f42 f44) hZ (hw _ (List.mem_of_getElem? (i := 42) rfl)) (hw _ (List.mem_of_getElem? (i := 2) rfl)) (by decide) (by decide)) q73a q73c (g := (mkF m 190 #[.val (.long p1), .second, .val (.long p2), .second, .val (.int p3), .val (.int (0 : Int32)), .val (.int (0 : Int32)), .val (.ref b6), .val (.ref b20), .val (.ref b34), .val (.long (0 : Int64)), .second, .val (.int (1 : Int32))] [(.double (4607182418800017408 : UInt64)), (.ref b34), (.double (9221120237041090560 : UInt64))])) rfl (by rw [hml]; rfl) (Steps.refl _) (argsL := [(.double (4607182418800017408 : UInt64))]) (rest := [(.double (9221120237041090560 : UInt64))]) (lenOf pd__D_D rfl) rfl (by show 2 * 0 + _ ≤ _; exact Nat.le_of_eq rfl) (hb hby at_190) (fun _ _ => ⟨rfl, e70, (by decide : 6 + 0 ≤ _), (by decide : 11142 + 0 ≤ _)⟩)
      dsimp only [Pt.U, Pt.locs, Pt.cells, Pt.slots] at X73' l73 y73 z73 st73 hQ73
      subst l73 y73 z73
      obtain ⟨rfl, N73q, e73⟩ := hQ73
      obtain ⟨lc73, X73, N73⟩ : ∃ lc, Stand p l e room_1 s m #[(.long p1), (.long p2), (.int p3)] below meth c T73 lc 6 11142 ∧ Fr n0 lc := ⟨_, X73', Fr.app N70 N73q⟩
      have K74 : Gx p e below s₁ f0 T73 (mkF m 193 #[.val (.long p1), .second, .val (.long p2), .second, .val (.int p3), .val (.int (0 : Int32)), .val (.int (0 : Int32)), .val (.ref b6), .val (.ref b20), .val (.ref b34), .val (.long (0 : Int64)), .second, .val (.int (1 : Int32))] [(.double (9221120237041090560 : UInt64)), (.double (9221120237041090560 : UInt64))]) := fun t kt => K72 t (st73.trans kt)
      obtain ⟨_, _, ⟨T75, L75, k75, n75⟩, -, X75', ⟨Lc75, hQ75, l75, y75, z75⟩, st75⟩ := Jvm.LawKit.callS X73 hx (y := (⟨"com/example/tideshift/tideshift/cli/LatencyHistogramAddPinLaw", "same", "(DD)Z"⟩ : MethodName)) hown (mvT hZ (hw _ (List.mem_of_getElem? (i := 44) rfl))) (mvT hZ (hw _ (List.mem_of_getElem? (i := 45) rfl))) (mvT hZ (hw _ (List.mem_of_getElem? (i := 46) rfl))) (mvT hZ (hw _ (List.mem_of_getElem? (i := 47) rfl))) (by decide) (backOf (W := 0) (rmSam l Z a0 hw [] (9221120237041090560 : UInt64) h40 n0 (Nat.le_trans Z0 kp50.1) ) hZ (hw _ (List.mem_of_getElem? (i := 47) rfl)) (hw _ (List.mem_of_getElem? (i := 46) rfl)) (by decide) (by decide)) (g := (mkF m 193 #[.val (.long p1), .second, .val (.long p2), .second, .val (.int p3), .val (.int (0 : Int32)), .val (.int (0 : Int32)), .val (.ref b6), .val (.ref b20), .val (.ref b34), .val (.long (0 : Int64)), .second, .val (.int (1 : Int32))] [(.double (9221120237041090560 : UInt64)), (.double (9221120237041090560 : UInt64))])) rfl (by rw [hml]; rfl) (argsL := [(.double (9221120237041090560 : UInt64)), (.double (9221120237041090560 : UInt64))]) (rest := []) (lenOf pd__DD_Z rfl) rfl (by show 2 * 0 + _ ≤ _; exact Nat.le_of_eq rfl) (hb hby at_193) (fun _ _ => ⟨rfl, e73, (by decide : 6 + 0 ≤ _), (by decide : 11142 + 0 ≤ _)⟩)
      dsimp only [Pt.U, Pt.locs, Pt.cells, Pt.slots] at X75' l75 y75 z75 st75 hQ75
      subst l75 y75 z75
      obtain ⟨rfl, N75q, e75⟩ := hQ75
      obtain ⟨lc75, X75, N75⟩ : ∃ lc, Stand p l e room_1 s m #[(.long p1), (.long p2), (.int p3)] below meth c T75 lc 6 11142 ∧ Fr n0 lc := ⟨_, X75', Fr.app N73 N75q⟩
      have K76 : Gx p e below s₁ f0 T75 (mkF m 196 #[.val (.long p1), .second, .val (.long p2), .second, .val (.int p3), .val (.int (0 : Int32)), .val (.int (0 : Int32)), .val (.ref b6), .val (.ref b20), .val (.ref b34), .val (.long (0 : Int64)), .second, .val (.int (1 : Int32))] [(.int (1 : Int32))]) := fun t kt => K74 t (st75 t kt)
      have K77 : Gx p e below s₁ f0 T75 (mkF m 204 #[.val (.long p1), .second, .val (.long p2), .second, .val (.int p3), .val (.int (0 : Int32)), .val (.int (0 : Int32)), .val (.ref b6), .val (.ref b20), .val (.ref b34), .val (.long (0 : Int64)), .second, .val (.int (1 : Int32))] [(.int (1 : Int32))]) := fun t kt => K76 t (by
        show Steps p.tables e below (T75.setTop (mkF m 196 #[.val (.long p1), .second, .val (.long p2), .second, .val (.int p3), .val (.int (0 : Int32)), .val (.int (0 : Int32)), .val (.ref b6), .val (.ref b20), .val (.ref b34), .val (.long (0 : Int64)), .second, .val (.int (1 : Int32))] [(.int (1 : Int32))])) _
        refine XS.ifNo X75.here hx rfl (hb hby at_196) rfl ((if0 _ _).trans (feq (by decide)).1) ?_
        show Steps p.tables e below (T75.setTop (mkF m 199 #[.val (.long p1), .second, .val (.long p2), .second, .val (.int p3), .val (.int (0 : Int32)), .val (.int (0 : Int32)), .val (.ref b6), .val (.ref b20), .val (.ref b34), .val (.long (0 : Int64)), .second, .val (.int (1 : Int32))] [])) _
        refine XS.iconst X75.here hx rfl (hb hby at_199) ?_
        show Steps p.tables e below (T75.setTop (mkF m 200 #[.val (.long p1), .second, .val (.long p2), .second, .val (.int p3), .val (.int (0 : Int32)), .val (.int (0 : Int32)), .val (.ref b6), .val (.ref b20), .val (.ref b34), .val (.long (0 : Int64)), .second, .val (.int (1 : Int32))] [(.int (1 : Int32))])) _
        refine XS.goto X75.here hx rfl (pc0 := 200) (pc' := 204) rfl (hb hby at_200) (by decide) (by decide) ?_
        exact kt)
      obtain ⟨fs78, hr78, hrun78, hended78, hW78, hsame78⟩ := X75.leave (v := some (.int (1 : Int32))) (fun h => by rw [Bd.returns] at h; cases h)
      refine ⟨_, _, pre0 _ (K77 _ ?_), hrun78, hended78, _, _, rfl, ?_, ⟨_, rfl⟩, hW78, hsame78.mono (by decide) (by decide)⟩
      · exact retN X75 hx (t := .boolean) Bd.returns (by simp) (hb hby at_204) hr78
      · show Q0 Z p1 p2 p3 h0 n0 _ T75.heap _
        rw [e75]
        exact ⟨rfl, N75⟩
    · skip
      have K79 : Gx p e below s₁ f0 s₁ (mkF m 28 #[.val (.long p1), .second, .val (.long p2), .second, .val (.int p3), .val (.int (0 : Int32)), .val (.int (1 : Int32)), .unset, .unset, .unset, .unset, .unset, .unset] []) := fun t kt => K3 t (by
        show Steps p.tables e below (s₁.setTop (mkF m 18 #[.val (.long p1), .second, .val (.long p2), .second, .val (.int p3), .val (.int (0 : Int32)), .unset, .unset, .unset, .unset, .unset, .unset, .unset] [(.int (p3 &&& (2 : Int32)))])) _
        refine XS.ifNo X0.here hx rfl (hb hby at_18) rfl ((if0 _ _).trans (feq hb4).1) ?_
        show Steps p.tables e below (s₁.setTop (mkF m 21 #[.val (.long p1), .second, .val (.long p2), .second, .val (.int p3), .val (.int (0 : Int32)), .unset, .unset, .unset, .unset, .unset, .unset, .unset] [])) _
        refine XS.iconst X0.here hx rfl (hb hby at_21) ?_
        show Steps p.tables e below (s₁.setTop (mkF m 22 #[.val (.long p1), .second, .val (.long p2), .second, .val (.int p3), .val (.int (0 : Int32)), .unset, .unset, .unset, .unset, .unset, .unset, .unset] [(.int (1 : Int32))])) _
        refine XS.goto X0.here hx rfl (pc0 := 22) (pc' := 26) rfl (hb hby at_22) (by decide) (by decide) ?_
        show Steps p.tables e below (s₁.setTop (mkF m 26 #[.val (.long p1), .second, .val (.long p2), .second, .val (.int p3), .val (.int (0 : Int32)), .unset, .unset, .unset, .unset, .unset, .unset, .unset] [(.int (1 : Int32))])) _
        refine XS.istore X0.here hx rfl (hb hby at_26) rfl (l' := #[.val (.long p1), .second, .val (.long p2), .second, .val (.int p3), .val (.int (0 : Int32)), .val (.int (1 : Int32)), .unset, .unset, .unset, .unset, .unset, .unset]) rfl ?_
        exact kt)
      obtain ⟨T80, h80, X80, e80, E80, A80, D80, -, st80⟩ := newO X0 hx hZ hown (hw _ (List.mem_of_getElem? (i := 0) rfl)) (hw _ (List.mem_of_getElem? (i := 1) rfl)) (hw _ (List.mem_of_getElem? (i := 2) rfl)) e0 (g := (mkF m 28 #[.val (.long p1), .second, .val (.long p2), .second, .val (.int p3), .val (.int (0 : Int32)), .val (.int (1 : Int32)), .unset, .unset, .unset, .unset, .unset, .unset] [])) rfl (hb hby at_28) (by decide) (by decide)
      obtain ⟨b80, g80⟩ : ∃ z, z = h0.size := ⟨_, rfl⟩
      rw [← g80] at A80 D80 st80
      have f81 : Fld Z h80 b80 "com/example/tideshift/tideshift/cli/LatencyHistogram" "counts" "[J" .null := D80 (Or.inr (hw _ (List.mem_of_getElem? (i := 25) rfl))) (ty := (.array .long)) (by decide)
      have f82 : Fld Z h80 b80 "com/example/tideshift/tideshift/cli/LatencyHistogram" "count" "J" (.long (0 : Int64)) := D80 (Or.inl (hw _ (List.mem_of_getElem? (i := 32) rfl))) (ty := .long) (by decide)
      have K83 : Gx p e below s₁ f0 T80 (mkF m 31 #[.val (.long p1), .second, .val (.long p2), .second, .val (.int p3), .val (.int (0 : Int32)), .val (.int (1 : Int32)), .unset, .unset, .unset, .unset, .unset, .unset] [(.ref b80)]) := fun t kt => K79 t (st80 t kt)
      have K84 : Gx p e below s₁ f0 T80 (mkF m 32 #[.val (.long p1), .second, .val (.long p2), .second, .val (.int p3), .val (.int (0 : Int32)), .val (.int (1 : Int32)), .unset, .unset, .unset, .unset, .unset, .unset] [(.ref b80), (.ref b80)]) := fun t kt => K83 t (by
        show Steps p.tables e below (T80.setTop (mkF m 31 #[.val (.long p1), .second, .val (.long p2), .second, .val (.int p3), .val (.int (0 : Int32)), .val (.int (1 : Int32)), .unset, .unset, .unset, .unset, .unset, .unset] [(.ref b80)])) _
        refine XS.dup X80.here hx rfl (hb hby at_31) rfl rfl ?_
        exact kt)
      have kp85 : Keep h0 h80 [] := ((Keep.refl h0 []).ext E80)
      obtain ⟨_, _, ⟨T86, L86, k86, n86⟩, -, X86', ⟨Lc86, hQ86, l86, y86, z86⟩, st86⟩ := X80.specialBack hx (y := (⟨"com/example/tideshift/tideshift/cli/LatencyHistogram", "<init>", "()V"⟩ : MethodName)) rfl hown (mvT hZ (hw _ (List.mem_of_getElem? (i := 3) rfl))) (mvT hZ (hw _ (List.mem_of_getElem? (i := 4) rfl))) (mvT hZ (hw _ (List.mem_of_getElem? (i := 5) rfl))) (by decide) (backOf (W := 1) (rmIni l Z a0 hw [] b80 h80 n0 (Nat.le_trans Z0 kp85.1) (Nat.le_trans Z0 (Nat.le_trans (Keep.refl h0 []).1 (Nat.le_of_eq g80.symm))) A80 f81 f82) hZ (hw _ (List.mem_of_getElem? (i := 5) rfl)) (hw _ (List.mem_of_getElem? (i := 2) rfl)) (by decide) (by decide)) (g := (mkF m 32 #[.val (.long p1), .second, .val (.long p2), .second, .val (.int p3), .val (.int (0 : Int32)), .val (.int (1 : Int32)), .unset, .unset, .unset, .unset, .unset, .unset] [(.ref b80), (.ref b80)])) rfl (by rw [hml]; rfl) (Steps.refl _) (a := b80) (argsL := []) (rest := [(.ref b80)]) (lenOf pd___V rfl) rfl (by show 2 * 0 + _ ≤ _; exact Nat.le_of_eq rfl) (hb hby at_32) (fun _ _ => ⟨rfl, e80, (by decide : 1 + 1 ≤ _), (by decide : 2 + 3712 ≤ _)⟩)
      dsimp only [Pt.U, Pt.locs, Pt.cells, Pt.slots] at X86' l86 y86 z86 st86 hQ86
      subst l86 y86 z86
      obtain ⟨h86, e86⟩ : ∃ z, T86.heap = z := ⟨_, rfl⟩
      rw [e86] at hQ86
      obtain ⟨va_86, ka_86, rfl, N86q, Kc86, f87, f88, f89, f90, f91⟩ := hQ86
      obtain ⟨lc86, X86, N86⟩ : ∃ lc, Stand p l e room_1 s m #[(.long p1), (.long p2), (.int p3)] below meth c T86 lc 2 3714 ∧ Fr n0 lc := ⟨_, X86', Fr.app N0 N86q⟩
      have K92 : Gx p e below s₁ f0 T86 (mkF m 35 #[.val (.long p1), .second, .val (.long p2), .second, .val (.int p3), .val (.int (0 : Int32)), .val (.int (1 : Int32)), .unset, .unset, .unset, .unset, .unset, .unset] [(.ref b80)]) := fun t kt => K84 t (st86.trans kt)
      have K93 : Gx p e below s₁ f0 T86 (mkF m 37 #[.val (.long p1), .second, .val (.long p2), .second, .val (.int p3), .val (.int (0 : Int32)), .val (.int (1 : Int32)), .val (.ref b80), .unset, .unset, .unset, .unset, .unset] []) := fun t kt => K92 t (by
        show Steps p.tables e below (T86.setTop (mkF m 35 #[.val (.long p1), .second, .val (.long p2), .second, .val (.int p3), .val (.int (0 : Int32)), .val (.int (1 : Int32)), .unset, .unset, .unset, .unset, .unset, .unset] [(.ref b80)])) _
        refine XS.astore X86.here hx rfl (hb hby at_35) rfl rfl (l' := #[.val (.long p1), .second, .val (.long p2), .second, .val (.int p3), .val (.int (0 : Int32)), .val (.int (1 : Int32)), .val (.ref b80), .unset, .unset, .unset, .unset, .unset]) rfl ?_
        exact kt)
      obtain ⟨T94, h94, X94, e94, E94, A94, D94, -, st94⟩ := newO X86 hx hZ hown (hw _ (List.mem_of_getElem? (i := 0) rfl)) (hw _ (List.mem_of_getElem? (i := 1) rfl)) (hw _ (List.mem_of_getElem? (i := 2) rfl)) e86 (g := (mkF m 37 #[.val (.long p1), .second, .val (.long p2), .second, .val (.int p3), .val (.int (0 : Int32)), .val (.int (1 : Int32)), .val (.ref b80), .unset, .unset, .unset, .unset, .unset] [])) rfl (hb hby at_37) (by decide) (by decide)
      obtain ⟨b94, g94⟩ : ∃ z, z = h86.size := ⟨_, rfl⟩
      rw [← g94] at A94 D94 st94
      have f95 : Fld Z h94 b94 "com/example/tideshift/tideshift/cli/LatencyHistogram" "counts" "[J" .null := D94 (Or.inr (hw _ (List.mem_of_getElem? (i := 25) rfl))) (ty := (.array .long)) (by decide)
      have f96 : Fld Z h94 b94 "com/example/tideshift/tideshift/cli/LatencyHistogram" "count" "J" (.long (0 : Int64)) := D94 (Or.inl (hw _ (List.mem_of_getElem? (i := 32) rfl))) (ty := .long) (by decide)
      have K97 : Gx p e below s₁ f0 T94 (mkF m 40 #[.val (.long p1), .second, .val (.long p2), .second, .val (.int p3), .val (.int (0 : Int32)), .val (.int (1 : Int32)), .val (.ref b80), .unset, .unset, .unset, .unset, .unset] [(.ref b94)]) := fun t kt => K93 t (st94 t kt)
      have K98 : Gx p e below s₁ f0 T94 (mkF m 41 #[.val (.long p1), .second, .val (.long p2), .second, .val (.int p3), .val (.int (0 : Int32)), .val (.int (1 : Int32)), .val (.ref b80), .unset, .unset, .unset, .unset, .unset] [(.ref b94), (.ref b94)]) := fun t kt => K97 t (by
        show Steps p.tables e below (T94.setTop (mkF m 40 #[.val (.long p1), .second, .val (.long p2), .second, .val (.int p3), .val (.int (0 : Int32)), .val (.int (1 : Int32)), .val (.ref b80), .unset, .unset, .unset, .unset, .unset] [(.ref b94)])) _
        refine XS.dup X94.here hx rfl (hb hby at_40) rfl rfl ?_
        exact kt)
      have kp99 : Keep h0 h94 [] := ((Keep.trans kp85 Kc86 (allS (Or.inr (Nat.le_trans (Keep.refl h0 []).1 (Nat.le_of_eq g80.symm))) all0)).ext E94)
      obtain ⟨_, _, ⟨T100, L100, k100, n100⟩, -, X100', ⟨Lc100, hQ100, l100, y100, z100⟩, st100⟩ := X94.specialBack hx (y := (⟨"com/example/tideshift/tideshift/cli/LatencyHistogram", "<init>", "()V"⟩ : MethodName)) rfl hown (mvT hZ (hw _ (List.mem_of_getElem? (i := 3) rfl))) (mvT hZ (hw _ (List.mem_of_getElem? (i := 4) rfl))) (mvT hZ (hw _ (List.mem_of_getElem? (i := 5) rfl))) (by decide) (backOf (W := 1) (rmIni l Z a0 hw [] b94 h94 n0 (Nat.le_trans Z0 kp99.1) (Nat.le_trans Z0 (Nat.le_trans (Keep.trans kp85 Kc86 (allS (Or.inr (Nat.le_trans (Keep.refl h0 []).1 (Nat.le_of_eq g80.symm))) all0)).1 (Nat.le_of_eq g94.symm))) A94 f95 f96) hZ (hw _ (List.mem_of_getElem? (i := 5) rfl)) (hw _ (List.mem_of_getElem? (i := 2) rfl)) (by decide) (by decide)) (g := (mkF m 41 #[.val (.long p1), .second, .val (.long p2), .second, .val (.int p3), .val (.int (0 : Int32)), .val (.int (1 : Int32)), .val (.ref b80), .unset, .unset, .unset, .unset, .unset] [(.ref b94), (.ref b94)])) rfl (by rw [hml]; rfl) (Steps.refl _) (a := b94) (argsL := []) (rest := [(.ref b94)]) (lenOf pd___V rfl) rfl (by show 2 * 0 + _ ≤ _; exact Nat.le_of_eq rfl) (hb hby at_41) (fun _ _ => ⟨rfl, e94, (by decide : 3 + 1 ≤ _), (by decide : 3716 + 3712 ≤ _)⟩)
      dsimp only [Pt.U, Pt.locs, Pt.cells, Pt.slots] at X100' l100 y100 z100 st100 hQ100
      subst l100 y100 z100
      obtain ⟨h100, e100⟩ : ∃ z, T100.heap = z := ⟨_, rfl⟩
      rw [e100] at hQ100
      obtain ⟨va_100, ka_100, rfl, N100q, Kc100, f101, f102, f103, f104, f105⟩ := hQ100
      obtain ⟨lc100, X100, N100⟩ : ∃ lc, Stand p l e room_1 s m #[(.long p1), (.long p2), (.int p3)] below meth c T100 lc 4 7428 ∧ Fr n0 lc := ⟨_, X100', Fr.app N86 N100q⟩
      have K106 : Gx p e below s₁ f0 T100 (mkF m 44 #[.val (.long p1), .second, .val (.long p2), .second, .val (.int p3), .val (.int (0 : Int32)), .val (.int (1 : Int32)), .val (.ref b80), .unset, .unset, .unset, .unset, .unset] [(.ref b94)]) := fun t kt => K98 t (st100.trans kt)
      have K107 : Gx p e below s₁ f0 T100 (mkF m 46 #[.val (.long p1), .second, .val (.long p2), .second, .val (.int p3), .val (.int (0 : Int32)), .val (.int (1 : Int32)), .val (.ref b80), .val (.ref b94), .unset, .unset, .unset, .unset] []) := fun t kt => K106 t (by
        show Steps p.tables e below (T100.setTop (mkF m 44 #[.val (.long p1), .second, .val (.long p2), .second, .val (.int p3), .val (.int (0 : Int32)), .val (.int (1 : Int32)), .val (.ref b80), .unset, .unset, .unset, .unset, .unset] [(.ref b94)])) _
        refine XS.astore X100.here hx rfl (hb hby at_44) rfl rfl (l' := #[.val (.long p1), .second, .val (.long p2), .second, .val (.int p3), .val (.int (0 : Int32)), .val (.int (1 : Int32)), .val (.ref b80), .val (.ref b94), .unset, .unset, .unset, .unset]) rfl ?_
        exact kt)
      obtain ⟨T108, h108, X108, e108, E108, A108, D108, -, st108⟩ := newO X100 hx hZ hown (hw _ (List.mem_of_getElem? (i := 0) rfl)) (hw _ (List.mem_of_getElem? (i := 1) rfl)) (hw _ (List.mem_of_getElem? (i := 2) rfl)) e100 (g := (mkF m 46 #[.val (.long p1), .second, .val (.long p2), .second, .val (.int p3), .val (.int (0 : Int32)), .val (.int (1 : Int32)), .val (.ref b80), .val (.ref b94), .unset, .unset, .unset, .unset] [])) rfl (hb hby at_46) (by decide) (by decide)
      obtain ⟨b108, g108⟩ : ∃ z, z = h100.size := ⟨_, rfl⟩
      rw [← g108] at A108 D108 st108
      have f109 : Fld Z h108 b108 "com/example/tideshift/tideshift/cli/LatencyHistogram" "counts" "[J" .null := D108 (Or.inr (hw _ (List.mem_of_getElem? (i := 25) rfl))) (ty := (.array .long)) (by decide)
      have f110 : Fld Z h108 b108 "com/example/tideshift/tideshift/cli/LatencyHistogram" "count" "J" (.long (0 : Int64)) := D108 (Or.inl (hw _ (List.mem_of_getElem? (i := 32) rfl))) (ty := .long) (by decide)
      have K111 : Gx p e below s₁ f0 T108 (mkF m 49 #[.val (.long p1), .second, .val (.long p2), .second, .val (.int p3), .val (.int (0 : Int32)), .val (.int (1 : Int32)), .val (.ref b80), .val (.ref b94), .unset, .unset, .unset, .unset] [(.ref b108)]) := fun t kt => K107 t (st108 t kt)
      have K112 : Gx p e below s₁ f0 T108 (mkF m 50 #[.val (.long p1), .second, .val (.long p2), .second, .val (.int p3), .val (.int (0 : Int32)), .val (.int (1 : Int32)), .val (.ref b80), .val (.ref b94), .unset, .unset, .unset, .unset] [(.ref b108), (.ref b108)]) := fun t kt => K111 t (by
        show Steps p.tables e below (T108.setTop (mkF m 49 #[.val (.long p1), .second, .val (.long p2), .second, .val (.int p3), .val (.int (0 : Int32)), .val (.int (1 : Int32)), .val (.ref b80), .val (.ref b94), .unset, .unset, .unset, .unset] [(.ref b108)])) _
        refine XS.dup X108.here hx rfl (hb hby at_49) rfl rfl ?_
        exact kt)
      have kp113 : Keep h0 h108 [] := ((Keep.trans kp99 Kc100 (allS (Or.inr (Nat.le_trans (Keep.trans kp85 Kc86 (allS (Or.inr (Nat.le_trans (Keep.refl h0 []).1 (Nat.le_of_eq g80.symm))) all0)).1 (Nat.le_of_eq g94.symm))) all0)).ext E108)
      obtain ⟨_, _, ⟨T114, L114, k114, n114⟩, -, X114', ⟨Lc114, hQ114, l114, y114, z114⟩, st114⟩ := X108.specialBack hx (y := (⟨"com/example/tideshift/tideshift/cli/LatencyHistogram", "<init>", "()V"⟩ : MethodName)) rfl hown (mvT hZ (hw _ (List.mem_of_getElem? (i := 3) rfl))) (mvT hZ (hw _ (List.mem_of_getElem? (i := 4) rfl))) (mvT hZ (hw _ (List.mem_of_getElem? (i := 5) rfl))) (by decide) (backOf (W := 1) (rmIni l Z a0 hw [] b108 h108 n0 (Nat.le_trans Z0 kp113.1) (Nat.le_trans Z0 (Nat.le_trans (Keep.trans kp99 Kc100 (allS (Or.inr (Nat.le_trans (Keep.trans kp85 Kc86 (allS (Or.inr (Nat.le_trans (Keep.refl h0 []).1 (Nat.le_of_eq g80.symm))) all0)).1 (Nat.le_of_eq g94.symm))) all0)).1 (Nat.le_of_eq g108.symm))) A108 f109 f110) hZ (hw _ (List.mem_of_getElem? (i := 5) rfl)) (hw _ (List.mem_of_getElem? (i := 2) rfl)) (by decide) (by decide)) (g := (mkF m 50 #[.val (.long p1), .second, .val (.long p2), .second, .val (.int p3), .val (.int (0 : Int32)), .val (.int (1 : Int32)), .val (.ref b80), .val (.ref b94), .unset, .unset, .unset, .unset] [(.ref b108), (.ref b108)])) rfl (by rw [hml]; rfl) (Steps.refl _) (a := b108) (argsL := []) (rest := [(.ref b108)]) (lenOf pd___V rfl) rfl (by show 2 * 0 + _ ≤ _; exact Nat.le_of_eq rfl) (hb hby at_50) (fun _ _ => ⟨rfl, e108, (by decide : 5 + 1 ≤ _), (by decide : 7430 + 3712 ≤ _)⟩)
      dsimp only [Pt.U, Pt.locs, Pt.cells, Pt.slots] at X114' l114 y114 z114 st114 hQ114
      subst l114 y114 z114
      obtain ⟨h114, e114⟩ : ∃ z, T114.heap = z := ⟨_, rfl⟩
      rw [e114] at hQ114
      obtain ⟨va_114, ka_114, rfl, N114q, Kc114, f115, f116, f117, f118, f119⟩ := hQ114
      obtain ⟨lc114, X114, N114⟩ : ∃ lc, Stand p l e room_1 s m #[(.long p1), (.long p2), (.int p3)] below meth c T114 lc 6 11142 ∧ Fr n0 lc := ⟨_, X114', Fr.app N100 N114q⟩
      have K120 : Gx p e below s₁ f0 T114 (mkF m 53 #[.val (.long p1), .second, .val (.long p2), .second, .val (.int p3), .val (.int (0 : Int32)), .val (.int (1 : Int32)), .val (.ref b80), .val (.ref b94), .unset, .unset, .unset, .unset] [(.ref b108)]) := fun t kt => K112 t (st114.trans kt)
      have K121 : Gx p e below s₁ f0 T114 (mkF m 80 #[.val (.long p1), .second, .val (.long p2), .second, .val (.int p3), .val (.int (0 : Int32)), .val (.int (1 : Int32)), .val (.ref b80), .val (.ref b94), .val (.ref b108), .unset, .unset, .unset] [(.long p2), (.ref b94)]) := fun t kt => K120 t (by
        show Steps p.tables e below (T114.setTop (mkF m 53 #[.val (.long p1), .second, .val (.long p2), .second, .val (.int p3), .val (.int (0 : Int32)), .val (.int (1 : Int32)), .val (.ref b80), .val (.ref b94), .unset, .unset, .unset, .unset] [(.ref b108)])) _
        refine XS.astore X114.here hx rfl (hb hby at_53) rfl rfl (l' := #[.val (.long p1), .second, .val (.long p2), .second, .val (.int p3), .val (.int (0 : Int32)), .val (.int (1 : Int32)), .val (.ref b80), .val (.ref b94), .val (.ref b108), .unset, .unset, .unset]) rfl ?_
        show Steps p.tables e below (T114.setTop (mkF m 55 #[.val (.long p1), .second, .val (.long p2), .second, .val (.int p3), .val (.int (0 : Int32)), .val (.int (1 : Int32)), .val (.ref b80), .val (.ref b94), .val (.ref b108), .unset, .unset, .unset] [])) _
        refine XS.iload X114.here hx rfl (hb hby at_55) rfl ?_
        show Steps p.tables e below (T114.setTop (mkF m 57 #[.val (.long p1), .second, .val (.long p2), .second, .val (.int p3), .val (.int (0 : Int32)), .val (.int (1 : Int32)), .val (.ref b80), .val (.ref b94), .val (.ref b108), .unset, .unset, .unset] [(.int (0 : Int32))])) _
        refine XS.ifYes X114.here hx rfl (pc0 := 57) (pc' := 72) rfl (hb hby at_57) rfl ((if0 _ _).trans (teq (by decide)).1) (by decide) (by decide) ?_
        show Steps p.tables e below (T114.setTop (mkF m 72 #[.val (.long p1), .second, .val (.long p2), .second, .val (.int p3), .val (.int (0 : Int32)), .val (.int (1 : Int32)), .val (.ref b80), .val (.ref b94), .val (.ref b108), .unset, .unset, .unset] [])) _
        refine XS.iload X114.here hx rfl (hb hby at_72) rfl ?_
        show Steps p.tables e below (T114.setTop (mkF m 74 #[.val (.long p1), .second, .val (.long p2), .second, .val (.int p3), .val (.int (0 : Int32)), .val (.int (1 : Int32)), .val (.ref b80), .val (.ref b94), .val (.ref b108), .unset, .unset, .unset] [(.int (1 : Int32))])) _
        refine XS.ifNo X114.here hx rfl (hb hby at_74) rfl ((if0 _ _).trans (feq (by decide)).1) ?_
        show Steps p.tables e below (T114.setTop (mkF m 77 #[.val (.long p1), .second, .val (.long p2), .second, .val (.int p3), .val (.int (0 : Int32)), .val (.int (1 : Int32)), .val (.ref b80), .val (.ref b94), .val (.ref b108), .unset, .unset, .unset] [])) _
        refine XS.aload X114.here hx rfl (hb hby at_77) rfl rfl ?_
        show Steps p.tables e below (T114.setTop (mkF m 79 #[.val (.long p1), .second, .val (.long p2), .second, .val (.int p3), .val (.int (0 : Int32)), .val (.int (1 : Int32)), .val (.ref b80), .val (.ref b94), .val (.ref b108), .unset, .unset, .unset] [(.ref b94)])) _
        refine XS.lloadN X114.here hx rfl (hb hby at_79) rfl ?_
        exact kt)
      have f122 : Exa Z h114 b94 "com/example/tideshift/tideshift/cli/LatencyHistogram" := ((f102.ext E108).keep Kc114)
      have f123 : Fld Z h114 b94 "com/example/tideshift/tideshift/cli/LatencyHistogram" "counts" "[J" (.ref va_100) := ((f103.ext E108).keep Kc114 (ninS (Nat.ne_of_lt (Nat.lt_of_lt_of_le f102.lt (Nat.le_of_eq g108.symm))) nin0))
      have f124 : Fld Z h114 b94 "com/example/tideshift/tideshift/cli/LatencyHistogram" "count" "J" (.long (0 : Int64)) := ((f104.ext E108).keep Kc114 (ninS (Nat.ne_of_lt (Nat.lt_of_lt_of_le f102.lt (Nat.le_of_eq g108.symm))) nin0))
      have f125 : Arv Z h114 va_100 ka_100 .long (3712 : Int32) (tab zF) (.long (0 : Int64)) := ((f105.ext E108).keep Kc114 (ninS (Nat.ne_of_lt (Nat.lt_of_lt_of_le f105.lt (Nat.le_of_eq g108.symm))) nin0))
      have kp126 : Keep h0 h114 [] := (Keep.trans kp113 Kc114 (allS (Or.inr (Nat.le_trans (Keep.trans kp99 Kc100 (allS (Or.inr (Nat.le_trans (Keep.trans kp85 Kc86 (allS (Or.inr (Nat.le_trans (Keep.refl h0 []).1 (Nat.le_of_eq g80.symm))) all0)).1 (Nat.le_of_eq g94.symm))) all0)).1 (Nat.le_of_eq g108.symm))) all0))
      obtain ⟨cq127, kq127, q127a, q127b, q127c⟩ := isOf hZ e114 f122
      obtain ⟨_, _, ⟨T127, L127, k127, n127⟩, -, X127', ⟨Lc127, hQ127, l127, y127, z127⟩, st127⟩ := X114.virtualBack hx (y := (⟨"com/example/tideshift/tideshift/cli/LatencyHistogram", "record", "(J)V"⟩ : MethodName)) (z := (⟨"com/example/tideshift/tideshift/cli/LatencyHistogram", "record", "(J)V"⟩ : MethodName)) hown (mvT hZ (hw _ (List.mem_of_getElem? (i := 48) rfl))) (mvT hZ (hw _ (List.mem_of_getElem? (i := 49) rfl))) (notFace_of_selects (args := #[]) (mvT hZ (hw _ (List.mem_of_getElem? (i := 51) rfl)))) (mvT hZ (hw _ (List.mem_of_getElem? (i := 51) rfl))) (mvT hZ (hw _ (List.mem_of_getElem? (i := 50) rfl))) (by decide) (backOf (W := 0) (rmRec0 l Z a0 hw [] b94 p2 va_100 ka_100 zF h114 n0 (Nat.le_trans Z0 kp126.1) f122 f123 f124 f125 (Nat.le_trans Z0 (Nat.le_trans (Keep.trans kp85 Kc86 (allS (Or.inr (Nat.le_trans (Keep.refl h0 []).1 (Nat.le_of_eq g80.symm))) all0)).1 (Nat.le_of_eq g94.symm))) (Nat.le_trans Z0 (Nat.le_trans kp99.1 f101))) hZ (hw _ (List.mem_of_getElem? (i := 52) rfl)) (hw _ (List.mem_of_getElem? (i := 2) rfl)) (by decide) (by decide)) q127a q127c (g := (mkF m 80 #[.val (.long p1), .second, .val (.long p2), .second, .val (.int p3), .val (.int (0 : Int32)), .val (.int (1 : Int32)), .val (.ref b80), .val (.ref b94), .val (.ref b108), .unset, .unset, .unset] [(.long p2), (.ref b94)])) rfl (by rw [hml]; rfl) (Steps.refl _) (argsL := [(.long p2)]) (rest := []) (lenOf pd__J_V rfl) rfl (by show 2 * 0 + _ ≤ _; exact Nat.le_of_eq rfl) (hb hby at_80) (fun _ _ => ⟨rfl, e114, (by decide : 6 + 0 ≤ _), (by decide : 11142 + 0 ≤ _)⟩)
      dsimp only [Pt.U, Pt.locs, Pt.cells, Pt.slots] at X127' l127 y127 z127 st127 hQ127
      subst l127 y127 z127
      obtain ⟨h127, e127⟩ : ∃ z, T127.heap = z := ⟨_, rfl⟩
      rw [e127] at hQ127
      obtain ⟨rfl, N127q, Kc127, f128, f129, f130, f131⟩ := hQ127
      obtain ⟨lc127, X127, N127⟩ : ∃ lc, Stand p l e room_1 s m #[(.long p1), (.long p2), (.int p3)] below meth c T127 lc 6 11142 ∧ Fr n0 lc := ⟨_, X127', Fr.app N114 N127q⟩
      have K132 : Gx p e below s₁ f0 T127 (mkF m 83 #[.val (.long p1), .second, .val (.long p2), .second, .val (.int p3), .val (.int (0 : Int32)), .val (.int (1 : Int32)), .val (.ref b80), .val (.ref b94), .val (.ref b108), .unset, .unset, .unset] []) := fun t kt => K121 t (st127.trans kt)
      have K133 : Gx p e below s₁ f0 T127 (mkF m 86 #[.val (.long p1), .second, .val (.long p2), .second, .val (.int p3), .val (.int (0 : Int32)), .val (.int (1 : Int32)), .val (.ref b80), .val (.ref b94), .val (.ref b108), .unset, .unset, .unset] [(.long p2), (.ref b108)]) := fun t kt => K132 t (by
        show Steps p.tables e below (T127.setTop (mkF m 83 #[.val (.long p1), .second, .val (.long p2), .second, .val (.int p3), .val (.int (0 : Int32)), .val (.int (1 : Int32)), .val (.ref b80), .val (.ref b94), .val (.ref b108), .unset, .unset, .unset] [])) _
        refine XS.aload X127.here hx rfl (hb hby at_83) rfl rfl ?_
        show Steps p.tables e below (T127.setTop (mkF m 85 #[.val (.long p1), .second, .val (.long p2), .second, .val (.int p3), .val (.int (0 : Int32)), .val (.int (1 : Int32)), .val (.ref b80), .val (.ref b94), .val (.ref b108), .unset, .unset, .unset] [(.ref b108)])) _
        refine XS.lloadN X127.here hx rfl (hb hby at_85) rfl ?_
        exact kt)
      have f134 : Exa Z h127 b108 "com/example/tideshift/tideshift/cli/LatencyHistogram" := (f116.keep Kc127)
      have f135 : Fld Z h127 b108 "com/example/tideshift/tideshift/cli/LatencyHistogram" "counts" "[J" (.ref va_114) := (f117.keep Kc127 (ninS (Ne.symm (Nat.ne_of_lt (Nat.lt_of_lt_of_le f102.lt (Nat.le_of_eq g108.symm)))) (ninS (Ne.symm (Nat.ne_of_lt (Nat.lt_of_lt_of_le f105.lt (Nat.le_of_eq g108.symm)))) nin0)))
      have f136 : Fld Z h127 b108 "com/example/tideshift/tideshift/cli/LatencyHistogram" "count" "J" (.long (0 : Int64)) := (f118.keep Kc127 (ninS (Ne.symm (Nat.ne_of_lt (Nat.lt_of_lt_of_le f102.lt (Nat.le_of_eq g108.symm)))) (ninS (Ne.symm (Nat.ne_of_lt (Nat.lt_of_lt_of_le f105.lt (Nat.le_of_eq g108.symm)))) nin0)))
      have f137 : Arv Z h127 va_114 ka_114 .long (3712 : Int32) (tab zF) (.long (0 : Int64)) := (f119.keep Kc127 (ninS (Ne.symm (Nat.ne_of_lt (Nat.lt_of_lt_of_le (f102.ext E108).lt f115))) (ninS (Ne.symm (Nat.ne_of_lt (Nat.lt_of_lt_of_le (f105.ext E108).lt f115))) nin0)))
      have kp138 : Keep h0 h127 [] := (Keep.trans kp126 Kc127 (allS (Or.inr (Nat.le_trans (Keep.trans kp85 Kc86 (allS (Or.inr (Nat.le_trans (Keep.refl h0 []).1 (Nat.le_of_eq g80.symm))) all0)).1 (Nat.le_of_eq g94.symm))) (allS (Or.inr (Nat.le_trans kp99.1 f101)) all0)))
      obtain ⟨cq139, kq139, q139a, q139b, q139c⟩ := isOf hZ e127 f134
      obtain ⟨_, _, ⟨T139, L139, k139, n139⟩, -, X139', ⟨Lc139, hQ139, l139, y139, z139⟩, st139⟩ := X127.virtualBack hx (y := (⟨"com/example/tideshift/tideshift/cli/LatencyHistogram", "record", "(J)V"⟩ : MethodName)) (z := (⟨"com/example/tideshift/tideshift/cli/LatencyHistogram", "record", "(J)V"⟩ : MethodName)) hown (mvT hZ (hw _ (List.mem_of_getElem? (i := 48) rfl))) (mvT hZ (hw _ (List.mem_of_getElem? (i := 49) rfl))) (notFace_of_selects (args := #[]) (mvT hZ (hw _ (List.mem_of_getElem? (i := 51) rfl)))) (mvT hZ (hw _ (List.mem_of_getElem? (i := 51) rfl))) (mvT hZ (hw _ (List.mem_of_getElem? (i := 50) rfl))) (by decide) (backOf (W := 0) (rmRec0 l Z a0 hw [] b108 p2 va_114 ka_114 zF h127 n0 (Nat.le_trans Z0 kp138.1) f134 f135 f136 f137 (Nat.le_trans Z0 (Nat.le_trans (Keep.trans kp99 Kc100 (allS (Or.inr (Nat.le_trans (Keep.trans kp85 Kc86 (allS (Or.inr (Nat.le_trans (Keep.refl h0 []).1 (Nat.le_of_eq g80.symm))) all0)).1 (Nat.le_of_eq g94.symm))) all0)).1 (Nat.le_of_eq g108.symm))) (Nat.le_trans Z0 (Nat.le_trans kp113.1 f115))) hZ (hw _ (List.mem_of_getElem? (i := 52) rfl)) (hw _ (List.mem_of_getElem? (i := 2) rfl)) (by decide) (by decide)) q139a q139c (g := (mkF m 86 #[.val (.long p1), .second, .val (.long p2), .second, .val (.int p3), .val (.int (0 : Int32)), .val (.int (1 : Int32)), .val (.ref b80), .val (.ref b94), .val (.ref b108), .unset, .unset, .unset] [(.long p2), (.ref b108)])) rfl (by rw [hml]; rfl) (Steps.refl _) (argsL := [(.long p2)]) (rest := []) (lenOf pd__J_V rfl) rfl (by show 2 * 0 + _ ≤ _; exact Nat.le_of_eq rfl) (hb hby at_86) (fun _ _ => ⟨rfl, e127, (by decide : 6 + 0 ≤ _), (by decide : 11142 + 0 ≤ _)⟩)
      dsimp only [Pt.U, Pt.locs, Pt.cells, Pt.slots] at X139' l139 y139 z139 st139 hQ139
      subst l139 y139 z139
      obtain ⟨h139, e139⟩ : ∃ z, T139.heap = z := ⟨_, rfl⟩
      rw [e139] at hQ139
      obtain ⟨rfl, N139q, Kc139, f140, f141, f142, f143⟩ := hQ139
      obtain ⟨lc139, X139, N139⟩ : ∃ lc, Stand p l e room_1 s m #[(.long p1), (.long p2), (.int p3)] below meth c T139 lc 6 11142 ∧ Fr n0 lc := ⟨_, X139', Fr.app N127 N139q⟩
      have K144 : Gx p e below s₁ f0 T139 (mkF m 89 #[.val (.long p1), .second, .val (.long p2), .second, .val (.int p3), .val (.int (0 : Int32)), .val (.int (1 : Int32)), .val (.ref b80), .val (.ref b94), .val (.ref b108), .unset, .unset, .unset] []) := fun t kt => K133 t (st139.trans kt)
      have K145 : Gx p e below s₁ f0 T139 (mkF m 93 #[.val (.long p1), .second, .val (.long p2), .second, .val (.int p3), .val (.int (0 : Int32)), .val (.int (1 : Int32)), .val (.ref b80), .val (.ref b94), .val (.ref b108), .unset, .unset, .unset] [(.ref b94), (.ref b80)]) := fun t kt => K144 t (by
        show Steps p.tables e below (T139.setTop (mkF m 89 #[.val (.long p1), .second, .val (.long p2), .second, .val (.int p3), .val (.int (0 : Int32)), .val (.int (1 : Int32)), .val (.ref b80), .val (.ref b94), .val (.ref b108), .unset, .unset, .unset] [])) _
        refine XS.aload X139.here hx rfl (hb hby at_89) rfl rfl ?_
        show Steps p.tables e below (T139.setTop (mkF m 91 #[.val (.long p1), .second, .val (.long p2), .second, .val (.int p3), .val (.int (0 : Int32)), .val (.int (1 : Int32)), .val (.ref b80), .val (.ref b94), .val (.ref b108), .unset, .unset, .unset] [(.ref b80)])) _
        refine XS.aload X139.here hx rfl (hb hby at_91) rfl rfl ?_
        exact kt)
      have f146 : Exa Z h139 b80 "com/example/tideshift/tideshift/cli/LatencyHistogram" := ((((((f88.ext E94).keep Kc100).ext E108).keep Kc114).keep Kc127).keep Kc139)
      have f147 : Exa Z h139 b94 "com/example/tideshift/tideshift/cli/LatencyHistogram" := (f128.keep Kc139)
      have f148 : Fld Z h139 b80 "com/example/tideshift/tideshift/cli/LatencyHistogram" "counts" "[J" (.ref va_86) := ((((((f89.ext E94).keep Kc100 (ninS (Nat.ne_of_lt (Nat.lt_of_lt_of_le f88.lt (Nat.le_of_eq g94.symm))) nin0)).ext E108).keep Kc114 (ninS (Nat.ne_of_lt (Nat.lt_of_lt_of_le ((f88.ext E94).keep Kc100).lt (Nat.le_of_eq g108.symm))) nin0)).keep Kc127 (ninS (Nat.ne_of_lt (Nat.lt_of_lt_of_le f88.lt (Nat.le_of_eq g94.symm))) (ninS (Nat.ne_of_lt (Nat.lt_of_lt_of_le (f88.ext E94).lt f101)) nin0))).keep Kc139 (ninS (Nat.ne_of_lt (Nat.lt_of_lt_of_le ((f88.ext E94).keep Kc100).lt (Nat.le_of_eq g108.symm))) (ninS (Nat.ne_of_lt (Nat.lt_of_lt_of_le (((f88.ext E94).keep Kc100).ext E108).lt f115)) nin0)))
      have f149 : Fld Z h139 b94 "com/example/tideshift/tideshift/cli/LatencyHistogram" "counts" "[J" (.ref va_100) := (f129.keep Kc139 (ninS (Nat.ne_of_lt (Nat.lt_of_lt_of_le f102.lt (Nat.le_of_eq g108.symm))) (ninS (Nat.ne_of_lt (Nat.lt_of_lt_of_le (f102.ext E108).lt f115)) nin0)))
      have f150 : Arv Z h139 va_86 ka_86 .long (3712 : Int32) (tab zF) (.long (0 : Int64)) := ((((((f91.ext E94).keep Kc100 (ninS (Nat.ne_of_lt (Nat.lt_of_lt_of_le f91.lt (Nat.le_of_eq g94.symm))) nin0)).ext E108).keep Kc114 (ninS (Nat.ne_of_lt (Nat.lt_of_lt_of_le ((f91.ext E94).keep Kc100 (ninS (Nat.ne_of_lt (Nat.lt_of_lt_of_le f91.lt (Nat.le_of_eq g94.symm))) nin0)).lt (Nat.le_of_eq g108.symm))) nin0)).keep Kc127 (ninS (Nat.ne_of_lt (Nat.lt_of_lt_of_le f91.lt (Nat.le_of_eq g94.symm))) (ninS (Nat.ne_of_lt (Nat.lt_of_lt_of_le (f91.ext E94).lt f101)) nin0))).keep Kc139 (ninS (Nat.ne_of_lt (Nat.lt_of_lt_of_le ((f91.ext E94).keep Kc100 (ninS (Nat.ne_of_lt (Nat.lt_of_lt_of_le f91.lt (Nat.le_of_eq g94.symm))) nin0)).lt (Nat.le_of_eq g108.symm))) (ninS (Nat.ne_of_lt (Nat.lt_of_lt_of_le (((f91.ext E94).keep Kc100 (ninS (Nat.ne_of_lt (Nat.lt_of_lt_of_le f91.lt (Nat.le_of_eq g94.symm))) nin0)).ext E108).lt f115)) nin0)))
      have f151 : Arv Z h139 va_100 ka_100 .long (3712 : Int32) (tab (upd (bk p2) zF)) (.long (0 : Int64)) := (f131.keep Kc139 (ninS (Nat.ne_of_lt (Nat.lt_of_lt_of_le f105.lt (Nat.le_of_eq g108.symm))) (ninS (Nat.ne_of_lt (Nat.lt_of_lt_of_le (f105.ext E108).lt f115)) nin0)))
      have f152 : Fld Z h139 b80 "com/example/tideshift/tideshift/cli/LatencyHistogram" "count" "J" (.long (0 : Int64)) := ((((((f90.ext E94).keep Kc100 (ninS (Nat.ne_of_lt (Nat.lt_of_lt_of_le f88.lt (Nat.le_of_eq g94.symm))) nin0)).ext E108).keep Kc114 (ninS (Nat.ne_of_lt (Nat.lt_of_lt_of_le ((f88.ext E94).keep Kc100).lt (Nat.le_of_eq g108.symm))) nin0)).keep Kc127 (ninS (Nat.ne_of_lt (Nat.lt_of_lt_of_le f88.lt (Nat.le_of_eq g94.symm))) (ninS (Nat.ne_of_lt (Nat.lt_of_lt_of_le (f88.ext E94).lt f101)) nin0))).keep Kc139 (ninS (Nat.ne_of_lt (Nat.lt_of_lt_of_le ((f88.ext E94).keep Kc100).lt (Nat.le_of_eq g108.symm))) (ninS (Nat.ne_of_lt (Nat.lt_of_lt_of_le (((f88.ext E94).keep Kc100).ext E108).lt f115)) nin0)))
      have f153 : Fld Z h139 b94 "com/example/tideshift/tideshift/cli/LatencyHistogram" "count" "J" (.long (1 : Int64)) := (f130.keep Kc139 (ninS (Nat.ne_of_lt (Nat.lt_of_lt_of_le f102.lt (Nat.le_of_eq g108.symm))) (ninS (Nat.ne_of_lt (Nat.lt_of_lt_of_le (f102.ext E108).lt f115)) nin0)))
      have kp154 : Keep h0 h139 [] := (Keep.trans kp138 Kc139 (allS (Or.inr (Nat.le_trans (Keep.trans kp99 Kc100 (allS (Or.inr (Nat.le_trans (Keep.trans kp85 Kc86 (allS (Or.inr (Nat.le_trans (Keep.refl h0 []).1 (Nat.le_of_eq g80.symm))) all0)).1 (Nat.le_of_eq g94.symm))) all0)).1 (Nat.le_of_eq g108.symm))) (allS (Or.inr (Nat.le_trans kp113.1 f115)) all0)))
      obtain ⟨cq155, kq155, q155a, q155b, q155c⟩ := isOf hZ e139 f146
      obtain ⟨_, _, ⟨T155, L155, k155, n155⟩, -, X155', ⟨Lc155, hQ155, l155, y155, z155⟩, st155⟩ := X139.virtualBack hx (y := (⟨"com/example/tideshift/tideshift/cli/LatencyHistogram", "add", "(Lcom/example/tideshift/tideshift/cli/LatencyHistogram;)V"⟩ : MethodName)) (z := (⟨"com/example/tideshift/tideshift/cli/LatencyHistogram", "add", "(Lcom/example/tideshift/tideshift/cli/LatencyHistogram;)V"⟩ : MethodName)) hown (mvT hZ (hw _ (List.mem_of_getElem? (i := 26) rfl))) (mvT hZ (hw _ (List.mem_of_getElem? (i := 27) rfl))) (notFace_of_selects (args := #[]) (mvT hZ (hw _ (List.mem_of_getElem? (i := 29) rfl)))) (mvT hZ (hw _ (List.mem_of_getElem? (i := 29) rfl))) (mvT hZ (hw _ (List.mem_of_getElem? (i := 28) rfl))) (by decide) (backOf (W := 0) (rmAdd0 l Z a0 hw [] b80 b94 va_86 va_100 ka_86 ka_100 zF (upd (bk p2) zF) h139 n0 (Nat.le_trans Z0 kp154.1) f146 f147 f148 f149 f150 f151 (Nat.le_trans Z0 (Nat.le_trans kp85.1 f87)) (Nat.ne_of_lt (Nat.lt_of_lt_of_le (f91.ext E94).lt f101)) f152 f153 (Nat.le_trans Z0 (Nat.le_trans (Keep.refl h0 []).1 (Nat.le_of_eq g80.symm))) (Nat.ne_of_lt (Nat.lt_of_lt_of_le f88.lt (Nat.le_of_eq g94.symm)))) hZ (hw _ (List.mem_of_getElem? (i := 30) rfl)) (hw _ (List.mem_of_getElem? (i := 2) rfl)) (by decide) (by decide)) q155a q155c (g := (mkF m 93 #[.val (.long p1), .second, .val (.long p2), .second, .val (.int p3), .val (.int (0 : Int32)), .val (.int (1 : Int32)), .val (.ref b80), .val (.ref b94), .val (.ref b108), .unset, .unset, .unset] [(.ref b94), (.ref b80)])) rfl (by rw [hml]; rfl) (Steps.refl _) (argsL := [(.ref b94)]) (rest := []) (lenOf pd__Lcom_example_tideshift_tideshift_cli_LatencyHistogram__V rfl) rfl (by show 2 * 0 + _ ≤ _; exact Nat.le_of_eq rfl) (hb hby at_93) (fun _ _ => ⟨rfl, e139, (by decide : 6 + 0 ≤ _), (by decide : 11142 + 0 ≤ _)⟩)
      dsimp only [Pt.U, Pt.locs, Pt.cells, Pt.slots] at X155' l155 y155 z155 st155 hQ155
      subst l155 y155 z155
      obtain ⟨h155, e155⟩ : ∃ z, T155.heap = z := ⟨_, rfl⟩
      rw [e155] at hQ155
      obtain ⟨rfl, N155q, Kc155, f156, f157, f158⟩ := hQ155
      obtain ⟨lc155, X155, N155⟩ : ∃ lc, Stand p l e room_1 s m #[(.long p1), (.long p2), (.int p3)] below meth c T155 lc 6 11142 ∧ Fr n0 lc := ⟨_, X155', Fr.app N139 N155q⟩
      have K159 : Gx p e below s₁ f0 T155 (mkF m 96 #[.val (.long p1), .second, .val (.long p2), .second, .val (.int p3), .val (.int (0 : Int32)), .val (.int (1 : Int32)), .val (.ref b80), .val (.ref b94), .val (.ref b108), .unset, .unset, .unset] []) := fun t kt => K145 t (st155.trans kt)
      have f160 : Fld Z h155 b94 "com/example/tideshift/tideshift/cli/LatencyHistogram" "counts" "[J" (.ref va_100) := (f149.keep Kc155 (ninS (Ne.symm (Nat.ne_of_lt (Nat.lt_of_lt_of_le f88.lt (Nat.le_of_eq g94.symm)))) (ninS (Ne.symm (Nat.ne_of_lt (Nat.lt_of_lt_of_le f91.lt (Nat.le_of_eq g94.symm)))) nin0)))
      have f161 : Fld Z h155 b108 "com/example/tideshift/tideshift/cli/LatencyHistogram" "counts" "[J" (.ref va_114) := (f141.keep Kc155 (ninS (Ne.symm (Nat.ne_of_lt (Nat.lt_of_lt_of_le ((f88.ext E94).keep Kc100).lt (Nat.le_of_eq g108.symm)))) (ninS (Ne.symm (Nat.ne_of_lt (Nat.lt_of_lt_of_le ((f91.ext E94).keep Kc100 (ninS (Nat.ne_of_lt (Nat.lt_of_lt_of_le f91.lt (Nat.le_of_eq g94.symm))) nin0)).lt (Nat.le_of_eq g108.symm)))) nin0)))
      have f162 : Arv Z h155 va_86 ka_86 .long (3712 : Int32) (tab (upd (bk p2) zF)) (.long (0 : Int64)) := by rw [← addU0 (bk p2)]; exact f158
      have K163 : Gx p e below s₁ f0 T155 (mkF m 121 #[.val (.long p1), .second, .val (.long p2), .second, .val (.int p3), .val (.int (0 : Int32)), .val (.int (1 : Int32)), .val (.ref b80), .val (.ref b94), .val (.ref b108), .val (.long (1 : Int64)), .second, .unset] [(.ref b80)]) := fun t kt => K159 t (by
        show Steps p.tables e below (T155.setTop (mkF m 96 #[.val (.long p1), .second, .val (.long p2), .second, .val (.int p3), .val (.int (0 : Int32)), .val (.int (1 : Int32)), .val (.ref b80), .val (.ref b94), .val (.ref b108), .unset, .unset, .unset] [])) _
        refine XS.iload X155.here hx rfl (hb hby at_96) rfl ?_
        show Steps p.tables e below (T155.setTop (mkF m 98 #[.val (.long p1), .second, .val (.long p2), .second, .val (.int p3), .val (.int (0 : Int32)), .val (.int (1 : Int32)), .val (.ref b80), .val (.ref b94), .val (.ref b108), .unset, .unset, .unset] [(.int (0 : Int32))])) _
        refine XS.ifYes X155.here hx rfl (pc0 := 98) (pc' := 105) rfl (hb hby at_98) rfl ((if0 _ _).trans (teq (by decide)).1) (by decide) (by decide) ?_
        show Steps p.tables e below (T155.setTop (mkF m 105 #[.val (.long p1), .second, .val (.long p2), .second, .val (.int p3), .val (.int (0 : Int32)), .val (.int (1 : Int32)), .val (.ref b80), .val (.ref b94), .val (.ref b108), .unset, .unset, .unset] [])) _
        refine XS.lconst X155.here hx rfl (hb hby at_105) ?_
        show Steps p.tables e below (T155.setTop (mkF m 106 #[.val (.long p1), .second, .val (.long p2), .second, .val (.int p3), .val (.int (0 : Int32)), .val (.int (1 : Int32)), .val (.ref b80), .val (.ref b94), .val (.ref b108), .unset, .unset, .unset] [(.long (0 : Int64))])) _
        refine XS.iload X155.here hx rfl (hb hby at_106) rfl ?_
        show Steps p.tables e below (T155.setTop (mkF m 108 #[.val (.long p1), .second, .val (.long p2), .second, .val (.int p3), .val (.int (0 : Int32)), .val (.int (1 : Int32)), .val (.ref b80), .val (.ref b94), .val (.ref b108), .unset, .unset, .unset] [(.int (1 : Int32)), (.long (0 : Int64))])) _
        refine XS.ifNo X155.here hx rfl (hb hby at_108) rfl ((if0 _ _).trans (feq (by decide)).1) ?_
        show Steps p.tables e below (T155.setTop (mkF m 111 #[.val (.long p1), .second, .val (.long p2), .second, .val (.int p3), .val (.int (0 : Int32)), .val (.int (1 : Int32)), .val (.ref b80), .val (.ref b94), .val (.ref b108), .unset, .unset, .unset] [(.long (0 : Int64))])) _
        refine XS.lconst X155.here hx rfl (hb hby at_111) ?_
        show Steps p.tables e below (T155.setTop (mkF m 112 #[.val (.long p1), .second, .val (.long p2), .second, .val (.int p3), .val (.int (0 : Int32)), .val (.int (1 : Int32)), .val (.ref b80), .val (.ref b94), .val (.ref b108), .unset, .unset, .unset] [(.long (1 : Int64)), (.long (0 : Int64))])) _
        refine XS.goto X155.here hx rfl (pc0 := 112) (pc' := 116) rfl (hb hby at_112) (by decide) (by decide) ?_
        show Steps p.tables e below (T155.setTop (mkF m 116 #[.val (.long p1), .second, .val (.long p2), .second, .val (.int p3), .val (.int (0 : Int32)), .val (.int (1 : Int32)), .val (.ref b80), .val (.ref b94), .val (.ref b108), .unset, .unset, .unset] [(.long (1 : Int64)), (.long (0 : Int64))])) _
        refine XS.ladd X155.here hx rfl (hb hby at_116) rfl ?_
        show Steps p.tables e below (T155.setTop (mkF m 117 #[.val (.long p1), .second, .val (.long p2), .second, .val (.int p3), .val (.int (0 : Int32)), .val (.int (1 : Int32)), .val (.ref b80), .val (.ref b94), .val (.ref b108), .unset, .unset, .unset] [(.long (1 : Int64))])) _
        refine XS.lstore X155.here hx rfl (hb hby at_117) rfl (l' := #[.val (.long p1), .second, .val (.long p2), .second, .val (.int p3), .val (.int (0 : Int32)), .val (.int (1 : Int32)), .val (.ref b80), .val (.ref b94), .val (.ref b108), .val (.long (1 : Int64)), .second, .unset]) rfl ?_
        show Steps p.tables e below (T155.setTop (mkF m 119 #[.val (.long p1), .second, .val (.long p2), .second, .val (.int p3), .val (.int (0 : Int32)), .val (.int (1 : Int32)), .val (.ref b80), .val (.ref b94), .val (.ref b108), .val (.long (1 : Int64)), .second, .unset] [])) _
        refine XS.aload X155.here hx rfl (hb hby at_119) rfl rfl ?_
        exact kt)
      have kp164 : Keep h0 h155 [] := (Keep.trans kp154 Kc155 (allS (Or.inr (Nat.le_trans (Keep.refl h0 []).1 (Nat.le_of_eq g80.symm))) (allS (Or.inr (Nat.le_trans kp85.1 f87)) all0)))
      have f166 : Exa Z h155 b80 "com/example/tideshift/tideshift/cli/LatencyHistogram" := (f146.keep Kc155)
      obtain ⟨cq165, kq165, q165a, q165b, q165c⟩ := isOf hZ e155 f166
      obtain ⟨_, _, ⟨T165, L165, k165, n165⟩, -, X165', ⟨Lc165, hQ165, l165, y165, z165⟩, st165⟩ := X155.virtualBack hx (y := (⟨"com/example/tideshift/tideshift/cli/LatencyHistogram", "count", "()J"⟩ : MethodName)) (z := (⟨"com/example/tideshift/tideshift/cli/LatencyHistogram", "count", "()J"⟩ : MethodName)) hown (mvT hZ (hw _ (List.mem_of_getElem? (i := 33) rfl))) (mvT hZ (hw _ (List.mem_of_getElem? (i := 34) rfl))) (notFace_of_selects (args := #[]) (mvT hZ (hw _ (List.mem_of_getElem? (i := 36) rfl)))) (mvT hZ (hw _ (List.mem_of_getElem? (i := 36) rfl))) (mvT hZ (hw _ (List.mem_of_getElem? (i := 35) rfl))) (by decide) (backOf (W := 0) (rmCnt l Z a0 hw [] b80 (1 : Int64) h155 n0 (Nat.le_trans Z0 kp164.1) f157) hZ (hw _ (List.mem_of_getElem? (i := 37) rfl)) (hw _ (List.mem_of_getElem? (i := 2) rfl)) (by decide) (by decide)) q165a q165c (g := (mkF m 121 #[.val (.long p1), .second, .val (.long p2), .second, .val (.int p3), .val (.int (0 : Int32)), .val (.int (1 : Int32)), .val (.ref b80), .val (.ref b94), .val (.ref b108), .val (.long (1 : Int64)), .second, .unset] [(.ref b80)])) rfl (by rw [hml]; rfl) (Steps.refl _) (argsL := []) (rest := []) (lenOf pd___J rfl) rfl (by show 2 * 0 + _ ≤ _; exact Nat.le_of_eq rfl) (hb hby at_121) (fun _ _ => ⟨rfl, e155, (by decide : 6 + 0 ≤ _), (by decide : 11142 + 0 ≤ _)⟩)
      dsimp only [Pt.U, Pt.locs, Pt.cells, Pt.slots] at X165' l165 y165 z165 st165 hQ165
      subst l165 y165 z165
      obtain ⟨rfl, N165q, e165⟩ := hQ165
      obtain ⟨lc165, X165, N165⟩ : ∃ lc, Stand p l e room_1 s m #[(.long p1), (.long p2), (.int p3)] below meth c T165 lc 6 11142 ∧ Fr n0 lc := ⟨_, X165', Fr.app N155 N165q⟩
      have K167 : Gx p e below s₁ f0 T165 (mkF m 124 #[.val (.long p1), .second, .val (.long p2), .second, .val (.int p3), .val (.int (0 : Int32)), .val (.int (1 : Int32)), .val (.ref b80), .val (.ref b94), .val (.ref b108), .val (.long (1 : Int64)), .second, .unset] [(.long (1 : Int64))]) := fun t kt => K163 t (st165.trans kt)
      have K168 : Gx p e below s₁ f0 T165 (mkF m 132 #[.val (.long p1), .second, .val (.long p2), .second, .val (.int p3), .val (.int (0 : Int32)), .val (.int (1 : Int32)), .val (.ref b80), .val (.ref b94), .val (.ref b108), .val (.long (1 : Int64)), .second, .unset] [(.ref b94)]) := fun t kt => K167 t (by
        show Steps p.tables e below (T165.setTop (mkF m 124 #[.val (.long p1), .second, .val (.long p2), .second, .val (.int p3), .val (.int (0 : Int32)), .val (.int (1 : Int32)), .val (.ref b80), .val (.ref b94), .val (.ref b108), .val (.long (1 : Int64)), .second, .unset] [(.long (1 : Int64))])) _
        refine XS.lload X165.here hx rfl (hb hby at_124) rfl ?_
        show Steps p.tables e below (T165.setTop (mkF m 126 #[.val (.long p1), .second, .val (.long p2), .second, .val (.int p3), .val (.int (0 : Int32)), .val (.int (1 : Int32)), .val (.ref b80), .val (.ref b94), .val (.ref b108), .val (.long (1 : Int64)), .second, .unset] [(.long (1 : Int64)), (.long (1 : Int64))])) _
        refine XS.lcmp X165.here hx rfl (hb hby at_126) rfl ?_
        show Steps p.tables e below (T165.setTop (mkF m 127 #[.val (.long p1), .second, .val (.long p2), .second, .val (.int p3), .val (.int (0 : Int32)), .val (.int (1 : Int32)), .val (.ref b80), .val (.ref b94), .val (.ref b108), .val (.long (1 : Int64)), .second, .unset] [(.int (lcmpW (1 : Int64) (1 : Int64)))])) _
        refine XS.ifNo X165.here hx rfl (hb hby at_127) rfl ((if0 _ _).trans (teq (by decide)).2) ?_
        show Steps p.tables e below (T165.setTop (mkF m 130 #[.val (.long p1), .second, .val (.long p2), .second, .val (.int p3), .val (.int (0 : Int32)), .val (.int (1 : Int32)), .val (.ref b80), .val (.ref b94), .val (.ref b108), .val (.long (1 : Int64)), .second, .unset] [])) _
        refine XS.aload X165.here hx rfl (hb hby at_130) rfl rfl ?_
        exact kt)
      have f169 : Fld Z h155 b94 "com/example/tideshift/tideshift/cli/LatencyHistogram" "count" "J" (.long (1 : Int64)) := (f153.keep Kc155 (ninS (Ne.symm (Nat.ne_of_lt (Nat.lt_of_lt_of_le f88.lt (Nat.le_of_eq g94.symm)))) (ninS (Ne.symm (Nat.ne_of_lt (Nat.lt_of_lt_of_le f91.lt (Nat.le_of_eq g94.symm)))) nin0)))
      have f171 : Exa Z h155 b94 "com/example/tideshift/tideshift/cli/LatencyHistogram" := (f147.keep Kc155)
      obtain ⟨cq170, kq170, q170a, q170b, q170c⟩ := isOf hZ e165 f171
      obtain ⟨_, _, ⟨T170, L170, k170, n170⟩, -, X170', ⟨Lc170, hQ170, l170, y170, z170⟩, st170⟩ := X165.virtualBack hx (y := (⟨"com/example/tideshift/tideshift/cli/LatencyHistogram", "count", "()J"⟩ : MethodName)) (z := (⟨"com/example/tideshift/tideshift/cli/LatencyHistogram", "count", "()J"⟩ : MethodName)) hown (mvT hZ (hw _ (List.mem_of_getElem? (i := 33) rfl))) (mvT hZ (hw _ (List.mem_of_getElem? (i := 34) rfl))) (notFace_of_selects (args := #[]) (mvT hZ (hw _ (List.mem_of_getElem? (i := 36) rfl)))) (mvT hZ (hw _ (List.mem_of_getElem? (i := 36) rfl))) (mvT hZ (hw _ (List.mem_of_getElem? (i := 35) rfl))) (by decide) (backOf (W := 0) (rmCnt l Z a0 hw [] b94 (1 : Int64) h155 n0 (Nat.le_trans Z0 kp164.1) f169) hZ (hw _ (List.mem_of_getElem? (i := 37) rfl)) (hw _ (List.mem_of_getElem? (i := 2) rfl)) (by decide) (by decide)) q170a q170c (g := (mkF m 132 #[.val (.long p1), .second, .val (.long p2), .second, .val (.int p3), .val (.int (0 : Int32)), .val (.int (1 : Int32)), .val (.ref b80), .val (.ref b94), .val (.ref b108), .val (.long (1 : Int64)), .second, .unset] [(.ref b94)])) rfl (by rw [hml]; rfl) (Steps.refl _) (argsL := []) (rest := []) (lenOf pd___J rfl) rfl (by show 2 * 0 + _ ≤ _; exact Nat.le_of_eq rfl) (hb hby at_132) (fun _ _ => ⟨rfl, e165, (by decide : 6 + 0 ≤ _), (by decide : 11142 + 0 ≤ _)⟩)
      dsimp only [Pt.U, Pt.locs, Pt.cells, Pt.slots] at X170' l170 y170 z170 st170 hQ170
      subst l170 y170 z170
      obtain ⟨rfl, N170q, e170⟩ := hQ170
      obtain ⟨lc170, X170, N170⟩ : ∃ lc, Stand p l e room_1 s m #[(.long p1), (.long p2), (.int p3)] below meth c T170 lc 6 11142 ∧ Fr n0 lc := ⟨_, X170', Fr.app N165 N170q⟩
      have K172 : Gx p e below s₁ f0 T170 (mkF m 135 #[.val (.long p1), .second, .val (.long p2), .second, .val (.int p3), .val (.int (0 : Int32)), .val (.int (1 : Int32)), .val (.ref b80), .val (.ref b94), .val (.ref b108), .val (.long (1 : Int64)), .second, .unset] [(.long (1 : Int64))]) := fun t kt => K168 t (st170.trans kt)
      have K173 : Gx p e below s₁ f0 T170 (mkF m 163 #[.val (.long p1), .second, .val (.long p2), .second, .val (.int p3), .val (.int (0 : Int32)), .val (.int (1 : Int32)), .val (.ref b80), .val (.ref b94), .val (.ref b108), .val (.long (1 : Int64)), .second, .val (.int (1 : Int32))] []) := fun t kt => K172 t (by
        show Steps p.tables e below (T170.setTop (mkF m 135 #[.val (.long p1), .second, .val (.long p2), .second, .val (.int p3), .val (.int (0 : Int32)), .val (.int (1 : Int32)), .val (.ref b80), .val (.ref b94), .val (.ref b108), .val (.long (1 : Int64)), .second, .unset] [(.long (1 : Int64))])) _
        refine XS.iload X170.here hx rfl (hb hby at_135) rfl ?_
        show Steps p.tables e below (T170.setTop (mkF m 137 #[.val (.long p1), .second, .val (.long p2), .second, .val (.int p3), .val (.int (0 : Int32)), .val (.int (1 : Int32)), .val (.ref b80), .val (.ref b94), .val (.ref b108), .val (.long (1 : Int64)), .second, .unset] [(.int (1 : Int32)), (.long (1 : Int64))])) _
        refine XS.ifNo X170.here hx rfl (hb hby at_137) rfl ((if0 _ _).trans (feq (by decide)).1) ?_
        show Steps p.tables e below (T170.setTop (mkF m 140 #[.val (.long p1), .second, .val (.long p2), .second, .val (.int p3), .val (.int (0 : Int32)), .val (.int (1 : Int32)), .val (.ref b80), .val (.ref b94), .val (.ref b108), .val (.long (1 : Int64)), .second, .unset] [(.long (1 : Int64))])) _
        refine XS.lconst X170.here hx rfl (hb hby at_140) ?_
        show Steps p.tables e below (T170.setTop (mkF m 141 #[.val (.long p1), .second, .val (.long p2), .second, .val (.int p3), .val (.int (0 : Int32)), .val (.int (1 : Int32)), .val (.ref b80), .val (.ref b94), .val (.ref b108), .val (.long (1 : Int64)), .second, .unset] [(.long (1 : Int64)), (.long (1 : Int64))])) _
        refine XS.goto X170.here hx rfl (pc0 := 141) (pc' := 145) rfl (hb hby at_141) (by decide) (by decide) ?_
        show Steps p.tables e below (T170.setTop (mkF m 145 #[.val (.long p1), .second, .val (.long p2), .second, .val (.int p3), .val (.int (0 : Int32)), .val (.int (1 : Int32)), .val (.ref b80), .val (.ref b94), .val (.ref b108), .val (.long (1 : Int64)), .second, .unset] [(.long (1 : Int64)), (.long (1 : Int64))])) _
        refine XS.lcmp X170.here hx rfl (hb hby at_145) rfl ?_
        show Steps p.tables e below (T170.setTop (mkF m 146 #[.val (.long p1), .second, .val (.long p2), .second, .val (.int p3), .val (.int (0 : Int32)), .val (.int (1 : Int32)), .val (.ref b80), .val (.ref b94), .val (.ref b108), .val (.long (1 : Int64)), .second, .unset] [(.int (lcmpW (1 : Int64) (1 : Int64)))])) _
        refine XS.ifNo X170.here hx rfl (hb hby at_146) rfl ((if0 _ _).trans (teq (by decide)).2) ?_
        show Steps p.tables e below (T170.setTop (mkF m 149 #[.val (.long p1), .second, .val (.long p2), .second, .val (.int p3), .val (.int (0 : Int32)), .val (.int (1 : Int32)), .val (.ref b80), .val (.ref b94), .val (.ref b108), .val (.long (1 : Int64)), .second, .unset] [])) _
        refine XS.iconst X170.here hx rfl (hb hby at_149) ?_
        show Steps p.tables e below (T170.setTop (mkF m 150 #[.val (.long p1), .second, .val (.long p2), .second, .val (.int p3), .val (.int (0 : Int32)), .val (.int (1 : Int32)), .val (.ref b80), .val (.ref b94), .val (.ref b108), .val (.long (1 : Int64)), .second, .unset] [(.int (1 : Int32))])) _
        refine XS.goto X170.here hx rfl (pc0 := 150) (pc' := 154) rfl (hb hby at_150) (by decide) (by decide) ?_
        show Steps p.tables e below (T170.setTop (mkF m 154 #[.val (.long p1), .second, .val (.long p2), .second, .val (.int p3), .val (.int (0 : Int32)), .val (.int (1 : Int32)), .val (.ref b80), .val (.ref b94), .val (.ref b108), .val (.long (1 : Int64)), .second, .unset] [(.int (1 : Int32))])) _
        refine XS.istore X170.here hx rfl (hb hby at_154) rfl (l' := #[.val (.long p1), .second, .val (.long p2), .second, .val (.int p3), .val (.int (0 : Int32)), .val (.int (1 : Int32)), .val (.ref b80), .val (.ref b94), .val (.ref b108), .val (.long (1 : Int64)), .second, .val (.int (1 : Int32))]) rfl ?_
        show Steps p.tables e below (T170.setTop (mkF m 156 #[.val (.long p1), .second, .val (.long p2), .second, .val (.int p3), .val (.int (0 : Int32)), .val (.int (1 : Int32)), .val (.ref b80), .val (.ref b94), .val (.ref b108), .val (.long (1 : Int64)), .second, .val (.int (1 : Int32))] [])) _
        refine XS.iload X170.here hx rfl (hb hby at_156) rfl ?_
        show Steps p.tables e below (T170.setTop (mkF m 158 #[.val (.long p1), .second, .val (.long p2), .second, .val (.int p3), .val (.int (0 : Int32)), .val (.int (1 : Int32)), .val (.ref b80), .val (.ref b94), .val (.ref b108), .val (.long (1 : Int64)), .second, .val (.int (1 : Int32))] [(.int (1 : Int32))])) _
        refine XS.ifYes X170.here hx rfl (pc0 := 158) (pc' := 163) rfl (hb hby at_158) rfl ((if0 _ _).trans (feq (by decide)).2) (by decide) (by decide) ?_
        exact kt)
      obtain ⟨Jq0, hJq0, hJa0, hJb0⟩ := own_find (upd (bk p2) zF) (1 : Int64) (by rw [prf1 p2]; decide)
      have K174 : Gx p e below s₁ f0 T170 (mkF m 166 #[.val (.long p1), .second, .val (.long p2), .second, .val (.int p3), .val (.int (0 : Int32)), .val (.int (1 : Int32)), .val (.ref b80), .val (.ref b94), .val (.ref b108), .val (.long (1 : Int64)), .second, .val (.int (1 : Int32))] [(.double (0 : UInt64)), (.ref b80)]) := fun t kt => K173 t (by
        show Steps p.tables e below (T170.setTop (mkF m 163 #[.val (.long p1), .second, .val (.long p2), .second, .val (.int p3), .val (.int (0 : Int32)), .val (.int (1 : Int32)), .val (.ref b80), .val (.ref b94), .val (.ref b108), .val (.long (1 : Int64)), .second, .val (.int (1 : Int32))] [])) _
        refine XS.aload X170.here hx rfl (hb hby at_163) rfl rfl ?_
        show Steps p.tables e below (T170.setTop (mkF m 165 #[.val (.long p1), .second, .val (.long p2), .second, .val (.int p3), .val (.int (0 : Int32)), .val (.int (1 : Int32)), .val (.ref b80), .val (.ref b94), .val (.ref b108), .val (.long (1 : Int64)), .second, .val (.int (1 : Int32))] [(.ref b80)])) _
        refine XS.dconst0 X170.here hx rfl (hb hby at_165) (v := (0 : UInt64)) (by decide +kernel) ?_
        exact kt)
      have f175 : Old Z n0 h155 := (((((((((pr0.ext E80).keep Kc86 (allS (Nat.le_trans Z0 (Nat.le_trans (Keep.refl h0 []).1 (Nat.le_of_eq g80.symm))) all0)).ext E94).keep Kc100 (allS (Nat.le_trans Z0 (Nat.le_trans (Keep.trans kp85 Kc86 (allS (Or.inr (Nat.le_trans (Keep.refl h0 []).1 (Nat.le_of_eq g80.symm))) all0)).1 (Nat.le_of_eq g94.symm))) all0)).ext E108).keep Kc114 (allS (Nat.le_trans Z0 (Nat.le_trans (Keep.trans kp99 Kc100 (allS (Or.inr (Nat.le_trans (Keep.trans kp85 Kc86 (allS (Or.inr (Nat.le_trans (Keep.refl h0 []).1 (Nat.le_of_eq g80.symm))) all0)).1 (Nat.le_of_eq g94.symm))) all0)).1 (Nat.le_of_eq g108.symm))) all0)).keep Kc127 (allS (Nat.le_trans Z0 (Nat.le_trans (Keep.trans kp85 Kc86 (allS (Or.inr (Nat.le_trans (Keep.refl h0 []).1 (Nat.le_of_eq g80.symm))) all0)).1 (Nat.le_of_eq g94.symm))) (allS (Nat.le_trans Z0 (Nat.le_trans kp99.1 f101)) all0))).keep Kc139 (allS (Nat.le_trans Z0 (Nat.le_trans (Keep.trans kp99 Kc100 (allS (Or.inr (Nat.le_trans (Keep.trans kp85 Kc86 (allS (Or.inr (Nat.le_trans (Keep.refl h0 []).1 (Nat.le_of_eq g80.symm))) all0)).1 (Nat.le_of_eq g94.symm))) all0)).1 (Nat.le_of_eq g108.symm))) (allS (Nat.le_trans Z0 (Nat.le_trans kp113.1 f115)) all0))).keep Kc155 (allS (Nat.le_trans Z0 (Nat.le_trans (Keep.refl h0 []).1 (Nat.le_of_eq g80.symm))) (allS (Nat.le_trans Z0 (Nat.le_trans kp85.1 f87)) all0)))
      obtain ⟨cq176, kq176, q176a, q176b, q176c⟩ := isOf hZ e170 f166
      obtain ⟨_, _, ⟨T176, L176, k176, n176⟩, -, X176', ⟨Lc176, hQ176, l176, y176, z176⟩, st176⟩ := X170.virtualBack hx (y := (⟨"com/example/tideshift/tideshift/cli/LatencyHistogram", "quantile", "(D)D"⟩ : MethodName)) (z := (⟨"com/example/tideshift/tideshift/cli/LatencyHistogram", "quantile", "(D)D"⟩ : MethodName)) hown (mvT hZ (hw _ (List.mem_of_getElem? (i := 38) rfl))) (mvT hZ (hw _ (List.mem_of_getElem? (i := 39) rfl))) (notFace_of_selects (args := #[]) (mvT hZ (hw _ (List.mem_of_getElem? (i := 41) rfl)))) (mvT hZ (hw _ (List.mem_of_getElem? (i := 41) rfl))) (mvT hZ (hw _ (List.mem_of_getElem? (i := 40) rfl))) (by decide) (backOf (W := 0) (rmQnt10 l Z a0 hw [] b80 va_86 ka_86 (upd (bk p2) zF) Jq0 h155 n0 (Nat.le_trans Z0 kp164.1) f166 f156 f157 f162 f175 pr1 hJq0 hJa0 hJb0) hZ (hw _ (List.mem_of_getElem? (i := 42) rfl)) (hw _ (List.mem_of_getElem? (i := 2) rfl)) (by decide) (by decide)) q176a q176c (g := (mkF m 166 #[.val (.long p1), .second, .val (.long p2), .second, .val (.int p3), .val (.int (0 : Int32)), .val (.int (1 : Int32)), .val (.ref b80), .val (.ref b94), .val (.ref b108), .val (.long (1 : Int64)), .second, .val (.int (1 : Int32))] [(.double (0 : UInt64)), (.ref b80)])) rfl (by rw [hml]; rfl) (Steps.refl _) (argsL := [(.double (0 : UInt64))]) (rest := []) (lenOf pd__D_D rfl) rfl (by show 2 * 0 + _ ≤ _; exact Nat.le_of_eq rfl) (hb hby at_166) (fun _ _ => ⟨rfl, e170, (by decide : 6 + 0 ≤ _), (by decide : 11142 + 0 ≤ _)⟩)
      dsimp only [Pt.U, Pt.locs, Pt.cells, Pt.slots] at X176' l176 y176 z176 st176 hQ176
      subst l176 y176 z176
      obtain ⟨rfl, N176q, e176⟩ := hQ176
      obtain ⟨lc176, X176, N176⟩ : ∃ lc, Stand p l e room_1 s m #[(.long p1), (.long p2), (.int p3)] below meth c T176 lc 6 11142 ∧ Fr n0 lc := ⟨_, X176', Fr.app N170 N176q⟩
      have K177 : Gx p e below s₁ f0 T176 (mkF m 169 #[.val (.long p1), .second, .val (.long p2), .second, .val (.int p3), .val (.int (0 : Int32)), .val (.int (1 : Int32)), .val (.ref b80), .val (.ref b94), .val (.ref b108), .val (.long (1 : Int64)), .second, .val (.int (1 : Int32))] [(.double (midF (Int32.ofNat Jq0)))]) := fun t kt => K174 t (st176.trans kt)
      have K178 : Gx p e below s₁ f0 T176 (mkF m 172 #[.val (.long p1), .second, .val (.long p2), .second, .val (.int p3), .val (.int (0 : Int32)), .val (.int (1 : Int32)), .val (.ref b80), .val (.ref b94), .val (.ref b108), .val (.long (1 : Int64)), .second, .val (.int (1 : Int32))] [(.double (0 : UInt64)), (.ref b108), (.double (midF (Int32.ofNat Jq0)))]) := fun t kt => K177 t (by
        show Steps p.tables e below (T176.setTop (mkF m 169 #[.val (.long p1), .second, .val (.long p2), .second, .val (.int p3), .val (.int (0 : Int32)), .val (.int (1 : Int32)), .val (.ref b80), .val (.ref b94), .val (.ref b108), .val (.long (1 : Int64)), .second, .val (.int (1 : Int32))] [(.double (midF (Int32.ofNat Jq0)))])) _
        refine XS.aload X176.here hx rfl (hb hby at_169) rfl rfl ?_
        show Steps p.tables e below (T176.setTop (mkF m 171 #[.val (.long p1), .second, .val (.long p2), .second, .val (.int p3), .val (.int (0 : Int32)), .val (.int (1 : Int32)), .val (.ref b80), .val (.ref b94), .val (.ref b108), .val (.long (1 : Int64)), .second, .val (.int (1 : Int32))] [(.ref b108), (.double (midF (Int32.ofNat Jq0)))])) _
        refine XS.dconst0 X176.here hx rfl (hb hby at_171) (v := (0 : UInt64)) (by decide +kernel) ?_
        exact kt)
      have f179 : Exa Z h155 b108 "com/example/tideshift/tideshift/cli/LatencyHistogram" := (f140.keep Kc155)
      have f180 : Fld Z h155 b108 "com/example/tideshift/tideshift/cli/LatencyHistogram" "count" "J" (.long (1 : Int64)) := (f142.keep Kc155 (ninS (Ne.symm (Nat.ne_of_lt (Nat.lt_of_lt_of_le ((f88.ext E94).keep Kc100).lt (Nat.le_of_eq g108.symm)))) (ninS (Ne.symm (Nat.ne_of_lt (Nat.lt_of_lt_of_le ((f91.ext E94).keep Kc100 (ninS (Nat.ne_of_lt (Nat.lt_of_lt_of_le f91.lt (Nat.le_of_eq g94.symm))) nin0)).lt (Nat.le_of_eq g108.symm)))) nin0)))
      have f181 : Arv Z h155 va_114 ka_114 .long (3712 : Int32) (tab (upd (bk p2) zF)) (.long (0 : Int64)) := (f143.keep Kc155 (ninS (Ne.symm (Nat.ne_of_lt (Nat.lt_of_lt_of_le (((f88.ext E94).keep Kc100).ext E108).lt f115))) (ninS (Ne.symm (Nat.ne_of_lt (Nat.lt_of_lt_of_le (((f91.ext E94).keep Kc100 (ninS (Nat.ne_of_lt (Nat.lt_of_lt_of_le f91.lt (Nat.le_of_eq g94.symm))) nin0)).ext E108).lt f115))) nin0)))
      obtain ⟨cq182, kq182, q182a, q182b, q182c⟩ := isOf hZ e176 f179
      obtain ⟨_, _, ⟨T182, L182, k182, n182⟩, -, X182', ⟨Lc182, hQ182, l182, y182, z182⟩, st182⟩ := X176.virtualBack hx (y := (⟨"com/example/tideshift/tideshift/cli/LatencyHistogram", "quantile", "(D)D"⟩ : MethodName)) (z := (⟨"com/example/tideshift/tideshift/cli/LatencyHistogram", "quantile", "(D)D"⟩ : MethodName)) hown (mvT hZ (hw _ (List.mem_of_getElem? (i := 38) rfl))) (mvT hZ (hw _ (List.mem_of_getElem? (i := 39) rfl))) (notFace_of_selects (args := #[]) (mvT hZ (hw _ (List.mem_of_getElem? (i := 41) rfl)))) (mvT hZ (hw _ (List.mem_of_getElem? (i := 41) rfl))) (mvT hZ (hw _ (List.mem_of_getElem? (i := 40) rfl))) (by decide) (backOf (W := 2) (rmQnt10 l Z a0 hw [] b108 va_114 ka_114 (upd (bk p2) zF) Jq0 h155 n0 (Nat.le_trans Z0 kp164.1) f179 f161 f180 f181 f175 pr1 hJq0 hJa0 hJb0) hZ (hw _ (List.mem_of_getElem? (i := 42) rfl)) (hw _ (List.mem_of_getElem? (i := 2) rfl)) (by decide) (by decide)) q182a q182c (g := (mkF m 172 #[.val (.long p1), .second, .val (.long p2), .second, .val (.int p3), .val (.int (0 : Int32)), .val (.int (1 : Int32)), .val (.ref b80), .val (.ref b94), .val (.ref b108), .val (.long (1 : Int64)), .second, .val (.int (1 : Int32))] [(.double (0 : UInt64)), (.ref b108), (.double (midF (Int32.ofNat Jq0)))])) rfl (by rw [hml]; rfl) (Steps.refl _) (argsL := [(.double (0 : UInt64))]) (rest := [(.double (midF (Int32.ofNat Jq0)))]) (lenOf pd__D_D rfl) rfl (by show 2 * 0 + _ ≤ _; exact Nat.le_of_eq rfl) (hb hby at_172) (fun _ _ => ⟨rfl, e176, (by decide : 6 + 0 ≤ _), (by decide : 11142 + 0 ≤ _)⟩)
      dsimp only [Pt.U, Pt.locs, Pt.cells, Pt.slots] at X182' l182 y182 z182 st182 hQ182
      subst l182 y182 z182
      obtain ⟨rfl, N182q, e182⟩ := hQ182
      obtain ⟨lc182, X182, N182⟩ : ∃ lc, Stand p l e room_1 s m #[(.long p1), (.long p2), (.int p3)] below meth c T182 lc 6 11142 ∧ Fr n0 lc := ⟨_, X182', Fr.app N176 N182q⟩
      have K183 : Gx p e below s₁ f0 T182 (mkF m 175 #[.val (.long p1), .second, .val (.long p2), .second, .val (.int p3), .val (.int (0 : Int32)), .val (.int (1 : Int32)), .val (.ref b80), .val (.ref b94), .val (.ref b108), .val (.long (1 : Int64)), .second, .val (.int (1 : Int32))] [(.double (midF (Int32.ofNat Jq0))), (.double (midF (Int32.ofNat Jq0)))]) := fun t kt => K178 t (st182.trans kt)
      obtain ⟨_, _, ⟨T184, L184, k184, n184⟩, -, X184', ⟨Lc184, hQ184, l184, y184, z184⟩, st184⟩ := Jvm.LawKit.callS X182 hx (y := (⟨"com/example/tideshift/tideshift/cli/LatencyHistogramAddPinLaw", "same", "(DD)Z"⟩ : MethodName)) hown (mvT hZ (hw _ (List.mem_of_getElem? (i := 44) rfl))) (mvT hZ (hw _ (List.mem_of_getElem? (i := 45) rfl))) (mvT hZ (hw _ (List.mem_of_getElem? (i := 46) rfl))) (mvT hZ (hw _ (List.mem_of_getElem? (i := 47) rfl))) (by decide) (backOf (W := 0) (rmSam l Z a0 hw [] (midF (Int32.ofNat Jq0)) h155 n0 (Nat.le_trans Z0 kp164.1) ) hZ (hw _ (List.mem_of_getElem? (i := 47) rfl)) (hw _ (List.mem_of_getElem? (i := 46) rfl)) (by decide) (by decide)) (g := (mkF m 175 #[.val (.long p1), .second, .val (.long p2), .second, .val (.int p3), .val (.int (0 : Int32)), .val (.int (1 : Int32)), .val (.ref b80), .val (.ref b94), .val (.ref b108), .val (.long (1 : Int64)), .second, .val (.int (1 : Int32))] [(.double (midF (Int32.ofNat Jq0))), (.double (midF (Int32.ofNat Jq0)))])) rfl (by rw [hml]; rfl) (argsL := [(.double (midF (Int32.ofNat Jq0))), (.double (midF (Int32.ofNat Jq0)))]) (rest := []) (lenOf pd__DD_Z rfl) rfl (by show 2 * 0 + _ ≤ _; exact Nat.le_of_eq rfl) (hb hby at_175) (fun _ _ => ⟨rfl, e182, (by decide : 6 + 0 ≤ _), (by decide : 11142 + 0 ≤ _)⟩)
      dsimp only [Pt.U, Pt.locs, Pt.cells, Pt.slots] at X184' l184 y184 z184 st184 hQ184
      subst l184 y184 z184
      obtain ⟨rfl, N184q, e184⟩ := hQ184
      obtain ⟨lc184, X184, N184⟩ : ∃ lc, Stand p l e room_1 s m #[(.long p1), (.long p2), (.int p3)] below meth c T184 lc 6 11142 ∧ Fr n0 lc := ⟨_, X184', Fr.app N182 N184q⟩
      have K185 : Gx p e below s₁ f0 T184 (mkF m 178 #[.val (.long p1), .second, .val (.long p2), .second, .val (.int p3), .val (.int (0 : Int32)), .val (.int (1 : Int32)), .val (.ref b80), .val (.ref b94), .val (.ref b108), .val (.long (1 : Int64)), .second, .val (.int (1 : Int32))] [(.int (1 : Int32))]) := fun t kt => K183 t (st184 t kt)
      have K186 : Gx p e below s₁ f0 T184 (mkF m 181 #[.val (.long p1), .second, .val (.long p2), .second, .val (.int p3), .val (.int (0 : Int32)), .val (.int (1 : Int32)), .val (.ref b80), .val (.ref b94), .val (.ref b108), .val (.long (1 : Int64)), .second, .val (.int (1 : Int32))] []) := fun t kt => K185 t (by
        show Steps p.tables e below (T184.setTop (mkF m 178 #[.val (.long p1), .second, .val (.long p2), .second, .val (.int p3), .val (.int (0 : Int32)), .val (.int (1 : Int32)), .val (.ref b80), .val (.ref b94), .val (.ref b108), .val (.long (1 : Int64)), .second, .val (.int (1 : Int32))] [(.int (1 : Int32))])) _
        refine XS.ifNo X184.here hx rfl (hb hby at_178) rfl ((if0 _ _).trans (feq (by decide)).1) ?_
        exact kt)
      obtain ⟨Jq1, hJq1, hJa1, hJb1⟩ := own_find (upd (bk p2) zF) (1 : Int64) (by rw [prf1 p2]; decide)
      have K187 : Gx p e below s₁ f0 T184 (mkF m 184 #[.val (.long p1), .second, .val (.long p2), .second, .val (.int p3), .val (.int (0 : Int32)), .val (.int (1 : Int32)), .val (.ref b80), .val (.ref b94), .val (.ref b108), .val (.long (1 : Int64)), .second, .val (.int (1 : Int32))] [(.double (4607182418800017408 : UInt64)), (.ref b80)]) := fun t kt => K186 t (by
        show Steps p.tables e below (T184.setTop (mkF m 181 #[.val (.long p1), .second, .val (.long p2), .second, .val (.int p3), .val (.int (0 : Int32)), .val (.int (1 : Int32)), .val (.ref b80), .val (.ref b94), .val (.ref b108), .val (.long (1 : Int64)), .second, .val (.int (1 : Int32))] [])) _
        refine XS.aload X184.here hx rfl (hb hby at_181) rfl rfl ?_
        show Steps p.tables e below (T184.setTop (mkF m 183 #[.val (.long p1), .second, .val (.long p2), .second, .val (.int p3), .val (.int (0 : Int32)), .val (.int (1 : Int32)), .val (.ref b80), .val (.ref b94), .val (.ref b108), .val (.long (1 : Int64)), .second, .val (.int (1 : Int32))] [(.ref b80)])) _
        refine XS.dconst1 X184.here hx rfl (hb hby at_183) (v := (4607182418800017408 : UInt64)) (by decide +kernel) ?_
        exact kt)
      obtain ⟨cq188, kq188, q188a, q188b, q188c⟩ := isOf hZ e184 f166
      obtain ⟨_, _, ⟨T188, L188, k188, n188⟩, -, X188', ⟨Lc188, hQ188, l188, y188, z188⟩, st188⟩ := X184.virtualBack hx (y := (⟨"com/example/tideshift/tideshift/cli/LatencyHistogram", "quantile", "(D)D"⟩ : MethodName)) (z := (⟨"com/example/tideshift/tideshift/cli/LatencyHistogram", "quantile", "(D)D"⟩ : MethodName)) hown (mvT hZ (hw _ (List.mem_of_getElem? (i := 38) rfl))) (mvT hZ (hw _ (List.mem_of_getElem? (i := 39) rfl))) (notFace_of_selects (args := #[]) (mvT hZ (hw _ (List.mem_of_getElem? (i := 41) rfl)))) (mvT hZ (hw _ (List.mem_of_getElem? (i := 41) rfl))) (mvT hZ (hw _ (List.mem_of_getElem? (i := 40) rfl))) (by decide) (backOf (W := 0) (rmQnt11 l Z a0 hw [] b80 va_86 ka_86 (upd (bk p2) zF) Jq1 h155 n0 (Nat.le_trans Z0 kp164.1) f166 f156 f157 f162 f175 pr1 hJq1 hJa1 hJb1) hZ (hw _ (List.mem_of_getElem? (i := 42) rfl)) (hw _ (List.mem_of_getElem? (i := 2) rfl)) (by decide) (by decide)) q188a q188c (g := (mkF m 184 #[.val (.long p1), .second, .val (.long p2), .second, .val (.int p3), .val (.int (0 : Int32)), .val (.int (1 : Int32)), .val (.ref b80), .val (.ref b94), .val (.ref b108), .val (.long (1 : Int64)), .second, .val (.int (1 : Int32))] [(.double (4607182418800017408 : UInt64)), (.ref b80)])) rfl (by rw [hml]; rfl) (Steps.refl _) (argsL := [(.double (4607182418800017408 : UInt64))]) (rest := []) (lenOf pd__D_D rfl) rfl (by show 2 * 0 + _ ≤ _; exact Nat.le_of_eq rfl) (hb hby at_184) (fun _ _ => ⟨rfl, e184, (by decide : 6 + 0 ≤ _), (by decide : 11142 + 0 ≤ _)⟩)
      dsimp only [Pt.U, Pt.locs, Pt.cells, Pt.slots] at X188' l188 y188 z188 st188 hQ188
      subst l188 y188 z188
      obtain ⟨rfl, N188q, e188⟩ := hQ188
      obtain ⟨lc188, X188, N188⟩ : ∃ lc, Stand p l e room_1 s m #[(.long p1), (.long p2), (.int p3)] below meth c T188 lc 6 11142 ∧ Fr n0 lc := ⟨_, X188', Fr.app N184 N188q⟩
      have K189 : Gx p e below s₁ f0 T188 (mkF m 187 #[.val (.long p1), .second, .val (.long p2), .second, .val (.int p3), .val (.int (0 : Int32)), .val (.int (1 : Int32)), .val (.ref b80), .val (.ref b94), .val (.ref b108), .val (.long (1 : Int64)), .second, .val (.int (1 : Int32))] [(.double (midF (Int32.ofNat Jq1)))]) := fun t kt => K187 t (st188.trans kt)
      have K190 : Gx p e below s₁ f0 T188 (mkF m 190 #[.val (.long p1), .second, .val (.long p2), .second, .val (.int p3), .val (.int (0 : Int32)), .val (.int (1 : Int32)), .val (.ref b80), .val (.ref b94), .val (.ref b108), .val (.long (1 : Int64)), .second, .val (.int (1 : Int32))] [(.double (4607182418800017408 : UInt64)), (.ref b108), (.double (midF (Int32.ofNat Jq1)))]) := fun t kt => K189 t (by
        show Steps p.tables e below (T188.setTop (mkF m 187 #[.val (.long p1), .second, .val (.long p2), .second, .val (.int p3), .val (.int (0 : Int32)), .val (.int (1 : Int32)), .val (.ref b80), .val (.ref b94), .val (.ref b108), .val (.long (1 : Int64)), .second, .val (.int (1 : Int32))] [(.double (midF (Int32.ofNat Jq1)))])) _
        refine XS.aload X188.here hx rfl (hb hby at_187) rfl rfl ?_
        show Steps p.tables e below (T188.setTop (mkF m 189 #[.val (.long p1), .second, .val (.long p2), .second, .val (.int p3), .val (.int (0 : Int32)), .val (.int (1 : Int32)), .val (.ref b80), .val (.ref b94), .val (.ref b108), .val (.long (1 : Int64)), .second, .val (.int (1 : Int32))] [(.ref b108), (.double (midF (Int32.ofNat Jq1)))])) _
        refine XS.dconst1 X188.here hx rfl (hb hby at_189) (v := (4607182418800017408 : UInt64)) (by decide +kernel) ?_
        exact kt)
      obtain ⟨cq191, kq191, q191a, q191b, q191c⟩ := isOf hZ e188 f179
      obtain ⟨_, _, ⟨T191, L191, k191, n191⟩, -, X191', ⟨Lc191, hQ191, l191, y191, z191⟩, st191⟩ := X188.virtualBack hx (y := (⟨"com/example/tideshift/tideshift/cli/LatencyHistogram", "quantile", "(D)D"⟩ : MethodName)) (z := (⟨"com/example/tideshift/tideshift/cli/LatencyHistogram", "quantile", "(D)D"⟩ : MethodName)) hown (mvT hZ (hw _ (List.mem_of_getElem? (i := 38) rfl))) (mvT hZ (hw _ (List.mem_of_getElem? (i := 39) rfl))) (notFace_of_selects (args := #[]) (mvT hZ (hw _ (List.mem_of_getElem? (i := 41) rfl)))) (mvT hZ (hw _ (List.mem_of_getElem? (i := 41) rfl))) (mvT hZ (hw _ (List.mem_of_getElem? (i := 40) rfl))) (by decide) (backOf (W := 2) (rmQnt11 l Z a0 hw [] b108 va_114 ka_114 (upd (bk p2) zF) Jq1 h155 n0 (Nat.le_trans Z0 kp164.1) f179 f161 f180 f181 f175 pr1 hJq1 hJa1 hJb1) hZ (hw _ (List.mem_of_getElem? (i := 42) rfl)) (hw _ (List.mem_of_getElem? (i := 2) rfl)) (by decide) (by decide)) q191a q191c (g := (mkF m 190 #[.val (.long p1), .second, .val (.long p2), .second, .val (.int p3), .val (.int (0 : Int32)), .val (.int (1 : Int32)), .val (.ref b80), .val (.ref b94), .val (.ref b108), .val (.long (1 : Int64)), .second, .val (.int (1 : Int32))] [(.double (4607182418800017408 : UInt64)), (.ref b108), (.double (midF (Int32.ofNat Jq1)))])) rfl (by rw [hml]; rfl) (Steps.refl _) (argsL := [(.double (4607182418800017408 : UInt64))]) (rest := [(.double (midF (Int32.ofNat Jq1)))]) (lenOf pd__D_D rfl) rfl (by show 2 * 0 + _ ≤ _; exact Nat.le_of_eq rfl) (hb hby at_190) (fun _ _ => ⟨rfl, e188, (by decide : 6 + 0 ≤ _), (by decide : 11142 + 0 ≤ _)⟩)
      dsimp only [Pt.U, Pt.locs, Pt.cells, Pt.slots] at X191' l191 y191 z191 st191 hQ191
      subst l191 y191 z191
      obtain ⟨rfl, N191q, e191⟩ := hQ191
      obtain ⟨lc191, X191, N191⟩ : ∃ lc, Stand p l e room_1 s m #[(.long p1), (.long p2), (.int p3)] below meth c T191 lc 6 11142 ∧ Fr n0 lc := ⟨_, X191', Fr.app N188 N191q⟩
      have K192 : Gx p e below s₁ f0 T191 (mkF m 193 #[.val (.long p1), .second, .val (.long p2), .second, .val (.int p3), .val (.int (0 : Int32)), .val (.int (1 : Int32)), .val (.ref b80), .val (.ref b94), .val (.ref b108), .val (.long (1 : Int64)), .second, .val (.int (1 : Int32))] [(.double (midF (Int32.ofNat Jq1))), (.double (midF (Int32.ofNat Jq1)))]) := fun t kt => K190 t (st191.trans kt)
      obtain ⟨_, _, ⟨T193, L193, k193, n193⟩, -, X193', ⟨Lc193, hQ193, l193, y193, z193⟩, st193⟩ := Jvm.LawKit.callS X191 hx (y := (⟨"com/example/tideshift/tideshift/cli/LatencyHistogramAddPinLaw", "same", "(DD)Z"⟩ : MethodName)) hown (mvT hZ (hw _ (List.mem_of_getElem? (i := 44) rfl))) (mvT hZ (hw _ (List.mem_of_getElem? (i := 45) rfl))) (mvT hZ (hw _ (List.mem_of_getElem? (i := 46) rfl))) (mvT hZ (hw _ (List.mem_of_getElem? (i := 47) rfl))) (by decide) (backOf (W := 0) (rmSam l Z a0 hw [] (midF (Int32.ofNat Jq1)) h155 n0 (Nat.le_trans Z0 kp164.1) ) hZ (hw _ (List.mem_of_getElem? (i := 47) rfl)) (hw _ (List.mem_of_getElem? (i := 46) rfl)) (by decide) (by decide)) (g := (mkF m 193 #[.val (.long p1), .second, .val (.long p2), .second, .val (.int p3), .val (.int (0 : Int32)), .val (.int (1 : Int32)), .val (.ref b80), .val (.ref b94), .val (.ref b108), .val (.long (1 : Int64)), .second, .val (.int (1 : Int32))] [(.double (midF (Int32.ofNat Jq1))), (.double (midF (Int32.ofNat Jq1)))])) rfl (by rw [hml]; rfl) (argsL := [(.double (midF (Int32.ofNat Jq1))), (.double (midF (Int32.ofNat Jq1)))]) (rest := []) (lenOf pd__DD_Z rfl) rfl (by show 2 * 0 + _ ≤ _; exact Nat.le_of_eq rfl) (hb hby at_193) (fun _ _ => ⟨rfl, e191, (by decide : 6 + 0 ≤ _), (by decide : 11142 + 0 ≤ _)⟩)
      dsimp only [Pt.U, Pt.locs, Pt.cells, Pt.slots] at X193' l193 y193 z193 st193 hQ193
      subst l193 y193 z193
      obtain ⟨rfl, N193q, e193⟩ := hQ193
      obtain ⟨lc193, X193, N193⟩ : ∃ lc, Stand p l e room_1 s m #[(.long p1), (.long p2), (.int p3)] below meth c T193 lc 6 11142 ∧ Fr n0 lc := ⟨_, X193', Fr.app N191 N193q⟩
      have K194 : Gx p e below s₁ f0 T193 (mkF m 196 #[.val (.long p1), .second, .val (.long p2), .second, .val (.int p3), .val (.int (0 : Int32)), .val (.int (1 : Int32)), .val (.ref b80), .val (.ref b94), .val (.ref b108), .val (.long (1 : Int64)), .second, .val (.int (1 : Int32))] [(.int (1 : Int32))]) := fun t kt => K192 t (st193 t kt)
      have K195 : Gx p e below s₁ f0 T193 (mkF m 204 #[.val (.long p1), .second, .val (.long p2), .second, .val (.int p3), .val (.int (0 : Int32)), .val (.int (1 : Int32)), .val (.ref b80), .val (.ref b94), .val (.ref b108), .val (.long (1 : Int64)), .second, .val (.int (1 : Int32))] [(.int (1 : Int32))]) := fun t kt => K194 t (by
        show Steps p.tables e below (T193.setTop (mkF m 196 #[.val (.long p1), .second, .val (.long p2), .second, .val (.int p3), .val (.int (0 : Int32)), .val (.int (1 : Int32)), .val (.ref b80), .val (.ref b94), .val (.ref b108), .val (.long (1 : Int64)), .second, .val (.int (1 : Int32))] [(.int (1 : Int32))])) _
        refine XS.ifNo X193.here hx rfl (hb hby at_196) rfl ((if0 _ _).trans (feq (by decide)).1) ?_
        show Steps p.tables e below (T193.setTop (mkF m 199 #[.val (.long p1), .second, .val (.long p2), .second, .val (.int p3), .val (.int (0 : Int32)), .val (.int (1 : Int32)), .val (.ref b80), .val (.ref b94), .val (.ref b108), .val (.long (1 : Int64)), .second, .val (.int (1 : Int32))] [])) _
        refine XS.iconst X193.here hx rfl (hb hby at_199) ?_
        show Steps p.tables e below (T193.setTop (mkF m 200 #[.val (.long p1), .second, .val (.long p2), .second, .val (.int p3), .val (.int (0 : Int32)), .val (.int (1 : Int32)), .val (.ref b80), .val (.ref b94), .val (.ref b108), .val (.long (1 : Int64)), .second, .val (.int (1 : Int32))] [(.int (1 : Int32))])) _
        refine XS.goto X193.here hx rfl (pc0 := 200) (pc' := 204) rfl (hb hby at_200) (by decide) (by decide) ?_
        exact kt)
      obtain ⟨fs196, hr196, hrun196, hended196, hW196, hsame196⟩ := X193.leave (v := some (.int (1 : Int32))) (fun h => by rw [Bd.returns] at h; cases h)
      refine ⟨_, _, pre0 _ (K195 _ ?_), hrun196, hended196, _, _, rfl, ?_, ⟨_, rfl⟩, hW196, hsame196.mono (by decide) (by decide)⟩
      · exact retN X193 hx (t := .boolean) Bd.returns (by simp) (hb hby at_204) hr196
      · show Q0 Z p1 p2 p3 h0 n0 _ T193.heap _
        rw [e193]
        exact ⟨rfl, N193⟩
  · skip
    have K197 : Gx p e below s₁ f0 s₁ (mkF m 18 #[.val (.long p1), .second, .val (.long p2), .second, .val (.int p3), .val (.int (1 : Int32)), .unset, .unset, .unset, .unset, .unset, .unset, .unset] [(.int (p3 &&& (2 : Int32)))]) := fun t kt => K1 t (by
      show Steps p.tables e below (s₁.setTop (mkF m 4 #[.val (.long p1), .second, .val (.long p2), .second, .val (.int p3), .unset, .unset, .unset, .unset, .unset, .unset, .unset, .unset] [(.int (p3 &&& (1 : Int32)))])) _
      refine XS.ifNo X0.here hx rfl (hb hby at_4) rfl ((if0 _ _).trans (feq hb2).1) ?_
      show Steps p.tables e below (s₁.setTop (mkF m 7 #[.val (.long p1), .second, .val (.long p2), .second, .val (.int p3), .unset, .unset, .unset, .unset, .unset, .unset, .unset, .unset] [])) _
      refine XS.iconst X0.here hx rfl (hb hby at_7) ?_
      show Steps p.tables e below (s₁.setTop (mkF m 8 #[.val (.long p1), .second, .val (.long p2), .second, .val (.int p3), .unset, .unset, .unset, .unset, .unset, .unset, .unset, .unset] [(.int (1 : Int32))])) _
      refine XS.goto X0.here hx rfl (pc0 := 8) (pc' := 12) rfl (hb hby at_8) (by decide) (by decide) ?_
      show Steps p.tables e below (s₁.setTop (mkF m 12 #[.val (.long p1), .second, .val (.long p2), .second, .val (.int p3), .unset, .unset, .unset, .unset, .unset, .unset, .unset, .unset] [(.int (1 : Int32))])) _
      refine XS.istore X0.here hx rfl (hb hby at_12) rfl (l' := #[.val (.long p1), .second, .val (.long p2), .second, .val (.int p3), .val (.int (1 : Int32)), .unset, .unset, .unset, .unset, .unset, .unset, .unset]) rfl ?_
      show Steps p.tables e below (s₁.setTop (mkF m 14 #[.val (.long p1), .second, .val (.long p2), .second, .val (.int p3), .val (.int (1 : Int32)), .unset, .unset, .unset, .unset, .unset, .unset, .unset] [])) _
      refine XS.iload X0.here hx rfl (hb hby at_14) rfl ?_
      show Steps p.tables e below (s₁.setTop (mkF m 16 #[.val (.long p1), .second, .val (.long p2), .second, .val (.int p3), .val (.int (1 : Int32)), .unset, .unset, .unset, .unset, .unset, .unset, .unset] [(.int p3)])) _
      refine XS.iconst X0.here hx rfl (hb hby at_16) ?_
      show Steps p.tables e below (s₁.setTop (mkF m 17 #[.val (.long p1), .second, .val (.long p2), .second, .val (.int p3), .val (.int (1 : Int32)), .unset, .unset, .unset, .unset, .unset, .unset, .unset] [(.int (2 : Int32)), (.int p3)])) _
      refine XS.iand X0.here hx rfl (hb hby at_17) rfl ?_
      exact kt)
    by_cases hb198 : (p3 &&& (2 : Int32)) = (0 : Int32)
    · skip
      have K199 : Gx p e below s₁ f0 s₁ (mkF m 28 #[.val (.long p1), .second, .val (.long p2), .second, .val (.int p3), .val (.int (1 : Int32)), .val (.int (0 : Int32)), .unset, .unset, .unset, .unset, .unset, .unset] []) := fun t kt => K197 t (by
        show Steps p.tables e below (s₁.setTop (mkF m 18 #[.val (.long p1), .second, .val (.long p2), .second, .val (.int p3), .val (.int (1 : Int32)), .unset, .unset, .unset, .unset, .unset, .unset, .unset] [(.int (p3 &&& (2 : Int32)))])) _
        refine XS.ifYes X0.here hx rfl (pc0 := 18) (pc' := 25) rfl (hb hby at_18) rfl ((if0 _ _).trans (teq hb198).1) (by decide) (by decide) ?_
        show Steps p.tables e below (s₁.setTop (mkF m 25 #[.val (.long p1), .second, .val (.long p2), .second, .val (.int p3), .val (.int (1 : Int32)), .unset, .unset, .unset, .unset, .unset, .unset, .unset] [])) _
        refine XS.iconst X0.here hx rfl (hb hby at_25) ?_
        show Steps p.tables e below (s₁.setTop (mkF m 26 #[.val (.long p1), .second, .val (.long p2), .second, .val (.int p3), .val (.int (1 : Int32)), .unset, .unset, .unset, .unset, .unset, .unset, .unset] [(.int (0 : Int32))])) _
        refine XS.istore X0.here hx rfl (hb hby at_26) rfl (l' := #[.val (.long p1), .second, .val (.long p2), .second, .val (.int p3), .val (.int (1 : Int32)), .val (.int (0 : Int32)), .unset, .unset, .unset, .unset, .unset, .unset]) rfl ?_
        exact kt)
      obtain ⟨T200, h200, X200, e200, E200, A200, D200, -, st200⟩ := newO X0 hx hZ hown (hw _ (List.mem_of_getElem? (i := 0) rfl)) (hw _ (List.mem_of_getElem? (i := 1) rfl)) (hw _ (List.mem_of_getElem? (i := 2) rfl)) e0 (g := (mkF m 28 #[.val (.long p1), .second, .val (.long p2), .second, .val (.int p3), .val (.int (1 : Int32)), .val (.int (0 : Int32)), .unset, .unset, .unset, .unset, .unset, .unset] [])) rfl (hb hby at_28) (by decide) (by decide)
      obtain ⟨b200, g200⟩ : ∃ z, z = h0.size := ⟨_, rfl⟩
      rw [← g200] at A200 D200 st200
      have f201 : Fld Z h200 b200 "com/example/tideshift/tideshift/cli/LatencyHistogram" "counts" "[J" .null := D200 (Or.inr (hw _ (List.mem_of_getElem? (i := 25) rfl))) (ty := (.array .long)) (by decide)
      have f202 : Fld Z h200 b200 "com/example/tideshift/tideshift/cli/LatencyHistogram" "count" "J" (.long (0 : Int64)) := D200 (Or.inl (hw _ (List.mem_of_getElem? (i := 32) rfl))) (ty := .long) (by decide)
      have K203 : Gx p e below s₁ f0 T200 (mkF m 31 #[.val (.long p1), .second, .val (.long p2), .second, .val (.int p3), .val (.int (1 : Int32)), .val (.int (0 : Int32)), .unset, .unset, .unset, .unset, .unset, .unset] [(.ref b200)]) := fun t kt => K199 t (st200 t kt)
      have K204 : Gx p e below s₁ f0 T200 (mkF m 32 #[.val (.long p1), .second, .val (.long p2), .second, .val (.int p3), .val (.int (1 : Int32)), .val (.int (0 : Int32)), .unset, .unset, .unset, .unset, .unset, .unset] [(.ref b200), (.ref b200)]) := fun t kt => K203 t (by
        show Steps p.tables e below (T200.setTop (mkF m 31 #[.val (.long p1), .second, .val (.long p2), .second, .val (.int p3), .val (.int (1 : Int32)), .val (.int (0 : Int32)), .unset, .unset, .unset, .unset, .unset, .unset] [(.ref b200)])) _
        refine XS.dup X200.here hx rfl (hb hby at_31) rfl rfl ?_
        exact kt)
      have kp205 : Keep h0 h200 [] := ((Keep.refl h0 []).ext E200)
      obtain ⟨_, _, ⟨T206, L206, k206, n206⟩, -, X206', ⟨Lc206, hQ206, l206, y206, z206⟩, st206⟩ := X200.specialBack hx (y := (⟨"com/example/tideshift/tideshift/cli/LatencyHistogram", "<init>", "()V"⟩ : MethodName)) rfl hown (mvT hZ (hw _ (List.mem_of_getElem? (i := 3) rfl))) (mvT hZ (hw _ (List.mem_of_getElem? (i := 4) rfl))) (mvT hZ (hw _ (List.mem_of_getElem? (i := 5) rfl))) (by decide) (backOf (W := 1) (rmIni l Z a0 hw [] b200 h200 n0 (Nat.le_trans Z0 kp205.1) (Nat.le_trans Z0 (Nat.le_trans (Keep.refl h0 []).1 (Nat.le_of_eq g200.symm))) A200 f201 f202) hZ (hw _ (List.mem_of_getElem? (i := 5) rfl)) (hw _ (List.mem_of_getElem? (i := 2) rfl)) (by decide) (by decide)) (g := (mkF m 32 #[.val (.long p1), .second, .val (.long p2), .second, .val (.int p3), .val (.int (1 : Int32)), .val (.int (0 : Int32)), .unset, .unset, .unset, .unset, .unset, .unset] [(.ref b200), (.ref b200)])) rfl (by rw [hml]; rfl) (Steps.refl _) (a := b200) (argsL := []) (rest := [(.ref b200)]) (lenOf pd___V rfl) rfl (by show 2 * 0 + _ ≤ _; exact Nat.le_of_eq rfl) (hb hby at_32) (fun _ _ => ⟨rfl, e200, (by decide : 1 + 1 ≤ _), (by decide : 2 + 3712 ≤ _)⟩)
      dsimp only [Pt.U, Pt.locs, Pt.cells, Pt.slots] at X206' l206 y206 z206 st206 hQ206
      subst l206 y206 z206
      obtain ⟨h206, e206⟩ : ∃ z, T206.heap = z := ⟨_, rfl⟩
      rw [e206] at hQ206
      obtain ⟨va_206, ka_206, rfl, N206q, Kc206, f207, f208, f209, f210, f211⟩ := hQ206
      obtain ⟨lc206, X206, N206⟩ : ∃ lc, Stand p l e room_1 s m #[(.long p1), (.long p2), (.int p3)] below meth c T206 lc 2 3714 ∧ Fr n0 lc := ⟨_, X206', Fr.app N0 N206q⟩
      have K212 : Gx p e below s₁ f0 T206 (mkF m 35 #[.val (.long p1), .second, .val (.long p2), .second, .val (.int p3), .val (.int (1 : Int32)), .val (.int (0 : Int32)), .unset, .unset, .unset, .unset, .unset, .unset] [(.ref b200)]) := fun t kt => K204 t (st206.trans kt)
      have K213 : Gx p e below s₁ f0 T206 (mkF m 37 #[.val (.long p1), .second, .val (.long p2), .second, .val (.int p3), .val (.int (1 : Int32)), .val (.int (0 : Int32)), .val (.ref b200), .unset, .unset, .unset, .unset, .unset] []) := fun t kt => K212 t (by
        show Steps p.tables e below (T206.setTop (mkF m 35 #[.val (.long p1), .second, .val (.long p2), .second, .val (.int p3), .val (.int (1 : Int32)), .val (.int (0 : Int32)), .unset, .unset, .unset, .unset, .unset, .unset] [(.ref b200)])) _
        refine XS.astore X206.here hx rfl (hb hby at_35) rfl rfl (l' := #[.val (.long p1), .second, .val (.long p2), .second, .val (.int p3), .val (.int (1 : Int32)), .val (.int (0 : Int32)), .val (.ref b200), .unset, .unset, .unset, .unset, .unset]) rfl ?_
        exact kt)
      obtain ⟨T214, h214, X214, e214, E214, A214, D214, -, st214⟩ := newO X206 hx hZ hown (hw _ (List.mem_of_getElem? (i := 0) rfl)) (hw _ (List.mem_of_getElem? (i := 1) rfl)) (hw _ (List.mem_of_getElem? (i := 2) rfl)) e206 (g := (mkF m 37 #[.val (.long p1), .second, .val (.long p2), .second, .val (.int p3), .val (.int (1 : Int32)), .val (.int (0 : Int32)), .val (.ref b200), .unset, .unset, .unset, .unset, .unset] [])) rfl (hb hby at_37) (by decide) (by decide)
      obtain ⟨b214, g214⟩ : ∃ z, z = h206.size := ⟨_, rfl⟩
      rw [← g214] at A214 D214 st214
      have f215 : Fld Z h214 b214 "com/example/tideshift/tideshift/cli/LatencyHistogram" "counts" "[J" .null := D214 (Or.inr (hw _ (List.mem_of_getElem? (i := 25) rfl))) (ty := (.array .long)) (by decide)
      have f216 : Fld Z h214 b214 "com/example/tideshift/tideshift/cli/LatencyHistogram" "count" "J" (.long (0 : Int64)) := D214 (Or.inl (hw _ (List.mem_of_getElem? (i := 32) rfl))) (ty := .long) (by decide)
      have K217 : Gx p e below s₁ f0 T214 (mkF m 40 #[.val (.long p1), .second, .val (.long p2), .second, .val (.int p3), .val (.int (1 : Int32)), .val (.int (0 : Int32)), .val (.ref b200), .unset, .unset, .unset, .unset, .unset] [(.ref b214)]) := fun t kt => K213 t (st214 t kt)
      have K218 : Gx p e below s₁ f0 T214 (mkF m 41 #[.val (.long p1), .second, .val (.long p2), .second, .val (.int p3), .val (.int (1 : Int32)), .val (.int (0 : Int32)), .val (.ref b200), .unset, .unset, .unset, .unset, .unset] [(.ref b214), (.ref b214)]) := fun t kt => K217 t (by
        show Steps p.tables e below (T214.setTop (mkF m 40 #[.val (.long p1), .second, .val (.long p2), .second, .val (.int p3), .val (.int (1 : Int32)), .val (.int (0 : Int32)), .val (.ref b200), .unset, .unset, .unset, .unset, .unset] [(.ref b214)])) _
        refine XS.dup X214.here hx rfl (hb hby at_40) rfl rfl ?_
        exact kt)
      have kp219 : Keep h0 h214 [] := ((Keep.trans kp205 Kc206 (allS (Or.inr (Nat.le_trans (Keep.refl h0 []).1 (Nat.le_of_eq g200.symm))) all0)).ext E214)
      obtain ⟨_, _, ⟨T220, L220, k220, n220⟩, -, X220', ⟨Lc220, hQ220, l220, y220, z220⟩, st220⟩ := X214.specialBack hx (y := (⟨"com/example/tideshift/tideshift/cli/LatencyHistogram", "<init>", "()V"⟩ : MethodName)) rfl hown (mvT hZ (hw _ (List.mem_of_getElem? (i := 3) rfl))) (mvT hZ (hw _ (List.mem_of_getElem? (i := 4) rfl))) (mvT hZ (hw _ (List.mem_of_getElem? (i := 5) rfl))) (by decide) (backOf (W := 1) (rmIni l Z a0 hw [] b214 h214 n0 (Nat.le_trans Z0 kp219.1) (Nat.le_trans Z0 (Nat.le_trans (Keep.trans kp205 Kc206 (allS (Or.inr (Nat.le_trans (Keep.refl h0 []).1 (Nat.le_of_eq g200.symm))) all0)).1 (Nat.le_of_eq g214.symm))) A214 f215 f216) hZ (hw _ (List.mem_of_getElem? (i := 5) rfl)) (hw _ (List.mem_of_getElem? (i := 2) rfl)) (by decide) (by decide)) (g := (mkF m 41 #[.val (.long p1), .second, .val (.long p2), .second, .val (.int p3), .val (.int (1 : Int32)), .val (.int (0 : Int32)), .val (.ref b200), .unset, .unset, .unset, .unset, .unset] [(.ref b214), (.ref b214)])) rfl (by rw [hml]; rfl) (Steps.refl _) (a := b214) (argsL := []) (rest := [(.ref b214)]) (lenOf pd___V rfl) rfl (by show 2 * 0 + _ ≤ _; exact Nat.le_of_eq rfl) (hb hby at_41) (fun _ _ => ⟨rfl, e214, (by decide : 3 + 1 ≤ _), (by decide : 3716 + 3712 ≤ _)⟩)
      dsimp only [Pt.U, Pt.locs, Pt.cells, Pt.slots] at X220' l220 y220 z220 st220 hQ220
      subst l220 y220 z220
      obtain ⟨h220, e220⟩ : ∃ z, T220.heap = z := ⟨_, rfl⟩
      rw [e220] at hQ220
      obtain ⟨va_220, ka_220, rfl, N220q, Kc220, f221, f222, f223, f224, f225⟩ := hQ220
      obtain ⟨lc220, X220, N220⟩ : ∃ lc, Stand p l e room_1 s m #[(.long p1), (.long p2), (.int p3)] below meth c T220 lc 4 7428 ∧ Fr n0 lc := ⟨_, X220', Fr.app N206 N220q⟩
      have K226 : Gx p e below s₁ f0 T220 (mkF m 44 #[.val (.long p1), .second, .val (.long p2), .second, .val (.int p3), .val (.int (1 : Int32)), .val (.int (0 : Int32)), .val (.ref b200), .unset, .unset, .unset, .unset, .unset] [(.ref b214)]) := fun t kt => K218 t (st220.trans kt)
      have K227 : Gx p e below s₁ f0 T220 (mkF m 46 #[.val (.long p1), .second, .val (.long p2), .second, .val (.int p3), .val (.int (1 : Int32)), .val (.int (0 : Int32)), .val (.ref b200), .val (.ref b214), .unset, .unset, .unset, .unset] []) := fun t kt => K226 t (by
        show Steps p.tables e below (T220.setTop (mkF m 44 #[.val (.long p1), .second, .val (.long p2), .second, .val (.int p3), .val (.int (1 : Int32)), .val (.int (0 : Int32)), .val (.ref b200), .unset, .unset, .unset, .unset, .unset] [(.ref b214)])) _
        refine XS.astore X220.here hx rfl (hb hby at_44) rfl rfl (l' := #[.val (.long p1), .second, .val (.long p2), .second, .val (.int p3), .val (.int (1 : Int32)), .val (.int (0 : Int32)), .val (.ref b200), .val (.ref b214), .unset, .unset, .unset, .unset]) rfl ?_
        exact kt)
      obtain ⟨T228, h228, X228, e228, E228, A228, D228, -, st228⟩ := newO X220 hx hZ hown (hw _ (List.mem_of_getElem? (i := 0) rfl)) (hw _ (List.mem_of_getElem? (i := 1) rfl)) (hw _ (List.mem_of_getElem? (i := 2) rfl)) e220 (g := (mkF m 46 #[.val (.long p1), .second, .val (.long p2), .second, .val (.int p3), .val (.int (1 : Int32)), .val (.int (0 : Int32)), .val (.ref b200), .val (.ref b214), .unset, .unset, .unset, .unset] [])) rfl (hb hby at_46) (by decide) (by decide)
      obtain ⟨b228, g228⟩ : ∃ z, z = h220.size := ⟨_, rfl⟩
      rw [← g228] at A228 D228 st228
      have f229 : Fld Z h228 b228 "com/example/tideshift/tideshift/cli/LatencyHistogram" "counts" "[J" .null := D228 (Or.inr (hw _ (List.mem_of_getElem? (i := 25) rfl))) (ty := (.array .long)) (by decide)
      have f230 : Fld Z h228 b228 "com/example/tideshift/tideshift/cli/LatencyHistogram" "count" "J" (.long (0 : Int64)) := D228 (Or.inl (hw _ (List.mem_of_getElem? (i := 32) rfl))) (ty := .long) (by decide)
      have K231 : Gx p e below s₁ f0 T228 (mkF m 49 #[.val (.long p1), .second, .val (.long p2), .second, .val (.int p3), .val (.int (1 : Int32)), .val (.int (0 : Int32)), .val (.ref b200), .val (.ref b214), .unset, .unset, .unset, .unset] [(.ref b228)]) := fun t kt => K227 t (st228 t kt)
      have K232 : Gx p e below s₁ f0 T228 (mkF m 50 #[.val (.long p1), .second, .val (.long p2), .second, .val (.int p3), .val (.int (1 : Int32)), .val (.int (0 : Int32)), .val (.ref b200), .val (.ref b214), .unset, .unset, .unset, .unset] [(.ref b228), (.ref b228)]) := fun t kt => K231 t (by
        show Steps p.tables e below (T228.setTop (mkF m 49 #[.val (.long p1), .second, .val (.long p2), .second, .val (.int p3), .val (.int (1 : Int32)), .val (.int (0 : Int32)), .val (.ref b200), .val (.ref b214), .unset, .unset, .unset, .unset] [(.ref b228)])) _
        refine XS.dup X228.here hx rfl (hb hby at_49) rfl rfl ?_
        exact kt)
      have kp233 : Keep h0 h228 [] := ((Keep.trans kp219 Kc220 (allS (Or.inr (Nat.le_trans (Keep.trans kp205 Kc206 (allS (Or.inr (Nat.le_trans (Keep.refl h0 []).1 (Nat.le_of_eq g200.symm))) all0)).1 (Nat.le_of_eq g214.symm))) all0)).ext E228)
      obtain ⟨_, _, ⟨T234, L234, k234, n234⟩, -, X234', ⟨Lc234, hQ234, l234, y234, z234⟩, st234⟩ := X228.specialBack hx (y := (⟨"com/example/tideshift/tideshift/cli/LatencyHistogram", "<init>", "()V"⟩ : MethodName)) rfl hown (mvT hZ (hw _ (List.mem_of_getElem? (i := 3) rfl))) (mvT hZ (hw _ (List.mem_of_getElem? (i := 4) rfl))) (mvT hZ (hw _ (List.mem_of_getElem? (i := 5) rfl))) (by decide) (backOf (W := 1) (rmIni l Z a0 hw [] b228 h228 n0 (Nat.le_trans Z0 kp233.1) (Nat.le_trans Z0 (Nat.le_trans (Keep.trans kp219 Kc220 (allS (Or.inr (Nat.le_trans (Keep.trans kp205 Kc206 (allS (Or.inr (Nat.le_trans (Keep.refl h0 []).1 (Nat.le_of_eq g200.symm))) all0)).1 (Nat.le_of_eq g214.symm))) all0)).1 (Nat.le_of_eq g228.symm))) A228 f229 f230) hZ (hw _ (List.mem_of_getElem? (i := 5) rfl)) (hw _ (List.mem_of_getElem? (i := 2) rfl)) (by decide) (by decide)) (g := (mkF m 50 #[.val (.long p1), .second, .val (.long p2), .second, .val (.int p3), .val (.int (1 : Int32)), .val (.int (0 : Int32)), .val (.ref b200), .val (.ref b214), .unset, .unset, .unset, .unset] [(.ref b228), (.ref b228)])) rfl (by rw [hml]; rfl) (Steps.refl _) (a := b228) (argsL := []) (rest := [(.ref b228)]) (lenOf pd___V rfl) rfl (by show 2 * 0 + _ ≤ _; exact Nat.le_of_eq rfl) (hb hby at_50) (fun _ _ => ⟨rfl, e228, (by decide : 5 + 1 ≤ _), (by decide : 7430 + 3712 ≤ _)⟩)
      dsimp only [Pt.U, Pt.locs, Pt.cells, Pt.slots] at X234' l234 y234 z234 st234 hQ234
      subst l234 y234 z234
      obtain ⟨h234, e234⟩ : ∃ z, T234.heap = z := ⟨_, rfl⟩
      rw [e234] at hQ234
      obtain ⟨va_234, ka_234, rfl, N234q, Kc234, f235, f236, f237, f238, f239⟩ := hQ234
      obtain ⟨lc234, X234, N234⟩ : ∃ lc, Stand p l e room_1 s m #[(.long p1), (.long p2), (.int p3)] below meth c T234 lc 6 11142 ∧ Fr n0 lc := ⟨_, X234', Fr.app N220 N234q⟩
      have K240 : Gx p e below s₁ f0 T234 (mkF m 53 #[.val (.long p1), .second, .val (.long p2), .second, .val (.int p3), .val (.int (1 : Int32)), .val (.int (0 : Int32)), .val (.ref b200), .val (.ref b214), .unset, .unset, .unset, .unset] [(.ref b228)]) := fun t kt => K232 t (st234.trans kt)
      have K241 : Gx p e below s₁ f0 T234 (mkF m 63 #[.val (.long p1), .second, .val (.long p2), .second, .val (.int p3), .val (.int (1 : Int32)), .val (.int (0 : Int32)), .val (.ref b200), .val (.ref b214), .val (.ref b228), .unset, .unset, .unset] [(.long p1), (.ref b200)]) := fun t kt => K240 t (by
        show Steps p.tables e below (T234.setTop (mkF m 53 #[.val (.long p1), .second, .val (.long p2), .second, .val (.int p3), .val (.int (1 : Int32)), .val (.int (0 : Int32)), .val (.ref b200), .val (.ref b214), .unset, .unset, .unset, .unset] [(.ref b228)])) _
        refine XS.astore X234.here hx rfl (hb hby at_53) rfl rfl (l' := #[.val (.long p1), .second, .val (.long p2), .second, .val (.int p3), .val (.int (1 : Int32)), .val (.int (0 : Int32)), .val (.ref b200), .val (.ref b214), .val (.ref b228), .unset, .unset, .unset]) rfl ?_
        show Steps p.tables e below (T234.setTop (mkF m 55 #[.val (.long p1), .second, .val (.long p2), .second, .val (.int p3), .val (.int (1 : Int32)), .val (.int (0 : Int32)), .val (.ref b200), .val (.ref b214), .val (.ref b228), .unset, .unset, .unset] [])) _
        refine XS.iload X234.here hx rfl (hb hby at_55) rfl ?_
        show Steps p.tables e below (T234.setTop (mkF m 57 #[.val (.long p1), .second, .val (.long p2), .second, .val (.int p3), .val (.int (1 : Int32)), .val (.int (0 : Int32)), .val (.ref b200), .val (.ref b214), .val (.ref b228), .unset, .unset, .unset] [(.int (1 : Int32))])) _
        refine XS.ifNo X234.here hx rfl (hb hby at_57) rfl ((if0 _ _).trans (feq (by decide)).1) ?_
        show Steps p.tables e below (T234.setTop (mkF m 60 #[.val (.long p1), .second, .val (.long p2), .second, .val (.int p3), .val (.int (1 : Int32)), .val (.int (0 : Int32)), .val (.ref b200), .val (.ref b214), .val (.ref b228), .unset, .unset, .unset] [])) _
        refine XS.aload X234.here hx rfl (hb hby at_60) rfl rfl ?_
        show Steps p.tables e below (T234.setTop (mkF m 62 #[.val (.long p1), .second, .val (.long p2), .second, .val (.int p3), .val (.int (1 : Int32)), .val (.int (0 : Int32)), .val (.ref b200), .val (.ref b214), .val (.ref b228), .unset, .unset, .unset] [(.ref b200)])) _
        refine XS.lloadN X234.here hx rfl (hb hby at_62) rfl ?_
        exact kt)
      have f242 : Exa Z h234 b200 "com/example/tideshift/tideshift/cli/LatencyHistogram" := ((((f208.ext E214).keep Kc220).ext E228).keep Kc234)
      have f243 : Fld Z h234 b200 "com/example/tideshift/tideshift/cli/LatencyHistogram" "counts" "[J" (.ref va_206) := ((((f209.ext E214).keep Kc220 (ninS (Nat.ne_of_lt (Nat.lt_of_lt_of_le f208.lt (Nat.le_of_eq g214.symm))) nin0)).ext E228).keep Kc234 (ninS (Nat.ne_of_lt (Nat.lt_of_lt_of_le ((f208.ext E214).keep Kc220).lt (Nat.le_of_eq g228.symm))) nin0))
      have f244 : Fld Z h234 b200 "com/example/tideshift/tideshift/cli/LatencyHistogram" "count" "J" (.long (0 : Int64)) := ((((f210.ext E214).keep Kc220 (ninS (Nat.ne_of_lt (Nat.lt_of_lt_of_le f208.lt (Nat.le_of_eq g214.symm))) nin0)).ext E228).keep Kc234 (ninS (Nat.ne_of_lt (Nat.lt_of_lt_of_le ((f208.ext E214).keep Kc220).lt (Nat.le_of_eq g228.symm))) nin0))
      have f245 : Arv Z h234 va_206 ka_206 .long (3712 : Int32) (tab zF) (.long (0 : Int64)) := ((((f211.ext E214).keep Kc220 (ninS (Nat.ne_of_lt (Nat.lt_of_lt_of_le f211.lt (Nat.le_of_eq g214.symm))) nin0)).ext E228).keep Kc234 (ninS (Nat.ne_of_lt (Nat.lt_of_lt_of_le ((f211.ext E214).keep Kc220 (ninS (Nat.ne_of_lt (Nat.lt_of_lt_of_le f211.lt (Nat.le_of_eq g214.symm))) nin0)).lt (Nat.le_of_eq g228.symm))) nin0))
      have kp246 : Keep h0 h234 [] := (Keep.trans kp233 Kc234 (allS (Or.inr (Nat.le_trans (Keep.trans kp219 Kc220 (allS (Or.inr (Nat.le_trans (Keep.trans kp205 Kc206 (allS (Or.inr (Nat.le_trans (Keep.refl h0 []).1 (Nat.le_of_eq g200.symm))) all0)).1 (Nat.le_of_eq g214.symm))) all0)).1 (Nat.le_of_eq g228.symm))) all0))
      obtain ⟨cq247, kq247, q247a, q247b, q247c⟩ := isOf hZ e234 f242
      obtain ⟨_, _, ⟨T247, L247, k247, n247⟩, -, X247', ⟨Lc247, hQ247, l247, y247, z247⟩, st247⟩ := X234.virtualBack hx (y := (⟨"com/example/tideshift/tideshift/cli/LatencyHistogram", "record", "(J)V"⟩ : MethodName)) (z := (⟨"com/example/tideshift/tideshift/cli/LatencyHistogram", "record", "(J)V"⟩ : MethodName)) hown (mvT hZ (hw _ (List.mem_of_getElem? (i := 48) rfl))) (mvT hZ (hw _ (List.mem_of_getElem? (i := 49) rfl))) (notFace_of_selects (args := #[]) (mvT hZ (hw _ (List.mem_of_getElem? (i := 51) rfl)))) (mvT hZ (hw _ (List.mem_of_getElem? (i := 51) rfl))) (mvT hZ (hw _ (List.mem_of_getElem? (i := 50) rfl))) (by decide) (backOf (W := 0) (rmRec0 l Z a0 hw [] b200 p1 va_206 ka_206 zF h234 n0 (Nat.le_trans Z0 kp246.1) f242 f243 f244 f245 (Nat.le_trans Z0 (Nat.le_trans (Keep.refl h0 []).1 (Nat.le_of_eq g200.symm))) (Nat.le_trans Z0 (Nat.le_trans kp205.1 f207))) hZ (hw _ (List.mem_of_getElem? (i := 52) rfl)) (hw _ (List.mem_of_getElem? (i := 2) rfl)) (by decide) (by decide)) q247a q247c (g := (mkF m 63 #[.val (.long p1), .second, .val (.long p2), .second, .val (.int p3), .val (.int (1 : Int32)), .val (.int (0 : Int32)), .val (.ref b200), .val (.ref b214), .val (.ref b228), .unset, .unset, .unset] [(.long p1), (.ref b200)])) rfl (by rw [hml]; rfl) (Steps.refl _) (argsL := [(.long p1)]) (rest := []) (lenOf pd__J_V rfl) rfl (by show 2 * 0 + _ ≤ _; exact Nat.le_of_eq rfl) (hb hby at_63) (fun _ _ => ⟨rfl, e234, (by decide : 6 + 0 ≤ _), (by decide : 11142 + 0 ≤ _)⟩)
      dsimp only [Pt.U, Pt.locs, Pt.cells, Pt.slots] at X247' l247 y247 z247 st247 hQ247
      subst l247 y247 z247
      obtain ⟨h247, e247⟩ : ∃ z, T247.heap = z := ⟨_, rfl⟩
      rw [e247] at hQ247
      obtain ⟨rfl, N247q, Kc247, f248, f249, f250, f251⟩ := hQ247
      obtain ⟨lc247, X247, N247⟩ : ∃ lc, Stand p l e room_1 s m #[(.long p1), (.long p2), (.int p3)] below meth c T247 lc 6 11142 ∧ Fr n0 lc := ⟨_, X247', Fr.app N234 N247q⟩
      have K252 : Gx p e below s₁ f0 T247 (mkF m 66 #[.val (.long p1), .second, .val (.long p2), .second, .val (.int p3), .val (.int (1 : Int32)), .val (.int (0 : Int32)), .val (.ref b200), .val (.ref b214), .val (.ref b228), .unset, .unset, .unset] []) := fun t kt => K241 t (st247.trans kt)
      have K253 : Gx p e below s₁ f0 T247 (mkF m 69 #[.val (.long p1), .second, .val (.long p2), .second, .val (.int p3), .val (.int (1 : Int32)), .val (.int (0 : Int32)), .val (.ref b200), .val (.ref b214), .val (.ref b228), .unset, .unset, .unset] [(.long p1), (.ref b228)]) := fun t kt => K252 t (by
        show Steps p.tables e below (T247.setTop (mkF m 66 #[.val (.long p1), .second, .val (.long p2), .second, .val (.int p3), .val (.int (1 : Int32)), .val (.int (0 : Int32)), .val (.ref b200), .val (.ref b214), .val (.ref b228), .unset, .unset, .unset] [])) _
        refine XS.aload X247.here hx rfl (hb hby at_66) rfl rfl ?_
        show Steps p.tables e below (T247.setTop (mkF m 68 #[.val (.long p1), .second, .val (.long p2), .second, .val (.int p3), .val (.int (1 : Int32)), .val (.int (0 : Int32)), .val (.ref b200), .val (.ref b214), .val (.ref b228), .unset, .unset, .unset] [(.ref b228)])) _
        refine XS.lloadN X247.here hx rfl (hb hby at_68) rfl ?_
        exact kt)
      have f254 : Exa Z h247 b228 "com/example/tideshift/tideshift/cli/LatencyHistogram" := (f236.keep Kc247)
      have f255 : Fld Z h247 b228 "com/example/tideshift/tideshift/cli/LatencyHistogram" "counts" "[J" (.ref va_234) := (f237.keep Kc247 (ninS (Ne.symm (Nat.ne_of_lt (Nat.lt_of_lt_of_le ((f208.ext E214).keep Kc220).lt (Nat.le_of_eq g228.symm)))) (ninS (Ne.symm (Nat.ne_of_lt (Nat.lt_of_lt_of_le ((f211.ext E214).keep Kc220 (ninS (Nat.ne_of_lt (Nat.lt_of_lt_of_le f211.lt (Nat.le_of_eq g214.symm))) nin0)).lt (Nat.le_of_eq g228.symm)))) nin0)))
      have f256 : Fld Z h247 b228 "com/example/tideshift/tideshift/cli/LatencyHistogram" "count" "J" (.long (0 : Int64)) := (f238.keep Kc247 (ninS (Ne.symm (Nat.ne_of_lt (Nat.lt_of_lt_of_le ((f208.ext E214).keep Kc220).lt (Nat.le_of_eq g228.symm)))) (ninS (Ne.symm (Nat.ne_of_lt (Nat.lt_of_lt_of_le ((f211.ext E214).keep Kc220 (ninS (Nat.ne_of_lt (Nat.lt_of_lt_of_le f211.lt (Nat.le_of_eq g214.symm))) nin0)).lt (Nat.le_of_eq g228.symm)))) nin0)))
      have f257 : Arv Z h247 va_234 ka_234 .long (3712 : Int32) (tab zF) (.long (0 : Int64)) := (f239.keep Kc247 (ninS (Ne.symm (Nat.ne_of_lt (Nat.lt_of_lt_of_le (((f208.ext E214).keep Kc220).ext E228).lt f235))) (ninS (Ne.symm (Nat.ne_of_lt (Nat.lt_of_lt_of_le (((f211.ext E214).keep Kc220 (ninS (Nat.ne_of_lt (Nat.lt_of_lt_of_le f211.lt (Nat.le_of_eq g214.symm))) nin0)).ext E228).lt f235))) nin0)))
      have kp258 : Keep h0 h247 [] := (Keep.trans kp246 Kc247 (allS (Or.inr (Nat.le_trans (Keep.refl h0 []).1 (Nat.le_of_eq g200.symm))) (allS (Or.inr (Nat.le_trans kp205.1 f207)) all0)))
      obtain ⟨cq259, kq259, q259a, q259b, q259c⟩ := isOf hZ e247 f254
      obtain ⟨_, _, ⟨T259, L259, k259, n259⟩, -, X259', ⟨Lc259, hQ259, l259, y259, z259⟩, st259⟩ := X247.virtualBack hx (y := (⟨"com/example/tideshift/tideshift/cli/LatencyHistogram", "record", "(J)V"⟩ : MethodName)) (z := (⟨"com/example/tideshift/tideshift/cli/LatencyHistogram", "record", "(J)V"⟩ : MethodName)) hown (mvT hZ (hw _ (List.mem_of_getElem? (i := 48) rfl))) (mvT hZ (hw _ (List.mem_of_getElem? (i := 49) rfl))) (notFace_of_selects (args := #[]) (mvT hZ (hw _ (List.mem_of_getElem? (i := 51) rfl)))) (mvT hZ (hw _ (List.mem_of_getElem? (i := 51) rfl))) (mvT hZ (hw _ (List.mem_of_getElem? (i := 50) rfl))) (by decide) (backOf (W := 0) (rmRec0 l Z a0 hw [] b228 p1 va_234 ka_234 zF h247 n0 (Nat.le_trans Z0 kp258.1) f254 f255 f256 f257 (Nat.le_trans Z0 (Nat.le_trans (Keep.trans kp219 Kc220 (allS (Or.inr (Nat.le_trans (Keep.trans kp205 Kc206 (allS (Or.inr (Nat.le_trans (Keep.refl h0 []).1 (Nat.le_of_eq g200.symm))) all0)).1 (Nat.le_of_eq g214.symm))) all0)).1 (Nat.le_of_eq g228.symm))) (Nat.le_trans Z0 (Nat.le_trans kp233.1 f235))) hZ (hw _ (List.mem_of_getElem? (i := 52) rfl)) (hw _ (List.mem_of_getElem? (i := 2) rfl)) (by decide) (by decide)) q259a q259c (g := (mkF m 69 #[.val (.long p1), .second, .val (.long p2), .second, .val (.int p3), .val (.int (1 : Int32)), .val (.int (0 : Int32)), .val (.ref b200), .val (.ref b214), .val (.ref b228), .unset, .unset, .unset] [(.long p1), (.ref b228)])) rfl (by rw [hml]; rfl) (Steps.refl _) (argsL := [(.long p1)]) (rest := []) (lenOf pd__J_V rfl) rfl (by show 2 * 0 + _ ≤ _; exact Nat.le_of_eq rfl) (hb hby at_69) (fun _ _ => ⟨rfl, e247, (by decide : 6 + 0 ≤ _), (by decide : 11142 + 0 ≤ _)⟩)
      dsimp only [Pt.U, Pt.locs, Pt.cells, Pt.slots] at X259' l259 y259 z259 st259 hQ259
      subst l259 y259 z259
      obtain ⟨h259, e259⟩ : ∃ z, T259.heap = z := ⟨_, rfl⟩
      rw [e259] at hQ259
      obtain ⟨rfl, N259q, Kc259, f260, f261, f262, f263⟩ := hQ259
      obtain ⟨lc259, X259, N259⟩ : ∃ lc, Stand p l e room_1 s m #[(.long p1), (.long p2), (.int p3)] below meth c T259 lc 6 11142 ∧ Fr n0 lc := ⟨_, X259', Fr.app N247 N259q⟩
      have K264 : Gx p e below s₁ f0 T259 (mkF m 72 #[.val (.long p1), .second, .val (.long p2), .second, .val (.int p3), .val (.int (1 : Int32)), .val (.int (0 : Int32)), .val (.ref b200), .val (.ref b214), .val (.ref b228), .unset, .unset, .unset] []) := fun t kt => K253 t (st259.trans kt)
      have K265 : Gx p e below s₁ f0 T259 (mkF m 93 #[.val (.long p1), .second, .val (.long p2), .second, .val (.int p3), .val (.int (1 : Int32)), .val (.int (0 : Int32)), .val (.ref b200), .val (.ref b214), .val (.ref b228), .unset, .unset, .unset] [(.ref b214), (.ref b200)]) := fun t kt => K264 t (by
        show Steps p.tables e below (T259.setTop (mkF m 72 #[.val (.long p1), .second, .val (.long p2), .second, .val (.int p3), .val (.int (1 : Int32)), .val (.int (0 : Int32)), .val (.ref b200), .val (.ref b214), .val (.ref b228), .unset, .unset, .unset] [])) _
        refine XS.iload X259.here hx rfl (hb hby at_72) rfl ?_
        show Steps p.tables e below (T259.setTop (mkF m 74 #[.val (.long p1), .second, .val (.long p2), .second, .val (.int p3), .val (.int (1 : Int32)), .val (.int (0 : Int32)), .val (.ref b200), .val (.ref b214), .val (.ref b228), .unset, .unset, .unset] [(.int (0 : Int32))])) _
        refine XS.ifYes X259.here hx rfl (pc0 := 74) (pc' := 89) rfl (hb hby at_74) rfl ((if0 _ _).trans (teq (by decide)).1) (by decide) (by decide) ?_
        show Steps p.tables e below (T259.setTop (mkF m 89 #[.val (.long p1), .second, .val (.long p2), .second, .val (.int p3), .val (.int (1 : Int32)), .val (.int (0 : Int32)), .val (.ref b200), .val (.ref b214), .val (.ref b228), .unset, .unset, .unset] [])) _
        refine XS.aload X259.here hx rfl (hb hby at_89) rfl rfl ?_
        show Steps p.tables e below (T259.setTop (mkF m 91 #[.val (.long p1), .second, .val (.long p2), .second, .val (.int p3), .val (.int (1 : Int32)), .val (.int (0 : Int32)), .val (.ref b200), .val (.ref b214), .val (.ref b228), .unset, .unset, .unset] [(.ref b200)])) _
        refine XS.aload X259.here hx rfl (hb hby at_91) rfl rfl ?_
        exact kt)
      have f266 : Exa Z h259 b214 "com/example/tideshift/tideshift/cli/LatencyHistogram" := ((((f222.ext E228).keep Kc234).keep Kc247).keep Kc259)
      have f267 : Fld Z h259 b214 "com/example/tideshift/tideshift/cli/LatencyHistogram" "count" "J" (.long (0 : Int64)) := ((((f224.ext E228).keep Kc234 (ninS (Nat.ne_of_lt (Nat.lt_of_lt_of_le f222.lt (Nat.le_of_eq g228.symm))) nin0)).keep Kc247 (ninS (Ne.symm (Nat.ne_of_lt (Nat.lt_of_lt_of_le f208.lt (Nat.le_of_eq g214.symm)))) (ninS (Ne.symm (Nat.ne_of_lt (Nat.lt_of_lt_of_le f211.lt (Nat.le_of_eq g214.symm)))) nin0))).keep Kc259 (ninS (Nat.ne_of_lt (Nat.lt_of_lt_of_le f222.lt (Nat.le_of_eq g228.symm))) (ninS (Nat.ne_of_lt (Nat.lt_of_lt_of_le (f222.ext E228).lt f235)) nin0)))
      have kp268 : Keep h0 h259 [] := (Keep.trans kp258 Kc259 (allS (Or.inr (Nat.le_trans (Keep.trans kp219 Kc220 (allS (Or.inr (Nat.le_trans (Keep.trans kp205 Kc206 (allS (Or.inr (Nat.le_trans (Keep.refl h0 []).1 (Nat.le_of_eq g200.symm))) all0)).1 (Nat.le_of_eq g214.symm))) all0)).1 (Nat.le_of_eq g228.symm))) (allS (Or.inr (Nat.le_trans kp233.1 f235)) all0)))
      have f270 : Exa Z h259 b200 "com/example/tideshift/tideshift/cli/LatencyHistogram" := (f248.keep Kc259)
      obtain ⟨cq269, kq269, q269a, q269b, q269c⟩ := isOf hZ e259 f270
      obtain ⟨_, _, ⟨T269, L269, k269, n269⟩, -, X269', ⟨Lc269, hQ269, l269, y269, z269⟩, st269⟩ := X259.virtualBack hx (y := (⟨"com/example/tideshift/tideshift/cli/LatencyHistogram", "add", "(Lcom/example/tideshift/tideshift/cli/LatencyHistogram;)V"⟩ : MethodName)) (z := (⟨"com/example/tideshift/tideshift/cli/LatencyHistogram", "add", "(Lcom/example/tideshift/tideshift/cli/LatencyHistogram;)V"⟩ : MethodName)) hown (mvT hZ (hw _ (List.mem_of_getElem? (i := 26) rfl))) (mvT hZ (hw _ (List.mem_of_getElem? (i := 27) rfl))) (notFace_of_selects (args := #[]) (mvT hZ (hw _ (List.mem_of_getElem? (i := 29) rfl)))) (mvT hZ (hw _ (List.mem_of_getElem? (i := 29) rfl))) (mvT hZ (hw _ (List.mem_of_getElem? (i := 28) rfl))) (by decide) (backOf (W := 0) (rmAddZ l Z a0 hw [] b200 b214 h259 n0 (Nat.le_trans Z0 kp268.1) f266 f267) hZ (hw _ (List.mem_of_getElem? (i := 30) rfl)) (hw _ (List.mem_of_getElem? (i := 2) rfl)) (by decide) (by decide)) q269a q269c (g := (mkF m 93 #[.val (.long p1), .second, .val (.long p2), .second, .val (.int p3), .val (.int (1 : Int32)), .val (.int (0 : Int32)), .val (.ref b200), .val (.ref b214), .val (.ref b228), .unset, .unset, .unset] [(.ref b214), (.ref b200)])) rfl (by rw [hml]; rfl) (Steps.refl _) (argsL := [(.ref b214)]) (rest := []) (lenOf pd__Lcom_example_tideshift_tideshift_cli_LatencyHistogram__V rfl) rfl (by show 2 * 0 + _ ≤ _; exact Nat.le_of_eq rfl) (hb hby at_93) (fun _ _ => ⟨rfl, e259, (by decide : 6 + 0 ≤ _), (by decide : 11142 + 0 ≤ _)⟩)
      dsimp only [Pt.U, Pt.locs, Pt.cells, Pt.slots] at X269' l269 y269 z269 st269 hQ269
      subst l269 y269 z269
      obtain ⟨rfl, N269q, e269⟩ := hQ269
      obtain ⟨lc269, X269, N269⟩ : ∃ lc, Stand p l e room_1 s m #[(.long p1), (.long p2), (.int p3)] below meth c T269 lc 6 11142 ∧ Fr n0 lc := ⟨_, X269', Fr.app N259 N269q⟩
      have K271 : Gx p e below s₁ f0 T269 (mkF m 96 #[.val (.long p1), .second, .val (.long p2), .second, .val (.int p3), .val (.int (1 : Int32)), .val (.int (0 : Int32)), .val (.ref b200), .val (.ref b214), .val (.ref b228), .unset, .unset, .unset] []) := fun t kt => K265 t (st269.trans kt)
      have K272 : Gx p e below s₁ f0 T269 (mkF m 121 #[.val (.long p1), .second, .val (.long p2), .second, .val (.int p3), .val (.int (1 : Int32)), .val (.int (0 : Int32)), .val (.ref b200), .val (.ref b214), .val (.ref b228), .val (.long (1 : Int64)), .second, .unset] [(.ref b200)]) := fun t kt => K271 t (by
        show Steps p.tables e below (T269.setTop (mkF m 96 #[.val (.long p1), .second, .val (.long p2), .second, .val (.int p3), .val (.int (1 : Int32)), .val (.int (0 : Int32)), .val (.ref b200), .val (.ref b214), .val (.ref b228), .unset, .unset, .unset] [])) _
        refine XS.iload X269.here hx rfl (hb hby at_96) rfl ?_
        show Steps p.tables e below (T269.setTop (mkF m 98 #[.val (.long p1), .second, .val (.long p2), .second, .val (.int p3), .val (.int (1 : Int32)), .val (.int (0 : Int32)), .val (.ref b200), .val (.ref b214), .val (.ref b228), .unset, .unset, .unset] [(.int (1 : Int32))])) _
        refine XS.ifNo X269.here hx rfl (hb hby at_98) rfl ((if0 _ _).trans (feq (by decide)).1) ?_
        show Steps p.tables e below (T269.setTop (mkF m 101 #[.val (.long p1), .second, .val (.long p2), .second, .val (.int p3), .val (.int (1 : Int32)), .val (.int (0 : Int32)), .val (.ref b200), .val (.ref b214), .val (.ref b228), .unset, .unset, .unset] [])) _
        refine XS.lconst X269.here hx rfl (hb hby at_101) ?_
        show Steps p.tables e below (T269.setTop (mkF m 102 #[.val (.long p1), .second, .val (.long p2), .second, .val (.int p3), .val (.int (1 : Int32)), .val (.int (0 : Int32)), .val (.ref b200), .val (.ref b214), .val (.ref b228), .unset, .unset, .unset] [(.long (1 : Int64))])) _
        refine XS.goto X269.here hx rfl (pc0 := 102) (pc' := 106) rfl (hb hby at_102) (by decide) (by decide) ?_
        show Steps p.tables e below (T269.setTop (mkF m 106 #[.val (.long p1), .second, .val (.long p2), .second, .val (.int p3), .val (.int (1 : Int32)), .val (.int (0 : Int32)), .val (.ref b200), .val (.ref b214), .val (.ref b228), .unset, .unset, .unset] [(.long (1 : Int64))])) _
        refine XS.iload X269.here hx rfl (hb hby at_106) rfl ?_
        show Steps p.tables e below (T269.setTop (mkF m 108 #[.val (.long p1), .second, .val (.long p2), .second, .val (.int p3), .val (.int (1 : Int32)), .val (.int (0 : Int32)), .val (.ref b200), .val (.ref b214), .val (.ref b228), .unset, .unset, .unset] [(.int (0 : Int32)), (.long (1 : Int64))])) _
        refine XS.ifYes X269.here hx rfl (pc0 := 108) (pc' := 115) rfl (hb hby at_108) rfl ((if0 _ _).trans (teq (by decide)).1) (by decide) (by decide) ?_
        show Steps p.tables e below (T269.setTop (mkF m 115 #[.val (.long p1), .second, .val (.long p2), .second, .val (.int p3), .val (.int (1 : Int32)), .val (.int (0 : Int32)), .val (.ref b200), .val (.ref b214), .val (.ref b228), .unset, .unset, .unset] [(.long (1 : Int64))])) _
        refine XS.lconst X269.here hx rfl (hb hby at_115) ?_
        show Steps p.tables e below (T269.setTop (mkF m 116 #[.val (.long p1), .second, .val (.long p2), .second, .val (.int p3), .val (.int (1 : Int32)), .val (.int (0 : Int32)), .val (.ref b200), .val (.ref b214), .val (.ref b228), .unset, .unset, .unset] [(.long (0 : Int64)), (.long (1 : Int64))])) _
        refine XS.ladd X269.here hx rfl (hb hby at_116) rfl ?_
        show Steps p.tables e below (T269.setTop (mkF m 117 #[.val (.long p1), .second, .val (.long p2), .second, .val (.int p3), .val (.int (1 : Int32)), .val (.int (0 : Int32)), .val (.ref b200), .val (.ref b214), .val (.ref b228), .unset, .unset, .unset] [(.long (1 : Int64))])) _
        refine XS.lstore X269.here hx rfl (hb hby at_117) rfl (l' := #[.val (.long p1), .second, .val (.long p2), .second, .val (.int p3), .val (.int (1 : Int32)), .val (.int (0 : Int32)), .val (.ref b200), .val (.ref b214), .val (.ref b228), .val (.long (1 : Int64)), .second, .unset]) rfl ?_
        show Steps p.tables e below (T269.setTop (mkF m 119 #[.val (.long p1), .second, .val (.long p2), .second, .val (.int p3), .val (.int (1 : Int32)), .val (.int (0 : Int32)), .val (.ref b200), .val (.ref b214), .val (.ref b228), .val (.long (1 : Int64)), .second, .unset] [])) _
        refine XS.aload X269.here hx rfl (hb hby at_119) rfl rfl ?_
        exact kt)
      have f273 : Fld Z h259 b200 "com/example/tideshift/tideshift/cli/LatencyHistogram" "count" "J" (.long (1 : Int64)) := (f250.keep Kc259 (ninS (Nat.ne_of_lt (Nat.lt_of_lt_of_le ((f208.ext E214).keep Kc220).lt (Nat.le_of_eq g228.symm))) (ninS (Nat.ne_of_lt (Nat.lt_of_lt_of_le (((f208.ext E214).keep Kc220).ext E228).lt f235)) nin0)))
      obtain ⟨cq274, kq274, q274a, q274b, q274c⟩ := isOf hZ e269 f270
      obtain ⟨_, _, ⟨T274, L274, k274, n274⟩, -, X274', ⟨Lc274, hQ274, l274, y274, z274⟩, st274⟩ := X269.virtualBack hx (y := (⟨"com/example/tideshift/tideshift/cli/LatencyHistogram", "count", "()J"⟩ : MethodName)) (z := (⟨"com/example/tideshift/tideshift/cli/LatencyHistogram", "count", "()J"⟩ : MethodName)) hown (mvT hZ (hw _ (List.mem_of_getElem? (i := 33) rfl))) (mvT hZ (hw _ (List.mem_of_getElem? (i := 34) rfl))) (notFace_of_selects (args := #[]) (mvT hZ (hw _ (List.mem_of_getElem? (i := 36) rfl)))) (mvT hZ (hw _ (List.mem_of_getElem? (i := 36) rfl))) (mvT hZ (hw _ (List.mem_of_getElem? (i := 35) rfl))) (by decide) (backOf (W := 0) (rmCnt l Z a0 hw [] b200 (1 : Int64) h259 n0 (Nat.le_trans Z0 kp268.1) f273) hZ (hw _ (List.mem_of_getElem? (i := 37) rfl)) (hw _ (List.mem_of_getElem? (i := 2) rfl)) (by decide) (by decide)) q274a q274c (g := (mkF m 121 #[.val (.long p1), .second, .val (.long p2), .second, .val (.int p3), .val (.int (1 : Int32)), .val (.int (0 : Int32)), .val (.ref b200), .val (.ref b214), .val (.ref b228), .val (.long (1 : Int64)), .second, .unset] [(.ref b200)])) rfl (by rw [hml]; rfl) (Steps.refl _) (argsL := []) (rest := []) (lenOf pd___J rfl) rfl (by show 2 * 0 + _ ≤ _; exact Nat.le_of_eq rfl) (hb hby at_121) (fun _ _ => ⟨rfl, e269, (by decide : 6 + 0 ≤ _), (by decide : 11142 + 0 ≤ _)⟩)
      dsimp only [Pt.U, Pt.locs, Pt.cells, Pt.slots] at X274' l274 y274 z274 st274 hQ274
      subst l274 y274 z274
      obtain ⟨rfl, N274q, e274⟩ := hQ274
      obtain ⟨lc274, X274, N274⟩ : ∃ lc, Stand p l e room_1 s m #[(.long p1), (.long p2), (.int p3)] below meth c T274 lc 6 11142 ∧ Fr n0 lc := ⟨_, X274', Fr.app N269 N274q⟩
      have K275 : Gx p e below s₁ f0 T274 (mkF m 124 #[.val (.long p1), .second, .val (.long p2), .second, .val (.int p3), .val (.int (1 : Int32)), .val (.int (0 : Int32)), .val (.ref b200), .val (.ref b214), .val (.ref b228), .val (.long (1 : Int64)), .second, .unset] [(.long (1 : Int64))]) := fun t kt => K272 t (st274.trans kt)
      have K276 : Gx p e below s₁ f0 T274 (mkF m 132 #[.val (.long p1), .second, .val (.long p2), .second, .val (.int p3), .val (.int (1 : Int32)), .val (.int (0 : Int32)), .val (.ref b200), .val (.ref b214), .val (.ref b228), .val (.long (1 : Int64)), .second, .unset] [(.ref b214)]) := fun t kt => K275 t (by
        show Steps p.tables e below (T274.setTop (mkF m 124 #[.val (.long p1), .second, .val (.long p2), .second, .val (.int p3), .val (.int (1 : Int32)), .val (.int (0 : Int32)), .val (.ref b200), .val (.ref b214), .val (.ref b228), .val (.long (1 : Int64)), .second, .unset] [(.long (1 : Int64))])) _
        refine XS.lload X274.here hx rfl (hb hby at_124) rfl ?_
        show Steps p.tables e below (T274.setTop (mkF m 126 #[.val (.long p1), .second, .val (.long p2), .second, .val (.int p3), .val (.int (1 : Int32)), .val (.int (0 : Int32)), .val (.ref b200), .val (.ref b214), .val (.ref b228), .val (.long (1 : Int64)), .second, .unset] [(.long (1 : Int64)), (.long (1 : Int64))])) _
        refine XS.lcmp X274.here hx rfl (hb hby at_126) rfl ?_
        show Steps p.tables e below (T274.setTop (mkF m 127 #[.val (.long p1), .second, .val (.long p2), .second, .val (.int p3), .val (.int (1 : Int32)), .val (.int (0 : Int32)), .val (.ref b200), .val (.ref b214), .val (.ref b228), .val (.long (1 : Int64)), .second, .unset] [(.int (lcmpW (1 : Int64) (1 : Int64)))])) _
        refine XS.ifNo X274.here hx rfl (hb hby at_127) rfl ((if0 _ _).trans (teq (by decide)).2) ?_
        show Steps p.tables e below (T274.setTop (mkF m 130 #[.val (.long p1), .second, .val (.long p2), .second, .val (.int p3), .val (.int (1 : Int32)), .val (.int (0 : Int32)), .val (.ref b200), .val (.ref b214), .val (.ref b228), .val (.long (1 : Int64)), .second, .unset] [])) _
        refine XS.aload X274.here hx rfl (hb hby at_130) rfl rfl ?_
        exact kt)
      obtain ⟨cq277, kq277, q277a, q277b, q277c⟩ := isOf hZ e274 f266
      obtain ⟨_, _, ⟨T277, L277, k277, n277⟩, -, X277', ⟨Lc277, hQ277, l277, y277, z277⟩, st277⟩ := X274.virtualBack hx (y := (⟨"com/example/tideshift/tideshift/cli/LatencyHistogram", "count", "()J"⟩ : MethodName)) (z := (⟨"com/example/tideshift/tideshift/cli/LatencyHistogram", "count", "()J"⟩ : MethodName)) hown (mvT hZ (hw _ (List.mem_of_getElem? (i := 33) rfl))) (mvT hZ (hw _ (List.mem_of_getElem? (i := 34) rfl))) (notFace_of_selects (args := #[]) (mvT hZ (hw _ (List.mem_of_getElem? (i := 36) rfl)))) (mvT hZ (hw _ (List.mem_of_getElem? (i := 36) rfl))) (mvT hZ (hw _ (List.mem_of_getElem? (i := 35) rfl))) (by decide) (backOf (W := 0) (rmCnt l Z a0 hw [] b214 (0 : Int64) h259 n0 (Nat.le_trans Z0 kp268.1) f267) hZ (hw _ (List.mem_of_getElem? (i := 37) rfl)) (hw _ (List.mem_of_getElem? (i := 2) rfl)) (by decide) (by decide)) q277a q277c (g := (mkF m 132 #[.val (.long p1), .second, .val (.long p2), .second, .val (.int p3), .val (.int (1 : Int32)), .val (.int (0 : Int32)), .val (.ref b200), .val (.ref b214), .val (.ref b228), .val (.long (1 : Int64)), .second, .unset] [(.ref b214)])) rfl (by rw [hml]; rfl) (Steps.refl _) (argsL := []) (rest := []) (lenOf pd___J rfl) rfl (by show 2 * 0 + _ ≤ _; exact Nat.le_of_eq rfl) (hb hby at_132) (fun _ _ => ⟨rfl, e274, (by decide : 6 + 0 ≤ _), (by decide : 11142 + 0 ≤ _)⟩)
      dsimp only [Pt.U, Pt.locs, Pt.cells, Pt.slots] at X277' l277 y277 z277 st277 hQ277
      subst l277 y277 z277
      obtain ⟨rfl, N277q, e277⟩ := hQ277
      obtain ⟨lc277, X277, N277⟩ : ∃ lc, Stand p l e room_1 s m #[(.long p1), (.long p2), (.int p3)] below meth c T277 lc 6 11142 ∧ Fr n0 lc := ⟨_, X277', Fr.app N274 N277q⟩
      have K278 : Gx p e below s₁ f0 T277 (mkF m 135 #[.val (.long p1), .second, .val (.long p2), .second, .val (.int p3), .val (.int (1 : Int32)), .val (.int (0 : Int32)), .val (.ref b200), .val (.ref b214), .val (.ref b228), .val (.long (1 : Int64)), .second, .unset] [(.long (0 : Int64))]) := fun t kt => K276 t (st277.trans kt)
      have K279 : Gx p e below s₁ f0 T277 (mkF m 163 #[.val (.long p1), .second, .val (.long p2), .second, .val (.int p3), .val (.int (1 : Int32)), .val (.int (0 : Int32)), .val (.ref b200), .val (.ref b214), .val (.ref b228), .val (.long (1 : Int64)), .second, .val (.int (1 : Int32))] []) := fun t kt => K278 t (by
        show Steps p.tables e below (T277.setTop (mkF m 135 #[.val (.long p1), .second, .val (.long p2), .second, .val (.int p3), .val (.int (1 : Int32)), .val (.int (0 : Int32)), .val (.ref b200), .val (.ref b214), .val (.ref b228), .val (.long (1 : Int64)), .second, .unset] [(.long (0 : Int64))])) _
        refine XS.iload X277.here hx rfl (hb hby at_135) rfl ?_
        show Steps p.tables e below (T277.setTop (mkF m 137 #[.val (.long p1), .second, .val (.long p2), .second, .val (.int p3), .val (.int (1 : Int32)), .val (.int (0 : Int32)), .val (.ref b200), .val (.ref b214), .val (.ref b228), .val (.long (1 : Int64)), .second, .unset] [(.int (0 : Int32)), (.long (0 : Int64))])) _
        refine XS.ifYes X277.here hx rfl (pc0 := 137) (pc' := 144) rfl (hb hby at_137) rfl ((if0 _ _).trans (teq (by decide)).1) (by decide) (by decide) ?_
        show Steps p.tables e below (T277.setTop (mkF m 144 #[.val (.long p1), .second, .val (.long p2), .second, .val (.int p3), .val (.int (1 : Int32)), .val (.int (0 : Int32)), .val (.ref b200), .val (.ref b214), .val (.ref b228), .val (.long (1 : Int64)), .second, .unset] [(.long (0 : Int64))])) _
        refine XS.lconst X277.here hx rfl (hb hby at_144) ?_
        show Steps p.tables e below (T277.setTop (mkF m 145 #[.val (.long p1), .second, .val (.long p2), .second, .val (.int p3), .val (.int (1 : Int32)), .val (.int (0 : Int32)), .val (.ref b200), .val (.ref b214), .val (.ref b228), .val (.long (1 : Int64)), .second, .unset] [(.long (0 : Int64)), (.long (0 : Int64))])) _
        refine XS.lcmp X277.here hx rfl (hb hby at_145) rfl ?_
        show Steps p.tables e below (T277.setTop (mkF m 146 #[.val (.long p1), .second, .val (.long p2), .second, .val (.int p3), .val (.int (1 : Int32)), .val (.int (0 : Int32)), .val (.ref b200), .val (.ref b214), .val (.ref b228), .val (.long (1 : Int64)), .second, .unset] [(.int (lcmpW (0 : Int64) (0 : Int64)))])) _
        refine XS.ifNo X277.here hx rfl (hb hby at_146) rfl ((if0 _ _).trans (teq (by decide)).2) ?_
        show Steps p.tables e below (T277.setTop (mkF m 149 #[.val (.long p1), .second, .val (.long p2), .second, .val (.int p3), .val (.int (1 : Int32)), .val (.int (0 : Int32)), .val (.ref b200), .val (.ref b214), .val (.ref b228), .val (.long (1 : Int64)), .second, .unset] [])) _
        refine XS.iconst X277.here hx rfl (hb hby at_149) ?_
        show Steps p.tables e below (T277.setTop (mkF m 150 #[.val (.long p1), .second, .val (.long p2), .second, .val (.int p3), .val (.int (1 : Int32)), .val (.int (0 : Int32)), .val (.ref b200), .val (.ref b214), .val (.ref b228), .val (.long (1 : Int64)), .second, .unset] [(.int (1 : Int32))])) _
        refine XS.goto X277.here hx rfl (pc0 := 150) (pc' := 154) rfl (hb hby at_150) (by decide) (by decide) ?_
        show Steps p.tables e below (T277.setTop (mkF m 154 #[.val (.long p1), .second, .val (.long p2), .second, .val (.int p3), .val (.int (1 : Int32)), .val (.int (0 : Int32)), .val (.ref b200), .val (.ref b214), .val (.ref b228), .val (.long (1 : Int64)), .second, .unset] [(.int (1 : Int32))])) _
        refine XS.istore X277.here hx rfl (hb hby at_154) rfl (l' := #[.val (.long p1), .second, .val (.long p2), .second, .val (.int p3), .val (.int (1 : Int32)), .val (.int (0 : Int32)), .val (.ref b200), .val (.ref b214), .val (.ref b228), .val (.long (1 : Int64)), .second, .val (.int (1 : Int32))]) rfl ?_
        show Steps p.tables e below (T277.setTop (mkF m 156 #[.val (.long p1), .second, .val (.long p2), .second, .val (.int p3), .val (.int (1 : Int32)), .val (.int (0 : Int32)), .val (.ref b200), .val (.ref b214), .val (.ref b228), .val (.long (1 : Int64)), .second, .val (.int (1 : Int32))] [])) _
        refine XS.iload X277.here hx rfl (hb hby at_156) rfl ?_
        show Steps p.tables e below (T277.setTop (mkF m 158 #[.val (.long p1), .second, .val (.long p2), .second, .val (.int p3), .val (.int (1 : Int32)), .val (.int (0 : Int32)), .val (.ref b200), .val (.ref b214), .val (.ref b228), .val (.long (1 : Int64)), .second, .val (.int (1 : Int32))] [(.int (1 : Int32))])) _
        refine XS.ifYes X277.here hx rfl (pc0 := 158) (pc' := 163) rfl (hb hby at_158) rfl ((if0 _ _).trans (feq (by decide)).2) (by decide) (by decide) ?_
        exact kt)
      obtain ⟨Jq0, hJq0, hJa0, hJb0⟩ := own_find (upd (bk p1) zF) (1 : Int64) (by rw [prf1 p1]; decide)
      have K280 : Gx p e below s₁ f0 T277 (mkF m 166 #[.val (.long p1), .second, .val (.long p2), .second, .val (.int p3), .val (.int (1 : Int32)), .val (.int (0 : Int32)), .val (.ref b200), .val (.ref b214), .val (.ref b228), .val (.long (1 : Int64)), .second, .val (.int (1 : Int32))] [(.double (0 : UInt64)), (.ref b200)]) := fun t kt => K279 t (by
        show Steps p.tables e below (T277.setTop (mkF m 163 #[.val (.long p1), .second, .val (.long p2), .second, .val (.int p3), .val (.int (1 : Int32)), .val (.int (0 : Int32)), .val (.ref b200), .val (.ref b214), .val (.ref b228), .val (.long (1 : Int64)), .second, .val (.int (1 : Int32))] [])) _
        refine XS.aload X277.here hx rfl (hb hby at_163) rfl rfl ?_
        show Steps p.tables e below (T277.setTop (mkF m 165 #[.val (.long p1), .second, .val (.long p2), .second, .val (.int p3), .val (.int (1 : Int32)), .val (.int (0 : Int32)), .val (.ref b200), .val (.ref b214), .val (.ref b228), .val (.long (1 : Int64)), .second, .val (.int (1 : Int32))] [(.ref b200)])) _
        refine XS.dconst0 X277.here hx rfl (hb hby at_165) (v := (0 : UInt64)) (by decide +kernel) ?_
        exact kt)
      have f281 : Fld Z h259 b200 "com/example/tideshift/tideshift/cli/LatencyHistogram" "counts" "[J" (.ref va_206) := (f249.keep Kc259 (ninS (Nat.ne_of_lt (Nat.lt_of_lt_of_le ((f208.ext E214).keep Kc220).lt (Nat.le_of_eq g228.symm))) (ninS (Nat.ne_of_lt (Nat.lt_of_lt_of_le (((f208.ext E214).keep Kc220).ext E228).lt f235)) nin0)))
      have f282 : Arv Z h259 va_206 ka_206 .long (3712 : Int32) (tab (upd (bk p1) zF)) (.long (0 : Int64)) := (f251.keep Kc259 (ninS (Nat.ne_of_lt (Nat.lt_of_lt_of_le ((f211.ext E214).keep Kc220 (ninS (Nat.ne_of_lt (Nat.lt_of_lt_of_le f211.lt (Nat.le_of_eq g214.symm))) nin0)).lt (Nat.le_of_eq g228.symm))) (ninS (Nat.ne_of_lt (Nat.lt_of_lt_of_le (((f211.ext E214).keep Kc220 (ninS (Nat.ne_of_lt (Nat.lt_of_lt_of_le f211.lt (Nat.le_of_eq g214.symm))) nin0)).ext E228).lt f235)) nin0)))
      have f283 : Old Z n0 h259 := ((((((((pr0.ext E200).keep Kc206 (allS (Nat.le_trans Z0 (Nat.le_trans (Keep.refl h0 []).1 (Nat.le_of_eq g200.symm))) all0)).ext E214).keep Kc220 (allS (Nat.le_trans Z0 (Nat.le_trans (Keep.trans kp205 Kc206 (allS (Or.inr (Nat.le_trans (Keep.refl h0 []).1 (Nat.le_of_eq g200.symm))) all0)).1 (Nat.le_of_eq g214.symm))) all0)).ext E228).keep Kc234 (allS (Nat.le_trans Z0 (Nat.le_trans (Keep.trans kp219 Kc220 (allS (Or.inr (Nat.le_trans (Keep.trans kp205 Kc206 (allS (Or.inr (Nat.le_trans (Keep.refl h0 []).1 (Nat.le_of_eq g200.symm))) all0)).1 (Nat.le_of_eq g214.symm))) all0)).1 (Nat.le_of_eq g228.symm))) all0)).keep Kc247 (allS (Nat.le_trans Z0 (Nat.le_trans (Keep.refl h0 []).1 (Nat.le_of_eq g200.symm))) (allS (Nat.le_trans Z0 (Nat.le_trans kp205.1 f207)) all0))).keep Kc259 (allS (Nat.le_trans Z0 (Nat.le_trans (Keep.trans kp219 Kc220 (allS (Or.inr (Nat.le_trans (Keep.trans kp205 Kc206 (allS (Or.inr (Nat.le_trans (Keep.refl h0 []).1 (Nat.le_of_eq g200.symm))) all0)).1 (Nat.le_of_eq g214.symm))) all0)).1 (Nat.le_of_eq g228.symm))) (allS (Nat.le_trans Z0 (Nat.le_trans kp233.1 f235)) all0)))
      obtain ⟨cq284, kq284, q284a, q284b, q284c⟩ := isOf hZ e277 f270
      obtain ⟨_, _, ⟨T284, L284, k284, n284⟩, -, X284', ⟨Lc284, hQ284, l284, y284, z284⟩, st284⟩ := X277.virtualBack hx (y := (⟨"com/example/tideshift/tideshift/cli/LatencyHistogram", "quantile", "(D)D"⟩ : MethodName)) (z := (⟨"com/example/tideshift/tideshift/cli/LatencyHistogram", "quantile", "(D)D"⟩ : MethodName)) hown (mvT hZ (hw _ (List.mem_of_getElem? (i := 38) rfl))) (mvT hZ (hw _ (List.mem_of_getElem? (i := 39) rfl))) (notFace_of_selects (args := #[]) (mvT hZ (hw _ (List.mem_of_getElem? (i := 41) rfl)))) (mvT hZ (hw _ (List.mem_of_getElem? (i := 41) rfl))) (mvT hZ (hw _ (List.mem_of_getElem? (i := 40) rfl))) (by decide) (backOf (W := 0) (rmQnt10 l Z a0 hw [] b200 va_206 ka_206 (upd (bk p1) zF) Jq0 h259 n0 (Nat.le_trans Z0 kp268.1) f270 f281 f273 f282 f283 pr1 hJq0 hJa0 hJb0) hZ (hw _ (List.mem_of_getElem? (i := 42) rfl)) (hw _ (List.mem_of_getElem? (i := 2) rfl)) (by decide) (by decide)) q284a q284c (g := (mkF m 166 #[.val (.long p1), .second, .val (.long p2), .second, .val (.int p3), .val (.int (1 : Int32)), .val (.int (0 : Int32)), .val (.ref b200), .val (.ref b214), .val (.ref b228), .val (.long (1 : Int64)), .second, .val (.int (1 : Int32))] [(.double (0 : UInt64)), (.ref b200)])) rfl (by rw [hml]; rfl) (Steps.refl _) (argsL := [(.double (0 : UInt64))]) (rest := []) (lenOf pd__D_D rfl) rfl (by show 2 * 0 + _ ≤ _; exact Nat.le_of_eq rfl) (hb hby at_166) (fun _ _ => ⟨rfl, e277, (by decide : 6 + 0 ≤ _), (by decide : 11142 + 0 ≤ _)⟩)
      dsimp only [Pt.U, Pt.locs, Pt.cells, Pt.slots] at X284' l284 y284 z284 st284 hQ284
      subst l284 y284 z284
      obtain ⟨rfl, N284q, e284⟩ := hQ284
      obtain ⟨lc284, X284, N284⟩ : ∃ lc, Stand p l e room_1 s m #[(.long p1), (.long p2), (.int p3)] below meth c T284 lc 6 11142 ∧ Fr n0 lc := ⟨_, X284', Fr.app N277 N284q⟩
      have K285 : Gx p e below s₁ f0 T284 (mkF m 169 #[.val (.long p1), .second, .val (.long p2), .second, .val (.int p3), .val (.int (1 : Int32)), .val (.int (0 : Int32)), .val (.ref b200), .val (.ref b214), .val (.ref b228), .val (.long (1 : Int64)), .second, .val (.int (1 : Int32))] [(.double (midF (Int32.ofNat Jq0)))]) := fun t kt => K280 t (st284.trans kt)
      have K286 : Gx p e below s₁ f0 T284 (mkF m 172 #[.val (.long p1), .second, .val (.long p2), .second, .val (.int p3), .val (.int (1 : Int32)), .val (.int (0 : Int32)), .val (.ref b200), .val (.ref b214), .val (.ref b228), .val (.long (1 : Int64)), .second, .val (.int (1 : Int32))] [(.double (0 : UInt64)), (.ref b228), (.double (midF (Int32.ofNat Jq0)))]) := fun t kt => K285 t (by
        show Steps p.tables e below (T284.setTop (mkF m 169 #[.val (.long p1), .second, .val (.long p2), .second, .val (.int p3), .val (.int (1 : Int32)), .val (.int (0 : Int32)), .val (.ref b200), .val (.ref b214), .val (.ref b228), .val (.long (1 : Int64)), .second, .val (.int (1 : Int32))] [(.double (midF (Int32.ofNat Jq0)))])) _
        refine XS.aload X284.here hx rfl (hb hby at_169) rfl rfl ?_
        show Steps p.tables e below (T284.setTop (mkF m 171 #[.val (.long p1), .second, .val (.long p2), .second, .val (.int p3), .val (.int (1 : Int32)), .val (.int (0 : Int32)), .val (.ref b200), .val (.ref b214), .val (.ref b228), .val (.long (1 : Int64)), .second, .val (.int (1 : Int32))] [(.ref b228), (.double (midF (Int32.ofNat Jq0)))])) _
        refine XS.dconst0 X284.here hx rfl (hb hby at_171) (v := (0 : UInt64)) (by decide +kernel) ?_
        exact kt)
      obtain ⟨cq287, kq287, q287a, q287b, q287c⟩ := isOf hZ e284 f260
      obtain ⟨_, _, ⟨T287, L287, k287, n287⟩, -, X287', ⟨Lc287, hQ287, l287, y287, z287⟩, st287⟩ := X284.virtualBack hx (y := (⟨"com/example/tideshift/tideshift/cli/LatencyHistogram", "quantile", "(D)D"⟩ : MethodName)) (z := (⟨"com/example/tideshift/tideshift/cli/LatencyHistogram", "quantile", "(D)D"⟩ : MethodName)) hown (mvT hZ (hw _ (List.mem_of_getElem? (i := 38) rfl))) (mvT hZ (hw _ (List.mem_of_getElem? (i := 39) rfl))) (notFace_of_selects (args := #[]) (mvT hZ (hw _ (List.mem_of_getElem? (i := 41) rfl)))) (mvT hZ (hw _ (List.mem_of_getElem? (i := 41) rfl))) (mvT hZ (hw _ (List.mem_of_getElem? (i := 40) rfl))) (by decide) (backOf (W := 2) (rmQnt10 l Z a0 hw [] b228 va_234 ka_234 (upd (bk p1) zF) Jq0 h259 n0 (Nat.le_trans Z0 kp268.1) f260 f261 f262 f263 f283 pr1 hJq0 hJa0 hJb0) hZ (hw _ (List.mem_of_getElem? (i := 42) rfl)) (hw _ (List.mem_of_getElem? (i := 2) rfl)) (by decide) (by decide)) q287a q287c (g := (mkF m 172 #[.val (.long p1), .second, .val (.long p2), .second, .val (.int p3), .val (.int (1 : Int32)), .val (.int (0 : Int32)), .val (.ref b200), .val (.ref b214), .val (.ref b228), .val (.long (1 : Int64)), .second, .val (.int (1 : Int32))] [(.double (0 : UInt64)), (.ref b228), (.double (midF (Int32.ofNat Jq0)))])) rfl (by rw [hml]; rfl) (Steps.refl _) (argsL := [(.double (0 : UInt64))]) (rest := [(.double (midF (Int32.ofNat Jq0)))]) (lenOf pd__D_D rfl) rfl (by show 2 * 0 + _ ≤ _; exact Nat.le_of_eq rfl) (hb hby at_172) (fun _ _ => ⟨rfl, e284, (by decide : 6 + 0 ≤ _), (by decide : 11142 + 0 ≤ _)⟩)
      dsimp only [Pt.U, Pt.locs, Pt.cells, Pt.slots] at X287' l287 y287 z287 st287 hQ287
      subst l287 y287 z287
      obtain ⟨rfl, N287q, e287⟩ := hQ287
      obtain ⟨lc287, X287, N287⟩ : ∃ lc, Stand p l e room_1 s m #[(.long p1), (.long p2), (.int p3)] below meth c T287 lc 6 11142 ∧ Fr n0 lc := ⟨_, X287', Fr.app N284 N287q⟩
      have K288 : Gx p e below s₁ f0 T287 (mkF m 175 #[.val (.long p1), .second, .val (.long p2), .second, .val (.int p3), .val (.int (1 : Int32)), .val (.int (0 : Int32)), .val (.ref b200), .val (.ref b214), .val (.ref b228), .val (.long (1 : Int64)), .second, .val (.int (1 : Int32))] [(.double (midF (Int32.ofNat Jq0))), (.double (midF (Int32.ofNat Jq0)))]) := fun t kt => K286 t (st287.trans kt)
      obtain ⟨_, _, ⟨T289, L289, k289, n289⟩, -, X289', ⟨Lc289, hQ289, l289, y289, z289⟩, st289⟩ := Jvm.LawKit.callS X287 hx (y := (⟨"com/example/tideshift/tideshift/cli/LatencyHistogramAddPinLaw", "same", "(DD)Z"⟩ : MethodName)) hown (mvT hZ (hw _ (List.mem_of_getElem? (i := 44) rfl))) (mvT hZ (hw _ (List.mem_of_getElem? (i := 45) rfl))) (mvT hZ (hw _ (List.mem_of_getElem? (i := 46) rfl))) (mvT hZ (hw _ (List.mem_of_getElem? (i := 47) rfl))) (by decide) (backOf (W := 0) (rmSam l Z a0 hw [] (midF (Int32.ofNat Jq0)) h259 n0 (Nat.le_trans Z0 kp268.1) ) hZ (hw _ (List.mem_of_getElem? (i := 47) rfl)) (hw _ (List.mem_of_getElem? (i := 46) rfl)) (by decide) (by decide)) (g := (mkF m 175 #[.val (.long p1), .second, .val (.long p2), .second, .val (.int p3), .val (.int (1 : Int32)), .val (.int (0 : Int32)), .val (.ref b200), .val (.ref b214), .val (.ref b228), .val (.long (1 : Int64)), .second, .val (.int (1 : Int32))] [(.double (midF (Int32.ofNat Jq0))), (.double (midF (Int32.ofNat Jq0)))])) rfl (by rw [hml]; rfl) (argsL := [(.double (midF (Int32.ofNat Jq0))), (.double (midF (Int32.ofNat Jq0)))]) (rest := []) (lenOf pd__DD_Z rfl) rfl (by show 2 * 0 + _ ≤ _; exact Nat.le_of_eq rfl) (hb hby at_175) (fun _ _ => ⟨rfl, e287, (by decide : 6 + 0 ≤ _), (by decide : 11142 + 0 ≤ _)⟩)
      dsimp only [Pt.U, Pt.locs, Pt.cells, Pt.slots] at X289' l289 y289 z289 st289 hQ289
      subst l289 y289 z289
      obtain ⟨rfl, N289q, e289⟩ := hQ289
      obtain ⟨lc289, X289, N289⟩ : ∃ lc, Stand p l e room_1 s m #[(.long p1), (.long p2), (.int p3)] below meth c T289 lc 6 11142 ∧ Fr n0 lc := ⟨_, X289', Fr.app N287 N289q⟩
      have K290 : Gx p e below s₁ f0 T289 (mkF m 178 #[.val (.long p1), .second, .val (.long p2), .second, .val (.int p3), .val (.int (1 : Int32)), .val (.int (0 : Int32)), .val (.ref b200), .val (.ref b214), .val (.ref b228), .val (.long (1 : Int64)), .second, .val (.int (1 : Int32))] [(.int (1 : Int32))]) := fun t kt => K288 t (st289 t kt)
      have K291 : Gx p e below s₁ f0 T289 (mkF m 181 #[.val (.long p1), .second, .val (.long p2), .second, .val (.int p3), .val (.int (1 : Int32)), .val (.int (0 : Int32)), .val (.ref b200), .val (.ref b214), .val (.ref b228), .val (.long (1 : Int64)), .second, .val (.int (1 : Int32))] []) := fun t kt => K290 t (by
        show Steps p.tables e below (T289.setTop (mkF m 178 #[.val (.long p1), .second, .val (.long p2), .second, .val (.int p3), .val (.int (1 : Int32)), .val (.int (0 : Int32)), .val (.ref b200), .val (.ref b214), .val (.ref b228), .val (.long (1 : Int64)), .second, .val (.int (1 : Int32))] [(.int (1 : Int32))])) _
        refine XS.ifNo X289.here hx rfl (hb hby at_178) rfl ((if0 _ _).trans (feq (by decide)).1) ?_
        exact kt)
      obtain ⟨Jq1, hJq1, hJa1, hJb1⟩ := own_find (upd (bk p1) zF) (1 : Int64) (by rw [prf1 p1]; decide)
      have K292 : Gx p e below s₁ f0 T289 (mkF m 184 #[.val (.long p1), .second, .val (.long p2), .second, .val (.int p3), .val (.int (1 : Int32)), .val (.int (0 : Int32)), .val (.ref b200), .val (.ref b214), .val (.ref b228), .val (.long (1 : Int64)), .second, .val (.int (1 : Int32))] [(.double (4607182418800017408 : UInt64)), (.ref b200)]) := fun t kt => K291 t (by
        show Steps p.tables e below (T289.setTop (mkF m 181 #[.val (.long p1), .second, .val (.long p2), .second, .val (.int p3), .val (.int (1 : Int32)), .val (.int (0 : Int32)), .val (.ref b200), .val (.ref b214), .val (.ref b228), .val (.long (1 : Int64)), .second, .val (.int (1 : Int32))] [])) _
        refine XS.aload X289.here hx rfl (hb hby at_181) rfl rfl ?_
        show Steps p.tables e below (T289.setTop (mkF m 183 #[.val (.long p1), .second, .val (.long p2), .second, .val (.int p3), .val (.int (1 : Int32)), .val (.int (0 : Int32)), .val (.ref b200), .val (.ref b214), .val (.ref b228), .val (.long (1 : Int64)), .second, .val (.int (1 : Int32))] [(.ref b200)])) _
        refine XS.dconst1 X289.here hx rfl (hb hby at_183) (v := (4607182418800017408 : UInt64)) (by decide +kernel) ?_
        exact kt)
      obtain ⟨cq293, kq293, q293a, q293b, q293c⟩ := isOf hZ e289 f270
      obtain ⟨_, _, ⟨T293, L293, k293, n293⟩, -, X293', ⟨Lc293, hQ293, l293, y293, z293⟩, st293⟩ := X289.virtualBack hx (y := (⟨"com/example/tideshift/tideshift/cli/LatencyHistogram", "quantile", "(D)D"⟩ : MethodName)) (z := (⟨"com/example/tideshift/tideshift/cli/LatencyHistogram", "quantile", "(D)D"⟩ : MethodName)) hown (mvT hZ (hw _ (List.mem_of_getElem? (i := 38) rfl))) (mvT hZ (hw _ (List.mem_of_getElem? (i := 39) rfl))) (notFace_of_selects (args := #[]) (mvT hZ (hw _ (List.mem_of_getElem? (i := 41) rfl)))) (mvT hZ (hw _ (List.mem_of_getElem? (i := 41) rfl))) (mvT hZ (hw _ (List.mem_of_getElem? (i := 40) rfl))) (by decide) (backOf (W := 0) (rmQnt11 l Z a0 hw [] b200 va_206 ka_206 (upd (bk p1) zF) Jq1 h259 n0 (Nat.le_trans Z0 kp268.1) f270 f281 f273 f282 f283 pr1 hJq1 hJa1 hJb1) hZ (hw _ (List.mem_of_getElem? (i := 42) rfl)) (hw _ (List.mem_of_getElem? (i := 2) rfl)) (by decide) (by decide)) q293a q293c (g := (mkF m 184 #[.val (.long p1), .second, .val (.long p2), .second, .val (.int p3), .val (.int (1 : Int32)), .val (.int (0 : Int32)), .val (.ref b200), .val (.ref b214), .val (.ref b228), .val (.long (1 : Int64)), .second, .val (.int (1 : Int32))] [(.double (4607182418800017408 : UInt64)), (.ref b200)])) rfl (by rw [hml]; rfl) (Steps.refl _) (argsL := [(.double (4607182418800017408 : UInt64))]) (rest := []) (lenOf pd__D_D rfl) rfl (by show 2 * 0 + _ ≤ _; exact Nat.le_of_eq rfl) (hb hby at_184) (fun _ _ => ⟨rfl, e289, (by decide : 6 + 0 ≤ _), (by decide : 11142 + 0 ≤ _)⟩)
      dsimp only [Pt.U, Pt.locs, Pt.cells, Pt.slots] at X293' l293 y293 z293 st293 hQ293
      subst l293 y293 z293
      obtain ⟨rfl, N293q, e293⟩ := hQ293
      obtain ⟨lc293, X293, N293⟩ : ∃ lc, Stand p l e room_1 s m #[(.long p1), (.long p2), (.int p3)] below meth c T293 lc 6 11142 ∧ Fr n0 lc := ⟨_, X293', Fr.app N289 N293q⟩
      have K294 : Gx p e below s₁ f0 T293 (mkF m 187 #[.val (.long p1), .second, .val (.long p2), .second, .val (.int p3), .val (.int (1 : Int32)), .val (.int (0 : Int32)), .val (.ref b200), .val (.ref b214), .val (.ref b228), .val (.long (1 : Int64)), .second, .val (.int (1 : Int32))] [(.double (midF (Int32.ofNat Jq1)))]) := fun t kt => K292 t (st293.trans kt)
      have K295 : Gx p e below s₁ f0 T293 (mkF m 190 #[.val (.long p1), .second, .val (.long p2), .second, .val (.int p3), .val (.int (1 : Int32)), .val (.int (0 : Int32)), .val (.ref b200), .val (.ref b214), .val (.ref b228), .val (.long (1 : Int64)), .second, .val (.int (1 : Int32))] [(.double (4607182418800017408 : UInt64)), (.ref b228), (.double (midF (Int32.ofNat Jq1)))]) := fun t kt => K294 t (by
        show Steps p.tables e below (T293.setTop (mkF m 187 #[.val (.long p1), .second, .val (.long p2), .second, .val (.int p3), .val (.int (1 : Int32)), .val (.int (0 : Int32)), .val (.ref b200), .val (.ref b214), .val (.ref b228), .val (.long (1 : Int64)), .second, .val (.int (1 : Int32))] [(.double (midF (Int32.ofNat Jq1)))])) _
        refine XS.aload X293.here hx rfl (hb hby at_187) rfl rfl ?_
        show Steps p.tables e below (T293.setTop (mkF m 189 #[.val (.long p1), .second, .val (.long p2), .second, .val (.int p3), .val (.int (1 : Int32)), .val (.int (0 : Int32)), .val (.ref b200), .val (.ref b214), .val (.ref b228), .val (.long (1 : Int64)), .second, .val (.int (1 : Int32))] [(.ref b228), (.double (midF (Int32.ofNat Jq1)))])) _
        refine XS.dconst1 X293.here hx rfl (hb hby at_189) (v := (4607182418800017408 : UInt64)) (by decide +kernel) ?_
        exact kt)
      obtain ⟨cq296, kq296, q296a, q296b, q296c⟩ := isOf hZ e293 f260
      obtain ⟨_, _, ⟨T296, L296, k296, n296⟩, -, X296', ⟨Lc296, hQ296, l296, y296, z296⟩, st296⟩ := X293.virtualBack hx (y := (⟨"com/example/tideshift/tideshift/cli/LatencyHistogram", "quantile", "(D)D"⟩ : MethodName)) (z := (⟨"com/example/tideshift/tideshift/cli/LatencyHistogram", "quantile", "(D)D"⟩ : MethodName)) hown (mvT hZ (hw _ (List.mem_of_getElem? (i := 38) rfl))) (mvT hZ (hw _ (List.mem_of_getElem? (i := 39) rfl))) (notFace_of_selects (args := #[]) (mvT hZ (hw _ (List.mem_of_getElem? (i := 41) rfl)))) (mvT hZ (hw _ (List.mem_of_getElem? (i := 41) rfl))) (mvT hZ (hw _ (List.mem_of_getElem? (i := 40) rfl))) (by decide) (backOf (W := 2) (rmQnt11 l Z a0 hw [] b228 va_234 ka_234 (upd (bk p1) zF) Jq1 h259 n0 (Nat.le_trans Z0 kp268.1) f260 f261 f262 f263 f283 pr1 hJq1 hJa1 hJb1) hZ (hw _ (List.mem_of_getElem? (i := 42) rfl)) (hw _ (List.mem_of_getElem? (i := 2) rfl)) (by decide) (by decide)) q296a q296c (g := (mkF m 190 #[.val (.long p1), .second, .val (.long p2), .second, .val (.int p3), .val (.int (1 : Int32)), .val (.int (0 : Int32)), .val (.ref b200), .val (.ref b214), .val (.ref b228), .val (.long (1 : Int64)), .second, .val (.int (1 : Int32))] [(.double (4607182418800017408 : UInt64)), (.ref b228), (.double (midF (Int32.ofNat Jq1)))])) rfl (by rw [hml]; rfl) (Steps.refl _) (argsL := [(.double (4607182418800017408 : UInt64))]) (rest := [(.double (midF (Int32.ofNat Jq1)))]) (lenOf pd__D_D rfl) rfl (by show 2 * 0 + _ ≤ _; exact Nat.le_of_eq rfl) (hb hby at_190) (fun _ _ => ⟨rfl, e293, (by decide : 6 + 0 ≤ _), (by decide : 11142 + 0 ≤ _)⟩)
      dsimp only [Pt.U, Pt.locs, Pt.cells, Pt.slots] at X296' l296 y296 z296 st296 hQ296
      subst l296 y296 z296
      obtain ⟨rfl, N296q, e296⟩ := hQ296
      obtain ⟨lc296, X296, N296⟩ : ∃ lc, Stand p l e room_1 s m #[(.long p1), (.long p2), (.int p3)] below meth c T296 lc 6 11142 ∧ Fr n0 lc := ⟨_, X296', Fr.app N293 N296q⟩
      have K297 : Gx p e below s₁ f0 T296 (mkF m 193 #[.val (.long p1), .second, .val (.long p2), .second, .val (.int p3), .val (.int (1 : Int32)), .val (.int (0 : Int32)), .val (.ref b200), .val (.ref b214), .val (.ref b228), .val (.long (1 : Int64)), .second, .val (.int (1 : Int32))] [(.double (midF (Int32.ofNat Jq1))), (.double (midF (Int32.ofNat Jq1)))]) := fun t kt => K295 t (st296.trans kt)
      obtain ⟨_, _, ⟨T298, L298, k298, n298⟩, -, X298', ⟨Lc298, hQ298, l298, y298, z298⟩, st298⟩ := Jvm.LawKit.callS X296 hx (y := (⟨"com/example/tideshift/tideshift/cli/LatencyHistogramAddPinLaw", "same", "(DD)Z"⟩ : MethodName)) hown (mvT hZ (hw _ (List.mem_of_getElem? (i := 44) rfl))) (mvT hZ (hw _ (List.mem_of_getElem? (i := 45) rfl))) (mvT hZ (hw _ (List.mem_of_getElem? (i := 46) rfl))) (mvT hZ (hw _ (List.mem_of_getElem? (i := 47) rfl))) (by decide) (backOf (W := 0) (rmSam l Z a0 hw [] (midF (Int32.ofNat Jq1)) h259 n0 (Nat.le_trans Z0 kp268.1) ) hZ (hw _ (List.mem_of_getElem? (i := 47) rfl)) (hw _ (List.mem_of_getElem? (i := 46) rfl)) (by decide) (by decide)) (g := (mkF m 193 #[.val (.long p1), .second, .val (.long p2), .second, .val (.int p3), .val (.int (1 : Int32)), .val (.int (0 : Int32)), .val (.ref b200), .val (.ref b214), .val (.ref b228), .val (.long (1 : Int64)), .second, .val (.int (1 : Int32))] [(.double (midF (Int32.ofNat Jq1))), (.double (midF (Int32.ofNat Jq1)))])) rfl (by rw [hml]; rfl) (argsL := [(.double (midF (Int32.ofNat Jq1))), (.double (midF (Int32.ofNat Jq1)))]) (rest := []) (lenOf pd__DD_Z rfl) rfl (by show 2 * 0 + _ ≤ _; exact Nat.le_of_eq rfl) (hb hby at_193) (fun _ _ => ⟨rfl, e296, (by decide : 6 + 0 ≤ _), (by decide : 11142 + 0 ≤ _)⟩)
      dsimp only [Pt.U, Pt.locs, Pt.cells, Pt.slots] at X298' l298 y298 z298 st298 hQ298
      subst l298 y298 z298
      obtain ⟨rfl, N298q, e298⟩ := hQ298
      obtain ⟨lc298, X298, N298⟩ : ∃ lc, Stand p l e room_1 s m #[(.long p1), (.long p2), (.int p3)] below meth c T298 lc 6 11142 ∧ Fr n0 lc := ⟨_, X298', Fr.app N296 N298q⟩
      have K299 : Gx p e below s₁ f0 T298 (mkF m 196 #[.val (.long p1), .second, .val (.long p2), .second, .val (.int p3), .val (.int (1 : Int32)), .val (.int (0 : Int32)), .val (.ref b200), .val (.ref b214), .val (.ref b228), .val (.long (1 : Int64)), .second, .val (.int (1 : Int32))] [(.int (1 : Int32))]) := fun t kt => K297 t (st298 t kt)
      have K300 : Gx p e below s₁ f0 T298 (mkF m 204 #[.val (.long p1), .second, .val (.long p2), .second, .val (.int p3), .val (.int (1 : Int32)), .val (.int (0 : Int32)), .val (.ref b200), .val (.ref b214), .val (.ref b228), .val (.long (1 : Int64)), .second, .val (.int (1 : Int32))] [(.int (1 : Int32))]) := fun t kt => K299 t (by
        show Steps p.tables e below (T298.setTop (mkF m 196 #[.val (.long p1), .second, .val (.long p2), .second, .val (.int p3), .val (.int (1 : Int32)), .val (.int (0 : Int32)), .val (.ref b200), .val (.ref b214), .val (.ref b228), .val (.long (1 : Int64)), .second, .val (.int (1 : Int32))] [(.int (1 : Int32))])) _
        refine XS.ifNo X298.here hx rfl (hb hby at_196) rfl ((if0 _ _).trans (feq (by decide)).1) ?_
        show Steps p.tables e below (T298.setTop (mkF m 199 #[.val (.long p1), .second, .val (.long p2), .second, .val (.int p3), .val (.int (1 : Int32)), .val (.int (0 : Int32)), .val (.ref b200), .val (.ref b214), .val (.ref b228), .val (.long (1 : Int64)), .second, .val (.int (1 : Int32))] [])) _
        refine XS.iconst X298.here hx rfl (hb hby at_199) ?_
        show Steps p.tables e below (T298.setTop (mkF m 200 #[.val (.long p1), .second, .val (.long p2), .second, .val (.int p3), .val (.int (1 : Int32)), .val (.int (0 : Int32)), .val (.ref b200), .val (.ref b214), .val (.ref b228), .val (.long (1 : Int64)), .second, .val (.int (1 : Int32))] [(.int (1 : Int32))])) _
        refine XS.goto X298.here hx rfl (pc0 := 200) (pc' := 204) rfl (hb hby at_200) (by decide) (by decide) ?_
        exact kt)
      obtain ⟨fs301, hr301, hrun301, hended301, hW301, hsame301⟩ := X298.leave (v := some (.int (1 : Int32))) (fun h => by rw [Bd.returns] at h; cases h)
      refine ⟨_, _, pre0 _ (K300 _ ?_), hrun301, hended301, _, _, rfl, ?_, ⟨_, rfl⟩, hW301, hsame301.mono (by decide) (by decide)⟩
      · exact retN X298 hx (t := .boolean) Bd.returns (by simp) (hb hby at_204) hr301
      · show Q0 Z p1 p2 p3 h0 n0 _ T298.heap _
        rw [e298]
        exact ⟨rfl, N298⟩
    · skip
      have K302 : Gx p e below s₁ f0 s₁ (mkF m 28 #[.val (.long p1), .second, .val (.long p2), .second, .val (.int p3), .val (.int (1 : Int32)), .val (.int (1 : Int32)), .unset, .unset, .unset, .unset, .unset, .unset] []) := fun t kt => K197 t (by
        show Steps p.tables e below (s₁.setTop (mkF m 18 #[.val (.long p1), .second, .val (.long p2), .second, .val (.int p3), .val (.int (1 : Int32)), .unset, .unset, .unset, .unset, .unset, .unset, .unset] [(.int (p3 &&& (2 : Int32)))])) _
        refine XS.ifNo X0.here hx rfl (hb hby at_18) rfl ((if0 _ _).trans (feq hb198).1) ?_
        show Steps p.tables e below (s₁.setTop (mkF m 21 #[.val (.long p1), .second, .val (.long p2), .second, .val (.int p3), .val (.int (1 : Int32)), .unset, .unset, .unset, .unset, .unset, .unset, .unset] [])) _
        refine XS.iconst X0.here hx rfl (hb hby at_21) ?_
        show Steps p.tables e below (s₁.setTop (mkF m 22 #[.val (.long p1), .second, .val (.long p2), .second, .val (.int p3), .val (.int (1 : Int32)), .unset, .unset, .unset, .unset, .unset, .unset, .unset] [(.int (1 : Int32))])) _
        refine XS.goto X0.here hx rfl (pc0 := 22) (pc' := 26) rfl (hb hby at_22) (by decide) (by decide) ?_
        show Steps p.tables e below (s₁.setTop (mkF m 26 #[.val (.long p1), .second, .val (.long p2), .second, .val (.int p3), .val (.int (1 : Int32)), .unset, .unset, .unset, .unset, .unset, .unset, .unset] [(.int (1 : Int32))])) _
        refine XS.istore X0.here hx rfl (hb hby at_26) rfl (l' := #[.val (.long p1), .second, .val (.long p2), .second, .val (.int p3), .val (.int (1 : Int32)), .val (.int (1 : Int32)), .unset, .unset, .unset, .unset, .unset, .unset]) rfl ?_
        exact kt)
      obtain ⟨T303, h303, X303, e303, E303, A303, D303, -, st303⟩ := newO X0 hx hZ hown (hw _ (List.mem_of_getElem? (i := 0) rfl)) (hw _ (List.mem_of_getElem? (i := 1) rfl)) (hw _ (List.mem_of_getElem? (i := 2) rfl)) e0 (g := (mkF m 28 #[.val (.long p1), .second, .val (.long p2), .second, .val (.int p3), .val (.int (1 : Int32)), .val (.int (1 : Int32)), .unset, .unset, .unset, .unset, .unset, .unset] [])) rfl (hb hby at_28) (by decide) (by decide)
      obtain ⟨b303, g303⟩ : ∃ z, z = h0.size := ⟨_, rfl⟩
      rw [← g303] at A303 D303 st303
      have f304 : Fld Z h303 b303 "com/example/tideshift/tideshift/cli/LatencyHistogram" "counts" "[J" .null := D303 (Or.inr (hw _ (List.mem_of_getElem? (i := 25) rfl))) (ty := (.array .long)) (by decide)
      have f305 : Fld Z h303 b303 "com/example/tideshift/tideshift/cli/LatencyHistogram" "count" "J" (.long (0 : Int64)) := D303 (Or.inl (hw _ (List.mem_of_getElem? (i := 32) rfl))) (ty := .long) (by decide)
      have K306 : Gx p e below s₁ f0 T303 (mkF m 31 #[.val (.long p1), .second, .val (.long p2), .second, .val (.int p3), .val (.int (1 : Int32)), .val (.int (1 : Int32)), .unset, .unset, .unset, .unset, .unset, .unset] [(.ref b303)]) := fun t kt => K302 t (st303 t kt)
      have K307 : Gx p e below s₁ f0 T303 (mkF m 32 #[.val (.long p1), .second, .val (.long p2), .second, .val (.int p3), .val (.int (1 : Int32)), .val (.int (1 : Int32)), .unset, .unset, .unset, .unset, .unset, .unset] [(.ref b303), (.ref b303)]) := fun t kt => K306 t (by
        show Steps p.tables e below (T303.setTop (mkF m 31 #[.val (.long p1), .second, .val (.long p2), .second, .val (.int p3), .val (.int (1 : Int32)), .val (.int (1 : Int32)), .unset, .unset, .unset, .unset, .unset, .unset] [(.ref b303)])) _
        refine XS.dup X303.here hx rfl (hb hby at_31) rfl rfl ?_
        exact kt)
      have kp308 : Keep h0 h303 [] := ((Keep.refl h0 []).ext E303)
      obtain ⟨_, _, ⟨T309, L309, k309, n309⟩, -, X309', ⟨Lc309, hQ309, l309, y309, z309⟩, st309⟩ := X303.specialBack hx (y := (⟨"com/example/tideshift/tideshift/cli/LatencyHistogram", "<init>", "()V"⟩ : MethodName)) rfl hown (mvT hZ (hw _ (List.mem_of_getElem? (i := 3) rfl))) (mvT hZ (hw _ (List.mem_of_getElem? (i := 4) rfl))) (mvT hZ (hw _ (List.mem_of_getElem? (i := 5) rfl))) (by decide) (backOf (W := 1) (rmIni l Z a0 hw [] b303 h303 n0 (Nat.le_trans Z0 kp308.1) (Nat.le_trans Z0 (Nat.le_trans (Keep.refl h0 []).1 (Nat.le_of_eq g303.symm))) A303 f304 f305) hZ (hw _ (List.mem_of_getElem? (i := 5) rfl)) (hw _ (List.mem_of_getElem? (i := 2) rfl)) (by decide) (by decide)) (g := (mkF m 32 #[.val (.long p1), .second, .val (.long p2), .second, .val (.int p3), .val (.int (1 : Int32)), .val (.int (1 : Int32)), .unset, .unset, .unset, .unset, .unset, .unset] [(.ref b303), (.ref b303)])) rfl (by rw [hml]; rfl) (Steps.refl _) (a := b303) (argsL := []) (rest := [(.ref b303)]) (lenOf pd___V rfl) rfl (by show 2 * 0 + _ ≤ _; exact Nat.le_of_eq rfl) (hb hby at_32) (fun _ _ => ⟨rfl, e303, (by decide : 1 + 1 ≤ _), (by decide : 2 + 3712 ≤ _)⟩)
      dsimp only [Pt.U, Pt.locs, Pt.cells, Pt.slots] at X309' l309 y309 z309 st309 hQ309
      subst l309 y309 z309
      obtain ⟨h309, e309⟩ : ∃ z, T309.heap = z := ⟨_, rfl⟩
      rw [e309] at hQ309
      obtain ⟨va_309, ka_309, rfl, N309q, Kc309, f310, f311, f312, f313, f314⟩ := hQ309
      obtain ⟨lc309, X309, N309⟩ : ∃ lc, Stand p l e room_1 s m #[(.long p1), (.long p2), (.int p3)] below meth c T309 lc 2 3714 ∧ Fr n0 lc := ⟨_, X309', Fr.app N0 N309q⟩
      have K315 : Gx p e below s₁ f0 T309 (mkF m 35 #[.val (.long p1), .second, .val (.long p2), .second, .val (.int p3), .val (.int (1 : Int32)), .val (.int (1 : Int32)), .unset, .unset, .unset, .unset, .unset, .unset] [(.ref b303)]) := fun t kt => K307 t (st309.trans kt)
      have K316 : Gx p e below s₁ f0 T309 (mkF m 37 #[.val (.long p1), .second, .val (.long p2), .second, .val (.int p3), .val (.int (1 : Int32)), .val (.int (1 : Int32)), .val (.ref b303), .unset, .unset, .unset, .unset, .unset] []) := fun t kt => K315 t (by
        show Steps p.tables e below (T309.setTop (mkF m 35 #[.val (.long p1), .second, .val (.long p2), .second, .val (.int p3), .val (.int (1 : Int32)), .val (.int (1 : Int32)), .unset, .unset, .unset, .unset, .unset, .unset] [(.ref b303)])) _
        refine XS.astore X309.here hx rfl (hb hby at_35) rfl rfl (l' := #[.val (.long p1), .second, .val (.long p2), .second, .val (.int p3), .val (.int (1 : Int32)), .val (.int (1 : Int32)), .val (.ref b303), .unset, .unset, .unset, .unset, .unset]) rfl ?_
        exact kt)
      obtain ⟨T317, h317, X317, e317, E317, A317, D317, -, st317⟩ := newO X309 hx hZ hown (hw _ (List.mem_of_getElem? (i := 0) rfl)) (hw _ (List.mem_of_getElem? (i := 1) rfl)) (hw _ (List.mem_of_getElem? (i := 2) rfl)) e309 (g := (mkF m 37 #[.val (.long p1), .second, .val (.long p2), .second, .val (.int p3), .val (.int (1 : Int32)), .val (.int (1 : Int32)), .val (.ref b303), .unset, .unset, .unset, .unset, .unset] [])) rfl (hb hby at_37) (by decide) (by decide)
      obtain ⟨b317, g317⟩ : ∃ z, z = h309.size := ⟨_, rfl⟩
      rw [← g317] at A317 D317 st317
      have f318 : Fld Z h317 b317 "com/example/tideshift/tideshift/cli/LatencyHistogram" "counts" "[J" .null := D317 (Or.inr (hw _ (List.mem_of_getElem? (i := 25) rfl))) (ty := (.array .long)) (by decide)
      have f319 : Fld Z h317 b317 "com/example/tideshift/tideshift/cli/LatencyHistogram" "count" "J" (.long (0 : Int64)) := D317 (Or.inl (hw _ (List.mem_of_getElem? (i := 32) rfl))) (ty := .long) (by decide)
      have K320 : Gx p e below s₁ f0 T317 (mkF m 40 #[.val (.long p1), .second, .val (.long p2), .second, .val (.int p3), .val (.int (1 : Int32)), .val (.int (1 : Int32)), .val (.ref b303), .unset, .unset, .unset, .unset, .unset] [(.ref b317)]) := fun t kt => K316 t (st317 t kt)
      have K321 : Gx p e below s₁ f0 T317 (mkF m 41 #[.val (.long p1), .second, .val (.long p2), .second, .val (.int p3), .val (.int (1 : Int32)), .val (.int (1 : Int32)), .val (.ref b303), .unset, .unset, .unset, .unset, .unset] [(.ref b317), (.ref b317)]) := fun t kt => K320 t (by
        show Steps p.tables e below (T317.setTop (mkF m 40 #[.val (.long p1), .second, .val (.long p2), .second, .val (.int p3), .val (.int (1 : Int32)), .val (.int (1 : Int32)), .val (.ref b303), .unset, .unset, .unset, .unset, .unset] [(.ref b317)])) _
        refine XS.dup X317.here hx rfl (hb hby at_40) rfl rfl ?_
        exact kt)
      have kp322 : Keep h0 h317 [] := ((Keep.trans kp308 Kc309 (allS (Or.inr (Nat.le_trans (Keep.refl h0 []).1 (Nat.le_of_eq g303.symm))) all0)).ext E317)
      obtain ⟨_, _, ⟨T323, L323, k323, n323⟩, -, X323', ⟨Lc323, hQ323, l323, y323, z323⟩, st323⟩ := X317.specialBack hx (y := (⟨"com/example/tideshift/tideshift/cli/LatencyHistogram", "<init>", "()V"⟩ : MethodName)) rfl hown (mvT hZ (hw _ (List.mem_of_getElem? (i := 3) rfl))) (mvT hZ (hw _ (List.mem_of_getElem? (i := 4) rfl))) (mvT hZ (hw _ (List.mem_of_getElem? (i := 5) rfl))) (by decide) (backOf (W := 1) (rmIni l Z a0 hw [] b317 h317 n0 (Nat.le_trans Z0 kp322.1) (Nat.le_trans Z0 (Nat.le_trans (Keep.trans kp308 Kc309 (allS (Or.inr (Nat.le_trans (Keep.refl h0 []).1 (Nat.le_of_eq g303.symm))) all0)).1 (Nat.le_of_eq g317.symm))) A317 f318 f319) hZ (hw _ (List.mem_of_getElem? (i := 5) rfl)) (hw _ (List.mem_of_getElem? (i := 2) rfl)) (by decide) (by decide)) (g := (mkF m 41 #[.val (.long p1), .second, .val (.long p2), .second, .val (.int p3), .val (.int (1 : Int32)), .val (.int (1 : Int32)), .val (.ref b303), .unset, .unset, .unset, .unset, .unset] [(.ref b317), (.ref b317)])) rfl (by rw [hml]; rfl) (Steps.refl _) (a := b317) (argsL := []) (rest := [(.ref b317)]) (lenOf pd___V rfl) rfl (by show 2 * 0 + _ ≤ _; exact Nat.le_of_eq rfl) (hb hby at_41) (fun _ _ => ⟨rfl, e317, (by decide : 3 + 1 ≤ _), (by decide : 3716 + 3712 ≤ _)⟩)
      dsimp only [Pt.U, Pt.locs, Pt.cells, Pt.slots] at X323' l323 y323 z323 st323 hQ323
      subst l323 y323 z323
      obtain ⟨h323, e323⟩ : ∃ z, T323.heap = z := ⟨_, rfl⟩
      rw [e323] at hQ323
      obtain ⟨va_323, ka_323, rfl, N323q, Kc323, f324, f325, f326, f327, f328⟩ := hQ323
      obtain ⟨lc323, X323, N323⟩ : ∃ lc, Stand p l e room_1 s m #[(.long p1), (.long p2), (.int p3)] below meth c T323 lc 4 7428 ∧ Fr n0 lc := ⟨_, X323', Fr.app N309 N323q⟩
      have K329 : Gx p e below s₁ f0 T323 (mkF m 44 #[.val (.long p1), .second, .val (.long p2), .second, .val (.int p3), .val (.int (1 : Int32)), .val (.int (1 : Int32)), .val (.ref b303), .unset, .unset, .unset, .unset, .unset] [(.ref b317)]) := fun t kt => K321 t (st323.trans kt)
      have K330 : Gx p e below s₁ f0 T323 (mkF m 46 #[.val (.long p1), .second, .val (.long p2), .second, .val (.int p3), .val (.int (1 : Int32)), .val (.int (1 : Int32)), .val (.ref b303), .val (.ref b317), .unset, .unset, .unset, .unset] []) := fun t kt => K329 t (by
        show Steps p.tables e below (T323.setTop (mkF m 44 #[.val (.long p1), .second, .val (.long p2), .second, .val (.int p3), .val (.int (1 : Int32)), .val (.int (1 : Int32)), .val (.ref b303), .unset, .unset, .unset, .unset, .unset] [(.ref b317)])) _
        refine XS.astore X323.here hx rfl (hb hby at_44) rfl rfl (l' := #[.val (.long p1), .second, .val (.long p2), .second, .val (.int p3), .val (.int (1 : Int32)), .val (.int (1 : Int32)), .val (.ref b303), .val (.ref b317), .unset, .unset, .unset, .unset]) rfl ?_
        exact kt)
      obtain ⟨T331, h331, X331, e331, E331, A331, D331, -, st331⟩ := newO X323 hx hZ hown (hw _ (List.mem_of_getElem? (i := 0) rfl)) (hw _ (List.mem_of_getElem? (i := 1) rfl)) (hw _ (List.mem_of_getElem? (i := 2) rfl)) e323 (g := (mkF m 46 #[.val (.long p1), .second, .val (.long p2), .second, .val (.int p3), .val (.int (1 : Int32)), .val (.int (1 : Int32)), .val (.ref b303), .val (.ref b317), .unset, .unset, .unset, .unset] [])) rfl (hb hby at_46) (by decide) (by decide)
      obtain ⟨b331, g331⟩ : ∃ z, z = h323.size := ⟨_, rfl⟩
      rw [← g331] at A331 D331 st331
      have f332 : Fld Z h331 b331 "com/example/tideshift/tideshift/cli/LatencyHistogram" "counts" "[J" .null := D331 (Or.inr (hw _ (List.mem_of_getElem? (i := 25) rfl))) (ty := (.array .long)) (by decide)
      have f333 : Fld Z h331 b331 "com/example/tideshift/tideshift/cli/LatencyHistogram" "count" "J" (.long (0 : Int64)) := D331 (Or.inl (hw _ (List.mem_of_getElem? (i := 32) rfl))) (ty := .long) (by decide)
      have K334 : Gx p e below s₁ f0 T331 (mkF m 49 #[.val (.long p1), .second, .val (.long p2), .second, .val (.int p3), .val (.int (1 : Int32)), .val (.int (1 : Int32)), .val (.ref b303), .val (.ref b317), .unset, .unset, .unset, .unset] [(.ref b331)]) := fun t kt => K330 t (st331 t kt)
      have K335 : Gx p e below s₁ f0 T331 (mkF m 50 #[.val (.long p1), .second, .val (.long p2), .second, .val (.int p3), .val (.int (1 : Int32)), .val (.int (1 : Int32)), .val (.ref b303), .val (.ref b317), .unset, .unset, .unset, .unset] [(.ref b331), (.ref b331)]) := fun t kt => K334 t (by
        show Steps p.tables e below (T331.setTop (mkF m 49 #[.val (.long p1), .second, .val (.long p2), .second, .val (.int p3), .val (.int (1 : Int32)), .val (.int (1 : Int32)), .val (.ref b303), .val (.ref b317), .unset, .unset, .unset, .unset] [(.ref b331)])) _
        refine XS.dup X331.here hx rfl (hb hby at_49) rfl rfl ?_
        exact kt)
      have kp336 : Keep h0 h331 [] := ((Keep.trans kp322 Kc323 (allS (Or.inr (Nat.le_trans (Keep.trans kp308 Kc309 (allS (Or.inr (Nat.le_trans (Keep.refl h0 []).1 (Nat.le_of_eq g303.symm))) all0)).1 (Nat.le_of_eq g317.symm))) all0)).ext E331)
      obtain ⟨_, _, ⟨T337, L337, k337, n337⟩, -, X337', ⟨Lc337, hQ337, l337, y337, z337⟩, st337⟩ := X331.specialBack hx (y := (⟨"com/example/tideshift/tideshift/cli/LatencyHistogram", "<init>", "()V"⟩ : MethodName)) rfl hown (mvT hZ (hw _ (List.mem_of_getElem? (i := 3) rfl))) (mvT hZ (hw _ (List.mem_of_getElem? (i := 4) rfl))) (mvT hZ (hw _ (List.mem_of_getElem? (i := 5) rfl))) (by decide) (backOf (W := 1) (rmIni l Z a0 hw [] b331 h331 n0 (Nat.le_trans Z0 kp336.1) (Nat.le_trans Z0 (Nat.le_trans (Keep.trans kp322 Kc323 (allS (Or.inr (Nat.le_trans (Keep.trans kp308 Kc309 (allS (Or.inr (Nat.le_trans (Keep.refl h0 []).1 (Nat.le_of_eq g303.symm))) all0)).1 (Nat.le_of_eq g317.symm))) all0)).1 (Nat.le_of_eq g331.symm))) A331 f332 f333) hZ (hw _ (List.mem_of_getElem? (i := 5) rfl)) (hw _ (List.mem_of_getElem? (i := 2) rfl)) (by decide) (by decide)) (g := (mkF m 50 #[.val (.long p1), .second, .val (.long p2), .second, .val (.int p3), .val (.int (1 : Int32)), .val (.int (1 : Int32)), .val (.ref b303), .val (.ref b317), .unset, .unset, .unset, .unset] [(.ref b331), (.ref b331)])) rfl (by rw [hml]; rfl) (Steps.refl _) (a := b331) (argsL := []) (rest := [(.ref b331)]) (lenOf pd___V rfl) rfl (by show 2 * 0 + _ ≤ _; exact Nat.le_of_eq rfl) (hb hby at_50) (fun _ _ => ⟨rfl, e331, (by decide : 5 + 1 ≤ _), (by decide : 7430 + 3712 ≤ _)⟩)
      dsimp only [Pt.U, Pt.locs, Pt.cells, Pt.slots] at X337' l337 y337 z337 st337 hQ337
      subst l337 y337 z337
      obtain ⟨h337, e337⟩ : ∃ z, T337.heap = z := ⟨_, rfl⟩
      rw [e337] at hQ337
      obtain ⟨va_337, ka_337, rfl, N337q, Kc337, f338, f339, f340, f341, f342⟩ := hQ337
      obtain ⟨lc337, X337, N337⟩ : ∃ lc, Stand p l e room_1 s m #[(.long p1), (.long p2), (.int p3)] below meth c T337 lc 6 11142 ∧ Fr n0 lc := ⟨_, X337', Fr.app N323 N337q⟩
      have K343 : Gx p e below s₁ f0 T337 (mkF m 53 #[.val (.long p1), .second, .val (.long p2), .second, .val (.int p3), .val (.int (1 : Int32)), .val (.int (1 : Int32)), .val (.ref b303), .val (.ref b317), .unset, .unset, .unset, .unset] [(.ref b331)]) := fun t kt => K335 t (st337.trans kt)
      have K344 : Gx p e below s₁ f0 T337 (mkF m 63 #[.val (.long p1), .second, .val (.long p2), .second, .val (.int p3), .val (.int (1 : Int32)), .val (.int (1 : Int32)), .val (.ref b303), .val (.ref b317), .val (.ref b331), .unset, .unset, .unset] [(.long p1), (.ref b303)]) := fun t kt => K343 t (by
        show Steps p.tables e below (T337.setTop (mkF m 53 #[.val (.long p1), .second, .val (.long p2), .second, .val (.int p3), .val (.int (1 : Int32)), .val (.int (1 : Int32)), .val (.ref b303), .val (.ref b317), .unset, .unset, .unset, .unset] [(.ref b331)])) _
        refine XS.astore X337.here hx rfl (hb hby at_53) rfl rfl (l' := #[.val (.long p1), .second, .val (.long p2), .second, .val (.int p3), .val (.int (1 : Int32)), .val (.int (1 : Int32)), .val (.ref b303), .val (.ref b317), .val (.ref b331), .unset, .unset, .unset]) rfl ?_
        show Steps p.tables e below (T337.setTop (mkF m 55 #[.val (.long p1), .second, .val (.long p2), .second, .val (.int p3), .val (.int (1 : Int32)), .val (.int (1 : Int32)), .val (.ref b303), .val (.ref b317), .val (.ref b331), .unset, .unset, .unset] [])) _
        refine XS.iload X337.here hx rfl (hb hby at_55) rfl ?_
        show Steps p.tables e below (T337.setTop (mkF m 57 #[.val (.long p1), .second, .val (.long p2), .second, .val (.int p3), .val (.int (1 : Int32)), .val (.int (1 : Int32)), .val (.ref b303), .val (.ref b317), .val (.ref b331), .unset, .unset, .unset] [(.int (1 : Int32))])) _
        refine XS.ifNo X337.here hx rfl (hb hby at_57) rfl ((if0 _ _).trans (feq (by decide)).1) ?_
        show Steps p.tables e below (T337.setTop (mkF m 60 #[.val (.long p1), .second, .val (.long p2), .second, .val (.int p3), .val (.int (1 : Int32)), .val (.int (1 : Int32)), .val (.ref b303), .val (.ref b317), .val (.ref b331), .unset, .unset, .unset] [])) _
        refine XS.aload X337.here hx rfl (hb hby at_60) rfl rfl ?_
        show Steps p.tables e below (T337.setTop (mkF m 62 #[.val (.long p1), .second, .val (.long p2), .second, .val (.int p3), .val (.int (1 : Int32)), .val (.int (1 : Int32)), .val (.ref b303), .val (.ref b317), .val (.ref b331), .unset, .unset, .unset] [(.ref b303)])) _
        refine XS.lloadN X337.here hx rfl (hb hby at_62) rfl ?_
        exact kt)
      have f345 : Exa Z h337 b303 "com/example/tideshift/tideshift/cli/LatencyHistogram" := ((((f311.ext E317).keep Kc323).ext E331).keep Kc337)
      have f346 : Fld Z h337 b303 "com/example/tideshift/tideshift/cli/LatencyHistogram" "counts" "[J" (.ref va_309) := ((((f312.ext E317).keep Kc323 (ninS (Nat.ne_of_lt (Nat.lt_of_lt_of_le f311.lt (Nat.le_of_eq g317.symm))) nin0)).ext E331).keep Kc337 (ninS (Nat.ne_of_lt (Nat.lt_of_lt_of_le ((f311.ext E317).keep Kc323).lt (Nat.le_of_eq g331.symm))) nin0))
      have f347 : Fld Z h337 b303 "com/example/tideshift/tideshift/cli/LatencyHistogram" "count" "J" (.long (0 : Int64)) := ((((f313.ext E317).keep Kc323 (ninS (Nat.ne_of_lt (Nat.lt_of_lt_of_le f311.lt (Nat.le_of_eq g317.symm))) nin0)).ext E331).keep Kc337 (ninS (Nat.ne_of_lt (Nat.lt_of_lt_of_le ((f311.ext E317).keep Kc323).lt (Nat.le_of_eq g331.symm))) nin0))
      have f348 : Arv Z h337 va_309 ka_309 .long (3712 : Int32) (tab zF) (.long (0 : Int64)) := ((((f314.ext E317).keep Kc323 (ninS (Nat.ne_of_lt (Nat.lt_of_lt_of_le f314.lt (Nat.le_of_eq g317.symm))) nin0)).ext E331).keep Kc337 (ninS (Nat.ne_of_lt (Nat.lt_of_lt_of_le ((f314.ext E317).keep Kc323 (ninS (Nat.ne_of_lt (Nat.lt_of_lt_of_le f314.lt (Nat.le_of_eq g317.symm))) nin0)).lt (Nat.le_of_eq g331.symm))) nin0))
      have kp349 : Keep h0 h337 [] := (Keep.trans kp336 Kc337 (allS (Or.inr (Nat.le_trans (Keep.trans kp322 Kc323 (allS (Or.inr (Nat.le_trans (Keep.trans kp308 Kc309 (allS (Or.inr (Nat.le_trans (Keep.refl h0 []).1 (Nat.le_of_eq g303.symm))) all0)).1 (Nat.le_of_eq g317.symm))) all0)).1 (Nat.le_of_eq g331.symm))) all0))
      obtain ⟨cq350, kq350, q350a, q350b, q350c⟩ := isOf hZ e337 f345
      obtain ⟨_, _, ⟨T350, L350, k350, n350⟩, -, X350', ⟨Lc350, hQ350, l350, y350, z350⟩, st350⟩ := X337.virtualBack hx (y := (⟨"com/example/tideshift/tideshift/cli/LatencyHistogram", "record", "(J)V"⟩ : MethodName)) (z := (⟨"com/example/tideshift/tideshift/cli/LatencyHistogram", "record", "(J)V"⟩ : MethodName)) hown (mvT hZ (hw _ (List.mem_of_getElem? (i := 48) rfl))) (mvT hZ (hw _ (List.mem_of_getElem? (i := 49) rfl))) (notFace_of_selects (args := #[]) (mvT hZ (hw _ (List.mem_of_getElem? (i := 51) rfl)))) (mvT hZ (hw _ (List.mem_of_getElem? (i := 51) rfl))) (mvT hZ (hw _ (List.mem_of_getElem? (i := 50) rfl))) (by decide) (backOf (W := 0) (rmRec0 l Z a0 hw [] b303 p1 va_309 ka_309 zF h337 n0 (Nat.le_trans Z0 kp349.1) f345 f346 f347 f348 (Nat.le_trans Z0 (Nat.le_trans (Keep.refl h0 []).1 (Nat.le_of_eq g303.symm))) (Nat.le_trans Z0 (Nat.le_trans kp308.1 f310))) hZ (hw _ (List.mem_of_getElem? (i := 52) rfl)) (hw _ (List.mem_of_getElem? (i := 2) rfl)) (by decide) (by decide)) q350a q350c (g := (mkF m 63 #[.val (.long p1), .second, .val (.long p2), .second, .val (.int p3), .val (.int (1 : Int32)), .val (.int (1 : Int32)), .val (.ref b303), .val (.ref b317), .val (.ref b331), .unset, .unset, .unset] [(.long p1), (.ref b303)])) rfl (by rw [hml]; rfl) (Steps.refl _) (argsL := [(.long p1)]) (rest := []) (lenOf pd__J_V rfl) rfl (by show 2 * 0 + _ ≤ _; exact Nat.le_of_eq rfl) (hb hby at_63) (fun _ _ => ⟨rfl, e337, (by decide : 6 + 0 ≤ _), (by decide : 11142 + 0 ≤ _)⟩)
      dsimp only [Pt.U, Pt.locs, Pt.cells, Pt.slots] at X350' l350 y350 z350 st350 hQ350
      subst l350 y350 z350
      obtain ⟨h350, e350⟩ : ∃ z, T350.heap = z := ⟨_, rfl⟩
      rw [e350] at hQ350
      obtain ⟨rfl, N350q, Kc350, f351, f352, f353, f354⟩ := hQ350
      obtain ⟨lc350, X350, N350⟩ : ∃ lc, Stand p l e room_1 s m #[(.long p1), (.long p2), (.int p3)] below meth c T350 lc 6 11142 ∧ Fr n0 lc := ⟨_, X350', Fr.app N337 N350q⟩
      have K355 : Gx p e below s₁ f0 T350 (mkF m 66 #[.val (.long p1), .second, .val (.long p2), .second, .val (.int p3), .val (.int (1 : Int32)), .val (.int (1 : Int32)), .val (.ref b303), .val (.ref b317), .val (.ref b331), .unset, .unset, .unset] []) := fun t kt => K344 t (st350.trans kt)
      have K356 : Gx p e below s₁ f0 T350 (mkF m 69 #[.val (.long p1), .second, .val (.long p2), .second, .val (.int p3), .val (.int (1 : Int32)), .val (.int (1 : Int32)), .val (.ref b303), .val (.ref b317), .val (.ref b331), .unset, .unset, .unset] [(.long p1), (.ref b331)]) := fun t kt => K355 t (by
        show Steps p.tables e below (T350.setTop (mkF m 66 #[.val (.long p1), .second, .val (.long p2), .second, .val (.int p3), .val (.int (1 : Int32)), .val (.int (1 : Int32)), .val (.ref b303), .val (.ref b317), .val (.ref b331), .unset, .unset, .unset] [])) _
        refine XS.aload X350.here hx rfl (hb hby at_66) rfl rfl ?_
        show Steps p.tables e below (T350.setTop (mkF m 68 #[.val (.long p1), .second, .val (.long p2), .second, .val (.int p3), .val (.int (1 : Int32)), .val (.int (1 : Int32)), .val (.ref b303), .val (.ref b317), .val (.ref b331), .unset, .unset, .unset] [(.ref b331)])) _
        refine XS.lloadN X350.here hx rfl (hb hby at_68) rfl ?_
        exact kt)
      have f357 : Exa Z h350 b331 "com/example/tideshift/tideshift/cli/LatencyHistogram" := (f339.keep Kc350)
      have f358 : Fld Z h350 b331 "com/example/tideshift/tideshift/cli/LatencyHistogram" "counts" "[J" (.ref va_337) := (f340.keep Kc350 (ninS (Ne.symm (Nat.ne_of_lt (Nat.lt_of_lt_of_le ((f311.ext E317).keep Kc323).lt (Nat.le_of_eq g331.symm)))) (ninS (Ne.symm (Nat.ne_of_lt (Nat.lt_of_lt_of_le ((f314.ext E317).keep Kc323 (ninS (Nat.ne_of_lt (Nat.lt_of_lt_of_le f314.lt (Nat.le_of_eq g317.symm))) nin0)).lt (Nat.le_of_eq g331.symm)))) nin0)))
      have f359 : Fld Z h350 b331 "com/example/tideshift/tideshift/cli/LatencyHistogram" "count" "J" (.long (0 : Int64)) := (f341.keep Kc350 (ninS (Ne.symm (Nat.ne_of_lt (Nat.lt_of_lt_of_le ((f311.ext E317).keep Kc323).lt (Nat.le_of_eq g331.symm)))) (ninS (Ne.symm (Nat.ne_of_lt (Nat.lt_of_lt_of_le ((f314.ext E317).keep Kc323 (ninS (Nat.ne_of_lt (Nat.lt_of_lt_of_le f314.lt (Nat.le_of_eq g317.symm))) nin0)).lt (Nat.le_of_eq g331.symm)))) nin0)))
      have f360 : Arv Z h350 va_337 ka_337 .long (3712 : Int32) (tab zF) (.long (0 : Int64)) := (f342.keep Kc350 (ninS (Ne.symm (Nat.ne_of_lt (Nat.lt_of_lt_of_le (((f311.ext E317).keep Kc323).ext E331).lt f338))) (ninS (Ne.symm (Nat.ne_of_lt (Nat.lt_of_lt_of_le (((f314.ext E317).keep Kc323 (ninS (Nat.ne_of_lt (Nat.lt_of_lt_of_le f314.lt (Nat.le_of_eq g317.symm))) nin0)).ext E331).lt f338))) nin0)))
      have kp361 : Keep h0 h350 [] := (Keep.trans kp349 Kc350 (allS (Or.inr (Nat.le_trans (Keep.refl h0 []).1 (Nat.le_of_eq g303.symm))) (allS (Or.inr (Nat.le_trans kp308.1 f310)) all0)))
      obtain ⟨cq362, kq362, q362a, q362b, q362c⟩ := isOf hZ e350 f357
      obtain ⟨_, _, ⟨T362, L362, k362, n362⟩, -, X362', ⟨Lc362, hQ362, l362, y362, z362⟩, st362⟩ := X350.virtualBack hx (y := (⟨"com/example/tideshift/tideshift/cli/LatencyHistogram", "record", "(J)V"⟩ : MethodName)) (z := (⟨"com/example/tideshift/tideshift/cli/LatencyHistogram", "record", "(J)V"⟩ : MethodName)) hown (mvT hZ (hw _ (List.mem_of_getElem? (i := 48) rfl))) (mvT hZ (hw _ (List.mem_of_getElem? (i := 49) rfl))) (notFace_of_selects (args := #[]) (mvT hZ (hw _ (List.mem_of_getElem? (i := 51) rfl)))) (mvT hZ (hw _ (List.mem_of_getElem? (i := 51) rfl))) (mvT hZ (hw _ (List.mem_of_getElem? (i := 50) rfl))) (by decide) (backOf (W := 0) (rmRec0 l Z a0 hw [] b331 p1 va_337 ka_337 zF h350 n0 (Nat.le_trans Z0 kp361.1) f357 f358 f359 f360 (Nat.le_trans Z0 (Nat.le_trans (Keep.trans kp322 Kc323 (allS (Or.inr (Nat.le_trans (Keep.trans kp308 Kc309 (allS (Or.inr (Nat.le_trans (Keep.refl h0 []).1 (Nat.le_of_eq g303.symm))) all0)).1 (Nat.le_of_eq g317.symm))) all0)).1 (Nat.le_of_eq g331.symm))) (Nat.le_trans Z0 (Nat.le_trans kp336.1 f338))) hZ (hw _ (List.mem_of_getElem? (i := 52) rfl)) (hw _ (List.mem_of_getElem? (i := 2) rfl)) (by decide) (by decide)) q362a q362c (g := (mkF m 69 #[.val (.long p1), .second, .val (.long p2), .second, .val (.int p3), .val (.int (1 : Int32)), .val (.int (1 : Int32)), .val (.ref b303), .val (.ref b317), .val (.ref b331), .unset, .unset, .unset] [(.long p1), (.ref b331)])) rfl (by rw [hml]; rfl) (Steps.refl _) (argsL := [(.long p1)]) (rest := []) (lenOf pd__J_V rfl) rfl (by show 2 * 0 + _ ≤ _; exact Nat.le_of_eq rfl) (hb hby at_69) (fun _ _ => ⟨rfl, e350, (by decide : 6 + 0 ≤ _), (by decide : 11142 + 0 ≤ _)⟩)
      dsimp only [Pt.U, Pt.locs, Pt.cells, Pt.slots] at X362' l362 y362 z362 st362 hQ362
      subst l362 y362 z362
      obtain ⟨h362, e362⟩ : ∃ z, T362.heap = z := ⟨_, rfl⟩
      rw [e362] at hQ362
      obtain ⟨rfl, N362q, Kc362, f363, f364, f365, f366⟩ := hQ362
      obtain ⟨lc362, X362, N362⟩ : ∃ lc, Stand p l e room_1 s m #[(.long p1), (.long p2), (.int p3)] below meth c T362 lc 6 11142 ∧ Fr n0 lc := ⟨_, X362', Fr.app N350 N362q⟩
      have K367 : Gx p e below s₁ f0 T362 (mkF m 72 #[.val (.long p1), .second, .val (.long p2), .second, .val (.int p3), .val (.int (1 : Int32)), .val (.int (1 : Int32)), .val (.ref b303), .val (.ref b317), .val (.ref b331), .unset, .unset, .unset] []) := fun t kt => K356 t (st362.trans kt)
      have K368 : Gx p e below s₁ f0 T362 (mkF m 80 #[.val (.long p1), .second, .val (.long p2), .second, .val (.int p3), .val (.int (1 : Int32)), .val (.int (1 : Int32)), .val (.ref b303), .val (.ref b317), .val (.ref b331), .unset, .unset, .unset] [(.long p2), (.ref b317)]) := fun t kt => K367 t (by
        show Steps p.tables e below (T362.setTop (mkF m 72 #[.val (.long p1), .second, .val (.long p2), .second, .val (.int p3), .val (.int (1 : Int32)), .val (.int (1 : Int32)), .val (.ref b303), .val (.ref b317), .val (.ref b331), .unset, .unset, .unset] [])) _
        refine XS.iload X362.here hx rfl (hb hby at_72) rfl ?_
        show Steps p.tables e below (T362.setTop (mkF m 74 #[.val (.long p1), .second, .val (.long p2), .second, .val (.int p3), .val (.int (1 : Int32)), .val (.int (1 : Int32)), .val (.ref b303), .val (.ref b317), .val (.ref b331), .unset, .unset, .unset] [(.int (1 : Int32))])) _
        refine XS.ifNo X362.here hx rfl (hb hby at_74) rfl ((if0 _ _).trans (feq (by decide)).1) ?_
        show Steps p.tables e below (T362.setTop (mkF m 77 #[.val (.long p1), .second, .val (.long p2), .second, .val (.int p3), .val (.int (1 : Int32)), .val (.int (1 : Int32)), .val (.ref b303), .val (.ref b317), .val (.ref b331), .unset, .unset, .unset] [])) _
        refine XS.aload X362.here hx rfl (hb hby at_77) rfl rfl ?_
        show Steps p.tables e below (T362.setTop (mkF m 79 #[.val (.long p1), .second, .val (.long p2), .second, .val (.int p3), .val (.int (1 : Int32)), .val (.int (1 : Int32)), .val (.ref b303), .val (.ref b317), .val (.ref b331), .unset, .unset, .unset] [(.ref b317)])) _
        refine XS.lloadN X362.here hx rfl (hb hby at_79) rfl ?_
        exact kt)
      have f369 : Exa Z h362 b317 "com/example/tideshift/tideshift/cli/LatencyHistogram" := ((((f325.ext E331).keep Kc337).keep Kc350).keep Kc362)
      have f370 : Fld Z h362 b317 "com/example/tideshift/tideshift/cli/LatencyHistogram" "counts" "[J" (.ref va_323) := ((((f326.ext E331).keep Kc337 (ninS (Nat.ne_of_lt (Nat.lt_of_lt_of_le f325.lt (Nat.le_of_eq g331.symm))) nin0)).keep Kc350 (ninS (Ne.symm (Nat.ne_of_lt (Nat.lt_of_lt_of_le f311.lt (Nat.le_of_eq g317.symm)))) (ninS (Ne.symm (Nat.ne_of_lt (Nat.lt_of_lt_of_le f314.lt (Nat.le_of_eq g317.symm)))) nin0))).keep Kc362 (ninS (Nat.ne_of_lt (Nat.lt_of_lt_of_le f325.lt (Nat.le_of_eq g331.symm))) (ninS (Nat.ne_of_lt (Nat.lt_of_lt_of_le (f325.ext E331).lt f338)) nin0)))
      have f371 : Fld Z h362 b317 "com/example/tideshift/tideshift/cli/LatencyHistogram" "count" "J" (.long (0 : Int64)) := ((((f327.ext E331).keep Kc337 (ninS (Nat.ne_of_lt (Nat.lt_of_lt_of_le f325.lt (Nat.le_of_eq g331.symm))) nin0)).keep Kc350 (ninS (Ne.symm (Nat.ne_of_lt (Nat.lt_of_lt_of_le f311.lt (Nat.le_of_eq g317.symm)))) (ninS (Ne.symm (Nat.ne_of_lt (Nat.lt_of_lt_of_le f314.lt (Nat.le_of_eq g317.symm)))) nin0))).keep Kc362 (ninS (Nat.ne_of_lt (Nat.lt_of_lt_of_le f325.lt (Nat.le_of_eq g331.symm))) (ninS (Nat.ne_of_lt (Nat.lt_of_lt_of_le (f325.ext E331).lt f338)) nin0)))
      have f372 : Arv Z h362 va_323 ka_323 .long (3712 : Int32) (tab zF) (.long (0 : Int64)) := ((((f328.ext E331).keep Kc337 (ninS (Nat.ne_of_lt (Nat.lt_of_lt_of_le f328.lt (Nat.le_of_eq g331.symm))) nin0)).keep Kc350 (ninS (Ne.symm (Nat.ne_of_lt (Nat.lt_of_lt_of_le (f311.ext E317).lt f324))) (ninS (Ne.symm (Nat.ne_of_lt (Nat.lt_of_lt_of_le (f314.ext E317).lt f324))) nin0))).keep Kc362 (ninS (Nat.ne_of_lt (Nat.lt_of_lt_of_le f328.lt (Nat.le_of_eq g331.symm))) (ninS (Nat.ne_of_lt (Nat.lt_of_lt_of_le (f328.ext E331).lt f338)) nin0)))
      have kp373 : Keep h0 h362 [] := (Keep.trans kp361 Kc362 (allS (Or.inr (Nat.le_trans (Keep.trans kp322 Kc323 (allS (Or.inr (Nat.le_trans (Keep.trans kp308 Kc309 (allS (Or.inr (Nat.le_trans (Keep.refl h0 []).1 (Nat.le_of_eq g303.symm))) all0)).1 (Nat.le_of_eq g317.symm))) all0)).1 (Nat.le_of_eq g331.symm))) (allS (Or.inr (Nat.le_trans kp336.1 f338)) all0)))
      obtain ⟨cq374, kq374, q374a, q374b, q374c⟩ := isOf hZ e362 f369
      obtain ⟨_, _, ⟨T374, L374, k374, n374⟩, -, X374', ⟨Lc374, hQ374, l374, y374, z374⟩, st374⟩ := X362.virtualBack hx (y := (⟨"com/example/tideshift/tideshift/cli/LatencyHistogram", "record", "(J)V"⟩ : MethodName)) (z := (⟨"com/example/tideshift/tideshift/cli/LatencyHistogram", "record", "(J)V"⟩ : MethodName)) hown (mvT hZ (hw _ (List.mem_of_getElem? (i := 48) rfl))) (mvT hZ (hw _ (List.mem_of_getElem? (i := 49) rfl))) (notFace_of_selects (args := #[]) (mvT hZ (hw _ (List.mem_of_getElem? (i := 51) rfl)))) (mvT hZ (hw _ (List.mem_of_getElem? (i := 51) rfl))) (mvT hZ (hw _ (List.mem_of_getElem? (i := 50) rfl))) (by decide) (backOf (W := 0) (rmRec0 l Z a0 hw [] b317 p2 va_323 ka_323 zF h362 n0 (Nat.le_trans Z0 kp373.1) f369 f370 f371 f372 (Nat.le_trans Z0 (Nat.le_trans (Keep.trans kp308 Kc309 (allS (Or.inr (Nat.le_trans (Keep.refl h0 []).1 (Nat.le_of_eq g303.symm))) all0)).1 (Nat.le_of_eq g317.symm))) (Nat.le_trans Z0 (Nat.le_trans kp322.1 f324))) hZ (hw _ (List.mem_of_getElem? (i := 52) rfl)) (hw _ (List.mem_of_getElem? (i := 2) rfl)) (by decide) (by decide)) q374a q374c (g := (mkF m 80 #[.val (.long p1), .second, .val (.long p2), .second, .val (.int p3), .val (.int (1 : Int32)), .val (.int (1 : Int32)), .val (.ref b303), .val (.ref b317), .val (.ref b331), .unset, .unset, .unset] [(.long p2), (.ref b317)])) rfl (by rw [hml]; rfl) (Steps.refl _) (argsL := [(.long p2)]) (rest := []) (lenOf pd__J_V rfl) rfl (by show 2 * 0 + _ ≤ _; exact Nat.le_of_eq rfl) (hb hby at_80) (fun _ _ => ⟨rfl, e362, (by decide : 6 + 0 ≤ _), (by decide : 11142 + 0 ≤ _)⟩)
      dsimp only [Pt.U, Pt.locs, Pt.cells, Pt.slots] at X374' l374 y374 z374 st374 hQ374
      subst l374 y374 z374
      obtain ⟨h374, e374⟩ : ∃ z, T374.heap = z := ⟨_, rfl⟩
      rw [e374] at hQ374
      obtain ⟨rfl, N374q, Kc374, f375, f376, f377, f378⟩ := hQ374
      obtain ⟨lc374, X374, N374⟩ : ∃ lc, Stand p l e room_1 s m #[(.long p1), (.long p2), (.int p3)] below meth c T374 lc 6 11142 ∧ Fr n0 lc := ⟨_, X374', Fr.app N362 N374q⟩
      have K379 : Gx p e below s₁ f0 T374 (mkF m 83 #[.val (.long p1), .second, .val (.long p2), .second, .val (.int p3), .val (.int (1 : Int32)), .val (.int (1 : Int32)), .val (.ref b303), .val (.ref b317), .val (.ref b331), .unset, .unset, .unset] []) := fun t kt => K368 t (st374.trans kt)
      have K380 : Gx p e below s₁ f0 T374 (mkF m 86 #[.val (.long p1), .second, .val (.long p2), .second, .val (.int p3), .val (.int (1 : Int32)), .val (.int (1 : Int32)), .val (.ref b303), .val (.ref b317), .val (.ref b331), .unset, .unset, .unset] [(.long p2), (.ref b331)]) := fun t kt => K379 t (by
        show Steps p.tables e below (T374.setTop (mkF m 83 #[.val (.long p1), .second, .val (.long p2), .second, .val (.int p3), .val (.int (1 : Int32)), .val (.int (1 : Int32)), .val (.ref b303), .val (.ref b317), .val (.ref b331), .unset, .unset, .unset] [])) _
        refine XS.aload X374.here hx rfl (hb hby at_83) rfl rfl ?_
        show Steps p.tables e below (T374.setTop (mkF m 85 #[.val (.long p1), .second, .val (.long p2), .second, .val (.int p3), .val (.int (1 : Int32)), .val (.int (1 : Int32)), .val (.ref b303), .val (.ref b317), .val (.ref b331), .unset, .unset, .unset] [(.ref b331)])) _
        refine XS.lloadN X374.here hx rfl (hb hby at_85) rfl ?_
        exact kt)
      have f381 : Exa Z h374 b331 "com/example/tideshift/tideshift/cli/LatencyHistogram" := (f363.keep Kc374)
      have f382 : Fld Z h374 b331 "com/example/tideshift/tideshift/cli/LatencyHistogram" "counts" "[J" (.ref va_337) := (f364.keep Kc374 (ninS (Ne.symm (Nat.ne_of_lt (Nat.lt_of_lt_of_le f325.lt (Nat.le_of_eq g331.symm)))) (ninS (Ne.symm (Nat.ne_of_lt (Nat.lt_of_lt_of_le f328.lt (Nat.le_of_eq g331.symm)))) nin0)))
      have f383 : Fld Z h374 b331 "com/example/tideshift/tideshift/cli/LatencyHistogram" "count" "J" (.long (1 : Int64)) := (f365.keep Kc374 (ninS (Ne.symm (Nat.ne_of_lt (Nat.lt_of_lt_of_le f325.lt (Nat.le_of_eq g331.symm)))) (ninS (Ne.symm (Nat.ne_of_lt (Nat.lt_of_lt_of_le f328.lt (Nat.le_of_eq g331.symm)))) nin0)))
      have f384 : Arv Z h374 va_337 ka_337 .long (3712 : Int32) (tab (upd (bk p1) zF)) (.long (0 : Int64)) := (f366.keep Kc374 (ninS (Ne.symm (Nat.ne_of_lt (Nat.lt_of_lt_of_le (f325.ext E331).lt f338))) (ninS (Ne.symm (Nat.ne_of_lt (Nat.lt_of_lt_of_le (f328.ext E331).lt f338))) nin0)))
      have kp385 : Keep h0 h374 [] := (Keep.trans kp373 Kc374 (allS (Or.inr (Nat.le_trans (Keep.trans kp308 Kc309 (allS (Or.inr (Nat.le_trans (Keep.refl h0 []).1 (Nat.le_of_eq g303.symm))) all0)).1 (Nat.le_of_eq g317.symm))) (allS (Or.inr (Nat.le_trans kp322.1 f324)) all0)))
      obtain ⟨cq386, kq386, q386a, q386b, q386c⟩ := isOf hZ e374 f381
      obtain ⟨_, _, ⟨T386, L386, k386, n386⟩, -, X386', ⟨Lc386, hQ386, l386, y386, z386⟩, st386⟩ := X374.virtualBack hx (y := (⟨"com/example/tideshift/tideshift/cli/LatencyHistogram", "record", "(J)V"⟩ : MethodName)) (z := (⟨"com/example/tideshift/tideshift/cli/LatencyHistogram", "record", "(J)V"⟩ : MethodName)) hown (mvT hZ (hw _ (List.mem_of_getElem? (i := 48) rfl))) (mvT hZ (hw _ (List.mem_of_getElem? (i := 49) rfl))) (notFace_of_selects (args := #[]) (mvT hZ (hw _ (List.mem_of_getElem? (i := 51) rfl)))) (mvT hZ (hw _ (List.mem_of_getElem? (i := 51) rfl))) (mvT hZ (hw _ (List.mem_of_getElem? (i := 50) rfl))) (by decide) (backOf (W := 0) (rmRec1 l Z a0 hw [] b331 p2 va_337 ka_337 (upd (bk p1) zF) h374 n0 (Nat.le_trans Z0 kp385.1) f381 f382 f383 f384 (Nat.le_trans Z0 (Nat.le_trans (Keep.trans kp322 Kc323 (allS (Or.inr (Nat.le_trans (Keep.trans kp308 Kc309 (allS (Or.inr (Nat.le_trans (Keep.refl h0 []).1 (Nat.le_of_eq g303.symm))) all0)).1 (Nat.le_of_eq g317.symm))) all0)).1 (Nat.le_of_eq g331.symm))) (Nat.le_trans Z0 (Nat.le_trans kp336.1 f338))) hZ (hw _ (List.mem_of_getElem? (i := 52) rfl)) (hw _ (List.mem_of_getElem? (i := 2) rfl)) (by decide) (by decide)) q386a q386c (g := (mkF m 86 #[.val (.long p1), .second, .val (.long p2), .second, .val (.int p3), .val (.int (1 : Int32)), .val (.int (1 : Int32)), .val (.ref b303), .val (.ref b317), .val (.ref b331), .unset, .unset, .unset] [(.long p2), (.ref b331)])) rfl (by rw [hml]; rfl) (Steps.refl _) (argsL := [(.long p2)]) (rest := []) (lenOf pd__J_V rfl) rfl (by show 2 * 0 + _ ≤ _; exact Nat.le_of_eq rfl) (hb hby at_86) (fun _ _ => ⟨rfl, e374, (by decide : 6 + 0 ≤ _), (by decide : 11142 + 0 ≤ _)⟩)
      dsimp only [Pt.U, Pt.locs, Pt.cells, Pt.slots] at X386' l386 y386 z386 st386 hQ386
      subst l386 y386 z386
      obtain ⟨h386, e386⟩ : ∃ z, T386.heap = z := ⟨_, rfl⟩
      rw [e386] at hQ386
      obtain ⟨rfl, N386q, Kc386, f387, f388, f389, f390⟩ := hQ386
      obtain ⟨lc386, X386, N386⟩ : ∃ lc, Stand p l e room_1 s m #[(.long p1), (.long p2), (.int p3)] below meth c T386 lc 6 11142 ∧ Fr n0 lc := ⟨_, X386', Fr.app N374 N386q⟩
      have K391 : Gx p e below s₁ f0 T386 (mkF m 89 #[.val (.long p1), .second, .val (.long p2), .second, .val (.int p3), .val (.int (1 : Int32)), .val (.int (1 : Int32)), .val (.ref b303), .val (.ref b317), .val (.ref b331), .unset, .unset, .unset] []) := fun t kt => K380 t (st386.trans kt)
      have K392 : Gx p e below s₁ f0 T386 (mkF m 93 #[.val (.long p1), .second, .val (.long p2), .second, .val (.int p3), .val (.int (1 : Int32)), .val (.int (1 : Int32)), .val (.ref b303), .val (.ref b317), .val (.ref b331), .unset, .unset, .unset] [(.ref b317), (.ref b303)]) := fun t kt => K391 t (by
        show Steps p.tables e below (T386.setTop (mkF m 89 #[.val (.long p1), .second, .val (.long p2), .second, .val (.int p3), .val (.int (1 : Int32)), .val (.int (1 : Int32)), .val (.ref b303), .val (.ref b317), .val (.ref b331), .unset, .unset, .unset] [])) _
        refine XS.aload X386.here hx rfl (hb hby at_89) rfl rfl ?_
        show Steps p.tables e below (T386.setTop (mkF m 91 #[.val (.long p1), .second, .val (.long p2), .second, .val (.int p3), .val (.int (1 : Int32)), .val (.int (1 : Int32)), .val (.ref b303), .val (.ref b317), .val (.ref b331), .unset, .unset, .unset] [(.ref b303)])) _
        refine XS.aload X386.here hx rfl (hb hby at_91) rfl rfl ?_
        exact kt)
      have f393 : Exa Z h386 b303 "com/example/tideshift/tideshift/cli/LatencyHistogram" := (((f351.keep Kc362).keep Kc374).keep Kc386)
      have f394 : Exa Z h386 b317 "com/example/tideshift/tideshift/cli/LatencyHistogram" := (f375.keep Kc386)
      have f395 : Fld Z h386 b303 "com/example/tideshift/tideshift/cli/LatencyHistogram" "counts" "[J" (.ref va_309) := (((f352.keep Kc362 (ninS (Nat.ne_of_lt (Nat.lt_of_lt_of_le ((f311.ext E317).keep Kc323).lt (Nat.le_of_eq g331.symm))) (ninS (Nat.ne_of_lt (Nat.lt_of_lt_of_le (((f311.ext E317).keep Kc323).ext E331).lt f338)) nin0))).keep Kc374 (ninS (Nat.ne_of_lt (Nat.lt_of_lt_of_le f311.lt (Nat.le_of_eq g317.symm))) (ninS (Nat.ne_of_lt (Nat.lt_of_lt_of_le (f311.ext E317).lt f324)) nin0))).keep Kc386 (ninS (Nat.ne_of_lt (Nat.lt_of_lt_of_le ((f311.ext E317).keep Kc323).lt (Nat.le_of_eq g331.symm))) (ninS (Nat.ne_of_lt (Nat.lt_of_lt_of_le (((f311.ext E317).keep Kc323).ext E331).lt f338)) nin0)))
      have f396 : Fld Z h386 b317 "com/example/tideshift/tideshift/cli/LatencyHistogram" "counts" "[J" (.ref va_323) := (f376.keep Kc386 (ninS (Nat.ne_of_lt (Nat.lt_of_lt_of_le f325.lt (Nat.le_of_eq g331.symm))) (ninS (Nat.ne_of_lt (Nat.lt_of_lt_of_le (f325.ext E331).lt f338)) nin0)))
      have f397 : Arv Z h386 va_309 ka_309 .long (3712 : Int32) (tab (upd (bk p1) zF)) (.long (0 : Int64)) := (((f354.keep Kc362 (ninS (Nat.ne_of_lt (Nat.lt_of_lt_of_le ((f314.ext E317).keep Kc323 (ninS (Nat.ne_of_lt (Nat.lt_of_lt_of_le f314.lt (Nat.le_of_eq g317.symm))) nin0)).lt (Nat.le_of_eq g331.symm))) (ninS (Nat.ne_of_lt (Nat.lt_of_lt_of_le (((f314.ext E317).keep Kc323 (ninS (Nat.ne_of_lt (Nat.lt_of_lt_of_le f314.lt (Nat.le_of_eq g317.symm))) nin0)).ext E331).lt f338)) nin0))).keep Kc374 (ninS (Nat.ne_of_lt (Nat.lt_of_lt_of_le f314.lt (Nat.le_of_eq g317.symm))) (ninS (Nat.ne_of_lt (Nat.lt_of_lt_of_le (f314.ext E317).lt f324)) nin0))).keep Kc386 (ninS (Nat.ne_of_lt (Nat.lt_of_lt_of_le ((f314.ext E317).keep Kc323 (ninS (Nat.ne_of_lt (Nat.lt_of_lt_of_le f314.lt (Nat.le_of_eq g317.symm))) nin0)).lt (Nat.le_of_eq g331.symm))) (ninS (Nat.ne_of_lt (Nat.lt_of_lt_of_le (((f314.ext E317).keep Kc323 (ninS (Nat.ne_of_lt (Nat.lt_of_lt_of_le f314.lt (Nat.le_of_eq g317.symm))) nin0)).ext E331).lt f338)) nin0)))
      have f398 : Arv Z h386 va_323 ka_323 .long (3712 : Int32) (tab (upd (bk p2) zF)) (.long (0 : Int64)) := (f378.keep Kc386 (ninS (Nat.ne_of_lt (Nat.lt_of_lt_of_le f328.lt (Nat.le_of_eq g331.symm))) (ninS (Nat.ne_of_lt (Nat.lt_of_lt_of_le (f328.ext E331).lt f338)) nin0)))
      have f399 : Fld Z h386 b303 "com/example/tideshift/tideshift/cli/LatencyHistogram" "count" "J" (.long (1 : Int64)) := (((f353.keep Kc362 (ninS (Nat.ne_of_lt (Nat.lt_of_lt_of_le ((f311.ext E317).keep Kc323).lt (Nat.le_of_eq g331.symm))) (ninS (Nat.ne_of_lt (Nat.lt_of_lt_of_le (((f311.ext E317).keep Kc323).ext E331).lt f338)) nin0))).keep Kc374 (ninS (Nat.ne_of_lt (Nat.lt_of_lt_of_le f311.lt (Nat.le_of_eq g317.symm))) (ninS (Nat.ne_of_lt (Nat.lt_of_lt_of_le (f311.ext E317).lt f324)) nin0))).keep Kc386 (ninS (Nat.ne_of_lt (Nat.lt_of_lt_of_le ((f311.ext E317).keep Kc323).lt (Nat.le_of_eq g331.symm))) (ninS (Nat.ne_of_lt (Nat.lt_of_lt_of_le (((f311.ext E317).keep Kc323).ext E331).lt f338)) nin0)))
      have f400 : Fld Z h386 b317 "com/example/tideshift/tideshift/cli/LatencyHistogram" "count" "J" (.long (1 : Int64)) := (f377.keep Kc386 (ninS (Nat.ne_of_lt (Nat.lt_of_lt_of_le f325.lt (Nat.le_of_eq g331.symm))) (ninS (Nat.ne_of_lt (Nat.lt_of_lt_of_le (f325.ext E331).lt f338)) nin0)))
      have kp401 : Keep h0 h386 [] := (Keep.trans kp385 Kc386 (allS (Or.inr (Nat.le_trans (Keep.trans kp322 Kc323 (allS (Or.inr (Nat.le_trans (Keep.trans kp308 Kc309 (allS (Or.inr (Nat.le_trans (Keep.refl h0 []).1 (Nat.le_of_eq g303.symm))) all0)).1 (Nat.le_of_eq g317.symm))) all0)).1 (Nat.le_of_eq g331.symm))) (allS (Or.inr (Nat.le_trans kp336.1 f338)) all0)))
      obtain ⟨cq402, kq402, q402a, q402b, q402c⟩ := isOf hZ e386 f393
      obtain ⟨_, _, ⟨T402, L402, k402, n402⟩, -, X402', ⟨Lc402, hQ402, l402, y402, z402⟩, st402⟩ := X386.virtualBack hx (y := (⟨"com/example/tideshift/tideshift/cli/LatencyHistogram", "add", "(Lcom/example/tideshift/tideshift/cli/LatencyHistogram;)V"⟩ : MethodName)) (z := (⟨"com/example/tideshift/tideshift/cli/LatencyHistogram", "add", "(Lcom/example/tideshift/tideshift/cli/LatencyHistogram;)V"⟩ : MethodName)) hown (mvT hZ (hw _ (List.mem_of_getElem? (i := 26) rfl))) (mvT hZ (hw _ (List.mem_of_getElem? (i := 27) rfl))) (notFace_of_selects (args := #[]) (mvT hZ (hw _ (List.mem_of_getElem? (i := 29) rfl)))) (mvT hZ (hw _ (List.mem_of_getElem? (i := 29) rfl))) (mvT hZ (hw _ (List.mem_of_getElem? (i := 28) rfl))) (by decide) (backOf (W := 0) (rmAdd1 l Z a0 hw [] b303 b317 va_309 va_323 ka_309 ka_323 (upd (bk p1) zF) (upd (bk p2) zF) h386 n0 (Nat.le_trans Z0 kp401.1) f393 f394 f395 f396 f397 f398 (Nat.le_trans Z0 (Nat.le_trans kp308.1 f310)) (Nat.ne_of_lt (Nat.lt_of_lt_of_le (f314.ext E317).lt f324)) f399 f400 (Nat.le_trans Z0 (Nat.le_trans (Keep.refl h0 []).1 (Nat.le_of_eq g303.symm))) (Nat.ne_of_lt (Nat.lt_of_lt_of_le f311.lt (Nat.le_of_eq g317.symm)))) hZ (hw _ (List.mem_of_getElem? (i := 30) rfl)) (hw _ (List.mem_of_getElem? (i := 2) rfl)) (by decide) (by decide)) q402a q402c (g := (mkF m 93 #[.val (.long p1), .second, .val (.long p2), .second, .val (.int p3), .val (.int (1 : Int32)), .val (.int (1 : Int32)), .val (.ref b303), .val (.ref b317), .val (.ref b331), .unset, .unset, .unset] [(.ref b317), (.ref b303)])) rfl (by rw [hml]; rfl) (Steps.refl _) (argsL := [(.ref b317)]) (rest := []) (lenOf pd__Lcom_example_tideshift_tideshift_cli_LatencyHistogram__V rfl) rfl (by show 2 * 0 + _ ≤ _; exact Nat.le_of_eq rfl) (hb hby at_93) (fun _ _ => ⟨rfl, e386, (by decide : 6 + 0 ≤ _), (by decide : 11142 + 0 ≤ _)⟩)
      dsimp only [Pt.U, Pt.locs, Pt.cells, Pt.slots] at X402' l402 y402 z402 st402 hQ402
      subst l402 y402 z402
      obtain ⟨h402, e402⟩ : ∃ z, T402.heap = z := ⟨_, rfl⟩
      rw [e402] at hQ402
      obtain ⟨rfl, N402q, Kc402, f403, f404, f405⟩ := hQ402
      obtain ⟨lc402, X402, N402⟩ : ∃ lc, Stand p l e room_1 s m #[(.long p1), (.long p2), (.int p3)] below meth c T402 lc 6 11142 ∧ Fr n0 lc := ⟨_, X402', Fr.app N386 N402q⟩
      have K406 : Gx p e below s₁ f0 T402 (mkF m 96 #[.val (.long p1), .second, .val (.long p2), .second, .val (.int p3), .val (.int (1 : Int32)), .val (.int (1 : Int32)), .val (.ref b303), .val (.ref b317), .val (.ref b331), .unset, .unset, .unset] []) := fun t kt => K392 t (st402.trans kt)
      have f407 : Fld Z h402 b317 "com/example/tideshift/tideshift/cli/LatencyHistogram" "counts" "[J" (.ref va_323) := (f396.keep Kc402 (ninS (Ne.symm (Nat.ne_of_lt (Nat.lt_of_lt_of_le f311.lt (Nat.le_of_eq g317.symm)))) (ninS (Ne.symm (Nat.ne_of_lt (Nat.lt_of_lt_of_le f314.lt (Nat.le_of_eq g317.symm)))) nin0)))
      have f408 : Fld Z h402 b331 "com/example/tideshift/tideshift/cli/LatencyHistogram" "counts" "[J" (.ref va_337) := (f388.keep Kc402 (ninS (Ne.symm (Nat.ne_of_lt (Nat.lt_of_lt_of_le ((f311.ext E317).keep Kc323).lt (Nat.le_of_eq g331.symm)))) (ninS (Ne.symm (Nat.ne_of_lt (Nat.lt_of_lt_of_le ((f314.ext E317).keep Kc323 (ninS (Nat.ne_of_lt (Nat.lt_of_lt_of_le f314.lt (Nat.le_of_eq g317.symm))) nin0)).lt (Nat.le_of_eq g331.symm)))) nin0)))
      have f409 : Arv Z h402 va_309 ka_309 .long (3712 : Int32) (tab (upd (bk p2) (upd (bk p1) zF))) (.long (0 : Int64)) := by rw [← addU (bk p1) (bk p2)]; exact f405
      have K410 : Gx p e below s₁ f0 T402 (mkF m 121 #[.val (.long p1), .second, .val (.long p2), .second, .val (.int p3), .val (.int (1 : Int32)), .val (.int (1 : Int32)), .val (.ref b303), .val (.ref b317), .val (.ref b331), .val (.long (2 : Int64)), .second, .unset] [(.ref b303)]) := fun t kt => K406 t (by
        show Steps p.tables e below (T402.setTop (mkF m 96 #[.val (.long p1), .second, .val (.long p2), .second, .val (.int p3), .val (.int (1 : Int32)), .val (.int (1 : Int32)), .val (.ref b303), .val (.ref b317), .val (.ref b331), .unset, .unset, .unset] [])) _
        refine XS.iload X402.here hx rfl (hb hby at_96) rfl ?_
        show Steps p.tables e below (T402.setTop (mkF m 98 #[.val (.long p1), .second, .val (.long p2), .second, .val (.int p3), .val (.int (1 : Int32)), .val (.int (1 : Int32)), .val (.ref b303), .val (.ref b317), .val (.ref b331), .unset, .unset, .unset] [(.int (1 : Int32))])) _
        refine XS.ifNo X402.here hx rfl (hb hby at_98) rfl ((if0 _ _).trans (feq (by decide)).1) ?_
        show Steps p.tables e below (T402.setTop (mkF m 101 #[.val (.long p1), .second, .val (.long p2), .second, .val (.int p3), .val (.int (1 : Int32)), .val (.int (1 : Int32)), .val (.ref b303), .val (.ref b317), .val (.ref b331), .unset, .unset, .unset] [])) _
        refine XS.lconst X402.here hx rfl (hb hby at_101) ?_
        show Steps p.tables e below (T402.setTop (mkF m 102 #[.val (.long p1), .second, .val (.long p2), .second, .val (.int p3), .val (.int (1 : Int32)), .val (.int (1 : Int32)), .val (.ref b303), .val (.ref b317), .val (.ref b331), .unset, .unset, .unset] [(.long (1 : Int64))])) _
        refine XS.goto X402.here hx rfl (pc0 := 102) (pc' := 106) rfl (hb hby at_102) (by decide) (by decide) ?_
        show Steps p.tables e below (T402.setTop (mkF m 106 #[.val (.long p1), .second, .val (.long p2), .second, .val (.int p3), .val (.int (1 : Int32)), .val (.int (1 : Int32)), .val (.ref b303), .val (.ref b317), .val (.ref b331), .unset, .unset, .unset] [(.long (1 : Int64))])) _
        refine XS.iload X402.here hx rfl (hb hby at_106) rfl ?_
        show Steps p.tables e below (T402.setTop (mkF m 108 #[.val (.long p1), .second, .val (.long p2), .second, .val (.int p3), .val (.int (1 : Int32)), .val (.int (1 : Int32)), .val (.ref b303), .val (.ref b317), .val (.ref b331), .unset, .unset, .unset] [(.int (1 : Int32)), (.long (1 : Int64))])) _
        refine XS.ifNo X402.here hx rfl (hb hby at_108) rfl ((if0 _ _).trans (feq (by decide)).1) ?_
        show Steps p.tables e below (T402.setTop (mkF m 111 #[.val (.long p1), .second, .val (.long p2), .second, .val (.int p3), .val (.int (1 : Int32)), .val (.int (1 : Int32)), .val (.ref b303), .val (.ref b317), .val (.ref b331), .unset, .unset, .unset] [(.long (1 : Int64))])) _
        refine XS.lconst X402.here hx rfl (hb hby at_111) ?_
        show Steps p.tables e below (T402.setTop (mkF m 112 #[.val (.long p1), .second, .val (.long p2), .second, .val (.int p3), .val (.int (1 : Int32)), .val (.int (1 : Int32)), .val (.ref b303), .val (.ref b317), .val (.ref b331), .unset, .unset, .unset] [(.long (1 : Int64)), (.long (1 : Int64))])) _
        refine XS.goto X402.here hx rfl (pc0 := 112) (pc' := 116) rfl (hb hby at_112) (by decide) (by decide) ?_
        show Steps p.tables e below (T402.setTop (mkF m 116 #[.val (.long p1), .second, .val (.long p2), .second, .val (.int p3), .val (.int (1 : Int32)), .val (.int (1 : Int32)), .val (.ref b303), .val (.ref b317), .val (.ref b331), .unset, .unset, .unset] [(.long (1 : Int64)), (.long (1 : Int64))])) _
        refine XS.ladd X402.here hx rfl (hb hby at_116) rfl ?_
        show Steps p.tables e below (T402.setTop (mkF m 117 #[.val (.long p1), .second, .val (.long p2), .second, .val (.int p3), .val (.int (1 : Int32)), .val (.int (1 : Int32)), .val (.ref b303), .val (.ref b317), .val (.ref b331), .unset, .unset, .unset] [(.long (2 : Int64))])) _
        refine XS.lstore X402.here hx rfl (hb hby at_117) rfl (l' := #[.val (.long p1), .second, .val (.long p2), .second, .val (.int p3), .val (.int (1 : Int32)), .val (.int (1 : Int32)), .val (.ref b303), .val (.ref b317), .val (.ref b331), .val (.long (2 : Int64)), .second, .unset]) rfl ?_
        show Steps p.tables e below (T402.setTop (mkF m 119 #[.val (.long p1), .second, .val (.long p2), .second, .val (.int p3), .val (.int (1 : Int32)), .val (.int (1 : Int32)), .val (.ref b303), .val (.ref b317), .val (.ref b331), .val (.long (2 : Int64)), .second, .unset] [])) _
        refine XS.aload X402.here hx rfl (hb hby at_119) rfl rfl ?_
        exact kt)
      have kp411 : Keep h0 h402 [] := (Keep.trans kp401 Kc402 (allS (Or.inr (Nat.le_trans (Keep.refl h0 []).1 (Nat.le_of_eq g303.symm))) (allS (Or.inr (Nat.le_trans kp308.1 f310)) all0)))
      have f413 : Exa Z h402 b303 "com/example/tideshift/tideshift/cli/LatencyHistogram" := (f393.keep Kc402)
      obtain ⟨cq412, kq412, q412a, q412b, q412c⟩ := isOf hZ e402 f413
      obtain ⟨_, _, ⟨T412, L412, k412, n412⟩, -, X412', ⟨Lc412, hQ412, l412, y412, z412⟩, st412⟩ := X402.virtualBack hx (y := (⟨"com/example/tideshift/tideshift/cli/LatencyHistogram", "count", "()J"⟩ : MethodName)) (z := (⟨"com/example/tideshift/tideshift/cli/LatencyHistogram", "count", "()J"⟩ : MethodName)) hown (mvT hZ (hw _ (List.mem_of_getElem? (i := 33) rfl))) (mvT hZ (hw _ (List.mem_of_getElem? (i := 34) rfl))) (notFace_of_selects (args := #[]) (mvT hZ (hw _ (List.mem_of_getElem? (i := 36) rfl)))) (mvT hZ (hw _ (List.mem_of_getElem? (i := 36) rfl))) (mvT hZ (hw _ (List.mem_of_getElem? (i := 35) rfl))) (by decide) (backOf (W := 0) (rmCnt l Z a0 hw [] b303 (2 : Int64) h402 n0 (Nat.le_trans Z0 kp411.1) f404) hZ (hw _ (List.mem_of_getElem? (i := 37) rfl)) (hw _ (List.mem_of_getElem? (i := 2) rfl)) (by decide) (by decide)) q412a q412c (g := (mkF m 121 #[.val (.long p1), .second, .val (.long p2), .second, .val (.int p3), .val (.int (1 : Int32)), .val (.int (1 : Int32)), .val (.ref b303), .val (.ref b317), .val (.ref b331), .val (.long (2 : Int64)), .second, .unset] [(.ref b303)])) rfl (by rw [hml]; rfl) (Steps.refl _) (argsL := []) (rest := []) (lenOf pd___J rfl) rfl (by show 2 * 0 + _ ≤ _; exact Nat.le_of_eq rfl) (hb hby at_121) (fun _ _ => ⟨rfl, e402, (by decide : 6 + 0 ≤ _), (by decide : 11142 + 0 ≤ _)⟩)
      dsimp only [Pt.U, Pt.locs, Pt.cells, Pt.slots] at X412' l412 y412 z412 st412 hQ412
      subst l412 y412 z412
      obtain ⟨rfl, N412q, e412⟩ := hQ412
      obtain ⟨lc412, X412, N412⟩ : ∃ lc, Stand p l e room_1 s m #[(.long p1), (.long p2), (.int p3)] below meth c T412 lc 6 11142 ∧ Fr n0 lc := ⟨_, X412', Fr.app N402 N412q⟩
      have K414 : Gx p e below s₁ f0 T412 (mkF m 124 #[.val (.long p1), .second, .val (.long p2), .second, .val (.int p3), .val (.int (1 : Int32)), .val (.int (1 : Int32)), .val (.ref b303), .val (.ref b317), .val (.ref b331), .val (.long (2 : Int64)), .second, .unset] [(.long (2 : Int64))]) := fun t kt => K410 t (st412.trans kt)
      have K415 : Gx p e below s₁ f0 T412 (mkF m 132 #[.val (.long p1), .second, .val (.long p2), .second, .val (.int p3), .val (.int (1 : Int32)), .val (.int (1 : Int32)), .val (.ref b303), .val (.ref b317), .val (.ref b331), .val (.long (2 : Int64)), .second, .unset] [(.ref b317)]) := fun t kt => K414 t (by
        show Steps p.tables e below (T412.setTop (mkF m 124 #[.val (.long p1), .second, .val (.long p2), .second, .val (.int p3), .val (.int (1 : Int32)), .val (.int (1 : Int32)), .val (.ref b303), .val (.ref b317), .val (.ref b331), .val (.long (2 : Int64)), .second, .unset] [(.long (2 : Int64))])) _
        refine XS.lload X412.here hx rfl (hb hby at_124) rfl ?_
        show Steps p.tables e below (T412.setTop (mkF m 126 #[.val (.long p1), .second, .val (.long p2), .second, .val (.int p3), .val (.int (1 : Int32)), .val (.int (1 : Int32)), .val (.ref b303), .val (.ref b317), .val (.ref b331), .val (.long (2 : Int64)), .second, .unset] [(.long (2 : Int64)), (.long (2 : Int64))])) _
        refine XS.lcmp X412.here hx rfl (hb hby at_126) rfl ?_
        show Steps p.tables e below (T412.setTop (mkF m 127 #[.val (.long p1), .second, .val (.long p2), .second, .val (.int p3), .val (.int (1 : Int32)), .val (.int (1 : Int32)), .val (.ref b303), .val (.ref b317), .val (.ref b331), .val (.long (2 : Int64)), .second, .unset] [(.int (lcmpW (2 : Int64) (2 : Int64)))])) _
        refine XS.ifNo X412.here hx rfl (hb hby at_127) rfl ((if0 _ _).trans (teq (by decide)).2) ?_
        show Steps p.tables e below (T412.setTop (mkF m 130 #[.val (.long p1), .second, .val (.long p2), .second, .val (.int p3), .val (.int (1 : Int32)), .val (.int (1 : Int32)), .val (.ref b303), .val (.ref b317), .val (.ref b331), .val (.long (2 : Int64)), .second, .unset] [])) _
        refine XS.aload X412.here hx rfl (hb hby at_130) rfl rfl ?_
        exact kt)
      have f416 : Fld Z h402 b317 "com/example/tideshift/tideshift/cli/LatencyHistogram" "count" "J" (.long (1 : Int64)) := (f400.keep Kc402 (ninS (Ne.symm (Nat.ne_of_lt (Nat.lt_of_lt_of_le f311.lt (Nat.le_of_eq g317.symm)))) (ninS (Ne.symm (Nat.ne_of_lt (Nat.lt_of_lt_of_le f314.lt (Nat.le_of_eq g317.symm)))) nin0)))
      have f418 : Exa Z h402 b317 "com/example/tideshift/tideshift/cli/LatencyHistogram" := (f394.keep Kc402)
      obtain ⟨cq417, kq417, q417a, q417b, q417c⟩ := isOf hZ e412 f418
      obtain ⟨_, _, ⟨T417, L417, k417, n417⟩, -, X417', ⟨Lc417, hQ417, l417, y417, z417⟩, st417⟩ := X412.virtualBack hx (y := (⟨"com/example/tideshift/tideshift/cli/LatencyHistogram", "count", "()J"⟩ : MethodName)) (z := (⟨"com/example/tideshift/tideshift/cli/LatencyHistogram", "count", "()J"⟩ : MethodName)) hown (mvT hZ (hw _ (List.mem_of_getElem? (i := 33) rfl))) (mvT hZ (hw _ (List.mem_of_getElem? (i := 34) rfl))) (notFace_of_selects (args := #[]) (mvT hZ (hw _ (List.mem_of_getElem? (i := 36) rfl)))) (mvT hZ (hw _ (List.mem_of_getElem? (i := 36) rfl))) (mvT hZ (hw _ (List.mem_of_getElem? (i := 35) rfl))) (by decide) (backOf (W := 0) (rmCnt l Z a0 hw [] b317 (1 : Int64) h402 n0 (Nat.le_trans Z0 kp411.1) f416) hZ (hw _ (List.mem_of_getElem? (i := 37) rfl)) (hw _ (List.mem_of_getElem? (i := 2) rfl)) (by decide) (by decide)) q417a q417c (g := (mkF m 132 #[.val (.long p1), .second, .val (.long p2), .second, .val (.int p3), .val (.int (1 : Int32)), .val (.int (1 : Int32)), .val (.ref b303), .val (.ref b317), .val (.ref b331), .val (.long (2 : Int64)), .second, .unset] [(.ref b317)])) rfl (by rw [hml]; rfl) (Steps.refl _) (argsL := []) (rest := []) (lenOf pd___J rfl) rfl (by show 2 * 0 + _ ≤ _; exact Nat.le_of_eq rfl) (hb hby at_132) (fun _ _ => ⟨rfl, e412, (by decide : 6 + 0 ≤ _), (by decide : 11142 + 0 ≤ _)⟩)
      dsimp only [Pt.U, Pt.locs, Pt.cells, Pt.slots] at X417' l417 y417 z417 st417 hQ417
      subst l417 y417 z417
      obtain ⟨rfl, N417q, e417⟩ := hQ417
      obtain ⟨lc417, X417, N417⟩ : ∃ lc, Stand p l e room_1 s m #[(.long p1), (.long p2), (.int p3)] below meth c T417 lc 6 11142 ∧ Fr n0 lc := ⟨_, X417', Fr.app N412 N417q⟩
      have K419 : Gx p e below s₁ f0 T417 (mkF m 135 #[.val (.long p1), .second, .val (.long p2), .second, .val (.int p3), .val (.int (1 : Int32)), .val (.int (1 : Int32)), .val (.ref b303), .val (.ref b317), .val (.ref b331), .val (.long (2 : Int64)), .second, .unset] [(.long (1 : Int64))]) := fun t kt => K415 t (st417.trans kt)
      have K420 : Gx p e below s₁ f0 T417 (mkF m 163 #[.val (.long p1), .second, .val (.long p2), .second, .val (.int p3), .val (.int (1 : Int32)), .val (.int (1 : Int32)), .val (.ref b303), .val (.ref b317), .val (.ref b331), .val (.long (2 : Int64)), .second, .val (.int (1 : Int32))] []) := fun t kt => K419 t (by
        show Steps p.tables e below (T417.setTop (mkF m 135 #[.val (.long p1), .second, .val (.long p2), .second, .val (.int p3), .val (.int (1 : Int32)), .val (.int (1 : Int32)), .val (.ref b303), .val (.ref b317), .val (.ref b331), .val (.long (2 : Int64)), .second, .unset] [(.long (1 : Int64))])) _
        refine XS.iload X417.here hx rfl (hb hby at_135) rfl ?_
        show Steps p.tables e below (T417.setTop (mkF m 137 #[.val (.long p1), .second, .val (.long p2), .second, .val (.int p3), .val (.int (1 : Int32)), .val (.int (1 : Int32)), .val (.ref b303), .val (.ref b317), .val (.ref b331), .val (.long (2 : Int64)), .second, .unset] [(.int (1 : Int32)), (.long (1 : Int64))])) _
        refine XS.ifNo X417.here hx rfl (hb hby at_137) rfl ((if0 _ _).trans (feq (by decide)).1) ?_
        show Steps p.tables e below (T417.setTop (mkF m 140 #[.val (.long p1), .second, .val (.long p2), .second, .val (.int p3), .val (.int (1 : Int32)), .val (.int (1 : Int32)), .val (.ref b303), .val (.ref b317), .val (.ref b331), .val (.long (2 : Int64)), .second, .unset] [(.long (1 : Int64))])) _
        refine XS.lconst X417.here hx rfl (hb hby at_140) ?_
        show Steps p.tables e below (T417.setTop (mkF m 141 #[.val (.long p1), .second, .val (.long p2), .second, .val (.int p3), .val (.int (1 : Int32)), .val (.int (1 : Int32)), .val (.ref b303), .val (.ref b317), .val (.ref b331), .val (.long (2 : Int64)), .second, .unset] [(.long (1 : Int64)), (.long (1 : Int64))])) _
        refine XS.goto X417.here hx rfl (pc0 := 141) (pc' := 145) rfl (hb hby at_141) (by decide) (by decide) ?_
        show Steps p.tables e below (T417.setTop (mkF m 145 #[.val (.long p1), .second, .val (.long p2), .second, .val (.int p3), .val (.int (1 : Int32)), .val (.int (1 : Int32)), .val (.ref b303), .val (.ref b317), .val (.ref b331), .val (.long (2 : Int64)), .second, .unset] [(.long (1 : Int64)), (.long (1 : Int64))])) _
        refine XS.lcmp X417.here hx rfl (hb hby at_145) rfl ?_
        show Steps p.tables e below (T417.setTop (mkF m 146 #[.val (.long p1), .second, .val (.long p2), .second, .val (.int p3), .val (.int (1 : Int32)), .val (.int (1 : Int32)), .val (.ref b303), .val (.ref b317), .val (.ref b331), .val (.long (2 : Int64)), .second, .unset] [(.int (lcmpW (1 : Int64) (1 : Int64)))])) _
        refine XS.ifNo X417.here hx rfl (hb hby at_146) rfl ((if0 _ _).trans (teq (by decide)).2) ?_
        show Steps p.tables e below (T417.setTop (mkF m 149 #[.val (.long p1), .second, .val (.long p2), .second, .val (.int p3), .val (.int (1 : Int32)), .val (.int (1 : Int32)), .val (.ref b303), .val (.ref b317), .val (.ref b331), .val (.long (2 : Int64)), .second, .unset] [])) _
        refine XS.iconst X417.here hx rfl (hb hby at_149) ?_
        show Steps p.tables e below (T417.setTop (mkF m 150 #[.val (.long p1), .second, .val (.long p2), .second, .val (.int p3), .val (.int (1 : Int32)), .val (.int (1 : Int32)), .val (.ref b303), .val (.ref b317), .val (.ref b331), .val (.long (2 : Int64)), .second, .unset] [(.int (1 : Int32))])) _
        refine XS.goto X417.here hx rfl (pc0 := 150) (pc' := 154) rfl (hb hby at_150) (by decide) (by decide) ?_
        show Steps p.tables e below (T417.setTop (mkF m 154 #[.val (.long p1), .second, .val (.long p2), .second, .val (.int p3), .val (.int (1 : Int32)), .val (.int (1 : Int32)), .val (.ref b303), .val (.ref b317), .val (.ref b331), .val (.long (2 : Int64)), .second, .unset] [(.int (1 : Int32))])) _
        refine XS.istore X417.here hx rfl (hb hby at_154) rfl (l' := #[.val (.long p1), .second, .val (.long p2), .second, .val (.int p3), .val (.int (1 : Int32)), .val (.int (1 : Int32)), .val (.ref b303), .val (.ref b317), .val (.ref b331), .val (.long (2 : Int64)), .second, .val (.int (1 : Int32))]) rfl ?_
        show Steps p.tables e below (T417.setTop (mkF m 156 #[.val (.long p1), .second, .val (.long p2), .second, .val (.int p3), .val (.int (1 : Int32)), .val (.int (1 : Int32)), .val (.ref b303), .val (.ref b317), .val (.ref b331), .val (.long (2 : Int64)), .second, .val (.int (1 : Int32))] [])) _
        refine XS.iload X417.here hx rfl (hb hby at_156) rfl ?_
        show Steps p.tables e below (T417.setTop (mkF m 158 #[.val (.long p1), .second, .val (.long p2), .second, .val (.int p3), .val (.int (1 : Int32)), .val (.int (1 : Int32)), .val (.ref b303), .val (.ref b317), .val (.ref b331), .val (.long (2 : Int64)), .second, .val (.int (1 : Int32))] [(.int (1 : Int32))])) _
        refine XS.ifYes X417.here hx rfl (pc0 := 158) (pc' := 163) rfl (hb hby at_158) rfl ((if0 _ _).trans (feq (by decide)).2) (by decide) (by decide) ?_
        exact kt)
      obtain ⟨Jq0, hJq0, hJa0, hJb0⟩ := own_find (upd (bk p2) (upd (bk p1) zF)) (1 : Int64) (by rw [prf2 p1 p2]; decide)
      have K421 : Gx p e below s₁ f0 T417 (mkF m 166 #[.val (.long p1), .second, .val (.long p2), .second, .val (.int p3), .val (.int (1 : Int32)), .val (.int (1 : Int32)), .val (.ref b303), .val (.ref b317), .val (.ref b331), .val (.long (2 : Int64)), .second, .val (.int (1 : Int32))] [(.double (0 : UInt64)), (.ref b303)]) := fun t kt => K420 t (by
        show Steps p.tables e below (T417.setTop (mkF m 163 #[.val (.long p1), .second, .val (.long p2), .second, .val (.int p3), .val (.int (1 : Int32)), .val (.int (1 : Int32)), .val (.ref b303), .val (.ref b317), .val (.ref b331), .val (.long (2 : Int64)), .second, .val (.int (1 : Int32))] [])) _
        refine XS.aload X417.here hx rfl (hb hby at_163) rfl rfl ?_
        show Steps p.tables e below (T417.setTop (mkF m 165 #[.val (.long p1), .second, .val (.long p2), .second, .val (.int p3), .val (.int (1 : Int32)), .val (.int (1 : Int32)), .val (.ref b303), .val (.ref b317), .val (.ref b331), .val (.long (2 : Int64)), .second, .val (.int (1 : Int32))] [(.ref b303)])) _
        refine XS.dconst0 X417.here hx rfl (hb hby at_165) (v := (0 : UInt64)) (by decide +kernel) ?_
        exact kt)
      have f422 : Old Z n0 h402 := (((((((((((pr0.ext E303).keep Kc309 (allS (Nat.le_trans Z0 (Nat.le_trans (Keep.refl h0 []).1 (Nat.le_of_eq g303.symm))) all0)).ext E317).keep Kc323 (allS (Nat.le_trans Z0 (Nat.le_trans (Keep.trans kp308 Kc309 (allS (Or.inr (Nat.le_trans (Keep.refl h0 []).1 (Nat.le_of_eq g303.symm))) all0)).1 (Nat.le_of_eq g317.symm))) all0)).ext E331).keep Kc337 (allS (Nat.le_trans Z0 (Nat.le_trans (Keep.trans kp322 Kc323 (allS (Or.inr (Nat.le_trans (Keep.trans kp308 Kc309 (allS (Or.inr (Nat.le_trans (Keep.refl h0 []).1 (Nat.le_of_eq g303.symm))) all0)).1 (Nat.le_of_eq g317.symm))) all0)).1 (Nat.le_of_eq g331.symm))) all0)).keep Kc350 (allS (Nat.le_trans Z0 (Nat.le_trans (Keep.refl h0 []).1 (Nat.le_of_eq g303.symm))) (allS (Nat.le_trans Z0 (Nat.le_trans kp308.1 f310)) all0))).keep Kc362 (allS (Nat.le_trans Z0 (Nat.le_trans (Keep.trans kp322 Kc323 (allS (Or.inr (Nat.le_trans (Keep.trans kp308 Kc309 (allS (Or.inr (Nat.le_trans (Keep.refl h0 []).1 (Nat.le_of_eq g303.symm))) all0)).1 (Nat.le_of_eq g317.symm))) all0)).1 (Nat.le_of_eq g331.symm))) (allS (Nat.le_trans Z0 (Nat.le_trans kp336.1 f338)) all0))).keep Kc374 (allS (Nat.le_trans Z0 (Nat.le_trans (Keep.trans kp308 Kc309 (allS (Or.inr (Nat.le_trans (Keep.refl h0 []).1 (Nat.le_of_eq g303.symm))) all0)).1 (Nat.le_of_eq g317.symm))) (allS (Nat.le_trans Z0 (Nat.le_trans kp322.1 f324)) all0))).keep Kc386 (allS (Nat.le_trans Z0 (Nat.le_trans (Keep.trans kp322 Kc323 (allS (Or.inr (Nat.le_trans (Keep.trans kp308 Kc309 (allS (Or.inr (Nat.le_trans (Keep.refl h0 []).1 (Nat.le_of_eq g303.symm))) all0)).1 (Nat.le_of_eq g317.symm))) all0)).1 (Nat.le_of_eq g331.symm))) (allS (Nat.le_trans Z0 (Nat.le_trans kp336.1 f338)) all0))).keep Kc402 (allS (Nat.le_trans Z0 (Nat.le_trans (Keep.refl h0 []).1 (Nat.le_of_eq g303.symm))) (allS (Nat.le_trans Z0 (Nat.le_trans kp308.1 f310)) all0)))
      obtain ⟨cq423, kq423, q423a, q423b, q423c⟩ := isOf hZ e417 f413
      obtain ⟨_, _, ⟨T423, L423, k423, n423⟩, -, X423', ⟨Lc423, hQ423, l423, y423, z423⟩, st423⟩ := X417.virtualBack hx (y := (⟨"com/example/tideshift/tideshift/cli/LatencyHistogram", "quantile", "(D)D"⟩ : MethodName)) (z := (⟨"com/example/tideshift/tideshift/cli/LatencyHistogram", "quantile", "(D)D"⟩ : MethodName)) hown (mvT hZ (hw _ (List.mem_of_getElem? (i := 38) rfl))) (mvT hZ (hw _ (List.mem_of_getElem? (i := 39) rfl))) (notFace_of_selects (args := #[]) (mvT hZ (hw _ (List.mem_of_getElem? (i := 41) rfl)))) (mvT hZ (hw _ (List.mem_of_getElem? (i := 41) rfl))) (mvT hZ (hw _ (List.mem_of_getElem? (i := 40) rfl))) (by decide) (backOf (W := 0) (rmQnt20 l Z a0 hw [] b303 va_309 ka_309 (upd (bk p2) (upd (bk p1) zF)) Jq0 h402 n0 (Nat.le_trans Z0 kp411.1) f413 f403 f404 f409 f422 pr1 hJq0 hJa0 hJb0) hZ (hw _ (List.mem_of_getElem? (i := 42) rfl)) (hw _ (List.mem_of_getElem? (i := 2) rfl)) (by decide) (by decide)) q423a q423c (g := (mkF m 166 #[.val (.long p1), .second, .val (.long p2), .second, .val (.int p3), .val (.int (1 : Int32)), .val (.int (1 : Int32)), .val (.ref b303), .val (.ref b317), .val (.ref b331), .val (.long (2 : Int64)), .second, .val (.int (1 : Int32))] [(.double (0 : UInt64)), (.ref b303)])) rfl (by rw [hml]; rfl) (Steps.refl _) (argsL := [(.double (0 : UInt64))]) (rest := []) (lenOf pd__D_D rfl) rfl (by show 2 * 0 + _ ≤ _; exact Nat.le_of_eq rfl) (hb hby at_166) (fun _ _ => ⟨rfl, e417, (by decide : 6 + 0 ≤ _), (by decide : 11142 + 0 ≤ _)⟩)
      dsimp only [Pt.U, Pt.locs, Pt.cells, Pt.slots] at X423' l423 y423 z423 st423 hQ423
      subst l423 y423 z423
      obtain ⟨rfl, N423q, e423⟩ := hQ423
      obtain ⟨lc423, X423, N423⟩ : ∃ lc, Stand p l e room_1 s m #[(.long p1), (.long p2), (.int p3)] below meth c T423 lc 6 11142 ∧ Fr n0 lc := ⟨_, X423', Fr.app N417 N423q⟩
      have K424 : Gx p e below s₁ f0 T423 (mkF m 169 #[.val (.long p1), .second, .val (.long p2), .second, .val (.int p3), .val (.int (1 : Int32)), .val (.int (1 : Int32)), .val (.ref b303), .val (.ref b317), .val (.ref b331), .val (.long (2 : Int64)), .second, .val (.int (1 : Int32))] [(.double (midF (Int32.ofNat Jq0)))]) := fun t kt => K421 t (st423.trans kt)
      have K425 : Gx p e below s₁ f0 T423 (mkF m 172 #[.val (.long p1), .second, .val (.long p2), .second, .val (.int p3), .val (.int (1 : Int32)), .val (.int (1 : Int32)), .val (.ref b303), .val (.ref b317), .val (.ref b331), .val (.long (2 : Int64)), .second, .val (.int (1 : Int32))] [(.double (0 : UInt64)), (.ref b331), (.double (midF (Int32.ofNat Jq0)))]) := fun t kt => K424 t (by
        show Steps p.tables e below (T423.setTop (mkF m 169 #[.val (.long p1), .second, .val (.long p2), .second, .val (.int p3), .val (.int (1 : Int32)), .val (.int (1 : Int32)), .val (.ref b303), .val (.ref b317), .val (.ref b331), .val (.long (2 : Int64)), .second, .val (.int (1 : Int32))] [(.double (midF (Int32.ofNat Jq0)))])) _
        refine XS.aload X423.here hx rfl (hb hby at_169) rfl rfl ?_
        show Steps p.tables e below (T423.setTop (mkF m 171 #[.val (.long p1), .second, .val (.long p2), .second, .val (.int p3), .val (.int (1 : Int32)), .val (.int (1 : Int32)), .val (.ref b303), .val (.ref b317), .val (.ref b331), .val (.long (2 : Int64)), .second, .val (.int (1 : Int32))] [(.ref b331), (.double (midF (Int32.ofNat Jq0)))])) _
        refine XS.dconst0 X423.here hx rfl (hb hby at_171) (v := (0 : UInt64)) (by decide +kernel) ?_
        exact kt)
      have f426 : Exa Z h402 b331 "com/example/tideshift/tideshift/cli/LatencyHistogram" := (f387.keep Kc402)
      have f427 : Fld Z h402 b331 "com/example/tideshift/tideshift/cli/LatencyHistogram" "count" "J" (.long (2 : Int64)) := (f389.keep Kc402 (ninS (Ne.symm (Nat.ne_of_lt (Nat.lt_of_lt_of_le ((f311.ext E317).keep Kc323).lt (Nat.le_of_eq g331.symm)))) (ninS (Ne.symm (Nat.ne_of_lt (Nat.lt_of_lt_of_le ((f314.ext E317).keep Kc323 (ninS (Nat.ne_of_lt (Nat.lt_of_lt_of_le f314.lt (Nat.le_of_eq g317.symm))) nin0)).lt (Nat.le_of_eq g331.symm)))) nin0)))
      have f428 : Arv Z h402 va_337 ka_337 .long (3712 : Int32) (tab (upd (bk p2) (upd (bk p1) zF))) (.long (0 : Int64)) := (f390.keep Kc402 (ninS (Ne.symm (Nat.ne_of_lt (Nat.lt_of_lt_of_le (((f311.ext E317).keep Kc323).ext E331).lt f338))) (ninS (Ne.symm (Nat.ne_of_lt (Nat.lt_of_lt_of_le (((f314.ext E317).keep Kc323 (ninS (Nat.ne_of_lt (Nat.lt_of_lt_of_le f314.lt (Nat.le_of_eq g317.symm))) nin0)).ext E331).lt f338))) nin0)))
      obtain ⟨cq429, kq429, q429a, q429b, q429c⟩ := isOf hZ e423 f426
      obtain ⟨_, _, ⟨T429, L429, k429, n429⟩, -, X429', ⟨Lc429, hQ429, l429, y429, z429⟩, st429⟩ := X423.virtualBack hx (y := (⟨"com/example/tideshift/tideshift/cli/LatencyHistogram", "quantile", "(D)D"⟩ : MethodName)) (z := (⟨"com/example/tideshift/tideshift/cli/LatencyHistogram", "quantile", "(D)D"⟩ : MethodName)) hown (mvT hZ (hw _ (List.mem_of_getElem? (i := 38) rfl))) (mvT hZ (hw _ (List.mem_of_getElem? (i := 39) rfl))) (notFace_of_selects (args := #[]) (mvT hZ (hw _ (List.mem_of_getElem? (i := 41) rfl)))) (mvT hZ (hw _ (List.mem_of_getElem? (i := 41) rfl))) (mvT hZ (hw _ (List.mem_of_getElem? (i := 40) rfl))) (by decide) (backOf (W := 2) (rmQnt20 l Z a0 hw [] b331 va_337 ka_337 (upd (bk p2) (upd (bk p1) zF)) Jq0 h402 n0 (Nat.le_trans Z0 kp411.1) f426 f408 f427 f428 f422 pr1 hJq0 hJa0 hJb0) hZ (hw _ (List.mem_of_getElem? (i := 42) rfl)) (hw _ (List.mem_of_getElem? (i := 2) rfl)) (by decide) (by decide)) q429a q429c (g := (mkF m 172 #[.val (.long p1), .second, .val (.long p2), .second, .val (.int p3), .val (.int (1 : Int32)), .val (.int (1 : Int32)), .val (.ref b303), .val (.ref b317), .val (.ref b331), .val (.long (2 : Int64)), .second, .val (.int (1 : Int32))] [(.double (0 : UInt64)), (.ref b331), (.double (midF (Int32.ofNat Jq0)))])) rfl (by rw [hml]; rfl) (Steps.refl _) (argsL := [(.double (0 : UInt64))]) (rest := [(.double (midF (Int32.ofNat Jq0)))]) (lenOf pd__D_D rfl) rfl (by show 2 * 0 + _ ≤ _; exact Nat.le_of_eq rfl) (hb hby at_172) (fun _ _ => ⟨rfl, e423, (by decide : 6 + 0 ≤ _), (by decide : 11142 + 0 ≤ _)⟩)
      dsimp only [Pt.U, Pt.locs, Pt.cells, Pt.slots] at X429' l429 y429 z429 st429 hQ429
      subst l429 y429 z429
      obtain ⟨rfl, N429q, e429⟩ := hQ429
      obtain ⟨lc429, X429, N429⟩ : ∃ lc, Stand p l e room_1 s m #[(.long p1), (.long p2), (.int p3)] below meth c T429 lc 6 11142 ∧ Fr n0 lc := ⟨_, X429', Fr.app N423 N429q⟩
      have K430 : Gx p e below s₁ f0 T429 (mkF m 175 #[.val (.long p1), .second, .val (.long p2), .second, .val (.int p3), .val (.int (1 : Int32)), .val (.int (1 : Int32)), .val (.ref b303), .val (.ref b317), .val (.ref b331), .val (.long (2 : Int64)), .second, .val (.int (1 : Int32))] [(.double (midF (Int32.ofNat Jq0))), (.double (midF (Int32.ofNat Jq0)))]) := fun t kt => K425 t (st429.trans kt)
      obtain ⟨_, _, ⟨T431, L431, k431, n431⟩, -, X431', ⟨Lc431, hQ431, l431, y431, z431⟩, st431⟩ := Jvm.LawKit.callS X429 hx (y := (⟨"com/example/tideshift/tideshift/cli/LatencyHistogramAddPinLaw", "same", "(DD)Z"⟩ : MethodName)) hown (mvT hZ (hw _ (List.mem_of_getElem? (i := 44) rfl))) (mvT hZ (hw _ (List.mem_of_getElem? (i := 45) rfl))) (mvT hZ (hw _ (List.mem_of_getElem? (i := 46) rfl))) (mvT hZ (hw _ (List.mem_of_getElem? (i := 47) rfl))) (by decide) (backOf (W := 0) (rmSam l Z a0 hw [] (midF (Int32.ofNat Jq0)) h402 n0 (Nat.le_trans Z0 kp411.1) ) hZ (hw _ (List.mem_of_getElem? (i := 47) rfl)) (hw _ (List.mem_of_getElem? (i := 46) rfl)) (by decide) (by decide)) (g := (mkF m 175 #[.val (.long p1), .second, .val (.long p2), .second, .val (.int p3), .val (.int (1 : Int32)), .val (.int (1 : Int32)), .val (.ref b303), .val (.ref b317), .val (.ref b331), .val (.long (2 : Int64)), .second, .val (.int (1 : Int32))] [(.double (midF (Int32.ofNat Jq0))), (.double (midF (Int32.ofNat Jq0)))])) rfl (by rw [hml]; rfl) (argsL := [(.double (midF (Int32.ofNat Jq0))), (.double (midF (Int32.ofNat Jq0)))]) (rest := []) (lenOf pd__DD_Z rfl) rfl (by show 2 * 0 + _ ≤ _; exact Nat.le_of_eq rfl) (hb hby at_175) (fun _ _ => ⟨rfl, e429, (by decide : 6 + 0 ≤ _), (by decide : 11142 + 0 ≤ _)⟩)
      dsimp only [Pt.U, Pt.locs, Pt.cells, Pt.slots] at X431' l431 y431 z431 st431 hQ431
      subst l431 y431 z431
      obtain ⟨rfl, N431q, e431⟩ := hQ431
      obtain ⟨lc431, X431, N431⟩ : ∃ lc, Stand p l e room_1 s m #[(.long p1), (.long p2), (.int p3)] below meth c T431 lc 6 11142 ∧ Fr n0 lc := ⟨_, X431', Fr.app N429 N431q⟩
      have K432 : Gx p e below s₁ f0 T431 (mkF m 178 #[.val (.long p1), .second, .val (.long p2), .second, .val (.int p3), .val (.int (1 : Int32)), .val (.int (1 : Int32)), .val (.ref b303), .val (.ref b317), .val (.ref b331), .val (.long (2 : Int64)), .second, .val (.int (1 : Int32))] [(.int (1 : Int32))]) := fun t kt => K430 t (st431 t kt)
      have K433 : Gx p e below s₁ f0 T431 (mkF m 181 #[.val (.long p1), .second, .val (.long p2), .second, .val (.int p3), .val (.int (1 : Int32)), .val (.int (1 : Int32)), .val (.ref b303), .val (.ref b317), .val (.ref b331), .val (.long (2 : Int64)), .second, .val (.int (1 : Int32))] []) := fun t kt => K432 t (by
        show Steps p.tables e below (T431.setTop (mkF m 178 #[.val (.long p1), .second, .val (.long p2), .second, .val (.int p3), .val (.int (1 : Int32)), .val (.int (1 : Int32)), .val (.ref b303), .val (.ref b317), .val (.ref b331), .val (.long (2 : Int64)), .second, .val (.int (1 : Int32))] [(.int (1 : Int32))])) _
        refine XS.ifNo X431.here hx rfl (hb hby at_178) rfl ((if0 _ _).trans (feq (by decide)).1) ?_
        exact kt)
      obtain ⟨Jq1, hJq1, hJa1, hJb1⟩ := own_find (upd (bk p2) (upd (bk p1) zF)) (2 : Int64) (by rw [prf2 p1 p2]; decide)
      have K434 : Gx p e below s₁ f0 T431 (mkF m 184 #[.val (.long p1), .second, .val (.long p2), .second, .val (.int p3), .val (.int (1 : Int32)), .val (.int (1 : Int32)), .val (.ref b303), .val (.ref b317), .val (.ref b331), .val (.long (2 : Int64)), .second, .val (.int (1 : Int32))] [(.double (4607182418800017408 : UInt64)), (.ref b303)]) := fun t kt => K433 t (by
        show Steps p.tables e below (T431.setTop (mkF m 181 #[.val (.long p1), .second, .val (.long p2), .second, .val (.int p3), .val (.int (1 : Int32)), .val (.int (1 : Int32)), .val (.ref b303), .val (.ref b317), .val (.ref b331), .val (.long (2 : Int64)), .second, .val (.int (1 : Int32))] [])) _
        refine XS.aload X431.here hx rfl (hb hby at_181) rfl rfl ?_
        show Steps p.tables e below (T431.setTop (mkF m 183 #[.val (.long p1), .second, .val (.long p2), .second, .val (.int p3), .val (.int (1 : Int32)), .val (.int (1 : Int32)), .val (.ref b303), .val (.ref b317), .val (.ref b331), .val (.long (2 : Int64)), .second, .val (.int (1 : Int32))] [(.ref b303)])) _
        refine XS.dconst1 X431.here hx rfl (hb hby at_183) (v := (4607182418800017408 : UInt64)) (by decide +kernel) ?_
        exact kt)
      obtain ⟨cq435, kq435, q435a, q435b, q435c⟩ := isOf hZ e431 f413
      obtain ⟨_, _, ⟨T435, L435, k435, n435⟩, -, X435', ⟨Lc435, hQ435, l435, y435, z435⟩, st435⟩ := X431.virtualBack hx (y := (⟨"com/example/tideshift/tideshift/cli/LatencyHistogram", "quantile", "(D)D"⟩ : MethodName)) (z := (⟨"com/example/tideshift/tideshift/cli/LatencyHistogram", "quantile", "(D)D"⟩ : MethodName)) hown (mvT hZ (hw _ (List.mem_of_getElem? (i := 38) rfl))) (mvT hZ (hw _ (List.mem_of_getElem? (i := 39) rfl))) (notFace_of_selects (args := #[]) (mvT hZ (hw _ (List.mem_of_getElem? (i := 41) rfl)))) (mvT hZ (hw _ (List.mem_of_getElem? (i := 41) rfl))) (mvT hZ (hw _ (List.mem_of_getElem? (i := 40) rfl))) (by decide) (backOf (W := 0) (rmQnt21 l Z a0 hw [] b303 va_309 ka_309 (upd (bk p2) (upd (bk p1) zF)) Jq1 h402 n0 (Nat.le_trans Z0 kp411.1) f413 f403 f404 f409 f422 pr1 hJq1 hJa1 hJb1) hZ (hw _ (List.mem_of_getElem? (i := 42) rfl)) (hw _ (List.mem_of_getElem? (i := 2) rfl)) (by decide) (by decide)) q435a q435c (g := (mkF m 184 #[.val (.long p1), .second, .val (.long p2), .second, .val (.int p3), .val (.int (1 : Int32)), .val (.int (1 : Int32)), .val (.ref b303), .val (.ref b317), .val (.ref b331), .val (.long (2 : Int64)), .second, .val (.int (1 : Int32))] [(.double (4607182418800017408 : UInt64)), (.ref b303)])) rfl (by rw [hml]; rfl) (Steps.refl _) (argsL := [(.double (4607182418800017408 : UInt64))]) (rest := []) (lenOf pd__D_D rfl) rfl (by show 2 * 0 + _ ≤ _; exact Nat.le_of_eq rfl) (hb hby at_184) (fun _ _ => ⟨rfl, e431, (by decide : 6 + 0 ≤ _), (by decide : 11142 + 0 ≤ _)⟩)
      dsimp only [Pt.U, Pt.locs, Pt.cells, Pt.slots] at X435' l435 y435 z435 st435 hQ435
      subst l435 y435 z435
      obtain ⟨rfl, N435q, e435⟩ := hQ435
      obtain ⟨lc435, X435, N435⟩ : ∃ lc, Stand p l e room_1 s m #[(.long p1), (.long p2), (.int p3)] below meth c T435 lc 6 11142 ∧ Fr n0 lc := ⟨_, X435', Fr.app N431 N435q⟩
      have K436 : Gx p e below s₁ f0 T435 (mkF m 187 #[.val (.long p1), .second, .val (.long p2), .second, .val (.int p3), .val (.int (1 : Int32)), .val (.int (1 : Int32)), .val (.ref b303), .val (.ref b317), .val (.ref b331), .val (.long (2 : Int64)), .second, .val (.int (1 : Int32))] [(.double (midF (Int32.ofNat Jq1)))]) := fun t kt => K434 t (st435.trans kt)
      have K437 : Gx p e below s₁ f0 T435 (mkF m 190 #[.val (.long p1), .second, .val (.long p2), .second, .val (.int p3), .val (.int (1 : Int32)), .val (.int (1 : Int32)), .val (.ref b303), .val (.ref b317), .val (.ref b331), .val (.long (2 : Int64)), .second, .val (.int (1 : Int32))] [(.double (4607182418800017408 : UInt64)), (.ref b331), (.double (midF (Int32.ofNat Jq1)))]) := fun t kt => K436 t (by
        show Steps p.tables e below (T435.setTop (mkF m 187 #[.val (.long p1), .second, .val (.long p2), .second, .val (.int p3), .val (.int (1 : Int32)), .val (.int (1 : Int32)), .val (.ref b303), .val (.ref b317), .val (.ref b331), .val (.long (2 : Int64)), .second, .val (.int (1 : Int32))] [(.double (midF (Int32.ofNat Jq1)))])) _
        refine XS.aload X435.here hx rfl (hb hby at_187) rfl rfl ?_
        show Steps p.tables e below (T435.setTop (mkF m 189 #[.val (.long p1), .second, .val (.long p2), .second, .val (.int p3), .val (.int (1 : Int32)), .val (.int (1 : Int32)), .val (.ref b303), .val (.ref b317), .val (.ref b331), .val (.long (2 : Int64)), .second, .val (.int (1 : Int32))] [(.ref b331), (.double (midF (Int32.ofNat Jq1)))])) _
        refine XS.dconst1 X435.here hx rfl (hb hby at_189) (v := (4607182418800017408 : UInt64)) (by decide +kernel) ?_
        exact kt)
      obtain ⟨cq438, kq438, q438a, q438b, q438c⟩ := isOf hZ e435 f426
      obtain ⟨_, _, ⟨T438, L438, k438, n438⟩, -, X438', ⟨Lc438, hQ438, l438, y438, z438⟩, st438⟩ := X435.virtualBack hx (y := (⟨"com/example/tideshift/tideshift/cli/LatencyHistogram", "quantile", "(D)D"⟩ : MethodName)) (z := (⟨"com/example/tideshift/tideshift/cli/LatencyHistogram", "quantile", "(D)D"⟩ : MethodName)) hown (mvT hZ (hw _ (List.mem_of_getElem? (i := 38) rfl))) (mvT hZ (hw _ (List.mem_of_getElem? (i := 39) rfl))) (notFace_of_selects (args := #[]) (mvT hZ (hw _ (List.mem_of_getElem? (i := 41) rfl)))) (mvT hZ (hw _ (List.mem_of_getElem? (i := 41) rfl))) (mvT hZ (hw _ (List.mem_of_getElem? (i := 40) rfl))) (by decide) (backOf (W := 2) (rmQnt21 l Z a0 hw [] b331 va_337 ka_337 (upd (bk p2) (upd (bk p1) zF)) Jq1 h402 n0 (Nat.le_trans Z0 kp411.1) f426 f408 f427 f428 f422 pr1 hJq1 hJa1 hJb1) hZ (hw _ (List.mem_of_getElem? (i := 42) rfl)) (hw _ (List.mem_of_getElem? (i := 2) rfl)) (by decide) (by decide)) q438a q438c (g := (mkF m 190 #[.val (.long p1), .second, .val (.long p2), .second, .val (.int p3), .val (.int (1 : Int32)), .val (.int (1 : Int32)), .val (.ref b303), .val (.ref b317), .val (.ref b331), .val (.long (2 : Int64)), .second, .val (.int (1 : Int32))] [(.double (4607182418800017408 : UInt64)), (.ref b331), (.double (midF (Int32.ofNat Jq1)))])) rfl (by rw [hml]; rfl) (Steps.refl _) (argsL := [(.double (4607182418800017408 : UInt64))]) (rest := [(.double (midF (Int32.ofNat Jq1)))]) (lenOf pd__D_D rfl) rfl (by show 2 * 0 + _ ≤ _; exact Nat.le_of_eq rfl) (hb hby at_190) (fun _ _ => ⟨rfl, e435, (by decide : 6 + 0 ≤ _), (by decide : 11142 + 0 ≤ _)⟩)
      dsimp only [Pt.U, Pt.locs, Pt.cells, Pt.slots] at X438' l438 y438 z438 st438 hQ438
      subst l438 y438 z438
      obtain ⟨rfl, N438q, e438⟩ := hQ438
      obtain ⟨lc438, X438, N438⟩ : ∃ lc, Stand p l e room_1 s m #[(.long p1), (.long p2), (.int p3)] below meth c T438 lc 6 11142 ∧ Fr n0 lc := ⟨_, X438', Fr.app N435 N438q⟩
      have K439 : Gx p e below s₁ f0 T438 (mkF m 193 #[.val (.long p1), .second, .val (.long p2), .second, .val (.int p3), .val (.int (1 : Int32)), .val (.int (1 : Int32)), .val (.ref b303), .val (.ref b317), .val (.ref b331), .val (.long (2 : Int64)), .second, .val (.int (1 : Int32))] [(.double (midF (Int32.ofNat Jq1))), (.double (midF (Int32.ofNat Jq1)))]) := fun t kt => K437 t (st438.trans kt)
      obtain ⟨_, _, ⟨T440, L440, k440, n440⟩, -, X440', ⟨Lc440, hQ440, l440, y440, z440⟩, st440⟩ := Jvm.LawKit.callS X438 hx (y := (⟨"com/example/tideshift/tideshift/cli/LatencyHistogramAddPinLaw", "same", "(DD)Z"⟩ : MethodName)) hown (mvT hZ (hw _ (List.mem_of_getElem? (i := 44) rfl))) (mvT hZ (hw _ (List.mem_of_getElem? (i := 45) rfl))) (mvT hZ (hw _ (List.mem_of_getElem? (i := 46) rfl))) (mvT hZ (hw _ (List.mem_of_getElem? (i := 47) rfl))) (by decide) (backOf (W := 0) (rmSam l Z a0 hw [] (midF (Int32.ofNat Jq1)) h402 n0 (Nat.le_trans Z0 kp411.1) ) hZ (hw _ (List.mem_of_getElem? (i := 47) rfl)) (hw _ (List.mem_of_getElem? (i := 46) rfl)) (by decide) (by decide)) (g := (mkF m 193 #[.val (.long p1), .second, .val (.long p2), .second, .val (.int p3), .val (.int (1 : Int32)), .val (.int (1 : Int32)), .val (.ref b303), .val (.ref b317), .val (.ref b331), .val (.long (2 : Int64)), .second, .val (.int (1 : Int32))] [(.double (midF (Int32.ofNat Jq1))), (.double (midF (Int32.ofNat Jq1)))])) rfl (by rw [hml]; rfl) (argsL := [(.double (midF (Int32.ofNat Jq1))), (.double (midF (Int32.ofNat Jq1)))]) (rest := []) (lenOf pd__DD_Z rfl) rfl (by show 2 * 0 + _ ≤ _; exact Nat.le_of_eq rfl) (hb hby at_193) (fun _ _ => ⟨rfl, e438, (by decide : 6 + 0 ≤ _), (by decide : 11142 + 0 ≤ _)⟩)
      dsimp only [Pt.U, Pt.locs, Pt.cells, Pt.slots] at X440' l440 y440 z440 st440 hQ440
      subst l440 y440 z440
      obtain ⟨rfl, N440q, e440⟩ := hQ440
      obtain ⟨lc440, X440, N440⟩ : ∃ lc, Stand p l e room_1 s m #[(.long p1), (.long p2), (.int p3)] below meth c T440 lc 6 11142 ∧ Fr n0 lc := ⟨_, X440', Fr.app N438 N440q⟩
      have K441 : Gx p e below s₁ f0 T440 (mkF m 196 #[.val (.long p1), .second, .val (.long p2), .second, .val (.int p3), .val (.int (1 : Int32)), .val (.int (1 : Int32)), .val (.ref b303), .val (.ref b317), .val (.ref b331), .val (.long (2 : Int64)), .second, .val (.int (1 : Int32))] [(.int (1 : Int32))]) := fun t kt => K439 t (st440 t kt)
      have K442 : Gx p e below s₁ f0 T440 (mkF m 204 #[.val (.long p1), .second, .val (.long p2), .second, .val (.int p3), .val (.int (1 : Int32)), .val (.int (1 : Int32)), .val (.ref b303), .val (.ref b317), .val (.ref b331), .val (.long (2 : Int64)), .second, .val (.int (1 : Int32))] [(.int (1 : Int32))]) := fun t kt => K441 t (by
        show Steps p.tables e below (T440.setTop (mkF m 196 #[.val (.long p1), .second, .val (.long p2), .second, .val (.int p3), .val (.int (1 : Int32)), .val (.int (1 : Int32)), .val (.ref b303), .val (.ref b317), .val (.ref b331), .val (.long (2 : Int64)), .second, .val (.int (1 : Int32))] [(.int (1 : Int32))])) _
        refine XS.ifNo X440.here hx rfl (hb hby at_196) rfl ((if0 _ _).trans (feq (by decide)).1) ?_
        show Steps p.tables e below (T440.setTop (mkF m 199 #[.val (.long p1), .second, .val (.long p2), .second, .val (.int p3), .val (.int (1 : Int32)), .val (.int (1 : Int32)), .val (.ref b303), .val (.ref b317), .val (.ref b331), .val (.long (2 : Int64)), .second, .val (.int (1 : Int32))] [])) _
        refine XS.iconst X440.here hx rfl (hb hby at_199) ?_
        show Steps p.tables e below (T440.setTop (mkF m 200 #[.val (.long p1), .second, .val (.long p2), .second, .val (.int p3), .val (.int (1 : Int32)), .val (.int (1 : Int32)), .val (.ref b303), .val (.ref b317), .val (.ref b331), .val (.long (2 : Int64)), .second, .val (.int (1 : Int32))] [(.int (1 : Int32))])) _
        refine XS.goto X440.here hx rfl (pc0 := 200) (pc' := 204) rfl (hb hby at_200) (by decide) (by decide) ?_
        exact kt)
      obtain ⟨fs443, hr443, hrun443, hended443, hW443, hsame443⟩ := X440.leave (v := some (.int (1 : Int32))) (fun h => by rw [Bd.returns] at h; cases h)
      refine ⟨_, _, pre0 _ (K442 _ ?_), hrun443, hended443, _, _, rfl, ?_, ⟨_, rfl⟩, hW443, hsame443.mono (by decide) (by decide)⟩
      · exact retN X440 hx (t := .boolean) Bd.returns (by simp) (hb hby at_204) hr443
      · show Q0 Z p1 p2 p3 h0 n0 _ T440.heap _
        rw [e440]
        exact ⟨rfl, N440⟩
set_option maxRecDepth 65536 in
set_option maxHeartbeats 40000000 in
theorem comes_1 {Post : Tables → Env → Array Value → State → Outcome → State → Prop} (hpost : ∀ tb e args s v u, (limb_1_1.after args s (.returned v) u = true ∧ limb_1_2.after args s (.returned v) u = true ∧ True) → FrameEnd s (.returned v) u (Jvm.fieldLocs frame_1_writes args s ++ Jvm.arrayLocs frame_1_arrays args s ++ Jvm.staticLocs frame_1_statics s) 24 22400 → Post tb e args s (.returned v) u) :
    ArmFor flags0 classFile x code maxLocals ret World_1 tables_1 room_1 Calls_1 rest_1 Pre_1 Post := by
  intro l hfl _ _ p e ha hc hk s m args below hf hA hF happ hP
  obtain ⟨hcalls, hrest, hpre⟩ := hP
  obtain ⟨-, -, -, hnamed, -, -, -, hat⟩ := (Spec.applies_iff hf).mp happ
  obtain ⟨hg, hn⟩ := and_e (Cond.before_iff.mp (show (Jvm.Cond.and given_1 narrow_1).before args s = true from hpre))
  obtain ⟨g1, g2⟩ := and_e hg
  obtain ⟨g3, g4⟩ := and_e g2
  obtain ⟨g5, g6⟩ := and_e g4
  obtain ⟨w0, w1, w2, rfl⟩ : ∃ w0 w1 w2 : Value, args = #[w0, w1, w2] := by
    have hs : args.size = 3 := by simpa [Cond.value, given_1] using g1
    obtain ⟨L⟩ := args
    match L, hs with
    | [w0, w1, w2], _ => exact ⟨w0, w1, w2, rfl⟩
  have hw := fun d (hd : d ∈ tables_1) => atoms_spec (ws := Jvm.Cond.code x code maxLocals ret :: tables_1) hat d (List.mem_cons_of_mem _ hd)
  have hfit : Fit s := fun {y c} hc i hi => by
    obtain ⟨ha, rfl⟩ := Array.getElem?_eq_some_iff.mp hc
    have q := List.all_eq_true.mp ((Array.all_eq_true_iff_forall_mem.mp hF) _ (Array.getElem_mem ha)) i (List.mem_range.mpr hi)
    simpa [Array.getElem?_eq_getElem hi] using q
  obtain ⟨hsets, hown0⟩ := atoms_of _ (rest_1_c_eq ▸ (show rest_1_c.before _ s = true from hrest))
  have hr0 := Cond.before_iff.mp hown0
  obtain ⟨i0, ei0⟩ := isL_v g3
  obtain rfl : w0 = (.long i0) := Option.some.inj ei0
  obtain ⟨i1, ei1⟩ := isL_v g5
  obtain rfl : w1 = (.long i1) := Option.some.inj ei1
  obtain ⟨i2, ei2⟩ := is_v g6
  obtain rfl : w2 = (.int i2) := Option.some.inj ei2
  have hSa : Sta s s.heap "java/lang/StrictMath" "$assertionsDisabled" "Z" (.int (1 : Int32)) := own_ad hsets
  obtain ⟨n, o, h1, h2, h3, _, L, rfl, ⟨rfl, N⟩, hq⟩ := rm0 l s _ hw tables_1 i0 i1 i2 s.heap s.heap.size (Nat.le_refl _) (Old.start s) hSa p e ha hc hk s m _ below hf ((Spec.applies_iff_loose hf).mp happ).1 ⟨rfl, State.Warmed39.refl s, rfl⟩ trivial
  refine ⟨n, _, h1, h2, h3, hpost _ _ _ _ _ _ ⟨Cond.after_iff.mpr rfl, Cond.after_iff.mpr (eq_i res_at (Term.int_eval (1)) rfl), trivial⟩ ⟨hq.1, hq.2.1, (hq.2.2.sift fun y hy => Or.inr (N y hy)).mono (by decide) (by decide)⟩⟩
theorem main_1_1 : Claimed_1_1 := comes_1 fun _ _ _ _ _ _ h hF => ⟨h.1, hF⟩
theorem main_1_2 : Claimed_1_2 := comes_1 fun _ _ _ _ _ _ h hF => ⟨h.2.1, hF⟩
end Jvm.Pilot.@@N@@
namespace Jvm.Pilot.@@N@@
open Jvm Jvm.ClassFile Sem Op Lib Jvm.Free Jvm.Stand Jvm.Pilot.@@N@@.Jvm.D
/-! MADE BY PROGRAM (witnessworld.py) out of the Statement's table words and the real class files: 20 classes; the members and pool entries that the words name. The judged class is class 1, her method 1. -/
namespace start1
open Jvm.ClassFile
def u (s : String) : CpInfo := .utf8 (stringToUtf16 s)
/-- a pool by its gaps: so many unusable entries, then the entry; so many at the end -/
def gap : Nat → List CpInfo → List CpInfo
  | 0, r => r
  | n + 1, r => .unusable :: gap n r
def poolList (es : List (Nat × CpInfo)) (last : Nat) : List CpInfo := es.foldr (fun e r => gap e.1 (e.2 :: r)) (gap last [])
def pool (es : List (Nat × CpInfo)) (last : Nat) : Array CpInfo := ⟨poolList es last⟩
def fileOf (pool : Array CpInfo) (this : Nat) (attrs : Array Attribute := #[]) (ms : Array MethodInfo := #[]) (fl : Nat := 33) (sup : Nat := 0) (ifs : Array Nat := #[]) (fds : Array FieldInfo := #[]) : ClassFile where
  minorVersion := 0
  majorVersion := 65
  constantPool := pool
  accessFlags := fl
  thisClass := this
  superClass := sup
  interfaces := ifs
  fields := fds
  methods := ms
  attributes := attrs
def plain (name : String) (sup : Option ClassId) : Class where
  name := name
  kind := .ordinary
  loader := none
  accessFlags := 33
  super := sup
  interfaces := #[]
  cf := none
  fields := #[]
  methods := #[]
  instanceTypes := #[]
  staticTypes := #[]
  resolved := #[]
  callSites := []
  init := .initialized
  statics := none
  mirror := none

def pool0 : Array CpInfo := pool [(5, u "<init>"), (0, u "()V"), (1, .class_ 10), (1, u "java/lang/Object")] 113

def k0c0 : Code := { maxStack := 0, maxLocals := 1, code := object_method_1_code, exceptionTable := #[], attributes := #[] }
def k0m0 : Method := { name := "<init>", desc := "()V", sig := { parameters := [], returnType := none }, accessFlags := 1, code := some k0c0 }
/-- java/lang/Object -/
def k0 : Class := { plain "java/lang/Object" none with
  accessFlags := 33
  interfaces := #[]
  cf := some (fileOf pool0 8 #[] #[{ accessFlags := 1, nameIndex := 5, descriptorIndex := 6, attributes := #[] }] 33 0 #[] #[])
  fields := #[]
  methods := #[k0m0]
  instanceTypes := #[]
  staticTypes := #[]
  resolved := Array.replicate 124 none
  statics := none }

def pool1 : Array CpInfo := pool [(2, .class_ 4), (0, .nameAndType 5 6), (0, u "java/lang/Object"), (0, u "<init>"), (0, u "()V"), (0, .class_ 8), (0, u "com/example/tideshift/tideshift/cli/LatencyHistogram"), (0, .methodref 7 3), (0, .methodref 7 11), (0, .nameAndType 12 13), (0, u "record"), (0, u "(J)V"), (0, .methodref 7 15), (0, .nameAndType 16 17), (0, u "add"), (0, u "(Lcom/example/tideshift/tideshift/cli/LatencyHistogram;)V"), (0, .methodref 7 19), (0, .nameAndType 20 21), (0, u "count"), (0, u "()J"), (0, .methodref 7 23), (0, .nameAndType 24 25), (0, u "quantile"), (0, u "(D)D"), (0, .methodref 27 28), (0, .class_ 29), (0, .nameAndType 30 31), (0, u "com/example/tideshift/tideshift/cli/LatencyHistogramAddPinLaw"), (0, u "same"), (0, u "(DD)Z"), (2, u "law"), (0, u "(JJI)Z")] 3

def k1m0 : Method := { name := "<init>", desc := "()V", sig := { parameters := [], returnType := none }, accessFlags := 1, code := none }
def k1c1 : Code := { maxStack := 5, maxLocals := 13, code := code, exceptionTable := #[], attributes := #[] }
def k1m1 : Method := { name := "law", desc := "(JJI)Z", sig := { parameters := [.long, .long, .int], returnType := some .boolean }, accessFlags := 9, code := some k1c1 }
def k1c2 : Code := { maxStack := 4, maxLocals := 4, code := method_3_code, exceptionTable := #[], attributes := #[] }
def k1m2 : Method := { name := "same", desc := "(DD)Z", sig := { parameters := [.double, .double], returnType := some .boolean }, accessFlags := 10, code := some k1c2 }
/-- com/example/tideshift/tideshift/cli/LatencyHistogramAddPinLaw -/
def k1 : Class := { plain "com/example/tideshift/tideshift/cli/LatencyHistogramAddPinLaw" (some 0) with
  accessFlags := 49
  interfaces := #[]
  cf := some (fileOf pool1 27 #[] #[{ accessFlags := 1, nameIndex := 5, descriptorIndex := 6, attributes := #[] }, { accessFlags := 9, nameIndex := 34, descriptorIndex := 35, attributes := #[] }, { accessFlags := 10, nameIndex := 30, descriptorIndex := 31, attributes := #[] }] 49 2 #[] #[])
  fields := #[]
  methods := #[k1m0, k1m1, k1m2]
  instanceTypes := #[]
  staticTypes := #[]
  resolved := Array.replicate 39 none
  statics := none }

def pool2 : Array CpInfo := pool [(1, .class_ 2), (0, u "com/example/tideshift/tideshift/cli/LatencyHistogram"), (0, .methodref 4 5), (0, .class_ 6), (0, .nameAndType 7 8), (0, u "java/lang/Object"), (0, u "<init>"), (0, u "()V"), (0, .class_ 10), (0, u "java/lang/Long"), (0, .long 9223372036854775807), (1, .methodref 1 14), (0, .nameAndType 15 16), (0, u "bucketOf"), (0, u "(J)I"), (0, .fieldref 1 18), (0, .nameAndType 19 20), (0, u "counts"), (0, u "[J"), (0, .methodref 22 23), (0, .class_ 24), (0, .nameAndType 25 26), (0, u "java/lang/Math"), (0, u "max"), (0, u "(JJ)J"), (0, .fieldref 1 28), (0, .nameAndType 29 30), (0, u "count"), (0, u "J"), (8, .double 9221120237041090560), (1, .methodref 22 42), (0, .nameAndType 43 44), (0, u "ceil"), (0, u "(D)D"), (0, .methodref 1 46), (0, .nameAndType 47 48), (0, u "middle"), (0, u "(I)D"), (0, .long 128), (1, .methodref 9 52), (0, .nameAndType 53 16), (0, u "numberOfLeadingZeros"), (0, .double 4611686018427387904), (1, u "SUB_BITS"), (0, u "I"), (2, u "HALF"), (3, u "record"), (0, u "(J)V"), (0, u "add"), (0, u "(Lcom/example/tideshift/tideshift/cli/LatencyHistogram;)V"), (2, u "()J"), (0, u "quantile")] 2

def k2c0 : Code := { maxStack := 3, maxLocals := 1, code := prog_30_method_1_code, exceptionTable := #[], attributes := #[] }
def k2m0 : Method := { name := "<init>", desc := "()V", sig := { parameters := [], returnType := none }, accessFlags := 0, code := some k2c0 }
def k2c1 : Code := { maxStack := 6, maxLocals := 3, code := prog_30_method_2_code, exceptionTable := #[], attributes := #[] }
def k2m1 : Method := { name := "record", desc := "(J)V", sig := { parameters := [.long], returnType := none }, accessFlags := 0, code := some k2c1 }
def k2c2 : Code := { maxStack := 6, maxLocals := 3, code := prog_30_method_3_code, exceptionTable := #[], attributes := #[] }
def k2m2 : Method := { name := "add", desc := "(Lcom/example/tideshift/tideshift/cli/LatencyHistogram;)V", sig := { parameters := [(.object "com/example/tideshift/tideshift/cli/LatencyHistogram")], returnType := none }, accessFlags := 0, code := some k2c2 }
def k2c3 : Code := { maxStack := 2, maxLocals := 1, code := prog_30_method_5_code, exceptionTable := #[], attributes := #[] }
def k2m3 : Method := { name := "count", desc := "()J", sig := { parameters := [], returnType := some .long }, accessFlags := 0, code := some k2c3 }
def k2c4 : Code := { maxStack := 6, maxLocals := 8, code := prog_30_method_6_code, exceptionTable := #[], attributes := #[] }
def k2m4 : Method := { name := "quantile", desc := "(D)D", sig := { parameters := [.double], returnType := some .double }, accessFlags := 0, code := some k2c4 }
def k2c5 : Code := { maxStack := 4, maxLocals := 3, code := prog_30_method_7_code, exceptionTable := #[], attributes := #[] }
def k2m5 : Method := { name := "bucketOf", desc := "(J)I", sig := { parameters := [.long], returnType := some .int }, accessFlags := 10, code := some k2c5 }
def k2c6 : Code := { maxStack := 6, maxLocals := 4, code := prog_30_method_8_code, exceptionTable := #[], attributes := #[] }
def k2m6 : Method := { name := "middle", desc := "(I)D", sig := { parameters := [.int], returnType := some .double }, accessFlags := 10, code := some k2c6 }
/-- com/example/tideshift/tideshift/cli/LatencyHistogram -/
def k2 : Class := { plain "com/example/tideshift/tideshift/cli/LatencyHistogram" (some 0) with
  accessFlags := 48
  interfaces := #[]
  cf := some (fileOf pool2 1 #[] #[{ accessFlags := 0, nameIndex := 7, descriptorIndex := 8, attributes := #[] }, { accessFlags := 0, nameIndex := 64, descriptorIndex := 65, attributes := #[] }, { accessFlags := 0, nameIndex := 66, descriptorIndex := 67, attributes := #[] }, { accessFlags := 0, nameIndex := 29, descriptorIndex := 70, attributes := #[] }, { accessFlags := 0, nameIndex := 71, descriptorIndex := 44, attributes := #[] }, { accessFlags := 10, nameIndex := 15, descriptorIndex := 16, attributes := #[] }, { accessFlags := 10, nameIndex := 47, descriptorIndex := 48, attributes := #[] }] 48 4 #[] #[{ accessFlags := 26, nameIndex := 56, descriptorIndex := 57, attributes := #[] }, { accessFlags := 26, nameIndex := 60, descriptorIndex := 57, attributes := #[] }, { accessFlags := 18, nameIndex := 19, descriptorIndex := 20, attributes := #[] }, { accessFlags := 2, nameIndex := 29, descriptorIndex := 30, attributes := #[] }])
  fields := #[{ name := "SUB_BITS", type := .int, accessFlags := 26, slot := 0, constantValue := 0 }, { name := "HALF", type := .int, accessFlags := 26, slot := 1, constantValue := 0 }, { name := "counts", type := (.array .long), accessFlags := 18, slot := 0, constantValue := 0 }, { name := "count", type := .long, accessFlags := 2, slot := 1, constantValue := 0 }]
  methods := #[k2m0, k2m1, k2m2, k2m3, k2m4, k2m5, k2m6]
  instanceTypes := #[(.array .long), .long]
  staticTypes := #[.int, .int]
  resolved := Array.replicate 74 none
  statics := none }

def pool3 : Array CpInfo := pool [(1, .class_ 2), (0, u "java/io/Serializable"), (0, .class_ 4), (0, u "java/lang/Object")] 2

/-- java/io/Serializable -/
def k3 : Class := { plain "java/io/Serializable" (some 0) with
  accessFlags := 1537
  interfaces := #[]
  cf := some (fileOf pool3 1 #[] #[] 1537 3 #[] #[])
  fields := #[]
  methods := #[]
  instanceTypes := #[]
  staticTypes := #[]
  resolved := Array.replicate 7 none
  statics := none }

def pool4 : Array CpInfo := pool [(2, .class_ 4), (1, u "java/lang/Object"), (0, u "<init>"), (0, u "()V"), (1, .class_ 10), (1, u "java/lang/Number"), (2, .class_ 14), (0, u "java/io/Serializable"), (0, u "serialVersionUID"), (0, u "J")] 20

def k4m0 : Method := { name := "<init>", desc := "()V", sig := { parameters := [], returnType := none }, accessFlags := 1, code := none }
/-- java/lang/Number -/
def k4 : Class := { plain "java/lang/Number" (some 0) with
  accessFlags := 1057
  interfaces := #[3]
  cf := some (fileOf pool4 8 #[] #[{ accessFlags := 1, nameIndex := 5, descriptorIndex := 6, attributes := #[] }] 1057 2 #[13] #[{ accessFlags := 26, nameIndex := 15, descriptorIndex := 16, attributes := #[] }])
  fields := #[{ name := "serialVersionUID", type := .long, accessFlags := 26, slot := 0, constantValue := 0 }]
  methods := #[k4m0]
  instanceTypes := #[]
  staticTypes := #[.long]
  resolved := Array.replicate 37 none
  statics := none }

def pool5 : Array CpInfo := pool [(1, .class_ 2), (0, u "java/lang/Comparable"), (0, .class_ 4), (0, u "java/lang/Object")] 7

/-- java/lang/Comparable -/
def k5 : Class := { plain "java/lang/Comparable" (some 0) with
  accessFlags := 1537
  interfaces := #[]
  cf := some (fileOf pool5 1 #[] #[] 1537 3 #[] #[])
  fields := #[]
  methods := #[]
  instanceTypes := #[]
  staticTypes := #[]
  resolved := Array.replicate 12 none
  statics := none }

def pool6 : Array CpInfo := pool [(1, .class_ 2), (0, u "java/lang/constant/Constable"), (0, .class_ 4), (0, u "java/lang/Object")] 6

/-- java/lang/constant/Constable -/
def k6 : Class := { plain "java/lang/constant/Constable" (some 0) with
  accessFlags := 1537
  interfaces := #[]
  cf := some (fileOf pool6 1 #[] #[] 1537 3 #[] #[])
  fields := #[]
  methods := #[]
  instanceTypes := #[]
  staticTypes := #[]
  resolved := Array.replicate 11 none
  statics := none }

def pool7 : Array CpInfo := pool [(1, .class_ 2), (0, u "java/lang/constant/ConstantDesc"), (0, .class_ 4), (0, u "java/lang/Object")] 32

/-- java/lang/constant/ConstantDesc -/
def k7 : Class := { plain "java/lang/constant/ConstantDesc" (some 0) with
  accessFlags := 1537
  interfaces := #[]
  cf := some (fileOf pool7 1 #[] #[] 1537 3 #[] #[])
  fields := #[]
  methods := #[]
  instanceTypes := #[]
  staticTypes := #[]
  resolved := Array.replicate 37 none
  statics := none }

def pool8 : Array CpInfo := pool [(1, .class_ 2), (0, u "java/lang/Long"), (15, .class_ 20), (1, u "java/lang/Integer"), (79, u "numberOfLeadingZeros"), (0, u "(J)I"), (133, .class_ 237), (1, u "java/lang/Long$LongCache"), (33, .class_ 272), (0, u "java/lang/Number"), (2, u "value"), (0, u "J"), (31, .methodref 18 309), (0, .nameAndType 100 310), (0, u "(I)I"), (50, u "TYPE"), (0, u "Ljava/lang/Class;"), (0, .class_ 364), (0, u "java/lang/Comparable"), (0, .class_ 366), (0, u "java/lang/constant/Constable"), (0, .class_ 368), (0, u "java/lang/constant/ConstantDesc"), (0, u "MIN_VALUE"), (1, u "MAX_VALUE"), (4, u "SIZE"), (0, u "I"), (1, u "BYTES"), (1, u "serialVersionUID")] 142

def k8c0 : Code := { maxStack := 3, maxLocals := 3, code := jdk_35_method_48_code, exceptionTable := #[], attributes := #[] }
def k8m0 : Method := { name := "numberOfLeadingZeros", desc := "(J)I", sig := { parameters := [.long], returnType := some .int }, accessFlags := 9, code := some k8c0 }
/-- java/lang/Long -/
def k8 : Class := { plain "java/lang/Long" (some 4) with
  accessFlags := 49
  interfaces := #[5, 6, 7]
  cf := some (fileOf pool8 1 #[.nestMembers #[235]] #[{ accessFlags := 9, nameIndex := 100, descriptorIndex := 101, attributes := #[] }] 49 271 #[363, 365, 367] #[{ accessFlags := 25, nameIndex := 369, descriptorIndex := 276, attributes := #[] }, { accessFlags := 25, nameIndex := 371, descriptorIndex := 276, attributes := #[] }, { accessFlags := 25, nameIndex := 361, descriptorIndex := 362, attributes := #[] }, { accessFlags := 18, nameIndex := 275, descriptorIndex := 276, attributes := #[] }, { accessFlags := 25, nameIndex := 376, descriptorIndex := 377, attributes := #[] }, { accessFlags := 25, nameIndex := 379, descriptorIndex := 377, attributes := #[] }, { accessFlags := 26, nameIndex := 381, descriptorIndex := 276, attributes := #[] }])
  fields := #[{ name := "MIN_VALUE", type := .long, accessFlags := 25, slot := 0, constantValue := 0 }, { name := "MAX_VALUE", type := .long, accessFlags := 25, slot := 1, constantValue := 0 }, { name := "TYPE", type := (.object "java/lang/Class"), accessFlags := 25, slot := 2, constantValue := 0 }, { name := "value", type := .long, accessFlags := 18, slot := 0, constantValue := 0 }, { name := "SIZE", type := .int, accessFlags := 25, slot := 3, constantValue := 0 }, { name := "BYTES", type := .int, accessFlags := 25, slot := 4, constantValue := 0 }, { name := "serialVersionUID", type := .long, accessFlags := 26, slot := 5, constantValue := 0 }]
  methods := #[k8m0]
  instanceTypes := #[.long]
  staticTypes := #[.long, .long, (.object "java/lang/Class"), .int, .int, .long]
  resolved := Array.replicate 524 none
  statics := none }

def pool9 : Array CpInfo := pool [(1, .class_ 2), (0, u "java/lang/Integer"), (16, u "digits"), (0, u "[C"), (32, u "numberOfLeadingZeros"), (0, u "(I)I"), (30, u "DigitOnes"), (0, u "[B"), (2, u "DigitTens"), (99, .class_ 190), (0, u "java/lang/Integer$IntegerCache"), (3, u "I"), (8, .class_ 204), (0, u "java/lang/Number"), (2, u "value"), (56, .integer 65536), (37, u "TYPE"), (0, u "Ljava/lang/Class;"), (0, .class_ 305), (0, u "java/lang/Comparable"), (0, .class_ 307), (0, u "java/lang/constant/Constable"), (0, .class_ 309), (0, u "java/lang/constant/ConstantDesc"), (0, u "MIN_VALUE"), (1, u "MAX_VALUE"), (3, u "SIZE"), (1, u "BYTES"), (1, u "serialVersionUID"), (0, u "J")] 131

def k9c0 : Code := { maxStack := 3, maxLocals := 2, code := jdk_33_method_47_code, exceptionTable := #[], attributes := #[] }
def k9m0 : Method := { name := "numberOfLeadingZeros", desc := "(I)I", sig := { parameters := [.int], returnType := some .int }, accessFlags := 9, code := some k9c0 }
/-- java/lang/Integer -/
def k9 : Class := { plain "java/lang/Integer" (some 4) with
  accessFlags := 49
  interfaces := #[5, 6, 7]
  cf := some (fileOf pool9 1 #[.nestMembers #[189]] #[{ accessFlags := 9, nameIndex := 53, descriptorIndex := 54, attributes := #[] }] 49 203 #[304, 306, 308] #[{ accessFlags := 25, nameIndex := 310, descriptorIndex := 194, attributes := #[] }, { accessFlags := 25, nameIndex := 312, descriptorIndex := 194, attributes := #[] }, { accessFlags := 25, nameIndex := 302, descriptorIndex := 303, attributes := #[] }, { accessFlags := 24, nameIndex := 19, descriptorIndex := 20, attributes := #[] }, { accessFlags := 24, nameIndex := 89, descriptorIndex := 86, attributes := #[] }, { accessFlags := 24, nameIndex := 85, descriptorIndex := 86, attributes := #[] }, { accessFlags := 18, nameIndex := 207, descriptorIndex := 194, attributes := #[] }, { accessFlags := 25, nameIndex := 316, descriptorIndex := 194, attributes := #[] }, { accessFlags := 25, nameIndex := 318, descriptorIndex := 194, attributes := #[] }, { accessFlags := 26, nameIndex := 320, descriptorIndex := 321, attributes := #[] }])
  fields := #[{ name := "MIN_VALUE", type := .int, accessFlags := 25, slot := 0, constantValue := 0 }, { name := "MAX_VALUE", type := .int, accessFlags := 25, slot := 1, constantValue := 0 }, { name := "TYPE", type := (.object "java/lang/Class"), accessFlags := 25, slot := 2, constantValue := 0 }, { name := "digits", type := (.array .char), accessFlags := 24, slot := 3, constantValue := 0 }, { name := "DigitTens", type := (.array .byte), accessFlags := 24, slot := 4, constantValue := 0 }, { name := "DigitOnes", type := (.array .byte), accessFlags := 24, slot := 5, constantValue := 0 }, { name := "value", type := .int, accessFlags := 18, slot := 0, constantValue := 0 }, { name := "SIZE", type := .int, accessFlags := 25, slot := 6, constantValue := 0 }, { name := "BYTES", type := .int, accessFlags := 25, slot := 7, constantValue := 0 }, { name := "serialVersionUID", type := .long, accessFlags := 26, slot := 8, constantValue := 0 }]
  methods := #[k9m0]
  instanceTypes := #[.int]
  staticTypes := #[.int, .int, (.object "java/lang/Class"), (.array .char), (.array .byte), (.array .byte), .int, .int, .long]
  resolved := Array.replicate 453 none
  statics := none }

def pool10 : Array CpInfo := pool [(1, .class_ 2), (0, u "java/lang/Math"), (1, .class_ 6), (1, u "java/lang/Object"), (0, u "<init>"), (0, u "()V"), (1, .class_ 12), (1, u "java/lang/StrictMath"), (1, u "(D)D"), (38, .methodref 10 54), (0, .nameAndType 55 14), (0, u "ceil"), (23, .methodref 80 81), (0, .class_ 82), (0, .nameAndType 83 84), (0, u "java/lang/Double"), (0, u "doubleToRawLongBits"), (0, u "(D)J"), (2, .long 9218868437227405312), (10, .class_ 100), (1, u "java/lang/Math$RandomNumberGeneratorHolder"), (20, u "(JJ)J"), (50, u "negativeZeroFloatBits"), (0, u "J"), (2, u "negativeZeroDoubleBits"), (21, u "max"), (46, u "$assertionsDisabled"), (0, u "Z"), (33, u "getExponent"), (0, u "(D)I"), (40, .long 1023), (15, u "twoToTheDoubleScaleDown"), (0, u "D"), (4, u "twoToTheDoubleScaleUp"), (9, u "E"), (3, u "PI"), (2, u "TAU"), (2, u "DEGREES_TO_RADIANS"), (0, u "RADIANS_TO_DEGREES")] 94

def k10m0 : Method := { name := "<init>", desc := "()V", sig := { parameters := [], returnType := none }, accessFlags := 2, code := none }
def k10c1 : Code := { maxStack := 2, maxLocals := 2, code := jdk_29_method_16_code, exceptionTable := #[], attributes := #[] }
def k10m1 : Method := { name := "ceil", desc := "(D)D", sig := { parameters := [.double], returnType := some .double }, accessFlags := 9, code := some k10c1 }
def k10c2 : Code := { maxStack := 4, maxLocals := 4, code := jdk_29_method_66_code, exceptionTable := #[], attributes := #[] }
def k10m2 : Method := { name := "max", desc := "(JJ)J", sig := { parameters := [.long, .long], returnType := some .long }, accessFlags := 9, code := some k10c2 }
def k10c3 : Code := { maxStack := 4, maxLocals := 2, code := jdk_29_method_92_code, exceptionTable := #[], attributes := #[] }
def k10m3 : Method := { name := "getExponent", desc := "(D)I", sig := { parameters := [.double], returnType := some .int }, accessFlags := 9, code := some k10c3 }
/-- java/lang/Math -/
def k10 : Class := { plain "java/lang/Math" (some 0) with
  accessFlags := 49
  interfaces := #[]
  cf := some (fileOf pool10 1 #[.nestMembers #[98]] #[{ accessFlags := 2, nameIndex := 7, descriptorIndex := 8, attributes := #[] }, { accessFlags := 9, nameIndex := 55, descriptorIndex := 14, attributes := #[] }, { accessFlags := 9, nameIndex := 198, descriptorIndex := 121, attributes := #[] }, { accessFlags := 9, nameIndex := 280, descriptorIndex := 281, attributes := #[] }] 49 4 #[] #[{ accessFlags := 25, nameIndex := 354, descriptorIndex := 339, attributes := #[] }, { accessFlags := 25, nameIndex := 358, descriptorIndex := 339, attributes := #[] }, { accessFlags := 25, nameIndex := 361, descriptorIndex := 339, attributes := #[] }, { accessFlags := 26, nameIndex := 364, descriptorIndex := 339, attributes := #[] }, { accessFlags := 26, nameIndex := 365, descriptorIndex := 339, attributes := #[] }, { accessFlags := 26, nameIndex := 172, descriptorIndex := 173, attributes := #[] }, { accessFlags := 26, nameIndex := 176, descriptorIndex := 173, attributes := #[] }, { accessFlags := 8, nameIndex := 344, descriptorIndex := 339, attributes := #[] }, { accessFlags := 8, nameIndex := 338, descriptorIndex := 339, attributes := #[] }, { accessFlags := 4120, nameIndex := 245, descriptorIndex := 246, attributes := #[] }])
  fields := #[{ name := "E", type := .double, accessFlags := 25, slot := 0, constantValue := 0 }, { name := "PI", type := .double, accessFlags := 25, slot := 1, constantValue := 0 }, { name := "TAU", type := .double, accessFlags := 25, slot := 2, constantValue := 0 }, { name := "DEGREES_TO_RADIANS", type := .double, accessFlags := 26, slot := 3, constantValue := 0 }, { name := "RADIANS_TO_DEGREES", type := .double, accessFlags := 26, slot := 4, constantValue := 0 }, { name := "negativeZeroFloatBits", type := .long, accessFlags := 26, slot := 5, constantValue := 0 }, { name := "negativeZeroDoubleBits", type := .long, accessFlags := 26, slot := 6, constantValue := 0 }, { name := "twoToTheDoubleScaleUp", type := .double, accessFlags := 8, slot := 7, constantValue := 0 }, { name := "twoToTheDoubleScaleDown", type := .double, accessFlags := 8, slot := 8, constantValue := 0 }, { name := "$assertionsDisabled", type := .boolean, accessFlags := 4120, slot := 9, constantValue := 0 }]
  methods := #[k10m0, k10m1, k10m2, k10m3]
  instanceTypes := #[]
  staticTypes := #[.double, .double, .double, .double, .double, .long, .long, .double, .double, .boolean]
  resolved := Array.replicate 460 none
  statics := none }

def pool11 : Array CpInfo := pool [(1, .class_ 2), (0, u "java/lang/StrictMath"), (1, .class_ 6), (1, u "java/lang/Object"), (0, u "<init>"), (0, u "()V"), (5, u "(D)D"), (16, .class_ 33), (1, u "java/lang/Math"), (24, .double 9223372036854775808), (1, .methodref 1 61), (0, .nameAndType 62 63), (0, u "floorOrCeil"), (0, u "(DDDD)D"), (2, .methodref 31 67), (0, .nameAndType 68 69), (0, u "getExponent"), (0, u "(D)I"), (0, .fieldref 1 71), (0, .nameAndType 72 73), (0, u "$assertionsDisabled"), (0, u "Z"), (3, .methodref 78 79), (0, .class_ 80), (0, .nameAndType 81 82), (0, u "java/lang/Double"), (0, u "doubleToRawLongBits"), (0, u "(D)J"), (2, .long 4503599627370495), (28, .class_ 116), (1, u "java/lang/StrictMath$RandomNumberGeneratorHolder"), (222, u "E"), (0, u "D"), (3, u "PI"), (2, u "TAU"), (26, u "ceil")] 61

def k11m0 : Method := { name := "<init>", desc := "()V", sig := { parameters := [], returnType := none }, accessFlags := 2, code := none }
def k11c1 : Code := { maxStack := 8, maxLocals := 2, code := jdk_128_method_16_code, exceptionTable := #[], attributes := #[] }
def k11m1 : Method := { name := "ceil", desc := "(D)D", sig := { parameters := [.double], returnType := some .double }, accessFlags := 9, code := some k11c1 }
def k11c2 : Code := { maxStack := 6, maxLocals := 15, code := jdk_128_method_18_code, exceptionTable := #[], attributes := #[] }
def k11m2 : Method := { name := "floorOrCeil", desc := "(DDDD)D", sig := { parameters := [.double, .double, .double, .double], returnType := some .double }, accessFlags := 10, code := some k11c2 }
/-- java/lang/StrictMath -/
def k11 : Class := { plain "java/lang/StrictMath" (some 0) with
  accessFlags := 49
  interfaces := #[]
  cf := some (fileOf pool11 1 #[.nestMembers #[114]] #[{ accessFlags := 2, nameIndex := 7, descriptorIndex := 8, attributes := #[] }, { accessFlags := 9, nameIndex := 374, descriptorIndex := 14, attributes := #[] }, { accessFlags := 10, nameIndex := 62, descriptorIndex := 63, attributes := #[] }] 49 4 #[] #[{ accessFlags := 25, nameIndex := 339, descriptorIndex := 340, attributes := #[] }, { accessFlags := 25, nameIndex := 344, descriptorIndex := 340, attributes := #[] }, { accessFlags := 25, nameIndex := 347, descriptorIndex := 340, attributes := #[] }, { accessFlags := 4120, nameIndex := 72, descriptorIndex := 73, attributes := #[] }])
  fields := #[{ name := "E", type := .double, accessFlags := 25, slot := 0, constantValue := 0 }, { name := "PI", type := .double, accessFlags := 25, slot := 1, constantValue := 0 }, { name := "TAU", type := .double, accessFlags := 25, slot := 2, constantValue := 0 }, { name := "$assertionsDisabled", type := .boolean, accessFlags := 4120, slot := 3, constantValue := 0 }]
  methods := #[k11m0, k11m1, k11m2]
  instanceTypes := #[]
  staticTypes := #[.double, .double, .double, .boolean]
  resolved := Array.replicate 436 none
  statics := some 0 }

def pool12 : Array CpInfo := pool [(1, .class_ 2), (0, u "java/lang/Double"), (46, u "(D)J"), (64, .class_ 116), (1, u "java/lang/Number"), (3, u "value"), (0, u "D"), (14, u "doubleToRawLongBits"), (36, u "TYPE"), (0, u "Ljava/lang/Class;"), (0, .class_ 176), (0, u "java/lang/Comparable"), (0, .class_ 178), (0, u "java/lang/constant/Constable"), (0, .class_ 180), (0, u "java/lang/constant/ConstantDesc"), (0, u "POSITIVE_INFINITY"), (3, u "NEGATIVE_INFINITY"), (2, u "NaN"), (2, u "MAX_VALUE"), (0, u "MIN_NORMAL"), (0, u "MIN_VALUE"), (2, u "SIZE"), (0, u "I"), (1, u "PRECISION"), (1, u "MAX_EXPONENT"), (1, u "MIN_EXPONENT"), (1, u "BYTES"), (3, u "serialVersionUID"), (0, u "J")] 79

def k12m0 : Method := { name := "doubleToRawLongBits", desc := "(D)J", sig := { parameters := [.double], returnType := some .long }, accessFlags := 265, code := none }
/-- java/lang/Double -/
def k12 : Class := { plain "java/lang/Double" (some 4) with
  accessFlags := 49
  interfaces := #[5, 6, 7]
  cf := some (fileOf pool12 1 #[] #[{ accessFlags := 265, nameIndex := 136, descriptorIndex := 49, attributes := #[] }] 49 114 #[175, 177, 179] #[{ accessFlags := 25, nameIndex := 181, descriptorIndex := 121, attributes := #[] }, { accessFlags := 25, nameIndex := 185, descriptorIndex := 121, attributes := #[] }, { accessFlags := 25, nameIndex := 188, descriptorIndex := 121, attributes := #[] }, { accessFlags := 25, nameIndex := 191, descriptorIndex := 121, attributes := #[] }, { accessFlags := 25, nameIndex := 192, descriptorIndex := 121, attributes := #[] }, { accessFlags := 25, nameIndex := 193, descriptorIndex := 121, attributes := #[] }, { accessFlags := 25, nameIndex := 196, descriptorIndex := 197, attributes := #[] }, { accessFlags := 25, nameIndex := 199, descriptorIndex := 197, attributes := #[] }, { accessFlags := 25, nameIndex := 201, descriptorIndex := 197, attributes := #[] }, { accessFlags := 25, nameIndex := 203, descriptorIndex := 197, attributes := #[] }, { accessFlags := 25, nameIndex := 205, descriptorIndex := 197, attributes := #[] }, { accessFlags := 25, nameIndex := 173, descriptorIndex := 174, attributes := #[] }, { accessFlags := 18, nameIndex := 120, descriptorIndex := 121, attributes := #[] }, { accessFlags := 26, nameIndex := 209, descriptorIndex := 210, attributes := #[] }])
  fields := #[{ name := "POSITIVE_INFINITY", type := .double, accessFlags := 25, slot := 0, constantValue := 0 }, { name := "NEGATIVE_INFINITY", type := .double, accessFlags := 25, slot := 1, constantValue := 0 }, { name := "NaN", type := .double, accessFlags := 25, slot := 2, constantValue := 0 }, { name := "MAX_VALUE", type := .double, accessFlags := 25, slot := 3, constantValue := 0 }, { name := "MIN_NORMAL", type := .double, accessFlags := 25, slot := 4, constantValue := 0 }, { name := "MIN_VALUE", type := .double, accessFlags := 25, slot := 5, constantValue := 0 }, { name := "SIZE", type := .int, accessFlags := 25, slot := 6, constantValue := 0 }, { name := "PRECISION", type := .int, accessFlags := 25, slot := 7, constantValue := 0 }, { name := "MAX_EXPONENT", type := .int, accessFlags := 25, slot := 8, constantValue := 0 }, { name := "MIN_EXPONENT", type := .int, accessFlags := 25, slot := 9, constantValue := 0 }, { name := "BYTES", type := .int, accessFlags := 25, slot := 10, constantValue := 0 }, { name := "TYPE", type := (.object "java/lang/Class"), accessFlags := 25, slot := 11, constantValue := 0 }, { name := "value", type := .double, accessFlags := 18, slot := 0, constantValue := 0 }, { name := "serialVersionUID", type := .long, accessFlags := 26, slot := 12, constantValue := 0 }]
  methods := #[k12m0]
  instanceTypes := #[.double]
  staticTypes := #[.double, .double, .double, .double, .double, .double, .int, .int, .int, .int, .int, (.object "java/lang/Class"), .long]
  resolved := Array.replicate 290 none
  statics := none }

def pool13 : Array CpInfo := pool [(1, u "java/lang/Cloneable"), (0, .class_ 1), (0, u "java/lang/Object"), (0, .class_ 3)] 3

/-- java/lang/Cloneable -/
def k13 : Class := { plain "java/lang/Cloneable" (some 0) with
  accessFlags := 1537
  interfaces := #[]
  cf := some (fileOf pool13 2 #[] #[] 1537 4 #[] #[])
  fields := #[]
  methods := #[]
  instanceTypes := #[]
  staticTypes := #[]
  resolved := Array.replicate 8 none
  statics := none }

/-- the primitive byte -/
def k14 : Class := { plain "byte" none with kind := .primitive 'B', accessFlags := 0x411 }
/-- [B -/
def k15 : Class := { plain "[B" (some 0) with kind := .array 14 .byte, interfaces := #[13, 3], accessFlags := 1041 }

/-- the primitive int -/
def k16 : Class := { plain "int" none with kind := .primitive 'I', accessFlags := 0x411 }
/-- [I -/
def k17 : Class := { plain "[I" (some 0) with kind := .array 16 .int, interfaces := #[13, 3], accessFlags := 1041 }

/-- the primitive long -/
def k18 : Class := { plain "long" none with kind := .primitive 'J', accessFlags := 0x411 }
/-- [J -/
def k19 : Class := { plain "[J" (some 0) with kind := .array 18 .long, interfaces := #[13, 3], accessFlags := 1041 }

def heap : Heap := #[{ cls := 11, slots := #[.double 0, .double 0, .double 0, .int 1], vm := .statics 11 }]
def classes : Array Class := #[k0, k1, k2, k3, k4, k5, k6, k7, k8, k9, k10, k11, k12, k13, k14, k15, k16, k17, k18, k19]
def interned : List (Array UInt16 × Addr) := []
def slotsUsed : Nat := 4
def theMethod : MethodId := ⟨1, 1⟩
def args0 : Array Value := #[.long 5, .long 1000, .int 3]
def aboutOver (below : List Frame) : State where
  vm := { classes := classes, interned := interned.toArray }
  heap := heap
  slotsUsed := slotsUsed
  threads := #[{ frames := .invoking theMethod args0 :: below }]
def below0 : List Frame := [.native { method := ⟨0, 0⟩, args := #[] }]
def about1 : State := aboutOver below0
def p0 : Program := .bare "" "" ""
def e0 : Env := launch0.env 0 0 0
theorem w_frames : about1.frames = Frame.invoking theMethod args0 :: below0 := rfl
set_option maxRecDepth 65536 in
theorem w_args : argsFit about1.vm theMethod args0 = true := by decide +kernel
set_option maxRecDepth 65536 in
theorem w_heap : heapFits about1 = true := by decide +kernel
set_option maxRecDepth 65536 in
theorem w_runnable : about1.curStatus? = some .runnable := by decide +kernel
set_option maxRecDepth 65536 in
theorem w_alone : about1.alone = true := by decide +kernel
set_option maxRecDepth 65536 in
theorem w_named : about1.methodNamed? x = some theMethod := by decide +kernel
set_option maxRecDepth 65536 in
theorem w_hears : about1.hears theMethod below0 = true := by decide +kernel
set_option maxRecDepth 65536 in
theorem w_ripe : about1.ripe theMethod args0 below0 = true := by decide +kernel
theorem w_running : about1.status = .running := rfl
set_option maxRecDepth 65536 in
theorem w_room : about1.hasRoom e0.platform room_1 = true :=
  launch0.hasRoom_least _ room_1 (by decide +kernel) (by decide +kernel) (by decide +kernel) (by decide +kernel) (by decide +kernel) (by decide +kernel)
theorem allAtoms_all (ts : List Jvm.Cond) (a : Array Jvm.Value) (st : Jvm.State) : (allAtoms ts).before a st = ts.all (fun c => c.before a st) := by
  induction ts with
  | nil => rfl
  | cons c t ih =>
    show (Jvm.Cond.and c (allAtoms t)).before a st = _
    rw [Jvm.Cond.before_and, ih, List.all_cons]
def words1 : List Jvm.Cond := Jvm.Cond.code x code maxLocals ret :: tables_1
/-- a 'code' word, met by the world's own term for the bytes: nothing is compared byte by byte -/
theorem code_word {y : MethodName} {bytes : ByteArray} {mx : Nat} {rt : Option FieldType} {a : Array Value} {s : State} {m : MethodId} {meth : Method} {c : Code} (h1 : s.methodNamed? y = some m) (h2 : s.vm.method? m = some meth) (h3 : meth.code = some c) (h4 : c.code = bytes)
    (h5 : (c.maxLocals == mx && c.exceptionTable.isEmpty && decide (c.maxStack ≤ mostOperands) && decide (meth.sig.returnType = rt) && !meth.locks && decide (parseMethodDescriptor y.desc = some meth.sig)) = true) : (Jvm.Cond.code y bytes mx rt).before a s = true := by
  simp only [Bool.and_eq_true, beq_iff_eq, Bool.not_eq_true', decide_eq_true_eq] at h5
  obtain ⟨⟨⟨⟨⟨g1, g2⟩, g3⟩, g4⟩, g5⟩, g6⟩ := h5
  simp [Cond.before, Cond.holds, Cond.value, h1, h2, h3, h4, g1, g2, g3, g4, g5, g6]
def isCode : Jvm.Cond → Bool
  | .code _ _ _ _ => true
  | _ => false
theorem all_split {L : List Jvm.Cond} {P : Jvm.Cond → Bool} (h1 : L.all (fun c => isCode c || P c) = true) (h2 : ∀ c ∈ L.filter isCode, P c = true) : L.all P = true := by
  refine List.all_eq_true.mpr fun c hc => ?_
  have h := List.all_eq_true.mp h1 c hc
  rcases Bool.eq_false_or_eq_true (isCode c) with hi | hi
  · exact h2 c (List.mem_filter.mpr ⟨hc, hi⟩)
  · simpa [hi] using h
set_option maxRecDepth 65536 in
theorem w_c0 : (Jvm.Cond.code x code maxLocals ret).before args0 about1 = true := code_word (m := ⟨1, 1⟩) (meth := k1m1) (c := k1c1) (by decide +kernel) rfl rfl rfl (by decide +kernel)
set_option maxRecDepth 65536 in
theorem w_c1 : (Jvm.Cond.code ({ cls := "com/example/tideshift/tideshift/cli/LatencyHistogram", name := "<init>", desc := "()V" } : Jvm.MethodName) prog_30_method_1_code (1 : Nat) (Option.none : Option Jvm.ClassFile.FieldType)).before args0 about1 = true := code_word (m := ⟨2, 0⟩) (meth := k2m0) (c := k2c0) (by decide +kernel) rfl rfl rfl (by decide +kernel)
set_option maxRecDepth 65536 in
theorem w_c2 : (Jvm.Cond.code ({ cls := "java/lang/Object", name := "<init>", desc := "()V" } : Jvm.MethodName) object_method_1_code (1 : Nat) (Option.none : Option Jvm.ClassFile.FieldType)).before args0 about1 = true := code_word (m := ⟨0, 0⟩) (meth := k0m0) (c := k0c0) (by decide +kernel) rfl rfl rfl (by decide +kernel)
set_option maxRecDepth 65536 in
theorem w_c3 : (Jvm.Cond.code ({ cls := "com/example/tideshift/tideshift/cli/LatencyHistogram", name := "bucketOf", desc := "(J)I" } : Jvm.MethodName) prog_30_method_7_code (3 : Nat) (Option.some Jvm.ClassFile.FieldType.int)).before args0 about1 = true := code_word (m := ⟨2, 5⟩) (meth := k2m5) (c := k2c5) (by decide +kernel) rfl rfl rfl (by decide +kernel)
set_option maxRecDepth 65536 in
theorem w_c4 : (Jvm.Cond.code ({ cls := "java/lang/Long", name := "numberOfLeadingZeros", desc := "(J)I" } : Jvm.MethodName) jdk_35_method_48_code (3 : Nat) (Option.some Jvm.ClassFile.FieldType.int)).before args0 about1 = true := code_word (m := ⟨8, 0⟩) (meth := k8m0) (c := k8c0) (by decide +kernel) rfl rfl rfl (by decide +kernel)
set_option maxRecDepth 65536 in
theorem w_c5 : (Jvm.Cond.code ({ cls := "java/lang/Integer", name := "numberOfLeadingZeros", desc := "(I)I" } : Jvm.MethodName) jdk_33_method_47_code (2 : Nat) (Option.some Jvm.ClassFile.FieldType.int)).before args0 about1 = true := code_word (m := ⟨9, 0⟩) (meth := k9m0) (c := k9c0) (by decide +kernel) rfl rfl rfl (by decide +kernel)
set_option maxRecDepth 65536 in
theorem w_c6 : (Jvm.Cond.code ({ cls := "com/example/tideshift/tideshift/cli/LatencyHistogram", name := "add", desc := "(Lcom/example/tideshift/tideshift/cli/LatencyHistogram;)V" } : Jvm.MethodName) prog_30_method_3_code (3 : Nat) (Option.none : Option Jvm.ClassFile.FieldType)).before args0 about1 = true := code_word (m := ⟨2, 2⟩) (meth := k2m2) (c := k2c2) (by decide +kernel) rfl rfl rfl (by decide +kernel)
set_option maxRecDepth 65536 in
theorem w_c7 : (Jvm.Cond.code ({ cls := "com/example/tideshift/tideshift/cli/LatencyHistogram", name := "count", desc := "()J" } : Jvm.MethodName) prog_30_method_5_code (1 : Nat) (Option.some Jvm.ClassFile.FieldType.long)).before args0 about1 = true := code_word (m := ⟨2, 3⟩) (meth := k2m3) (c := k2c3) (by decide +kernel) rfl rfl rfl (by decide +kernel)
set_option maxRecDepth 65536 in
theorem w_c8 : (Jvm.Cond.code ({ cls := "com/example/tideshift/tideshift/cli/LatencyHistogram", name := "quantile", desc := "(D)D" } : Jvm.MethodName) prog_30_method_6_code (8 : Nat) (Option.some Jvm.ClassFile.FieldType.double)).before args0 about1 = true := code_word (m := ⟨2, 4⟩) (meth := k2m4) (c := k2c4) (by decide +kernel) rfl rfl rfl (by decide +kernel)
set_option maxRecDepth 65536 in
theorem w_c9 : (Jvm.Cond.code ({ cls := "com/example/tideshift/tideshift/cli/LatencyHistogramAddPinLaw", name := "same", desc := "(DD)Z" } : Jvm.MethodName) method_3_code (4 : Nat) (Option.some Jvm.ClassFile.FieldType.boolean)).before args0 about1 = true := code_word (m := ⟨1, 2⟩) (meth := k1m2) (c := k1c2) (by decide +kernel) rfl rfl rfl (by decide +kernel)
set_option maxRecDepth 65536 in
theorem w_c10 : (Jvm.Cond.code ({ cls := "com/example/tideshift/tideshift/cli/LatencyHistogram", name := "record", desc := "(J)V" } : Jvm.MethodName) prog_30_method_2_code (3 : Nat) (Option.none : Option Jvm.ClassFile.FieldType)).before args0 about1 = true := code_word (m := ⟨2, 1⟩) (meth := k2m1) (c := k2c1) (by decide +kernel) rfl rfl rfl (by decide +kernel)
set_option maxRecDepth 65536 in
theorem w_c11 : (Jvm.Cond.code ({ cls := "java/lang/Math", name := "max", desc := "(JJ)J" } : Jvm.MethodName) jdk_29_method_66_code (4 : Nat) (Option.some Jvm.ClassFile.FieldType.long)).before args0 about1 = true := code_word (m := ⟨10, 2⟩) (meth := k10m2) (c := k10c2) (by decide +kernel) rfl rfl rfl (by decide +kernel)
set_option maxRecDepth 65536 in
theorem w_c12 : (Jvm.Cond.code ({ cls := "java/lang/Math", name := "ceil", desc := "(D)D" } : Jvm.MethodName) jdk_29_method_16_code (2 : Nat) (Option.some Jvm.ClassFile.FieldType.double)).before args0 about1 = true := code_word (m := ⟨10, 1⟩) (meth := k10m1) (c := k10c1) (by decide +kernel) rfl rfl rfl (by decide +kernel)
set_option maxRecDepth 65536 in
theorem w_c13 : (Jvm.Cond.code ({ cls := "java/lang/StrictMath", name := "ceil", desc := "(D)D" } : Jvm.MethodName) jdk_128_method_16_code (2 : Nat) (Option.some Jvm.ClassFile.FieldType.double)).before args0 about1 = true := code_word (m := ⟨11, 1⟩) (meth := k11m1) (c := k11c1) (by decide +kernel) rfl rfl rfl (by decide +kernel)
set_option maxRecDepth 65536 in
theorem w_c14 : (Jvm.Cond.code ({ cls := "java/lang/StrictMath", name := "floorOrCeil", desc := "(DDDD)D" } : Jvm.MethodName) jdk_128_method_18_code (15 : Nat) (Option.some Jvm.ClassFile.FieldType.double)).before args0 about1 = true := code_word (m := ⟨11, 2⟩) (meth := k11m2) (c := k11c2) (by decide +kernel) rfl rfl rfl (by decide +kernel)
set_option maxRecDepth 65536 in
theorem w_c15 : (Jvm.Cond.code ({ cls := "java/lang/Math", name := "getExponent", desc := "(D)I" } : Jvm.MethodName) jdk_29_method_92_code (2 : Nat) (Option.some Jvm.ClassFile.FieldType.int)).before args0 about1 = true := code_word (m := ⟨10, 3⟩) (meth := k10m3) (c := k10c3) (by decide +kernel) rfl rfl rfl (by decide +kernel)
set_option maxRecDepth 65536 in
theorem w_c16 : (Jvm.Cond.code ({ cls := "com/example/tideshift/tideshift/cli/LatencyHistogram", name := "middle", desc := "(I)D" } : Jvm.MethodName) prog_30_method_8_code (4 : Nat) (Option.some Jvm.ClassFile.FieldType.double)).before args0 about1 = true := code_word (m := ⟨2, 6⟩) (meth := k2m6) (c := k2c6) (by decide +kernel) rfl rfl rfl (by decide +kernel)
def codes1 : List Jvm.Cond := [Jvm.Cond.code x code maxLocals ret, Jvm.Cond.code ({ cls := "com/example/tideshift/tideshift/cli/LatencyHistogram", name := "<init>", desc := "()V" } : Jvm.MethodName) prog_30_method_1_code (1 : Nat) (Option.none : Option Jvm.ClassFile.FieldType), Jvm.Cond.code ({ cls := "java/lang/Object", name := "<init>", desc := "()V" } : Jvm.MethodName) object_method_1_code (1 : Nat) (Option.none : Option Jvm.ClassFile.FieldType), Jvm.Cond.code ({ cls := "com/example/tideshift/tideshift/cli/LatencyHistogram", name := "bucketOf", desc := "(J)I" } : Jvm.MethodName) prog_30_method_7_code (3 : Nat) (Option.some Jvm.ClassFile.FieldType.int), Jvm.Cond.code ({ cls := "java/lang/Long", name := "numberOfLeadingZeros", desc := "(J)I" } : Jvm.MethodName) jdk_35_method_48_code (3 : Nat) (Option.some Jvm.ClassFile.FieldType.int), Jvm.Cond.code ({ cls := "java/lang/Integer", name := "numberOfLeadingZeros", desc := "(I)I" } : Jvm.MethodName) jdk_33_method_47_code (2 : Nat) (Option.some Jvm.ClassFile.FieldType.int), Jvm.Cond.code ({ cls := "com/example/tideshift/tideshift/cli/LatencyHistogram", name := "add", desc := "(Lcom/example/tideshift/tideshift/cli/LatencyHistogram;)V" } : Jvm.MethodName) prog_30_method_3_code (3 : Nat) (Option.none : Option Jvm.ClassFile.FieldType), Jvm.Cond.code ({ cls := "com/example/tideshift/tideshift/cli/LatencyHistogram", name := "count", desc := "()J" } : Jvm.MethodName) prog_30_method_5_code (1 : Nat) (Option.some Jvm.ClassFile.FieldType.long), Jvm.Cond.code ({ cls := "com/example/tideshift/tideshift/cli/LatencyHistogram", name := "quantile", desc := "(D)D" } : Jvm.MethodName) prog_30_method_6_code (8 : Nat) (Option.some Jvm.ClassFile.FieldType.double), Jvm.Cond.code ({ cls := "com/example/tideshift/tideshift/cli/LatencyHistogramAddPinLaw", name := "same", desc := "(DD)Z" } : Jvm.MethodName) method_3_code (4 : Nat) (Option.some Jvm.ClassFile.FieldType.boolean), Jvm.Cond.code ({ cls := "com/example/tideshift/tideshift/cli/LatencyHistogram", name := "record", desc := "(J)V" } : Jvm.MethodName) prog_30_method_2_code (3 : Nat) (Option.none : Option Jvm.ClassFile.FieldType), Jvm.Cond.code ({ cls := "java/lang/Math", name := "max", desc := "(JJ)J" } : Jvm.MethodName) jdk_29_method_66_code (4 : Nat) (Option.some Jvm.ClassFile.FieldType.long), Jvm.Cond.code ({ cls := "java/lang/Math", name := "ceil", desc := "(D)D" } : Jvm.MethodName) jdk_29_method_16_code (2 : Nat) (Option.some Jvm.ClassFile.FieldType.double), Jvm.Cond.code ({ cls := "java/lang/StrictMath", name := "ceil", desc := "(D)D" } : Jvm.MethodName) jdk_128_method_16_code (2 : Nat) (Option.some Jvm.ClassFile.FieldType.double), Jvm.Cond.code ({ cls := "java/lang/StrictMath", name := "floorOrCeil", desc := "(DDDD)D" } : Jvm.MethodName) jdk_128_method_18_code (15 : Nat) (Option.some Jvm.ClassFile.FieldType.double), Jvm.Cond.code ({ cls := "java/lang/Math", name := "getExponent", desc := "(D)I" } : Jvm.MethodName) jdk_29_method_92_code (2 : Nat) (Option.some Jvm.ClassFile.FieldType.int), Jvm.Cond.code ({ cls := "com/example/tideshift/tideshift/cli/LatencyHistogram", name := "middle", desc := "(I)D" } : Jvm.MethodName) prog_30_method_8_code (4 : Nat) (Option.some Jvm.ClassFile.FieldType.double)]
set_option maxRecDepth 65536 in
theorem codes_eq : words1.filter isCode = codes1 := rfl
theorem w_codes : ∀ c ∈ words1.filter isCode, c.before args0 about1 = true := by
  rw [codes_eq]
  intro c hc
  simp only [codes1, List.mem_cons, List.not_mem_nil, or_false] at hc
  rcases hc with rfl | rfl | rfl | rfl | rfl | rfl | rfl | rfl | rfl | rfl | rfl | rfl | rfl | rfl | rfl | rfl | rfl
  · exact w_c0
  · exact w_c1
  · exact w_c2
  · exact w_c3
  · exact w_c4
  · exact w_c5
  · exact w_c6
  · exact w_c7
  · exact w_c8
  · exact w_c9
  · exact w_c10
  · exact w_c11
  · exact w_c12
  · exact w_c13
  · exact w_c14
  · exact w_c15
  · exact w_c16
set_option maxRecDepth 65536 in
theorem w_t1 : (words1.take 24).all (fun c => isCode c || c.before args0 about1) = true := by decide +kernel
set_option maxRecDepth 65536 in
theorem w_t2 : ((words1.drop 24).take 24).all (fun c => isCode c || c.before args0 about1) = true := by decide +kernel
set_option maxRecDepth 65536 in
theorem w_t3 : (((words1.drop 24).drop 24).take 24).all (fun c => isCode c || c.before args0 about1) = true := by decide +kernel
set_option maxRecDepth 65536 in
theorem w_t4 : (((words1.drop 24).drop 24).drop 24).all (fun c => isCode c || c.before args0 about1) = true := by decide +kernel
theorem w_tables : (allAtoms (Jvm.Cond.code x code maxLocals ret :: tables_1)).before args0 about1 = true := by
  rw [allAtoms_all]
  show words1.all (fun c => c.before args0 about1) = true
  refine all_split ?_ w_codes
  rw [← List.take_append_drop 24 words1, List.all_append, w_t1, ← List.take_append_drop 24 (words1.drop 24), List.all_append, w_t2, ← List.take_append_drop 24 ((words1.drop 24).drop 24), List.all_append, w_t3, w_t4]
  rfl
set_option maxRecDepth 65536 in
theorem w_rest : rest_1_c.before args0 about1 = true := by decide +kernel
set_option maxRecDepth 65536 in
theorem w_case : (Jvm.Cond.and given_1 narrow_1).before args0 about1 = true := by decide +kernel
theorem w_applies : (headSpec (Jvm.Cond.code x code maxLocals ret :: tables_1) room_1).applies x e0.platform about1 = true :=
  (Spec.applies_iff w_frames).mpr ⟨w_running, w_runnable, w_alone, w_named, w_hears, w_ripe, w_room, w_tables⟩
theorem atStart : AtStart classFile x code maxLocals ret World_1 tables_1 room_1 Calls_1 rest_1 Pre_1 launch0 p0 e0 about1 theMethod args0 below0 :=
  ⟨lists_1, trivial, launch0.admits_env _ _ _, launch0.least_env, fairChoices_fair.cas, fairChoices_fair.clock, w_frames, w_args, w_heap, w_applies, trivial, w_rest, w_case⟩
end start1
theorem witness_1 : WitnessClaimed_1 := ⟨start1.p0, start1.e0, start1.about1, start1.theMethod, start1.args0, start1.below0, start1.atStart⟩
end Jvm.Pilot.@@N@@
