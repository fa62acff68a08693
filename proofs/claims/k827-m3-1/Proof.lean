import JvmDerived
import JvmDerived.Pilot.@@N@@Statement
import JvmDerived.Pilot.@@N@@Code
set_option linter.unusedVariables false
set_option linter.unusedSimpArgs false
@@BLOCK:NumsL.lean.txt@@
namespace Jvm.RoadKit
open Sem ClassFile Op Lib Jvm.Stand Jvm.Free Jvm.LawKit
section New
variable {p : Program} {l : Launch} {e : Env} {R : Room} {s : State} {m : MethodId} {args : Array Value} {below : List Frame} {meth : Method} {c : Code} {T : State} {locs : List Loc} {cells slots : Nat}
theorem retI (X : Stand p l e R s m args below meth c T locs cells slots) (hx : p.tables.exec = Jvm.exec) {pc : Nat} {Ls : Array Slot} {z : Int32} {rest : List Value} (hret : meth.sig.returnType = some .int) (hd : decode c.code pc = .ok (.ireturn, 1)) {fs : List Frame}
    (hl : ∀ (f : JFrame) (acts : List Action), f.method = m → f.locked = none → f.entered = [] → (doReturn e (T.setTop f) acts (some (.int z))).1 = T.setFrames fs) : Steps p.tables e below (T.setTop (mkF m pc Ls (.int z :: rest))) (T.setFrames fs) := by
  have hm' : T.vm.method? m = some meth := X.method'
  have hn : narrow .int (.int z) = .int z := rfl
  show Steps p.tables e below (T.setTop { method := m, pc := pc, locals := Ls, stack := _ :: rest, locked := none }) _
  jvm_step X.here [X.here.top, hx, hd, hm', hret, hn]
  first | (intro acts; rw [hl _ acts rfl rfl rfl]) | rw [hl _ _ rfl rfl rfl]
  exact Steps.refl _
end New
end Jvm.RoadKit
namespace Jvm.Pilot.@@N@@
open Jvm Jvm.ClassFile Sem Op Lib Jvm.Free Jvm.Stand Jvm.LawKit Jvm.RoadKit Bundle Jvm.Pilot.@@N@@.Jvm.D
abbrev Gx (p : Program) (e : Env) (below : List Frame) (T0 : State) (f0 : JFrame) (T : State) (f : JFrame) : Prop := ∀ t, Steps p.tables e below (T.setTop f) t → Steps p.tables e below (T0.setTop f0) t
abbrev ELx : List (String × Nat) := [("com/example/stanzacall/stanzacall/xml/Element", 7), ("com/example/stanzacall/stanzacall/xml/Element", 22), ("java/lang/String", 7)]
theorem own_EW {Z : State} {a0 : Array Value} (hw : ∀ d ∈ tables_1, d.before a0 Z = true) : EW Z a0 ELx := EW.cons (hw _ (List.mem_of_getElem? (i := 44) rfl)) (by decide +kernel) (EW.cons (hw _ (List.mem_of_getElem? (i := 52) rfl)) (by decide +kernel) (EW.cons (hw _ (List.mem_of_getElem? (i := 21) rfl)) (by decide +kernel) (EW.nil)))
theorem own_wS {Z : State} {a0 : Array Value} (hw : ∀ d ∈ tables_1, d.before a0 Z = true) : ∀ a ∈ Bundle.stringAtoms, a.before a0 Z = true := by
  intro a ha
  simp only [Bundle.stringAtoms, List.mem_cons, List.not_mem_nil, or_false] at ha
  rcases ha with rfl | rfl | rfl | rfl | rfl | rfl | rfl
  · exact hw _ (List.mem_of_getElem? (i := 9) rfl)
  · exact hw _ (List.mem_of_getElem? (i := 8) rfl)
  · exact hw _ (List.mem_of_getElem? (i := 22) rfl)
  · exact hw _ (List.mem_of_getElem? (i := 23) rfl)
  · exact hw _ (List.mem_of_getElem? (i := 24) rfl)
  · exact hw _ (List.mem_of_getElem? (i := 25) rfl)
  · exact hw _ (List.mem_of_getElem? (i := 26) rfl)
theorem own_compact {s : State} {args : Array Value} (hsets : ∀ d ∈ jdkStatics_1, d.before args s = true) : ∃ cw : Int32, Sta s s.heap "java/lang/String" "COMPACT_STRINGS" "Z" (.int cw) ∧ ¬ (cw = (0 : Int32)) := by
  have w0 := hsets _ (List.mem_of_getElem? (i := 0) rfl)
  have w1 := hsets _ (List.mem_of_getElem? (i := 1) rfl)
  have w2 := hsets _ (List.mem_of_getElem? (i := 2) rfl)
  obtain ⟨cw, ev⟩ := is_v (Cond.before_iff.mp w1)
  refine ⟨cw, Sta.start ev (Or.inl w0), fun q => ?_⟩
  have h1 := not_v (Cond.before_iff.mp w2)
  rw [Cond.eq_ints ev (Term.int_eval 0)] at h1
  rw [q] at h1
  exact absurd (Option.some.inj h1) (by decide)
theorem own_cpw {s : State} {args : Array Value} (hsets : ∀ d ∈ jdkStatics_1, d.before args s = true) : Jvm.Lit.compactW.before args s = true := hsets _ (List.mem_of_getElem? (i := 2) rfl)
def cF (x k : Int32) : Int32 := ((x.toUInt32 >>> (k &&& 31).toUInt32).toInt32 &&& (255 : Int32)).toUInt32.toUInt16.toUInt32.toInt32
def bF (x k : Int32) : Int32 := nar .byte ((nar .char (cF x k)).toInt8.toInt32)
def shF (x k : Int32) : Int32 := (x.toUInt32 >>> (k &&& 31).toUInt32).toInt32
def maskF (x : Int32) : Int32 := (if (x &&& (3 : Int32)) = (0 : Int32) then (0 : Int32) else (if (x &&& (3 : Int32)) = (1 : Int32) then (255 : Int32) else (if (x &&& (3 : Int32)) = (2 : Int32) then (65535 : Int32) else (16777215 : Int32))))
def stF (x y : Int32) : Int32 := if (x &&& (3 : Int32)) = (y &&& (3 : Int32)) then (if (((x ^^^ y).toUInt32 >>> ((2 : Int32) &&& 31).toUInt32).toInt32 &&& (maskF x)) = (0 : Int32) then (1 : Int32) else (0 : Int32)) else (0 : Int32)
def latF (za zb x0 x1 x2 y0 y1 y2 : Int32) : Int32 := if za = zb then (if (0 : Int32) < za then (if x0 = y0 then (if (1 : Int32) < za then (if x1 = y1 then (if (2 : Int32) < za then (if x2 = y2 then (1 : Int32) else (0 : Int32)) else (1 : Int32)) else (0 : Int32)) else (1 : Int32)) else (0 : Int32)) else (1 : Int32)) else (0 : Int32)
def isF (u v : Int32) : Int32 := if u = (0 : Int32) then (0 : Int32) else (if v = (0 : Int32) then (0 : Int32) else (1 : Int32))
theorem ite01 {c : Prop} [Decidable c] {a b : Int32} (ha : a = 0 ∨ 1 = a) (hb : b = 0 ∨ 1 = b) : (if c then a else b) = 0 ∨ 1 = (if c then a else b) := by split <;> assumption
theorem own_lat01 {za zb x0 x1 x2 y0 y1 y2 : Int32} (h : ¬ (latF za zb x0 x1 x2 y0 y1 y2 = (0 : Int32))) : (1 : Int32) = latF za zb x0 x1 x2 y0 y1 y2 :=
  (show latF za zb x0 x1 x2 y0 y1 y2 = 0 ∨ 1 = latF za zb x0 x1 x2 y0 y1 y2 from ite01 (ite01 (ite01 (ite01 (ite01 (ite01 (ite01 (Or.inr rfl) (Or.inl rfl)) (Or.inr rfl)) (Or.inl rfl)) (Or.inr rfl)) (Or.inl rfl)) (Or.inr rfl)) (Or.inl rfl)).resolve_left h
theorem own_st01 {x y : Int32} (h : ¬ (stF x y = (0 : Int32))) : stF x y = (1 : Int32) :=
  ((show stF x y = 0 ∨ 1 = stF x y from ite01 (ite01 (Or.inr rfl) (Or.inl rfl)) (Or.inl rfl)).resolve_left h).symm
theorem sh2 (x : Int32) : (shF x 2).toBitVec = x.toBitVec >>> 2 := by
  show x.toBitVec >>> (((2 : Int32) &&& 31).toUInt32 % 32).toBitVec = _
  rfl
theorem sh10 (x : Int32) : (shF x 10).toBitVec = x.toBitVec >>> 10 := by
  show x.toBitVec >>> (((10 : Int32) &&& 31).toUInt32 % 32).toBitVec = _
  rfl
theorem sh18 (x : Int32) : (shF x 18).toBitVec = x.toBitVec >>> 18 := by
  show x.toBitVec >>> (((18 : Int32) &&& 31).toUInt32 % 32).toBitVec = _
  rfl
theorem and_bits (b : BitVec 32) (m : BitVec 32) (n : Nat) (hn : n ≤ 32) (hm : ∀ i : Fin 32, m.getLsbD i.1 = decide (i.1 < n)) : b &&& m = 0#32 ↔ ∀ i, i < n → b.getLsbD i = false := by
  constructor
  · intro h i hi
    have := congrArg (fun z => z.getLsbD i) h
    simp only [BitVec.getLsbD_and, hm ⟨i, by omega⟩, BitVec.getLsbD_zero] at this
    simpa [hi] using this
  · intro h
    apply BitVec.eq_of_getLsbD_eq
    intro i hi
    simp only [BitVec.getLsbD_and, hm ⟨i, hi⟩, BitVec.getLsbD_zero]
    by_cases q : i < n
    · simp [h i q]
    · simp [q]
theorem eq_bits (b c m : BitVec 32) (n : Nat) (hn : n ≤ 32) (hm : ∀ i : Fin 32, m.getLsbD i.1 = decide (i.1 < n)) : b &&& m = c &&& m ↔ ∀ i, i < n → b.getLsbD i = c.getLsbD i := by
  constructor
  · intro h i hi
    have := congrArg (fun z => z.getLsbD i) h
    simp only [BitVec.getLsbD_and, hm ⟨i, by omega⟩] at this
    simpa [hi] using this
  · intro h
    apply BitVec.eq_of_getLsbD_eq
    intro i hi
    simp only [BitVec.getLsbD_and, hm ⟨i, hi⟩]
    by_cases q : i < n
    · simp [h i q]
    · simp [q]
theorem i8_back (y : Int8) : y.toInt32.toInt8 = y := by simp
theorem i8_w (u : Int32) : u.toInt8.toBitVec = u.toBitVec.setWidth 8 := by
  have : u.toInt8.toBitVec = BitVec.signExtend 8 u.toBitVec := by simp
  rw [this]
  apply BitVec.eq_of_getLsbD_eq
  intro i hi
  have h32 : i < 32 := by omega
  simp only [BitVec.getLsbD_signExtend, BitVec.getLsbD_setWidth, hi, h32, decide_true, Bool.true_and, if_true]
theorem i8_inj {u v : Int32} (h : (u &&& 255).toInt8.toInt32 = (v &&& 255).toInt8.toInt32) : u &&& 255 = v &&& 255 := by
  have h1 : (u &&& 255).toInt8 = (v &&& 255).toInt8 := by
    have := congrArg Int32.toInt8 h
    rwa [i8_back, i8_back] at this
  have h2 := congrArg Int8.toBitVec h1
  rw [i8_w, i8_w] at h2
  apply Int32.toBitVec_inj.mp
  show u.toBitVec &&& 255#32 = v.toBitVec &&& 255#32
  rw [eq_bits _ _ _ 8 (by decide) (by decide)]
  intro i hi
  have h3 := congrArg (fun z => z.getLsbD i) h2
  simp only [BitVec.getLsbD_setWidth] at h3
  have h4 : ∀ z : Int32, (z &&& 255).toBitVec.getLsbD i = z.toBitVec.getLsbD i := fun z => by
    show (z.toBitVec &&& 255#32).getLsbD i = _
    have hb : ∀ i : Fin 8, (255#32).getLsbD i.1 = true := by decide
    simp [BitVec.getLsbD_and, hb ⟨i, hi⟩]
  rw [h4, h4] at h3
  simpa [hi] using h3
theorem cF_eq (x k : Int32) : cF x k = shF x k &&& 255 := i2c_mask _
theorem own_c255 (x k : Int32) : ¬ ((255 : Int32) < nar .char (cF x k)) := by
  show ¬ ((255 : Int32) < ((cF x k).toUInt32.toUInt16.toUInt32.toInt32))
  rw [cF_eq, i2c_mask, Int32.lt_iff_toInt_lt]
  have h := Jvm.Kit.i32_mask (shF x k) 255 (k := 8) (by decide) (by decide)
  have e : (255 : Int32).toInt = 255 := by decide
  omega
theorem bF_eq (x k : Int32) : bF x k = (shF x k &&& 255).toInt8.toInt32 := by
  show (((cF x k).toUInt32.toUInt16.toUInt32.toInt32).toInt8.toInt32).toInt8.toInt32 = _
  rw [i8_back, cF_eq, i2c_mask]
theorem bF_iff (x y k : Int32) (n : Nat) (hn : n + 8 ≤ 32) (hx : ∀ x, (shF x k).toBitVec = x.toBitVec >>> n) : bF x k = bF y k ↔ ∀ i, n ≤ i → i < n + 8 → x.toBitVec.getLsbD i = y.toBitVec.getLsbD i := by
  have e : bF x k = bF y k ↔ (shF x k).toBitVec &&& 255#32 = (shF y k).toBitVec &&& 255#32 := by
    rw [bF_eq, bF_eq]
    constructor
    · intro h
      have := i8_inj h
      exact congrArg Int32.toBitVec this
    · intro h
      have : shF x k &&& 255 = shF y k &&& 255 := Int32.toBitVec_inj.mp h
      rw [this]
  rw [e, eq_bits _ _ _ 8 (by decide) (by decide), hx, hx]
  constructor
  · intro h i h1 h2
    have := h (i - n) (by omega)
    simp only [BitVec.getLsbD_ushiftRight] at this
    have e2 : n + (i - n) = i := by omega
    rwa [e2] at this
  · intro h i hi
    simp only [BitVec.getLsbD_ushiftRight]
    exact h (n + i) (by omega) (by omega)
theorem st_iff (x y m : Int32) (n : Nat) (hn : n + 2 ≤ 32) (hm : ∀ i : Fin 32, m.toBitVec.getLsbD i.1 = decide (i.1 < n)) : ((((x ^^^ y).toUInt32 >>> ((2 : Int32) &&& 31).toUInt32).toInt32 &&& m) = (0 : Int32)) ↔ ∀ i, 2 ≤ i → i < n + 2 → x.toBitVec.getLsbD i = y.toBitVec.getLsbD i := by
  have e : ((((x ^^^ y).toUInt32 >>> ((2 : Int32) &&& 31).toUInt32).toInt32 &&& m) = (0 : Int32)) ↔ (shF (x ^^^ y) 2).toBitVec &&& m.toBitVec = 0#32 := by
    constructor
    · intro h; exact congrArg Int32.toBitVec h
    · intro h; exact Int32.toBitVec_inj.mp h
  rw [e, and_bits _ _ n (by omega) hm, sh2]
  have hx : (x ^^^ y).toBitVec = x.toBitVec ^^^ y.toBitVec := rfl
  rw [hx]
  constructor
  · intro h i h1 h2
    have := h (i - 2) (by omega)
    simp only [BitVec.getLsbD_ushiftRight, BitVec.getLsbD_xor] at this
    have e2 : 2 + (i - 2) = i := by omega
    rw [e2] at this
    simpa using this
  · intro h i hi
    simp only [BitVec.getLsbD_ushiftRight, BitVec.getLsbD_xor]
    rw [h (2 + i) (by omega) (by omega)]
    simp
theorem own_four (x : Int32) : (x &&& 3) = (0 : Int32) ∨ (x &&& 3) = (1 : Int32) ∨ (x &&& 3) = (2 : Int32) ∨ (x &&& 3) = (3 : Int32) := by
  have h := Jvm.Kit.i32_mask x 3 (k := 2) (by decide) (by decide)
  have h' : (x &&& 3).toInt = 0 ∨ (x &&& 3).toInt = 1 ∨ (x &&& 3).toInt = 2 ∨ (x &&& 3).toInt = 3 := by omega
  rcases h' with q | q | q | q
  · exact Or.inl (Int32.toInt_inj.mp q)
  · exact Or.inr (Or.inl (Int32.toInt_inj.mp q))
  · exact Or.inr (Or.inr (Or.inl (Int32.toInt_inj.mp q)))
  · exact Or.inr (Or.inr (Or.inr (Int32.toInt_inj.mp q)))
theorem own_three {x : Int32} (h0 : ¬ ((x &&& (3 : Int32)) = (0 : Int32))) (h1 : ¬ ((x &&& (3 : Int32)) = (1 : Int32))) (h2 : ¬ ((x &&& (3 : Int32)) = (2 : Int32))) : (x &&& (3 : Int32)) = (3 : Int32) := by
  rcases own_four x with q | q | q | q
  · exact absurd q h0
  · exact absurd q h1
  · exact absurd q h2
  · exact q
theorem own_le3 (x : Int32) : ¬ ((3 : Int32) < (x &&& (3 : Int32))) := by
  rcases own_four x with q | q | q | q <;> rw [q] <;> decide
theorem dl01 : (0 : Int32) < 1 := by decide
theorem dl02 : (0 : Int32) < 2 := by decide
theorem dl03 : (0 : Int32) < 3 := by decide
theorem dl12 : (1 : Int32) < 2 := by decide
theorem dl13 : (1 : Int32) < 3 := by decide
theorem dl23 : (2 : Int32) < 3 := by decide
theorem dn00 : ¬ ((0 : Int32) < 0) := by decide
theorem dn11 : ¬ ((1 : Int32) < 1) := by decide
theorem dn22 : ¬ ((2 : Int32) < 2) := by decide
theorem de10 : ¬ ((1 : Int32) = 0) := by decide
theorem de20 : ¬ ((2 : Int32) = 0) := by decide
theorem de21 : ¬ ((2 : Int32) = 1) := by decide
theorem de30 : ¬ ((3 : Int32) = 0) := by decide
theorem de31 : ¬ ((3 : Int32) = 1) := by decide
theorem de32 : ¬ ((3 : Int32) = 2) := by decide
theorem own_main (x y : Int32) : latF (x &&& (3 : Int32)) (y &&& (3 : Int32)) (bF x (2 : Int32)) (bF x (10 : Int32)) (bF x (18 : Int32)) (bF y (2 : Int32)) (bF y (10 : Int32)) (bF y (18 : Int32)) = stF x y := by
  have i0 := bF_iff x y 2 2 (by decide) sh2
  have i1 := bF_iff x y 10 10 (by decide) sh10
  have i2 := bF_iff x y 18 18 (by decide) sh18
  unfold latF stF maskF
  by_cases hz : (x &&& (3 : Int32)) = (y &&& (3 : Int32))
  · rw [if_pos hz, if_pos hz]
    rcases own_four x with q | q | q | q <;> rw [q]
    · simp only [dl01, dl02, dl03, dl12, dl13, dl23, dn00, dn11, dn22, de10, de20, de21, de30, de31, de32, if_true, if_false, ↓reduceIte]
      simp
    · simp only [dl01, dl02, dl03, dl12, dl13, dl23, dn00, dn11, dn22, de10, de20, de21, de30, de31, de32, if_true, if_false, ↓reduceIte]
      have s := st_iff x y 255 8 (by decide) (by decide)
      have : bF x 2 = bF y 2 ↔ ((((x ^^^ y).toUInt32 >>> ((2 : Int32) &&& 31).toUInt32).toInt32 &&& (255 : Int32)) = (0 : Int32)) := by
        rw [s, i0]
      simp only [this]
    · simp only [dl01, dl02, dl03, dl12, dl13, dl23, dn00, dn11, dn22, de10, de20, de21, de30, de31, de32, if_true, if_false, ↓reduceIte]
      have s := st_iff x y 65535 16 (by decide) (by decide)
      have : (bF x 2 = bF y 2 ∧ bF x 10 = bF y 10) ↔ ((((x ^^^ y).toUInt32 >>> ((2 : Int32) &&& 31).toUInt32).toInt32 &&& (65535 : Int32)) = (0 : Int32)) := by
        rw [s, i0, i1]
        constructor
        · rintro ⟨a, b⟩ i h1 h2
          by_cases h3 : i < 10
          · exact a i h1 (by omega)
          · exact b i (by omega) (by omega)
        · intro a
          exact ⟨fun i h1 h2 => a i h1 (by omega), fun i h1 h2 => a i (by omega) (by omega)⟩
      simp only [← this]
      by_cases c0 : bF x 2 = bF y 2 <;> by_cases c1 : bF x 10 = bF y 10 <;> simp [c0, c1]
    · simp only [dl01, dl02, dl03, dl12, dl13, dl23, dn00, dn11, dn22, de10, de20, de21, de30, de31, de32, if_true, if_false, ↓reduceIte]
      have s := st_iff x y 16777215 24 (by decide) (by decide)
      have : (bF x 2 = bF y 2 ∧ bF x 10 = bF y 10 ∧ bF x 18 = bF y 18) ↔ ((((x ^^^ y).toUInt32 >>> ((2 : Int32) &&& 31).toUInt32).toInt32 &&& (16777215 : Int32)) = (0 : Int32)) := by
        rw [s, i0, i1, i2]
        constructor
        · rintro ⟨a, b, c⟩ i h1 h2
          by_cases h3 : i < 10
          · exact a i h1 (by omega)
          · by_cases h4 : i < 18
            · exact b i (by omega) (by omega)
            · exact c i (by omega) (by omega)
        · intro a
          exact ⟨fun i h1 h2 => a i h1 (by omega), fun i h1 h2 => a i (by omega) (by omega), fun i h1 h2 => a i (by omega) (by omega)⟩
      simp only [← this]
      by_cases c0 : bF x 2 = bF y 2 <;> by_cases c1 : bF x 10 = bF y 10 <;> by_cases c2 : bF x 18 = bF y 18 <;> simp [c0, c1, c2]
  · rw [if_neg hz, if_neg hz]
theorem own_safeN {Z : State} {EL : List (String × Nat)} {vm : Vm} {h : Heap} {x : Addr} (hal : Z.vm.Alike vm) (E : Exa Z h x "java/lang/String") (N : Fld Z h x "java/lang/String" "value" "[B" .null) : Safe Z EL vm h x := fun B => by
  obtain ⟨p, -, u, a, -, q, -, F, rfl | rfl⟩ := B
  · have hh : h[q.sa]? = some q.sC := F.ha
    obtain ⟨cS, ⟨⟨-, -, -, ⟨c1, k1, i1, f1, -⟩, -, -, -, v1, -⟩, -⟩, -⟩ := F
    obtain ⟨k', g⟩ := ff_back (Z := Z) (U := Wst Z vm h) hal f1
    obtain ⟨cell, cf, k, i, f, n1, n2, -, -, -, -, n7⟩ := N
    cases hh.symm.trans n1
    cases g.symm.trans n2
    rw [v1] at n7
    cases n7
  · have hh : h[q.sd]? = some q.SA := F.hd
    obtain ⟨cS, -, -, f, -⟩ := F
    obtain ⟨cell, k, e1, e2, e3, -, -⟩ := E
    cases hh.symm.trans e1
    have f' : vm.findClass "[B" = some q.SA.cls := f
    rw [hal.findClass] at f'
    obtain ⟨k1, q1, q2⟩ := Vm.findClass_spec f'
    obtain ⟨k2, q3, q4⟩ := Vm.findClass_spec e2
    cases q1.symm.trans q3
    exact absurd (q2.symm.trans q4) (by decide)
theorem own_re {Z : State} {h : Heap} {a : Addr} {k : ClassId} {z z' : Int32} {vs vs' : List Value} {d : Value} (A : Arv Z h a k .byte z vs d) (hz : z' = z) (q : ∀ i, i < z.toNatClampNeg → vs'.getD i d = vs.getD i d) : Arv Z h a k .byte z' vs' d := by
  subst hz
  obtain ⟨c, A, r1, r2, r3, H, G⟩ := A
  exact ⟨c, A, r1, r2, r3, fun i hi => by rw [q i (r2 ▸ hi)]; exact H i hi, fun i hi => by rw [q i (r2 ▸ hi)]; exact G i hi⟩
theorem own_lsame {Z : State} {h : Heap} {a b v w : Addr} {k k' : ClassId} {z z' x0 x1 x2 y0 y1 y2 : Int32} {d d' : Value} (F : Fld Z h a "java/lang/String" "value" "[B" (.ref v)) (A : Arv Z h v k .byte z [.int x0, .int x1, .int x2] d) (G : Fld Z h b "java/lang/String" "value" "[B" (.ref w)) (B : Arv Z h w k' .byte z' [.int y0, .int y1, .int y2] d') (q : a = b) : (1 : Int32) = latF z z' x0 x1 x2 y0 y1 y2 := by
  subst q
  have hv : v = w := Classical.byContradiction fun hne => Fld.ne F G (fun e => hne (Value.ref.inj e)) rfl
  subst hv
  obtain ⟨c1, A1, -, S1, N1, H1, -⟩ := A
  obtain ⟨c2, A2, -, S2, N2, H2, -⟩ := B
  cases A1.1.symm.trans A2.1
  have hz : z = z' := (len_of S1 N1).symm.trans (len_of S2 N2)
  have key : ∀ (j : Int32), ¬ j < 0 → j < z → ([.int x0, .int x1, .int x2] : List Value).getD j.toNatClampNeg d = ([.int y0, .int y1, .int y2] : List Value).getD j.toNatClampNeg d' := fun j h1 h2 => by
    have hi := inb_of S1 ⟨h1, h2⟩
    have hi' : j.toNatClampNeg < c1.slots.size := Nat.lt_of_not_le fun y => hi (Or.inr y)
    exact Option.some.inj ((H1 _ hi').symm.trans (H2 _ hi'))
  unfold latF
  rw [if_pos hz]
  split
  · rename_i g0
    have e0 : x0 = y0 := Value.int.inj (key 0 (by decide) g0)
    rw [if_pos e0]
    split
    · rename_i g1
      have e1 : x1 = y1 := Value.int.inj (key 1 (by decide) g1)
      rw [if_pos e1]
      split
      · rename_i g2
        have e2 : x2 = y2 := Value.int.inj (key 2 (by decide) g2)
        rw [if_pos e2]
      · rfl
    · rfl
  · rfl
theorem d6_0 : decode jdk_52_method_21_code 0 = .ok (.iconst 0, 1) := by decide +kernel
theorem d6_1 : decode jdk_52_method_21_code 1 = .ok (.istore 5, 2) := by decide +kernel
theorem d6_3 : decode jdk_52_method_21_code 3 = .ok (.iload 5, 2) := by decide +kernel
theorem d6_5 : decode jdk_52_method_21_code 5 = .ok (.iload 4, 2) := by decide +kernel
theorem d6_7 : decode jdk_52_method_21_code 7 = .ok (.if_icmp .ge 37, 3) := by decide +kernel
theorem d6_10 : decode jdk_52_method_21_code 10 = .ok (.aload_n 0, 1) := by decide +kernel
theorem d6_11 : decode jdk_52_method_21_code 11 = .ok (.iload_n 1, 1) := by decide +kernel
theorem d6_12 : decode jdk_52_method_21_code 12 = .ok (.caload, 1) := by decide +kernel
theorem d6_13 : decode jdk_52_method_21_code 13 = .ok (.istore 6, 2) := by decide +kernel
theorem d6_15 : decode jdk_52_method_21_code 15 = .ok (.iload 6, 2) := by decide +kernel
theorem d6_17 : decode jdk_52_method_21_code 17 = .ok (.sipush 255, 3) := by decide +kernel
theorem d6_20 : decode jdk_52_method_21_code 20 = .ok (.if_icmp .le 6, 3) := by decide +kernel
theorem d6_26 : decode jdk_52_method_21_code 26 = .ok (.aload_n 2, 1) := by decide +kernel
theorem d6_27 : decode jdk_52_method_21_code 27 = .ok (.iload_n 3, 1) := by decide +kernel
theorem d6_28 : decode jdk_52_method_21_code 28 = .ok (.iload 6, 2) := by decide +kernel
theorem d6_30 : decode jdk_52_method_21_code 30 = .ok (.i2b, 1) := by decide +kernel
theorem d6_31 : decode jdk_52_method_21_code 31 = .ok (.bastore, 1) := by decide +kernel
theorem d6_32 : decode jdk_52_method_21_code 32 = .ok (.iinc 1 1, 3) := by decide +kernel
theorem d6_35 : decode jdk_52_method_21_code 35 = .ok (.iinc 3 1, 3) := by decide +kernel
theorem d6_38 : decode jdk_52_method_21_code 38 = .ok (.iinc 5 1, 3) := by decide +kernel
theorem d6_41 : decode jdk_52_method_21_code 41 = .ok (.goto (-38), 3) := by decide +kernel
theorem d6_44 : decode jdk_52_method_21_code 44 = .ok (.iload 4, 2) := by decide +kernel
theorem d6_46 : decode jdk_52_method_21_code 46 = .ok (.ireturn, 1) := by decide +kernel
theorem pn_6 : plainName "java/lang/StringUTF16" = true := by first | (simp [plainName, overriddenIn]; done) | decide +kernel
theorem ef_Cm5_1 (m : MethodId) (aa : Addr) (bb : Addr) : entryFrame m #[(.ref aa), (.int (0 : Int32)), (.ref bb), (.int (0 : Int32)), (.int (1 : Int32))] 7 = mkF m 0 #[.val (.ref aa), .val (.int (0 : Int32)), .val (.ref bb), .val (.int (0 : Int32)), .val (.int (1 : Int32)), .unset, .unset] [] := by first | (simp [entryFrame, mkF, argsToLocals, Value.category]; done) | rfl
def QCm5_1 (Z : State) (aa : Addr) (bb : Addr) (ka : ClassId) (kb : ClassId) (qa : Int32) (h0 : Heap) (n0 : Nat) (v : Option Value) (h : Heap) (L : List Loc) : Prop := v = some (.int (1 : Int32)) ∧ Fr n0 L ∧ Keep h0 h [bb] ∧ Arv Z h bb kb .byte (1 : Int32) [(.int (nar .byte (qa.toInt8.toInt32)))] (.int (0 : Int32))
set_option maxRecDepth 65536 in
set_option maxHeartbeats 40000000 in
theorem rmCm5_1 (l : Launch) (Z : State) (a0 : Array Value) (hw : ∀ d ∈ tables_1, d.before a0 Z = true) (ws : List Jvm.Cond) (aa : Addr) (bb : Addr) (ka : ClassId) (kb : ClassId) (qa : Int32) (h0 : Heap) (n0 : Nat) (Z0 : n0 ≤ h0.size) (pr0 : Arv Z h0 aa ka .char (1 : Int32) [(.int qa)] (.int (0 : Int32))) (pr1 : Arv Z h0 bb kb .byte (1 : Int32) [(.int (0 : Int32))] (.int (0 : Int32))) (pr2 : n0 ≤ bb) (pr3 : aa ≠ bb) (hqa : ¬ ((255 : Int32) < qa)) :
    MetFree l (⟨"java/lang/StringUTF16", "compress", "([CI[BII)I"⟩ : MethodName) (head1 (Jvm.Cond.code (⟨"java/lang/StringUTF16", "compress", "([CI[BII)I"⟩ : MethodName) jdk_52_method_21_code 7 (some .int) :: ws) ({ frames := 0, cells := 0, slots := 0, locals := 0 } : Room)) (fun a U => a = #[(.ref aa), (.int (0 : Int32)), (.ref bb), (.int (0 : Int32)), (.int (1 : Int32))] ∧ Z.Warmed39 U.vm ∧ U.heap = h0) (fun _ _ _ _ _ => True) (fun _ U o U' => ∃ v L, o = .returned v ∧ QCm5_1 Z aa bb ka kb qa h0 n0 v U'.heap L ∧ FrameEnd U o U' L ({ frames := 0, cells := 0, slots := 0, locals := 0 } : Room).cells ({ frames := 0, cells := 0, slots := 0, locals := 0 } : Room).slots) := by
  refine MetFree.of_bodySF (plainFor_of_name pn_6) hisR ?_
  intro p e s m args below meth c s₁ Bd hml0 hP hK
  obtain ⟨rfl, hZ, hh⟩ := hP
  have hx := Bd.exec
  have hby := Bd.bytes
  have hml : c.maxLocals = 7 := hml0
  have hown : s.vm.findClass "java/lang/StringUTF16" = some m.cls := findClass_of_methodNamed Bd.named
  have hnm := (name_of_methodNamed Bd.named Bd.method).1
  have X0 : Stand p l e ({ frames := 0, cells := 0, slots := 0, locals := 0 } : Room) s m #[(.ref aa), (.int (0 : Int32)), (.ref bb), (.int (0 : Int32)), (.int (1 : Int32))] below meth c s₁ [] 0 0 := Stand.of_body Bd
  have hs0 : h0 = s.heap := hh.symm
  have e0 : s₁.heap = h0 := by rw [← hh, Bd.state]; rfl
  have N0 := Fr.nil n0
  obtain ⟨f0, hf0⟩ : ∃ f, f = entryFrame m #[(.ref aa), (.int (0 : Int32)), (.ref bb), (.int (0 : Int32)), (.int (1 : Int32))] 7 := ⟨_, rfl⟩
  have pre0 : ∀ t, Steps p.tables e below (s₁.setTop f0) t → Steps p.tables e below (s₁.setTop (entryFrame m #[(.ref aa), (.int (0 : Int32)), (.ref bb), (.int (0 : Int32)), (.int (1 : Int32))] 7)) t := fun t k => hf0 ▸ k
  have K0 : Gx p e below s₁ f0 s₁ (mkF m 0 #[.val (.ref aa), .val (.int (0 : Int32)), .val (.ref bb), .val (.int (0 : Int32)), .val (.int (1 : Int32)), .unset, .unset] []) := fun t kt => by rw [hf0]; exact castTop (ef_Cm5_1 m aa bb) kt
  obtain ⟨clq1, Arq1, ckq1, cSq1, cNq1, cHq1, cGq1⟩ := id pr0
  have K2 : Gx p e below s₁ f0 s₁ (mkF m 31 #[.val (.ref aa), .val (.int (0 : Int32)), .val (.ref bb), .val (.int (0 : Int32)), .val (.int (1 : Int32)), .val (.int (0 : Int32)), .val (.int qa)] [(.int (qa.toInt8.toInt32)), (.int (0 : Int32)), (.ref bb)]) := fun t kt => K0 t (by
    show Steps p.tables e below (s₁.setTop (mkF m 0 #[.val (.ref aa), .val (.int (0 : Int32)), .val (.ref bb), .val (.int (0 : Int32)), .val (.int (1 : Int32)), .unset, .unset] [])) _
    refine XS.iconst X0.here hx rfl (hb hby d6_0) ?_
    show Steps p.tables e below (s₁.setTop (mkF m 1 #[.val (.ref aa), .val (.int (0 : Int32)), .val (.ref bb), .val (.int (0 : Int32)), .val (.int (1 : Int32)), .unset, .unset] [(.int (0 : Int32))])) _
    refine XS.istore X0.here hx rfl (hb hby d6_1) rfl (l' := #[.val (.ref aa), .val (.int (0 : Int32)), .val (.ref bb), .val (.int (0 : Int32)), .val (.int (1 : Int32)), .val (.int (0 : Int32)), .unset]) rfl ?_
    show Steps p.tables e below (s₁.setTop (mkF m 3 #[.val (.ref aa), .val (.int (0 : Int32)), .val (.ref bb), .val (.int (0 : Int32)), .val (.int (1 : Int32)), .val (.int (0 : Int32)), .unset] [])) _
    refine XS.iload X0.here hx rfl (hb hby d6_3) rfl ?_
    show Steps p.tables e below (s₁.setTop (mkF m 5 #[.val (.ref aa), .val (.int (0 : Int32)), .val (.ref bb), .val (.int (0 : Int32)), .val (.int (1 : Int32)), .val (.int (0 : Int32)), .unset] [(.int (0 : Int32))])) _
    refine XS.iload X0.here hx rfl (hb hby d6_5) rfl ?_
    show Steps p.tables e below (s₁.setTop (mkF m 7 #[.val (.ref aa), .val (.int (0 : Int32)), .val (.ref bb), .val (.int (0 : Int32)), .val (.int (1 : Int32)), .val (.int (0 : Int32)), .unset] [(.int (1 : Int32)), (.int (0 : Int32))])) _
    refine XS.icmpNo X0.here hx rfl (hb hby d6_7) rfl (tlt (by decide)).2.1 ?_
    show Steps p.tables e below (s₁.setTop (mkF m 10 #[.val (.ref aa), .val (.int (0 : Int32)), .val (.ref bb), .val (.int (0 : Int32)), .val (.int (1 : Int32)), .val (.int (0 : Int32)), .unset] [])) _
    refine XS.aloadN X0.here hx rfl (hb hby d6_10) rfl rfl ?_
    show Steps p.tables e below (s₁.setTop (mkF m 11 #[.val (.ref aa), .val (.int (0 : Int32)), .val (.ref bb), .val (.int (0 : Int32)), .val (.int (1 : Int32)), .val (.int (0 : Int32)), .unset] [(.ref aa)])) _
    refine XS.iloadN X0.here hx rfl (hb hby d6_11) rfl ?_
    show Steps p.tables e below (s₁.setTop (mkF m 12 #[.val (.ref aa), .val (.int (0 : Int32)), .val (.ref bb), .val (.int (0 : Int32)), .val (.int (1 : Int32)), .val (.int (0 : Int32)), .unset] [(.int (0 : Int32)), (.ref aa)])) _
    refine X0.caload hx (j := (0 : Int32)) (v := (.int qa)) (by rw [e0]; exact Arq1.1) (State.isArrayOf_alike hZ.alike Arq1.2.1) Arq1.2.2 (inb_of cSq1 ⟨by decide, by decide⟩) (Has.at cHq1 (inb_of cSq1 ⟨by decide, by decide⟩) rfl) (g := (mkF m 12 #[.val (.ref aa), .val (.int (0 : Int32)), .val (.ref bb), .val (.int (0 : Int32)), .val (.int (1 : Int32)), .val (.int (0 : Int32)), .unset] [(.int (0 : Int32)), (.ref aa)])) rfl rfl (hb hby d6_12) _ ?_
    show Steps p.tables e below (s₁.setTop (mkF m 13 #[.val (.ref aa), .val (.int (0 : Int32)), .val (.ref bb), .val (.int (0 : Int32)), .val (.int (1 : Int32)), .val (.int (0 : Int32)), .unset] [(.int qa)])) _
    refine XS.istore X0.here hx rfl (hb hby d6_13) rfl (l' := #[.val (.ref aa), .val (.int (0 : Int32)), .val (.ref bb), .val (.int (0 : Int32)), .val (.int (1 : Int32)), .val (.int (0 : Int32)), .val (.int qa)]) rfl ?_
    show Steps p.tables e below (s₁.setTop (mkF m 15 #[.val (.ref aa), .val (.int (0 : Int32)), .val (.ref bb), .val (.int (0 : Int32)), .val (.int (1 : Int32)), .val (.int (0 : Int32)), .val (.int qa)] [])) _
    refine XS.iload X0.here hx rfl (hb hby d6_15) rfl ?_
    show Steps p.tables e below (s₁.setTop (mkF m 17 #[.val (.ref aa), .val (.int (0 : Int32)), .val (.ref bb), .val (.int (0 : Int32)), .val (.int (1 : Int32)), .val (.int (0 : Int32)), .val (.int qa)] [(.int qa)])) _
    refine XS.sipush X0.here hx rfl (hb hby d6_17) ?_
    show Steps p.tables e below (s₁.setTop (mkF m 20 #[.val (.ref aa), .val (.int (0 : Int32)), .val (.ref bb), .val (.int (0 : Int32)), .val (.int (1 : Int32)), .val (.int (0 : Int32)), .val (.int qa)] [(.int (255 : Int32)), (.int qa)])) _
    refine XS.icmpYes X0.here hx rfl (pc0 := 20) (pc' := 26) rfl (hb hby d6_20) rfl (flt hqa).2.2.2 (by decide) (by decide) ?_
    show Steps p.tables e below (s₁.setTop (mkF m 26 #[.val (.ref aa), .val (.int (0 : Int32)), .val (.ref bb), .val (.int (0 : Int32)), .val (.int (1 : Int32)), .val (.int (0 : Int32)), .val (.int qa)] [])) _
    refine XS.aloadN X0.here hx rfl (hb hby d6_26) rfl rfl ?_
    show Steps p.tables e below (s₁.setTop (mkF m 27 #[.val (.ref aa), .val (.int (0 : Int32)), .val (.ref bb), .val (.int (0 : Int32)), .val (.int (1 : Int32)), .val (.int (0 : Int32)), .val (.int qa)] [(.ref bb)])) _
    refine XS.iloadN X0.here hx rfl (hb hby d6_27) rfl ?_
    show Steps p.tables e below (s₁.setTop (mkF m 28 #[.val (.ref aa), .val (.int (0 : Int32)), .val (.ref bb), .val (.int (0 : Int32)), .val (.int (1 : Int32)), .val (.int (0 : Int32)), .val (.int qa)] [(.int (0 : Int32)), (.ref bb)])) _
    refine XS.iload X0.here hx rfl (hb hby d6_28) rfl ?_
    show Steps p.tables e below (s₁.setTop (mkF m 30 #[.val (.ref aa), .val (.int (0 : Int32)), .val (.ref bb), .val (.int (0 : Int32)), .val (.int (1 : Int32)), .val (.int (0 : Int32)), .val (.int qa)] [(.int qa), (.int (0 : Int32)), (.ref bb)])) _
    refine XS.i2b X0.here hx rfl (hb hby d6_30) rfl ?_
    exact kt)
  obtain ⟨clq3, Arq3, ckq3, cSq3, cNq3, cHq3, cGq3⟩ := id pr1
  obtain ⟨T4, h4, X4', e4, W4, st4⟩ := stB X0 hx hZ e0 Arq3 (j := (0 : Int32)) (inb_of cSq3 ⟨by decide, by decide⟩) (g := (mkF m 31 #[.val (.ref aa), .val (.int (0 : Int32)), .val (.ref bb), .val (.int (0 : Int32)), .val (.int (1 : Int32)), .val (.int (0 : Int32)), .val (.int qa)] [(.int (qa.toInt8.toInt32)), (.int (0 : Int32)), (.ref bb)])) rfl rfl (hb hby d6_31)
  obtain ⟨lc4, X4, N4⟩ : ∃ lc, Stand p l e ({ frames := 0, cells := 0, slots := 0, locals := 0 } : Room) s m #[(.ref aa), (.int (0 : Int32)), (.ref bb), (.int (0 : Int32)), (.int (1 : Int32))] below meth c T4 lc 0 0 ∧ Fr n0 lc := ⟨_, X4', Fr.snoc X4' N0 pr2⟩
  have V4 : Arv Z h4 bb kb .byte (1 : Int32) [(.int (nar .byte (qa.toInt8.toInt32)))] (.int (0 : Int32)) := Arv.set Arq3 ckq3 cSq3 cNq3 cHq3 cGq3 (fits_nar_byte _) W4 0 rfl (Nat.le_of_ble_eq_true rfl)
  have K5 : Gx p e below s₁ f0 T4 (mkF m 32 #[.val (.ref aa), .val (.int (0 : Int32)), .val (.ref bb), .val (.int (0 : Int32)), .val (.int (1 : Int32)), .val (.int (0 : Int32)), .val (.int qa)] []) := fun t kt => K2 t (st4 t kt)
  have K6 : Gx p e below s₁ f0 T4 (mkF m 46 #[.val (.ref aa), .val (.int (1 : Int32)), .val (.ref bb), .val (.int (1 : Int32)), .val (.int (1 : Int32)), .val (.int (1 : Int32)), .val (.int qa)] [(.int (1 : Int32))]) := fun t kt => K5 t (by
    show Steps p.tables e below (T4.setTop (mkF m 32 #[.val (.ref aa), .val (.int (0 : Int32)), .val (.ref bb), .val (.int (0 : Int32)), .val (.int (1 : Int32)), .val (.int (0 : Int32)), .val (.int qa)] [])) _
    refine XS.iinc X4.here hx rfl (hb hby d6_32) rfl (l' := #[.val (.ref aa), .val (.int (1 : Int32)), .val (.ref bb), .val (.int (0 : Int32)), .val (.int (1 : Int32)), .val (.int (0 : Int32)), .val (.int qa)]) rfl ?_
    show Steps p.tables e below (T4.setTop (mkF m 35 #[.val (.ref aa), .val (.int (1 : Int32)), .val (.ref bb), .val (.int (0 : Int32)), .val (.int (1 : Int32)), .val (.int (0 : Int32)), .val (.int qa)] [])) _
    refine XS.iinc X4.here hx rfl (hb hby d6_35) rfl (l' := #[.val (.ref aa), .val (.int (1 : Int32)), .val (.ref bb), .val (.int (1 : Int32)), .val (.int (1 : Int32)), .val (.int (0 : Int32)), .val (.int qa)]) rfl ?_
    show Steps p.tables e below (T4.setTop (mkF m 38 #[.val (.ref aa), .val (.int (1 : Int32)), .val (.ref bb), .val (.int (1 : Int32)), .val (.int (1 : Int32)), .val (.int (0 : Int32)), .val (.int qa)] [])) _
    refine XS.iinc X4.here hx rfl (hb hby d6_38) rfl (l' := #[.val (.ref aa), .val (.int (1 : Int32)), .val (.ref bb), .val (.int (1 : Int32)), .val (.int (1 : Int32)), .val (.int (1 : Int32)), .val (.int qa)]) rfl ?_
    show Steps p.tables e below (T4.setTop (mkF m 41 #[.val (.ref aa), .val (.int (1 : Int32)), .val (.ref bb), .val (.int (1 : Int32)), .val (.int (1 : Int32)), .val (.int (1 : Int32)), .val (.int qa)] [])) _
    refine XS.goto X4.here hx rfl (pc0 := 41) (pc' := 3) rfl (hb hby d6_41) (by decide) (by decide) ?_
    show Steps p.tables e below (T4.setTop (mkF m 3 #[.val (.ref aa), .val (.int (1 : Int32)), .val (.ref bb), .val (.int (1 : Int32)), .val (.int (1 : Int32)), .val (.int (1 : Int32)), .val (.int qa)] [])) _
    refine XS.iload X4.here hx rfl (hb hby d6_3) rfl ?_
    show Steps p.tables e below (T4.setTop (mkF m 5 #[.val (.ref aa), .val (.int (1 : Int32)), .val (.ref bb), .val (.int (1 : Int32)), .val (.int (1 : Int32)), .val (.int (1 : Int32)), .val (.int qa)] [(.int (1 : Int32))])) _
    refine XS.iload X4.here hx rfl (hb hby d6_5) rfl ?_
    show Steps p.tables e below (T4.setTop (mkF m 7 #[.val (.ref aa), .val (.int (1 : Int32)), .val (.ref bb), .val (.int (1 : Int32)), .val (.int (1 : Int32)), .val (.int (1 : Int32)), .val (.int qa)] [(.int (1 : Int32)), (.int (1 : Int32))])) _
    refine XS.icmpYes X4.here hx rfl (pc0 := 7) (pc' := 44) rfl (hb hby d6_7) rfl (flt (by decide)).2.1 (by decide) (by decide) ?_
    show Steps p.tables e below (T4.setTop (mkF m 44 #[.val (.ref aa), .val (.int (1 : Int32)), .val (.ref bb), .val (.int (1 : Int32)), .val (.int (1 : Int32)), .val (.int (1 : Int32)), .val (.int qa)] [])) _
    refine XS.iload X4.here hx rfl (hb hby d6_44) rfl ?_
    exact kt)
  have kp8 : Keep h0 h4 [bb] := ((Keep.refl h0 [bb]).wr W4 (Or.inl (List.mem_of_getElem? (i := 0) rfl)))
  obtain ⟨fs7, hr7, hrun7, hended7, hW7, hsame7⟩ := X4.leave (v := some (.int (1 : Int32))) (fun h => by rw [Bd.returns] at h; cases h)
  refine ⟨_, _, pre0 _ (K6 _ ?_), hrun7, hended7, _, _, rfl, ?_, ⟨_, rfl⟩, hW7, hsame7.mono (by decide) (by decide)⟩
  · exact retI X4 hx Bd.returns (hb hby d6_46) hr7
  · show QCm5_1 Z aa bb ka kb qa h0 n0 _ T4.heap _
    rw [e4]
    exact ⟨rfl, N4, kp8, V4⟩
theorem d5_0 : decode jdk_52_method_16_code 0 = .ok (.iload_n 2, 1) := by decide +kernel
theorem d5_1 : decode jdk_52_method_16_code 1 = .ok (.newarray .byte, 2) := by decide +kernel
theorem d5_3 : decode jdk_52_method_16_code 3 = .ok (.astore_n 3, 1) := by decide +kernel
theorem d5_4 : decode jdk_52_method_16_code 4 = .ok (.aload_n 0, 1) := by decide +kernel
theorem d5_5 : decode jdk_52_method_16_code 5 = .ok (.iload_n 1, 1) := by decide +kernel
theorem d5_6 : decode jdk_52_method_16_code 6 = .ok (.aload_n 3, 1) := by decide +kernel
theorem d5_7 : decode jdk_52_method_16_code 7 = .ok (.iconst 0, 1) := by decide +kernel
theorem d5_8 : decode jdk_52_method_16_code 8 = .ok (.iload_n 2, 1) := by decide +kernel
theorem d5_9 : decode jdk_52_method_16_code 9 = .ok (.invokestatic 115, 3) := by decide +kernel
theorem d5_12 : decode jdk_52_method_16_code 12 = .ok (.istore 4, 2) := by decide +kernel
theorem d5_14 : decode jdk_52_method_16_code 14 = .ok (.iload 4, 2) := by decide +kernel
theorem d5_16 : decode jdk_52_method_16_code 16 = .ok (.iload_n 2, 1) := by decide +kernel
theorem d5_17 : decode jdk_52_method_16_code 17 = .ok (.if_icmp .eq 40, 3) := by decide +kernel
theorem d5_57 : decode jdk_52_method_16_code 57 = .ok (.aload_n 3, 1) := by decide +kernel
theorem d5_58 : decode jdk_52_method_16_code 58 = .ok (.areturn, 1) := by decide +kernel
theorem pn_5 : plainName "java/lang/StringUTF16" = true := by first | (simp [plainName, overriddenIn]; done) | decide +kernel
theorem pd___CI_BII_I : parseMethodDescriptor "([CI[BII)I" = some ⟨[(.array .char), .int, (.array .byte), .int, .int], some .int⟩ := by decide +kernel
theorem ef_Cm3_1 (m : MethodId) (aa : Addr) : entryFrame m #[(.ref aa), (.int (0 : Int32)), (.int (1 : Int32))] 6 = mkF m 0 #[.val (.ref aa), .val (.int (0 : Int32)), .val (.int (1 : Int32)), .unset, .unset, .unset] [] := by first | (simp [entryFrame, mkF, argsToLocals, Value.category]; done) | rfl
def QCm3_1 (Z : State) (aa : Addr) (ka : ClassId) (qa : Int32) (h0 : Heap) (n0 : Nat) (v : Option Value) (h : Heap) (L : List Loc) : Prop := ∃ tb : Addr, ∃ tk : ClassId, v = some (.ref tb) ∧ Fr n0 L ∧ Keep h0 h [] ∧ h0.size ≤ tb ∧ Arv Z h tb tk .byte (1 : Int32) [(.int (nar .byte (qa.toInt8.toInt32)))] (.int (0 : Int32))
set_option maxRecDepth 65536 in
set_option maxHeartbeats 40000000 in
theorem rmCm3_1 (l : Launch) (Z : State) (a0 : Array Value) (hw : ∀ d ∈ tables_1, d.before a0 Z = true) (ws : List Jvm.Cond) (aa : Addr) (ka : ClassId) (qa : Int32) (h0 : Heap) (n0 : Nat) (Z0 : n0 ≤ h0.size) (pr0 : Arv Z h0 aa ka .char (1 : Int32) [(.int qa)] (.int (0 : Int32))) (hqa : ¬ ((255 : Int32) < qa)) :
    MetFree l (⟨"java/lang/StringUTF16", "compress", "([CII)[B"⟩ : MethodName) (head1 (Jvm.Cond.code (⟨"java/lang/StringUTF16", "compress", "([CII)[B"⟩ : MethodName) jdk_52_method_16_code 6 (some (.array .byte)) :: ws) ({ frames := 1, cells := 1, slots := 1, locals := 18 } : Room)) (fun a U => a = #[(.ref aa), (.int (0 : Int32)), (.int (1 : Int32))] ∧ Z.Warmed39 U.vm ∧ U.heap = h0) (fun _ _ _ _ _ => True) (fun _ U o U' => ∃ v L, o = .returned v ∧ QCm3_1 Z aa ka qa h0 n0 v U'.heap L ∧ FrameEnd U o U' L ({ frames := 1, cells := 1, slots := 1, locals := 18 } : Room).cells ({ frames := 1, cells := 1, slots := 1, locals := 18 } : Room).slots) := by
  refine MetFree.of_bodySF (plainFor_of_name pn_5) hisR ?_
  intro p e s m args below meth c s₁ Bd hml0 hP hK
  obtain ⟨rfl, hZ, hh⟩ := hP
  have hx := Bd.exec
  have hby := Bd.bytes
  have hml : c.maxLocals = 6 := hml0
  have hown : s.vm.findClass "java/lang/StringUTF16" = some m.cls := findClass_of_methodNamed Bd.named
  have hnm := (name_of_methodNamed Bd.named Bd.method).1
  have X0 : Stand p l e ({ frames := 1, cells := 1, slots := 1, locals := 18 } : Room) s m #[(.ref aa), (.int (0 : Int32)), (.int (1 : Int32))] below meth c s₁ [] 0 0 := Stand.of_body Bd
  have hs0 : h0 = s.heap := hh.symm
  have e0 : s₁.heap = h0 := by rw [← hh, Bd.state]; rfl
  have N0 := Fr.nil n0
  obtain ⟨f0, hf0⟩ : ∃ f, f = entryFrame m #[(.ref aa), (.int (0 : Int32)), (.int (1 : Int32))] 6 := ⟨_, rfl⟩
  have pre0 : ∀ t, Steps p.tables e below (s₁.setTop f0) t → Steps p.tables e below (s₁.setTop (entryFrame m #[(.ref aa), (.int (0 : Int32)), (.int (1 : Int32))] 6)) t := fun t k => hf0 ▸ k
  have K0 : Gx p e below s₁ f0 s₁ (mkF m 0 #[.val (.ref aa), .val (.int (0 : Int32)), .val (.int (1 : Int32)), .unset, .unset, .unset] []) := fun t kt => by rw [hf0]; exact castTop (ef_Cm3_1 m aa) kt
  have K1 : Gx p e below s₁ f0 s₁ (mkF m 1 #[.val (.ref aa), .val (.int (0 : Int32)), .val (.int (1 : Int32)), .unset, .unset, .unset] [(.int (1 : Int32))]) := fun t kt => K0 t (by
    show Steps p.tables e below (s₁.setTop (mkF m 0 #[.val (.ref aa), .val (.int (0 : Int32)), .val (.int (1 : Int32)), .unset, .unset, .unset] [])) _
    refine XS.iloadN X0.here hx rfl (hb hby d5_0) rfl ?_
    exact kt)
  obtain ⟨T2, h2, k2, X2, e2, E2, A2, st2⟩ := newP X0 hx hZ (hw _ (List.mem_of_getElem? (i := 22) rfl)) e0 (g := (mkF m 1 #[.val (.ref aa), .val (.int (0 : Int32)), .val (.int (1 : Int32)), .unset, .unset, .unset] [(.int (1 : Int32))])) rfl (hb hby d5_1) rfl (by decide) (cap := 1) (by decide) (by decide) (by decide) (by decide)
  obtain ⟨b2, g2⟩ : ∃ z, z = h0.size := ⟨_, rfl⟩
  rw [← g2] at A2 st2
  have V2 : Arv Z h2 b2 k2 .byte (1 : Int32) [(.int (0 : Int32))] (.int (0 : Int32)) := (Arv.new A2 (by decide)).pad (pad_rep [] (.int (0 : Int32)) 1)
  have K3 : Gx p e below s₁ f0 T2 (mkF m 3 #[.val (.ref aa), .val (.int (0 : Int32)), .val (.int (1 : Int32)), .unset, .unset, .unset] [(.ref b2)]) := fun t kt => K1 t (st2 t kt)
  have K4 : Gx p e below s₁ f0 T2 (mkF m 9 #[.val (.ref aa), .val (.int (0 : Int32)), .val (.int (1 : Int32)), .val (.ref b2), .unset, .unset] [(.int (1 : Int32)), (.int (0 : Int32)), (.ref b2), (.int (0 : Int32)), (.ref aa)]) := fun t kt => K3 t (by
    show Steps p.tables e below (T2.setTop (mkF m 3 #[.val (.ref aa), .val (.int (0 : Int32)), .val (.int (1 : Int32)), .unset, .unset, .unset] [(.ref b2)])) _
    refine XS.astoreN X2.here hx rfl (hb hby d5_3) rfl rfl (l' := #[.val (.ref aa), .val (.int (0 : Int32)), .val (.int (1 : Int32)), .val (.ref b2), .unset, .unset]) rfl ?_
    show Steps p.tables e below (T2.setTop (mkF m 4 #[.val (.ref aa), .val (.int (0 : Int32)), .val (.int (1 : Int32)), .val (.ref b2), .unset, .unset] [])) _
    refine XS.aloadN X2.here hx rfl (hb hby d5_4) rfl rfl ?_
    show Steps p.tables e below (T2.setTop (mkF m 5 #[.val (.ref aa), .val (.int (0 : Int32)), .val (.int (1 : Int32)), .val (.ref b2), .unset, .unset] [(.ref aa)])) _
    refine XS.iloadN X2.here hx rfl (hb hby d5_5) rfl ?_
    show Steps p.tables e below (T2.setTop (mkF m 6 #[.val (.ref aa), .val (.int (0 : Int32)), .val (.int (1 : Int32)), .val (.ref b2), .unset, .unset] [(.int (0 : Int32)), (.ref aa)])) _
    refine XS.aloadN X2.here hx rfl (hb hby d5_6) rfl rfl ?_
    show Steps p.tables e below (T2.setTop (mkF m 7 #[.val (.ref aa), .val (.int (0 : Int32)), .val (.int (1 : Int32)), .val (.ref b2), .unset, .unset] [(.ref b2), (.int (0 : Int32)), (.ref aa)])) _
    refine XS.iconst X2.here hx rfl (hb hby d5_7) ?_
    show Steps p.tables e below (T2.setTop (mkF m 8 #[.val (.ref aa), .val (.int (0 : Int32)), .val (.int (1 : Int32)), .val (.ref b2), .unset, .unset] [(.int (0 : Int32)), (.ref b2), (.int (0 : Int32)), (.ref aa)])) _
    refine XS.iloadN X2.here hx rfl (hb hby d5_8) rfl ?_
    exact kt)
  have f5 : Arv Z h2 aa ka .char (1 : Int32) [(.int qa)] (.int (0 : Int32)) := (pr0.ext E2)
  have kp6 : Keep h0 h2 [] := ((Keep.refl h0 []).ext E2)
  obtain ⟨_, _, ⟨T7, L7, k7, n7⟩, -, X7', ⟨Lc7, hQ7, l7, y7, z7⟩, st7⟩ := Jvm.LawKit.callS X2 hx (y := (⟨"java/lang/StringUTF16", "compress", "([CI[BII)I"⟩ : MethodName)) hown (mvT hZ (hw _ (List.mem_of_getElem? (i := 34) rfl))) (mvT hZ (hw _ (List.mem_of_getElem? (i := 35) rfl))) (mvT hZ (hw _ (List.mem_of_getElem? (i := 32) rfl))) (mvT hZ (hw _ (List.mem_of_getElem? (i := 36) rfl))) (by decide) (backOf (W := 0) (rmCm5_1 l Z a0 hw [] aa b2 ka k2 qa h2 n0 (Nat.le_trans Z0 kp6.1) f5 V2 (Nat.le_trans Z0 (Nat.le_trans (Keep.refl h0 []).1 (Nat.le_of_eq g2.symm))) (Nat.ne_of_lt (Nat.lt_of_lt_of_le pr0.lt (Nat.le_of_eq g2.symm))) hqa) hZ (hw _ (List.mem_of_getElem? (i := 36) rfl)) (hw _ (List.mem_of_getElem? (i := 32) rfl)) (by decide) (by decide)) (g := (mkF m 9 #[.val (.ref aa), .val (.int (0 : Int32)), .val (.int (1 : Int32)), .val (.ref b2), .unset, .unset] [(.int (1 : Int32)), (.int (0 : Int32)), (.ref b2), (.int (0 : Int32)), (.ref aa)])) rfl (by rw [hml]; rfl) (argsL := [(.ref aa), (.int (0 : Int32)), (.ref b2), (.int (0 : Int32)), (.int (1 : Int32))]) (rest := []) (lenOf pd___CI_BII_I rfl) rfl (by show 2 * 0 + _ ≤ _; exact Nat.le_of_eq rfl) (hb hby d5_9) (fun _ _ => ⟨rfl, e2, (by decide : 1 + 0 ≤ _), (by decide : 1 + 0 ≤ _)⟩)
  dsimp only [Pt.U, Pt.locs, Pt.cells, Pt.slots] at X7' l7 y7 z7 st7 hQ7
  subst l7 y7 z7
  obtain ⟨h7, e7⟩ : ∃ z, T7.heap = z := ⟨_, rfl⟩
  rw [e7] at hQ7
  obtain ⟨rfl, N7q, Kc7, f8⟩ := hQ7
  obtain ⟨lc7, X7, N7⟩ : ∃ lc, Stand p l e ({ frames := 1, cells := 1, slots := 1, locals := 18 } : Room) s m #[(.ref aa), (.int (0 : Int32)), (.int (1 : Int32))] below meth c T7 lc 1 1 ∧ Fr n0 lc := ⟨_, X7', Fr.app N0 N7q⟩
  have K9 : Gx p e below s₁ f0 T7 (mkF m 12 #[.val (.ref aa), .val (.int (0 : Int32)), .val (.int (1 : Int32)), .val (.ref b2), .unset, .unset] [(.int (1 : Int32))]) := fun t kt => K4 t (st7 t kt)
  have K10 : Gx p e below s₁ f0 T7 (mkF m 58 #[.val (.ref aa), .val (.int (0 : Int32)), .val (.int (1 : Int32)), .val (.ref b2), .val (.int (1 : Int32)), .unset] [(.ref b2)]) := fun t kt => K9 t (by
    show Steps p.tables e below (T7.setTop (mkF m 12 #[.val (.ref aa), .val (.int (0 : Int32)), .val (.int (1 : Int32)), .val (.ref b2), .unset, .unset] [(.int (1 : Int32))])) _
    refine XS.istore X7.here hx rfl (hb hby d5_12) rfl (l' := #[.val (.ref aa), .val (.int (0 : Int32)), .val (.int (1 : Int32)), .val (.ref b2), .val (.int (1 : Int32)), .unset]) rfl ?_
    show Steps p.tables e below (T7.setTop (mkF m 14 #[.val (.ref aa), .val (.int (0 : Int32)), .val (.int (1 : Int32)), .val (.ref b2), .val (.int (1 : Int32)), .unset] [])) _
    refine XS.iload X7.here hx rfl (hb hby d5_14) rfl ?_
    show Steps p.tables e below (T7.setTop (mkF m 16 #[.val (.ref aa), .val (.int (0 : Int32)), .val (.int (1 : Int32)), .val (.ref b2), .val (.int (1 : Int32)), .unset] [(.int (1 : Int32))])) _
    refine XS.iloadN X7.here hx rfl (hb hby d5_16) rfl ?_
    show Steps p.tables e below (T7.setTop (mkF m 17 #[.val (.ref aa), .val (.int (0 : Int32)), .val (.int (1 : Int32)), .val (.ref b2), .val (.int (1 : Int32)), .unset] [(.int (1 : Int32)), (.int (1 : Int32))])) _
    refine XS.icmpYes X7.here hx rfl (pc0 := 17) (pc' := 57) rfl (hb hby d5_17) rfl (teq (by decide)).1 (by decide) (by decide) ?_
    show Steps p.tables e below (T7.setTop (mkF m 57 #[.val (.ref aa), .val (.int (0 : Int32)), .val (.int (1 : Int32)), .val (.ref b2), .val (.int (1 : Int32)), .unset] [])) _
    refine XS.aloadN X7.here hx rfl (hb hby d5_57) rfl rfl ?_
    exact kt)
  have kp12 : Keep h0 h7 [] := (Keep.trans kp6 Kc7 (allS (Or.inr (Nat.le_trans (Keep.refl h0 []).1 (Nat.le_of_eq g2.symm))) all0))
  obtain ⟨fs11, hr11, hrun11, hended11, hW11, hsame11⟩ := X7.leave (v := some (.ref b2)) (fun h => by rw [Bd.returns] at h; cases h)
  refine ⟨_, _, pre0 _ (K10 _ ?_), hrun11, hended11, _, _, rfl, ?_, ⟨_, rfl⟩, hW11, hsame11.mono (by decide) (by decide)⟩
  · show Steps p.tables e below (T7.setTop (mkF m 58 #[.val (.ref aa), .val (.int (0 : Int32)), .val (.int (1 : Int32)), .val (.ref b2), .val (.int (1 : Int32)), .unset] [(.ref b2)])) _
    jvm_step X7.here [X7.here.top, hx, (hb hby d5_58), X7.method', Bd.returns, Value.isRef, FieldType.isReference]
    first | (intro acts; rw [hr11 _ acts rfl rfl rfl]) | rw [hr11 _ _ rfl rfl rfl]
    exact Steps.refl _
  · show QCm3_1 Z aa ka qa h0 n0 _ T7.heap _
    rw [e7]
    exact ⟨b2, k2, rfl, N7, kp12, (Nat.le_trans (Keep.refl h0 []).1 (Nat.le_of_eq g2.symm)), f8⟩
theorem d7_0 : decode jdk_52_method_15_code 0 = .ok (.iload_n 1, 1) := by decide +kernel
theorem d7_1 : decode jdk_52_method_15_code 1 = .ok (.aload_n 0, 1) := by decide +kernel
theorem d7_2 : decode jdk_52_method_15_code 2 = .ok (.arraylength, 1) := by decide +kernel
theorem d7_3 : decode jdk_52_method_15_code 3 = .ok (.isub, 1) := by decide +kernel
theorem d7_4 : decode jdk_52_method_15_code 4 = .ok (.bipush 31, 2) := by decide +kernel
theorem d7_6 : decode jdk_52_method_15_code 6 = .ok (.iushr, 1) := by decide +kernel
theorem d7_7 : decode jdk_52_method_15_code 7 = .ok (.i2b, 1) := by decide +kernel
theorem d7_8 : decode jdk_52_method_15_code 8 = .ok (.ireturn, 1) := by decide +kernel
theorem pn_7 : plainName "java/lang/StringUTF16" = true := by first | (simp [plainName, overriddenIn]; done) | decide +kernel
theorem ef_Cdr_1 (m : MethodId) (aa : Addr) : entryFrame m #[(.ref aa), (.int (1 : Int32))] 2 = mkF m 0 #[.val (.ref aa), .val (.int (1 : Int32))] [] := by first | (simp [entryFrame, mkF, argsToLocals, Value.category]; done) | rfl
def QCdr_1 (Z : State) (aa : Addr) (ka : ClassId) (xs_ : List Value) (h0 : Heap) (n0 : Nat) (v : Option Value) (h : Heap) (L : List Loc) : Prop := v = some (.int (0 : Int32)) ∧ Fr n0 L ∧ h = h0
set_option maxRecDepth 65536 in
set_option maxHeartbeats 40000000 in
theorem rmCdr_1 (l : Launch) (Z : State) (a0 : Array Value) (hw : ∀ d ∈ tables_1, d.before a0 Z = true) (ws : List Jvm.Cond) (aa : Addr) (ka : ClassId) (xs_ : List Value) (h0 : Heap) (n0 : Nat) (Z0 : n0 ≤ h0.size) (pr0 : Arv Z h0 aa ka .byte (1 : Int32) xs_ (.int (0 : Int32))) :
    MetFree l (⟨"java/lang/StringUTF16", "coderFromArrayLen", "([BI)B"⟩ : MethodName) (head1 (Jvm.Cond.code (⟨"java/lang/StringUTF16", "coderFromArrayLen", "([BI)B"⟩ : MethodName) jdk_52_method_15_code 2 (some .byte) :: ws) ({ frames := 0, cells := 0, slots := 0, locals := 0 } : Room)) (fun a U => a = #[(.ref aa), (.int (1 : Int32))] ∧ Z.Warmed39 U.vm ∧ U.heap = h0) (fun _ _ _ _ _ => True) (fun _ U o U' => ∃ v L, o = .returned v ∧ QCdr_1 Z aa ka xs_ h0 n0 v U'.heap L ∧ FrameEnd U o U' L ({ frames := 0, cells := 0, slots := 0, locals := 0 } : Room).cells ({ frames := 0, cells := 0, slots := 0, locals := 0 } : Room).slots) := by
  refine MetFree.of_bodySF (plainFor_of_name pn_7) hisR ?_
  intro p e s m args below meth c s₁ Bd hml0 hP hK
  obtain ⟨rfl, hZ, hh⟩ := hP
  have hx := Bd.exec
  have hby := Bd.bytes
  have hml : c.maxLocals = 2 := hml0
  have hown : s.vm.findClass "java/lang/StringUTF16" = some m.cls := findClass_of_methodNamed Bd.named
  have hnm := (name_of_methodNamed Bd.named Bd.method).1
  have X0 : Stand p l e ({ frames := 0, cells := 0, slots := 0, locals := 0 } : Room) s m #[(.ref aa), (.int (1 : Int32))] below meth c s₁ [] 0 0 := Stand.of_body Bd
  have hs0 : h0 = s.heap := hh.symm
  have e0 : s₁.heap = h0 := by rw [← hh, Bd.state]; rfl
  have N0 := Fr.nil n0
  obtain ⟨f0, hf0⟩ : ∃ f, f = entryFrame m #[(.ref aa), (.int (1 : Int32))] 2 := ⟨_, rfl⟩
  have pre0 : ∀ t, Steps p.tables e below (s₁.setTop f0) t → Steps p.tables e below (s₁.setTop (entryFrame m #[(.ref aa), (.int (1 : Int32))] 2)) t := fun t k => hf0 ▸ k
  have K0 : Gx p e below s₁ f0 s₁ (mkF m 0 #[.val (.ref aa), .val (.int (1 : Int32))] []) := fun t kt => by rw [hf0]; exact castTop (ef_Cdr_1 m aa) kt
  obtain ⟨clq1, Arq1, ckq1, cSq1, cNq1, cHq1, cGq1⟩ := id pr0
  have K2 : Gx p e below s₁ f0 s₁ (mkF m 8 #[.val (.ref aa), .val (.int (1 : Int32))] [(.int ((((0 : Int32).toUInt32 >>> ((31 : Int32) &&& 31).toUInt32).toInt32).toInt8.toInt32))]) := fun t kt => K0 t (by
    show Steps p.tables e below (s₁.setTop (mkF m 0 #[.val (.ref aa), .val (.int (1 : Int32))] [])) _
    refine XS.iloadN X0.here hx rfl (hb hby d7_0) rfl ?_
    show Steps p.tables e below (s₁.setTop (mkF m 1 #[.val (.ref aa), .val (.int (1 : Int32))] [(.int (1 : Int32))])) _
    refine XS.aloadN X0.here hx rfl (hb hby d7_1) rfl rfl ?_
    show Steps p.tables e below (s₁.setTop (mkF m 2 #[.val (.ref aa), .val (.int (1 : Int32))] [(.ref aa), (.int (1 : Int32))])) _
    refine X0.arraylength hx (by rw [e0]; exact Arq1.1) (State.isArrayOf_alike hZ.alike Arq1.2.1) (g := (mkF m 2 #[.val (.ref aa), .val (.int (1 : Int32))] [(.ref aa), (.int (1 : Int32))])) rfl rfl (hb hby d7_2) _ ?_
    rw [len_of cSq1 cNq1]
    show Steps p.tables e below (s₁.setTop (mkF m 3 #[.val (.ref aa), .val (.int (1 : Int32))] [(.int (1 : Int32)), (.int (1 : Int32))])) _
    refine XS.isub X0.here hx rfl (hb hby d7_3) rfl ?_
    show Steps p.tables e below (s₁.setTop (mkF m 4 #[.val (.ref aa), .val (.int (1 : Int32))] [(.int (0 : Int32))])) _
    refine XS.bipush X0.here hx rfl (hb hby d7_4) ?_
    show Steps p.tables e below (s₁.setTop (mkF m 6 #[.val (.ref aa), .val (.int (1 : Int32))] [(.int (31 : Int32)), (.int (0 : Int32))])) _
    refine XS.iushr X0.here hx rfl (hb hby d7_6) rfl ?_
    show Steps p.tables e below (s₁.setTop (mkF m 7 #[.val (.ref aa), .val (.int (1 : Int32))] [(.int (((0 : Int32).toUInt32 >>> ((31 : Int32) &&& 31).toUInt32).toInt32))])) _
    refine XS.i2b X0.here hx rfl (hb hby d7_7) rfl ?_
    exact kt)
  rw [(by decide : ((((0 : Int32).toUInt32 >>> ((31 : Int32) &&& 31).toUInt32).toInt32).toInt8.toInt32) = (0 : Int32))] at K2
  obtain ⟨fs3, hr3, hrun3, hended3, hW3, hsame3⟩ := X0.leave (v := some (.int (0 : Int32))) (fun h => by rw [Bd.returns] at h; cases h)
  refine ⟨_, _, pre0 _ (K2 _ ?_), hrun3, hended3, _, _, rfl, ?_, ⟨_, rfl⟩, hW3, hsame3.mono (by decide) (by decide)⟩
  · exact retN X0 hx (t := .byte) Bd.returns (by simp) (hb hby d7_8) hr3
  · show QCdr_1 Z aa ka xs_ h0 n0 _ s₁.heap _
    rw [e0]
    exact ⟨rfl, N0, rfl⟩
theorem d3_0 : decode jdk_42_method_149_code 0 = .ok (.aload_n 0, 1) := by decide +kernel
theorem d3_1 : decode jdk_42_method_149_code 1 = .ok (.invokespecial 1, 3) := by decide +kernel
theorem d3_4 : decode jdk_42_method_149_code 4 = .ok (.iload_n 3, 1) := by decide +kernel
theorem d3_5 : decode jdk_42_method_149_code 5 = .ok (.ifCond .ne 22, 3) := by decide +kernel
theorem d3_27 : decode jdk_42_method_149_code 27 = .ok (.getstatic 38, 3) := by decide +kernel
theorem d3_30 : decode jdk_42_method_149_code 30 = .ok (.ifCond .eq 28, 3) := by decide +kernel
theorem d3_33 : decode jdk_42_method_149_code 33 = .ok (.aload_n 1, 1) := by decide +kernel
theorem d3_34 : decode jdk_42_method_149_code 34 = .ok (.iload_n 2, 1) := by decide +kernel
theorem d3_35 : decode jdk_42_method_149_code 35 = .ok (.iload_n 3, 1) := by decide +kernel
theorem d3_36 : decode jdk_42_method_149_code 36 = .ok (.invokestatic 177, 3) := by decide +kernel
theorem d3_39 : decode jdk_42_method_149_code 39 = .ok (.astore 5, 2) := by decide +kernel
theorem d3_41 : decode jdk_42_method_149_code 41 = .ok (.aload_n 0, 1) := by decide +kernel
theorem d3_42 : decode jdk_42_method_149_code 42 = .ok (.aload 5, 2) := by decide +kernel
theorem d3_44 : decode jdk_42_method_149_code 44 = .ok (.iload_n 3, 1) := by decide +kernel
theorem d3_45 : decode jdk_42_method_149_code 45 = .ok (.invokestatic 47, 3) := by decide +kernel
theorem d3_48 : decode jdk_42_method_149_code 48 = .ok (.putfield 15, 3) := by decide +kernel
theorem d3_51 : decode jdk_42_method_149_code 51 = .ok (.aload_n 0, 1) := by decide +kernel
theorem d3_52 : decode jdk_42_method_149_code 52 = .ok (.aload 5, 2) := by decide +kernel
theorem d3_54 : decode jdk_42_method_149_code 54 = .ok (.putfield 9, 3) := by decide +kernel
theorem d3_57 : decode jdk_42_method_149_code 57 = .ok (.return_, 1) := by decide +kernel
theorem pn_3 : plainName "java/lang/String" = true := by first | (simp [plainName, overriddenIn]; done) | decide +kernel
theorem pd___CII__B : parseMethodDescriptor "([CII)[B" = some ⟨[(.array .char), .int, .int], some (.array .byte)⟩ := by decide +kernel
theorem pd___BI_B : parseMethodDescriptor "([BI)B" = some ⟨[(.array .byte), .int], some .byte⟩ := by decide +kernel
theorem ef_In4_1 (m : MethodId) (a1 : Addr) (aa : Addr) : entryFrame m #[(.ref a1), (.ref aa), (.int (0 : Int32)), (.int (1 : Int32)), .null] 6 = mkF m 0 #[.val (.ref a1), .val (.ref aa), .val (.int (0 : Int32)), .val (.int (1 : Int32)), .val .null, .unset] [] := by first | (simp [entryFrame, mkF, argsToLocals, Value.category]; done) | rfl
def QIn4_1 (Z : State) (a1 : Addr) (aa : Addr) (ka : ClassId) (qa : Int32) (cw : Int32) (h0 : Heap) (n0 : Nat) (v : Option Value) (h : Heap) (L : List Loc) : Prop := ∃ tb : Addr, ∃ tk : ClassId, v = none ∧ Fr n0 L ∧ Keep h0 h [a1] ∧ h0.size ≤ tb ∧ Exa Z h a1 "java/lang/String" ∧ Fld Z h a1 "java/lang/String" "coder" "B" (.int (0 : Int32)) ∧ Fld Z h a1 "java/lang/String" "value" "[B" (.ref tb) ∧ Arv Z h tb tk .byte (1 : Int32) [(.int (nar .byte (qa.toInt8.toInt32)))] (.int (0 : Int32))
set_option maxRecDepth 65536 in
set_option maxHeartbeats 40000000 in
theorem rmIn4_1 (l : Launch) (Z : State) (a0 : Array Value) (hw : ∀ d ∈ tables_1, d.before a0 Z = true) (ws : List Jvm.Cond) (a1 : Addr) (aa : Addr) (ka : ClassId) (qa : Int32) (cw : Int32) (h0 : Heap) (n0 : Nat) (Z0 : n0 ≤ h0.size) (pr0 : Exa Z h0 a1 "java/lang/String") (pr1 : n0 ≤ a1) (pr2 : Fld Z h0 a1 "java/lang/String" "value" "[B" .null) (pr3 : Fld Z h0 a1 "java/lang/String" "coder" "B" (.int (0 : Int32))) (pr4 : Arv Z h0 aa ka .char (1 : Int32) [(.int qa)] (.int (0 : Int32))) (hqa : ¬ ((255 : Int32) < qa)) (pr6 : Old Z n0 h0) (pr7 : Sta Z Z.heap "java/lang/String" "COMPACT_STRINGS" "Z" (.int cw)) (hcw : ¬ (cw = (0 : Int32))) :
    MetFree l (⟨"java/lang/String", "<init>", "([CIILjava/lang/Void;)V"⟩ : MethodName) (head1 (Jvm.Cond.code (⟨"java/lang/String", "<init>", "([CIILjava/lang/Void;)V"⟩ : MethodName) jdk_42_method_149_code 6 none :: ws) ({ frames := 2, cells := 1, slots := 1, locals := 35 } : Room)) (fun a U => a = #[(.ref a1), (.ref aa), (.int (0 : Int32)), (.int (1 : Int32)), .null] ∧ Z.Warmed39 U.vm ∧ U.heap = h0) (fun _ _ _ _ _ => True) (fun _ U o U' => ∃ v L, o = .returned v ∧ QIn4_1 Z a1 aa ka qa cw h0 n0 v U'.heap L ∧ FrameEnd U o U' L ({ frames := 2, cells := 1, slots := 1, locals := 35 } : Room).cells ({ frames := 2, cells := 1, slots := 1, locals := 35 } : Room).slots) := by
  refine MetFree.of_bodySF (plainFor_of_name pn_3) hisR ?_
  intro p e s m args below meth c s₁ Bd hml0 hP hK
  obtain ⟨rfl, hZ, hh⟩ := hP
  have hx := Bd.exec
  have hby := Bd.bytes
  have hml : c.maxLocals = 6 := hml0
  have hown : s.vm.findClass "java/lang/String" = some m.cls := findClass_of_methodNamed Bd.named
  have hnm := (name_of_methodNamed Bd.named Bd.method).1
  have X0 : Stand p l e ({ frames := 2, cells := 1, slots := 1, locals := 35 } : Room) s m #[(.ref a1), (.ref aa), (.int (0 : Int32)), (.int (1 : Int32)), .null] below meth c s₁ [] 0 0 := Stand.of_body Bd
  have hs0 : h0 = s.heap := hh.symm
  have e0 : s₁.heap = h0 := by rw [← hh, Bd.state]; rfl
  have N0 := Fr.nil n0
  obtain ⟨f0, hf0⟩ : ∃ f, f = entryFrame m #[(.ref a1), (.ref aa), (.int (0 : Int32)), (.int (1 : Int32)), .null] 6 := ⟨_, rfl⟩
  have pre0 : ∀ t, Steps p.tables e below (s₁.setTop f0) t → Steps p.tables e below (s₁.setTop (entryFrame m #[(.ref a1), (.ref aa), (.int (0 : Int32)), (.int (1 : Int32)), .null] 6)) t := fun t k => hf0 ▸ k
  have K0 : Gx p e below s₁ f0 s₁ (mkF m 0 #[.val (.ref a1), .val (.ref aa), .val (.int (0 : Int32)), .val (.int (1 : Int32)), .val .null, .unset] []) := fun t kt => by rw [hf0]; exact castTop (ef_In4_1 m a1 aa) kt
  have K1 : Gx p e below s₁ f0 s₁ (mkF m 1 #[.val (.ref a1), .val (.ref aa), .val (.int (0 : Int32)), .val (.int (1 : Int32)), .val .null, .unset] [(.ref a1)]) := fun t kt => K0 t (by
    show Steps p.tables e below (s₁.setTop (mkF m 0 #[.val (.ref a1), .val (.ref aa), .val (.int (0 : Int32)), .val (.int (1 : Int32)), .val .null, .unset] [])) _
    refine XS.aloadN X0.here hx rfl (hb hby d3_0) rfl rfl ?_
    exact kt)
  obtain ⟨T2, X2, e2, st2⟩ := initO X0 hx hZ hown (hw _ (List.mem_of_getElem? (i := 18) rfl)) (hw _ (List.mem_of_getElem? (i := 19) rfl)) (hw _ (List.mem_of_getElem? (i := 20) rfl)) e0 (g := (mkF m 1 #[.val (.ref a1), .val (.ref aa), .val (.int (0 : Int32)), .val (.int (1 : Int32)), .val .null, .unset] [(.ref a1)])) rfl (by rw [hml]; rfl) rfl (hb hby d3_1) (by decide) (W := 0) (by show 2 * 0 + _ ≤ _; exact Nat.le_of_eq rfl) (by decide)
  have K3 : Gx p e below s₁ f0 T2 (mkF m 4 #[.val (.ref a1), .val (.ref aa), .val (.int (0 : Int32)), .val (.int (1 : Int32)), .val .null, .unset] []) := fun t kt => K1 t (st2 t kt)
  have K4 : Gx p e below s₁ f0 T2 (mkF m 27 #[.val (.ref a1), .val (.ref aa), .val (.int (0 : Int32)), .val (.int (1 : Int32)), .val .null, .unset] []) := fun t kt => K3 t (by
    show Steps p.tables e below (T2.setTop (mkF m 4 #[.val (.ref a1), .val (.ref aa), .val (.int (0 : Int32)), .val (.int (1 : Int32)), .val .null, .unset] [])) _
    refine XS.iloadN X2.here hx rfl (hb hby d3_4) rfl ?_
    show Steps p.tables e below (T2.setTop (mkF m 5 #[.val (.ref a1), .val (.ref aa), .val (.int (0 : Int32)), .val (.int (1 : Int32)), .val .null, .unset] [(.int (1 : Int32))])) _
    refine XS.ifYes X2.here hx rfl (pc0 := 5) (pc' := 27) rfl (hb hby d3_5) rfl ((if0 _ _).trans (feq (by decide)).2) (by decide) (by decide) ?_
    exact kt)
  have f5 : Sta Z h0 "java/lang/String" "COMPACT_STRINGS" "Z" (.int cw) := Sta.ext pr6.2 pr7
  obtain ⟨T6, X6, e6, st6⟩ := getS2 X2 hx hZ hown (host := "") (Or.inl (hw _ (List.mem_of_getElem? (i := 29) rfl))) Via.refl e2 f5 (g := (mkF m 27 #[.val (.ref a1), .val (.ref aa), .val (.int (0 : Int32)), .val (.int (1 : Int32)), .val .null, .unset] [])) rfl (hb hby d3_27)
  have K7 : Gx p e below s₁ f0 T6 (mkF m 30 #[.val (.ref a1), .val (.ref aa), .val (.int (0 : Int32)), .val (.int (1 : Int32)), .val .null, .unset] [(.int cw)]) := fun t kt => K4 t (st6 t kt)
  have K8 : Gx p e below s₁ f0 T6 (mkF m 36 #[.val (.ref a1), .val (.ref aa), .val (.int (0 : Int32)), .val (.int (1 : Int32)), .val .null, .unset] [(.int (1 : Int32)), (.int (0 : Int32)), (.ref aa)]) := fun t kt => K7 t (by
    show Steps p.tables e below (T6.setTop (mkF m 30 #[.val (.ref a1), .val (.ref aa), .val (.int (0 : Int32)), .val (.int (1 : Int32)), .val .null, .unset] [(.int cw)])) _
    refine XS.ifNo X6.here hx rfl (hb hby d3_30) rfl ((if0 _ _).trans (feq hcw).1) ?_
    show Steps p.tables e below (T6.setTop (mkF m 33 #[.val (.ref a1), .val (.ref aa), .val (.int (0 : Int32)), .val (.int (1 : Int32)), .val .null, .unset] [])) _
    refine XS.aloadN X6.here hx rfl (hb hby d3_33) rfl rfl ?_
    show Steps p.tables e below (T6.setTop (mkF m 34 #[.val (.ref a1), .val (.ref aa), .val (.int (0 : Int32)), .val (.int (1 : Int32)), .val .null, .unset] [(.ref aa)])) _
    refine XS.iloadN X6.here hx rfl (hb hby d3_34) rfl ?_
    show Steps p.tables e below (T6.setTop (mkF m 35 #[.val (.ref a1), .val (.ref aa), .val (.int (0 : Int32)), .val (.int (1 : Int32)), .val .null, .unset] [(.int (0 : Int32)), (.ref aa)])) _
    refine XS.iloadN X6.here hx rfl (hb hby d3_35) rfl ?_
    exact kt)
  obtain ⟨_, _, ⟨T9, L9, k9, n9⟩, -, X9', ⟨Lc9, hQ9, l9, y9, z9⟩, st9⟩ := Jvm.LawKit.callS X6 hx (y := (⟨"java/lang/StringUTF16", "compress", "([CII)[B"⟩ : MethodName)) hown (mvT hZ (hw _ (List.mem_of_getElem? (i := 30) rfl))) (mvT hZ (hw _ (List.mem_of_getElem? (i := 31) rfl))) (mvT hZ (hw _ (List.mem_of_getElem? (i := 32) rfl))) (mvT hZ (hw _ (List.mem_of_getElem? (i := 33) rfl))) (by decide) (backOf (W := 0) (rmCm3_1 l Z a0 hw [] aa ka qa h0 n0 (Nat.le_trans Z0 (Keep.refl h0 [a1]).1) pr4 hqa) hZ (hw _ (List.mem_of_getElem? (i := 33) rfl)) (hw _ (List.mem_of_getElem? (i := 32) rfl)) (by decide) (by decide)) (g := (mkF m 36 #[.val (.ref a1), .val (.ref aa), .val (.int (0 : Int32)), .val (.int (1 : Int32)), .val .null, .unset] [(.int (1 : Int32)), (.int (0 : Int32)), (.ref aa)])) rfl (by rw [hml]; rfl) (argsL := [(.ref aa), (.int (0 : Int32)), (.int (1 : Int32))]) (rest := []) (lenOf pd___CII__B rfl) rfl (by show 2 * 0 + _ ≤ _; exact Nat.le_of_eq rfl) (hb hby d3_36) (fun _ _ => ⟨rfl, e6, (by decide : 0 + 1 ≤ _), (by decide : 0 + 1 ≤ _)⟩)
  dsimp only [Pt.U, Pt.locs, Pt.cells, Pt.slots] at X9' l9 y9 z9 st9 hQ9
  subst l9 y9 z9
  obtain ⟨h9, e9⟩ : ∃ z, T9.heap = z := ⟨_, rfl⟩
  rw [e9] at hQ9
  obtain ⟨tb_9, tk_9, rfl, N9q, Kc9, f10, f11⟩ := hQ9
  obtain ⟨lc9, X9, N9⟩ : ∃ lc, Stand p l e ({ frames := 2, cells := 1, slots := 1, locals := 35 } : Room) s m #[(.ref a1), (.ref aa), (.int (0 : Int32)), (.int (1 : Int32)), .null] below meth c T9 lc 1 1 ∧ Fr n0 lc := ⟨_, X9', Fr.app N0 N9q⟩
  have K12 : Gx p e below s₁ f0 T9 (mkF m 39 #[.val (.ref a1), .val (.ref aa), .val (.int (0 : Int32)), .val (.int (1 : Int32)), .val .null, .unset] [(.ref tb_9)]) := fun t kt => K8 t (st9 t kt)
  have K13 : Gx p e below s₁ f0 T9 (mkF m 45 #[.val (.ref a1), .val (.ref aa), .val (.int (0 : Int32)), .val (.int (1 : Int32)), .val .null, .val (.ref tb_9)] [(.int (1 : Int32)), (.ref tb_9), (.ref a1)]) := fun t kt => K12 t (by
    show Steps p.tables e below (T9.setTop (mkF m 39 #[.val (.ref a1), .val (.ref aa), .val (.int (0 : Int32)), .val (.int (1 : Int32)), .val .null, .unset] [(.ref tb_9)])) _
    refine XS.astore X9.here hx rfl (hb hby d3_39) rfl rfl (l' := #[.val (.ref a1), .val (.ref aa), .val (.int (0 : Int32)), .val (.int (1 : Int32)), .val .null, .val (.ref tb_9)]) rfl ?_
    show Steps p.tables e below (T9.setTop (mkF m 41 #[.val (.ref a1), .val (.ref aa), .val (.int (0 : Int32)), .val (.int (1 : Int32)), .val .null, .val (.ref tb_9)] [])) _
    refine XS.aloadN X9.here hx rfl (hb hby d3_41) rfl rfl ?_
    show Steps p.tables e below (T9.setTop (mkF m 42 #[.val (.ref a1), .val (.ref aa), .val (.int (0 : Int32)), .val (.int (1 : Int32)), .val .null, .val (.ref tb_9)] [(.ref a1)])) _
    refine XS.aload X9.here hx rfl (hb hby d3_42) rfl rfl ?_
    show Steps p.tables e below (T9.setTop (mkF m 44 #[.val (.ref a1), .val (.ref aa), .val (.int (0 : Int32)), .val (.int (1 : Int32)), .val .null, .val (.ref tb_9)] [(.ref tb_9), (.ref a1)])) _
    refine XS.iloadN X9.here hx rfl (hb hby d3_44) rfl ?_
    exact kt)
  have kp14 : Keep h0 h9 [a1] := (Keep.trans (Keep.refl h0 [a1]) Kc9 all0)
  obtain ⟨_, _, ⟨T15, L15, k15, n15⟩, -, X15', ⟨Lc15, hQ15, l15, y15, z15⟩, st15⟩ := Jvm.LawKit.callS X9 hx (y := (⟨"java/lang/StringUTF16", "coderFromArrayLen", "([BI)B"⟩ : MethodName)) hown (mvT hZ (hw _ (List.mem_of_getElem? (i := 37) rfl))) (mvT hZ (hw _ (List.mem_of_getElem? (i := 38) rfl))) (mvT hZ (hw _ (List.mem_of_getElem? (i := 32) rfl))) (mvT hZ (hw _ (List.mem_of_getElem? (i := 39) rfl))) (by decide) (backOf (W := 1) (rmCdr_1 l Z a0 hw [] tb_9 tk_9 [(.int (nar .byte (qa.toInt8.toInt32)))] h9 n0 (Nat.le_trans Z0 kp14.1) f11) hZ (hw _ (List.mem_of_getElem? (i := 39) rfl)) (hw _ (List.mem_of_getElem? (i := 32) rfl)) (by decide) (by decide)) (g := (mkF m 45 #[.val (.ref a1), .val (.ref aa), .val (.int (0 : Int32)), .val (.int (1 : Int32)), .val .null, .val (.ref tb_9)] [(.int (1 : Int32)), (.ref tb_9), (.ref a1)])) rfl (by rw [hml]; rfl) (argsL := [(.ref tb_9), (.int (1 : Int32))]) (rest := [(.ref a1)]) (lenOf pd___BI_B rfl) rfl (by show 2 * 0 + _ ≤ _; exact Nat.le_of_eq rfl) (hb hby d3_45) (fun _ _ => ⟨rfl, e9, (by decide : 1 + 0 ≤ _), (by decide : 1 + 0 ≤ _)⟩)
  dsimp only [Pt.U, Pt.locs, Pt.cells, Pt.slots] at X15' l15 y15 z15 st15 hQ15
  subst l15 y15 z15
  obtain ⟨rfl, N15q, e15⟩ := hQ15
  obtain ⟨lc15, X15, N15⟩ : ∃ lc, Stand p l e ({ frames := 2, cells := 1, slots := 1, locals := 35 } : Room) s m #[(.ref a1), (.ref aa), (.int (0 : Int32)), (.int (1 : Int32)), .null] below meth c T15 lc 1 1 ∧ Fr n0 lc := ⟨_, X15', Fr.app N9 N15q⟩
  have K16 : Gx p e below s₁ f0 T15 (mkF m 48 #[.val (.ref a1), .val (.ref aa), .val (.int (0 : Int32)), .val (.int (1 : Int32)), .val .null, .val (.ref tb_9)] [(.int (0 : Int32)), (.ref a1)]) := fun t kt => K13 t (st15 t kt)
  have f17 : Fld Z h9 a1 "java/lang/String" "coder" "B" (.int (0 : Int32)) := (pr3.keep Kc9 nin0)
  have f18 : Exa Z h9 a1 "java/lang/String" := (pr0.keep Kc9)
  obtain ⟨T19, h19, X19', e19, W19, st19⟩ := putFN X15 hx hZ hown (hw _ (List.mem_of_getElem? (i := 28) rfl)) Via.refl e15 f17 f18 (Or.inr ⟨(hw _ (List.mem_of_getElem? (i := 24) rfl)), rfl, hnm⟩) (hw _ (List.mem_of_getElem? (i := 8) rfl)) (ty := .byte) (v := (.int (0 : Int32))) (v' := (.int (0 : Int32))) (by decide) rfl (by decide) (g := (mkF m 48 #[.val (.ref a1), .val (.ref aa), .val (.int (0 : Int32)), .val (.int (1 : Int32)), .val .null, .val (.ref tb_9)] [(.int (0 : Int32)), (.ref a1)])) rfl rfl (hb hby d3_48)
  obtain ⟨lc19, X19, N19⟩ : ∃ lc, Stand p l e ({ frames := 2, cells := 1, slots := 1, locals := 35 } : Room) s m #[(.ref a1), (.ref aa), (.int (0 : Int32)), (.int (1 : Int32)), .null] below meth c T19 lc 1 1 ∧ Fr n0 lc := ⟨_, X19', Fr.snoc X19' N15 pr1⟩
  have f19_ : Fld Z h19 a1 "java/lang/String" "coder" "B" (.int (0 : Int32)) := f17.same W19
  have K20 : Gx p e below s₁ f0 T19 (mkF m 51 #[.val (.ref a1), .val (.ref aa), .val (.int (0 : Int32)), .val (.int (1 : Int32)), .val .null, .val (.ref tb_9)] []) := fun t kt => K16 t (st19 t kt)
  have K21 : Gx p e below s₁ f0 T19 (mkF m 54 #[.val (.ref a1), .val (.ref aa), .val (.int (0 : Int32)), .val (.int (1 : Int32)), .val .null, .val (.ref tb_9)] [(.ref tb_9), (.ref a1)]) := fun t kt => K20 t (by
    show Steps p.tables e below (T19.setTop (mkF m 51 #[.val (.ref a1), .val (.ref aa), .val (.int (0 : Int32)), .val (.int (1 : Int32)), .val .null, .val (.ref tb_9)] [])) _
    refine XS.aloadN X19.here hx rfl (hb hby d3_51) rfl rfl ?_
    show Steps p.tables e below (T19.setTop (mkF m 52 #[.val (.ref a1), .val (.ref aa), .val (.int (0 : Int32)), .val (.int (1 : Int32)), .val .null, .val (.ref tb_9)] [(.ref a1)])) _
    refine XS.aload X19.here hx rfl (hb hby d3_52) rfl rfl ?_
    exact kt)
  have f22 : Fld Z h19 a1 "java/lang/String" "value" "[B" .null := ((pr2.keep Kc9 nin0).other W19 (Or.inr (slot_ne (Or.inr (hw _ (List.mem_of_getElem? (i := 23) rfl))) (Or.inr (hw _ (List.mem_of_getElem? (i := 24) rfl))) (by decide) (t := (.array .byte)) (t' := .byte) (by decide) (by decide))))
  have f23 : Exa Z h19 a1 "java/lang/String" := (f18.wr W19)
  obtain ⟨T24, h24, X24', e24, W24, st24⟩ := putF X19 hx hZ hown (host := "") (Or.inl (hw _ (List.mem_of_getElem? (i := 27) rfl))) Via.refl e19 f22 f23 (Or.inr ⟨(hw _ (List.mem_of_getElem? (i := 23) rfl)), rfl, hnm⟩) (hw _ (List.mem_of_getElem? (i := 8) rfl)) (ty := (.array .byte)) (by decide) rfl rfl (g := (mkF m 54 #[.val (.ref a1), .val (.ref aa), .val (.int (0 : Int32)), .val (.int (1 : Int32)), .val .null, .val (.ref tb_9)] [(.ref tb_9), (.ref a1)])) rfl rfl (hb hby d3_54)
  obtain ⟨lc24, X24, N24⟩ : ∃ lc, Stand p l e ({ frames := 2, cells := 1, slots := 1, locals := 35 } : Room) s m #[(.ref a1), (.ref aa), (.int (0 : Int32)), (.int (1 : Int32)), .null] below meth c T24 lc 1 1 ∧ Fr n0 lc := ⟨_, X24', Fr.snoc X24' N19 pr1⟩
  have f24_ : Fld Z h24 a1 "java/lang/String" "value" "[B" (.ref tb_9) := f22.same W24
  have K25 : Gx p e below s₁ f0 T24 (mkF m 57 #[.val (.ref a1), .val (.ref aa), .val (.int (0 : Int32)), .val (.int (1 : Int32)), .val .null, .val (.ref tb_9)] []) := fun t kt => K21 t (st24 t kt)
  have f27 : Arv Z h24 tb_9 tk_9 .byte (1 : Int32) [(.int (nar .byte (qa.toInt8.toInt32)))] (.int (0 : Int32)) := ((f11.other W19 (Ne.symm (Nat.ne_of_lt (Nat.lt_of_lt_of_le pr0.lt f10)))).other W24 (Ne.symm (Nat.ne_of_lt (Nat.lt_of_lt_of_le pr0.lt f10))))
  have kp28 : Keep h0 h24 [a1] := ((kp14.wr W19 (Or.inl (List.mem_of_getElem? (i := 0) rfl))).wr W24 (Or.inl (List.mem_of_getElem? (i := 0) rfl)))
  have f29 : Exa Z h24 a1 "java/lang/String" := (f23.wr W24)
  have f30 : Fld Z h24 a1 "java/lang/String" "coder" "B" (.int (0 : Int32)) := (f19_.other W24 (Or.inr (slot_ne (Or.inr (hw _ (List.mem_of_getElem? (i := 24) rfl))) (Or.inr (hw _ (List.mem_of_getElem? (i := 23) rfl))) (by decide) (t := .byte) (t' := (.array .byte)) (by decide) (by decide))))
  obtain ⟨fs26, hr26, hrun26, hended26, hW26, hsame26⟩ := X24.leave (v := none) (fun _ => rfl)
  refine ⟨_, _, pre0 _ (K25 _ ?_), hrun26, hended26, _, _, rfl, ?_, ⟨_, rfl⟩, hW26, hsame26.mono (by decide) (by decide)⟩
  · exact X24.returnOut hx Bd.returns (hb hby d3_57) hr26
  · show QIn4_1 Z a1 aa ka qa cw h0 n0 _ T24.heap _
    rw [e24]
    exact ⟨tb_9, tk_9, rfl, N24, kp28, (Nat.le_trans (Keep.refl h0 [a1]).1 f10), f29, f30, f24_, f27⟩
theorem d2_0 : decode jdk_42_method_3_code 0 = .ok (.aload_n 0, 1) := by decide +kernel
theorem d2_1 : decode jdk_42_method_3_code 1 = .ok (.aload_n 1, 1) := by decide +kernel
theorem d2_2 : decode jdk_42_method_3_code 2 = .ok (.iconst 0, 1) := by decide +kernel
theorem d2_3 : decode jdk_42_method_3_code 3 = .ok (.aload_n 1, 1) := by decide +kernel
theorem d2_4 : decode jdk_42_method_3_code 4 = .ok (.arraylength, 1) := by decide +kernel
theorem d2_5 : decode jdk_42_method_3_code 5 = .ok (.aconst_null, 1) := by decide +kernel
theorem d2_6 : decode jdk_42_method_3_code 6 = .ok (.invokespecial 27, 3) := by decide +kernel
theorem d2_9 : decode jdk_42_method_3_code 9 = .ok (.return_, 1) := by decide +kernel
theorem pn_2 : plainName "java/lang/String" = true := by first | (simp [plainName, overriddenIn]; done) | decide +kernel
theorem pd___CIILjava_lang_Void__V : parseMethodDescriptor "([CIILjava/lang/Void;)V" = some ⟨[(.array .char), .int, .int, (.object "java/lang/Void")], none⟩ := by decide +kernel
theorem ef_In1_1 (m : MethodId) (a1 : Addr) (aa : Addr) : entryFrame m #[(.ref a1), (.ref aa)] 2 = mkF m 0 #[.val (.ref a1), .val (.ref aa)] [] := by first | (simp [entryFrame, mkF, argsToLocals, Value.category]; done) | rfl
def QIn1_1 (Z : State) (a1 : Addr) (aa : Addr) (ka : ClassId) (qa : Int32) (cw : Int32) (h0 : Heap) (n0 : Nat) (v : Option Value) (h : Heap) (L : List Loc) : Prop := ∃ tb : Addr, ∃ tk : ClassId, v = none ∧ Fr n0 L ∧ Keep h0 h [a1] ∧ h0.size ≤ tb ∧ Exa Z h a1 "java/lang/String" ∧ Fld Z h a1 "java/lang/String" "coder" "B" (.int (0 : Int32)) ∧ Fld Z h a1 "java/lang/String" "value" "[B" (.ref tb) ∧ Arv Z h tb tk .byte (1 : Int32) [(.int (nar .byte (qa.toInt8.toInt32)))] (.int (0 : Int32))
set_option maxRecDepth 65536 in
set_option maxHeartbeats 40000000 in
theorem rmIn1_1 (l : Launch) (Z : State) (a0 : Array Value) (hw : ∀ d ∈ tables_1, d.before a0 Z = true) (ws : List Jvm.Cond) (a1 : Addr) (aa : Addr) (ka : ClassId) (qa : Int32) (cw : Int32) (h0 : Heap) (n0 : Nat) (Z0 : n0 ≤ h0.size) (pr0 : Exa Z h0 a1 "java/lang/String") (pr1 : n0 ≤ a1) (pr2 : Fld Z h0 a1 "java/lang/String" "value" "[B" .null) (pr3 : Fld Z h0 a1 "java/lang/String" "coder" "B" (.int (0 : Int32))) (pr4 : Arv Z h0 aa ka .char (1 : Int32) [(.int qa)] (.int (0 : Int32))) (hqa : ¬ ((255 : Int32) < qa)) (pr6 : Old Z n0 h0) (pr7 : Sta Z Z.heap "java/lang/String" "COMPACT_STRINGS" "Z" (.int cw)) (hcw : ¬ (cw = (0 : Int32))) :
    MetFree l (⟨"java/lang/String", "<init>", "([C)V"⟩ : MethodName) (head1 (Jvm.Cond.code (⟨"java/lang/String", "<init>", "([C)V"⟩ : MethodName) jdk_42_method_3_code 2 none :: ws) ({ frames := 3, cells := 1, slots := 1, locals := 52 } : Room)) (fun a U => a = #[(.ref a1), (.ref aa)] ∧ Z.Warmed39 U.vm ∧ U.heap = h0) (fun _ _ _ _ _ => True) (fun _ U o U' => ∃ v L, o = .returned v ∧ QIn1_1 Z a1 aa ka qa cw h0 n0 v U'.heap L ∧ FrameEnd U o U' L ({ frames := 3, cells := 1, slots := 1, locals := 52 } : Room).cells ({ frames := 3, cells := 1, slots := 1, locals := 52 } : Room).slots) := by
  refine MetFree.of_bodySF (plainFor_of_name pn_2) hisR ?_
  intro p e s m args below meth c s₁ Bd hml0 hP hK
  obtain ⟨rfl, hZ, hh⟩ := hP
  have hx := Bd.exec
  have hby := Bd.bytes
  have hml : c.maxLocals = 2 := hml0
  have hown : s.vm.findClass "java/lang/String" = some m.cls := findClass_of_methodNamed Bd.named
  have hnm := (name_of_methodNamed Bd.named Bd.method).1
  have X0 : Stand p l e ({ frames := 3, cells := 1, slots := 1, locals := 52 } : Room) s m #[(.ref a1), (.ref aa)] below meth c s₁ [] 0 0 := Stand.of_body Bd
  have hs0 : h0 = s.heap := hh.symm
  have e0 : s₁.heap = h0 := by rw [← hh, Bd.state]; rfl
  have N0 := Fr.nil n0
  obtain ⟨f0, hf0⟩ : ∃ f, f = entryFrame m #[(.ref a1), (.ref aa)] 2 := ⟨_, rfl⟩
  have pre0 : ∀ t, Steps p.tables e below (s₁.setTop f0) t → Steps p.tables e below (s₁.setTop (entryFrame m #[(.ref a1), (.ref aa)] 2)) t := fun t k => hf0 ▸ k
  have K0 : Gx p e below s₁ f0 s₁ (mkF m 0 #[.val (.ref a1), .val (.ref aa)] []) := fun t kt => by rw [hf0]; exact castTop (ef_In1_1 m a1 aa) kt
  obtain ⟨clq1, Arq1, ckq1, cSq1, cNq1, cHq1, cGq1⟩ := id pr4
  have K2 : Gx p e below s₁ f0 s₁ (mkF m 6 #[.val (.ref a1), .val (.ref aa)] [.null, (.int (1 : Int32)), (.int (0 : Int32)), (.ref aa), (.ref a1)]) := fun t kt => K0 t (by
    show Steps p.tables e below (s₁.setTop (mkF m 0 #[.val (.ref a1), .val (.ref aa)] [])) _
    refine XS.aloadN X0.here hx rfl (hb hby d2_0) rfl rfl ?_
    show Steps p.tables e below (s₁.setTop (mkF m 1 #[.val (.ref a1), .val (.ref aa)] [(.ref a1)])) _
    refine XS.aloadN X0.here hx rfl (hb hby d2_1) rfl rfl ?_
    show Steps p.tables e below (s₁.setTop (mkF m 2 #[.val (.ref a1), .val (.ref aa)] [(.ref aa), (.ref a1)])) _
    refine XS.iconst X0.here hx rfl (hb hby d2_2) ?_
    show Steps p.tables e below (s₁.setTop (mkF m 3 #[.val (.ref a1), .val (.ref aa)] [(.int (0 : Int32)), (.ref aa), (.ref a1)])) _
    refine XS.aloadN X0.here hx rfl (hb hby d2_3) rfl rfl ?_
    show Steps p.tables e below (s₁.setTop (mkF m 4 #[.val (.ref a1), .val (.ref aa)] [(.ref aa), (.int (0 : Int32)), (.ref aa), (.ref a1)])) _
    refine X0.arraylength hx (by rw [e0]; exact Arq1.1) (State.isArrayOf_alike hZ.alike Arq1.2.1) (g := (mkF m 4 #[.val (.ref a1), .val (.ref aa)] [(.ref aa), (.int (0 : Int32)), (.ref aa), (.ref a1)])) rfl rfl (hb hby d2_4) _ ?_
    rw [len_of cSq1 cNq1]
    show Steps p.tables e below (s₁.setTop (mkF m 5 #[.val (.ref a1), .val (.ref aa)] [(.int (1 : Int32)), (.int (0 : Int32)), (.ref aa), (.ref a1)])) _
    refine XS.aconstNull X0.here hx rfl (hb hby d2_5) ?_
    exact kt)
  obtain ⟨_, _, ⟨T3, L3, k3, n3⟩, -, X3', ⟨Lc3, hQ3, l3, y3, z3⟩, st3⟩ := X0.specialBack hx (y := (⟨"java/lang/String", "<init>", "([CIILjava/lang/Void;)V"⟩ : MethodName)) rfl hown (mvT hZ (hw _ (List.mem_of_getElem? (i := 14) rfl))) (mvT hZ (hw _ (List.mem_of_getElem? (i := 15) rfl))) (mvT hZ (hw _ (List.mem_of_getElem? (i := 17) rfl))) (by decide) (backOf (W := 0) (rmIn4_1 l Z a0 hw [] a1 aa ka qa cw h0 n0 (Nat.le_trans Z0 (Keep.refl h0 [a1]).1) pr0 pr1 pr2 pr3 pr4 hqa pr6 pr7 hcw) hZ (hw _ (List.mem_of_getElem? (i := 17) rfl)) (hw _ (List.mem_of_getElem? (i := 9) rfl)) (by decide) (by decide)) (g := (mkF m 6 #[.val (.ref a1), .val (.ref aa)] [.null, (.int (1 : Int32)), (.int (0 : Int32)), (.ref aa), (.ref a1)])) rfl (by rw [hml]; rfl) (Steps.refl _) (a := a1) (argsL := [(.ref aa), (.int (0 : Int32)), (.int (1 : Int32)), .null]) (rest := []) (lenOf pd___CIILjava_lang_Void__V rfl) rfl (by show 2 * 0 + _ ≤ _; exact Nat.le_of_eq rfl) (hb hby d2_6) (fun _ _ => ⟨rfl, e0, (by decide : 0 + 1 ≤ _), (by decide : 0 + 1 ≤ _)⟩)
  dsimp only [Pt.U, Pt.locs, Pt.cells, Pt.slots] at X3' l3 y3 z3 st3 hQ3
  subst l3 y3 z3
  obtain ⟨h3, e3⟩ : ∃ z, T3.heap = z := ⟨_, rfl⟩
  rw [e3] at hQ3
  obtain ⟨tb_3, tk_3, rfl, N3q, Kc3, f4, f5, f6, f7, f8⟩ := hQ3
  obtain ⟨lc3, X3, N3⟩ : ∃ lc, Stand p l e ({ frames := 3, cells := 1, slots := 1, locals := 52 } : Room) s m #[(.ref a1), (.ref aa)] below meth c T3 lc 1 1 ∧ Fr n0 lc := ⟨_, X3', Fr.app N0 N3q⟩
  have K9 : Gx p e below s₁ f0 T3 (mkF m 9 #[.val (.ref a1), .val (.ref aa)] []) := fun t kt => K2 t (st3.trans kt)
  have kp11 : Keep h0 h3 [a1] := (Keep.trans (Keep.refl h0 [a1]) Kc3 (allS (Or.inl (List.mem_of_getElem? (i := 0) rfl)) all0))
  obtain ⟨fs10, hr10, hrun10, hended10, hW10, hsame10⟩ := X3.leave (v := none) (fun _ => rfl)
  refine ⟨_, _, pre0 _ (K9 _ ?_), hrun10, hended10, _, _, rfl, ?_, ⟨_, rfl⟩, hW10, hsame10.mono (by decide) (by decide)⟩
  · exact X3.returnOut hx Bd.returns (hb hby d2_9) hr10
  · show QIn1_1 Z a1 aa ka qa cw h0 n0 _ T3.heap _
    rw [e3]
    exact ⟨tb_3, tk_3, rfl, N3, kp11, (Nat.le_trans (Keep.refl h0 [a1]).1 f4), f5, f6, f7, f8⟩
theorem ef_Cm5_2 (m : MethodId) (aa : Addr) (bb : Addr) : entryFrame m #[(.ref aa), (.int (0 : Int32)), (.ref bb), (.int (0 : Int32)), (.int (2 : Int32))] 7 = mkF m 0 #[.val (.ref aa), .val (.int (0 : Int32)), .val (.ref bb), .val (.int (0 : Int32)), .val (.int (2 : Int32)), .unset, .unset] [] := by first | (simp [entryFrame, mkF, argsToLocals, Value.category]; done) | rfl
def QCm5_2 (Z : State) (aa : Addr) (bb : Addr) (ka : ClassId) (kb : ClassId) (qa : Int32) (qb : Int32) (h0 : Heap) (n0 : Nat) (v : Option Value) (h : Heap) (L : List Loc) : Prop := v = some (.int (2 : Int32)) ∧ Fr n0 L ∧ Keep h0 h [bb] ∧ Arv Z h bb kb .byte (2 : Int32) [(.int (nar .byte (qa.toInt8.toInt32))), (.int (nar .byte (qb.toInt8.toInt32)))] (.int (0 : Int32))
set_option maxRecDepth 65536 in
set_option maxHeartbeats 40000000 in
theorem rmCm5_2 (l : Launch) (Z : State) (a0 : Array Value) (hw : ∀ d ∈ tables_1, d.before a0 Z = true) (ws : List Jvm.Cond) (aa : Addr) (bb : Addr) (ka : ClassId) (kb : ClassId) (qa : Int32) (qb : Int32) (h0 : Heap) (n0 : Nat) (Z0 : n0 ≤ h0.size) (pr0 : Arv Z h0 aa ka .char (2 : Int32) [(.int qa), (.int qb)] (.int (0 : Int32))) (pr1 : Arv Z h0 bb kb .byte (2 : Int32) [(.int (0 : Int32)), (.int (0 : Int32))] (.int (0 : Int32))) (pr2 : n0 ≤ bb) (pr3 : aa ≠ bb) (hqa : ¬ ((255 : Int32) < qa)) (hqb : ¬ ((255 : Int32) < qb)) :
    MetFree l (⟨"java/lang/StringUTF16", "compress", "([CI[BII)I"⟩ : MethodName) (head1 (Jvm.Cond.code (⟨"java/lang/StringUTF16", "compress", "([CI[BII)I"⟩ : MethodName) jdk_52_method_21_code 7 (some .int) :: ws) ({ frames := 0, cells := 0, slots := 0, locals := 0 } : Room)) (fun a U => a = #[(.ref aa), (.int (0 : Int32)), (.ref bb), (.int (0 : Int32)), (.int (2 : Int32))] ∧ Z.Warmed39 U.vm ∧ U.heap = h0) (fun _ _ _ _ _ => True) (fun _ U o U' => ∃ v L, o = .returned v ∧ QCm5_2 Z aa bb ka kb qa qb h0 n0 v U'.heap L ∧ FrameEnd U o U' L ({ frames := 0, cells := 0, slots := 0, locals := 0 } : Room).cells ({ frames := 0, cells := 0, slots := 0, locals := 0 } : Room).slots) := by
  refine MetFree.of_bodySF (plainFor_of_name pn_6) hisR ?_
  intro p e s m args below meth c s₁ Bd hml0 hP hK
  obtain ⟨rfl, hZ, hh⟩ := hP
  have hx := Bd.exec
  have hby := Bd.bytes
  have hml : c.maxLocals = 7 := hml0
  have hown : s.vm.findClass "java/lang/StringUTF16" = some m.cls := findClass_of_methodNamed Bd.named
  have hnm := (name_of_methodNamed Bd.named Bd.method).1
  have X0 : Stand p l e ({ frames := 0, cells := 0, slots := 0, locals := 0 } : Room) s m #[(.ref aa), (.int (0 : Int32)), (.ref bb), (.int (0 : Int32)), (.int (2 : Int32))] below meth c s₁ [] 0 0 := Stand.of_body Bd
  have hs0 : h0 = s.heap := hh.symm
  have e0 : s₁.heap = h0 := by rw [← hh, Bd.state]; rfl
  have N0 := Fr.nil n0
  obtain ⟨f0, hf0⟩ : ∃ f, f = entryFrame m #[(.ref aa), (.int (0 : Int32)), (.ref bb), (.int (0 : Int32)), (.int (2 : Int32))] 7 := ⟨_, rfl⟩
  have pre0 : ∀ t, Steps p.tables e below (s₁.setTop f0) t → Steps p.tables e below (s₁.setTop (entryFrame m #[(.ref aa), (.int (0 : Int32)), (.ref bb), (.int (0 : Int32)), (.int (2 : Int32))] 7)) t := fun t k => hf0 ▸ k
  have K0 : Gx p e below s₁ f0 s₁ (mkF m 0 #[.val (.ref aa), .val (.int (0 : Int32)), .val (.ref bb), .val (.int (0 : Int32)), .val (.int (2 : Int32)), .unset, .unset] []) := fun t kt => by rw [hf0]; exact castTop (ef_Cm5_2 m aa bb) kt
  obtain ⟨clq1, Arq1, ckq1, cSq1, cNq1, cHq1, cGq1⟩ := id pr0
  have K2 : Gx p e below s₁ f0 s₁ (mkF m 31 #[.val (.ref aa), .val (.int (0 : Int32)), .val (.ref bb), .val (.int (0 : Int32)), .val (.int (2 : Int32)), .val (.int (0 : Int32)), .val (.int qa)] [(.int (qa.toInt8.toInt32)), (.int (0 : Int32)), (.ref bb)]) := fun t kt => K0 t (by
    show Steps p.tables e below (s₁.setTop (mkF m 0 #[.val (.ref aa), .val (.int (0 : Int32)), .val (.ref bb), .val (.int (0 : Int32)), .val (.int (2 : Int32)), .unset, .unset] [])) _
    refine XS.iconst X0.here hx rfl (hb hby d6_0) ?_
    show Steps p.tables e below (s₁.setTop (mkF m 1 #[.val (.ref aa), .val (.int (0 : Int32)), .val (.ref bb), .val (.int (0 : Int32)), .val (.int (2 : Int32)), .unset, .unset] [(.int (0 : Int32))])) _
    refine XS.istore X0.here hx rfl (hb hby d6_1) rfl (l' := #[.val (.ref aa), .val (.int (0 : Int32)), .val (.ref bb), .val (.int (0 : Int32)), .val (.int (2 : Int32)), .val (.int (0 : Int32)), .unset]) rfl ?_
    show Steps p.tables e below (s₁.setTop (mkF m 3 #[.val (.ref aa), .val (.int (0 : Int32)), .val (.ref bb), .val (.int (0 : Int32)), .val (.int (2 : Int32)), .val (.int (0 : Int32)), .unset] [])) _
    refine XS.iload X0.here hx rfl (hb hby d6_3) rfl ?_
    show Steps p.tables e below (s₁.setTop (mkF m 5 #[.val (.ref aa), .val (.int (0 : Int32)), .val (.ref bb), .val (.int (0 : Int32)), .val (.int (2 : Int32)), .val (.int (0 : Int32)), .unset] [(.int (0 : Int32))])) _
    refine XS.iload X0.here hx rfl (hb hby d6_5) rfl ?_
    show Steps p.tables e below (s₁.setTop (mkF m 7 #[.val (.ref aa), .val (.int (0 : Int32)), .val (.ref bb), .val (.int (0 : Int32)), .val (.int (2 : Int32)), .val (.int (0 : Int32)), .unset] [(.int (2 : Int32)), (.int (0 : Int32))])) _
    refine XS.icmpNo X0.here hx rfl (hb hby d6_7) rfl (tlt (by decide)).2.1 ?_
    show Steps p.tables e below (s₁.setTop (mkF m 10 #[.val (.ref aa), .val (.int (0 : Int32)), .val (.ref bb), .val (.int (0 : Int32)), .val (.int (2 : Int32)), .val (.int (0 : Int32)), .unset] [])) _
    refine XS.aloadN X0.here hx rfl (hb hby d6_10) rfl rfl ?_
    show Steps p.tables e below (s₁.setTop (mkF m 11 #[.val (.ref aa), .val (.int (0 : Int32)), .val (.ref bb), .val (.int (0 : Int32)), .val (.int (2 : Int32)), .val (.int (0 : Int32)), .unset] [(.ref aa)])) _
    refine XS.iloadN X0.here hx rfl (hb hby d6_11) rfl ?_
    show Steps p.tables e below (s₁.setTop (mkF m 12 #[.val (.ref aa), .val (.int (0 : Int32)), .val (.ref bb), .val (.int (0 : Int32)), .val (.int (2 : Int32)), .val (.int (0 : Int32)), .unset] [(.int (0 : Int32)), (.ref aa)])) _
    refine X0.caload hx (j := (0 : Int32)) (v := (.int qa)) (by rw [e0]; exact Arq1.1) (State.isArrayOf_alike hZ.alike Arq1.2.1) Arq1.2.2 (inb_of cSq1 ⟨by decide, by decide⟩) (Has.at cHq1 (inb_of cSq1 ⟨by decide, by decide⟩) rfl) (g := (mkF m 12 #[.val (.ref aa), .val (.int (0 : Int32)), .val (.ref bb), .val (.int (0 : Int32)), .val (.int (2 : Int32)), .val (.int (0 : Int32)), .unset] [(.int (0 : Int32)), (.ref aa)])) rfl rfl (hb hby d6_12) _ ?_
    show Steps p.tables e below (s₁.setTop (mkF m 13 #[.val (.ref aa), .val (.int (0 : Int32)), .val (.ref bb), .val (.int (0 : Int32)), .val (.int (2 : Int32)), .val (.int (0 : Int32)), .unset] [(.int qa)])) _
    refine XS.istore X0.here hx rfl (hb hby d6_13) rfl (l' := #[.val (.ref aa), .val (.int (0 : Int32)), .val (.ref bb), .val (.int (0 : Int32)), .val (.int (2 : Int32)), .val (.int (0 : Int32)), .val (.int qa)]) rfl ?_
    show Steps p.tables e below (s₁.setTop (mkF m 15 #[.val (.ref aa), .val (.int (0 : Int32)), .val (.ref bb), .val (.int (0 : Int32)), .val (.int (2 : Int32)), .val (.int (0 : Int32)), .val (.int qa)] [])) _
    refine XS.iload X0.here hx rfl (hb hby d6_15) rfl ?_
    show Steps p.tables e below (s₁.setTop (mkF m 17 #[.val (.ref aa), .val (.int (0 : Int32)), .val (.ref bb), .val (.int (0 : Int32)), .val (.int (2 : Int32)), .val (.int (0 : Int32)), .val (.int qa)] [(.int qa)])) _
    refine XS.sipush X0.here hx rfl (hb hby d6_17) ?_
    show Steps p.tables e below (s₁.setTop (mkF m 20 #[.val (.ref aa), .val (.int (0 : Int32)), .val (.ref bb), .val (.int (0 : Int32)), .val (.int (2 : Int32)), .val (.int (0 : Int32)), .val (.int qa)] [(.int (255 : Int32)), (.int qa)])) _
    refine XS.icmpYes X0.here hx rfl (pc0 := 20) (pc' := 26) rfl (hb hby d6_20) rfl (flt hqa).2.2.2 (by decide) (by decide) ?_
    show Steps p.tables e below (s₁.setTop (mkF m 26 #[.val (.ref aa), .val (.int (0 : Int32)), .val (.ref bb), .val (.int (0 : Int32)), .val (.int (2 : Int32)), .val (.int (0 : Int32)), .val (.int qa)] [])) _
    refine XS.aloadN X0.here hx rfl (hb hby d6_26) rfl rfl ?_
    show Steps p.tables e below (s₁.setTop (mkF m 27 #[.val (.ref aa), .val (.int (0 : Int32)), .val (.ref bb), .val (.int (0 : Int32)), .val (.int (2 : Int32)), .val (.int (0 : Int32)), .val (.int qa)] [(.ref bb)])) _
    refine XS.iloadN X0.here hx rfl (hb hby d6_27) rfl ?_
    show Steps p.tables e below (s₁.setTop (mkF m 28 #[.val (.ref aa), .val (.int (0 : Int32)), .val (.ref bb), .val (.int (0 : Int32)), .val (.int (2 : Int32)), .val (.int (0 : Int32)), .val (.int qa)] [(.int (0 : Int32)), (.ref bb)])) _
    refine XS.iload X0.here hx rfl (hb hby d6_28) rfl ?_
    show Steps p.tables e below (s₁.setTop (mkF m 30 #[.val (.ref aa), .val (.int (0 : Int32)), .val (.ref bb), .val (.int (0 : Int32)), .val (.int (2 : Int32)), .val (.int (0 : Int32)), .val (.int qa)] [(.int qa), (.int (0 : Int32)), (.ref bb)])) _
    refine XS.i2b X0.here hx rfl (hb hby d6_30) rfl ?_
    exact kt)
  obtain ⟨clq3, Arq3, ckq3, cSq3, cNq3, cHq3, cGq3⟩ := id pr1
  obtain ⟨T4, h4, X4', e4, W4, st4⟩ := stB X0 hx hZ e0 Arq3 (j := (0 : Int32)) (inb_of cSq3 ⟨by decide, by decide⟩) (g := (mkF m 31 #[.val (.ref aa), .val (.int (0 : Int32)), .val (.ref bb), .val (.int (0 : Int32)), .val (.int (2 : Int32)), .val (.int (0 : Int32)), .val (.int qa)] [(.int (qa.toInt8.toInt32)), (.int (0 : Int32)), (.ref bb)])) rfl rfl (hb hby d6_31)
  obtain ⟨lc4, X4, N4⟩ : ∃ lc, Stand p l e ({ frames := 0, cells := 0, slots := 0, locals := 0 } : Room) s m #[(.ref aa), (.int (0 : Int32)), (.ref bb), (.int (0 : Int32)), (.int (2 : Int32))] below meth c T4 lc 0 0 ∧ Fr n0 lc := ⟨_, X4', Fr.snoc X4' N0 pr2⟩
  have V4 : Arv Z h4 bb kb .byte (2 : Int32) [(.int (nar .byte (qa.toInt8.toInt32))), (.int (0 : Int32))] (.int (0 : Int32)) := Arv.set Arq3 ckq3 cSq3 cNq3 cHq3 cGq3 (fits_nar_byte _) W4 0 rfl (Nat.le_of_ble_eq_true rfl)
  have K5 : Gx p e below s₁ f0 T4 (mkF m 32 #[.val (.ref aa), .val (.int (0 : Int32)), .val (.ref bb), .val (.int (0 : Int32)), .val (.int (2 : Int32)), .val (.int (0 : Int32)), .val (.int qa)] []) := fun t kt => K2 t (st4 t kt)
  have f6 : Arv Z h4 aa ka .char (2 : Int32) [(.int qa), (.int qb)] (.int (0 : Int32)) := (pr0.other W4 pr3)
  obtain ⟨clq7, Arq7, ckq7, cSq7, cNq7, cHq7, cGq7⟩ := id f6
  have K8 : Gx p e below s₁ f0 T4 (mkF m 31 #[.val (.ref aa), .val (.int (1 : Int32)), .val (.ref bb), .val (.int (1 : Int32)), .val (.int (2 : Int32)), .val (.int (1 : Int32)), .val (.int qb)] [(.int (qb.toInt8.toInt32)), (.int (1 : Int32)), (.ref bb)]) := fun t kt => K5 t (by
    show Steps p.tables e below (T4.setTop (mkF m 32 #[.val (.ref aa), .val (.int (0 : Int32)), .val (.ref bb), .val (.int (0 : Int32)), .val (.int (2 : Int32)), .val (.int (0 : Int32)), .val (.int qa)] [])) _
    refine XS.iinc X4.here hx rfl (hb hby d6_32) rfl (l' := #[.val (.ref aa), .val (.int (1 : Int32)), .val (.ref bb), .val (.int (0 : Int32)), .val (.int (2 : Int32)), .val (.int (0 : Int32)), .val (.int qa)]) rfl ?_
    show Steps p.tables e below (T4.setTop (mkF m 35 #[.val (.ref aa), .val (.int (1 : Int32)), .val (.ref bb), .val (.int (0 : Int32)), .val (.int (2 : Int32)), .val (.int (0 : Int32)), .val (.int qa)] [])) _
    refine XS.iinc X4.here hx rfl (hb hby d6_35) rfl (l' := #[.val (.ref aa), .val (.int (1 : Int32)), .val (.ref bb), .val (.int (1 : Int32)), .val (.int (2 : Int32)), .val (.int (0 : Int32)), .val (.int qa)]) rfl ?_
    show Steps p.tables e below (T4.setTop (mkF m 38 #[.val (.ref aa), .val (.int (1 : Int32)), .val (.ref bb), .val (.int (1 : Int32)), .val (.int (2 : Int32)), .val (.int (0 : Int32)), .val (.int qa)] [])) _
    refine XS.iinc X4.here hx rfl (hb hby d6_38) rfl (l' := #[.val (.ref aa), .val (.int (1 : Int32)), .val (.ref bb), .val (.int (1 : Int32)), .val (.int (2 : Int32)), .val (.int (1 : Int32)), .val (.int qa)]) rfl ?_
    show Steps p.tables e below (T4.setTop (mkF m 41 #[.val (.ref aa), .val (.int (1 : Int32)), .val (.ref bb), .val (.int (1 : Int32)), .val (.int (2 : Int32)), .val (.int (1 : Int32)), .val (.int qa)] [])) _
    refine XS.goto X4.here hx rfl (pc0 := 41) (pc' := 3) rfl (hb hby d6_41) (by decide) (by decide) ?_
    show Steps p.tables e below (T4.setTop (mkF m 3 #[.val (.ref aa), .val (.int (1 : Int32)), .val (.ref bb), .val (.int (1 : Int32)), .val (.int (2 : Int32)), .val (.int (1 : Int32)), .val (.int qa)] [])) _
    refine XS.iload X4.here hx rfl (hb hby d6_3) rfl ?_
    show Steps p.tables e below (T4.setTop (mkF m 5 #[.val (.ref aa), .val (.int (1 : Int32)), .val (.ref bb), .val (.int (1 : Int32)), .val (.int (2 : Int32)), .val (.int (1 : Int32)), .val (.int qa)] [(.int (1 : Int32))])) _
    refine XS.iload X4.here hx rfl (hb hby d6_5) rfl ?_
    show Steps p.tables e below (T4.setTop (mkF m 7 #[.val (.ref aa), .val (.int (1 : Int32)), .val (.ref bb), .val (.int (1 : Int32)), .val (.int (2 : Int32)), .val (.int (1 : Int32)), .val (.int qa)] [(.int (2 : Int32)), (.int (1 : Int32))])) _
    refine XS.icmpNo X4.here hx rfl (hb hby d6_7) rfl (tlt (by decide)).2.1 ?_
    show Steps p.tables e below (T4.setTop (mkF m 10 #[.val (.ref aa), .val (.int (1 : Int32)), .val (.ref bb), .val (.int (1 : Int32)), .val (.int (2 : Int32)), .val (.int (1 : Int32)), .val (.int qa)] [])) _
    refine XS.aloadN X4.here hx rfl (hb hby d6_10) rfl rfl ?_
    show Steps p.tables e below (T4.setTop (mkF m 11 #[.val (.ref aa), .val (.int (1 : Int32)), .val (.ref bb), .val (.int (1 : Int32)), .val (.int (2 : Int32)), .val (.int (1 : Int32)), .val (.int qa)] [(.ref aa)])) _
    refine XS.iloadN X4.here hx rfl (hb hby d6_11) rfl ?_
    show Steps p.tables e below (T4.setTop (mkF m 12 #[.val (.ref aa), .val (.int (1 : Int32)), .val (.ref bb), .val (.int (1 : Int32)), .val (.int (2 : Int32)), .val (.int (1 : Int32)), .val (.int qa)] [(.int (1 : Int32)), (.ref aa)])) _
    refine X4.caload hx (j := (1 : Int32)) (v := (.int qb)) (by rw [e4]; exact Arq7.1) (State.isArrayOf_alike hZ.alike Arq7.2.1) Arq7.2.2 (inb_of cSq7 ⟨by decide, by decide⟩) (Has.at cHq7 (inb_of cSq7 ⟨by decide, by decide⟩) rfl) (g := (mkF m 12 #[.val (.ref aa), .val (.int (1 : Int32)), .val (.ref bb), .val (.int (1 : Int32)), .val (.int (2 : Int32)), .val (.int (1 : Int32)), .val (.int qa)] [(.int (1 : Int32)), (.ref aa)])) rfl rfl (hb hby d6_12) _ ?_
    show Steps p.tables e below (T4.setTop (mkF m 13 #[.val (.ref aa), .val (.int (1 : Int32)), .val (.ref bb), .val (.int (1 : Int32)), .val (.int (2 : Int32)), .val (.int (1 : Int32)), .val (.int qa)] [(.int qb)])) _
    refine XS.istore X4.here hx rfl (hb hby d6_13) rfl (l' := #[.val (.ref aa), .val (.int (1 : Int32)), .val (.ref bb), .val (.int (1 : Int32)), .val (.int (2 : Int32)), .val (.int (1 : Int32)), .val (.int qb)]) rfl ?_
    show Steps p.tables e below (T4.setTop (mkF m 15 #[.val (.ref aa), .val (.int (1 : Int32)), .val (.ref bb), .val (.int (1 : Int32)), .val (.int (2 : Int32)), .val (.int (1 : Int32)), .val (.int qb)] [])) _
    refine XS.iload X4.here hx rfl (hb hby d6_15) rfl ?_
    show Steps p.tables e below (T4.setTop (mkF m 17 #[.val (.ref aa), .val (.int (1 : Int32)), .val (.ref bb), .val (.int (1 : Int32)), .val (.int (2 : Int32)), .val (.int (1 : Int32)), .val (.int qb)] [(.int qb)])) _
    refine XS.sipush X4.here hx rfl (hb hby d6_17) ?_
    show Steps p.tables e below (T4.setTop (mkF m 20 #[.val (.ref aa), .val (.int (1 : Int32)), .val (.ref bb), .val (.int (1 : Int32)), .val (.int (2 : Int32)), .val (.int (1 : Int32)), .val (.int qb)] [(.int (255 : Int32)), (.int qb)])) _
    refine XS.icmpYes X4.here hx rfl (pc0 := 20) (pc' := 26) rfl (hb hby d6_20) rfl (flt hqb).2.2.2 (by decide) (by decide) ?_
    show Steps p.tables e below (T4.setTop (mkF m 26 #[.val (.ref aa), .val (.int (1 : Int32)), .val (.ref bb), .val (.int (1 : Int32)), .val (.int (2 : Int32)), .val (.int (1 : Int32)), .val (.int qb)] [])) _
    refine XS.aloadN X4.here hx rfl (hb hby d6_26) rfl rfl ?_
    show Steps p.tables e below (T4.setTop (mkF m 27 #[.val (.ref aa), .val (.int (1 : Int32)), .val (.ref bb), .val (.int (1 : Int32)), .val (.int (2 : Int32)), .val (.int (1 : Int32)), .val (.int qb)] [(.ref bb)])) _
    refine XS.iloadN X4.here hx rfl (hb hby d6_27) rfl ?_
    show Steps p.tables e below (T4.setTop (mkF m 28 #[.val (.ref aa), .val (.int (1 : Int32)), .val (.ref bb), .val (.int (1 : Int32)), .val (.int (2 : Int32)), .val (.int (1 : Int32)), .val (.int qb)] [(.int (1 : Int32)), (.ref bb)])) _
    refine XS.iload X4.here hx rfl (hb hby d6_28) rfl ?_
    show Steps p.tables e below (T4.setTop (mkF m 30 #[.val (.ref aa), .val (.int (1 : Int32)), .val (.ref bb), .val (.int (1 : Int32)), .val (.int (2 : Int32)), .val (.int (1 : Int32)), .val (.int qb)] [(.int qb), (.int (1 : Int32)), (.ref bb)])) _
    refine XS.i2b X4.here hx rfl (hb hby d6_30) rfl ?_
    exact kt)
  obtain ⟨clq9, Arq9, ckq9, cSq9, cNq9, cHq9, cGq9⟩ := id V4
  obtain ⟨T10, h10, X10', e10, W10, st10⟩ := stB X4 hx hZ e4 Arq9 (j := (1 : Int32)) (inb_of cSq9 ⟨by decide, by decide⟩) (g := (mkF m 31 #[.val (.ref aa), .val (.int (1 : Int32)), .val (.ref bb), .val (.int (1 : Int32)), .val (.int (2 : Int32)), .val (.int (1 : Int32)), .val (.int qb)] [(.int (qb.toInt8.toInt32)), (.int (1 : Int32)), (.ref bb)])) rfl rfl (hb hby d6_31)
  obtain ⟨lc10, X10, N10⟩ : ∃ lc, Stand p l e ({ frames := 0, cells := 0, slots := 0, locals := 0 } : Room) s m #[(.ref aa), (.int (0 : Int32)), (.ref bb), (.int (0 : Int32)), (.int (2 : Int32))] below meth c T10 lc 0 0 ∧ Fr n0 lc := ⟨_, X10', Fr.snoc X10' N4 pr2⟩
  have V10 : Arv Z h10 bb kb .byte (2 : Int32) [(.int (nar .byte (qa.toInt8.toInt32))), (.int (nar .byte (qb.toInt8.toInt32)))] (.int (0 : Int32)) := Arv.set Arq9 ckq9 cSq9 cNq9 cHq9 cGq9 (fits_nar_byte _) W10 1 rfl (Nat.le_of_ble_eq_true rfl)
  have K11 : Gx p e below s₁ f0 T10 (mkF m 32 #[.val (.ref aa), .val (.int (1 : Int32)), .val (.ref bb), .val (.int (1 : Int32)), .val (.int (2 : Int32)), .val (.int (1 : Int32)), .val (.int qb)] []) := fun t kt => K8 t (st10 t kt)
  have K12 : Gx p e below s₁ f0 T10 (mkF m 46 #[.val (.ref aa), .val (.int (2 : Int32)), .val (.ref bb), .val (.int (2 : Int32)), .val (.int (2 : Int32)), .val (.int (2 : Int32)), .val (.int qb)] [(.int (2 : Int32))]) := fun t kt => K11 t (by
    show Steps p.tables e below (T10.setTop (mkF m 32 #[.val (.ref aa), .val (.int (1 : Int32)), .val (.ref bb), .val (.int (1 : Int32)), .val (.int (2 : Int32)), .val (.int (1 : Int32)), .val (.int qb)] [])) _
    refine XS.iinc X10.here hx rfl (hb hby d6_32) rfl (l' := #[.val (.ref aa), .val (.int (2 : Int32)), .val (.ref bb), .val (.int (1 : Int32)), .val (.int (2 : Int32)), .val (.int (1 : Int32)), .val (.int qb)]) rfl ?_
    show Steps p.tables e below (T10.setTop (mkF m 35 #[.val (.ref aa), .val (.int (2 : Int32)), .val (.ref bb), .val (.int (1 : Int32)), .val (.int (2 : Int32)), .val (.int (1 : Int32)), .val (.int qb)] [])) _
    refine XS.iinc X10.here hx rfl (hb hby d6_35) rfl (l' := #[.val (.ref aa), .val (.int (2 : Int32)), .val (.ref bb), .val (.int (2 : Int32)), .val (.int (2 : Int32)), .val (.int (1 : Int32)), .val (.int qb)]) rfl ?_
    show Steps p.tables e below (T10.setTop (mkF m 38 #[.val (.ref aa), .val (.int (2 : Int32)), .val (.ref bb), .val (.int (2 : Int32)), .val (.int (2 : Int32)), .val (.int (1 : Int32)), .val (.int qb)] [])) _
    refine XS.iinc X10.here hx rfl (hb hby d6_38) rfl (l' := #[.val (.ref aa), .val (.int (2 : Int32)), .val (.ref bb), .val (.int (2 : Int32)), .val (.int (2 : Int32)), .val (.int (2 : Int32)), .val (.int qb)]) rfl ?_
    show Steps p.tables e below (T10.setTop (mkF m 41 #[.val (.ref aa), .val (.int (2 : Int32)), .val (.ref bb), .val (.int (2 : Int32)), .val (.int (2 : Int32)), .val (.int (2 : Int32)), .val (.int qb)] [])) _
    refine XS.goto X10.here hx rfl (pc0 := 41) (pc' := 3) rfl (hb hby d6_41) (by decide) (by decide) ?_
    show Steps p.tables e below (T10.setTop (mkF m 3 #[.val (.ref aa), .val (.int (2 : Int32)), .val (.ref bb), .val (.int (2 : Int32)), .val (.int (2 : Int32)), .val (.int (2 : Int32)), .val (.int qb)] [])) _
    refine XS.iload X10.here hx rfl (hb hby d6_3) rfl ?_
    show Steps p.tables e below (T10.setTop (mkF m 5 #[.val (.ref aa), .val (.int (2 : Int32)), .val (.ref bb), .val (.int (2 : Int32)), .val (.int (2 : Int32)), .val (.int (2 : Int32)), .val (.int qb)] [(.int (2 : Int32))])) _
    refine XS.iload X10.here hx rfl (hb hby d6_5) rfl ?_
    show Steps p.tables e below (T10.setTop (mkF m 7 #[.val (.ref aa), .val (.int (2 : Int32)), .val (.ref bb), .val (.int (2 : Int32)), .val (.int (2 : Int32)), .val (.int (2 : Int32)), .val (.int qb)] [(.int (2 : Int32)), (.int (2 : Int32))])) _
    refine XS.icmpYes X10.here hx rfl (pc0 := 7) (pc' := 44) rfl (hb hby d6_7) rfl (flt (by decide)).2.1 (by decide) (by decide) ?_
    show Steps p.tables e below (T10.setTop (mkF m 44 #[.val (.ref aa), .val (.int (2 : Int32)), .val (.ref bb), .val (.int (2 : Int32)), .val (.int (2 : Int32)), .val (.int (2 : Int32)), .val (.int qb)] [])) _
    refine XS.iload X10.here hx rfl (hb hby d6_44) rfl ?_
    exact kt)
  have kp14 : Keep h0 h10 [bb] := (((Keep.refl h0 [bb]).wr W4 (Or.inl (List.mem_of_getElem? (i := 0) rfl))).wr W10 (Or.inl (List.mem_of_getElem? (i := 0) rfl)))
  obtain ⟨fs13, hr13, hrun13, hended13, hW13, hsame13⟩ := X10.leave (v := some (.int (2 : Int32))) (fun h => by rw [Bd.returns] at h; cases h)
  refine ⟨_, _, pre0 _ (K12 _ ?_), hrun13, hended13, _, _, rfl, ?_, ⟨_, rfl⟩, hW13, hsame13.mono (by decide) (by decide)⟩
  · exact retI X10 hx Bd.returns (hb hby d6_46) hr13
  · show QCm5_2 Z aa bb ka kb qa qb h0 n0 _ T10.heap _
    rw [e10]
    exact ⟨rfl, N10, kp14, V10⟩
theorem ef_Cm3_2 (m : MethodId) (aa : Addr) : entryFrame m #[(.ref aa), (.int (0 : Int32)), (.int (2 : Int32))] 6 = mkF m 0 #[.val (.ref aa), .val (.int (0 : Int32)), .val (.int (2 : Int32)), .unset, .unset, .unset] [] := by first | (simp [entryFrame, mkF, argsToLocals, Value.category]; done) | rfl
def QCm3_2 (Z : State) (aa : Addr) (ka : ClassId) (qa : Int32) (qb : Int32) (h0 : Heap) (n0 : Nat) (v : Option Value) (h : Heap) (L : List Loc) : Prop := ∃ tb : Addr, ∃ tk : ClassId, v = some (.ref tb) ∧ Fr n0 L ∧ Keep h0 h [] ∧ h0.size ≤ tb ∧ Arv Z h tb tk .byte (2 : Int32) [(.int (nar .byte (qa.toInt8.toInt32))), (.int (nar .byte (qb.toInt8.toInt32)))] (.int (0 : Int32))
set_option maxRecDepth 65536 in
set_option maxHeartbeats 40000000 in
theorem rmCm3_2 (l : Launch) (Z : State) (a0 : Array Value) (hw : ∀ d ∈ tables_1, d.before a0 Z = true) (ws : List Jvm.Cond) (aa : Addr) (ka : ClassId) (qa : Int32) (qb : Int32) (h0 : Heap) (n0 : Nat) (Z0 : n0 ≤ h0.size) (pr0 : Arv Z h0 aa ka .char (2 : Int32) [(.int qa), (.int qb)] (.int (0 : Int32))) (hqa : ¬ ((255 : Int32) < qa)) (hqb : ¬ ((255 : Int32) < qb)) :
    MetFree l (⟨"java/lang/StringUTF16", "compress", "([CII)[B"⟩ : MethodName) (head1 (Jvm.Cond.code (⟨"java/lang/StringUTF16", "compress", "([CII)[B"⟩ : MethodName) jdk_52_method_16_code 6 (some (.array .byte)) :: ws) ({ frames := 1, cells := 1, slots := 2, locals := 18 } : Room)) (fun a U => a = #[(.ref aa), (.int (0 : Int32)), (.int (2 : Int32))] ∧ Z.Warmed39 U.vm ∧ U.heap = h0) (fun _ _ _ _ _ => True) (fun _ U o U' => ∃ v L, o = .returned v ∧ QCm3_2 Z aa ka qa qb h0 n0 v U'.heap L ∧ FrameEnd U o U' L ({ frames := 1, cells := 1, slots := 2, locals := 18 } : Room).cells ({ frames := 1, cells := 1, slots := 2, locals := 18 } : Room).slots) := by
  refine MetFree.of_bodySF (plainFor_of_name pn_5) hisR ?_
  intro p e s m args below meth c s₁ Bd hml0 hP hK
  obtain ⟨rfl, hZ, hh⟩ := hP
  have hx := Bd.exec
  have hby := Bd.bytes
  have hml : c.maxLocals = 6 := hml0
  have hown : s.vm.findClass "java/lang/StringUTF16" = some m.cls := findClass_of_methodNamed Bd.named
  have hnm := (name_of_methodNamed Bd.named Bd.method).1
  have X0 : Stand p l e ({ frames := 1, cells := 1, slots := 2, locals := 18 } : Room) s m #[(.ref aa), (.int (0 : Int32)), (.int (2 : Int32))] below meth c s₁ [] 0 0 := Stand.of_body Bd
  have hs0 : h0 = s.heap := hh.symm
  have e0 : s₁.heap = h0 := by rw [← hh, Bd.state]; rfl
  have N0 := Fr.nil n0
  obtain ⟨f0, hf0⟩ : ∃ f, f = entryFrame m #[(.ref aa), (.int (0 : Int32)), (.int (2 : Int32))] 6 := ⟨_, rfl⟩
  have pre0 : ∀ t, Steps p.tables e below (s₁.setTop f0) t → Steps p.tables e below (s₁.setTop (entryFrame m #[(.ref aa), (.int (0 : Int32)), (.int (2 : Int32))] 6)) t := fun t k => hf0 ▸ k
  have K0 : Gx p e below s₁ f0 s₁ (mkF m 0 #[.val (.ref aa), .val (.int (0 : Int32)), .val (.int (2 : Int32)), .unset, .unset, .unset] []) := fun t kt => by rw [hf0]; exact castTop (ef_Cm3_2 m aa) kt
  have K1 : Gx p e below s₁ f0 s₁ (mkF m 1 #[.val (.ref aa), .val (.int (0 : Int32)), .val (.int (2 : Int32)), .unset, .unset, .unset] [(.int (2 : Int32))]) := fun t kt => K0 t (by
    show Steps p.tables e below (s₁.setTop (mkF m 0 #[.val (.ref aa), .val (.int (0 : Int32)), .val (.int (2 : Int32)), .unset, .unset, .unset] [])) _
    refine XS.iloadN X0.here hx rfl (hb hby d5_0) rfl ?_
    exact kt)
  obtain ⟨T2, h2, k2, X2, e2, E2, A2, st2⟩ := newP X0 hx hZ (hw _ (List.mem_of_getElem? (i := 22) rfl)) e0 (g := (mkF m 1 #[.val (.ref aa), .val (.int (0 : Int32)), .val (.int (2 : Int32)), .unset, .unset, .unset] [(.int (2 : Int32))])) rfl (hb hby d5_1) rfl (by decide) (cap := 2) (by decide) (by decide) (by decide) (by decide)
  obtain ⟨b2, g2⟩ : ∃ z, z = h0.size := ⟨_, rfl⟩
  rw [← g2] at A2 st2
  have V2 : Arv Z h2 b2 k2 .byte (2 : Int32) [(.int (0 : Int32)), (.int (0 : Int32))] (.int (0 : Int32)) := (Arv.new A2 (by decide)).pad (pad_rep [] (.int (0 : Int32)) 2)
  have K3 : Gx p e below s₁ f0 T2 (mkF m 3 #[.val (.ref aa), .val (.int (0 : Int32)), .val (.int (2 : Int32)), .unset, .unset, .unset] [(.ref b2)]) := fun t kt => K1 t (st2 t kt)
  have K4 : Gx p e below s₁ f0 T2 (mkF m 9 #[.val (.ref aa), .val (.int (0 : Int32)), .val (.int (2 : Int32)), .val (.ref b2), .unset, .unset] [(.int (2 : Int32)), (.int (0 : Int32)), (.ref b2), (.int (0 : Int32)), (.ref aa)]) := fun t kt => K3 t (by
    show Steps p.tables e below (T2.setTop (mkF m 3 #[.val (.ref aa), .val (.int (0 : Int32)), .val (.int (2 : Int32)), .unset, .unset, .unset] [(.ref b2)])) _
    refine XS.astoreN X2.here hx rfl (hb hby d5_3) rfl rfl (l' := #[.val (.ref aa), .val (.int (0 : Int32)), .val (.int (2 : Int32)), .val (.ref b2), .unset, .unset]) rfl ?_
    show Steps p.tables e below (T2.setTop (mkF m 4 #[.val (.ref aa), .val (.int (0 : Int32)), .val (.int (2 : Int32)), .val (.ref b2), .unset, .unset] [])) _
    refine XS.aloadN X2.here hx rfl (hb hby d5_4) rfl rfl ?_
    show Steps p.tables e below (T2.setTop (mkF m 5 #[.val (.ref aa), .val (.int (0 : Int32)), .val (.int (2 : Int32)), .val (.ref b2), .unset, .unset] [(.ref aa)])) _
    refine XS.iloadN X2.here hx rfl (hb hby d5_5) rfl ?_
    show Steps p.tables e below (T2.setTop (mkF m 6 #[.val (.ref aa), .val (.int (0 : Int32)), .val (.int (2 : Int32)), .val (.ref b2), .unset, .unset] [(.int (0 : Int32)), (.ref aa)])) _
    refine XS.aloadN X2.here hx rfl (hb hby d5_6) rfl rfl ?_
    show Steps p.tables e below (T2.setTop (mkF m 7 #[.val (.ref aa), .val (.int (0 : Int32)), .val (.int (2 : Int32)), .val (.ref b2), .unset, .unset] [(.ref b2), (.int (0 : Int32)), (.ref aa)])) _
    refine XS.iconst X2.here hx rfl (hb hby d5_7) ?_
    show Steps p.tables e below (T2.setTop (mkF m 8 #[.val (.ref aa), .val (.int (0 : Int32)), .val (.int (2 : Int32)), .val (.ref b2), .unset, .unset] [(.int (0 : Int32)), (.ref b2), (.int (0 : Int32)), (.ref aa)])) _
    refine XS.iloadN X2.here hx rfl (hb hby d5_8) rfl ?_
    exact kt)
  have f5 : Arv Z h2 aa ka .char (2 : Int32) [(.int qa), (.int qb)] (.int (0 : Int32)) := (pr0.ext E2)
  have kp6 : Keep h0 h2 [] := ((Keep.refl h0 []).ext E2)
  obtain ⟨_, _, ⟨T7, L7, k7, n7⟩, -, X7', ⟨Lc7, hQ7, l7, y7, z7⟩, st7⟩ := Jvm.LawKit.callS X2 hx (y := (⟨"java/lang/StringUTF16", "compress", "([CI[BII)I"⟩ : MethodName)) hown (mvT hZ (hw _ (List.mem_of_getElem? (i := 34) rfl))) (mvT hZ (hw _ (List.mem_of_getElem? (i := 35) rfl))) (mvT hZ (hw _ (List.mem_of_getElem? (i := 32) rfl))) (mvT hZ (hw _ (List.mem_of_getElem? (i := 36) rfl))) (by decide) (backOf (W := 0) (rmCm5_2 l Z a0 hw [] aa b2 ka k2 qa qb h2 n0 (Nat.le_trans Z0 kp6.1) f5 V2 (Nat.le_trans Z0 (Nat.le_trans (Keep.refl h0 []).1 (Nat.le_of_eq g2.symm))) (Nat.ne_of_lt (Nat.lt_of_lt_of_le pr0.lt (Nat.le_of_eq g2.symm))) hqa hqb) hZ (hw _ (List.mem_of_getElem? (i := 36) rfl)) (hw _ (List.mem_of_getElem? (i := 32) rfl)) (by decide) (by decide)) (g := (mkF m 9 #[.val (.ref aa), .val (.int (0 : Int32)), .val (.int (2 : Int32)), .val (.ref b2), .unset, .unset] [(.int (2 : Int32)), (.int (0 : Int32)), (.ref b2), (.int (0 : Int32)), (.ref aa)])) rfl (by rw [hml]; rfl) (argsL := [(.ref aa), (.int (0 : Int32)), (.ref b2), (.int (0 : Int32)), (.int (2 : Int32))]) (rest := []) (lenOf pd___CI_BII_I rfl) rfl (by show 2 * 0 + _ ≤ _; exact Nat.le_of_eq rfl) (hb hby d5_9) (fun _ _ => ⟨rfl, e2, (by decide : 1 + 0 ≤ _), (by decide : 2 + 0 ≤ _)⟩)
  dsimp only [Pt.U, Pt.locs, Pt.cells, Pt.slots] at X7' l7 y7 z7 st7 hQ7
  subst l7 y7 z7
  obtain ⟨h7, e7⟩ : ∃ z, T7.heap = z := ⟨_, rfl⟩
  rw [e7] at hQ7
  obtain ⟨rfl, N7q, Kc7, f8⟩ := hQ7
  obtain ⟨lc7, X7, N7⟩ : ∃ lc, Stand p l e ({ frames := 1, cells := 1, slots := 2, locals := 18 } : Room) s m #[(.ref aa), (.int (0 : Int32)), (.int (2 : Int32))] below meth c T7 lc 1 2 ∧ Fr n0 lc := ⟨_, X7', Fr.app N0 N7q⟩
  have K9 : Gx p e below s₁ f0 T7 (mkF m 12 #[.val (.ref aa), .val (.int (0 : Int32)), .val (.int (2 : Int32)), .val (.ref b2), .unset, .unset] [(.int (2 : Int32))]) := fun t kt => K4 t (st7 t kt)
  have K10 : Gx p e below s₁ f0 T7 (mkF m 58 #[.val (.ref aa), .val (.int (0 : Int32)), .val (.int (2 : Int32)), .val (.ref b2), .val (.int (2 : Int32)), .unset] [(.ref b2)]) := fun t kt => K9 t (by
    show Steps p.tables e below (T7.setTop (mkF m 12 #[.val (.ref aa), .val (.int (0 : Int32)), .val (.int (2 : Int32)), .val (.ref b2), .unset, .unset] [(.int (2 : Int32))])) _
    refine XS.istore X7.here hx rfl (hb hby d5_12) rfl (l' := #[.val (.ref aa), .val (.int (0 : Int32)), .val (.int (2 : Int32)), .val (.ref b2), .val (.int (2 : Int32)), .unset]) rfl ?_
    show Steps p.tables e below (T7.setTop (mkF m 14 #[.val (.ref aa), .val (.int (0 : Int32)), .val (.int (2 : Int32)), .val (.ref b2), .val (.int (2 : Int32)), .unset] [])) _
    refine XS.iload X7.here hx rfl (hb hby d5_14) rfl ?_
    show Steps p.tables e below (T7.setTop (mkF m 16 #[.val (.ref aa), .val (.int (0 : Int32)), .val (.int (2 : Int32)), .val (.ref b2), .val (.int (2 : Int32)), .unset] [(.int (2 : Int32))])) _
    refine XS.iloadN X7.here hx rfl (hb hby d5_16) rfl ?_
    show Steps p.tables e below (T7.setTop (mkF m 17 #[.val (.ref aa), .val (.int (0 : Int32)), .val (.int (2 : Int32)), .val (.ref b2), .val (.int (2 : Int32)), .unset] [(.int (2 : Int32)), (.int (2 : Int32))])) _
    refine XS.icmpYes X7.here hx rfl (pc0 := 17) (pc' := 57) rfl (hb hby d5_17) rfl (teq (by decide)).1 (by decide) (by decide) ?_
    show Steps p.tables e below (T7.setTop (mkF m 57 #[.val (.ref aa), .val (.int (0 : Int32)), .val (.int (2 : Int32)), .val (.ref b2), .val (.int (2 : Int32)), .unset] [])) _
    refine XS.aloadN X7.here hx rfl (hb hby d5_57) rfl rfl ?_
    exact kt)
  have kp12 : Keep h0 h7 [] := (Keep.trans kp6 Kc7 (allS (Or.inr (Nat.le_trans (Keep.refl h0 []).1 (Nat.le_of_eq g2.symm))) all0))
  obtain ⟨fs11, hr11, hrun11, hended11, hW11, hsame11⟩ := X7.leave (v := some (.ref b2)) (fun h => by rw [Bd.returns] at h; cases h)
  refine ⟨_, _, pre0 _ (K10 _ ?_), hrun11, hended11, _, _, rfl, ?_, ⟨_, rfl⟩, hW11, hsame11.mono (by decide) (by decide)⟩
  · show Steps p.tables e below (T7.setTop (mkF m 58 #[.val (.ref aa), .val (.int (0 : Int32)), .val (.int (2 : Int32)), .val (.ref b2), .val (.int (2 : Int32)), .unset] [(.ref b2)])) _
    jvm_step X7.here [X7.here.top, hx, (hb hby d5_58), X7.method', Bd.returns, Value.isRef, FieldType.isReference]
    first | (intro acts; rw [hr11 _ acts rfl rfl rfl]) | rw [hr11 _ _ rfl rfl rfl]
    exact Steps.refl _
  · show QCm3_2 Z aa ka qa qb h0 n0 _ T7.heap _
    rw [e7]
    exact ⟨b2, k2, rfl, N7, kp12, (Nat.le_trans (Keep.refl h0 []).1 (Nat.le_of_eq g2.symm)), f8⟩
theorem ef_Cdr_2 (m : MethodId) (aa : Addr) : entryFrame m #[(.ref aa), (.int (2 : Int32))] 2 = mkF m 0 #[.val (.ref aa), .val (.int (2 : Int32))] [] := by first | (simp [entryFrame, mkF, argsToLocals, Value.category]; done) | rfl
def QCdr_2 (Z : State) (aa : Addr) (ka : ClassId) (xs_ : List Value) (h0 : Heap) (n0 : Nat) (v : Option Value) (h : Heap) (L : List Loc) : Prop := v = some (.int (0 : Int32)) ∧ Fr n0 L ∧ h = h0
set_option maxRecDepth 65536 in
set_option maxHeartbeats 40000000 in
theorem rmCdr_2 (l : Launch) (Z : State) (a0 : Array Value) (hw : ∀ d ∈ tables_1, d.before a0 Z = true) (ws : List Jvm.Cond) (aa : Addr) (ka : ClassId) (xs_ : List Value) (h0 : Heap) (n0 : Nat) (Z0 : n0 ≤ h0.size) (pr0 : Arv Z h0 aa ka .byte (2 : Int32) xs_ (.int (0 : Int32))) :
    MetFree l (⟨"java/lang/StringUTF16", "coderFromArrayLen", "([BI)B"⟩ : MethodName) (head1 (Jvm.Cond.code (⟨"java/lang/StringUTF16", "coderFromArrayLen", "([BI)B"⟩ : MethodName) jdk_52_method_15_code 2 (some .byte) :: ws) ({ frames := 0, cells := 0, slots := 0, locals := 0 } : Room)) (fun a U => a = #[(.ref aa), (.int (2 : Int32))] ∧ Z.Warmed39 U.vm ∧ U.heap = h0) (fun _ _ _ _ _ => True) (fun _ U o U' => ∃ v L, o = .returned v ∧ QCdr_2 Z aa ka xs_ h0 n0 v U'.heap L ∧ FrameEnd U o U' L ({ frames := 0, cells := 0, slots := 0, locals := 0 } : Room).cells ({ frames := 0, cells := 0, slots := 0, locals := 0 } : Room).slots) := by
  refine MetFree.of_bodySF (plainFor_of_name pn_7) hisR ?_
  intro p e s m args below meth c s₁ Bd hml0 hP hK
  obtain ⟨rfl, hZ, hh⟩ := hP
  have hx := Bd.exec
  have hby := Bd.bytes
  have hml : c.maxLocals = 2 := hml0
  have hown : s.vm.findClass "java/lang/StringUTF16" = some m.cls := findClass_of_methodNamed Bd.named
  have hnm := (name_of_methodNamed Bd.named Bd.method).1
  have X0 : Stand p l e ({ frames := 0, cells := 0, slots := 0, locals := 0 } : Room) s m #[(.ref aa), (.int (2 : Int32))] below meth c s₁ [] 0 0 := Stand.of_body Bd
  have hs0 : h0 = s.heap := hh.symm
  have e0 : s₁.heap = h0 := by rw [← hh, Bd.state]; rfl
  have N0 := Fr.nil n0
  obtain ⟨f0, hf0⟩ : ∃ f, f = entryFrame m #[(.ref aa), (.int (2 : Int32))] 2 := ⟨_, rfl⟩
  have pre0 : ∀ t, Steps p.tables e below (s₁.setTop f0) t → Steps p.tables e below (s₁.setTop (entryFrame m #[(.ref aa), (.int (2 : Int32))] 2)) t := fun t k => hf0 ▸ k
  have K0 : Gx p e below s₁ f0 s₁ (mkF m 0 #[.val (.ref aa), .val (.int (2 : Int32))] []) := fun t kt => by rw [hf0]; exact castTop (ef_Cdr_2 m aa) kt
  obtain ⟨clq1, Arq1, ckq1, cSq1, cNq1, cHq1, cGq1⟩ := id pr0
  have K2 : Gx p e below s₁ f0 s₁ (mkF m 8 #[.val (.ref aa), .val (.int (2 : Int32))] [(.int ((((0 : Int32).toUInt32 >>> ((31 : Int32) &&& 31).toUInt32).toInt32).toInt8.toInt32))]) := fun t kt => K0 t (by
    show Steps p.tables e below (s₁.setTop (mkF m 0 #[.val (.ref aa), .val (.int (2 : Int32))] [])) _
    refine XS.iloadN X0.here hx rfl (hb hby d7_0) rfl ?_
    show Steps p.tables e below (s₁.setTop (mkF m 1 #[.val (.ref aa), .val (.int (2 : Int32))] [(.int (2 : Int32))])) _
    refine XS.aloadN X0.here hx rfl (hb hby d7_1) rfl rfl ?_
    show Steps p.tables e below (s₁.setTop (mkF m 2 #[.val (.ref aa), .val (.int (2 : Int32))] [(.ref aa), (.int (2 : Int32))])) _
    refine X0.arraylength hx (by rw [e0]; exact Arq1.1) (State.isArrayOf_alike hZ.alike Arq1.2.1) (g := (mkF m 2 #[.val (.ref aa), .val (.int (2 : Int32))] [(.ref aa), (.int (2 : Int32))])) rfl rfl (hb hby d7_2) _ ?_
    rw [len_of cSq1 cNq1]
    show Steps p.tables e below (s₁.setTop (mkF m 3 #[.val (.ref aa), .val (.int (2 : Int32))] [(.int (2 : Int32)), (.int (2 : Int32))])) _
    refine XS.isub X0.here hx rfl (hb hby d7_3) rfl ?_
    show Steps p.tables e below (s₁.setTop (mkF m 4 #[.val (.ref aa), .val (.int (2 : Int32))] [(.int (0 : Int32))])) _
    refine XS.bipush X0.here hx rfl (hb hby d7_4) ?_
    show Steps p.tables e below (s₁.setTop (mkF m 6 #[.val (.ref aa), .val (.int (2 : Int32))] [(.int (31 : Int32)), (.int (0 : Int32))])) _
    refine XS.iushr X0.here hx rfl (hb hby d7_6) rfl ?_
    show Steps p.tables e below (s₁.setTop (mkF m 7 #[.val (.ref aa), .val (.int (2 : Int32))] [(.int (((0 : Int32).toUInt32 >>> ((31 : Int32) &&& 31).toUInt32).toInt32))])) _
    refine XS.i2b X0.here hx rfl (hb hby d7_7) rfl ?_
    exact kt)
  rw [(by decide : ((((0 : Int32).toUInt32 >>> ((31 : Int32) &&& 31).toUInt32).toInt32).toInt8.toInt32) = (0 : Int32))] at K2
  obtain ⟨fs3, hr3, hrun3, hended3, hW3, hsame3⟩ := X0.leave (v := some (.int (0 : Int32))) (fun h => by rw [Bd.returns] at h; cases h)
  refine ⟨_, _, pre0 _ (K2 _ ?_), hrun3, hended3, _, _, rfl, ?_, ⟨_, rfl⟩, hW3, hsame3.mono (by decide) (by decide)⟩
  · exact retN X0 hx (t := .byte) Bd.returns (by simp) (hb hby d7_8) hr3
  · show QCdr_2 Z aa ka xs_ h0 n0 _ s₁.heap _
    rw [e0]
    exact ⟨rfl, N0, rfl⟩
theorem ef_In4_2 (m : MethodId) (a1 : Addr) (aa : Addr) : entryFrame m #[(.ref a1), (.ref aa), (.int (0 : Int32)), (.int (2 : Int32)), .null] 6 = mkF m 0 #[.val (.ref a1), .val (.ref aa), .val (.int (0 : Int32)), .val (.int (2 : Int32)), .val .null, .unset] [] := by first | (simp [entryFrame, mkF, argsToLocals, Value.category]; done) | rfl
def QIn4_2 (Z : State) (a1 : Addr) (aa : Addr) (ka : ClassId) (qa : Int32) (qb : Int32) (cw : Int32) (h0 : Heap) (n0 : Nat) (v : Option Value) (h : Heap) (L : List Loc) : Prop := ∃ tb : Addr, ∃ tk : ClassId, v = none ∧ Fr n0 L ∧ Keep h0 h [a1] ∧ h0.size ≤ tb ∧ Exa Z h a1 "java/lang/String" ∧ Fld Z h a1 "java/lang/String" "coder" "B" (.int (0 : Int32)) ∧ Fld Z h a1 "java/lang/String" "value" "[B" (.ref tb) ∧ Arv Z h tb tk .byte (2 : Int32) [(.int (nar .byte (qa.toInt8.toInt32))), (.int (nar .byte (qb.toInt8.toInt32)))] (.int (0 : Int32))
set_option maxRecDepth 65536 in
set_option maxHeartbeats 40000000 in
theorem rmIn4_2 (l : Launch) (Z : State) (a0 : Array Value) (hw : ∀ d ∈ tables_1, d.before a0 Z = true) (ws : List Jvm.Cond) (a1 : Addr) (aa : Addr) (ka : ClassId) (qa : Int32) (qb : Int32) (cw : Int32) (h0 : Heap) (n0 : Nat) (Z0 : n0 ≤ h0.size) (pr0 : Exa Z h0 a1 "java/lang/String") (pr1 : n0 ≤ a1) (pr2 : Fld Z h0 a1 "java/lang/String" "value" "[B" .null) (pr3 : Fld Z h0 a1 "java/lang/String" "coder" "B" (.int (0 : Int32))) (pr4 : Arv Z h0 aa ka .char (2 : Int32) [(.int qa), (.int qb)] (.int (0 : Int32))) (hqa : ¬ ((255 : Int32) < qa)) (hqb : ¬ ((255 : Int32) < qb)) (pr7 : Old Z n0 h0) (pr8 : Sta Z Z.heap "java/lang/String" "COMPACT_STRINGS" "Z" (.int cw)) (hcw : ¬ (cw = (0 : Int32))) :
    MetFree l (⟨"java/lang/String", "<init>", "([CIILjava/lang/Void;)V"⟩ : MethodName) (head1 (Jvm.Cond.code (⟨"java/lang/String", "<init>", "([CIILjava/lang/Void;)V"⟩ : MethodName) jdk_42_method_149_code 6 none :: ws) ({ frames := 2, cells := 1, slots := 2, locals := 35 } : Room)) (fun a U => a = #[(.ref a1), (.ref aa), (.int (0 : Int32)), (.int (2 : Int32)), .null] ∧ Z.Warmed39 U.vm ∧ U.heap = h0) (fun _ _ _ _ _ => True) (fun _ U o U' => ∃ v L, o = .returned v ∧ QIn4_2 Z a1 aa ka qa qb cw h0 n0 v U'.heap L ∧ FrameEnd U o U' L ({ frames := 2, cells := 1, slots := 2, locals := 35 } : Room).cells ({ frames := 2, cells := 1, slots := 2, locals := 35 } : Room).slots) := by
  refine MetFree.of_bodySF (plainFor_of_name pn_3) hisR ?_
  intro p e s m args below meth c s₁ Bd hml0 hP hK
  obtain ⟨rfl, hZ, hh⟩ := hP
  have hx := Bd.exec
  have hby := Bd.bytes
  have hml : c.maxLocals = 6 := hml0
  have hown : s.vm.findClass "java/lang/String" = some m.cls := findClass_of_methodNamed Bd.named
  have hnm := (name_of_methodNamed Bd.named Bd.method).1
  have X0 : Stand p l e ({ frames := 2, cells := 1, slots := 2, locals := 35 } : Room) s m #[(.ref a1), (.ref aa), (.int (0 : Int32)), (.int (2 : Int32)), .null] below meth c s₁ [] 0 0 := Stand.of_body Bd
  have hs0 : h0 = s.heap := hh.symm
  have e0 : s₁.heap = h0 := by rw [← hh, Bd.state]; rfl
  have N0 := Fr.nil n0
  obtain ⟨f0, hf0⟩ : ∃ f, f = entryFrame m #[(.ref a1), (.ref aa), (.int (0 : Int32)), (.int (2 : Int32)), .null] 6 := ⟨_, rfl⟩
  have pre0 : ∀ t, Steps p.tables e below (s₁.setTop f0) t → Steps p.tables e below (s₁.setTop (entryFrame m #[(.ref a1), (.ref aa), (.int (0 : Int32)), (.int (2 : Int32)), .null] 6)) t := fun t k => hf0 ▸ k
  have K0 : Gx p e below s₁ f0 s₁ (mkF m 0 #[.val (.ref a1), .val (.ref aa), .val (.int (0 : Int32)), .val (.int (2 : Int32)), .val .null, .unset] []) := fun t kt => by rw [hf0]; exact castTop (ef_In4_2 m a1 aa) kt
  have K1 : Gx p e below s₁ f0 s₁ (mkF m 1 #[.val (.ref a1), .val (.ref aa), .val (.int (0 : Int32)), .val (.int (2 : Int32)), .val .null, .unset] [(.ref a1)]) := fun t kt => K0 t (by
    show Steps p.tables e below (s₁.setTop (mkF m 0 #[.val (.ref a1), .val (.ref aa), .val (.int (0 : Int32)), .val (.int (2 : Int32)), .val .null, .unset] [])) _
    refine XS.aloadN X0.here hx rfl (hb hby d3_0) rfl rfl ?_
    exact kt)
  obtain ⟨T2, X2, e2, st2⟩ := initO X0 hx hZ hown (hw _ (List.mem_of_getElem? (i := 18) rfl)) (hw _ (List.mem_of_getElem? (i := 19) rfl)) (hw _ (List.mem_of_getElem? (i := 20) rfl)) e0 (g := (mkF m 1 #[.val (.ref a1), .val (.ref aa), .val (.int (0 : Int32)), .val (.int (2 : Int32)), .val .null, .unset] [(.ref a1)])) rfl (by rw [hml]; rfl) rfl (hb hby d3_1) (by decide) (W := 0) (by show 2 * 0 + _ ≤ _; exact Nat.le_of_eq rfl) (by decide)
  have K3 : Gx p e below s₁ f0 T2 (mkF m 4 #[.val (.ref a1), .val (.ref aa), .val (.int (0 : Int32)), .val (.int (2 : Int32)), .val .null, .unset] []) := fun t kt => K1 t (st2 t kt)
  have K4 : Gx p e below s₁ f0 T2 (mkF m 27 #[.val (.ref a1), .val (.ref aa), .val (.int (0 : Int32)), .val (.int (2 : Int32)), .val .null, .unset] []) := fun t kt => K3 t (by
    show Steps p.tables e below (T2.setTop (mkF m 4 #[.val (.ref a1), .val (.ref aa), .val (.int (0 : Int32)), .val (.int (2 : Int32)), .val .null, .unset] [])) _
    refine XS.iloadN X2.here hx rfl (hb hby d3_4) rfl ?_
    show Steps p.tables e below (T2.setTop (mkF m 5 #[.val (.ref a1), .val (.ref aa), .val (.int (0 : Int32)), .val (.int (2 : Int32)), .val .null, .unset] [(.int (2 : Int32))])) _
    refine XS.ifYes X2.here hx rfl (pc0 := 5) (pc' := 27) rfl (hb hby d3_5) rfl ((if0 _ _).trans (feq (by decide)).2) (by decide) (by decide) ?_
    exact kt)
  have f5 : Sta Z h0 "java/lang/String" "COMPACT_STRINGS" "Z" (.int cw) := Sta.ext pr7.2 pr8
  obtain ⟨T6, X6, e6, st6⟩ := getS2 X2 hx hZ hown (host := "") (Or.inl (hw _ (List.mem_of_getElem? (i := 29) rfl))) Via.refl e2 f5 (g := (mkF m 27 #[.val (.ref a1), .val (.ref aa), .val (.int (0 : Int32)), .val (.int (2 : Int32)), .val .null, .unset] [])) rfl (hb hby d3_27)
  have K7 : Gx p e below s₁ f0 T6 (mkF m 30 #[.val (.ref a1), .val (.ref aa), .val (.int (0 : Int32)), .val (.int (2 : Int32)), .val .null, .unset] [(.int cw)]) := fun t kt => K4 t (st6 t kt)
  have K8 : Gx p e below s₁ f0 T6 (mkF m 36 #[.val (.ref a1), .val (.ref aa), .val (.int (0 : Int32)), .val (.int (2 : Int32)), .val .null, .unset] [(.int (2 : Int32)), (.int (0 : Int32)), (.ref aa)]) := fun t kt => K7 t (by
    show Steps p.tables e below (T6.setTop (mkF m 30 #[.val (.ref a1), .val (.ref aa), .val (.int (0 : Int32)), .val (.int (2 : Int32)), .val .null, .unset] [(.int cw)])) _
    refine XS.ifNo X6.here hx rfl (hb hby d3_30) rfl ((if0 _ _).trans (feq hcw).1) ?_
    show Steps p.tables e below (T6.setTop (mkF m 33 #[.val (.ref a1), .val (.ref aa), .val (.int (0 : Int32)), .val (.int (2 : Int32)), .val .null, .unset] [])) _
    refine XS.aloadN X6.here hx rfl (hb hby d3_33) rfl rfl ?_
    show Steps p.tables e below (T6.setTop (mkF m 34 #[.val (.ref a1), .val (.ref aa), .val (.int (0 : Int32)), .val (.int (2 : Int32)), .val .null, .unset] [(.ref aa)])) _
    refine XS.iloadN X6.here hx rfl (hb hby d3_34) rfl ?_
    show Steps p.tables e below (T6.setTop (mkF m 35 #[.val (.ref a1), .val (.ref aa), .val (.int (0 : Int32)), .val (.int (2 : Int32)), .val .null, .unset] [(.int (0 : Int32)), (.ref aa)])) _
    refine XS.iloadN X6.here hx rfl (hb hby d3_35) rfl ?_
    exact kt)
  obtain ⟨_, _, ⟨T9, L9, k9, n9⟩, -, X9', ⟨Lc9, hQ9, l9, y9, z9⟩, st9⟩ := Jvm.LawKit.callS X6 hx (y := (⟨"java/lang/StringUTF16", "compress", "([CII)[B"⟩ : MethodName)) hown (mvT hZ (hw _ (List.mem_of_getElem? (i := 30) rfl))) (mvT hZ (hw _ (List.mem_of_getElem? (i := 31) rfl))) (mvT hZ (hw _ (List.mem_of_getElem? (i := 32) rfl))) (mvT hZ (hw _ (List.mem_of_getElem? (i := 33) rfl))) (by decide) (backOf (W := 0) (rmCm3_2 l Z a0 hw [] aa ka qa qb h0 n0 (Nat.le_trans Z0 (Keep.refl h0 [a1]).1) pr4 hqa hqb) hZ (hw _ (List.mem_of_getElem? (i := 33) rfl)) (hw _ (List.mem_of_getElem? (i := 32) rfl)) (by decide) (by decide)) (g := (mkF m 36 #[.val (.ref a1), .val (.ref aa), .val (.int (0 : Int32)), .val (.int (2 : Int32)), .val .null, .unset] [(.int (2 : Int32)), (.int (0 : Int32)), (.ref aa)])) rfl (by rw [hml]; rfl) (argsL := [(.ref aa), (.int (0 : Int32)), (.int (2 : Int32))]) (rest := []) (lenOf pd___CII__B rfl) rfl (by show 2 * 0 + _ ≤ _; exact Nat.le_of_eq rfl) (hb hby d3_36) (fun _ _ => ⟨rfl, e6, (by decide : 0 + 1 ≤ _), (by decide : 0 + 2 ≤ _)⟩)
  dsimp only [Pt.U, Pt.locs, Pt.cells, Pt.slots] at X9' l9 y9 z9 st9 hQ9
  subst l9 y9 z9
  obtain ⟨h9, e9⟩ : ∃ z, T9.heap = z := ⟨_, rfl⟩
  rw [e9] at hQ9
  obtain ⟨tb_9, tk_9, rfl, N9q, Kc9, f10, f11⟩ := hQ9
  obtain ⟨lc9, X9, N9⟩ : ∃ lc, Stand p l e ({ frames := 2, cells := 1, slots := 2, locals := 35 } : Room) s m #[(.ref a1), (.ref aa), (.int (0 : Int32)), (.int (2 : Int32)), .null] below meth c T9 lc 1 2 ∧ Fr n0 lc := ⟨_, X9', Fr.app N0 N9q⟩
  have K12 : Gx p e below s₁ f0 T9 (mkF m 39 #[.val (.ref a1), .val (.ref aa), .val (.int (0 : Int32)), .val (.int (2 : Int32)), .val .null, .unset] [(.ref tb_9)]) := fun t kt => K8 t (st9 t kt)
  have K13 : Gx p e below s₁ f0 T9 (mkF m 45 #[.val (.ref a1), .val (.ref aa), .val (.int (0 : Int32)), .val (.int (2 : Int32)), .val .null, .val (.ref tb_9)] [(.int (2 : Int32)), (.ref tb_9), (.ref a1)]) := fun t kt => K12 t (by
    show Steps p.tables e below (T9.setTop (mkF m 39 #[.val (.ref a1), .val (.ref aa), .val (.int (0 : Int32)), .val (.int (2 : Int32)), .val .null, .unset] [(.ref tb_9)])) _
    refine XS.astore X9.here hx rfl (hb hby d3_39) rfl rfl (l' := #[.val (.ref a1), .val (.ref aa), .val (.int (0 : Int32)), .val (.int (2 : Int32)), .val .null, .val (.ref tb_9)]) rfl ?_
    show Steps p.tables e below (T9.setTop (mkF m 41 #[.val (.ref a1), .val (.ref aa), .val (.int (0 : Int32)), .val (.int (2 : Int32)), .val .null, .val (.ref tb_9)] [])) _
    refine XS.aloadN X9.here hx rfl (hb hby d3_41) rfl rfl ?_
    show Steps p.tables e below (T9.setTop (mkF m 42 #[.val (.ref a1), .val (.ref aa), .val (.int (0 : Int32)), .val (.int (2 : Int32)), .val .null, .val (.ref tb_9)] [(.ref a1)])) _
    refine XS.aload X9.here hx rfl (hb hby d3_42) rfl rfl ?_
    show Steps p.tables e below (T9.setTop (mkF m 44 #[.val (.ref a1), .val (.ref aa), .val (.int (0 : Int32)), .val (.int (2 : Int32)), .val .null, .val (.ref tb_9)] [(.ref tb_9), (.ref a1)])) _
    refine XS.iloadN X9.here hx rfl (hb hby d3_44) rfl ?_
    exact kt)
  have kp14 : Keep h0 h9 [a1] := (Keep.trans (Keep.refl h0 [a1]) Kc9 all0)
  obtain ⟨_, _, ⟨T15, L15, k15, n15⟩, -, X15', ⟨Lc15, hQ15, l15, y15, z15⟩, st15⟩ := Jvm.LawKit.callS X9 hx (y := (⟨"java/lang/StringUTF16", "coderFromArrayLen", "([BI)B"⟩ : MethodName)) hown (mvT hZ (hw _ (List.mem_of_getElem? (i := 37) rfl))) (mvT hZ (hw _ (List.mem_of_getElem? (i := 38) rfl))) (mvT hZ (hw _ (List.mem_of_getElem? (i := 32) rfl))) (mvT hZ (hw _ (List.mem_of_getElem? (i := 39) rfl))) (by decide) (backOf (W := 1) (rmCdr_2 l Z a0 hw [] tb_9 tk_9 [(.int (nar .byte (qa.toInt8.toInt32))), (.int (nar .byte (qb.toInt8.toInt32)))] h9 n0 (Nat.le_trans Z0 kp14.1) f11) hZ (hw _ (List.mem_of_getElem? (i := 39) rfl)) (hw _ (List.mem_of_getElem? (i := 32) rfl)) (by decide) (by decide)) (g := (mkF m 45 #[.val (.ref a1), .val (.ref aa), .val (.int (0 : Int32)), .val (.int (2 : Int32)), .val .null, .val (.ref tb_9)] [(.int (2 : Int32)), (.ref tb_9), (.ref a1)])) rfl (by rw [hml]; rfl) (argsL := [(.ref tb_9), (.int (2 : Int32))]) (rest := [(.ref a1)]) (lenOf pd___BI_B rfl) rfl (by show 2 * 0 + _ ≤ _; exact Nat.le_of_eq rfl) (hb hby d3_45) (fun _ _ => ⟨rfl, e9, (by decide : 1 + 0 ≤ _), (by decide : 2 + 0 ≤ _)⟩)
  dsimp only [Pt.U, Pt.locs, Pt.cells, Pt.slots] at X15' l15 y15 z15 st15 hQ15
  subst l15 y15 z15
  obtain ⟨rfl, N15q, e15⟩ := hQ15
  obtain ⟨lc15, X15, N15⟩ : ∃ lc, Stand p l e ({ frames := 2, cells := 1, slots := 2, locals := 35 } : Room) s m #[(.ref a1), (.ref aa), (.int (0 : Int32)), (.int (2 : Int32)), .null] below meth c T15 lc 1 2 ∧ Fr n0 lc := ⟨_, X15', Fr.app N9 N15q⟩
  have K16 : Gx p e below s₁ f0 T15 (mkF m 48 #[.val (.ref a1), .val (.ref aa), .val (.int (0 : Int32)), .val (.int (2 : Int32)), .val .null, .val (.ref tb_9)] [(.int (0 : Int32)), (.ref a1)]) := fun t kt => K13 t (st15 t kt)
  have f17 : Fld Z h9 a1 "java/lang/String" "coder" "B" (.int (0 : Int32)) := (pr3.keep Kc9 nin0)
  have f18 : Exa Z h9 a1 "java/lang/String" := (pr0.keep Kc9)
  obtain ⟨T19, h19, X19', e19, W19, st19⟩ := putFN X15 hx hZ hown (hw _ (List.mem_of_getElem? (i := 28) rfl)) Via.refl e15 f17 f18 (Or.inr ⟨(hw _ (List.mem_of_getElem? (i := 24) rfl)), rfl, hnm⟩) (hw _ (List.mem_of_getElem? (i := 8) rfl)) (ty := .byte) (v := (.int (0 : Int32))) (v' := (.int (0 : Int32))) (by decide) rfl (by decide) (g := (mkF m 48 #[.val (.ref a1), .val (.ref aa), .val (.int (0 : Int32)), .val (.int (2 : Int32)), .val .null, .val (.ref tb_9)] [(.int (0 : Int32)), (.ref a1)])) rfl rfl (hb hby d3_48)
  obtain ⟨lc19, X19, N19⟩ : ∃ lc, Stand p l e ({ frames := 2, cells := 1, slots := 2, locals := 35 } : Room) s m #[(.ref a1), (.ref aa), (.int (0 : Int32)), (.int (2 : Int32)), .null] below meth c T19 lc 1 2 ∧ Fr n0 lc := ⟨_, X19', Fr.snoc X19' N15 pr1⟩
  have f19_ : Fld Z h19 a1 "java/lang/String" "coder" "B" (.int (0 : Int32)) := f17.same W19
  have K20 : Gx p e below s₁ f0 T19 (mkF m 51 #[.val (.ref a1), .val (.ref aa), .val (.int (0 : Int32)), .val (.int (2 : Int32)), .val .null, .val (.ref tb_9)] []) := fun t kt => K16 t (st19 t kt)
  have K21 : Gx p e below s₁ f0 T19 (mkF m 54 #[.val (.ref a1), .val (.ref aa), .val (.int (0 : Int32)), .val (.int (2 : Int32)), .val .null, .val (.ref tb_9)] [(.ref tb_9), (.ref a1)]) := fun t kt => K20 t (by
    show Steps p.tables e below (T19.setTop (mkF m 51 #[.val (.ref a1), .val (.ref aa), .val (.int (0 : Int32)), .val (.int (2 : Int32)), .val .null, .val (.ref tb_9)] [])) _
    refine XS.aloadN X19.here hx rfl (hb hby d3_51) rfl rfl ?_
    show Steps p.tables e below (T19.setTop (mkF m 52 #[.val (.ref a1), .val (.ref aa), .val (.int (0 : Int32)), .val (.int (2 : Int32)), .val .null, .val (.ref tb_9)] [(.ref a1)])) _
    refine XS.aload X19.here hx rfl (hb hby d3_52) rfl rfl ?_
    exact kt)
  have f22 : Fld Z h19 a1 "java/lang/String" "value" "[B" .null := ((pr2.keep Kc9 nin0).other W19 (Or.inr (slot_ne (Or.inr (hw _ (List.mem_of_getElem? (i := 23) rfl))) (Or.inr (hw _ (List.mem_of_getElem? (i := 24) rfl))) (by decide) (t := (.array .byte)) (t' := .byte) (by decide) (by decide))))
  have f23 : Exa Z h19 a1 "java/lang/String" := (f18.wr W19)
  obtain ⟨T24, h24, X24', e24, W24, st24⟩ := putF X19 hx hZ hown (host := "") (Or.inl (hw _ (List.mem_of_getElem? (i := 27) rfl))) Via.refl e19 f22 f23 (Or.inr ⟨(hw _ (List.mem_of_getElem? (i := 23) rfl)), rfl, hnm⟩) (hw _ (List.mem_of_getElem? (i := 8) rfl)) (ty := (.array .byte)) (by decide) rfl rfl (g := (mkF m 54 #[.val (.ref a1), .val (.ref aa), .val (.int (0 : Int32)), .val (.int (2 : Int32)), .val .null, .val (.ref tb_9)] [(.ref tb_9), (.ref a1)])) rfl rfl (hb hby d3_54)
  obtain ⟨lc24, X24, N24⟩ : ∃ lc, Stand p l e ({ frames := 2, cells := 1, slots := 2, locals := 35 } : Room) s m #[(.ref a1), (.ref aa), (.int (0 : Int32)), (.int (2 : Int32)), .null] below meth c T24 lc 1 2 ∧ Fr n0 lc := ⟨_, X24', Fr.snoc X24' N19 pr1⟩
  have f24_ : Fld Z h24 a1 "java/lang/String" "value" "[B" (.ref tb_9) := f22.same W24
  have K25 : Gx p e below s₁ f0 T24 (mkF m 57 #[.val (.ref a1), .val (.ref aa), .val (.int (0 : Int32)), .val (.int (2 : Int32)), .val .null, .val (.ref tb_9)] []) := fun t kt => K21 t (st24 t kt)
  have f27 : Arv Z h24 tb_9 tk_9 .byte (2 : Int32) [(.int (nar .byte (qa.toInt8.toInt32))), (.int (nar .byte (qb.toInt8.toInt32)))] (.int (0 : Int32)) := ((f11.other W19 (Ne.symm (Nat.ne_of_lt (Nat.lt_of_lt_of_le pr0.lt f10)))).other W24 (Ne.symm (Nat.ne_of_lt (Nat.lt_of_lt_of_le pr0.lt f10))))
  have kp28 : Keep h0 h24 [a1] := ((kp14.wr W19 (Or.inl (List.mem_of_getElem? (i := 0) rfl))).wr W24 (Or.inl (List.mem_of_getElem? (i := 0) rfl)))
  have f29 : Exa Z h24 a1 "java/lang/String" := (f23.wr W24)
  have f30 : Fld Z h24 a1 "java/lang/String" "coder" "B" (.int (0 : Int32)) := (f19_.other W24 (Or.inr (slot_ne (Or.inr (hw _ (List.mem_of_getElem? (i := 24) rfl))) (Or.inr (hw _ (List.mem_of_getElem? (i := 23) rfl))) (by decide) (t := .byte) (t' := (.array .byte)) (by decide) (by decide))))
  obtain ⟨fs26, hr26, hrun26, hended26, hW26, hsame26⟩ := X24.leave (v := none) (fun _ => rfl)
  refine ⟨_, _, pre0 _ (K25 _ ?_), hrun26, hended26, _, _, rfl, ?_, ⟨_, rfl⟩, hW26, hsame26.mono (by decide) (by decide)⟩
  · exact X24.returnOut hx Bd.returns (hb hby d3_57) hr26
  · show QIn4_2 Z a1 aa ka qa qb cw h0 n0 _ T24.heap _
    rw [e24]
    exact ⟨tb_9, tk_9, rfl, N24, kp28, (Nat.le_trans (Keep.refl h0 [a1]).1 f10), f29, f30, f24_, f27⟩
theorem ef_In1_2 (m : MethodId) (a1 : Addr) (aa : Addr) : entryFrame m #[(.ref a1), (.ref aa)] 2 = mkF m 0 #[.val (.ref a1), .val (.ref aa)] [] := by first | (simp [entryFrame, mkF, argsToLocals, Value.category]; done) | rfl
def QIn1_2 (Z : State) (a1 : Addr) (aa : Addr) (ka : ClassId) (qa : Int32) (qb : Int32) (cw : Int32) (h0 : Heap) (n0 : Nat) (v : Option Value) (h : Heap) (L : List Loc) : Prop := ∃ tb : Addr, ∃ tk : ClassId, v = none ∧ Fr n0 L ∧ Keep h0 h [a1] ∧ h0.size ≤ tb ∧ Exa Z h a1 "java/lang/String" ∧ Fld Z h a1 "java/lang/String" "coder" "B" (.int (0 : Int32)) ∧ Fld Z h a1 "java/lang/String" "value" "[B" (.ref tb) ∧ Arv Z h tb tk .byte (2 : Int32) [(.int (nar .byte (qa.toInt8.toInt32))), (.int (nar .byte (qb.toInt8.toInt32)))] (.int (0 : Int32))
set_option maxRecDepth 65536 in
set_option maxHeartbeats 40000000 in
theorem rmIn1_2 (l : Launch) (Z : State) (a0 : Array Value) (hw : ∀ d ∈ tables_1, d.before a0 Z = true) (ws : List Jvm.Cond) (a1 : Addr) (aa : Addr) (ka : ClassId) (qa : Int32) (qb : Int32) (cw : Int32) (h0 : Heap) (n0 : Nat) (Z0 : n0 ≤ h0.size) (pr0 : Exa Z h0 a1 "java/lang/String") (pr1 : n0 ≤ a1) (pr2 : Fld Z h0 a1 "java/lang/String" "value" "[B" .null) (pr3 : Fld Z h0 a1 "java/lang/String" "coder" "B" (.int (0 : Int32))) (pr4 : Arv Z h0 aa ka .char (2 : Int32) [(.int qa), (.int qb)] (.int (0 : Int32))) (hqa : ¬ ((255 : Int32) < qa)) (hqb : ¬ ((255 : Int32) < qb)) (pr7 : Old Z n0 h0) (pr8 : Sta Z Z.heap "java/lang/String" "COMPACT_STRINGS" "Z" (.int cw)) (hcw : ¬ (cw = (0 : Int32))) :
    MetFree l (⟨"java/lang/String", "<init>", "([C)V"⟩ : MethodName) (head1 (Jvm.Cond.code (⟨"java/lang/String", "<init>", "([C)V"⟩ : MethodName) jdk_42_method_3_code 2 none :: ws) ({ frames := 3, cells := 1, slots := 2, locals := 52 } : Room)) (fun a U => a = #[(.ref a1), (.ref aa)] ∧ Z.Warmed39 U.vm ∧ U.heap = h0) (fun _ _ _ _ _ => True) (fun _ U o U' => ∃ v L, o = .returned v ∧ QIn1_2 Z a1 aa ka qa qb cw h0 n0 v U'.heap L ∧ FrameEnd U o U' L ({ frames := 3, cells := 1, slots := 2, locals := 52 } : Room).cells ({ frames := 3, cells := 1, slots := 2, locals := 52 } : Room).slots) := by
  refine MetFree.of_bodySF (plainFor_of_name pn_2) hisR ?_
  intro p e s m args below meth c s₁ Bd hml0 hP hK
  obtain ⟨rfl, hZ, hh⟩ := hP
  have hx := Bd.exec
  have hby := Bd.bytes
  have hml : c.maxLocals = 2 := hml0
  have hown : s.vm.findClass "java/lang/String" = some m.cls := findClass_of_methodNamed Bd.named
  have hnm := (name_of_methodNamed Bd.named Bd.method).1
  have X0 : Stand p l e ({ frames := 3, cells := 1, slots := 2, locals := 52 } : Room) s m #[(.ref a1), (.ref aa)] below meth c s₁ [] 0 0 := Stand.of_body Bd
  have hs0 : h0 = s.heap := hh.symm
  have e0 : s₁.heap = h0 := by rw [← hh, Bd.state]; rfl
  have N0 := Fr.nil n0
  obtain ⟨f0, hf0⟩ : ∃ f, f = entryFrame m #[(.ref a1), (.ref aa)] 2 := ⟨_, rfl⟩
  have pre0 : ∀ t, Steps p.tables e below (s₁.setTop f0) t → Steps p.tables e below (s₁.setTop (entryFrame m #[(.ref a1), (.ref aa)] 2)) t := fun t k => hf0 ▸ k
  have K0 : Gx p e below s₁ f0 s₁ (mkF m 0 #[.val (.ref a1), .val (.ref aa)] []) := fun t kt => by rw [hf0]; exact castTop (ef_In1_2 m a1 aa) kt
  obtain ⟨clq1, Arq1, ckq1, cSq1, cNq1, cHq1, cGq1⟩ := id pr4
  have K2 : Gx p e below s₁ f0 s₁ (mkF m 6 #[.val (.ref a1), .val (.ref aa)] [.null, (.int (2 : Int32)), (.int (0 : Int32)), (.ref aa), (.ref a1)]) := fun t kt => K0 t (by
    show Steps p.tables e below (s₁.setTop (mkF m 0 #[.val (.ref a1), .val (.ref aa)] [])) _
    refine XS.aloadN X0.here hx rfl (hb hby d2_0) rfl rfl ?_
    show Steps p.tables e below (s₁.setTop (mkF m 1 #[.val (.ref a1), .val (.ref aa)] [(.ref a1)])) _
    refine XS.aloadN X0.here hx rfl (hb hby d2_1) rfl rfl ?_
    show Steps p.tables e below (s₁.setTop (mkF m 2 #[.val (.ref a1), .val (.ref aa)] [(.ref aa), (.ref a1)])) _
    refine XS.iconst X0.here hx rfl (hb hby d2_2) ?_
    show Steps p.tables e below (s₁.setTop (mkF m 3 #[.val (.ref a1), .val (.ref aa)] [(.int (0 : Int32)), (.ref aa), (.ref a1)])) _
    refine XS.aloadN X0.here hx rfl (hb hby d2_3) rfl rfl ?_
    show Steps p.tables e below (s₁.setTop (mkF m 4 #[.val (.ref a1), .val (.ref aa)] [(.ref aa), (.int (0 : Int32)), (.ref aa), (.ref a1)])) _
    refine X0.arraylength hx (by rw [e0]; exact Arq1.1) (State.isArrayOf_alike hZ.alike Arq1.2.1) (g := (mkF m 4 #[.val (.ref a1), .val (.ref aa)] [(.ref aa), (.int (0 : Int32)), (.ref aa), (.ref a1)])) rfl rfl (hb hby d2_4) _ ?_
    rw [len_of cSq1 cNq1]
    show Steps p.tables e below (s₁.setTop (mkF m 5 #[.val (.ref a1), .val (.ref aa)] [(.int (2 : Int32)), (.int (0 : Int32)), (.ref aa), (.ref a1)])) _
    refine XS.aconstNull X0.here hx rfl (hb hby d2_5) ?_
    exact kt)
  obtain ⟨_, _, ⟨T3, L3, k3, n3⟩, -, X3', ⟨Lc3, hQ3, l3, y3, z3⟩, st3⟩ := X0.specialBack hx (y := (⟨"java/lang/String", "<init>", "([CIILjava/lang/Void;)V"⟩ : MethodName)) rfl hown (mvT hZ (hw _ (List.mem_of_getElem? (i := 14) rfl))) (mvT hZ (hw _ (List.mem_of_getElem? (i := 15) rfl))) (mvT hZ (hw _ (List.mem_of_getElem? (i := 17) rfl))) (by decide) (backOf (W := 0) (rmIn4_2 l Z a0 hw [] a1 aa ka qa qb cw h0 n0 (Nat.le_trans Z0 (Keep.refl h0 [a1]).1) pr0 pr1 pr2 pr3 pr4 hqa hqb pr7 pr8 hcw) hZ (hw _ (List.mem_of_getElem? (i := 17) rfl)) (hw _ (List.mem_of_getElem? (i := 9) rfl)) (by decide) (by decide)) (g := (mkF m 6 #[.val (.ref a1), .val (.ref aa)] [.null, (.int (2 : Int32)), (.int (0 : Int32)), (.ref aa), (.ref a1)])) rfl (by rw [hml]; rfl) (Steps.refl _) (a := a1) (argsL := [(.ref aa), (.int (0 : Int32)), (.int (2 : Int32)), .null]) (rest := []) (lenOf pd___CIILjava_lang_Void__V rfl) rfl (by show 2 * 0 + _ ≤ _; exact Nat.le_of_eq rfl) (hb hby d2_6) (fun _ _ => ⟨rfl, e0, (by decide : 0 + 1 ≤ _), (by decide : 0 + 2 ≤ _)⟩)
  dsimp only [Pt.U, Pt.locs, Pt.cells, Pt.slots] at X3' l3 y3 z3 st3 hQ3
  subst l3 y3 z3
  obtain ⟨h3, e3⟩ : ∃ z, T3.heap = z := ⟨_, rfl⟩
  rw [e3] at hQ3
  obtain ⟨tb_3, tk_3, rfl, N3q, Kc3, f4, f5, f6, f7, f8⟩ := hQ3
  obtain ⟨lc3, X3, N3⟩ : ∃ lc, Stand p l e ({ frames := 3, cells := 1, slots := 2, locals := 52 } : Room) s m #[(.ref a1), (.ref aa)] below meth c T3 lc 1 2 ∧ Fr n0 lc := ⟨_, X3', Fr.app N0 N3q⟩
  have K9 : Gx p e below s₁ f0 T3 (mkF m 9 #[.val (.ref a1), .val (.ref aa)] []) := fun t kt => K2 t (st3.trans kt)
  have kp11 : Keep h0 h3 [a1] := (Keep.trans (Keep.refl h0 [a1]) Kc3 (allS (Or.inl (List.mem_of_getElem? (i := 0) rfl)) all0))
  obtain ⟨fs10, hr10, hrun10, hended10, hW10, hsame10⟩ := X3.leave (v := none) (fun _ => rfl)
  refine ⟨_, _, pre0 _ (K9 _ ?_), hrun10, hended10, _, _, rfl, ?_, ⟨_, rfl⟩, hW10, hsame10.mono (by decide) (by decide)⟩
  · exact X3.returnOut hx Bd.returns (hb hby d2_9) hr10
  · show QIn1_2 Z a1 aa ka qa qb cw h0 n0 _ T3.heap _
    rw [e3]
    exact ⟨tb_3, tk_3, rfl, N3, kp11, (Nat.le_trans (Keep.refl h0 [a1]).1 f4), f5, f6, f7, f8⟩
theorem ef_Cm5_3 (m : MethodId) (aa : Addr) (bb : Addr) : entryFrame m #[(.ref aa), (.int (0 : Int32)), (.ref bb), (.int (0 : Int32)), (.int (3 : Int32))] 7 = mkF m 0 #[.val (.ref aa), .val (.int (0 : Int32)), .val (.ref bb), .val (.int (0 : Int32)), .val (.int (3 : Int32)), .unset, .unset] [] := by first | (simp [entryFrame, mkF, argsToLocals, Value.category]; done) | rfl
def QCm5_3 (Z : State) (aa : Addr) (bb : Addr) (ka : ClassId) (kb : ClassId) (qa : Int32) (qb : Int32) (qc : Int32) (h0 : Heap) (n0 : Nat) (v : Option Value) (h : Heap) (L : List Loc) : Prop := v = some (.int (3 : Int32)) ∧ Fr n0 L ∧ Keep h0 h [bb] ∧ Arv Z h bb kb .byte (3 : Int32) [(.int (nar .byte (qa.toInt8.toInt32))), (.int (nar .byte (qb.toInt8.toInt32))), (.int (nar .byte (qc.toInt8.toInt32)))] (.int (0 : Int32))
set_option maxRecDepth 65536 in
set_option maxHeartbeats 40000000 in
theorem rmCm5_3 (l : Launch) (Z : State) (a0 : Array Value) (hw : ∀ d ∈ tables_1, d.before a0 Z = true) (ws : List Jvm.Cond) (aa : Addr) (bb : Addr) (ka : ClassId) (kb : ClassId) (qa : Int32) (qb : Int32) (qc : Int32) (h0 : Heap) (n0 : Nat) (Z0 : n0 ≤ h0.size) (pr0 : Arv Z h0 aa ka .char (3 : Int32) [(.int qa), (.int qb), (.int qc)] (.int (0 : Int32))) (pr1 : Arv Z h0 bb kb .byte (3 : Int32) [(.int (0 : Int32)), (.int (0 : Int32)), (.int (0 : Int32))] (.int (0 : Int32))) (pr2 : n0 ≤ bb) (pr3 : aa ≠ bb) (hqa : ¬ ((255 : Int32) < qa)) (hqb : ¬ ((255 : Int32) < qb)) (hqc : ¬ ((255 : Int32) < qc)) :
    MetFree l (⟨"java/lang/StringUTF16", "compress", "([CI[BII)I"⟩ : MethodName) (head1 (Jvm.Cond.code (⟨"java/lang/StringUTF16", "compress", "([CI[BII)I"⟩ : MethodName) jdk_52_method_21_code 7 (some .int) :: ws) ({ frames := 0, cells := 0, slots := 0, locals := 0 } : Room)) (fun a U => a = #[(.ref aa), (.int (0 : Int32)), (.ref bb), (.int (0 : Int32)), (.int (3 : Int32))] ∧ Z.Warmed39 U.vm ∧ U.heap = h0) (fun _ _ _ _ _ => True) (fun _ U o U' => ∃ v L, o = .returned v ∧ QCm5_3 Z aa bb ka kb qa qb qc h0 n0 v U'.heap L ∧ FrameEnd U o U' L ({ frames := 0, cells := 0, slots := 0, locals := 0 } : Room).cells ({ frames := 0, cells := 0, slots := 0, locals := 0 } : Room).slots) := by
  refine MetFree.of_bodySF (plainFor_of_name pn_6) hisR ?_
  intro p e s m args below meth c s₁ Bd hml0 hP hK
  obtain ⟨rfl, hZ, hh⟩ := hP
  have hx := Bd.exec
  have hby := Bd.bytes
  have hml : c.maxLocals = 7 := hml0
  have hown : s.vm.findClass "java/lang/StringUTF16" = some m.cls := findClass_of_methodNamed Bd.named
  have hnm := (name_of_methodNamed Bd.named Bd.method).1
  have X0 : Stand p l e ({ frames := 0, cells := 0, slots := 0, locals := 0 } : Room) s m #[(.ref aa), (.int (0 : Int32)), (.ref bb), (.int (0 : Int32)), (.int (3 : Int32))] below meth c s₁ [] 0 0 := Stand.of_body Bd
  have hs0 : h0 = s.heap := hh.symm
  have e0 : s₁.heap = h0 := by rw [← hh, Bd.state]; rfl
  have N0 := Fr.nil n0
  obtain ⟨f0, hf0⟩ : ∃ f, f = entryFrame m #[(.ref aa), (.int (0 : Int32)), (.ref bb), (.int (0 : Int32)), (.int (3 : Int32))] 7 := ⟨_, rfl⟩
  have pre0 : ∀ t, Steps p.tables e below (s₁.setTop f0) t → Steps p.tables e below (s₁.setTop (entryFrame m #[(.ref aa), (.int (0 : Int32)), (.ref bb), (.int (0 : Int32)), (.int (3 : Int32))] 7)) t := fun t k => hf0 ▸ k
  have K0 : Gx p e below s₁ f0 s₁ (mkF m 0 #[.val (.ref aa), .val (.int (0 : Int32)), .val (.ref bb), .val (.int (0 : Int32)), .val (.int (3 : Int32)), .unset, .unset] []) := fun t kt => by rw [hf0]; exact castTop (ef_Cm5_3 m aa bb) kt
  obtain ⟨clq1, Arq1, ckq1, cSq1, cNq1, cHq1, cGq1⟩ := id pr0
  have K2 : Gx p e below s₁ f0 s₁ (mkF m 31 #[.val (.ref aa), .val (.int (0 : Int32)), .val (.ref bb), .val (.int (0 : Int32)), .val (.int (3 : Int32)), .val (.int (0 : Int32)), .val (.int qa)] [(.int (qa.toInt8.toInt32)), (.int (0 : Int32)), (.ref bb)]) := fun t kt => K0 t (by
    show Steps p.tables e below (s₁.setTop (mkF m 0 #[.val (.ref aa), .val (.int (0 : Int32)), .val (.ref bb), .val (.int (0 : Int32)), .val (.int (3 : Int32)), .unset, .unset] [])) _
    refine XS.iconst X0.here hx rfl (hb hby d6_0) ?_
    show Steps p.tables e below (s₁.setTop (mkF m 1 #[.val (.ref aa), .val (.int (0 : Int32)), .val (.ref bb), .val (.int (0 : Int32)), .val (.int (3 : Int32)), .unset, .unset] [(.int (0 : Int32))])) _
    refine XS.istore X0.here hx rfl (hb hby d6_1) rfl (l' := #[.val (.ref aa), .val (.int (0 : Int32)), .val (.ref bb), .val (.int (0 : Int32)), .val (.int (3 : Int32)), .val (.int (0 : Int32)), .unset]) rfl ?_
    show Steps p.tables e below (s₁.setTop (mkF m 3 #[.val (.ref aa), .val (.int (0 : Int32)), .val (.ref bb), .val (.int (0 : Int32)), .val (.int (3 : Int32)), .val (.int (0 : Int32)), .unset] [])) _
    refine XS.iload X0.here hx rfl (hb hby d6_3) rfl ?_
    show Steps p.tables e below (s₁.setTop (mkF m 5 #[.val (.ref aa), .val (.int (0 : Int32)), .val (.ref bb), .val (.int (0 : Int32)), .val (.int (3 : Int32)), .val (.int (0 : Int32)), .unset] [(.int (0 : Int32))])) _
    refine XS.iload X0.here hx rfl (hb hby d6_5) rfl ?_
    show Steps p.tables e below (s₁.setTop (mkF m 7 #[.val (.ref aa), .val (.int (0 : Int32)), .val (.ref bb), .val (.int (0 : Int32)), .val (.int (3 : Int32)), .val (.int (0 : Int32)), .unset] [(.int (3 : Int32)), (.int (0 : Int32))])) _
    refine XS.icmpNo X0.here hx rfl (hb hby d6_7) rfl (tlt (by decide)).2.1 ?_
    show Steps p.tables e below (s₁.setTop (mkF m 10 #[.val (.ref aa), .val (.int (0 : Int32)), .val (.ref bb), .val (.int (0 : Int32)), .val (.int (3 : Int32)), .val (.int (0 : Int32)), .unset] [])) _
    refine XS.aloadN X0.here hx rfl (hb hby d6_10) rfl rfl ?_
    show Steps p.tables e below (s₁.setTop (mkF m 11 #[.val (.ref aa), .val (.int (0 : Int32)), .val (.ref bb), .val (.int (0 : Int32)), .val (.int (3 : Int32)), .val (.int (0 : Int32)), .unset] [(.ref aa)])) _
    refine XS.iloadN X0.here hx rfl (hb hby d6_11) rfl ?_
    show Steps p.tables e below (s₁.setTop (mkF m 12 #[.val (.ref aa), .val (.int (0 : Int32)), .val (.ref bb), .val (.int (0 : Int32)), .val (.int (3 : Int32)), .val (.int (0 : Int32)), .unset] [(.int (0 : Int32)), (.ref aa)])) _
    refine X0.caload hx (j := (0 : Int32)) (v := (.int qa)) (by rw [e0]; exact Arq1.1) (State.isArrayOf_alike hZ.alike Arq1.2.1) Arq1.2.2 (inb_of cSq1 ⟨by decide, by decide⟩) (Has.at cHq1 (inb_of cSq1 ⟨by decide, by decide⟩) rfl) (g := (mkF m 12 #[.val (.ref aa), .val (.int (0 : Int32)), .val (.ref bb), .val (.int (0 : Int32)), .val (.int (3 : Int32)), .val (.int (0 : Int32)), .unset] [(.int (0 : Int32)), (.ref aa)])) rfl rfl (hb hby d6_12) _ ?_
    show Steps p.tables e below (s₁.setTop (mkF m 13 #[.val (.ref aa), .val (.int (0 : Int32)), .val (.ref bb), .val (.int (0 : Int32)), .val (.int (3 : Int32)), .val (.int (0 : Int32)), .unset] [(.int qa)])) _
    refine XS.istore X0.here hx rfl (hb hby d6_13) rfl (l' := #[.val (.ref aa), .val (.int (0 : Int32)), .val (.ref bb), .val (.int (0 : Int32)), .val (.int (3 : Int32)), .val (.int (0 : Int32)), .val (.int qa)]) rfl ?_
    show Steps p.tables e below (s₁.setTop (mkF m 15 #[.val (.ref aa), .val (.int (0 : Int32)), .val (.ref bb), .val (.int (0 : Int32)), .val (.int (3 : Int32)), .val (.int (0 : Int32)), .val (.int qa)] [])) _
    refine XS.iload X0.here hx rfl (hb hby d6_15) rfl ?_
    show Steps p.tables e below (s₁.setTop (mkF m 17 #[.val (.ref aa), .val (.int (0 : Int32)), .val (.ref bb), .val (.int (0 : Int32)), .val (.int (3 : Int32)), .val (.int (0 : Int32)), .val (.int qa)] [(.int qa)])) _
    refine XS.sipush X0.here hx rfl (hb hby d6_17) ?_
    show Steps p.tables e below (s₁.setTop (mkF m 20 #[.val (.ref aa), .val (.int (0 : Int32)), .val (.ref bb), .val (.int (0 : Int32)), .val (.int (3 : Int32)), .val (.int (0 : Int32)), .val (.int qa)] [(.int (255 : Int32)), (.int qa)])) _
    refine XS.icmpYes X0.here hx rfl (pc0 := 20) (pc' := 26) rfl (hb hby d6_20) rfl (flt hqa).2.2.2 (by decide) (by decide) ?_
    show Steps p.tables e below (s₁.setTop (mkF m 26 #[.val (.ref aa), .val (.int (0 : Int32)), .val (.ref bb), .val (.int (0 : Int32)), .val (.int (3 : Int32)), .val (.int (0 : Int32)), .val (.int qa)] [])) _
    refine XS.aloadN X0.here hx rfl (hb hby d6_26) rfl rfl ?_
    show Steps p.tables e below (s₁.setTop (mkF m 27 #[.val (.ref aa), .val (.int (0 : Int32)), .val (.ref bb), .val (.int (0 : Int32)), .val (.int (3 : Int32)), .val (.int (0 : Int32)), .val (.int qa)] [(.ref bb)])) _
    refine XS.iloadN X0.here hx rfl (hb hby d6_27) rfl ?_
    show Steps p.tables e below (s₁.setTop (mkF m 28 #[.val (.ref aa), .val (.int (0 : Int32)), .val (.ref bb), .val (.int (0 : Int32)), .val (.int (3 : Int32)), .val (.int (0 : Int32)), .val (.int qa)] [(.int (0 : Int32)), (.ref bb)])) _
    refine XS.iload X0.here hx rfl (hb hby d6_28) rfl ?_
    show Steps p.tables e below (s₁.setTop (mkF m 30 #[.val (.ref aa), .val (.int (0 : Int32)), .val (.ref bb), .val (.int (0 : Int32)), .val (.int (3 : Int32)), .val (.int (0 : Int32)), .val (.int qa)] [(.int qa), (.int (0 : Int32)), (.ref bb)])) _
    refine XS.i2b X0.here hx rfl (hb hby d6_30) rfl ?_
    exact kt)
  obtain ⟨clq3, Arq3, ckq3, cSq3, cNq3, cHq3, cGq3⟩ := id pr1
  obtain ⟨T4, h4, X4', e4, W4, st4⟩ := stB X0 hx hZ e0 Arq3 (j := (0 : Int32)) (inb_of cSq3 ⟨by decide, by decide⟩) (g := (mkF m 31 #[.val (.ref aa), .val (.int (0 : Int32)), .val (.ref bb), .val (.int (0 : Int32)), .val (.int (3 : Int32)), .val (.int (0 : Int32)), .val (.int qa)] [(.int (qa.toInt8.toInt32)), (.int (0 : Int32)), (.ref bb)])) rfl rfl (hb hby d6_31)
  obtain ⟨lc4, X4, N4⟩ : ∃ lc, Stand p l e ({ frames := 0, cells := 0, slots := 0, locals := 0 } : Room) s m #[(.ref aa), (.int (0 : Int32)), (.ref bb), (.int (0 : Int32)), (.int (3 : Int32))] below meth c T4 lc 0 0 ∧ Fr n0 lc := ⟨_, X4', Fr.snoc X4' N0 pr2⟩
  have V4 : Arv Z h4 bb kb .byte (3 : Int32) [(.int (nar .byte (qa.toInt8.toInt32))), (.int (0 : Int32)), (.int (0 : Int32))] (.int (0 : Int32)) := Arv.set Arq3 ckq3 cSq3 cNq3 cHq3 cGq3 (fits_nar_byte _) W4 0 rfl (Nat.le_of_ble_eq_true rfl)
  have K5 : Gx p e below s₁ f0 T4 (mkF m 32 #[.val (.ref aa), .val (.int (0 : Int32)), .val (.ref bb), .val (.int (0 : Int32)), .val (.int (3 : Int32)), .val (.int (0 : Int32)), .val (.int qa)] []) := fun t kt => K2 t (st4 t kt)
  have f6 : Arv Z h4 aa ka .char (3 : Int32) [(.int qa), (.int qb), (.int qc)] (.int (0 : Int32)) := (pr0.other W4 pr3)
  obtain ⟨clq7, Arq7, ckq7, cSq7, cNq7, cHq7, cGq7⟩ := id f6
  have K8 : Gx p e below s₁ f0 T4 (mkF m 31 #[.val (.ref aa), .val (.int (1 : Int32)), .val (.ref bb), .val (.int (1 : Int32)), .val (.int (3 : Int32)), .val (.int (1 : Int32)), .val (.int qb)] [(.int (qb.toInt8.toInt32)), (.int (1 : Int32)), (.ref bb)]) := fun t kt => K5 t (by
    show Steps p.tables e below (T4.setTop (mkF m 32 #[.val (.ref aa), .val (.int (0 : Int32)), .val (.ref bb), .val (.int (0 : Int32)), .val (.int (3 : Int32)), .val (.int (0 : Int32)), .val (.int qa)] [])) _
    refine XS.iinc X4.here hx rfl (hb hby d6_32) rfl (l' := #[.val (.ref aa), .val (.int (1 : Int32)), .val (.ref bb), .val (.int (0 : Int32)), .val (.int (3 : Int32)), .val (.int (0 : Int32)), .val (.int qa)]) rfl ?_
    show Steps p.tables e below (T4.setTop (mkF m 35 #[.val (.ref aa), .val (.int (1 : Int32)), .val (.ref bb), .val (.int (0 : Int32)), .val (.int (3 : Int32)), .val (.int (0 : Int32)), .val (.int qa)] [])) _
    refine XS.iinc X4.here hx rfl (hb hby d6_35) rfl (l' := #[.val (.ref aa), .val (.int (1 : Int32)), .val (.ref bb), .val (.int (1 : Int32)), .val (.int (3 : Int32)), .val (.int (0 : Int32)), .val (.int qa)]) rfl ?_
    show Steps p.tables e below (T4.setTop (mkF m 38 #[.val (.ref aa), .val (.int (1 : Int32)), .val (.ref bb), .val (.int (1 : Int32)), .val (.int (3 : Int32)), .val (.int (0 : Int32)), .val (.int qa)] [])) _
    refine XS.iinc X4.here hx rfl (hb hby d6_38) rfl (l' := #[.val (.ref aa), .val (.int (1 : Int32)), .val (.ref bb), .val (.int (1 : Int32)), .val (.int (3 : Int32)), .val (.int (1 : Int32)), .val (.int qa)]) rfl ?_
    show Steps p.tables e below (T4.setTop (mkF m 41 #[.val (.ref aa), .val (.int (1 : Int32)), .val (.ref bb), .val (.int (1 : Int32)), .val (.int (3 : Int32)), .val (.int (1 : Int32)), .val (.int qa)] [])) _
    refine XS.goto X4.here hx rfl (pc0 := 41) (pc' := 3) rfl (hb hby d6_41) (by decide) (by decide) ?_
    show Steps p.tables e below (T4.setTop (mkF m 3 #[.val (.ref aa), .val (.int (1 : Int32)), .val (.ref bb), .val (.int (1 : Int32)), .val (.int (3 : Int32)), .val (.int (1 : Int32)), .val (.int qa)] [])) _
    refine XS.iload X4.here hx rfl (hb hby d6_3) rfl ?_
    show Steps p.tables e below (T4.setTop (mkF m 5 #[.val (.ref aa), .val (.int (1 : Int32)), .val (.ref bb), .val (.int (1 : Int32)), .val (.int (3 : Int32)), .val (.int (1 : Int32)), .val (.int qa)] [(.int (1 : Int32))])) _
    refine XS.iload X4.here hx rfl (hb hby d6_5) rfl ?_
    show Steps p.tables e below (T4.setTop (mkF m 7 #[.val (.ref aa), .val (.int (1 : Int32)), .val (.ref bb), .val (.int (1 : Int32)), .val (.int (3 : Int32)), .val (.int (1 : Int32)), .val (.int qa)] [(.int (3 : Int32)), (.int (1 : Int32))])) _
    refine XS.icmpNo X4.here hx rfl (hb hby d6_7) rfl (tlt (by decide)).2.1 ?_
    show Steps p.tables e below (T4.setTop (mkF m 10 #[.val (.ref aa), .val (.int (1 : Int32)), .val (.ref bb), .val (.int (1 : Int32)), .val (.int (3 : Int32)), .val (.int (1 : Int32)), .val (.int qa)] [])) _
    refine XS.aloadN X4.here hx rfl (hb hby d6_10) rfl rfl ?_
    show Steps p.tables e below (T4.setTop (mkF m 11 #[.val (.ref aa), .val (.int (1 : Int32)), .val (.ref bb), .val (.int (1 : Int32)), .val (.int (3 : Int32)), .val (.int (1 : Int32)), .val (.int qa)] [(.ref aa)])) _
    refine XS.iloadN X4.here hx rfl (hb hby d6_11) rfl ?_
    show Steps p.tables e below (T4.setTop (mkF m 12 #[.val (.ref aa), .val (.int (1 : Int32)), .val (.ref bb), .val (.int (1 : Int32)), .val (.int (3 : Int32)), .val (.int (1 : Int32)), .val (.int qa)] [(.int (1 : Int32)), (.ref aa)])) _
    refine X4.caload hx (j := (1 : Int32)) (v := (.int qb)) (by rw [e4]; exact Arq7.1) (State.isArrayOf_alike hZ.alike Arq7.2.1) Arq7.2.2 (inb_of cSq7 ⟨by decide, by decide⟩) (Has.at cHq7 (inb_of cSq7 ⟨by decide, by decide⟩) rfl) (g := (mkF m 12 #[.val (.ref aa), .val (.int (1 : Int32)), .val (.ref bb), .val (.int (1 : Int32)), .val (.int (3 : Int32)), .val (.int (1 : Int32)), .val (.int qa)] [(.int (1 : Int32)), (.ref aa)])) rfl rfl (hb hby d6_12) _ ?_
    show Steps p.tables e below (T4.setTop (mkF m 13 #[.val (.ref aa), .val (.int (1 : Int32)), .val (.ref bb), .val (.int (1 : Int32)), .val (.int (3 : Int32)), .val (.int (1 : Int32)), .val (.int qa)] [(.int qb)])) _
    refine XS.istore X4.here hx rfl (hb hby d6_13) rfl (l' := #[.val (.ref aa), .val (.int (1 : Int32)), .val (.ref bb), .val (.int (1 : Int32)), .val (.int (3 : Int32)), .val (.int (1 : Int32)), .val (.int qb)]) rfl ?_
    show Steps p.tables e below (T4.setTop (mkF m 15 #[.val (.ref aa), .val (.int (1 : Int32)), .val (.ref bb), .val (.int (1 : Int32)), .val (.int (3 : Int32)), .val (.int (1 : Int32)), .val (.int qb)] [])) _
    refine XS.iload X4.here hx rfl (hb hby d6_15) rfl ?_
    show Steps p.tables e below (T4.setTop (mkF m 17 #[.val (.ref aa), .val (.int (1 : Int32)), .val (.ref bb), .val (.int (1 : Int32)), .val (.int (3 : Int32)), .val (.int (1 : Int32)), .val (.int qb)] [(.int qb)])) _
    refine XS.sipush X4.here hx rfl (hb hby d6_17) ?_
    show Steps p.tables e below (T4.setTop (mkF m 20 #[.val (.ref aa), .val (.int (1 : Int32)), .val (.ref bb), .val (.int (1 : Int32)), .val (.int (3 : Int32)), .val (.int (1 : Int32)), .val (.int qb)] [(.int (255 : Int32)), (.int qb)])) _
    refine XS.icmpYes X4.here hx rfl (pc0 := 20) (pc' := 26) rfl (hb hby d6_20) rfl (flt hqb).2.2.2 (by decide) (by decide) ?_
    show Steps p.tables e below (T4.setTop (mkF m 26 #[.val (.ref aa), .val (.int (1 : Int32)), .val (.ref bb), .val (.int (1 : Int32)), .val (.int (3 : Int32)), .val (.int (1 : Int32)), .val (.int qb)] [])) _
    refine XS.aloadN X4.here hx rfl (hb hby d6_26) rfl rfl ?_
    show Steps p.tables e below (T4.setTop (mkF m 27 #[.val (.ref aa), .val (.int (1 : Int32)), .val (.ref bb), .val (.int (1 : Int32)), .val (.int (3 : Int32)), .val (.int (1 : Int32)), .val (.int qb)] [(.ref bb)])) _
    refine XS.iloadN X4.here hx rfl (hb hby d6_27) rfl ?_
    show Steps p.tables e below (T4.setTop (mkF m 28 #[.val (.ref aa), .val (.int (1 : Int32)), .val (.ref bb), .val (.int (1 : Int32)), .val (.int (3 : Int32)), .val (.int (1 : Int32)), .val (.int qb)] [(.int (1 : Int32)), (.ref bb)])) _
    refine XS.iload X4.here hx rfl (hb hby d6_28) rfl ?_
    show Steps p.tables e below (T4.setTop (mkF m 30 #[.val (.ref aa), .val (.int (1 : Int32)), .val (.ref bb), .val (.int (1 : Int32)), .val (.int (3 : Int32)), .val (.int (1 : Int32)), .val (.int qb)] [(.int qb), (.int (1 : Int32)), (.ref bb)])) _
    refine XS.i2b X4.here hx rfl (hb hby d6_30) rfl ?_
    exact kt)
  obtain ⟨clq9, Arq9, ckq9, cSq9, cNq9, cHq9, cGq9⟩ := id V4
  obtain ⟨T10, h10, X10', e10, W10, st10⟩ := stB X4 hx hZ e4 Arq9 (j := (1 : Int32)) (inb_of cSq9 ⟨by decide, by decide⟩) (g := (mkF m 31 #[.val (.ref aa), .val (.int (1 : Int32)), .val (.ref bb), .val (.int (1 : Int32)), .val (.int (3 : Int32)), .val (.int (1 : Int32)), .val (.int qb)] [(.int (qb.toInt8.toInt32)), (.int (1 : Int32)), (.ref bb)])) rfl rfl (hb hby d6_31)
  obtain ⟨lc10, X10, N10⟩ : ∃ lc, Stand p l e ({ frames := 0, cells := 0, slots := 0, locals := 0 } : Room) s m #[(.ref aa), (.int (0 : Int32)), (.ref bb), (.int (0 : Int32)), (.int (3 : Int32))] below meth c T10 lc 0 0 ∧ Fr n0 lc := ⟨_, X10', Fr.snoc X10' N4 pr2⟩
  have V10 : Arv Z h10 bb kb .byte (3 : Int32) [(.int (nar .byte (qa.toInt8.toInt32))), (.int (nar .byte (qb.toInt8.toInt32))), (.int (0 : Int32))] (.int (0 : Int32)) := Arv.set Arq9 ckq9 cSq9 cNq9 cHq9 cGq9 (fits_nar_byte _) W10 1 rfl (Nat.le_of_ble_eq_true rfl)
  have K11 : Gx p e below s₁ f0 T10 (mkF m 32 #[.val (.ref aa), .val (.int (1 : Int32)), .val (.ref bb), .val (.int (1 : Int32)), .val (.int (3 : Int32)), .val (.int (1 : Int32)), .val (.int qb)] []) := fun t kt => K8 t (st10 t kt)
  have f12 : Arv Z h10 aa ka .char (3 : Int32) [(.int qa), (.int qb), (.int qc)] (.int (0 : Int32)) := (f6.other W10 pr3)
  obtain ⟨clq13, Arq13, ckq13, cSq13, cNq13, cHq13, cGq13⟩ := id f12
  have K14 : Gx p e below s₁ f0 T10 (mkF m 31 #[.val (.ref aa), .val (.int (2 : Int32)), .val (.ref bb), .val (.int (2 : Int32)), .val (.int (3 : Int32)), .val (.int (2 : Int32)), .val (.int qc)] [(.int (qc.toInt8.toInt32)), (.int (2 : Int32)), (.ref bb)]) := fun t kt => K11 t (by
    show Steps p.tables e below (T10.setTop (mkF m 32 #[.val (.ref aa), .val (.int (1 : Int32)), .val (.ref bb), .val (.int (1 : Int32)), .val (.int (3 : Int32)), .val (.int (1 : Int32)), .val (.int qb)] [])) _
    refine XS.iinc X10.here hx rfl (hb hby d6_32) rfl (l' := #[.val (.ref aa), .val (.int (2 : Int32)), .val (.ref bb), .val (.int (1 : Int32)), .val (.int (3 : Int32)), .val (.int (1 : Int32)), .val (.int qb)]) rfl ?_
    show Steps p.tables e below (T10.setTop (mkF m 35 #[.val (.ref aa), .val (.int (2 : Int32)), .val (.ref bb), .val (.int (1 : Int32)), .val (.int (3 : Int32)), .val (.int (1 : Int32)), .val (.int qb)] [])) _
    refine XS.iinc X10.here hx rfl (hb hby d6_35) rfl (l' := #[.val (.ref aa), .val (.int (2 : Int32)), .val (.ref bb), .val (.int (2 : Int32)), .val (.int (3 : Int32)), .val (.int (1 : Int32)), .val (.int qb)]) rfl ?_
    show Steps p.tables e below (T10.setTop (mkF m 38 #[.val (.ref aa), .val (.int (2 : Int32)), .val (.ref bb), .val (.int (2 : Int32)), .val (.int (3 : Int32)), .val (.int (1 : Int32)), .val (.int qb)] [])) _
    refine XS.iinc X10.here hx rfl (hb hby d6_38) rfl (l' := #[.val (.ref aa), .val (.int (2 : Int32)), .val (.ref bb), .val (.int (2 : Int32)), .val (.int (3 : Int32)), .val (.int (2 : Int32)), .val (.int qb)]) rfl ?_
    show Steps p.tables e below (T10.setTop (mkF m 41 #[.val (.ref aa), .val (.int (2 : Int32)), .val (.ref bb), .val (.int (2 : Int32)), .val (.int (3 : Int32)), .val (.int (2 : Int32)), .val (.int qb)] [])) _
    refine XS.goto X10.here hx rfl (pc0 := 41) (pc' := 3) rfl (hb hby d6_41) (by decide) (by decide) ?_
    show Steps p.tables e below (T10.setTop (mkF m 3 #[.val (.ref aa), .val (.int (2 : Int32)), .val (.ref bb), .val (.int (2 : Int32)), .val (.int (3 : Int32)), .val (.int (2 : Int32)), .val (.int qb)] [])) _
    refine XS.iload X10.here hx rfl (hb hby d6_3) rfl ?_
    show Steps p.tables e below (T10.setTop (mkF m 5 #[.val (.ref aa), .val (.int (2 : Int32)), .val (.ref bb), .val (.int (2 : Int32)), .val (.int (3 : Int32)), .val (.int (2 : Int32)), .val (.int qb)] [(.int (2 : Int32))])) _
    refine XS.iload X10.here hx rfl (hb hby d6_5) rfl ?_
    show Steps p.tables e below (T10.setTop (mkF m 7 #[.val (.ref aa), .val (.int (2 : Int32)), .val (.ref bb), .val (.int (2 : Int32)), .val (.int (3 : Int32)), .val (.int (2 : Int32)), .val (.int qb)] [(.int (3 : Int32)), (.int (2 : Int32))])) _
    refine XS.icmpNo X10.here hx rfl (hb hby d6_7) rfl (tlt (by decide)).2.1 ?_
    show Steps p.tables e below (T10.setTop (mkF m 10 #[.val (.ref aa), .val (.int (2 : Int32)), .val (.ref bb), .val (.int (2 : Int32)), .val (.int (3 : Int32)), .val (.int (2 : Int32)), .val (.int qb)] [])) _
    refine XS.aloadN X10.here hx rfl (hb hby d6_10) rfl rfl ?_
    show Steps p.tables e below (T10.setTop (mkF m 11 #[.val (.ref aa), .val (.int (2 : Int32)), .val (.ref bb), .val (.int (2 : Int32)), .val (.int (3 : Int32)), .val (.int (2 : Int32)), .val (.int qb)] [(.ref aa)])) _
    refine XS.iloadN X10.here hx rfl (hb hby d6_11) rfl ?_
    show Steps p.tables e below (T10.setTop (mkF m 12 #[.val (.ref aa), .val (.int (2 : Int32)), .val (.ref bb), .val (.int (2 : Int32)), .val (.int (3 : Int32)), .val (.int (2 : Int32)), .val (.int qb)] [(.int (2 : Int32)), (.ref aa)])) _
    refine X10.caload hx (j := (2 : Int32)) (v := (.int qc)) (by rw [e10]; exact Arq13.1) (State.isArrayOf_alike hZ.alike Arq13.2.1) Arq13.2.2 (inb_of cSq13 ⟨by decide, by decide⟩) (Has.at cHq13 (inb_of cSq13 ⟨by decide, by decide⟩) rfl) (g := (mkF m 12 #[.val (.ref aa), .val (.int (2 : Int32)), .val (.ref bb), .val (.int (2 : Int32)), .val (.int (3 : Int32)), .val (.int (2 : Int32)), .val (.int qb)] [(.int (2 : Int32)), (.ref aa)])) rfl rfl (hb hby d6_12) _ ?_
    show Steps p.tables e below (T10.setTop (mkF m 13 #[.val (.ref aa), .val (.int (2 : Int32)), .val (.ref bb), .val (.int (2 : Int32)), .val (.int (3 : Int32)), .val (.int (2 : Int32)), .val (.int qb)] [(.int qc)])) _
    refine XS.istore X10.here hx rfl (hb hby d6_13) rfl (l' := #[.val (.ref aa), .val (.int (2 : Int32)), .val (.ref bb), .val (.int (2 : Int32)), .val (.int (3 : Int32)), .val (.int (2 : Int32)), .val (.int qc)]) rfl ?_
    show Steps p.tables e below (T10.setTop (mkF m 15 #[.val (.ref aa), .val (.int (2 : Int32)), .val (.ref bb), .val (.int (2 : Int32)), .val (.int (3 : Int32)), .val (.int (2 : Int32)), .val (.int qc)] [])) _
    refine XS.iload X10.here hx rfl (hb hby d6_15) rfl ?_
    show Steps p.tables e below (T10.setTop (mkF m 17 #[.val (.ref aa), .val (.int (2 : Int32)), .val (.ref bb), .val (.int (2 : Int32)), .val (.int (3 : Int32)), .val (.int (2 : Int32)), .val (.int qc)] [(.int qc)])) _
    refine XS.sipush X10.here hx rfl (hb hby d6_17) ?_
    show Steps p.tables e below (T10.setTop (mkF m 20 #[.val (.ref aa), .val (.int (2 : Int32)), .val (.ref bb), .val (.int (2 : Int32)), .val (.int (3 : Int32)), .val (.int (2 : Int32)), .val (.int qc)] [(.int (255 : Int32)), (.int qc)])) _
    refine XS.icmpYes X10.here hx rfl (pc0 := 20) (pc' := 26) rfl (hb hby d6_20) rfl (flt hqc).2.2.2 (by decide) (by decide) ?_
    show Steps p.tables e below (T10.setTop (mkF m 26 #[.val (.ref aa), .val (.int (2 : Int32)), .val (.ref bb), .val (.int (2 : Int32)), .val (.int (3 : Int32)), .val (.int (2 : Int32)), .val (.int qc)] [])) _
    refine XS.aloadN X10.here hx rfl (hb hby d6_26) rfl rfl ?_
    show Steps p.tables e below (T10.setTop (mkF m 27 #[.val (.ref aa), .val (.int (2 : Int32)), .val (.ref bb), .val (.int (2 : Int32)), .val (.int (3 : Int32)), .val (.int (2 : Int32)), .val (.int qc)] [(.ref bb)])) _
    refine XS.iloadN X10.here hx rfl (hb hby d6_27) rfl ?_
    show Steps p.tables e below (T10.setTop (mkF m 28 #[.val (.ref aa), .val (.int (2 : Int32)), .val (.ref bb), .val (.int (2 : Int32)), .val (.int (3 : Int32)), .val (.int (2 : Int32)), .val (.int qc)] [(.int (2 : Int32)), (.ref bb)])) _
    refine XS.iload X10.here hx rfl (hb hby d6_28) rfl ?_
    show Steps p.tables e below (T10.setTop (mkF m 30 #[.val (.ref aa), .val (.int (2 : Int32)), .val (.ref bb), .val (.int (2 : Int32)), .val (.int (3 : Int32)), .val (.int (2 : Int32)), .val (.int qc)] [(.int qc), (.int (2 : Int32)), (.ref bb)])) _
    refine XS.i2b X10.here hx rfl (hb hby d6_30) rfl ?_
    exact kt)
  obtain ⟨clq15, Arq15, ckq15, cSq15, cNq15, cHq15, cGq15⟩ := id V10
  obtain ⟨T16, h16, X16', e16, W16, st16⟩ := stB X10 hx hZ e10 Arq15 (j := (2 : Int32)) (inb_of cSq15 ⟨by decide, by decide⟩) (g := (mkF m 31 #[.val (.ref aa), .val (.int (2 : Int32)), .val (.ref bb), .val (.int (2 : Int32)), .val (.int (3 : Int32)), .val (.int (2 : Int32)), .val (.int qc)] [(.int (qc.toInt8.toInt32)), (.int (2 : Int32)), (.ref bb)])) rfl rfl (hb hby d6_31)
  obtain ⟨lc16, X16, N16⟩ : ∃ lc, Stand p l e ({ frames := 0, cells := 0, slots := 0, locals := 0 } : Room) s m #[(.ref aa), (.int (0 : Int32)), (.ref bb), (.int (0 : Int32)), (.int (3 : Int32))] below meth c T16 lc 0 0 ∧ Fr n0 lc := ⟨_, X16', Fr.snoc X16' N10 pr2⟩
  have V16 : Arv Z h16 bb kb .byte (3 : Int32) [(.int (nar .byte (qa.toInt8.toInt32))), (.int (nar .byte (qb.toInt8.toInt32))), (.int (nar .byte (qc.toInt8.toInt32)))] (.int (0 : Int32)) := Arv.set Arq15 ckq15 cSq15 cNq15 cHq15 cGq15 (fits_nar_byte _) W16 2 rfl (Nat.le_of_ble_eq_true rfl)
  have K17 : Gx p e below s₁ f0 T16 (mkF m 32 #[.val (.ref aa), .val (.int (2 : Int32)), .val (.ref bb), .val (.int (2 : Int32)), .val (.int (3 : Int32)), .val (.int (2 : Int32)), .val (.int qc)] []) := fun t kt => K14 t (st16 t kt)
  have K18 : Gx p e below s₁ f0 T16 (mkF m 46 #[.val (.ref aa), .val (.int (3 : Int32)), .val (.ref bb), .val (.int (3 : Int32)), .val (.int (3 : Int32)), .val (.int (3 : Int32)), .val (.int qc)] [(.int (3 : Int32))]) := fun t kt => K17 t (by
    show Steps p.tables e below (T16.setTop (mkF m 32 #[.val (.ref aa), .val (.int (2 : Int32)), .val (.ref bb), .val (.int (2 : Int32)), .val (.int (3 : Int32)), .val (.int (2 : Int32)), .val (.int qc)] [])) _
    refine XS.iinc X16.here hx rfl (hb hby d6_32) rfl (l' := #[.val (.ref aa), .val (.int (3 : Int32)), .val (.ref bb), .val (.int (2 : Int32)), .val (.int (3 : Int32)), .val (.int (2 : Int32)), .val (.int qc)]) rfl ?_
    show Steps p.tables e below (T16.setTop (mkF m 35 #[.val (.ref aa), .val (.int (3 : Int32)), .val (.ref bb), .val (.int (2 : Int32)), .val (.int (3 : Int32)), .val (.int (2 : Int32)), .val (.int qc)] [])) _
    refine XS.iinc X16.here hx rfl (hb hby d6_35) rfl (l' := #[.val (.ref aa), .val (.int (3 : Int32)), .val (.ref bb), .val (.int (3 : Int32)), .val (.int (3 : Int32)), .val (.int (2 : Int32)), .val (.int qc)]) rfl ?_
    show Steps p.tables e below (T16.setTop (mkF m 38 #[.val (.ref aa), .val (.int (3 : Int32)), .val (.ref bb), .val (.int (3 : Int32)), .val (.int (3 : Int32)), .val (.int (2 : Int32)), .val (.int qc)] [])) _
    refine XS.iinc X16.here hx rfl (hb hby d6_38) rfl (l' := #[.val (.ref aa), .val (.int (3 : Int32)), .val (.ref bb), .val (.int (3 : Int32)), .val (.int (3 : Int32)), .val (.int (3 : Int32)), .val (.int qc)]) rfl ?_
    show Steps p.tables e below (T16.setTop (mkF m 41 #[.val (.ref aa), .val (.int (3 : Int32)), .val (.ref bb), .val (.int (3 : Int32)), .val (.int (3 : Int32)), .val (.int (3 : Int32)), .val (.int qc)] [])) _
    refine XS.goto X16.here hx rfl (pc0 := 41) (pc' := 3) rfl (hb hby d6_41) (by decide) (by decide) ?_
    show Steps p.tables e below (T16.setTop (mkF m 3 #[.val (.ref aa), .val (.int (3 : Int32)), .val (.ref bb), .val (.int (3 : Int32)), .val (.int (3 : Int32)), .val (.int (3 : Int32)), .val (.int qc)] [])) _
    refine XS.iload X16.here hx rfl (hb hby d6_3) rfl ?_
    show Steps p.tables e below (T16.setTop (mkF m 5 #[.val (.ref aa), .val (.int (3 : Int32)), .val (.ref bb), .val (.int (3 : Int32)), .val (.int (3 : Int32)), .val (.int (3 : Int32)), .val (.int qc)] [(.int (3 : Int32))])) _
    refine XS.iload X16.here hx rfl (hb hby d6_5) rfl ?_
    show Steps p.tables e below (T16.setTop (mkF m 7 #[.val (.ref aa), .val (.int (3 : Int32)), .val (.ref bb), .val (.int (3 : Int32)), .val (.int (3 : Int32)), .val (.int (3 : Int32)), .val (.int qc)] [(.int (3 : Int32)), (.int (3 : Int32))])) _
    refine XS.icmpYes X16.here hx rfl (pc0 := 7) (pc' := 44) rfl (hb hby d6_7) rfl (flt (by decide)).2.1 (by decide) (by decide) ?_
    show Steps p.tables e below (T16.setTop (mkF m 44 #[.val (.ref aa), .val (.int (3 : Int32)), .val (.ref bb), .val (.int (3 : Int32)), .val (.int (3 : Int32)), .val (.int (3 : Int32)), .val (.int qc)] [])) _
    refine XS.iload X16.here hx rfl (hb hby d6_44) rfl ?_
    exact kt)
  have kp20 : Keep h0 h16 [bb] := ((((Keep.refl h0 [bb]).wr W4 (Or.inl (List.mem_of_getElem? (i := 0) rfl))).wr W10 (Or.inl (List.mem_of_getElem? (i := 0) rfl))).wr W16 (Or.inl (List.mem_of_getElem? (i := 0) rfl)))
  obtain ⟨fs19, hr19, hrun19, hended19, hW19, hsame19⟩ := X16.leave (v := some (.int (3 : Int32))) (fun h => by rw [Bd.returns] at h; cases h)
  refine ⟨_, _, pre0 _ (K18 _ ?_), hrun19, hended19, _, _, rfl, ?_, ⟨_, rfl⟩, hW19, hsame19.mono (by decide) (by decide)⟩
  · exact retI X16 hx Bd.returns (hb hby d6_46) hr19
  · show QCm5_3 Z aa bb ka kb qa qb qc h0 n0 _ T16.heap _
    rw [e16]
    exact ⟨rfl, N16, kp20, V16⟩
theorem ef_Cm3_3 (m : MethodId) (aa : Addr) : entryFrame m #[(.ref aa), (.int (0 : Int32)), (.int (3 : Int32))] 6 = mkF m 0 #[.val (.ref aa), .val (.int (0 : Int32)), .val (.int (3 : Int32)), .unset, .unset, .unset] [] := by first | (simp [entryFrame, mkF, argsToLocals, Value.category]; done) | rfl
def QCm3_3 (Z : State) (aa : Addr) (ka : ClassId) (qa : Int32) (qb : Int32) (qc : Int32) (h0 : Heap) (n0 : Nat) (v : Option Value) (h : Heap) (L : List Loc) : Prop := ∃ tb : Addr, ∃ tk : ClassId, v = some (.ref tb) ∧ Fr n0 L ∧ Keep h0 h [] ∧ h0.size ≤ tb ∧ Arv Z h tb tk .byte (3 : Int32) [(.int (nar .byte (qa.toInt8.toInt32))), (.int (nar .byte (qb.toInt8.toInt32))), (.int (nar .byte (qc.toInt8.toInt32)))] (.int (0 : Int32))
set_option maxRecDepth 65536 in
set_option maxHeartbeats 40000000 in
theorem rmCm3_3 (l : Launch) (Z : State) (a0 : Array Value) (hw : ∀ d ∈ tables_1, d.before a0 Z = true) (ws : List Jvm.Cond) (aa : Addr) (ka : ClassId) (qa : Int32) (qb : Int32) (qc : Int32) (h0 : Heap) (n0 : Nat) (Z0 : n0 ≤ h0.size) (pr0 : Arv Z h0 aa ka .char (3 : Int32) [(.int qa), (.int qb), (.int qc)] (.int (0 : Int32))) (hqa : ¬ ((255 : Int32) < qa)) (hqb : ¬ ((255 : Int32) < qb)) (hqc : ¬ ((255 : Int32) < qc)) :
    MetFree l (⟨"java/lang/StringUTF16", "compress", "([CII)[B"⟩ : MethodName) (head1 (Jvm.Cond.code (⟨"java/lang/StringUTF16", "compress", "([CII)[B"⟩ : MethodName) jdk_52_method_16_code 6 (some (.array .byte)) :: ws) ({ frames := 1, cells := 1, slots := 3, locals := 18 } : Room)) (fun a U => a = #[(.ref aa), (.int (0 : Int32)), (.int (3 : Int32))] ∧ Z.Warmed39 U.vm ∧ U.heap = h0) (fun _ _ _ _ _ => True) (fun _ U o U' => ∃ v L, o = .returned v ∧ QCm3_3 Z aa ka qa qb qc h0 n0 v U'.heap L ∧ FrameEnd U o U' L ({ frames := 1, cells := 1, slots := 3, locals := 18 } : Room).cells ({ frames := 1, cells := 1, slots := 3, locals := 18 } : Room).slots) := by
  refine MetFree.of_bodySF (plainFor_of_name pn_5) hisR ?_
  intro p e s m args below meth c s₁ Bd hml0 hP hK
  obtain ⟨rfl, hZ, hh⟩ := hP
  have hx := Bd.exec
  have hby := Bd.bytes
  have hml : c.maxLocals = 6 := hml0
  have hown : s.vm.findClass "java/lang/StringUTF16" = some m.cls := findClass_of_methodNamed Bd.named
  have hnm := (name_of_methodNamed Bd.named Bd.method).1
  have X0 : Stand p l e ({ frames := 1, cells := 1, slots := 3, locals := 18 } : Room) s m #[(.ref aa), (.int (0 : Int32)), (.int (3 : Int32))] below meth c s₁ [] 0 0 := Stand.of_body Bd
  have hs0 : h0 = s.heap := hh.symm
  have e0 : s₁.heap = h0 := by rw [← hh, Bd.state]; rfl
  have N0 := Fr.nil n0
  obtain ⟨f0, hf0⟩ : ∃ f, f = entryFrame m #[(.ref aa), (.int (0 : Int32)), (.int (3 : Int32))] 6 := ⟨_, rfl⟩
  have pre0 : ∀ t, Steps p.tables e below (s₁.setTop f0) t → Steps p.tables e below (s₁.setTop (entryFrame m #[(.ref aa), (.int (0 : Int32)), (.int (3 : Int32))] 6)) t := fun t k => hf0 ▸ k
  have K0 : Gx p e below s₁ f0 s₁ (mkF m 0 #[.val (.ref aa), .val (.int (0 : Int32)), .val (.int (3 : Int32)), .unset, .unset, .unset] []) := fun t kt => by rw [hf0]; exact castTop (ef_Cm3_3 m aa) kt
  have K1 : Gx p e below s₁ f0 s₁ (mkF m 1 #[.val (.ref aa), .val (.int (0 : Int32)), .val (.int (3 : Int32)), .unset, .unset, .unset] [(.int (3 : Int32))]) := fun t kt => K0 t (by
    show Steps p.tables e below (s₁.setTop (mkF m 0 #[.val (.ref aa), .val (.int (0 : Int32)), .val (.int (3 : Int32)), .unset, .unset, .unset] [])) _
    refine XS.iloadN X0.here hx rfl (hb hby d5_0) rfl ?_
    exact kt)
  obtain ⟨T2, h2, k2, X2, e2, E2, A2, st2⟩ := newP X0 hx hZ (hw _ (List.mem_of_getElem? (i := 22) rfl)) e0 (g := (mkF m 1 #[.val (.ref aa), .val (.int (0 : Int32)), .val (.int (3 : Int32)), .unset, .unset, .unset] [(.int (3 : Int32))])) rfl (hb hby d5_1) rfl (by decide) (cap := 3) (by decide) (by decide) (by decide) (by decide)
  obtain ⟨b2, g2⟩ : ∃ z, z = h0.size := ⟨_, rfl⟩
  rw [← g2] at A2 st2
  have V2 : Arv Z h2 b2 k2 .byte (3 : Int32) [(.int (0 : Int32)), (.int (0 : Int32)), (.int (0 : Int32))] (.int (0 : Int32)) := (Arv.new A2 (by decide)).pad (pad_rep [] (.int (0 : Int32)) 3)
  have K3 : Gx p e below s₁ f0 T2 (mkF m 3 #[.val (.ref aa), .val (.int (0 : Int32)), .val (.int (3 : Int32)), .unset, .unset, .unset] [(.ref b2)]) := fun t kt => K1 t (st2 t kt)
  have K4 : Gx p e below s₁ f0 T2 (mkF m 9 #[.val (.ref aa), .val (.int (0 : Int32)), .val (.int (3 : Int32)), .val (.ref b2), .unset, .unset] [(.int (3 : Int32)), (.int (0 : Int32)), (.ref b2), (.int (0 : Int32)), (.ref aa)]) := fun t kt => K3 t (by
    show Steps p.tables e below (T2.setTop (mkF m 3 #[.val (.ref aa), .val (.int (0 : Int32)), .val (.int (3 : Int32)), .unset, .unset, .unset] [(.ref b2)])) _
    refine XS.astoreN X2.here hx rfl (hb hby d5_3) rfl rfl (l' := #[.val (.ref aa), .val (.int (0 : Int32)), .val (.int (3 : Int32)), .val (.ref b2), .unset, .unset]) rfl ?_
    show Steps p.tables e below (T2.setTop (mkF m 4 #[.val (.ref aa), .val (.int (0 : Int32)), .val (.int (3 : Int32)), .val (.ref b2), .unset, .unset] [])) _
    refine XS.aloadN X2.here hx rfl (hb hby d5_4) rfl rfl ?_
    show Steps p.tables e below (T2.setTop (mkF m 5 #[.val (.ref aa), .val (.int (0 : Int32)), .val (.int (3 : Int32)), .val (.ref b2), .unset, .unset] [(.ref aa)])) _
    refine XS.iloadN X2.here hx rfl (hb hby d5_5) rfl ?_
    show Steps p.tables e below (T2.setTop (mkF m 6 #[.val (.ref aa), .val (.int (0 : Int32)), .val (.int (3 : Int32)), .val (.ref b2), .unset, .unset] [(.int (0 : Int32)), (.ref aa)])) _
    refine XS.aloadN X2.here hx rfl (hb hby d5_6) rfl rfl ?_
    show Steps p.tables e below (T2.setTop (mkF m 7 #[.val (.ref aa), .val (.int (0 : Int32)), .val (.int (3 : Int32)), .val (.ref b2), .unset, .unset] [(.ref b2), (.int (0 : Int32)), (.ref aa)])) _
    refine XS.iconst X2.here hx rfl (hb hby d5_7) ?_
    show Steps p.tables e below (T2.setTop (mkF m 8 #[.val (.ref aa), .val (.int (0 : Int32)), .val (.int (3 : Int32)), .val (.ref b2), .unset, .unset] [(.int (0 : Int32)), (.ref b2), (.int (0 : Int32)), (.ref aa)])) _
    refine XS.iloadN X2.here hx rfl (hb hby d5_8) rfl ?_
    exact kt)
  have f5 : Arv Z h2 aa ka .char (3 : Int32) [(.int qa), (.int qb), (.int qc)] (.int (0 : Int32)) := (pr0.ext E2)
  have kp6 : Keep h0 h2 [] := ((Keep.refl h0 []).ext E2)
  obtain ⟨_, _, ⟨T7, L7, k7, n7⟩, -, X7', ⟨Lc7, hQ7, l7, y7, z7⟩, st7⟩ := Jvm.LawKit.callS X2 hx (y := (⟨"java/lang/StringUTF16", "compress", "([CI[BII)I"⟩ : MethodName)) hown (mvT hZ (hw _ (List.mem_of_getElem? (i := 34) rfl))) (mvT hZ (hw _ (List.mem_of_getElem? (i := 35) rfl))) (mvT hZ (hw _ (List.mem_of_getElem? (i := 32) rfl))) (mvT hZ (hw _ (List.mem_of_getElem? (i := 36) rfl))) (by decide) (backOf (W := 0) (rmCm5_3 l Z a0 hw [] aa b2 ka k2 qa qb qc h2 n0 (Nat.le_trans Z0 kp6.1) f5 V2 (Nat.le_trans Z0 (Nat.le_trans (Keep.refl h0 []).1 (Nat.le_of_eq g2.symm))) (Nat.ne_of_lt (Nat.lt_of_lt_of_le pr0.lt (Nat.le_of_eq g2.symm))) hqa hqb hqc) hZ (hw _ (List.mem_of_getElem? (i := 36) rfl)) (hw _ (List.mem_of_getElem? (i := 32) rfl)) (by decide) (by decide)) (g := (mkF m 9 #[.val (.ref aa), .val (.int (0 : Int32)), .val (.int (3 : Int32)), .val (.ref b2), .unset, .unset] [(.int (3 : Int32)), (.int (0 : Int32)), (.ref b2), (.int (0 : Int32)), (.ref aa)])) rfl (by rw [hml]; rfl) (argsL := [(.ref aa), (.int (0 : Int32)), (.ref b2), (.int (0 : Int32)), (.int (3 : Int32))]) (rest := []) (lenOf pd___CI_BII_I rfl) rfl (by show 2 * 0 + _ ≤ _; exact Nat.le_of_eq rfl) (hb hby d5_9) (fun _ _ => ⟨rfl, e2, (by decide : 1 + 0 ≤ _), (by decide : 3 + 0 ≤ _)⟩)
  dsimp only [Pt.U, Pt.locs, Pt.cells, Pt.slots] at X7' l7 y7 z7 st7 hQ7
  subst l7 y7 z7
  obtain ⟨h7, e7⟩ : ∃ z, T7.heap = z := ⟨_, rfl⟩
  rw [e7] at hQ7
  obtain ⟨rfl, N7q, Kc7, f8⟩ := hQ7
  obtain ⟨lc7, X7, N7⟩ : ∃ lc, Stand p l e ({ frames := 1, cells := 1, slots := 3, locals := 18 } : Room) s m #[(.ref aa), (.int (0 : Int32)), (.int (3 : Int32))] below meth c T7 lc 1 3 ∧ Fr n0 lc := ⟨_, X7', Fr.app N0 N7q⟩
  have K9 : Gx p e below s₁ f0 T7 (mkF m 12 #[.val (.ref aa), .val (.int (0 : Int32)), .val (.int (3 : Int32)), .val (.ref b2), .unset, .unset] [(.int (3 : Int32))]) := fun t kt => K4 t (st7 t kt)
  have K10 : Gx p e below s₁ f0 T7 (mkF m 58 #[.val (.ref aa), .val (.int (0 : Int32)), .val (.int (3 : Int32)), .val (.ref b2), .val (.int (3 : Int32)), .unset] [(.ref b2)]) := fun t kt => K9 t (by
    show Steps p.tables e below (T7.setTop (mkF m 12 #[.val (.ref aa), .val (.int (0 : Int32)), .val (.int (3 : Int32)), .val (.ref b2), .unset, .unset] [(.int (3 : Int32))])) _
    refine XS.istore X7.here hx rfl (hb hby d5_12) rfl (l' := #[.val (.ref aa), .val (.int (0 : Int32)), .val (.int (3 : Int32)), .val (.ref b2), .val (.int (3 : Int32)), .unset]) rfl ?_
    show Steps p.tables e below (T7.setTop (mkF m 14 #[.val (.ref aa), .val (.int (0 : Int32)), .val (.int (3 : Int32)), .val (.ref b2), .val (.int (3 : Int32)), .unset] [])) _
    refine XS.iload X7.here hx rfl (hb hby d5_14) rfl ?_
    show Steps p.tables e below (T7.setTop (mkF m 16 #[.val (.ref aa), .val (.int (0 : Int32)), .val (.int (3 : Int32)), .val (.ref b2), .val (.int (3 : Int32)), .unset] [(.int (3 : Int32))])) _
    refine XS.iloadN X7.here hx rfl (hb hby d5_16) rfl ?_
    show Steps p.tables e below (T7.setTop (mkF m 17 #[.val (.ref aa), .val (.int (0 : Int32)), .val (.int (3 : Int32)), .val (.ref b2), .val (.int (3 : Int32)), .unset] [(.int (3 : Int32)), (.int (3 : Int32))])) _
    refine XS.icmpYes X7.here hx rfl (pc0 := 17) (pc' := 57) rfl (hb hby d5_17) rfl (teq (by decide)).1 (by decide) (by decide) ?_
    show Steps p.tables e below (T7.setTop (mkF m 57 #[.val (.ref aa), .val (.int (0 : Int32)), .val (.int (3 : Int32)), .val (.ref b2), .val (.int (3 : Int32)), .unset] [])) _
    refine XS.aloadN X7.here hx rfl (hb hby d5_57) rfl rfl ?_
    exact kt)
  have kp12 : Keep h0 h7 [] := (Keep.trans kp6 Kc7 (allS (Or.inr (Nat.le_trans (Keep.refl h0 []).1 (Nat.le_of_eq g2.symm))) all0))
  obtain ⟨fs11, hr11, hrun11, hended11, hW11, hsame11⟩ := X7.leave (v := some (.ref b2)) (fun h => by rw [Bd.returns] at h; cases h)
  refine ⟨_, _, pre0 _ (K10 _ ?_), hrun11, hended11, _, _, rfl, ?_, ⟨_, rfl⟩, hW11, hsame11.mono (by decide) (by decide)⟩
  · show Steps p.tables e below (T7.setTop (mkF m 58 #[.val (.ref aa), .val (.int (0 : Int32)), .val (.int (3 : Int32)), .val (.ref b2), .val (.int (3 : Int32)), .unset] [(.ref b2)])) _
    jvm_step X7.here [X7.here.top, hx, (hb hby d5_58), X7.method', Bd.returns, Value.isRef, FieldType.isReference]
    first | (intro acts; rw [hr11 _ acts rfl rfl rfl]) | rw [hr11 _ _ rfl rfl rfl]
    exact Steps.refl _
  · show QCm3_3 Z aa ka qa qb qc h0 n0 _ T7.heap _
    rw [e7]
    exact ⟨b2, k2, rfl, N7, kp12, (Nat.le_trans (Keep.refl h0 []).1 (Nat.le_of_eq g2.symm)), f8⟩
theorem ef_Cdr_3 (m : MethodId) (aa : Addr) : entryFrame m #[(.ref aa), (.int (3 : Int32))] 2 = mkF m 0 #[.val (.ref aa), .val (.int (3 : Int32))] [] := by first | (simp [entryFrame, mkF, argsToLocals, Value.category]; done) | rfl
def QCdr_3 (Z : State) (aa : Addr) (ka : ClassId) (xs_ : List Value) (h0 : Heap) (n0 : Nat) (v : Option Value) (h : Heap) (L : List Loc) : Prop := v = some (.int (0 : Int32)) ∧ Fr n0 L ∧ h = h0
set_option maxRecDepth 65536 in
set_option maxHeartbeats 40000000 in
theorem rmCdr_3 (l : Launch) (Z : State) (a0 : Array Value) (hw : ∀ d ∈ tables_1, d.before a0 Z = true) (ws : List Jvm.Cond) (aa : Addr) (ka : ClassId) (xs_ : List Value) (h0 : Heap) (n0 : Nat) (Z0 : n0 ≤ h0.size) (pr0 : Arv Z h0 aa ka .byte (3 : Int32) xs_ (.int (0 : Int32))) :
    MetFree l (⟨"java/lang/StringUTF16", "coderFromArrayLen", "([BI)B"⟩ : MethodName) (head1 (Jvm.Cond.code (⟨"java/lang/StringUTF16", "coderFromArrayLen", "([BI)B"⟩ : MethodName) jdk_52_method_15_code 2 (some .byte) :: ws) ({ frames := 0, cells := 0, slots := 0, locals := 0 } : Room)) (fun a U => a = #[(.ref aa), (.int (3 : Int32))] ∧ Z.Warmed39 U.vm ∧ U.heap = h0) (fun _ _ _ _ _ => True) (fun _ U o U' => ∃ v L, o = .returned v ∧ QCdr_3 Z aa ka xs_ h0 n0 v U'.heap L ∧ FrameEnd U o U' L ({ frames := 0, cells := 0, slots := 0, locals := 0 } : Room).cells ({ frames := 0, cells := 0, slots := 0, locals := 0 } : Room).slots) := by
  refine MetFree.of_bodySF (plainFor_of_name pn_7) hisR ?_
  intro p e s m args below meth c s₁ Bd hml0 hP hK
  obtain ⟨rfl, hZ, hh⟩ := hP
  have hx := Bd.exec
  have hby := Bd.bytes
  have hml : c.maxLocals = 2 := hml0
  have hown : s.vm.findClass "java/lang/StringUTF16" = some m.cls := findClass_of_methodNamed Bd.named
  have hnm := (name_of_methodNamed Bd.named Bd.method).1
  have X0 : Stand p l e ({ frames := 0, cells := 0, slots := 0, locals := 0 } : Room) s m #[(.ref aa), (.int (3 : Int32))] below meth c s₁ [] 0 0 := Stand.of_body Bd
  have hs0 : h0 = s.heap := hh.symm
  have e0 : s₁.heap = h0 := by rw [← hh, Bd.state]; rfl
  have N0 := Fr.nil n0
  obtain ⟨f0, hf0⟩ : ∃ f, f = entryFrame m #[(.ref aa), (.int (3 : Int32))] 2 := ⟨_, rfl⟩
  have pre0 : ∀ t, Steps p.tables e below (s₁.setTop f0) t → Steps p.tables e below (s₁.setTop (entryFrame m #[(.ref aa), (.int (3 : Int32))] 2)) t := fun t k => hf0 ▸ k
  have K0 : Gx p e below s₁ f0 s₁ (mkF m 0 #[.val (.ref aa), .val (.int (3 : Int32))] []) := fun t kt => by rw [hf0]; exact castTop (ef_Cdr_3 m aa) kt
  obtain ⟨clq1, Arq1, ckq1, cSq1, cNq1, cHq1, cGq1⟩ := id pr0
  have K2 : Gx p e below s₁ f0 s₁ (mkF m 8 #[.val (.ref aa), .val (.int (3 : Int32))] [(.int ((((0 : Int32).toUInt32 >>> ((31 : Int32) &&& 31).toUInt32).toInt32).toInt8.toInt32))]) := fun t kt => K0 t (by
    show Steps p.tables e below (s₁.setTop (mkF m 0 #[.val (.ref aa), .val (.int (3 : Int32))] [])) _
    refine XS.iloadN X0.here hx rfl (hb hby d7_0) rfl ?_
    show Steps p.tables e below (s₁.setTop (mkF m 1 #[.val (.ref aa), .val (.int (3 : Int32))] [(.int (3 : Int32))])) _
    refine XS.aloadN X0.here hx rfl (hb hby d7_1) rfl rfl ?_
    show Steps p.tables e below (s₁.setTop (mkF m 2 #[.val (.ref aa), .val (.int (3 : Int32))] [(.ref aa), (.int (3 : Int32))])) _
    refine X0.arraylength hx (by rw [e0]; exact Arq1.1) (State.isArrayOf_alike hZ.alike Arq1.2.1) (g := (mkF m 2 #[.val (.ref aa), .val (.int (3 : Int32))] [(.ref aa), (.int (3 : Int32))])) rfl rfl (hb hby d7_2) _ ?_
    rw [len_of cSq1 cNq1]
    show Steps p.tables e below (s₁.setTop (mkF m 3 #[.val (.ref aa), .val (.int (3 : Int32))] [(.int (3 : Int32)), (.int (3 : Int32))])) _
    refine XS.isub X0.here hx rfl (hb hby d7_3) rfl ?_
    show Steps p.tables e below (s₁.setTop (mkF m 4 #[.val (.ref aa), .val (.int (3 : Int32))] [(.int (0 : Int32))])) _
    refine XS.bipush X0.here hx rfl (hb hby d7_4) ?_
    show Steps p.tables e below (s₁.setTop (mkF m 6 #[.val (.ref aa), .val (.int (3 : Int32))] [(.int (31 : Int32)), (.int (0 : Int32))])) _
    refine XS.iushr X0.here hx rfl (hb hby d7_6) rfl ?_
    show Steps p.tables e below (s₁.setTop (mkF m 7 #[.val (.ref aa), .val (.int (3 : Int32))] [(.int (((0 : Int32).toUInt32 >>> ((31 : Int32) &&& 31).toUInt32).toInt32))])) _
    refine XS.i2b X0.here hx rfl (hb hby d7_7) rfl ?_
    exact kt)
  rw [(by decide : ((((0 : Int32).toUInt32 >>> ((31 : Int32) &&& 31).toUInt32).toInt32).toInt8.toInt32) = (0 : Int32))] at K2
  obtain ⟨fs3, hr3, hrun3, hended3, hW3, hsame3⟩ := X0.leave (v := some (.int (0 : Int32))) (fun h => by rw [Bd.returns] at h; cases h)
  refine ⟨_, _, pre0 _ (K2 _ ?_), hrun3, hended3, _, _, rfl, ?_, ⟨_, rfl⟩, hW3, hsame3.mono (by decide) (by decide)⟩
  · exact retN X0 hx (t := .byte) Bd.returns (by simp) (hb hby d7_8) hr3
  · show QCdr_3 Z aa ka xs_ h0 n0 _ s₁.heap _
    rw [e0]
    exact ⟨rfl, N0, rfl⟩
theorem ef_In4_3 (m : MethodId) (a1 : Addr) (aa : Addr) : entryFrame m #[(.ref a1), (.ref aa), (.int (0 : Int32)), (.int (3 : Int32)), .null] 6 = mkF m 0 #[.val (.ref a1), .val (.ref aa), .val (.int (0 : Int32)), .val (.int (3 : Int32)), .val .null, .unset] [] := by first | (simp [entryFrame, mkF, argsToLocals, Value.category]; done) | rfl
def QIn4_3 (Z : State) (a1 : Addr) (aa : Addr) (ka : ClassId) (qa : Int32) (qb : Int32) (qc : Int32) (cw : Int32) (h0 : Heap) (n0 : Nat) (v : Option Value) (h : Heap) (L : List Loc) : Prop := ∃ tb : Addr, ∃ tk : ClassId, v = none ∧ Fr n0 L ∧ Keep h0 h [a1] ∧ h0.size ≤ tb ∧ Exa Z h a1 "java/lang/String" ∧ Fld Z h a1 "java/lang/String" "coder" "B" (.int (0 : Int32)) ∧ Fld Z h a1 "java/lang/String" "value" "[B" (.ref tb) ∧ Arv Z h tb tk .byte (3 : Int32) [(.int (nar .byte (qa.toInt8.toInt32))), (.int (nar .byte (qb.toInt8.toInt32))), (.int (nar .byte (qc.toInt8.toInt32)))] (.int (0 : Int32))
set_option maxRecDepth 65536 in
set_option maxHeartbeats 40000000 in
theorem rmIn4_3 (l : Launch) (Z : State) (a0 : Array Value) (hw : ∀ d ∈ tables_1, d.before a0 Z = true) (ws : List Jvm.Cond) (a1 : Addr) (aa : Addr) (ka : ClassId) (qa : Int32) (qb : Int32) (qc : Int32) (cw : Int32) (h0 : Heap) (n0 : Nat) (Z0 : n0 ≤ h0.size) (pr0 : Exa Z h0 a1 "java/lang/String") (pr1 : n0 ≤ a1) (pr2 : Fld Z h0 a1 "java/lang/String" "value" "[B" .null) (pr3 : Fld Z h0 a1 "java/lang/String" "coder" "B" (.int (0 : Int32))) (pr4 : Arv Z h0 aa ka .char (3 : Int32) [(.int qa), (.int qb), (.int qc)] (.int (0 : Int32))) (hqa : ¬ ((255 : Int32) < qa)) (hqb : ¬ ((255 : Int32) < qb)) (hqc : ¬ ((255 : Int32) < qc)) (pr8 : Old Z n0 h0) (pr9 : Sta Z Z.heap "java/lang/String" "COMPACT_STRINGS" "Z" (.int cw)) (hcw : ¬ (cw = (0 : Int32))) :
    MetFree l (⟨"java/lang/String", "<init>", "([CIILjava/lang/Void;)V"⟩ : MethodName) (head1 (Jvm.Cond.code (⟨"java/lang/String", "<init>", "([CIILjava/lang/Void;)V"⟩ : MethodName) jdk_42_method_149_code 6 none :: ws) ({ frames := 2, cells := 1, slots := 3, locals := 35 } : Room)) (fun a U => a = #[(.ref a1), (.ref aa), (.int (0 : Int32)), (.int (3 : Int32)), .null] ∧ Z.Warmed39 U.vm ∧ U.heap = h0) (fun _ _ _ _ _ => True) (fun _ U o U' => ∃ v L, o = .returned v ∧ QIn4_3 Z a1 aa ka qa qb qc cw h0 n0 v U'.heap L ∧ FrameEnd U o U' L ({ frames := 2, cells := 1, slots := 3, locals := 35 } : Room).cells ({ frames := 2, cells := 1, slots := 3, locals := 35 } : Room).slots) := by
  refine MetFree.of_bodySF (plainFor_of_name pn_3) hisR ?_
  intro p e s m args below meth c s₁ Bd hml0 hP hK
  obtain ⟨rfl, hZ, hh⟩ := hP
  have hx := Bd.exec
  have hby := Bd.bytes
  have hml : c.maxLocals = 6 := hml0
  have hown : s.vm.findClass "java/lang/String" = some m.cls := findClass_of_methodNamed Bd.named
  have hnm := (name_of_methodNamed Bd.named Bd.method).1
  have X0 : Stand p l e ({ frames := 2, cells := 1, slots := 3, locals := 35 } : Room) s m #[(.ref a1), (.ref aa), (.int (0 : Int32)), (.int (3 : Int32)), .null] below meth c s₁ [] 0 0 := Stand.of_body Bd
  have hs0 : h0 = s.heap := hh.symm
  have e0 : s₁.heap = h0 := by rw [← hh, Bd.state]; rfl
  have N0 := Fr.nil n0
  obtain ⟨f0, hf0⟩ : ∃ f, f = entryFrame m #[(.ref a1), (.ref aa), (.int (0 : Int32)), (.int (3 : Int32)), .null] 6 := ⟨_, rfl⟩
  have pre0 : ∀ t, Steps p.tables e below (s₁.setTop f0) t → Steps p.tables e below (s₁.setTop (entryFrame m #[(.ref a1), (.ref aa), (.int (0 : Int32)), (.int (3 : Int32)), .null] 6)) t := fun t k => hf0 ▸ k
  have K0 : Gx p e below s₁ f0 s₁ (mkF m 0 #[.val (.ref a1), .val (.ref aa), .val (.int (0 : Int32)), .val (.int (3 : Int32)), .val .null, .unset] []) := fun t kt => by rw [hf0]; exact castTop (ef_In4_3 m a1 aa) kt
  have K1 : Gx p e below s₁ f0 s₁ (mkF m 1 #[.val (.ref a1), .val (.ref aa), .val (.int (0 : Int32)), .val (.int (3 : Int32)), .val .null, .unset] [(.ref a1)]) := fun t kt => K0 t (by
    show Steps p.tables e below (s₁.setTop (mkF m 0 #[.val (.ref a1), .val (.ref aa), .val (.int (0 : Int32)), .val (.int (3 : Int32)), .val .null, .unset] [])) _
    refine XS.aloadN X0.here hx rfl (hb hby d3_0) rfl rfl ?_
    exact kt)
  obtain ⟨T2, X2, e2, st2⟩ := initO X0 hx hZ hown (hw _ (List.mem_of_getElem? (i := 18) rfl)) (hw _ (List.mem_of_getElem? (i := 19) rfl)) (hw _ (List.mem_of_getElem? (i := 20) rfl)) e0 (g := (mkF m 1 #[.val (.ref a1), .val (.ref aa), .val (.int (0 : Int32)), .val (.int (3 : Int32)), .val .null, .unset] [(.ref a1)])) rfl (by rw [hml]; rfl) rfl (hb hby d3_1) (by decide) (W := 0) (by show 2 * 0 + _ ≤ _; exact Nat.le_of_eq rfl) (by decide)
  have K3 : Gx p e below s₁ f0 T2 (mkF m 4 #[.val (.ref a1), .val (.ref aa), .val (.int (0 : Int32)), .val (.int (3 : Int32)), .val .null, .unset] []) := fun t kt => K1 t (st2 t kt)
  have K4 : Gx p e below s₁ f0 T2 (mkF m 27 #[.val (.ref a1), .val (.ref aa), .val (.int (0 : Int32)), .val (.int (3 : Int32)), .val .null, .unset] []) := fun t kt => K3 t (by
    show Steps p.tables e below (T2.setTop (mkF m 4 #[.val (.ref a1), .val (.ref aa), .val (.int (0 : Int32)), .val (.int (3 : Int32)), .val .null, .unset] [])) _
    refine XS.iloadN X2.here hx rfl (hb hby d3_4) rfl ?_
    show Steps p.tables e below (T2.setTop (mkF m 5 #[.val (.ref a1), .val (.ref aa), .val (.int (0 : Int32)), .val (.int (3 : Int32)), .val .null, .unset] [(.int (3 : Int32))])) _
    refine XS.ifYes X2.here hx rfl (pc0 := 5) (pc' := 27) rfl (hb hby d3_5) rfl ((if0 _ _).trans (feq (by decide)).2) (by decide) (by decide) ?_
    exact kt)
  have f5 : Sta Z h0 "java/lang/String" "COMPACT_STRINGS" "Z" (.int cw) := Sta.ext pr8.2 pr9
  obtain ⟨T6, X6, e6, st6⟩ := getS2 X2 hx hZ hown (host := "") (Or.inl (hw _ (List.mem_of_getElem? (i := 29) rfl))) Via.refl e2 f5 (g := (mkF m 27 #[.val (.ref a1), .val (.ref aa), .val (.int (0 : Int32)), .val (.int (3 : Int32)), .val .null, .unset] [])) rfl (hb hby d3_27)
  have K7 : Gx p e below s₁ f0 T6 (mkF m 30 #[.val (.ref a1), .val (.ref aa), .val (.int (0 : Int32)), .val (.int (3 : Int32)), .val .null, .unset] [(.int cw)]) := fun t kt => K4 t (st6 t kt)
  have K8 : Gx p e below s₁ f0 T6 (mkF m 36 #[.val (.ref a1), .val (.ref aa), .val (.int (0 : Int32)), .val (.int (3 : Int32)), .val .null, .unset] [(.int (3 : Int32)), (.int (0 : Int32)), (.ref aa)]) := fun t kt => K7 t (by
    show Steps p.tables e below (T6.setTop (mkF m 30 #[.val (.ref a1), .val (.ref aa), .val (.int (0 : Int32)), .val (.int (3 : Int32)), .val .null, .unset] [(.int cw)])) _
    refine XS.ifNo X6.here hx rfl (hb hby d3_30) rfl ((if0 _ _).trans (feq hcw).1) ?_
    show Steps p.tables e below (T6.setTop (mkF m 33 #[.val (.ref a1), .val (.ref aa), .val (.int (0 : Int32)), .val (.int (3 : Int32)), .val .null, .unset] [])) _
    refine XS.aloadN X6.here hx rfl (hb hby d3_33) rfl rfl ?_
    show Steps p.tables e below (T6.setTop (mkF m 34 #[.val (.ref a1), .val (.ref aa), .val (.int (0 : Int32)), .val (.int (3 : Int32)), .val .null, .unset] [(.ref aa)])) _
    refine XS.iloadN X6.here hx rfl (hb hby d3_34) rfl ?_
    show Steps p.tables e below (T6.setTop (mkF m 35 #[.val (.ref a1), .val (.ref aa), .val (.int (0 : Int32)), .val (.int (3 : Int32)), .val .null, .unset] [(.int (0 : Int32)), (.ref aa)])) _
    refine XS.iloadN X6.here hx rfl (hb hby d3_35) rfl ?_
    exact kt)
  obtain ⟨_, _, ⟨T9, L9, k9, n9⟩, -, X9', ⟨Lc9, hQ9, l9, y9, z9⟩, st9⟩ := Jvm.LawKit.callS X6 hx (y := (⟨"java/lang/StringUTF16", "compress", "([CII)[B"⟩ : MethodName)) hown (mvT hZ (hw _ (List.mem_of_getElem? (i := 30) rfl))) (mvT hZ (hw _ (List.mem_of_getElem? (i := 31) rfl))) (mvT hZ (hw _ (List.mem_of_getElem? (i := 32) rfl))) (mvT hZ (hw _ (List.mem_of_getElem? (i := 33) rfl))) (by decide) (backOf (W := 0) (rmCm3_3 l Z a0 hw [] aa ka qa qb qc h0 n0 (Nat.le_trans Z0 (Keep.refl h0 [a1]).1) pr4 hqa hqb hqc) hZ (hw _ (List.mem_of_getElem? (i := 33) rfl)) (hw _ (List.mem_of_getElem? (i := 32) rfl)) (by decide) (by decide)) (g := (mkF m 36 #[.val (.ref a1), .val (.ref aa), .val (.int (0 : Int32)), .val (.int (3 : Int32)), .val .null, .unset] [(.int (3 : Int32)), (.int (0 : Int32)), (.ref aa)])) rfl (by rw [hml]; rfl) (argsL := [(.ref aa), (.int (0 : Int32)), (.int (3 : Int32))]) (rest := []) (lenOf pd___CII__B rfl) rfl (by show 2 * 0 + _ ≤ _; exact Nat.le_of_eq rfl) (hb hby d3_36) (fun _ _ => ⟨rfl, e6, (by decide : 0 + 1 ≤ _), (by decide : 0 + 3 ≤ _)⟩)
  dsimp only [Pt.U, Pt.locs, Pt.cells, Pt.slots] at X9' l9 y9 z9 st9 hQ9
  subst l9 y9 z9
  obtain ⟨h9, e9⟩ : ∃ z, T9.heap = z := ⟨_, rfl⟩
  rw [e9] at hQ9
  obtain ⟨tb_9, tk_9, rfl, N9q, Kc9, f10, f11⟩ := hQ9
  obtain ⟨lc9, X9, N9⟩ : ∃ lc, Stand p l e ({ frames := 2, cells := 1, slots := 3, locals := 35 } : Room) s m #[(.ref a1), (.ref aa), (.int (0 : Int32)), (.int (3 : Int32)), .null] below meth c T9 lc 1 3 ∧ Fr n0 lc := ⟨_, X9', Fr.app N0 N9q⟩
  have K12 : Gx p e below s₁ f0 T9 (mkF m 39 #[.val (.ref a1), .val (.ref aa), .val (.int (0 : Int32)), .val (.int (3 : Int32)), .val .null, .unset] [(.ref tb_9)]) := fun t kt => K8 t (st9 t kt)
  have K13 : Gx p e below s₁ f0 T9 (mkF m 45 #[.val (.ref a1), .val (.ref aa), .val (.int (0 : Int32)), .val (.int (3 : Int32)), .val .null, .val (.ref tb_9)] [(.int (3 : Int32)), (.ref tb_9), (.ref a1)]) := fun t kt => K12 t (by
    show Steps p.tables e below (T9.setTop (mkF m 39 #[.val (.ref a1), .val (.ref aa), .val (.int (0 : Int32)), .val (.int (3 : Int32)), .val .null, .unset] [(.ref tb_9)])) _
    refine XS.astore X9.here hx rfl (hb hby d3_39) rfl rfl (l' := #[.val (.ref a1), .val (.ref aa), .val (.int (0 : Int32)), .val (.int (3 : Int32)), .val .null, .val (.ref tb_9)]) rfl ?_
    show Steps p.tables e below (T9.setTop (mkF m 41 #[.val (.ref a1), .val (.ref aa), .val (.int (0 : Int32)), .val (.int (3 : Int32)), .val .null, .val (.ref tb_9)] [])) _
    refine XS.aloadN X9.here hx rfl (hb hby d3_41) rfl rfl ?_
    show Steps p.tables e below (T9.setTop (mkF m 42 #[.val (.ref a1), .val (.ref aa), .val (.int (0 : Int32)), .val (.int (3 : Int32)), .val .null, .val (.ref tb_9)] [(.ref a1)])) _
    refine XS.aload X9.here hx rfl (hb hby d3_42) rfl rfl ?_
    show Steps p.tables e below (T9.setTop (mkF m 44 #[.val (.ref a1), .val (.ref aa), .val (.int (0 : Int32)), .val (.int (3 : Int32)), .val .null, .val (.ref tb_9)] [(.ref tb_9), (.ref a1)])) _
    refine XS.iloadN X9.here hx rfl (hb hby d3_44) rfl ?_
    exact kt)
  have kp14 : Keep h0 h9 [a1] := (Keep.trans (Keep.refl h0 [a1]) Kc9 all0)
  obtain ⟨_, _, ⟨T15, L15, k15, n15⟩, -, X15', ⟨Lc15, hQ15, l15, y15, z15⟩, st15⟩ := Jvm.LawKit.callS X9 hx (y := (⟨"java/lang/StringUTF16", "coderFromArrayLen", "([BI)B"⟩ : MethodName)) hown (mvT hZ (hw _ (List.mem_of_getElem? (i := 37) rfl))) (mvT hZ (hw _ (List.mem_of_getElem? (i := 38) rfl))) (mvT hZ (hw _ (List.mem_of_getElem? (i := 32) rfl))) (mvT hZ (hw _ (List.mem_of_getElem? (i := 39) rfl))) (by decide) (backOf (W := 1) (rmCdr_3 l Z a0 hw [] tb_9 tk_9 [(.int (nar .byte (qa.toInt8.toInt32))), (.int (nar .byte (qb.toInt8.toInt32))), (.int (nar .byte (qc.toInt8.toInt32)))] h9 n0 (Nat.le_trans Z0 kp14.1) f11) hZ (hw _ (List.mem_of_getElem? (i := 39) rfl)) (hw _ (List.mem_of_getElem? (i := 32) rfl)) (by decide) (by decide)) (g := (mkF m 45 #[.val (.ref a1), .val (.ref aa), .val (.int (0 : Int32)), .val (.int (3 : Int32)), .val .null, .val (.ref tb_9)] [(.int (3 : Int32)), (.ref tb_9), (.ref a1)])) rfl (by rw [hml]; rfl) (argsL := [(.ref tb_9), (.int (3 : Int32))]) (rest := [(.ref a1)]) (lenOf pd___BI_B rfl) rfl (by show 2 * 0 + _ ≤ _; exact Nat.le_of_eq rfl) (hb hby d3_45) (fun _ _ => ⟨rfl, e9, (by decide : 1 + 0 ≤ _), (by decide : 3 + 0 ≤ _)⟩)
  dsimp only [Pt.U, Pt.locs, Pt.cells, Pt.slots] at X15' l15 y15 z15 st15 hQ15
  subst l15 y15 z15
  obtain ⟨rfl, N15q, e15⟩ := hQ15
  obtain ⟨lc15, X15, N15⟩ : ∃ lc, Stand p l e ({ frames := 2, cells := 1, slots := 3, locals := 35 } : Room) s m #[(.ref a1), (.ref aa), (.int (0 : Int32)), (.int (3 : Int32)), .null] below meth c T15 lc 1 3 ∧ Fr n0 lc := ⟨_, X15', Fr.app N9 N15q⟩
  have K16 : Gx p e below s₁ f0 T15 (mkF m 48 #[.val (.ref a1), .val (.ref aa), .val (.int (0 : Int32)), .val (.int (3 : Int32)), .val .null, .val (.ref tb_9)] [(.int (0 : Int32)), (.ref a1)]) := fun t kt => K13 t (st15 t kt)
  have f17 : Fld Z h9 a1 "java/lang/String" "coder" "B" (.int (0 : Int32)) := (pr3.keep Kc9 nin0)
  have f18 : Exa Z h9 a1 "java/lang/String" := (pr0.keep Kc9)
  obtain ⟨T19, h19, X19', e19, W19, st19⟩ := putFN X15 hx hZ hown (hw _ (List.mem_of_getElem? (i := 28) rfl)) Via.refl e15 f17 f18 (Or.inr ⟨(hw _ (List.mem_of_getElem? (i := 24) rfl)), rfl, hnm⟩) (hw _ (List.mem_of_getElem? (i := 8) rfl)) (ty := .byte) (v := (.int (0 : Int32))) (v' := (.int (0 : Int32))) (by decide) rfl (by decide) (g := (mkF m 48 #[.val (.ref a1), .val (.ref aa), .val (.int (0 : Int32)), .val (.int (3 : Int32)), .val .null, .val (.ref tb_9)] [(.int (0 : Int32)), (.ref a1)])) rfl rfl (hb hby d3_48)
  obtain ⟨lc19, X19, N19⟩ : ∃ lc, Stand p l e ({ frames := 2, cells := 1, slots := 3, locals := 35 } : Room) s m #[(.ref a1), (.ref aa), (.int (0 : Int32)), (.int (3 : Int32)), .null] below meth c T19 lc 1 3 ∧ Fr n0 lc := ⟨_, X19', Fr.snoc X19' N15 pr1⟩
  have f19_ : Fld Z h19 a1 "java/lang/String" "coder" "B" (.int (0 : Int32)) := f17.same W19
  have K20 : Gx p e below s₁ f0 T19 (mkF m 51 #[.val (.ref a1), .val (.ref aa), .val (.int (0 : Int32)), .val (.int (3 : Int32)), .val .null, .val (.ref tb_9)] []) := fun t kt => K16 t (st19 t kt)
  have K21 : Gx p e below s₁ f0 T19 (mkF m 54 #[.val (.ref a1), .val (.ref aa), .val (.int (0 : Int32)), .val (.int (3 : Int32)), .val .null, .val (.ref tb_9)] [(.ref tb_9), (.ref a1)]) := fun t kt => K20 t (by
    show Steps p.tables e below (T19.setTop (mkF m 51 #[.val (.ref a1), .val (.ref aa), .val (.int (0 : Int32)), .val (.int (3 : Int32)), .val .null, .val (.ref tb_9)] [])) _
    refine XS.aloadN X19.here hx rfl (hb hby d3_51) rfl rfl ?_
    show Steps p.tables e below (T19.setTop (mkF m 52 #[.val (.ref a1), .val (.ref aa), .val (.int (0 : Int32)), .val (.int (3 : Int32)), .val .null, .val (.ref tb_9)] [(.ref a1)])) _
    refine XS.aload X19.here hx rfl (hb hby d3_52) rfl rfl ?_
    exact kt)
  have f22 : Fld Z h19 a1 "java/lang/String" "value" "[B" .null := ((pr2.keep Kc9 nin0).other W19 (Or.inr (slot_ne (Or.inr (hw _ (List.mem_of_getElem? (i := 23) rfl))) (Or.inr (hw _ (List.mem_of_getElem? (i := 24) rfl))) (by decide) (t := (.array .byte)) (t' := .byte) (by decide) (by decide))))
  have f23 : Exa Z h19 a1 "java/lang/String" := (f18.wr W19)
  obtain ⟨T24, h24, X24', e24, W24, st24⟩ := putF X19 hx hZ hown (host := "") (Or.inl (hw _ (List.mem_of_getElem? (i := 27) rfl))) Via.refl e19 f22 f23 (Or.inr ⟨(hw _ (List.mem_of_getElem? (i := 23) rfl)), rfl, hnm⟩) (hw _ (List.mem_of_getElem? (i := 8) rfl)) (ty := (.array .byte)) (by decide) rfl rfl (g := (mkF m 54 #[.val (.ref a1), .val (.ref aa), .val (.int (0 : Int32)), .val (.int (3 : Int32)), .val .null, .val (.ref tb_9)] [(.ref tb_9), (.ref a1)])) rfl rfl (hb hby d3_54)
  obtain ⟨lc24, X24, N24⟩ : ∃ lc, Stand p l e ({ frames := 2, cells := 1, slots := 3, locals := 35 } : Room) s m #[(.ref a1), (.ref aa), (.int (0 : Int32)), (.int (3 : Int32)), .null] below meth c T24 lc 1 3 ∧ Fr n0 lc := ⟨_, X24', Fr.snoc X24' N19 pr1⟩
  have f24_ : Fld Z h24 a1 "java/lang/String" "value" "[B" (.ref tb_9) := f22.same W24
  have K25 : Gx p e below s₁ f0 T24 (mkF m 57 #[.val (.ref a1), .val (.ref aa), .val (.int (0 : Int32)), .val (.int (3 : Int32)), .val .null, .val (.ref tb_9)] []) := fun t kt => K21 t (st24 t kt)
  have f27 : Arv Z h24 tb_9 tk_9 .byte (3 : Int32) [(.int (nar .byte (qa.toInt8.toInt32))), (.int (nar .byte (qb.toInt8.toInt32))), (.int (nar .byte (qc.toInt8.toInt32)))] (.int (0 : Int32)) := ((f11.other W19 (Ne.symm (Nat.ne_of_lt (Nat.lt_of_lt_of_le pr0.lt f10)))).other W24 (Ne.symm (Nat.ne_of_lt (Nat.lt_of_lt_of_le pr0.lt f10))))
  have kp28 : Keep h0 h24 [a1] := ((kp14.wr W19 (Or.inl (List.mem_of_getElem? (i := 0) rfl))).wr W24 (Or.inl (List.mem_of_getElem? (i := 0) rfl)))
  have f29 : Exa Z h24 a1 "java/lang/String" := (f23.wr W24)
  have f30 : Fld Z h24 a1 "java/lang/String" "coder" "B" (.int (0 : Int32)) := (f19_.other W24 (Or.inr (slot_ne (Or.inr (hw _ (List.mem_of_getElem? (i := 24) rfl))) (Or.inr (hw _ (List.mem_of_getElem? (i := 23) rfl))) (by decide) (t := .byte) (t' := (.array .byte)) (by decide) (by decide))))
  obtain ⟨fs26, hr26, hrun26, hended26, hW26, hsame26⟩ := X24.leave (v := none) (fun _ => rfl)
  refine ⟨_, _, pre0 _ (K25 _ ?_), hrun26, hended26, _, _, rfl, ?_, ⟨_, rfl⟩, hW26, hsame26.mono (by decide) (by decide)⟩
  · exact X24.returnOut hx Bd.returns (hb hby d3_57) hr26
  · show QIn4_3 Z a1 aa ka qa qb qc cw h0 n0 _ T24.heap _
    rw [e24]
    exact ⟨tb_9, tk_9, rfl, N24, kp28, (Nat.le_trans (Keep.refl h0 [a1]).1 f10), f29, f30, f24_, f27⟩
theorem ef_In1_3 (m : MethodId) (a1 : Addr) (aa : Addr) : entryFrame m #[(.ref a1), (.ref aa)] 2 = mkF m 0 #[.val (.ref a1), .val (.ref aa)] [] := by first | (simp [entryFrame, mkF, argsToLocals, Value.category]; done) | rfl
def QIn1_3 (Z : State) (a1 : Addr) (aa : Addr) (ka : ClassId) (qa : Int32) (qb : Int32) (qc : Int32) (cw : Int32) (h0 : Heap) (n0 : Nat) (v : Option Value) (h : Heap) (L : List Loc) : Prop := ∃ tb : Addr, ∃ tk : ClassId, v = none ∧ Fr n0 L ∧ Keep h0 h [a1] ∧ h0.size ≤ tb ∧ Exa Z h a1 "java/lang/String" ∧ Fld Z h a1 "java/lang/String" "coder" "B" (.int (0 : Int32)) ∧ Fld Z h a1 "java/lang/String" "value" "[B" (.ref tb) ∧ Arv Z h tb tk .byte (3 : Int32) [(.int (nar .byte (qa.toInt8.toInt32))), (.int (nar .byte (qb.toInt8.toInt32))), (.int (nar .byte (qc.toInt8.toInt32)))] (.int (0 : Int32))
set_option maxRecDepth 65536 in
set_option maxHeartbeats 40000000 in
theorem rmIn1_3 (l : Launch) (Z : State) (a0 : Array Value) (hw : ∀ d ∈ tables_1, d.before a0 Z = true) (ws : List Jvm.Cond) (a1 : Addr) (aa : Addr) (ka : ClassId) (qa : Int32) (qb : Int32) (qc : Int32) (cw : Int32) (h0 : Heap) (n0 : Nat) (Z0 : n0 ≤ h0.size) (pr0 : Exa Z h0 a1 "java/lang/String") (pr1 : n0 ≤ a1) (pr2 : Fld Z h0 a1 "java/lang/String" "value" "[B" .null) (pr3 : Fld Z h0 a1 "java/lang/String" "coder" "B" (.int (0 : Int32))) (pr4 : Arv Z h0 aa ka .char (3 : Int32) [(.int qa), (.int qb), (.int qc)] (.int (0 : Int32))) (hqa : ¬ ((255 : Int32) < qa)) (hqb : ¬ ((255 : Int32) < qb)) (hqc : ¬ ((255 : Int32) < qc)) (pr8 : Old Z n0 h0) (pr9 : Sta Z Z.heap "java/lang/String" "COMPACT_STRINGS" "Z" (.int cw)) (hcw : ¬ (cw = (0 : Int32))) :
    MetFree l (⟨"java/lang/String", "<init>", "([C)V"⟩ : MethodName) (head1 (Jvm.Cond.code (⟨"java/lang/String", "<init>", "([C)V"⟩ : MethodName) jdk_42_method_3_code 2 none :: ws) ({ frames := 3, cells := 1, slots := 3, locals := 52 } : Room)) (fun a U => a = #[(.ref a1), (.ref aa)] ∧ Z.Warmed39 U.vm ∧ U.heap = h0) (fun _ _ _ _ _ => True) (fun _ U o U' => ∃ v L, o = .returned v ∧ QIn1_3 Z a1 aa ka qa qb qc cw h0 n0 v U'.heap L ∧ FrameEnd U o U' L ({ frames := 3, cells := 1, slots := 3, locals := 52 } : Room).cells ({ frames := 3, cells := 1, slots := 3, locals := 52 } : Room).slots) := by
  refine MetFree.of_bodySF (plainFor_of_name pn_2) hisR ?_
  intro p e s m args below meth c s₁ Bd hml0 hP hK
  obtain ⟨rfl, hZ, hh⟩ := hP
  have hx := Bd.exec
  have hby := Bd.bytes
  have hml : c.maxLocals = 2 := hml0
  have hown : s.vm.findClass "java/lang/String" = some m.cls := findClass_of_methodNamed Bd.named
  have hnm := (name_of_methodNamed Bd.named Bd.method).1
  have X0 : Stand p l e ({ frames := 3, cells := 1, slots := 3, locals := 52 } : Room) s m #[(.ref a1), (.ref aa)] below meth c s₁ [] 0 0 := Stand.of_body Bd
  have hs0 : h0 = s.heap := hh.symm
  have e0 : s₁.heap = h0 := by rw [← hh, Bd.state]; rfl
  have N0 := Fr.nil n0
  obtain ⟨f0, hf0⟩ : ∃ f, f = entryFrame m #[(.ref a1), (.ref aa)] 2 := ⟨_, rfl⟩
  have pre0 : ∀ t, Steps p.tables e below (s₁.setTop f0) t → Steps p.tables e below (s₁.setTop (entryFrame m #[(.ref a1), (.ref aa)] 2)) t := fun t k => hf0 ▸ k
  have K0 : Gx p e below s₁ f0 s₁ (mkF m 0 #[.val (.ref a1), .val (.ref aa)] []) := fun t kt => by rw [hf0]; exact castTop (ef_In1_3 m a1 aa) kt
  obtain ⟨clq1, Arq1, ckq1, cSq1, cNq1, cHq1, cGq1⟩ := id pr4
  have K2 : Gx p e below s₁ f0 s₁ (mkF m 6 #[.val (.ref a1), .val (.ref aa)] [.null, (.int (3 : Int32)), (.int (0 : Int32)), (.ref aa), (.ref a1)]) := fun t kt => K0 t (by
    show Steps p.tables e below (s₁.setTop (mkF m 0 #[.val (.ref a1), .val (.ref aa)] [])) _
    refine XS.aloadN X0.here hx rfl (hb hby d2_0) rfl rfl ?_
    show Steps p.tables e below (s₁.setTop (mkF m 1 #[.val (.ref a1), .val (.ref aa)] [(.ref a1)])) _
    refine XS.aloadN X0.here hx rfl (hb hby d2_1) rfl rfl ?_
    show Steps p.tables e below (s₁.setTop (mkF m 2 #[.val (.ref a1), .val (.ref aa)] [(.ref aa), (.ref a1)])) _
    refine XS.iconst X0.here hx rfl (hb hby d2_2) ?_
    show Steps p.tables e below (s₁.setTop (mkF m 3 #[.val (.ref a1), .val (.ref aa)] [(.int (0 : Int32)), (.ref aa), (.ref a1)])) _
    refine XS.aloadN X0.here hx rfl (hb hby d2_3) rfl rfl ?_
    show Steps p.tables e below (s₁.setTop (mkF m 4 #[.val (.ref a1), .val (.ref aa)] [(.ref aa), (.int (0 : Int32)), (.ref aa), (.ref a1)])) _
    refine X0.arraylength hx (by rw [e0]; exact Arq1.1) (State.isArrayOf_alike hZ.alike Arq1.2.1) (g := (mkF m 4 #[.val (.ref a1), .val (.ref aa)] [(.ref aa), (.int (0 : Int32)), (.ref aa), (.ref a1)])) rfl rfl (hb hby d2_4) _ ?_
    rw [len_of cSq1 cNq1]
    show Steps p.tables e below (s₁.setTop (mkF m 5 #[.val (.ref a1), .val (.ref aa)] [(.int (3 : Int32)), (.int (0 : Int32)), (.ref aa), (.ref a1)])) _
    refine XS.aconstNull X0.here hx rfl (hb hby d2_5) ?_
    exact kt)
  obtain ⟨_, _, ⟨T3, L3, k3, n3⟩, -, X3', ⟨Lc3, hQ3, l3, y3, z3⟩, st3⟩ := X0.specialBack hx (y := (⟨"java/lang/String", "<init>", "([CIILjava/lang/Void;)V"⟩ : MethodName)) rfl hown (mvT hZ (hw _ (List.mem_of_getElem? (i := 14) rfl))) (mvT hZ (hw _ (List.mem_of_getElem? (i := 15) rfl))) (mvT hZ (hw _ (List.mem_of_getElem? (i := 17) rfl))) (by decide) (backOf (W := 0) (rmIn4_3 l Z a0 hw [] a1 aa ka qa qb qc cw h0 n0 (Nat.le_trans Z0 (Keep.refl h0 [a1]).1) pr0 pr1 pr2 pr3 pr4 hqa hqb hqc pr8 pr9 hcw) hZ (hw _ (List.mem_of_getElem? (i := 17) rfl)) (hw _ (List.mem_of_getElem? (i := 9) rfl)) (by decide) (by decide)) (g := (mkF m 6 #[.val (.ref a1), .val (.ref aa)] [.null, (.int (3 : Int32)), (.int (0 : Int32)), (.ref aa), (.ref a1)])) rfl (by rw [hml]; rfl) (Steps.refl _) (a := a1) (argsL := [(.ref aa), (.int (0 : Int32)), (.int (3 : Int32)), .null]) (rest := []) (lenOf pd___CIILjava_lang_Void__V rfl) rfl (by show 2 * 0 + _ ≤ _; exact Nat.le_of_eq rfl) (hb hby d2_6) (fun _ _ => ⟨rfl, e0, (by decide : 0 + 1 ≤ _), (by decide : 0 + 3 ≤ _)⟩)
  dsimp only [Pt.U, Pt.locs, Pt.cells, Pt.slots] at X3' l3 y3 z3 st3 hQ3
  subst l3 y3 z3
  obtain ⟨h3, e3⟩ : ∃ z, T3.heap = z := ⟨_, rfl⟩
  rw [e3] at hQ3
  obtain ⟨tb_3, tk_3, rfl, N3q, Kc3, f4, f5, f6, f7, f8⟩ := hQ3
  obtain ⟨lc3, X3, N3⟩ : ∃ lc, Stand p l e ({ frames := 3, cells := 1, slots := 3, locals := 52 } : Room) s m #[(.ref a1), (.ref aa)] below meth c T3 lc 1 3 ∧ Fr n0 lc := ⟨_, X3', Fr.app N0 N3q⟩
  have K9 : Gx p e below s₁ f0 T3 (mkF m 9 #[.val (.ref a1), .val (.ref aa)] []) := fun t kt => K2 t (st3.trans kt)
  have kp11 : Keep h0 h3 [a1] := (Keep.trans (Keep.refl h0 [a1]) Kc3 (allS (Or.inl (List.mem_of_getElem? (i := 0) rfl)) all0))
  obtain ⟨fs10, hr10, hrun10, hended10, hW10, hsame10⟩ := X3.leave (v := none) (fun _ => rfl)
  refine ⟨_, _, pre0 _ (K9 _ ?_), hrun10, hended10, _, _, rfl, ?_, ⟨_, rfl⟩, hW10, hsame10.mono (by decide) (by decide)⟩
  · exact X3.returnOut hx Bd.returns (hb hby d2_9) hr10
  · show QIn1_3 Z a1 aa ka qa qb qc cw h0 n0 _ T3.heap _
    rw [e3]
    exact ⟨tb_3, tk_3, rfl, N3, kp11, (Nat.le_trans (Keep.refl h0 [a1]).1 f4), f5, f6, f7, f8⟩
theorem d3_8 : decode jdk_42_method_149_code 8 = .ok (.aload_n 0, 1) := by decide +kernel
theorem d3_9 : decode jdk_42_method_149_code 9 = .ok (.ldc 7, 2) := by decide +kernel
theorem d3_11 : decode jdk_42_method_149_code 11 = .ok (.getfield 9, 3) := by decide +kernel
theorem d3_14 : decode jdk_42_method_149_code 14 = .ok (.putfield 9, 3) := by decide +kernel
theorem d3_17 : decode jdk_42_method_149_code 17 = .ok (.aload_n 0, 1) := by decide +kernel
theorem d3_18 : decode jdk_42_method_149_code 18 = .ok (.ldc 7, 2) := by decide +kernel
theorem d3_20 : decode jdk_42_method_149_code 20 = .ok (.getfield 15, 3) := by decide +kernel
theorem d3_23 : decode jdk_42_method_149_code 23 = .ok (.putfield 15, 3) := by decide +kernel
theorem d3_26 : decode jdk_42_method_149_code 26 = .ok (.return_, 1) := by decide +kernel
theorem ef_In4_0 (m : MethodId) (a1 : Addr) (aa : Addr) : entryFrame m #[(.ref a1), (.ref aa), (.int (0 : Int32)), (.int (0 : Int32)), .null] 6 = mkF m 0 #[.val (.ref a1), .val (.ref aa), .val (.int (0 : Int32)), .val (.int (0 : Int32)), .val .null, .unset] [] := by first | (simp [entryFrame, mkF, argsToLocals, Value.category]; done) | rfl
def QIn4_0 (Z : State) (a1 : Addr) (aa : Addr) (h0 : Heap) (n0 : Nat) (v : Option Value) (h : Heap) (L : List Loc) : Prop := ∃ tb : Addr, ∃ tk : ClassId, v = none ∧ Fr n0 L ∧ Keep h0 h [a1] ∧ Exa Z h a1 "java/lang/String" ∧ Fld Z h a1 "java/lang/String" "coder" "B" (.int (0 : Int32)) ∧ Fld Z h a1 "java/lang/String" "value" "[B" (.ref tb) ∧ Arv Z h tb tk .byte (0 : Int32) [] (.int (0 : Int32))
set_option maxRecDepth 65536 in
set_option maxHeartbeats 40000000 in
theorem rmIn4_0 (l : Launch) (Z : State) (a0 : Array Value) (hw : ∀ d ∈ tables_1, d.before a0 Z = true) (ws : List Jvm.Cond) (a1 : Addr) (aa : Addr) (h0 : Heap) (n0 : Nat) (Z0 : n0 ≤ h0.size) (pr0 : Exa Z h0 a1 "java/lang/String") (pr1 : n0 ≤ a1) (pr2 : Fld Z h0 a1 "java/lang/String" "value" "[B" .null) (pr3 : Fld Z h0 a1 "java/lang/String" "coder" "B" (.int (0 : Int32))) :
    MetFree l (⟨"java/lang/String", "<init>", "([CIILjava/lang/Void;)V"⟩ : MethodName) (head1 (Jvm.Cond.code (⟨"java/lang/String", "<init>", "([CIILjava/lang/Void;)V"⟩ : MethodName) jdk_42_method_149_code 6 none :: ws) ({ frames := 1, cells := 4, slots := 8, locals := 12 } : Room)) (fun a U => a = #[(.ref a1), (.ref aa), (.int (0 : Int32)), (.int (0 : Int32)), .null] ∧ Z.Warmed39 U.vm ∧ U.heap = h0 ∧ CHv Z ELx U.vm h0) (fun _ _ _ _ _ => True) (fun _ U o U' => ∃ v L, o = .returned v ∧ QIn4_0 Z a1 aa h0 n0 v U'.heap L ∧ CHr Z ELx U.vm U.heap U'.vm U'.heap ∧ ReturnedEndW U o U' L ({ frames := 1, cells := 4, slots := 8, locals := 12 } : Room).cells ({ frames := 1, cells := 4, slots := 8, locals := 12 } : Room).slots) := by
  refine MetFree.of_bodySF (plainFor_of_name pn_3) hisR ?_
  intro p e s m args below meth c s₁ Bd hml0 hP hK
  obtain ⟨rfl, hZ, hh, hCH⟩ := hP
  have hx := Bd.exec
  have hby := Bd.bytes
  have hml : c.maxLocals = 6 := hml0
  have hown : s.vm.findClass "java/lang/String" = some m.cls := findClass_of_methodNamed Bd.named
  have hnm := (name_of_methodNamed Bd.named Bd.method).1
  have X0 : Stand p l e ({ frames := 1, cells := 4, slots := 8, locals := 12 } : Room) (s.setVm s.vm) m #[(.ref a1), (.ref aa), (.int (0 : Int32)), (.int (0 : Int32)), .null] below meth c s₁ [] 0 0 := Stand.of_body Bd
  have hZ : Z.Warmed39 (s.setVm s.vm).vm := hZ
  have hown : (s.setVm s.vm).vm.findClass "java/lang/String" = some m.cls := hown
  have CR0 : CHr Z ELx s.vm h0 s.vm h0 := CHr.refl hCH
  have hS0 : s.Since s.vm h0.size := State.WarmedH.since (State.WarmedH.refl s) _
  have hk0 : h0.size ≤ h0.size := Nat.le_refl _
  have hs0 : h0 = s.heap := hh.symm
  have e0 : s₁.heap = h0 := by rw [← hh, Bd.state]; rfl
  have N0 := Fr.nil n0
  obtain ⟨f0, hf0⟩ : ∃ f, f = entryFrame m #[(.ref a1), (.ref aa), (.int (0 : Int32)), (.int (0 : Int32)), .null] 6 := ⟨_, rfl⟩
  have pre0 : ∀ t, Steps p.tables e below (s₁.setTop f0) t → Steps p.tables e below (s₁.setTop (entryFrame m #[(.ref a1), (.ref aa), (.int (0 : Int32)), (.int (0 : Int32)), .null] 6)) t := fun t k => hf0 ▸ k
  have K0 : Gx p e below s₁ f0 s₁ (mkF m 0 #[.val (.ref a1), .val (.ref aa), .val (.int (0 : Int32)), .val (.int (0 : Int32)), .val .null, .unset] []) := fun t kt => by rw [hf0]; exact castTop (ef_In4_0 m a1 aa) kt
  have S0_ : Safe Z ELx s.vm h0 a1 := own_safeN hZ.alike pr0 pr2
  have K1 : Gx p e below s₁ f0 s₁ (mkF m 1 #[.val (.ref a1), .val (.ref aa), .val (.int (0 : Int32)), .val (.int (0 : Int32)), .val .null, .unset] [(.ref a1)]) := fun t kt => K0 t (by
    show Steps p.tables e below (s₁.setTop (mkF m 0 #[.val (.ref a1), .val (.ref aa), .val (.int (0 : Int32)), .val (.int (0 : Int32)), .val .null, .unset] [])) _
    refine XS.aloadN X0.here hx rfl (hb hby d3_0) rfl rfl ?_
    exact kt)
  obtain ⟨T2, X2, e2, st2⟩ := initO X0 hx hZ hown (hw _ (List.mem_of_getElem? (i := 18) rfl)) (hw _ (List.mem_of_getElem? (i := 19) rfl)) (hw _ (List.mem_of_getElem? (i := 20) rfl)) e0 (g := (mkF m 1 #[.val (.ref a1), .val (.ref aa), .val (.int (0 : Int32)), .val (.int (0 : Int32)), .val .null, .unset] [(.ref a1)])) rfl (by rw [hml]; rfl) rfl (hb hby d3_1) (by decide) (W := 0) (by show 2 * 0 + _ ≤ _; exact Nat.le_of_eq rfl) (by decide)
  have K3 : Gx p e below s₁ f0 T2 (mkF m 4 #[.val (.ref a1), .val (.ref aa), .val (.int (0 : Int32)), .val (.int (0 : Int32)), .val .null, .unset] []) := fun t kt => K1 t (st2 t kt)
  have K4 : Gx p e below s₁ f0 T2 (mkF m 9 #[.val (.ref a1), .val (.ref aa), .val (.int (0 : Int32)), .val (.int (0 : Int32)), .val .null, .unset] [(.ref a1)]) := fun t kt => K3 t (by
    show Steps p.tables e below (T2.setTop (mkF m 4 #[.val (.ref a1), .val (.ref aa), .val (.int (0 : Int32)), .val (.int (0 : Int32)), .val .null, .unset] [])) _
    refine XS.iloadN X2.here hx rfl (hb hby d3_4) rfl ?_
    show Steps p.tables e below (T2.setTop (mkF m 5 #[.val (.ref a1), .val (.ref aa), .val (.int (0 : Int32)), .val (.int (0 : Int32)), .val .null, .unset] [(.int (0 : Int32))])) _
    refine XS.ifNo X2.here hx rfl (hb hby d3_5) rfl ((if0 _ _).trans (teq (by decide)).2) ?_
    show Steps p.tables e below (T2.setTop (mkF m 8 #[.val (.ref a1), .val (.ref aa), .val (.int (0 : Int32)), .val (.int (0 : Int32)), .val .null, .unset] [])) _
    refine XS.aloadN X2.here hx rfl (hb hby d3_8) rfl rfl ?_
    exact kt)
  obtain ⟨sa5, T5, h5, kk5, sb5, kc5, X5, e5, E5, hS5, hk5, hZ, hown, A5, Fc5, Fv5, V5, -, -, CRq5, -, Sf5, st5⟩ := ldcCH (s := s) (vm0 := s.vm) X2 hx hZ hown (hw _ (List.mem_of_getElem? (i := 21) rfl)) (own_wS hw) e2 hS0 hk0 (own_EW hw) (List.mem_of_getElem? (i := 2) rfl) CR0.1 (vs := []) (z := (0 : Int32)) ⟨by decide +kernel, by rfl⟩ (by decide) rfl (g := (mkF m 9 #[.val (.ref a1), .val (.ref aa), .val (.int (0 : Int32)), .val (.int (0 : Int32)), .val .null, .unset] [(.ref a1)])) rfl (hb hby d3_9) (n := 0) (by decide +kernel) (by decide) (by decide) (by decide)
  have CR6 : CHr Z ELx s.vm h0 T5.vm h5 := CR0.trans CRq5
  have nn7 := Sf5 a1 (CR6.safe pr0.lt S0_)
  have K8 : Gx p e below s₁ f0 T5 (mkF m 11 #[.val (.ref a1), .val (.ref aa), .val (.int (0 : Int32)), .val (.int (0 : Int32)), .val .null, .unset] [(.ref sa5), (.ref a1)]) := fun t kt => K4 t (st5 t kt)
  obtain ⟨T9, X9, e9, st9⟩ := getF X5 hx hZ hown (host := "") (Or.inl (hw _ (List.mem_of_getElem? (i := 27) rfl))) Via.refl e5 Fv5 (g := (mkF m 11 #[.val (.ref a1), .val (.ref aa), .val (.int (0 : Int32)), .val (.int (0 : Int32)), .val .null, .unset] [(.ref sa5), (.ref a1)])) rfl rfl (hb hby d3_11)
  have K10 : Gx p e below s₁ f0 T9 (mkF m 14 #[.val (.ref a1), .val (.ref aa), .val (.int (0 : Int32)), .val (.int (0 : Int32)), .val .null, .unset] [(.ref sb5), (.ref a1)]) := fun t kt => K8 t (st9 t kt)
  have f11 : Fld Z h5 a1 "java/lang/String" "value" "[B" .null := (pr2.ext E5)
  have f12 : Exa Z h5 a1 "java/lang/String" := (pr0.ext E5)
  obtain ⟨T13, h13, X13', e13, W13, st13⟩ := putF X9 hx hZ hown (host := "") (Or.inl (hw _ (List.mem_of_getElem? (i := 27) rfl))) Via.refl e9 f11 f12 (Or.inr ⟨(hw _ (List.mem_of_getElem? (i := 23) rfl)), rfl, hnm⟩) (hw _ (List.mem_of_getElem? (i := 8) rfl)) (ty := (.array .byte)) (by decide) rfl rfl (g := (mkF m 14 #[.val (.ref a1), .val (.ref aa), .val (.int (0 : Int32)), .val (.int (0 : Int32)), .val .null, .unset] [(.ref sb5), (.ref a1)])) rfl rfl (hb hby d3_14)
  obtain ⟨lc13, X13, N13⟩ : ∃ lc, Stand p l e ({ frames := 1, cells := 4, slots := 8, locals := 12 } : Room) (s.setVm T5.vm) m #[(.ref a1), (.ref aa), (.int (0 : Int32)), (.int (0 : Int32)), .null] below meth c T13 lc 2 4 ∧ Fr n0 lc := ⟨_, X13', Fr.snoc X13' N0 pr1⟩
  have CR14 : CHr Z ELx s.vm h0 T5.vm h13 := CR6.trans (CHr.wr W13 (CR6.safe pr0.lt S0_) CR6.1)
  have f13_ : Fld Z h13 a1 "java/lang/String" "value" "[B" (.ref sb5) := f11.same W13
  have K15 : Gx p e below s₁ f0 T13 (mkF m 17 #[.val (.ref a1), .val (.ref aa), .val (.int (0 : Int32)), .val (.int (0 : Int32)), .val .null, .unset] []) := fun t kt => K10 t (st13 t kt)
  have K16 : Gx p e below s₁ f0 T13 (mkF m 18 #[.val (.ref a1), .val (.ref aa), .val (.int (0 : Int32)), .val (.int (0 : Int32)), .val .null, .unset] [(.ref a1)]) := fun t kt => K15 t (by
    show Steps p.tables e below (T13.setTop (mkF m 17 #[.val (.ref a1), .val (.ref aa), .val (.int (0 : Int32)), .val (.int (0 : Int32)), .val .null, .unset] [])) _
    refine XS.aloadN X13.here hx rfl (hb hby d3_17) rfl rfl ?_
    exact kt)
  obtain ⟨sa17, T17, h17, kk17, sb17, kc17, X17, e17, E17, hS17, hk17, hZ, hown, A17, Fc17, Fv17, V17, -, -, CRq17, -, Sf17, st17⟩ := ldcCH (s := s) (vm0 := T5.vm) X13 hx hZ hown (hw _ (List.mem_of_getElem? (i := 21) rfl)) (own_wS hw) e13 hS5 (Nat.le_trans hk5 (Keep.of_wr W13).1) (own_EW hw) (List.mem_of_getElem? (i := 2) rfl) CR14.1 (vs := []) (z := (0 : Int32)) ⟨by decide +kernel, by rfl⟩ (by decide) rfl (g := (mkF m 18 #[.val (.ref a1), .val (.ref aa), .val (.int (0 : Int32)), .val (.int (0 : Int32)), .val .null, .unset] [(.ref a1)])) rfl (hb hby d3_18) (n := 0) (by decide +kernel) (by decide) (by decide) (by decide)
  have CR18 : CHr Z ELx s.vm h0 T17.vm h17 := CR14.trans CRq17
  have nn19 := Sf17 a1 (CR18.safe pr0.lt S0_)
  have f20 : Exa Z h17 sa5 "java/lang/String" := ((A5.wr W13).ext E17)
  have f21 : Arv Z h17 sb5 kc5 .byte (0 : Int32) [] (.int (0 : Int32)) := ((V5.other W13 (Ne.symm nn7.2)).ext E17)
  obtain ⟨clq22, Arq22, ckq22, cSq22, cNq22, cHq22, cGq22⟩ := id f21
  have K23 : Gx p e below s₁ f0 T17 (mkF m 20 #[.val (.ref a1), .val (.ref aa), .val (.int (0 : Int32)), .val (.int (0 : Int32)), .val .null, .unset] [(.ref sa17), (.ref a1)]) := fun t kt => K16 t (st17 t kt)
  obtain ⟨T24, X24, e24, st24⟩ := getF X17 hx hZ hown (host := "") (Or.inl (hw _ (List.mem_of_getElem? (i := 28) rfl))) Via.refl e17 Fc17 (g := (mkF m 20 #[.val (.ref a1), .val (.ref aa), .val (.int (0 : Int32)), .val (.int (0 : Int32)), .val .null, .unset] [(.ref sa17), (.ref a1)])) rfl rfl (hb hby d3_20)
  have K25 : Gx p e below s₁ f0 T24 (mkF m 23 #[.val (.ref a1), .val (.ref aa), .val (.int (0 : Int32)), .val (.int (0 : Int32)), .val .null, .unset] [(.int (0 : Int32)), (.ref a1)]) := fun t kt => K23 t (st24 t kt)
  have f26 : Fld Z h17 a1 "java/lang/String" "coder" "B" (.int (0 : Int32)) := (((pr3.ext E5).other W13 (Or.inr (slot_ne (Or.inr (hw _ (List.mem_of_getElem? (i := 24) rfl))) (Or.inr (hw _ (List.mem_of_getElem? (i := 23) rfl))) (by decide) (t := .byte) (t' := (.array .byte)) (by decide) (by decide)))).ext E17)
  have f27 : Exa Z h17 a1 "java/lang/String" := ((f12.wr W13).ext E17)
  obtain ⟨T28, h28, X28', e28, W28, st28⟩ := putFN X24 hx hZ hown (hw _ (List.mem_of_getElem? (i := 28) rfl)) Via.refl e24 f26 f27 (Or.inr ⟨(hw _ (List.mem_of_getElem? (i := 24) rfl)), rfl, hnm⟩) (hw _ (List.mem_of_getElem? (i := 8) rfl)) (ty := .byte) (v := (.int (0 : Int32))) (v' := (.int (0 : Int32))) (by decide) rfl (by decide) (g := (mkF m 23 #[.val (.ref a1), .val (.ref aa), .val (.int (0 : Int32)), .val (.int (0 : Int32)), .val .null, .unset] [(.int (0 : Int32)), (.ref a1)])) rfl rfl (hb hby d3_23)
  obtain ⟨lc28, X28, N28⟩ : ∃ lc, Stand p l e ({ frames := 1, cells := 4, slots := 8, locals := 12 } : Room) (s.setVm T17.vm) m #[(.ref a1), (.ref aa), (.int (0 : Int32)), (.int (0 : Int32)), .null] below meth c T28 lc 4 8 ∧ Fr n0 lc := ⟨_, X28', Fr.snoc X28' N13 pr1⟩
  have CR29 : CHr Z ELx s.vm h0 T17.vm h28 := CR18.trans (CHr.wr W28 (CR18.safe pr0.lt S0_) CR18.1)
  have f28_ : Fld Z h28 a1 "java/lang/String" "coder" "B" (.int (0 : Int32)) := f26.same W28
  have K30 : Gx p e below s₁ f0 T28 (mkF m 26 #[.val (.ref a1), .val (.ref aa), .val (.int (0 : Int32)), .val (.int (0 : Int32)), .val .null, .unset] []) := fun t kt => K25 t (st28 t kt)
  have f32 : Fld Z h28 a1 "java/lang/String" "value" "[B" (.ref sb5) := ((f13_.ext E17).other W28 (Or.inr (slot_ne (Or.inr (hw _ (List.mem_of_getElem? (i := 23) rfl))) (Or.inr (hw _ (List.mem_of_getElem? (i := 24) rfl))) (by decide) (t := (.array .byte)) (t' := .byte) (by decide) (by decide))))
  have f33 : Arv Z h28 sb5 kc5 .byte (0 : Int32) [] (.int (0 : Int32)) := (f21.other W28 (Ne.symm nn7.2))
  have kp34 : Keep h0 h28 [a1] := (((((Keep.refl h0 [a1]).ext E5).wr W13 (Or.inl (List.mem_of_getElem? (i := 0) rfl))).ext E17).wr W28 (Or.inl (List.mem_of_getElem? (i := 0) rfl)))
  have f35 : Exa Z h28 a1 "java/lang/String" := (f27.wr W28)
  have CR31_ := CR29.trans (CHv.at X28 hZ (own_EW hw) CR29.1)
  obtain ⟨fs31, hr31, hrun31, hended31, hRW31⟩ := X28.leaveW hS17 (show _ ≤ T28.heap.size by first | (rw [e28]; exact (Nat.le_trans hk17 (Keep.of_wr W28).1)) | exact Nat.le_refl _) (v := none) (fun _ => rfl)
  refine ⟨_, _, pre0 _ (K30 _ ?_), hrun31, hended31, _, _, rfl, ?_, ?_, hRW31.1, hRW31.2.1, hRW31.2.2.1, hRW31.2.2.2.mono (by decide) (by decide)⟩
  · exact X28.returnOut hx Bd.returns (hb hby d3_26) hr31
  · show QIn4_0 Z a1 aa h0 n0 _ T28.heap _
    rw [e28]
    exact ⟨sb5, kc5, rfl, N28, kp34, f35, f28_, f32, f33⟩
  · show CHr Z ELx s.vm s.heap T28.vm T28.heap
    rw [e28]
    exact hs0 ▸ CR31_
theorem ef_In1_0 (m : MethodId) (a1 : Addr) (aa : Addr) : entryFrame m #[(.ref a1), (.ref aa)] 2 = mkF m 0 #[.val (.ref a1), .val (.ref aa)] [] := by first | (simp [entryFrame, mkF, argsToLocals, Value.category]; done) | rfl
def QIn1_0 (Z : State) (a1 : Addr) (aa : Addr) (ka : ClassId) (h0 : Heap) (n0 : Nat) (v : Option Value) (h : Heap) (L : List Loc) : Prop := ∃ tb : Addr, ∃ tk : ClassId, v = none ∧ Fr n0 L ∧ Keep h0 h [a1] ∧ Exa Z h a1 "java/lang/String" ∧ Fld Z h a1 "java/lang/String" "coder" "B" (.int (0 : Int32)) ∧ Fld Z h a1 "java/lang/String" "value" "[B" (.ref tb) ∧ Arv Z h tb tk .byte (0 : Int32) [] (.int (0 : Int32))
set_option maxRecDepth 65536 in
set_option maxHeartbeats 40000000 in
theorem rmIn1_0 (l : Launch) (Z : State) (a0 : Array Value) (hw : ∀ d ∈ tables_1, d.before a0 Z = true) (ws : List Jvm.Cond) (a1 : Addr) (aa : Addr) (ka : ClassId) (h0 : Heap) (n0 : Nat) (Z0 : n0 ≤ h0.size) (pr0 : Exa Z h0 a1 "java/lang/String") (pr1 : n0 ≤ a1) (pr2 : Fld Z h0 a1 "java/lang/String" "value" "[B" .null) (pr3 : Fld Z h0 a1 "java/lang/String" "coder" "B" (.int (0 : Int32))) (pr4 : Arv Z h0 aa ka .char (0 : Int32) [] (.int (0 : Int32))) :
    MetFree l (⟨"java/lang/String", "<init>", "([C)V"⟩ : MethodName) (head1 (Jvm.Cond.code (⟨"java/lang/String", "<init>", "([C)V"⟩ : MethodName) jdk_42_method_3_code 2 none :: ws) ({ frames := 2, cells := 4, slots := 8, locals := 29 } : Room)) (fun a U => a = #[(.ref a1), (.ref aa)] ∧ Z.Warmed39 U.vm ∧ U.heap = h0 ∧ CHv Z ELx U.vm h0) (fun _ _ _ _ _ => True) (fun _ U o U' => ∃ v L, o = .returned v ∧ QIn1_0 Z a1 aa ka h0 n0 v U'.heap L ∧ CHr Z ELx U.vm U.heap U'.vm U'.heap ∧ ReturnedEndW U o U' L ({ frames := 2, cells := 4, slots := 8, locals := 29 } : Room).cells ({ frames := 2, cells := 4, slots := 8, locals := 29 } : Room).slots) := by
  refine MetFree.of_bodySF (plainFor_of_name pn_2) hisR ?_
  intro p e s m args below meth c s₁ Bd hml0 hP hK
  obtain ⟨rfl, hZ, hh, hCH⟩ := hP
  have hx := Bd.exec
  have hby := Bd.bytes
  have hml : c.maxLocals = 2 := hml0
  have hown : s.vm.findClass "java/lang/String" = some m.cls := findClass_of_methodNamed Bd.named
  have hnm := (name_of_methodNamed Bd.named Bd.method).1
  have X0 : Stand p l e ({ frames := 2, cells := 4, slots := 8, locals := 29 } : Room) (s.setVm s.vm) m #[(.ref a1), (.ref aa)] below meth c s₁ [] 0 0 := Stand.of_body Bd
  have hZ : Z.Warmed39 (s.setVm s.vm).vm := hZ
  have hown : (s.setVm s.vm).vm.findClass "java/lang/String" = some m.cls := hown
  have CR0 : CHr Z ELx s.vm h0 s.vm h0 := CHr.refl hCH
  have hS0 : s.Since s.vm h0.size := State.WarmedH.since (State.WarmedH.refl s) _
  have hk0 : h0.size ≤ h0.size := Nat.le_refl _
  have hs0 : h0 = s.heap := hh.symm
  have e0 : s₁.heap = h0 := by rw [← hh, Bd.state]; rfl
  have N0 := Fr.nil n0
  obtain ⟨f0, hf0⟩ : ∃ f, f = entryFrame m #[(.ref a1), (.ref aa)] 2 := ⟨_, rfl⟩
  have pre0 : ∀ t, Steps p.tables e below (s₁.setTop f0) t → Steps p.tables e below (s₁.setTop (entryFrame m #[(.ref a1), (.ref aa)] 2)) t := fun t k => hf0 ▸ k
  have K0 : Gx p e below s₁ f0 s₁ (mkF m 0 #[.val (.ref a1), .val (.ref aa)] []) := fun t kt => by rw [hf0]; exact castTop (ef_In1_0 m a1 aa) kt
  have S0_ : Safe Z ELx s.vm h0 a1 := own_safeN hZ.alike pr0 pr2
  obtain ⟨clq1, Arq1, ckq1, cSq1, cNq1, cHq1, cGq1⟩ := id pr4
  have K2 : Gx p e below s₁ f0 s₁ (mkF m 6 #[.val (.ref a1), .val (.ref aa)] [.null, (.int (0 : Int32)), (.int (0 : Int32)), (.ref aa), (.ref a1)]) := fun t kt => K0 t (by
    show Steps p.tables e below (s₁.setTop (mkF m 0 #[.val (.ref a1), .val (.ref aa)] [])) _
    refine XS.aloadN X0.here hx rfl (hb hby d2_0) rfl rfl ?_
    show Steps p.tables e below (s₁.setTop (mkF m 1 #[.val (.ref a1), .val (.ref aa)] [(.ref a1)])) _
    refine XS.aloadN X0.here hx rfl (hb hby d2_1) rfl rfl ?_
    show Steps p.tables e below (s₁.setTop (mkF m 2 #[.val (.ref a1), .val (.ref aa)] [(.ref aa), (.ref a1)])) _
    refine XS.iconst X0.here hx rfl (hb hby d2_2) ?_
    show Steps p.tables e below (s₁.setTop (mkF m 3 #[.val (.ref a1), .val (.ref aa)] [(.int (0 : Int32)), (.ref aa), (.ref a1)])) _
    refine XS.aloadN X0.here hx rfl (hb hby d2_3) rfl rfl ?_
    show Steps p.tables e below (s₁.setTop (mkF m 4 #[.val (.ref a1), .val (.ref aa)] [(.ref aa), (.int (0 : Int32)), (.ref aa), (.ref a1)])) _
    refine X0.arraylength hx (by rw [e0]; exact Arq1.1) (State.isArrayOf_alike hZ.alike Arq1.2.1) (g := (mkF m 4 #[.val (.ref a1), .val (.ref aa)] [(.ref aa), (.int (0 : Int32)), (.ref aa), (.ref a1)])) rfl rfl (hb hby d2_4) _ ?_
    rw [len_of cSq1 cNq1]
    show Steps p.tables e below (s₁.setTop (mkF m 5 #[.val (.ref a1), .val (.ref aa)] [(.int (0 : Int32)), (.int (0 : Int32)), (.ref aa), (.ref a1)])) _
    refine XS.aconstNull X0.here hx rfl (hb hby d2_5) ?_
    exact kt)
  obtain ⟨_, _, ⟨T3, L3, k3, n3⟩, -, X3', hSq3, gq3, ⟨Lc3, hQ3, l3, y3, z3, CRq3⟩, st3⟩ := X0.specialBackS hx (y := (⟨"java/lang/String", "<init>", "([CIILjava/lang/Void;)V"⟩ : MethodName)) rfl hown (mvT hZ (hw _ (List.mem_of_getElem? (i := 14) rfl))) (mvT hZ (hw _ (List.mem_of_getElem? (i := 15) rfl))) (mvT hZ (hw _ (List.mem_of_getElem? (i := 17) rfl))) (by decide) (backOfSH (s := s) (vm0 := s.vm) (W := 0) (rmIn4_0 l Z a0 hw [] a1 aa h0 n0 (Nat.le_trans Z0 (Keep.refl h0 [a1]).1) pr0 pr1 pr2 pr3) hZ (hw _ (List.mem_of_getElem? (i := 17) rfl)) (hw _ (List.mem_of_getElem? (i := 9) rfl)) (by decide) (by decide) (own_EW hw) CR0.1) (g := (mkF m 6 #[.val (.ref a1), .val (.ref aa)] [.null, (.int (0 : Int32)), (.int (0 : Int32)), (.ref aa), (.ref a1)])) rfl (by rw [hml]; rfl) (Steps.refl _) (a := a1) (argsL := [(.ref aa), (.int (0 : Int32)), (.int (0 : Int32)), .null]) (rest := []) (lenOf pd___CIILjava_lang_Void__V rfl) rfl (by show 2 * 0 + _ ≤ _; exact Nat.le_of_eq rfl) (hb hby d2_6) (fun _ _ => ⟨rfl, e0, (by decide : 0 + 4 ≤ _), (by decide : 0 + 8 ≤ _)⟩)
  dsimp only [Pt.U, Pt.locs, Pt.cells, Pt.slots] at X3' l3 y3 z3 st3 hQ3 CRq3 hSq3 gq3
  subst l3 y3 z3
  obtain ⟨X3', hS3, hZ, hown⟩ := rebS hS0 (show _ ≤ s₁.heap.size by first | (rw [e0]; exact hk0) | exact Nat.le_refl _) X3' hSq3 gq3 hZ hown
  obtain ⟨h3, e3⟩ : ∃ z, T3.heap = z := ⟨_, rfl⟩
  rw [e3] at hQ3 CRq3
  obtain ⟨tb_3, tk_3, rfl, N3q, Kc3, f4, f5, f6, f7⟩ := hQ3
  obtain ⟨lc3, X3, N3⟩ : ∃ lc, Stand p l e ({ frames := 2, cells := 4, slots := 8, locals := 29 } : Room) (s.setVm T3.vm) m #[(.ref a1), (.ref aa)] below meth c T3 lc 4 8 ∧ Fr n0 lc := ⟨_, X3', Fr.app N0 N3q⟩
  have CR8 : CHr Z ELx s.vm h0 T3.vm h3 := CR0.trans CRq3
  have K9 : Gx p e below s₁ f0 T3 (mkF m 9 #[.val (.ref a1), .val (.ref aa)] []) := fun t kt => K2 t (st3.trans kt)
  have kp11 : Keep h0 h3 [a1] := (Keep.trans (Keep.refl h0 [a1]) Kc3 (allS (Or.inl (List.mem_of_getElem? (i := 0) rfl)) all0))
  have CR10_ := CR8.trans (CHv.at X3 hZ (own_EW hw) CR8.1)
  obtain ⟨fs10, hr10, hrun10, hended10, hRW10⟩ := X3.leaveW hS3 (show _ ≤ T3.heap.size by first | (rw [e3]; exact (Nat.le_of_eq (congrArg Array.size e3))) | exact Nat.le_refl _) (v := none) (fun _ => rfl)
  refine ⟨_, _, pre0 _ (K9 _ ?_), hrun10, hended10, _, _, rfl, ?_, ?_, hRW10.1, hRW10.2.1, hRW10.2.2.1, hRW10.2.2.2.mono (by decide) (by decide)⟩
  · exact X3.returnOut hx Bd.returns (hb hby d2_9) hr10
  · show QIn1_0 Z a1 aa ka h0 n0 _ T3.heap _
    rw [e3]
    exact ⟨tb_3, tk_3, rfl, N3, kp11, f4, f5, f6, f7⟩
  · show CHr Z ELx s.vm s.heap T3.vm T3.heap
    rw [e3]
    exact hs0 ▸ CR10_
theorem d1_0 : decode method_2_code 0 = .ok (.iload_n 0, 1) := by decide +kernel
theorem d1_1 : decode method_2_code 1 = .ok (.iconst 2, 1) := by decide +kernel
theorem d1_2 : decode method_2_code 2 = .ok (.iushr, 1) := by decide +kernel
theorem d1_3 : decode method_2_code 3 = .ok (.sipush 255, 3) := by decide +kernel
theorem d1_6 : decode method_2_code 6 = .ok (.iand, 1) := by decide +kernel
theorem d1_7 : decode method_2_code 7 = .ok (.i2c, 1) := by decide +kernel
theorem d1_8 : decode method_2_code 8 = .ok (.istore_n 1, 1) := by decide +kernel
theorem d1_9 : decode method_2_code 9 = .ok (.iload_n 0, 1) := by decide +kernel
theorem d1_10 : decode method_2_code 10 = .ok (.bipush 10, 2) := by decide +kernel
theorem d1_12 : decode method_2_code 12 = .ok (.iushr, 1) := by decide +kernel
theorem d1_13 : decode method_2_code 13 = .ok (.sipush 255, 3) := by decide +kernel
theorem d1_16 : decode method_2_code 16 = .ok (.iand, 1) := by decide +kernel
theorem d1_17 : decode method_2_code 17 = .ok (.i2c, 1) := by decide +kernel
theorem d1_18 : decode method_2_code 18 = .ok (.istore_n 2, 1) := by decide +kernel
theorem d1_19 : decode method_2_code 19 = .ok (.iload_n 0, 1) := by decide +kernel
theorem d1_20 : decode method_2_code 20 = .ok (.bipush 18, 2) := by decide +kernel
theorem d1_22 : decode method_2_code 22 = .ok (.iushr, 1) := by decide +kernel
theorem d1_23 : decode method_2_code 23 = .ok (.sipush 255, 3) := by decide +kernel
theorem d1_26 : decode method_2_code 26 = .ok (.iand, 1) := by decide +kernel
theorem d1_27 : decode method_2_code 27 = .ok (.i2c, 1) := by decide +kernel
theorem d1_28 : decode method_2_code 28 = .ok (.istore_n 3, 1) := by decide +kernel
theorem d1_29 : decode method_2_code 29 = .ok (.iload_n 0, 1) := by decide +kernel
theorem d1_30 : decode method_2_code 30 = .ok (.iconst 3, 1) := by decide +kernel
theorem d1_31 : decode method_2_code 31 = .ok (.iand, 1) := by decide +kernel
theorem d1_32 : decode method_2_code 32 = .ok (.istore 4, 2) := by decide +kernel
theorem d1_34 : decode method_2_code 34 = .ok (.iload 4, 2) := by decide +kernel
theorem d1_36 : decode method_2_code 36 = .ok (.ifCond .ne 14, 3) := by decide +kernel
theorem d1_39 : decode method_2_code 39 = .ok (.new 7, 3) := by decide +kernel
theorem d1_42 : decode method_2_code 42 = .ok (.dup, 1) := by decide +kernel
theorem d1_43 : decode method_2_code 43 = .ok (.iconst 0, 1) := by decide +kernel
theorem d1_44 : decode method_2_code 44 = .ok (.newarray .char, 2) := by decide +kernel
theorem d1_46 : decode method_2_code 46 = .ok (.invokespecial 9, 3) := by decide +kernel
theorem d1_49 : decode method_2_code 49 = .ok (.areturn, 1) := by decide +kernel
theorem d1_50 : decode method_2_code 50 = .ok (.iload 4, 2) := by decide +kernel
theorem d1_52 : decode method_2_code 52 = .ok (.iconst 1, 1) := by decide +kernel
theorem d1_53 : decode method_2_code 53 = .ok (.if_icmp .ne 18, 3) := by decide +kernel
theorem d1_56 : decode method_2_code 56 = .ok (.new 7, 3) := by decide +kernel
theorem d1_59 : decode method_2_code 59 = .ok (.dup, 1) := by decide +kernel
theorem d1_60 : decode method_2_code 60 = .ok (.iconst 1, 1) := by decide +kernel
theorem d1_61 : decode method_2_code 61 = .ok (.newarray .char, 2) := by decide +kernel
theorem d1_63 : decode method_2_code 63 = .ok (.dup, 1) := by decide +kernel
theorem d1_64 : decode method_2_code 64 = .ok (.iconst 0, 1) := by decide +kernel
theorem d1_65 : decode method_2_code 65 = .ok (.iload_n 1, 1) := by decide +kernel
theorem d1_66 : decode method_2_code 66 = .ok (.castore, 1) := by decide +kernel
theorem d1_67 : decode method_2_code 67 = .ok (.invokespecial 9, 3) := by decide +kernel
theorem d1_70 : decode method_2_code 70 = .ok (.areturn, 1) := by decide +kernel
theorem d1_71 : decode method_2_code 71 = .ok (.iload 4, 2) := by decide +kernel
theorem d1_73 : decode method_2_code 73 = .ok (.iconst 2, 1) := by decide +kernel
theorem d1_74 : decode method_2_code 74 = .ok (.if_icmp .ne 22, 3) := by decide +kernel
theorem d1_77 : decode method_2_code 77 = .ok (.new 7, 3) := by decide +kernel
theorem d1_80 : decode method_2_code 80 = .ok (.dup, 1) := by decide +kernel
theorem d1_81 : decode method_2_code 81 = .ok (.iconst 2, 1) := by decide +kernel
theorem d1_82 : decode method_2_code 82 = .ok (.newarray .char, 2) := by decide +kernel
theorem d1_84 : decode method_2_code 84 = .ok (.dup, 1) := by decide +kernel
theorem d1_85 : decode method_2_code 85 = .ok (.iconst 0, 1) := by decide +kernel
theorem d1_86 : decode method_2_code 86 = .ok (.iload_n 1, 1) := by decide +kernel
theorem d1_87 : decode method_2_code 87 = .ok (.castore, 1) := by decide +kernel
theorem d1_88 : decode method_2_code 88 = .ok (.dup, 1) := by decide +kernel
theorem d1_89 : decode method_2_code 89 = .ok (.iconst 1, 1) := by decide +kernel
theorem d1_90 : decode method_2_code 90 = .ok (.iload_n 2, 1) := by decide +kernel
theorem d1_91 : decode method_2_code 91 = .ok (.castore, 1) := by decide +kernel
theorem d1_92 : decode method_2_code 92 = .ok (.invokespecial 9, 3) := by decide +kernel
theorem d1_95 : decode method_2_code 95 = .ok (.areturn, 1) := by decide +kernel
theorem d1_96 : decode method_2_code 96 = .ok (.new 7, 3) := by decide +kernel
theorem d1_99 : decode method_2_code 99 = .ok (.dup, 1) := by decide +kernel
theorem d1_100 : decode method_2_code 100 = .ok (.iconst 3, 1) := by decide +kernel
theorem d1_101 : decode method_2_code 101 = .ok (.newarray .char, 2) := by decide +kernel
theorem d1_103 : decode method_2_code 103 = .ok (.dup, 1) := by decide +kernel
theorem d1_104 : decode method_2_code 104 = .ok (.iconst 0, 1) := by decide +kernel
theorem d1_105 : decode method_2_code 105 = .ok (.iload_n 1, 1) := by decide +kernel
theorem d1_106 : decode method_2_code 106 = .ok (.castore, 1) := by decide +kernel
theorem d1_107 : decode method_2_code 107 = .ok (.dup, 1) := by decide +kernel
theorem d1_108 : decode method_2_code 108 = .ok (.iconst 1, 1) := by decide +kernel
theorem d1_109 : decode method_2_code 109 = .ok (.iload_n 2, 1) := by decide +kernel
theorem d1_110 : decode method_2_code 110 = .ok (.castore, 1) := by decide +kernel
theorem d1_111 : decode method_2_code 111 = .ok (.dup, 1) := by decide +kernel
theorem d1_112 : decode method_2_code 112 = .ok (.iconst 2, 1) := by decide +kernel
theorem d1_113 : decode method_2_code 113 = .ok (.iload_n 3, 1) := by decide +kernel
theorem d1_114 : decode method_2_code 114 = .ok (.castore, 1) := by decide +kernel
theorem d1_115 : decode method_2_code 115 = .ok (.invokespecial 9, 3) := by decide +kernel
theorem d1_118 : decode method_2_code 118 = .ok (.areturn, 1) := by decide +kernel
theorem pn_1 : plainName "com/example/stanzacall/stanzacall/xml/ElementIsPinLaw" = true := by first | (simp [plainName, overriddenIn]; done) | decide +kernel
theorem pd___C_V : parseMethodDescriptor "([C)V" = some ⟨[(.array .char)], none⟩ := by decide +kernel
theorem ef_Mk (m : MethodId) (p1 : Int32) : entryFrame m #[(.int p1)] 5 = mkF m 0 #[.val (.int p1), .unset, .unset, .unset, .unset] [] := by first | (simp [entryFrame, mkF, argsToLocals, Value.category]; done) | rfl
def QMk (Z : State) (p1 : Int32) (cw : Int32) (h0 : Heap) (n0 : Nat) (v : Option Value) (h : Heap) (L : List Loc) : Prop := ∃ mr : Addr, ∃ mv : Addr, ∃ mq : ClassId, v = some (.ref mr) ∧ Fr n0 L ∧ Keep h0 h [] ∧ h0.size ≤ mr ∧ Exa Z h mr "java/lang/String" ∧ Fld Z h mr "java/lang/String" "coder" "B" (.int (0 : Int32)) ∧ Fld Z h mr "java/lang/String" "value" "[B" (.ref mv) ∧ Arv Z h mv mq .byte (p1 &&& (3 : Int32)) [(.int (bF p1 (2 : Int32))), (.int (bF p1 (10 : Int32))), (.int (bF p1 (18 : Int32)))] (.int (0 : Int32))
set_option maxRecDepth 65536 in
set_option maxHeartbeats 40000000 in
theorem rmMk (l : Launch) (Z : State) (a0 : Array Value) (hw : ∀ d ∈ tables_1, d.before a0 Z = true) (ws : List Jvm.Cond) (p1 : Int32) (cw : Int32) (h0 : Heap) (n0 : Nat) (Z0 : n0 ≤ h0.size) (pr0 : Old Z n0 h0) (pr1 : Sta Z Z.heap "java/lang/String" "COMPACT_STRINGS" "Z" (.int cw)) (hcw : ¬ (cw = (0 : Int32))) :
    MetFree l (⟨"com/example/stanzacall/stanzacall/xml/ElementIsPinLaw", "mk", "(I)Ljava/lang/String;"⟩ : MethodName) (head1 (Jvm.Cond.code (⟨"com/example/stanzacall/stanzacall/xml/ElementIsPinLaw", "mk", "(I)Ljava/lang/String;"⟩ : MethodName) method_2_code 5 (some (.object "java/lang/String")) :: ws) ({ frames := 4, cells := 6, slots := 12, locals := 66 } : Room)) (fun a U => a = #[(.int p1)] ∧ Z.Warmed39 U.vm ∧ U.heap = h0 ∧ CHv Z ELx U.vm h0) (fun _ _ _ _ _ => True) (fun _ U o U' => ∃ v L, o = .returned v ∧ QMk Z p1 cw h0 n0 v U'.heap L ∧ CHr Z ELx U.vm U.heap U'.vm U'.heap ∧ ReturnedEndW U o U' L ({ frames := 4, cells := 6, slots := 12, locals := 66 } : Room).cells ({ frames := 4, cells := 6, slots := 12, locals := 66 } : Room).slots) := by
  refine MetFree.of_bodySF (plainFor_of_name pn_1) hisR ?_
  intro p e s m args below meth c s₁ Bd hml0 hP hK
  obtain ⟨rfl, hZ, hh, hCH⟩ := hP
  have hx := Bd.exec
  have hby := Bd.bytes
  have hml : c.maxLocals = 5 := hml0
  have hown : s.vm.findClass "com/example/stanzacall/stanzacall/xml/ElementIsPinLaw" = some m.cls := findClass_of_methodNamed Bd.named
  have hnm := (name_of_methodNamed Bd.named Bd.method).1
  have X0 : Stand p l e ({ frames := 4, cells := 6, slots := 12, locals := 66 } : Room) (s.setVm s.vm) m #[(.int p1)] below meth c s₁ [] 0 0 := Stand.of_body Bd
  have hZ : Z.Warmed39 (s.setVm s.vm).vm := hZ
  have hown : (s.setVm s.vm).vm.findClass "com/example/stanzacall/stanzacall/xml/ElementIsPinLaw" = some m.cls := hown
  have CR0 : CHr Z ELx s.vm h0 s.vm h0 := CHr.refl hCH
  have hS0 : s.Since s.vm h0.size := State.WarmedH.since (State.WarmedH.refl s) _
  have hk0 : h0.size ≤ h0.size := Nat.le_refl _
  have hs0 : h0 = s.heap := hh.symm
  have e0 : s₁.heap = h0 := by rw [← hh, Bd.state]; rfl
  have N0 := Fr.nil n0
  obtain ⟨f0, hf0⟩ : ∃ f, f = entryFrame m #[(.int p1)] 5 := ⟨_, rfl⟩
  have pre0 : ∀ t, Steps p.tables e below (s₁.setTop f0) t → Steps p.tables e below (s₁.setTop (entryFrame m #[(.int p1)] 5)) t := fun t k => hf0 ▸ k
  have K0 : Gx p e below s₁ f0 s₁ (mkF m 0 #[.val (.int p1), .unset, .unset, .unset, .unset] []) := fun t kt => by rw [hf0]; exact castTop (ef_Mk m p1) kt
  have K1 : Gx p e below s₁ f0 s₁ (mkF m 29 #[.val (.int p1), .val (.int ((((p1.toUInt32 >>> ((2 : Int32) &&& 31).toUInt32).toInt32) &&& (255 : Int32)).toUInt32.toUInt16.toUInt32.toInt32)), .val (.int ((((p1.toUInt32 >>> ((10 : Int32) &&& 31).toUInt32).toInt32) &&& (255 : Int32)).toUInt32.toUInt16.toUInt32.toInt32)), .val (.int ((((p1.toUInt32 >>> ((18 : Int32) &&& 31).toUInt32).toInt32) &&& (255 : Int32)).toUInt32.toUInt16.toUInt32.toInt32)), .unset] []) := fun t kt => K0 t (by
    show Steps p.tables e below (s₁.setTop (mkF m 0 #[.val (.int p1), .unset, .unset, .unset, .unset] [])) _
    refine XS.iloadN X0.here hx rfl (hb hby d1_0) rfl ?_
    show Steps p.tables e below (s₁.setTop (mkF m 1 #[.val (.int p1), .unset, .unset, .unset, .unset] [(.int p1)])) _
    refine XS.iconst X0.here hx rfl (hb hby d1_1) ?_
    show Steps p.tables e below (s₁.setTop (mkF m 2 #[.val (.int p1), .unset, .unset, .unset, .unset] [(.int (2 : Int32)), (.int p1)])) _
    refine XS.iushr X0.here hx rfl (hb hby d1_2) rfl ?_
    show Steps p.tables e below (s₁.setTop (mkF m 3 #[.val (.int p1), .unset, .unset, .unset, .unset] [(.int ((p1.toUInt32 >>> ((2 : Int32) &&& 31).toUInt32).toInt32))])) _
    refine XS.sipush X0.here hx rfl (hb hby d1_3) ?_
    show Steps p.tables e below (s₁.setTop (mkF m 6 #[.val (.int p1), .unset, .unset, .unset, .unset] [(.int (255 : Int32)), (.int ((p1.toUInt32 >>> ((2 : Int32) &&& 31).toUInt32).toInt32))])) _
    refine XS.iand X0.here hx rfl (hb hby d1_6) rfl ?_
    show Steps p.tables e below (s₁.setTop (mkF m 7 #[.val (.int p1), .unset, .unset, .unset, .unset] [(.int (((p1.toUInt32 >>> ((2 : Int32) &&& 31).toUInt32).toInt32) &&& (255 : Int32)))])) _
    refine XS.i2c X0.here hx rfl (hb hby d1_7) rfl ?_
    show Steps p.tables e below (s₁.setTop (mkF m 8 #[.val (.int p1), .unset, .unset, .unset, .unset] [(.int ((((p1.toUInt32 >>> ((2 : Int32) &&& 31).toUInt32).toInt32) &&& (255 : Int32)).toUInt32.toUInt16.toUInt32.toInt32))])) _
    refine XS.istoreN X0.here hx rfl (hb hby d1_8) rfl (l' := #[.val (.int p1), .val (.int ((((p1.toUInt32 >>> ((2 : Int32) &&& 31).toUInt32).toInt32) &&& (255 : Int32)).toUInt32.toUInt16.toUInt32.toInt32)), .unset, .unset, .unset]) rfl ?_
    show Steps p.tables e below (s₁.setTop (mkF m 9 #[.val (.int p1), .val (.int ((((p1.toUInt32 >>> ((2 : Int32) &&& 31).toUInt32).toInt32) &&& (255 : Int32)).toUInt32.toUInt16.toUInt32.toInt32)), .unset, .unset, .unset] [])) _
    refine XS.iloadN X0.here hx rfl (hb hby d1_9) rfl ?_
    show Steps p.tables e below (s₁.setTop (mkF m 10 #[.val (.int p1), .val (.int ((((p1.toUInt32 >>> ((2 : Int32) &&& 31).toUInt32).toInt32) &&& (255 : Int32)).toUInt32.toUInt16.toUInt32.toInt32)), .unset, .unset, .unset] [(.int p1)])) _
    refine XS.bipush X0.here hx rfl (hb hby d1_10) ?_
    show Steps p.tables e below (s₁.setTop (mkF m 12 #[.val (.int p1), .val (.int ((((p1.toUInt32 >>> ((2 : Int32) &&& 31).toUInt32).toInt32) &&& (255 : Int32)).toUInt32.toUInt16.toUInt32.toInt32)), .unset, .unset, .unset] [(.int (10 : Int32)), (.int p1)])) _
    refine XS.iushr X0.here hx rfl (hb hby d1_12) rfl ?_
    show Steps p.tables e below (s₁.setTop (mkF m 13 #[.val (.int p1), .val (.int ((((p1.toUInt32 >>> ((2 : Int32) &&& 31).toUInt32).toInt32) &&& (255 : Int32)).toUInt32.toUInt16.toUInt32.toInt32)), .unset, .unset, .unset] [(.int ((p1.toUInt32 >>> ((10 : Int32) &&& 31).toUInt32).toInt32))])) _
    refine XS.sipush X0.here hx rfl (hb hby d1_13) ?_
    show Steps p.tables e below (s₁.setTop (mkF m 16 #[.val (.int p1), .val (.int ((((p1.toUInt32 >>> ((2 : Int32) &&& 31).toUInt32).toInt32) &&& (255 : Int32)).toUInt32.toUInt16.toUInt32.toInt32)), .unset, .unset, .unset] [(.int (255 : Int32)), (.int ((p1.toUInt32 >>> ((10 : Int32) &&& 31).toUInt32).toInt32))])) _
    refine XS.iand X0.here hx rfl (hb hby d1_16) rfl ?_
    show Steps p.tables e below (s₁.setTop (mkF m 17 #[.val (.int p1), .val (.int ((((p1.toUInt32 >>> ((2 : Int32) &&& 31).toUInt32).toInt32) &&& (255 : Int32)).toUInt32.toUInt16.toUInt32.toInt32)), .unset, .unset, .unset] [(.int (((p1.toUInt32 >>> ((10 : Int32) &&& 31).toUInt32).toInt32) &&& (255 : Int32)))])) _
    refine XS.i2c X0.here hx rfl (hb hby d1_17) rfl ?_
    show Steps p.tables e below (s₁.setTop (mkF m 18 #[.val (.int p1), .val (.int ((((p1.toUInt32 >>> ((2 : Int32) &&& 31).toUInt32).toInt32) &&& (255 : Int32)).toUInt32.toUInt16.toUInt32.toInt32)), .unset, .unset, .unset] [(.int ((((p1.toUInt32 >>> ((10 : Int32) &&& 31).toUInt32).toInt32) &&& (255 : Int32)).toUInt32.toUInt16.toUInt32.toInt32))])) _
    refine XS.istoreN X0.here hx rfl (hb hby d1_18) rfl (l' := #[.val (.int p1), .val (.int ((((p1.toUInt32 >>> ((2 : Int32) &&& 31).toUInt32).toInt32) &&& (255 : Int32)).toUInt32.toUInt16.toUInt32.toInt32)), .val (.int ((((p1.toUInt32 >>> ((10 : Int32) &&& 31).toUInt32).toInt32) &&& (255 : Int32)).toUInt32.toUInt16.toUInt32.toInt32)), .unset, .unset]) rfl ?_
    show Steps p.tables e below (s₁.setTop (mkF m 19 #[.val (.int p1), .val (.int ((((p1.toUInt32 >>> ((2 : Int32) &&& 31).toUInt32).toInt32) &&& (255 : Int32)).toUInt32.toUInt16.toUInt32.toInt32)), .val (.int ((((p1.toUInt32 >>> ((10 : Int32) &&& 31).toUInt32).toInt32) &&& (255 : Int32)).toUInt32.toUInt16.toUInt32.toInt32)), .unset, .unset] [])) _
    refine XS.iloadN X0.here hx rfl (hb hby d1_19) rfl ?_
    show Steps p.tables e below (s₁.setTop (mkF m 20 #[.val (.int p1), .val (.int ((((p1.toUInt32 >>> ((2 : Int32) &&& 31).toUInt32).toInt32) &&& (255 : Int32)).toUInt32.toUInt16.toUInt32.toInt32)), .val (.int ((((p1.toUInt32 >>> ((10 : Int32) &&& 31).toUInt32).toInt32) &&& (255 : Int32)).toUInt32.toUInt16.toUInt32.toInt32)), .unset, .unset] [(.int p1)])) _
    refine XS.bipush X0.here hx rfl (hb hby d1_20) ?_
    show Steps p.tables e below (s₁.setTop (mkF m 22 #[.val (.int p1), .val (.int ((((p1.toUInt32 >>> ((2 : Int32) &&& 31).toUInt32).toInt32) &&& (255 : Int32)).toUInt32.toUInt16.toUInt32.toInt32)), .val (.int ((((p1.toUInt32 >>> ((10 : Int32) &&& 31).toUInt32).toInt32) &&& (255 : Int32)).toUInt32.toUInt16.toUInt32.toInt32)), .unset, .unset] [(.int (18 : Int32)), (.int p1)])) _
    refine XS.iushr X0.here hx rfl (hb hby d1_22) rfl ?_
    show Steps p.tables e below (s₁.setTop (mkF m 23 #[.val (.int p1), .val (.int ((((p1.toUInt32 >>> ((2 : Int32) &&& 31).toUInt32).toInt32) &&& (255 : Int32)).toUInt32.toUInt16.toUInt32.toInt32)), .val (.int ((((p1.toUInt32 >>> ((10 : Int32) &&& 31).toUInt32).toInt32) &&& (255 : Int32)).toUInt32.toUInt16.toUInt32.toInt32)), .unset, .unset] [(.int ((p1.toUInt32 >>> ((18 : Int32) &&& 31).toUInt32).toInt32))])) _
    refine XS.sipush X0.here hx rfl (hb hby d1_23) ?_
    show Steps p.tables e below (s₁.setTop (mkF m 26 #[.val (.int p1), .val (.int ((((p1.toUInt32 >>> ((2 : Int32) &&& 31).toUInt32).toInt32) &&& (255 : Int32)).toUInt32.toUInt16.toUInt32.toInt32)), .val (.int ((((p1.toUInt32 >>> ((10 : Int32) &&& 31).toUInt32).toInt32) &&& (255 : Int32)).toUInt32.toUInt16.toUInt32.toInt32)), .unset, .unset] [(.int (255 : Int32)), (.int ((p1.toUInt32 >>> ((18 : Int32) &&& 31).toUInt32).toInt32))])) _
    refine XS.iand X0.here hx rfl (hb hby d1_26) rfl ?_
    show Steps p.tables e below (s₁.setTop (mkF m 27 #[.val (.int p1), .val (.int ((((p1.toUInt32 >>> ((2 : Int32) &&& 31).toUInt32).toInt32) &&& (255 : Int32)).toUInt32.toUInt16.toUInt32.toInt32)), .val (.int ((((p1.toUInt32 >>> ((10 : Int32) &&& 31).toUInt32).toInt32) &&& (255 : Int32)).toUInt32.toUInt16.toUInt32.toInt32)), .unset, .unset] [(.int (((p1.toUInt32 >>> ((18 : Int32) &&& 31).toUInt32).toInt32) &&& (255 : Int32)))])) _
    refine XS.i2c X0.here hx rfl (hb hby d1_27) rfl ?_
    show Steps p.tables e below (s₁.setTop (mkF m 28 #[.val (.int p1), .val (.int ((((p1.toUInt32 >>> ((2 : Int32) &&& 31).toUInt32).toInt32) &&& (255 : Int32)).toUInt32.toUInt16.toUInt32.toInt32)), .val (.int ((((p1.toUInt32 >>> ((10 : Int32) &&& 31).toUInt32).toInt32) &&& (255 : Int32)).toUInt32.toUInt16.toUInt32.toInt32)), .unset, .unset] [(.int ((((p1.toUInt32 >>> ((18 : Int32) &&& 31).toUInt32).toInt32) &&& (255 : Int32)).toUInt32.toUInt16.toUInt32.toInt32))])) _
    refine XS.istoreN X0.here hx rfl (hb hby d1_28) rfl (l' := #[.val (.int p1), .val (.int ((((p1.toUInt32 >>> ((2 : Int32) &&& 31).toUInt32).toInt32) &&& (255 : Int32)).toUInt32.toUInt16.toUInt32.toInt32)), .val (.int ((((p1.toUInt32 >>> ((10 : Int32) &&& 31).toUInt32).toInt32) &&& (255 : Int32)).toUInt32.toUInt16.toUInt32.toInt32)), .val (.int ((((p1.toUInt32 >>> ((18 : Int32) &&& 31).toUInt32).toInt32) &&& (255 : Int32)).toUInt32.toUInt16.toUInt32.toInt32)), .unset]) rfl ?_
    exact kt)
  rw [(rfl : ((((p1.toUInt32 >>> ((2 : Int32) &&& 31).toUInt32).toInt32) &&& (255 : Int32)).toUInt32.toUInt16.toUInt32.toInt32) = (cF p1 (2 : Int32)))] at K1
  rw [(rfl : ((((p1.toUInt32 >>> ((10 : Int32) &&& 31).toUInt32).toInt32) &&& (255 : Int32)).toUInt32.toUInt16.toUInt32.toInt32) = (cF p1 (10 : Int32)))] at K1
  rw [(rfl : ((((p1.toUInt32 >>> ((18 : Int32) &&& 31).toUInt32).toInt32) &&& (255 : Int32)).toUInt32.toUInt16.toUInt32.toInt32) = (cF p1 (18 : Int32)))] at K1
  have K2 : Gx p e below s₁ f0 s₁ (mkF m 36 #[.val (.int p1), .val (.int (cF p1 (2 : Int32))), .val (.int (cF p1 (10 : Int32))), .val (.int (cF p1 (18 : Int32))), .val (.int (p1 &&& (3 : Int32)))] [(.int (p1 &&& (3 : Int32)))]) := fun t kt => K1 t (by
    show Steps p.tables e below (s₁.setTop (mkF m 29 #[.val (.int p1), .val (.int (cF p1 (2 : Int32))), .val (.int (cF p1 (10 : Int32))), .val (.int (cF p1 (18 : Int32))), .unset] [])) _
    refine XS.iloadN X0.here hx rfl (hb hby d1_29) rfl ?_
    show Steps p.tables e below (s₁.setTop (mkF m 30 #[.val (.int p1), .val (.int (cF p1 (2 : Int32))), .val (.int (cF p1 (10 : Int32))), .val (.int (cF p1 (18 : Int32))), .unset] [(.int p1)])) _
    refine XS.iconst X0.here hx rfl (hb hby d1_30) ?_
    show Steps p.tables e below (s₁.setTop (mkF m 31 #[.val (.int p1), .val (.int (cF p1 (2 : Int32))), .val (.int (cF p1 (10 : Int32))), .val (.int (cF p1 (18 : Int32))), .unset] [(.int (3 : Int32)), (.int p1)])) _
    refine XS.iand X0.here hx rfl (hb hby d1_31) rfl ?_
    show Steps p.tables e below (s₁.setTop (mkF m 32 #[.val (.int p1), .val (.int (cF p1 (2 : Int32))), .val (.int (cF p1 (10 : Int32))), .val (.int (cF p1 (18 : Int32))), .unset] [(.int (p1 &&& (3 : Int32)))])) _
    refine XS.istore X0.here hx rfl (hb hby d1_32) rfl (l' := #[.val (.int p1), .val (.int (cF p1 (2 : Int32))), .val (.int (cF p1 (10 : Int32))), .val (.int (cF p1 (18 : Int32))), .val (.int (p1 &&& (3 : Int32)))]) rfl ?_
    show Steps p.tables e below (s₁.setTop (mkF m 34 #[.val (.int p1), .val (.int (cF p1 (2 : Int32))), .val (.int (cF p1 (10 : Int32))), .val (.int (cF p1 (18 : Int32))), .val (.int (p1 &&& (3 : Int32)))] [])) _
    refine XS.iload X0.here hx rfl (hb hby d1_34) rfl ?_
    exact kt)
  by_cases hb3 : (p1 &&& (3 : Int32)) = (0 : Int32)
  · skip
    have K4 : Gx p e below s₁ f0 s₁ (mkF m 39 #[.val (.int p1), .val (.int (cF p1 (2 : Int32))), .val (.int (cF p1 (10 : Int32))), .val (.int (cF p1 (18 : Int32))), .val (.int (p1 &&& (3 : Int32)))] []) := fun t kt => K2 t (by
      show Steps p.tables e below (s₁.setTop (mkF m 36 #[.val (.int p1), .val (.int (cF p1 (2 : Int32))), .val (.int (cF p1 (10 : Int32))), .val (.int (cF p1 (18 : Int32))), .val (.int (p1 &&& (3 : Int32)))] [(.int (p1 &&& (3 : Int32)))])) _
      refine XS.ifNo X0.here hx rfl (hb hby d1_36) rfl ((if0 _ _).trans (teq hb3).2) ?_
      exact kt)
    obtain ⟨T5, h5, X5, e5, E5, A5, D5, -, st5⟩ := newO X0 hx hZ hown (hw _ (List.mem_of_getElem? (i := 7) rfl)) (hw _ (List.mem_of_getElem? (i := 8) rfl)) (hw _ (List.mem_of_getElem? (i := 9) rfl)) e0 (g := (mkF m 39 #[.val (.int p1), .val (.int (cF p1 (2 : Int32))), .val (.int (cF p1 (10 : Int32))), .val (.int (cF p1 (18 : Int32))), .val (.int (p1 &&& (3 : Int32)))] [])) rfl (hb hby d1_39) (by decide) (by decide)
    obtain ⟨b5, g5⟩ : ∃ z, z = h0.size := ⟨_, rfl⟩
    rw [← g5] at A5 D5 st5
    have CR6 : CHr Z ELx s.vm h0 s.vm h5 := CR0.trans (CHr.ext E5 CR0.1)
    have f7 : Fld Z h5 b5 "java/lang/String" "value" "[B" .null := D5 (Or.inr (hw _ (List.mem_of_getElem? (i := 23) rfl))) (ty := (.array .byte)) (by decide)
    have f8 : Fld Z h5 b5 "java/lang/String" "coder" "B" (.int (0 : Int32)) := D5 (Or.inr (hw _ (List.mem_of_getElem? (i := 24) rfl))) (ty := .byte) (by decide)
    have K9 : Gx p e below s₁ f0 T5 (mkF m 42 #[.val (.int p1), .val (.int (cF p1 (2 : Int32))), .val (.int (cF p1 (10 : Int32))), .val (.int (cF p1 (18 : Int32))), .val (.int (p1 &&& (3 : Int32)))] [(.ref b5)]) := fun t kt => K4 t (st5 t kt)
    have K10 : Gx p e below s₁ f0 T5 (mkF m 44 #[.val (.int p1), .val (.int (cF p1 (2 : Int32))), .val (.int (cF p1 (10 : Int32))), .val (.int (cF p1 (18 : Int32))), .val (.int (p1 &&& (3 : Int32)))] [(.int (0 : Int32)), (.ref b5), (.ref b5)]) := fun t kt => K9 t (by
      show Steps p.tables e below (T5.setTop (mkF m 42 #[.val (.int p1), .val (.int (cF p1 (2 : Int32))), .val (.int (cF p1 (10 : Int32))), .val (.int (cF p1 (18 : Int32))), .val (.int (p1 &&& (3 : Int32)))] [(.ref b5)])) _
      refine XS.dup X5.here hx rfl (hb hby d1_42) rfl rfl ?_
      show Steps p.tables e below (T5.setTop (mkF m 43 #[.val (.int p1), .val (.int (cF p1 (2 : Int32))), .val (.int (cF p1 (10 : Int32))), .val (.int (cF p1 (18 : Int32))), .val (.int (p1 &&& (3 : Int32)))] [(.ref b5), (.ref b5)])) _
      refine XS.iconst X5.here hx rfl (hb hby d1_43) ?_
      exact kt)
    obtain ⟨T11, h11, k11, X11, e11, E11, A11, st11⟩ := newP X5 hx hZ (hw _ (List.mem_of_getElem? (i := 10) rfl)) e5 (g := (mkF m 44 #[.val (.int p1), .val (.int (cF p1 (2 : Int32))), .val (.int (cF p1 (10 : Int32))), .val (.int (cF p1 (18 : Int32))), .val (.int (p1 &&& (3 : Int32)))] [(.int (0 : Int32)), (.ref b5), (.ref b5)])) rfl (hb hby d1_44) rfl (by decide) (cap := 0) (by decide) (by decide) (by decide) (by decide)
    obtain ⟨b11, g11⟩ : ∃ z, z = h5.size := ⟨_, rfl⟩
    rw [← g11] at A11 st11
    have CR12 : CHr Z ELx s.vm h0 s.vm h11 := CR6.trans (CHr.ext E11 CR6.1)
    have V11 : Arv Z h11 b11 k11 .char (0 : Int32) [] (.int (0 : Int32)) := (Arv.new A11 (by decide)).pad (pad_rep [] (.int (0 : Int32)) 0)
    have K13 : Gx p e below s₁ f0 T11 (mkF m 46 #[.val (.int p1), .val (.int (cF p1 (2 : Int32))), .val (.int (cF p1 (10 : Int32))), .val (.int (cF p1 (18 : Int32))), .val (.int (p1 &&& (3 : Int32)))] [(.ref b11), (.ref b5), (.ref b5)]) := fun t kt => K10 t (st11 t kt)
    have f14 : Exa Z h11 b5 "java/lang/String" := (A5.ext E11)
    have f15 : Fld Z h11 b5 "java/lang/String" "value" "[B" .null := (f7.ext E11)
    have f16 : Fld Z h11 b5 "java/lang/String" "coder" "B" (.int (0 : Int32)) := (f8.ext E11)
    have kp17 : Keep h0 h11 [] := (((Keep.refl h0 []).ext E5).ext E11)
    obtain ⟨_, _, ⟨T18, L18, k18, n18⟩, -, X18', hSq18, gq18, ⟨Lc18, hQ18, l18, y18, z18, CRq18⟩, st18⟩ := X11.specialBackS hx (y := (⟨"java/lang/String", "<init>", "([C)V"⟩ : MethodName)) rfl hown (mvT hZ (hw _ (List.mem_of_getElem? (i := 11) rfl))) (mvT hZ (hw _ (List.mem_of_getElem? (i := 12) rfl))) (mvT hZ (hw _ (List.mem_of_getElem? (i := 13) rfl))) (by decide) (backOfSH (s := s) (vm0 := s.vm) (W := 1) (rmIn1_0 l Z a0 hw [] b5 b11 k11 h11 n0 (Nat.le_trans Z0 kp17.1) f14 (Nat.le_trans Z0 (Nat.le_trans (Keep.refl h0 []).1 (Nat.le_of_eq g5.symm))) f15 f16 V11) hZ (hw _ (List.mem_of_getElem? (i := 13) rfl)) (hw _ (List.mem_of_getElem? (i := 9) rfl)) (by decide) (by decide) (own_EW hw) CR12.1) (g := (mkF m 46 #[.val (.int p1), .val (.int (cF p1 (2 : Int32))), .val (.int (cF p1 (10 : Int32))), .val (.int (cF p1 (18 : Int32))), .val (.int (p1 &&& (3 : Int32)))] [(.ref b11), (.ref b5), (.ref b5)])) rfl (by rw [hml]; rfl) (Steps.refl _) (a := b5) (argsL := [(.ref b11)]) (rest := [(.ref b5)]) (lenOf pd___C_V rfl) rfl (by show 2 * 0 + _ ≤ _; exact Nat.le_of_eq rfl) (hb hby d1_46) (fun _ _ => ⟨rfl, e11, (by decide : 2 + 4 ≤ _), (by decide : 4 + 8 ≤ _)⟩)
    dsimp only [Pt.U, Pt.locs, Pt.cells, Pt.slots] at X18' l18 y18 z18 st18 hQ18 CRq18 hSq18 gq18
    subst l18 y18 z18
    obtain ⟨X18', hS18, hZ, hown⟩ := rebS hS0 (show _ ≤ T11.heap.size by first | (rw [e11]; exact (Nat.le_trans (Nat.le_trans hk0 E5.1) E11.1)) | exact Nat.le_refl _) X18' hSq18 gq18 hZ hown
    obtain ⟨h18, e18⟩ : ∃ z, T18.heap = z := ⟨_, rfl⟩
    rw [e18] at hQ18 CRq18
    obtain ⟨tb_18, tk_18, rfl, N18q, Kc18, f19, f20, f21, f22⟩ := hQ18
    obtain ⟨lc18, X18, N18⟩ : ∃ lc, Stand p l e ({ frames := 4, cells := 6, slots := 12, locals := 66 } : Room) (s.setVm T18.vm) m #[(.int p1)] below meth c T18 lc 6 12 ∧ Fr n0 lc := ⟨_, X18', Fr.app N0 N18q⟩
    have CR23 : CHr Z ELx s.vm h0 T18.vm h18 := CR12.trans CRq18
    have K24 : Gx p e below s₁ f0 T18 (mkF m 49 #[.val (.int p1), .val (.int (cF p1 (2 : Int32))), .val (.int (cF p1 (10 : Int32))), .val (.int (cF p1 (18 : Int32))), .val (.int (p1 &&& (3 : Int32)))] [(.ref b5)]) := fun t kt => K13 t (st18.trans kt)
    have kp26 : Keep h0 h18 [] := (Keep.trans kp17 Kc18 (allS (Or.inr (Nat.le_trans (Keep.refl h0 []).1 (Nat.le_of_eq g5.symm))) all0))
    have CR25_ := CR23.trans (CHv.at X18 hZ (own_EW hw) CR23.1)
    obtain ⟨fs25, hr25, hrun25, hended25, hRW25⟩ := X18.leaveW hS18 (show _ ≤ T18.heap.size by first | (rw [e18]; exact (Nat.le_of_eq (congrArg Array.size e18))) | exact Nat.le_refl _) (v := some (.ref b5)) (fun h => by rw [Bd.returns] at h; cases h)
    refine ⟨_, _, pre0 _ (K24 _ ?_), hrun25, hended25, _, _, rfl, ?_, ?_, hRW25.1, hRW25.2.1, hRW25.2.2.1, hRW25.2.2.2.mono (by decide) (by decide)⟩
    · show Steps p.tables e below (T18.setTop (mkF m 49 #[.val (.int p1), .val (.int (cF p1 (2 : Int32))), .val (.int (cF p1 (10 : Int32))), .val (.int (cF p1 (18 : Int32))), .val (.int (p1 &&& (3 : Int32)))] [(.ref b5)])) _
      jvm_step X18.here [X18.here.top, hx, (hb hby d1_49), X18.method', Bd.returns, Value.isRef, FieldType.isReference]
      first | (intro acts; rw [hr25 _ acts rfl rfl rfl]) | rw [hr25 _ _ rfl rfl rfl]
      exact Steps.refl _
    · show QMk Z p1 cw h0 n0 _ T18.heap _
      rw [e18]
      exact ⟨b5, tb_18, tk_18, rfl, N18, kp26, (Nat.le_trans (Keep.refl h0 []).1 (Nat.le_of_eq g5.symm)), f19, f20, f21, (own_re f22 hb3 (fun i hi => by match i, hi with | i + 0, hi => exact absurd hi (by have : (0 : Int32).toNatClampNeg = 0 := rfl; omega)))⟩
    · show CHr Z ELx s.vm s.heap T18.vm T18.heap
      rw [e18]
      exact hs0 ▸ CR25_
  · skip
    have K27 : Gx p e below s₁ f0 s₁ (mkF m 53 #[.val (.int p1), .val (.int (cF p1 (2 : Int32))), .val (.int (cF p1 (10 : Int32))), .val (.int (cF p1 (18 : Int32))), .val (.int (p1 &&& (3 : Int32)))] [(.int (1 : Int32)), (.int (p1 &&& (3 : Int32)))]) := fun t kt => K2 t (by
      show Steps p.tables e below (s₁.setTop (mkF m 36 #[.val (.int p1), .val (.int (cF p1 (2 : Int32))), .val (.int (cF p1 (10 : Int32))), .val (.int (cF p1 (18 : Int32))), .val (.int (p1 &&& (3 : Int32)))] [(.int (p1 &&& (3 : Int32)))])) _
      refine XS.ifYes X0.here hx rfl (pc0 := 36) (pc' := 50) rfl (hb hby d1_36) rfl ((if0 _ _).trans (feq hb3).2) (by decide) (by decide) ?_
      show Steps p.tables e below (s₁.setTop (mkF m 50 #[.val (.int p1), .val (.int (cF p1 (2 : Int32))), .val (.int (cF p1 (10 : Int32))), .val (.int (cF p1 (18 : Int32))), .val (.int (p1 &&& (3 : Int32)))] [])) _
      refine XS.iload X0.here hx rfl (hb hby d1_50) rfl ?_
      show Steps p.tables e below (s₁.setTop (mkF m 52 #[.val (.int p1), .val (.int (cF p1 (2 : Int32))), .val (.int (cF p1 (10 : Int32))), .val (.int (cF p1 (18 : Int32))), .val (.int (p1 &&& (3 : Int32)))] [(.int (p1 &&& (3 : Int32)))])) _
      refine XS.iconst X0.here hx rfl (hb hby d1_52) ?_
      exact kt)
    by_cases hb28 : (p1 &&& (3 : Int32)) = (1 : Int32)
    · skip
      have K29 : Gx p e below s₁ f0 s₁ (mkF m 56 #[.val (.int p1), .val (.int (cF p1 (2 : Int32))), .val (.int (cF p1 (10 : Int32))), .val (.int (cF p1 (18 : Int32))), .val (.int (p1 &&& (3 : Int32)))] []) := fun t kt => K27 t (by
        show Steps p.tables e below (s₁.setTop (mkF m 53 #[.val (.int p1), .val (.int (cF p1 (2 : Int32))), .val (.int (cF p1 (10 : Int32))), .val (.int (cF p1 (18 : Int32))), .val (.int (p1 &&& (3 : Int32)))] [(.int (1 : Int32)), (.int (p1 &&& (3 : Int32)))])) _
        refine XS.icmpNo X0.here hx rfl (hb hby d1_53) rfl (teq hb28).2 ?_
        exact kt)
      obtain ⟨T30, h30, X30, e30, E30, A30, D30, -, st30⟩ := newO X0 hx hZ hown (hw _ (List.mem_of_getElem? (i := 7) rfl)) (hw _ (List.mem_of_getElem? (i := 8) rfl)) (hw _ (List.mem_of_getElem? (i := 9) rfl)) e0 (g := (mkF m 56 #[.val (.int p1), .val (.int (cF p1 (2 : Int32))), .val (.int (cF p1 (10 : Int32))), .val (.int (cF p1 (18 : Int32))), .val (.int (p1 &&& (3 : Int32)))] [])) rfl (hb hby d1_56) (by decide) (by decide)
      obtain ⟨b30, g30⟩ : ∃ z, z = h0.size := ⟨_, rfl⟩
      rw [← g30] at A30 D30 st30
      have CR31 : CHr Z ELx s.vm h0 s.vm h30 := CR0.trans (CHr.ext E30 CR0.1)
      have f32 : Fld Z h30 b30 "java/lang/String" "value" "[B" .null := D30 (Or.inr (hw _ (List.mem_of_getElem? (i := 23) rfl))) (ty := (.array .byte)) (by decide)
      have f33 : Fld Z h30 b30 "java/lang/String" "coder" "B" (.int (0 : Int32)) := D30 (Or.inr (hw _ (List.mem_of_getElem? (i := 24) rfl))) (ty := .byte) (by decide)
      have K34 : Gx p e below s₁ f0 T30 (mkF m 59 #[.val (.int p1), .val (.int (cF p1 (2 : Int32))), .val (.int (cF p1 (10 : Int32))), .val (.int (cF p1 (18 : Int32))), .val (.int (p1 &&& (3 : Int32)))] [(.ref b30)]) := fun t kt => K29 t (st30 t kt)
      have K35 : Gx p e below s₁ f0 T30 (mkF m 61 #[.val (.int p1), .val (.int (cF p1 (2 : Int32))), .val (.int (cF p1 (10 : Int32))), .val (.int (cF p1 (18 : Int32))), .val (.int (p1 &&& (3 : Int32)))] [(.int (1 : Int32)), (.ref b30), (.ref b30)]) := fun t kt => K34 t (by
        show Steps p.tables e below (T30.setTop (mkF m 59 #[.val (.int p1), .val (.int (cF p1 (2 : Int32))), .val (.int (cF p1 (10 : Int32))), .val (.int (cF p1 (18 : Int32))), .val (.int (p1 &&& (3 : Int32)))] [(.ref b30)])) _
        refine XS.dup X30.here hx rfl (hb hby d1_59) rfl rfl ?_
        show Steps p.tables e below (T30.setTop (mkF m 60 #[.val (.int p1), .val (.int (cF p1 (2 : Int32))), .val (.int (cF p1 (10 : Int32))), .val (.int (cF p1 (18 : Int32))), .val (.int (p1 &&& (3 : Int32)))] [(.ref b30), (.ref b30)])) _
        refine XS.iconst X30.here hx rfl (hb hby d1_60) ?_
        exact kt)
      obtain ⟨T36, h36, k36, X36, e36, E36, A36, st36⟩ := newP X30 hx hZ (hw _ (List.mem_of_getElem? (i := 10) rfl)) e30 (g := (mkF m 61 #[.val (.int p1), .val (.int (cF p1 (2 : Int32))), .val (.int (cF p1 (10 : Int32))), .val (.int (cF p1 (18 : Int32))), .val (.int (p1 &&& (3 : Int32)))] [(.int (1 : Int32)), (.ref b30), (.ref b30)])) rfl (hb hby d1_61) rfl (by decide) (cap := 1) (by decide) (by decide) (by decide) (by decide)
      obtain ⟨b36, g36⟩ : ∃ z, z = h30.size := ⟨_, rfl⟩
      rw [← g36] at A36 st36
      have CR37 : CHr Z ELx s.vm h0 s.vm h36 := CR31.trans (CHr.ext E36 CR31.1)
      have V36 : Arv Z h36 b36 k36 .char (1 : Int32) [(.int (0 : Int32))] (.int (0 : Int32)) := (Arv.new A36 (by decide)).pad (pad_rep [] (.int (0 : Int32)) 1)
      have K38 : Gx p e below s₁ f0 T36 (mkF m 63 #[.val (.int p1), .val (.int (cF p1 (2 : Int32))), .val (.int (cF p1 (10 : Int32))), .val (.int (cF p1 (18 : Int32))), .val (.int (p1 &&& (3 : Int32)))] [(.ref b36), (.ref b30), (.ref b30)]) := fun t kt => K35 t (st36 t kt)
      have K39 : Gx p e below s₁ f0 T36 (mkF m 66 #[.val (.int p1), .val (.int (cF p1 (2 : Int32))), .val (.int (cF p1 (10 : Int32))), .val (.int (cF p1 (18 : Int32))), .val (.int (p1 &&& (3 : Int32)))] [(.int (cF p1 (2 : Int32))), (.int (0 : Int32)), (.ref b36), (.ref b36), (.ref b30), (.ref b30)]) := fun t kt => K38 t (by
        show Steps p.tables e below (T36.setTop (mkF m 63 #[.val (.int p1), .val (.int (cF p1 (2 : Int32))), .val (.int (cF p1 (10 : Int32))), .val (.int (cF p1 (18 : Int32))), .val (.int (p1 &&& (3 : Int32)))] [(.ref b36), (.ref b30), (.ref b30)])) _
        refine XS.dup X36.here hx rfl (hb hby d1_63) rfl rfl ?_
        show Steps p.tables e below (T36.setTop (mkF m 64 #[.val (.int p1), .val (.int (cF p1 (2 : Int32))), .val (.int (cF p1 (10 : Int32))), .val (.int (cF p1 (18 : Int32))), .val (.int (p1 &&& (3 : Int32)))] [(.ref b36), (.ref b36), (.ref b30), (.ref b30)])) _
        refine XS.iconst X36.here hx rfl (hb hby d1_64) ?_
        show Steps p.tables e below (T36.setTop (mkF m 65 #[.val (.int p1), .val (.int (cF p1 (2 : Int32))), .val (.int (cF p1 (10 : Int32))), .val (.int (cF p1 (18 : Int32))), .val (.int (p1 &&& (3 : Int32)))] [(.int (0 : Int32)), (.ref b36), (.ref b36), (.ref b30), (.ref b30)])) _
        refine XS.iloadN X36.here hx rfl (hb hby d1_65) rfl ?_
        exact kt)
      obtain ⟨clq40, Arq40, ckq40, cSq40, cNq40, cHq40, cGq40⟩ := id V36
      obtain ⟨T41, h41, X41', e41, W41, st41⟩ := stC X36 hx hZ e36 Arq40 (j := (0 : Int32)) (inb_of cSq40 ⟨by decide, by decide⟩) (g := (mkF m 66 #[.val (.int p1), .val (.int (cF p1 (2 : Int32))), .val (.int (cF p1 (10 : Int32))), .val (.int (cF p1 (18 : Int32))), .val (.int (p1 &&& (3 : Int32)))] [(.int (cF p1 (2 : Int32))), (.int (0 : Int32)), (.ref b36), (.ref b36), (.ref b30), (.ref b30)])) rfl rfl (hb hby d1_66)
      obtain ⟨lc41, X41, N41⟩ : ∃ lc, Stand p l e ({ frames := 4, cells := 6, slots := 12, locals := 66 } : Room) (s.setVm s.vm) m #[(.int p1)] below meth c T41 lc 2 5 ∧ Fr n0 lc := ⟨_, X41', Fr.snoc X41' N0 (Nat.le_trans Z0 (Nat.le_trans ((Keep.refl h0 []).ext E30).1 (Nat.le_of_eq g36.symm)))⟩
      have CR42 : CHr Z ELx s.vm h0 s.vm h41 := CR37.trans (CHr.wr W41 (Safe.arr hZ.alike Arq40 (by decide)) CR37.1)
      have V41 : Arv Z h41 b36 k36 .char (1 : Int32) [(.int (nar .char (cF p1 (2 : Int32))))] (.int (0 : Int32)) := Arv.set Arq40 ckq40 cSq40 cNq40 cHq40 cGq40 (fits_nar_char _) W41 0 rfl (Nat.le_of_ble_eq_true rfl)
      have K43 : Gx p e below s₁ f0 T41 (mkF m 67 #[.val (.int p1), .val (.int (cF p1 (2 : Int32))), .val (.int (cF p1 (10 : Int32))), .val (.int (cF p1 (18 : Int32))), .val (.int (p1 &&& (3 : Int32)))] [(.ref b36), (.ref b30), (.ref b30)]) := fun t kt => K39 t (st41 t kt)
      have f44 : Exa Z h41 b30 "java/lang/String" := ((A30.ext E36).wr W41)
      have f45 : Fld Z h41 b30 "java/lang/String" "value" "[B" .null := ((f32.ext E36).other W41 (Or.inl (Nat.ne_of_lt (Nat.lt_of_lt_of_le A30.lt (Nat.le_of_eq g36.symm)))))
      have f46 : Fld Z h41 b30 "java/lang/String" "coder" "B" (.int (0 : Int32)) := ((f33.ext E36).other W41 (Or.inl (Nat.ne_of_lt (Nat.lt_of_lt_of_le A30.lt (Nat.le_of_eq g36.symm)))))
      have f47 : Old Z n0 h41 := (((pr0.ext E30).ext E36).wr W41 (Nat.le_trans Z0 (Nat.le_trans ((Keep.refl h0 []).ext E30).1 (Nat.le_of_eq g36.symm))))
      have kp48 : Keep h0 h41 [] := ((((Keep.refl h0 []).ext E30).ext E36).wr W41 (Or.inr (Nat.le_trans ((Keep.refl h0 []).ext E30).1 (Nat.le_of_eq g36.symm))))
      obtain ⟨_, _, ⟨T49, L49, k49, n49⟩, -, X49', ⟨Lc49, hQ49, l49, y49, z49⟩, st49⟩ := X41.specialBack hx (y := (⟨"java/lang/String", "<init>", "([C)V"⟩ : MethodName)) rfl hown (mvT hZ (hw _ (List.mem_of_getElem? (i := 11) rfl))) (mvT hZ (hw _ (List.mem_of_getElem? (i := 12) rfl))) (mvT hZ (hw _ (List.mem_of_getElem? (i := 13) rfl))) (by decide) (backOf (W := 1) (rmIn1_1 l Z a0 hw [] b30 b36 k36 (nar .char (cF p1 (2 : Int32))) cw h41 n0 (Nat.le_trans Z0 kp48.1) f44 (Nat.le_trans Z0 (Nat.le_trans (Keep.refl h0 []).1 (Nat.le_of_eq g30.symm))) f45 f46 V41 (own_c255 _ _) f47 pr1 hcw) hZ (hw _ (List.mem_of_getElem? (i := 13) rfl)) (hw _ (List.mem_of_getElem? (i := 9) rfl)) (by decide) (by decide)) (g := (mkF m 67 #[.val (.int p1), .val (.int (cF p1 (2 : Int32))), .val (.int (cF p1 (10 : Int32))), .val (.int (cF p1 (18 : Int32))), .val (.int (p1 &&& (3 : Int32)))] [(.ref b36), (.ref b30), (.ref b30)])) rfl (by rw [hml]; rfl) (Steps.refl _) (a := b30) (argsL := [(.ref b36)]) (rest := [(.ref b30)]) (lenOf pd___C_V rfl) rfl (by show 2 * 0 + _ ≤ _; exact Nat.le_of_eq rfl) (hb hby d1_67) (fun _ _ => ⟨rfl, e41, (by decide : 2 + 1 ≤ _), (by decide : 5 + 1 ≤ _)⟩)
      dsimp only [Pt.U, Pt.locs, Pt.cells, Pt.slots] at X49' l49 y49 z49 st49 hQ49
      subst l49 y49 z49
      obtain ⟨h49, e49⟩ : ∃ z, T49.heap = z := ⟨_, rfl⟩
      rw [e49] at hQ49
      obtain ⟨tb_49, tk_49, rfl, N49q, Kc49, f50, f51, f52, f53, f54⟩ := hQ49
      obtain ⟨lc49, X49, N49⟩ : ∃ lc, Stand p l e ({ frames := 4, cells := 6, slots := 12, locals := 66 } : Room) (s.setVm s.vm) m #[(.int p1)] below meth c T49 lc 3 6 ∧ Fr n0 lc := ⟨_, X49', Fr.app N41 N49q⟩
      have CR55 : CHr Z ELx s.vm h0 s.vm h49 := CR42.trans (CHr.keep Kc49 (allS (own_safeN hZ.alike f44 f45) all0) CR42.1)
      have K56 : Gx p e below s₁ f0 T49 (mkF m 70 #[.val (.int p1), .val (.int (cF p1 (2 : Int32))), .val (.int (cF p1 (10 : Int32))), .val (.int (cF p1 (18 : Int32))), .val (.int (p1 &&& (3 : Int32)))] [(.ref b30)]) := fun t kt => K43 t (st49.trans kt)
      have kp58 : Keep h0 h49 [] := (Keep.trans kp48 Kc49 (allS (Or.inr (Nat.le_trans (Keep.refl h0 []).1 (Nat.le_of_eq g30.symm))) all0))
      have CR57_ := CR55.trans (CHv.at X49 hZ (own_EW hw) CR55.1)
      obtain ⟨fs57, hr57, hrun57, hended57, hRW57⟩ := X49.leaveW hS0 (show _ ≤ T49.heap.size by first | (rw [e49]; exact (Nat.le_trans (Nat.le_trans (Nat.le_trans (Nat.le_trans hk0 E30.1) E36.1) (Keep.of_wr W41).1) Kc49.1)) | exact Nat.le_refl _) (v := some (.ref b30)) (fun h => by rw [Bd.returns] at h; cases h)
      refine ⟨_, _, pre0 _ (K56 _ ?_), hrun57, hended57, _, _, rfl, ?_, ?_, hRW57.1, hRW57.2.1, hRW57.2.2.1, hRW57.2.2.2.mono (by decide) (by decide)⟩
      · show Steps p.tables e below (T49.setTop (mkF m 70 #[.val (.int p1), .val (.int (cF p1 (2 : Int32))), .val (.int (cF p1 (10 : Int32))), .val (.int (cF p1 (18 : Int32))), .val (.int (p1 &&& (3 : Int32)))] [(.ref b30)])) _
        jvm_step X49.here [X49.here.top, hx, (hb hby d1_70), X49.method', Bd.returns, Value.isRef, FieldType.isReference]
        first | (intro acts; rw [hr57 _ acts rfl rfl rfl]) | rw [hr57 _ _ rfl rfl rfl]
        exact Steps.refl _
      · show QMk Z p1 cw h0 n0 _ T49.heap _
        rw [e49]
        exact ⟨b30, tb_49, tk_49, rfl, N49, kp58, (Nat.le_trans (Keep.refl h0 []).1 (Nat.le_of_eq g30.symm)), f51, f52, f53, (own_re f54 hb28 (fun i hi => by match i, hi with | 0, _ => exact rfl | i + 1, hi => exact absurd hi (by have : (1 : Int32).toNatClampNeg = 1 := rfl; omega)))⟩
      · show CHr Z ELx s.vm s.heap T49.vm T49.heap
        rw [e49]
        exact hs0 ▸ CR57_
    · skip
      have K59 : Gx p e below s₁ f0 s₁ (mkF m 74 #[.val (.int p1), .val (.int (cF p1 (2 : Int32))), .val (.int (cF p1 (10 : Int32))), .val (.int (cF p1 (18 : Int32))), .val (.int (p1 &&& (3 : Int32)))] [(.int (2 : Int32)), (.int (p1 &&& (3 : Int32)))]) := fun t kt => K27 t (by
        show Steps p.tables e below (s₁.setTop (mkF m 53 #[.val (.int p1), .val (.int (cF p1 (2 : Int32))), .val (.int (cF p1 (10 : Int32))), .val (.int (cF p1 (18 : Int32))), .val (.int (p1 &&& (3 : Int32)))] [(.int (1 : Int32)), (.int (p1 &&& (3 : Int32)))])) _
        refine XS.icmpYes X0.here hx rfl (pc0 := 53) (pc' := 71) rfl (hb hby d1_53) rfl (feq hb28).2 (by decide) (by decide) ?_
        show Steps p.tables e below (s₁.setTop (mkF m 71 #[.val (.int p1), .val (.int (cF p1 (2 : Int32))), .val (.int (cF p1 (10 : Int32))), .val (.int (cF p1 (18 : Int32))), .val (.int (p1 &&& (3 : Int32)))] [])) _
        refine XS.iload X0.here hx rfl (hb hby d1_71) rfl ?_
        show Steps p.tables e below (s₁.setTop (mkF m 73 #[.val (.int p1), .val (.int (cF p1 (2 : Int32))), .val (.int (cF p1 (10 : Int32))), .val (.int (cF p1 (18 : Int32))), .val (.int (p1 &&& (3 : Int32)))] [(.int (p1 &&& (3 : Int32)))])) _
        refine XS.iconst X0.here hx rfl (hb hby d1_73) ?_
        exact kt)
      by_cases hb60 : (p1 &&& (3 : Int32)) = (2 : Int32)
      · skip
        have K61 : Gx p e below s₁ f0 s₁ (mkF m 77 #[.val (.int p1), .val (.int (cF p1 (2 : Int32))), .val (.int (cF p1 (10 : Int32))), .val (.int (cF p1 (18 : Int32))), .val (.int (p1 &&& (3 : Int32)))] []) := fun t kt => K59 t (by
          show Steps p.tables e below (s₁.setTop (mkF m 74 #[.val (.int p1), .val (.int (cF p1 (2 : Int32))), .val (.int (cF p1 (10 : Int32))), .val (.int (cF p1 (18 : Int32))), .val (.int (p1 &&& (3 : Int32)))] [(.int (2 : Int32)), (.int (p1 &&& (3 : Int32)))])) _
          refine XS.icmpNo X0.here hx rfl (hb hby d1_74) rfl (teq hb60).2 ?_
          exact kt)
        obtain ⟨T62, h62, X62, e62, E62, A62, D62, -, st62⟩ := newO X0 hx hZ hown (hw _ (List.mem_of_getElem? (i := 7) rfl)) (hw _ (List.mem_of_getElem? (i := 8) rfl)) (hw _ (List.mem_of_getElem? (i := 9) rfl)) e0 (g := (mkF m 77 #[.val (.int p1), .val (.int (cF p1 (2 : Int32))), .val (.int (cF p1 (10 : Int32))), .val (.int (cF p1 (18 : Int32))), .val (.int (p1 &&& (3 : Int32)))] [])) rfl (hb hby d1_77) (by decide) (by decide)
        obtain ⟨b62, g62⟩ : ∃ z, z = h0.size := ⟨_, rfl⟩
        rw [← g62] at A62 D62 st62
        have CR63 : CHr Z ELx s.vm h0 s.vm h62 := CR0.trans (CHr.ext E62 CR0.1)
        have f64 : Fld Z h62 b62 "java/lang/String" "value" "[B" .null := D62 (Or.inr (hw _ (List.mem_of_getElem? (i := 23) rfl))) (ty := (.array .byte)) (by decide)
        have f65 : Fld Z h62 b62 "java/lang/String" "coder" "B" (.int (0 : Int32)) := D62 (Or.inr (hw _ (List.mem_of_getElem? (i := 24) rfl))) (ty := .byte) (by decide)
        have K66 : Gx p e below s₁ f0 T62 (mkF m 80 #[.val (.int p1), .val (.int (cF p1 (2 : Int32))), .val (.int (cF p1 (10 : Int32))), .val (.int (cF p1 (18 : Int32))), .val (.int (p1 &&& (3 : Int32)))] [(.ref b62)]) := fun t kt => K61 t (st62 t kt)
        have K67 : Gx p e below s₁ f0 T62 (mkF m 82 #[.val (.int p1), .val (.int (cF p1 (2 : Int32))), .val (.int (cF p1 (10 : Int32))), .val (.int (cF p1 (18 : Int32))), .val (.int (p1 &&& (3 : Int32)))] [(.int (2 : Int32)), (.ref b62), (.ref b62)]) := fun t kt => K66 t (by
          show Steps p.tables e below (T62.setTop (mkF m 80 #[.val (.int p1), .val (.int (cF p1 (2 : Int32))), .val (.int (cF p1 (10 : Int32))), .val (.int (cF p1 (18 : Int32))), .val (.int (p1 &&& (3 : Int32)))] [(.ref b62)])) _
          refine XS.dup X62.here hx rfl (hb hby d1_80) rfl rfl ?_
          show Steps p.tables e below (T62.setTop (mkF m 81 #[.val (.int p1), .val (.int (cF p1 (2 : Int32))), .val (.int (cF p1 (10 : Int32))), .val (.int (cF p1 (18 : Int32))), .val (.int (p1 &&& (3 : Int32)))] [(.ref b62), (.ref b62)])) _
          refine XS.iconst X62.here hx rfl (hb hby d1_81) ?_
          exact kt)
        obtain ⟨T68, h68, k68, X68, e68, E68, A68, st68⟩ := newP X62 hx hZ (hw _ (List.mem_of_getElem? (i := 10) rfl)) e62 (g := (mkF m 82 #[.val (.int p1), .val (.int (cF p1 (2 : Int32))), .val (.int (cF p1 (10 : Int32))), .val (.int (cF p1 (18 : Int32))), .val (.int (p1 &&& (3 : Int32)))] [(.int (2 : Int32)), (.ref b62), (.ref b62)])) rfl (hb hby d1_82) rfl (by decide) (cap := 2) (by decide) (by decide) (by decide) (by decide)
        obtain ⟨b68, g68⟩ : ∃ z, z = h62.size := ⟨_, rfl⟩
        rw [← g68] at A68 st68
        have CR69 : CHr Z ELx s.vm h0 s.vm h68 := CR63.trans (CHr.ext E68 CR63.1)
        have V68 : Arv Z h68 b68 k68 .char (2 : Int32) [(.int (0 : Int32)), (.int (0 : Int32))] (.int (0 : Int32)) := (Arv.new A68 (by decide)).pad (pad_rep [] (.int (0 : Int32)) 2)
        have K70 : Gx p e below s₁ f0 T68 (mkF m 84 #[.val (.int p1), .val (.int (cF p1 (2 : Int32))), .val (.int (cF p1 (10 : Int32))), .val (.int (cF p1 (18 : Int32))), .val (.int (p1 &&& (3 : Int32)))] [(.ref b68), (.ref b62), (.ref b62)]) := fun t kt => K67 t (st68 t kt)
        have K71 : Gx p e below s₁ f0 T68 (mkF m 87 #[.val (.int p1), .val (.int (cF p1 (2 : Int32))), .val (.int (cF p1 (10 : Int32))), .val (.int (cF p1 (18 : Int32))), .val (.int (p1 &&& (3 : Int32)))] [(.int (cF p1 (2 : Int32))), (.int (0 : Int32)), (.ref b68), (.ref b68), (.ref b62), (.ref b62)]) := fun t kt => K70 t (by
          show Steps p.tables e below (T68.setTop (mkF m 84 #[.val (.int p1), .val (.int (cF p1 (2 : Int32))), .val (.int (cF p1 (10 : Int32))), .val (.int (cF p1 (18 : Int32))), .val (.int (p1 &&& (3 : Int32)))] [(.ref b68), (.ref b62), (.ref b62)])) _
          refine XS.dup X68.here hx rfl (hb hby d1_84) rfl rfl ?_
          show Steps p.tables e below (T68.setTop (mkF m 85 #[.val (.int p1), .val (.int (cF p1 (2 : Int32))), .val (.int (cF p1 (10 : Int32))), .val (.int (cF p1 (18 : Int32))), .val (.int (p1 &&& (3 : Int32)))] [(.ref b68), (.ref b68), (.ref b62), (.ref b62)])) _
          refine XS.iconst X68.here hx rfl (hb hby d1_85) ?_
          show Steps p.tables e below (T68.setTop (mkF m 86 #[.val (.int p1), .val (.int (cF p1 (2 : Int32))), .val (.int (cF p1 (10 : Int32))), .val (.int (cF p1 (18 : Int32))), .val (.int (p1 &&& (3 : Int32)))] [(.int (0 : Int32)), (.ref b68), (.ref b68), (.ref b62), (.ref b62)])) _
          refine XS.iloadN X68.here hx rfl (hb hby d1_86) rfl ?_
          exact kt)
        obtain ⟨clq72, Arq72, ckq72, cSq72, cNq72, cHq72, cGq72⟩ := id V68
        obtain ⟨T73, h73, X73', e73, W73, st73⟩ := stC X68 hx hZ e68 Arq72 (j := (0 : Int32)) (inb_of cSq72 ⟨by decide, by decide⟩) (g := (mkF m 87 #[.val (.int p1), .val (.int (cF p1 (2 : Int32))), .val (.int (cF p1 (10 : Int32))), .val (.int (cF p1 (18 : Int32))), .val (.int (p1 &&& (3 : Int32)))] [(.int (cF p1 (2 : Int32))), (.int (0 : Int32)), (.ref b68), (.ref b68), (.ref b62), (.ref b62)])) rfl rfl (hb hby d1_87)
        obtain ⟨lc73, X73, N73⟩ : ∃ lc, Stand p l e ({ frames := 4, cells := 6, slots := 12, locals := 66 } : Room) (s.setVm s.vm) m #[(.int p1)] below meth c T73 lc 2 6 ∧ Fr n0 lc := ⟨_, X73', Fr.snoc X73' N0 (Nat.le_trans Z0 (Nat.le_trans ((Keep.refl h0 []).ext E62).1 (Nat.le_of_eq g68.symm)))⟩
        have CR74 : CHr Z ELx s.vm h0 s.vm h73 := CR69.trans (CHr.wr W73 (Safe.arr hZ.alike Arq72 (by decide)) CR69.1)
        have V73 : Arv Z h73 b68 k68 .char (2 : Int32) [(.int (nar .char (cF p1 (2 : Int32)))), (.int (0 : Int32))] (.int (0 : Int32)) := Arv.set Arq72 ckq72 cSq72 cNq72 cHq72 cGq72 (fits_nar_char _) W73 0 rfl (Nat.le_of_ble_eq_true rfl)
        have K75 : Gx p e below s₁ f0 T73 (mkF m 88 #[.val (.int p1), .val (.int (cF p1 (2 : Int32))), .val (.int (cF p1 (10 : Int32))), .val (.int (cF p1 (18 : Int32))), .val (.int (p1 &&& (3 : Int32)))] [(.ref b68), (.ref b62), (.ref b62)]) := fun t kt => K71 t (st73 t kt)
        have K76 : Gx p e below s₁ f0 T73 (mkF m 91 #[.val (.int p1), .val (.int (cF p1 (2 : Int32))), .val (.int (cF p1 (10 : Int32))), .val (.int (cF p1 (18 : Int32))), .val (.int (p1 &&& (3 : Int32)))] [(.int (cF p1 (10 : Int32))), (.int (1 : Int32)), (.ref b68), (.ref b68), (.ref b62), (.ref b62)]) := fun t kt => K75 t (by
          show Steps p.tables e below (T73.setTop (mkF m 88 #[.val (.int p1), .val (.int (cF p1 (2 : Int32))), .val (.int (cF p1 (10 : Int32))), .val (.int (cF p1 (18 : Int32))), .val (.int (p1 &&& (3 : Int32)))] [(.ref b68), (.ref b62), (.ref b62)])) _
          refine XS.dup X73.here hx rfl (hb hby d1_88) rfl rfl ?_
          show Steps p.tables e below (T73.setTop (mkF m 89 #[.val (.int p1), .val (.int (cF p1 (2 : Int32))), .val (.int (cF p1 (10 : Int32))), .val (.int (cF p1 (18 : Int32))), .val (.int (p1 &&& (3 : Int32)))] [(.ref b68), (.ref b68), (.ref b62), (.ref b62)])) _
          refine XS.iconst X73.here hx rfl (hb hby d1_89) ?_
          show Steps p.tables e below (T73.setTop (mkF m 90 #[.val (.int p1), .val (.int (cF p1 (2 : Int32))), .val (.int (cF p1 (10 : Int32))), .val (.int (cF p1 (18 : Int32))), .val (.int (p1 &&& (3 : Int32)))] [(.int (1 : Int32)), (.ref b68), (.ref b68), (.ref b62), (.ref b62)])) _
          refine XS.iloadN X73.here hx rfl (hb hby d1_90) rfl ?_
          exact kt)
        obtain ⟨clq77, Arq77, ckq77, cSq77, cNq77, cHq77, cGq77⟩ := id V73
        obtain ⟨T78, h78, X78', e78, W78, st78⟩ := stC X73 hx hZ e73 Arq77 (j := (1 : Int32)) (inb_of cSq77 ⟨by decide, by decide⟩) (g := (mkF m 91 #[.val (.int p1), .val (.int (cF p1 (2 : Int32))), .val (.int (cF p1 (10 : Int32))), .val (.int (cF p1 (18 : Int32))), .val (.int (p1 &&& (3 : Int32)))] [(.int (cF p1 (10 : Int32))), (.int (1 : Int32)), (.ref b68), (.ref b68), (.ref b62), (.ref b62)])) rfl rfl (hb hby d1_91)
        obtain ⟨lc78, X78, N78⟩ : ∃ lc, Stand p l e ({ frames := 4, cells := 6, slots := 12, locals := 66 } : Room) (s.setVm s.vm) m #[(.int p1)] below meth c T78 lc 2 6 ∧ Fr n0 lc := ⟨_, X78', Fr.snoc X78' N73 (Nat.le_trans Z0 (Nat.le_trans ((Keep.refl h0 []).ext E62).1 (Nat.le_of_eq g68.symm)))⟩
        have CR79 : CHr Z ELx s.vm h0 s.vm h78 := CR74.trans (CHr.wr W78 (Safe.arr hZ.alike Arq77 (by decide)) CR74.1)
        have V78 : Arv Z h78 b68 k68 .char (2 : Int32) [(.int (nar .char (cF p1 (2 : Int32)))), (.int (nar .char (cF p1 (10 : Int32))))] (.int (0 : Int32)) := Arv.set Arq77 ckq77 cSq77 cNq77 cHq77 cGq77 (fits_nar_char _) W78 1 rfl (Nat.le_of_ble_eq_true rfl)
        have K80 : Gx p e below s₁ f0 T78 (mkF m 92 #[.val (.int p1), .val (.int (cF p1 (2 : Int32))), .val (.int (cF p1 (10 : Int32))), .val (.int (cF p1 (18 : Int32))), .val (.int (p1 &&& (3 : Int32)))] [(.ref b68), (.ref b62), (.ref b62)]) := fun t kt => K76 t (st78 t kt)
        have f81 : Exa Z h78 b62 "java/lang/String" := (((A62.ext E68).wr W73).wr W78)
        have f82 : Fld Z h78 b62 "java/lang/String" "value" "[B" .null := (((f64.ext E68).other W73 (Or.inl (Nat.ne_of_lt (Nat.lt_of_lt_of_le A62.lt (Nat.le_of_eq g68.symm))))).other W78 (Or.inl (Nat.ne_of_lt (Nat.lt_of_lt_of_le A62.lt (Nat.le_of_eq g68.symm)))))
        have f83 : Fld Z h78 b62 "java/lang/String" "coder" "B" (.int (0 : Int32)) := (((f65.ext E68).other W73 (Or.inl (Nat.ne_of_lt (Nat.lt_of_lt_of_le A62.lt (Nat.le_of_eq g68.symm))))).other W78 (Or.inl (Nat.ne_of_lt (Nat.lt_of_lt_of_le A62.lt (Nat.le_of_eq g68.symm)))))
        have f84 : Old Z n0 h78 := ((((pr0.ext E62).ext E68).wr W73 (Nat.le_trans Z0 (Nat.le_trans ((Keep.refl h0 []).ext E62).1 (Nat.le_of_eq g68.symm)))).wr W78 (Nat.le_trans Z0 (Nat.le_trans ((Keep.refl h0 []).ext E62).1 (Nat.le_of_eq g68.symm))))
        have kp85 : Keep h0 h78 [] := (((((Keep.refl h0 []).ext E62).ext E68).wr W73 (Or.inr (Nat.le_trans ((Keep.refl h0 []).ext E62).1 (Nat.le_of_eq g68.symm)))).wr W78 (Or.inr (Nat.le_trans ((Keep.refl h0 []).ext E62).1 (Nat.le_of_eq g68.symm))))
        obtain ⟨_, _, ⟨T86, L86, k86, n86⟩, -, X86', ⟨Lc86, hQ86, l86, y86, z86⟩, st86⟩ := X78.specialBack hx (y := (⟨"java/lang/String", "<init>", "([C)V"⟩ : MethodName)) rfl hown (mvT hZ (hw _ (List.mem_of_getElem? (i := 11) rfl))) (mvT hZ (hw _ (List.mem_of_getElem? (i := 12) rfl))) (mvT hZ (hw _ (List.mem_of_getElem? (i := 13) rfl))) (by decide) (backOf (W := 1) (rmIn1_2 l Z a0 hw [] b62 b68 k68 (nar .char (cF p1 (2 : Int32))) (nar .char (cF p1 (10 : Int32))) cw h78 n0 (Nat.le_trans Z0 kp85.1) f81 (Nat.le_trans Z0 (Nat.le_trans (Keep.refl h0 []).1 (Nat.le_of_eq g62.symm))) f82 f83 V78 (own_c255 _ _) (own_c255 _ _) f84 pr1 hcw) hZ (hw _ (List.mem_of_getElem? (i := 13) rfl)) (hw _ (List.mem_of_getElem? (i := 9) rfl)) (by decide) (by decide)) (g := (mkF m 92 #[.val (.int p1), .val (.int (cF p1 (2 : Int32))), .val (.int (cF p1 (10 : Int32))), .val (.int (cF p1 (18 : Int32))), .val (.int (p1 &&& (3 : Int32)))] [(.ref b68), (.ref b62), (.ref b62)])) rfl (by rw [hml]; rfl) (Steps.refl _) (a := b62) (argsL := [(.ref b68)]) (rest := [(.ref b62)]) (lenOf pd___C_V rfl) rfl (by show 2 * 0 + _ ≤ _; exact Nat.le_of_eq rfl) (hb hby d1_92) (fun _ _ => ⟨rfl, e78, (by decide : 2 + 1 ≤ _), (by decide : 6 + 2 ≤ _)⟩)
        dsimp only [Pt.U, Pt.locs, Pt.cells, Pt.slots] at X86' l86 y86 z86 st86 hQ86
        subst l86 y86 z86
        obtain ⟨h86, e86⟩ : ∃ z, T86.heap = z := ⟨_, rfl⟩
        rw [e86] at hQ86
        obtain ⟨tb_86, tk_86, rfl, N86q, Kc86, f87, f88, f89, f90, f91⟩ := hQ86
        obtain ⟨lc86, X86, N86⟩ : ∃ lc, Stand p l e ({ frames := 4, cells := 6, slots := 12, locals := 66 } : Room) (s.setVm s.vm) m #[(.int p1)] below meth c T86 lc 3 8 ∧ Fr n0 lc := ⟨_, X86', Fr.app N78 N86q⟩
        have CR92 : CHr Z ELx s.vm h0 s.vm h86 := CR79.trans (CHr.keep Kc86 (allS (own_safeN hZ.alike f81 f82) all0) CR79.1)
        have K93 : Gx p e below s₁ f0 T86 (mkF m 95 #[.val (.int p1), .val (.int (cF p1 (2 : Int32))), .val (.int (cF p1 (10 : Int32))), .val (.int (cF p1 (18 : Int32))), .val (.int (p1 &&& (3 : Int32)))] [(.ref b62)]) := fun t kt => K80 t (st86.trans kt)
        have kp95 : Keep h0 h86 [] := (Keep.trans kp85 Kc86 (allS (Or.inr (Nat.le_trans (Keep.refl h0 []).1 (Nat.le_of_eq g62.symm))) all0))
        have CR94_ := CR92.trans (CHv.at X86 hZ (own_EW hw) CR92.1)
        obtain ⟨fs94, hr94, hrun94, hended94, hRW94⟩ := X86.leaveW hS0 (show _ ≤ T86.heap.size by first | (rw [e86]; exact (Nat.le_trans (Nat.le_trans (Nat.le_trans (Nat.le_trans (Nat.le_trans hk0 E62.1) E68.1) (Keep.of_wr W73).1) (Keep.of_wr W78).1) Kc86.1)) | exact Nat.le_refl _) (v := some (.ref b62)) (fun h => by rw [Bd.returns] at h; cases h)
        refine ⟨_, _, pre0 _ (K93 _ ?_), hrun94, hended94, _, _, rfl, ?_, ?_, hRW94.1, hRW94.2.1, hRW94.2.2.1, hRW94.2.2.2.mono (by decide) (by decide)⟩
        · show Steps p.tables e below (T86.setTop (mkF m 95 #[.val (.int p1), .val (.int (cF p1 (2 : Int32))), .val (.int (cF p1 (10 : Int32))), .val (.int (cF p1 (18 : Int32))), .val (.int (p1 &&& (3 : Int32)))] [(.ref b62)])) _
          jvm_step X86.here [X86.here.top, hx, (hb hby d1_95), X86.method', Bd.returns, Value.isRef, FieldType.isReference]
          first | (intro acts; rw [hr94 _ acts rfl rfl rfl]) | rw [hr94 _ _ rfl rfl rfl]
          exact Steps.refl _
        · show QMk Z p1 cw h0 n0 _ T86.heap _
          rw [e86]
          exact ⟨b62, tb_86, tk_86, rfl, N86, kp95, (Nat.le_trans (Keep.refl h0 []).1 (Nat.le_of_eq g62.symm)), f88, f89, f90, (own_re f91 hb60 (fun i hi => by match i, hi with | 0, _ => exact rfl | 1, _ => exact rfl | i + 2, hi => exact absurd hi (by have : (2 : Int32).toNatClampNeg = 2 := rfl; omega)))⟩
        · show CHr Z ELx s.vm s.heap T86.vm T86.heap
          rw [e86]
          exact hs0 ▸ CR94_
      · skip
        have K96 : Gx p e below s₁ f0 s₁ (mkF m 96 #[.val (.int p1), .val (.int (cF p1 (2 : Int32))), .val (.int (cF p1 (10 : Int32))), .val (.int (cF p1 (18 : Int32))), .val (.int (p1 &&& (3 : Int32)))] []) := fun t kt => K59 t (by
          show Steps p.tables e below (s₁.setTop (mkF m 74 #[.val (.int p1), .val (.int (cF p1 (2 : Int32))), .val (.int (cF p1 (10 : Int32))), .val (.int (cF p1 (18 : Int32))), .val (.int (p1 &&& (3 : Int32)))] [(.int (2 : Int32)), (.int (p1 &&& (3 : Int32)))])) _
          refine XS.icmpYes X0.here hx rfl (pc0 := 74) (pc' := 96) rfl (hb hby d1_74) rfl (feq hb60).2 (by decide) (by decide) ?_
          exact kt)
        obtain ⟨T97, h97, X97, e97, E97, A97, D97, -, st97⟩ := newO X0 hx hZ hown (hw _ (List.mem_of_getElem? (i := 7) rfl)) (hw _ (List.mem_of_getElem? (i := 8) rfl)) (hw _ (List.mem_of_getElem? (i := 9) rfl)) e0 (g := (mkF m 96 #[.val (.int p1), .val (.int (cF p1 (2 : Int32))), .val (.int (cF p1 (10 : Int32))), .val (.int (cF p1 (18 : Int32))), .val (.int (p1 &&& (3 : Int32)))] [])) rfl (hb hby d1_96) (by decide) (by decide)
        obtain ⟨b97, g97⟩ : ∃ z, z = h0.size := ⟨_, rfl⟩
        rw [← g97] at A97 D97 st97
        have CR98 : CHr Z ELx s.vm h0 s.vm h97 := CR0.trans (CHr.ext E97 CR0.1)
        have f99 : Fld Z h97 b97 "java/lang/String" "value" "[B" .null := D97 (Or.inr (hw _ (List.mem_of_getElem? (i := 23) rfl))) (ty := (.array .byte)) (by decide)
        have f100 : Fld Z h97 b97 "java/lang/String" "coder" "B" (.int (0 : Int32)) := D97 (Or.inr (hw _ (List.mem_of_getElem? (i := 24) rfl))) (ty := .byte) (by decide)
        have K101 : Gx p e below s₁ f0 T97 (mkF m 99 #[.val (.int p1), .val (.int (cF p1 (2 : Int32))), .val (.int (cF p1 (10 : Int32))), .val (.int (cF p1 (18 : Int32))), .val (.int (p1 &&& (3 : Int32)))] [(.ref b97)]) := fun t kt => K96 t (st97 t kt)
        have K102 : Gx p e below s₁ f0 T97 (mkF m 101 #[.val (.int p1), .val (.int (cF p1 (2 : Int32))), .val (.int (cF p1 (10 : Int32))), .val (.int (cF p1 (18 : Int32))), .val (.int (p1 &&& (3 : Int32)))] [(.int (3 : Int32)), (.ref b97), (.ref b97)]) := fun t kt => K101 t (by
          show Steps p.tables e below (T97.setTop (mkF m 99 #[.val (.int p1), .val (.int (cF p1 (2 : Int32))), .val (.int (cF p1 (10 : Int32))), .val (.int (cF p1 (18 : Int32))), .val (.int (p1 &&& (3 : Int32)))] [(.ref b97)])) _
          refine XS.dup X97.here hx rfl (hb hby d1_99) rfl rfl ?_
          show Steps p.tables e below (T97.setTop (mkF m 100 #[.val (.int p1), .val (.int (cF p1 (2 : Int32))), .val (.int (cF p1 (10 : Int32))), .val (.int (cF p1 (18 : Int32))), .val (.int (p1 &&& (3 : Int32)))] [(.ref b97), (.ref b97)])) _
          refine XS.iconst X97.here hx rfl (hb hby d1_100) ?_
          exact kt)
        obtain ⟨T103, h103, k103, X103, e103, E103, A103, st103⟩ := newP X97 hx hZ (hw _ (List.mem_of_getElem? (i := 10) rfl)) e97 (g := (mkF m 101 #[.val (.int p1), .val (.int (cF p1 (2 : Int32))), .val (.int (cF p1 (10 : Int32))), .val (.int (cF p1 (18 : Int32))), .val (.int (p1 &&& (3 : Int32)))] [(.int (3 : Int32)), (.ref b97), (.ref b97)])) rfl (hb hby d1_101) rfl (by decide) (cap := 3) (by decide) (by decide) (by decide) (by decide)
        obtain ⟨b103, g103⟩ : ∃ z, z = h97.size := ⟨_, rfl⟩
        rw [← g103] at A103 st103
        have CR104 : CHr Z ELx s.vm h0 s.vm h103 := CR98.trans (CHr.ext E103 CR98.1)
        have V103 : Arv Z h103 b103 k103 .char (3 : Int32) [(.int (0 : Int32)), (.int (0 : Int32)), (.int (0 : Int32))] (.int (0 : Int32)) := (Arv.new A103 (by decide)).pad (pad_rep [] (.int (0 : Int32)) 3)
        have K105 : Gx p e below s₁ f0 T103 (mkF m 103 #[.val (.int p1), .val (.int (cF p1 (2 : Int32))), .val (.int (cF p1 (10 : Int32))), .val (.int (cF p1 (18 : Int32))), .val (.int (p1 &&& (3 : Int32)))] [(.ref b103), (.ref b97), (.ref b97)]) := fun t kt => K102 t (st103 t kt)
        have K106 : Gx p e below s₁ f0 T103 (mkF m 106 #[.val (.int p1), .val (.int (cF p1 (2 : Int32))), .val (.int (cF p1 (10 : Int32))), .val (.int (cF p1 (18 : Int32))), .val (.int (p1 &&& (3 : Int32)))] [(.int (cF p1 (2 : Int32))), (.int (0 : Int32)), (.ref b103), (.ref b103), (.ref b97), (.ref b97)]) := fun t kt => K105 t (by
          show Steps p.tables e below (T103.setTop (mkF m 103 #[.val (.int p1), .val (.int (cF p1 (2 : Int32))), .val (.int (cF p1 (10 : Int32))), .val (.int (cF p1 (18 : Int32))), .val (.int (p1 &&& (3 : Int32)))] [(.ref b103), (.ref b97), (.ref b97)])) _
          refine XS.dup X103.here hx rfl (hb hby d1_103) rfl rfl ?_
          show Steps p.tables e below (T103.setTop (mkF m 104 #[.val (.int p1), .val (.int (cF p1 (2 : Int32))), .val (.int (cF p1 (10 : Int32))), .val (.int (cF p1 (18 : Int32))), .val (.int (p1 &&& (3 : Int32)))] [(.ref b103), (.ref b103), (.ref b97), (.ref b97)])) _
          refine XS.iconst X103.here hx rfl (hb hby d1_104) ?_
          show Steps p.tables e below (T103.setTop (mkF m 105 #[.val (.int p1), .val (.int (cF p1 (2 : Int32))), .val (.int (cF p1 (10 : Int32))), .val (.int (cF p1 (18 : Int32))), .val (.int (p1 &&& (3 : Int32)))] [(.int (0 : Int32)), (.ref b103), (.ref b103), (.ref b97), (.ref b97)])) _
          refine XS.iloadN X103.here hx rfl (hb hby d1_105) rfl ?_
          exact kt)
        obtain ⟨clq107, Arq107, ckq107, cSq107, cNq107, cHq107, cGq107⟩ := id V103
        obtain ⟨T108, h108, X108', e108, W108, st108⟩ := stC X103 hx hZ e103 Arq107 (j := (0 : Int32)) (inb_of cSq107 ⟨by decide, by decide⟩) (g := (mkF m 106 #[.val (.int p1), .val (.int (cF p1 (2 : Int32))), .val (.int (cF p1 (10 : Int32))), .val (.int (cF p1 (18 : Int32))), .val (.int (p1 &&& (3 : Int32)))] [(.int (cF p1 (2 : Int32))), (.int (0 : Int32)), (.ref b103), (.ref b103), (.ref b97), (.ref b97)])) rfl rfl (hb hby d1_106)
        obtain ⟨lc108, X108, N108⟩ : ∃ lc, Stand p l e ({ frames := 4, cells := 6, slots := 12, locals := 66 } : Room) (s.setVm s.vm) m #[(.int p1)] below meth c T108 lc 2 7 ∧ Fr n0 lc := ⟨_, X108', Fr.snoc X108' N0 (Nat.le_trans Z0 (Nat.le_trans ((Keep.refl h0 []).ext E97).1 (Nat.le_of_eq g103.symm)))⟩
        have CR109 : CHr Z ELx s.vm h0 s.vm h108 := CR104.trans (CHr.wr W108 (Safe.arr hZ.alike Arq107 (by decide)) CR104.1)
        have V108 : Arv Z h108 b103 k103 .char (3 : Int32) [(.int (nar .char (cF p1 (2 : Int32)))), (.int (0 : Int32)), (.int (0 : Int32))] (.int (0 : Int32)) := Arv.set Arq107 ckq107 cSq107 cNq107 cHq107 cGq107 (fits_nar_char _) W108 0 rfl (Nat.le_of_ble_eq_true rfl)
        have K110 : Gx p e below s₁ f0 T108 (mkF m 107 #[.val (.int p1), .val (.int (cF p1 (2 : Int32))), .val (.int (cF p1 (10 : Int32))), .val (.int (cF p1 (18 : Int32))), .val (.int (p1 &&& (3 : Int32)))] [(.ref b103), (.ref b97), (.ref b97)]) := fun t kt => K106 t (st108 t kt)
        have K111 : Gx p e below s₁ f0 T108 (mkF m 110 #[.val (.int p1), .val (.int (cF p1 (2 : Int32))), .val (.int (cF p1 (10 : Int32))), .val (.int (cF p1 (18 : Int32))), .val (.int (p1 &&& (3 : Int32)))] [(.int (cF p1 (10 : Int32))), (.int (1 : Int32)), (.ref b103), (.ref b103), (.ref b97), (.ref b97)]) := fun t kt => K110 t (by
          show Steps p.tables e below (T108.setTop (mkF m 107 #[.val (.int p1), .val (.int (cF p1 (2 : Int32))), .val (.int (cF p1 (10 : Int32))), .val (.int (cF p1 (18 : Int32))), .val (.int (p1 &&& (3 : Int32)))] [(.ref b103), (.ref b97), (.ref b97)])) _
          refine XS.dup X108.here hx rfl (hb hby d1_107) rfl rfl ?_
          show Steps p.tables e below (T108.setTop (mkF m 108 #[.val (.int p1), .val (.int (cF p1 (2 : Int32))), .val (.int (cF p1 (10 : Int32))), .val (.int (cF p1 (18 : Int32))), .val (.int (p1 &&& (3 : Int32)))] [(.ref b103), (.ref b103), (.ref b97), (.ref b97)])) _
          refine XS.iconst X108.here hx rfl (hb hby d1_108) ?_
          show Steps p.tables e below (T108.setTop (mkF m 109 #[.val (.int p1), .val (.int (cF p1 (2 : Int32))), .val (.int (cF p1 (10 : Int32))), .val (.int (cF p1 (18 : Int32))), .val (.int (p1 &&& (3 : Int32)))] [(.int (1 : Int32)), (.ref b103), (.ref b103), (.ref b97), (.ref b97)])) _
          refine XS.iloadN X108.here hx rfl (hb hby d1_109) rfl ?_
          exact kt)
        obtain ⟨clq112, Arq112, ckq112, cSq112, cNq112, cHq112, cGq112⟩ := id V108
        obtain ⟨T113, h113, X113', e113, W113, st113⟩ := stC X108 hx hZ e108 Arq112 (j := (1 : Int32)) (inb_of cSq112 ⟨by decide, by decide⟩) (g := (mkF m 110 #[.val (.int p1), .val (.int (cF p1 (2 : Int32))), .val (.int (cF p1 (10 : Int32))), .val (.int (cF p1 (18 : Int32))), .val (.int (p1 &&& (3 : Int32)))] [(.int (cF p1 (10 : Int32))), (.int (1 : Int32)), (.ref b103), (.ref b103), (.ref b97), (.ref b97)])) rfl rfl (hb hby d1_110)
        obtain ⟨lc113, X113, N113⟩ : ∃ lc, Stand p l e ({ frames := 4, cells := 6, slots := 12, locals := 66 } : Room) (s.setVm s.vm) m #[(.int p1)] below meth c T113 lc 2 7 ∧ Fr n0 lc := ⟨_, X113', Fr.snoc X113' N108 (Nat.le_trans Z0 (Nat.le_trans ((Keep.refl h0 []).ext E97).1 (Nat.le_of_eq g103.symm)))⟩
        have CR114 : CHr Z ELx s.vm h0 s.vm h113 := CR109.trans (CHr.wr W113 (Safe.arr hZ.alike Arq112 (by decide)) CR109.1)
        have V113 : Arv Z h113 b103 k103 .char (3 : Int32) [(.int (nar .char (cF p1 (2 : Int32)))), (.int (nar .char (cF p1 (10 : Int32)))), (.int (0 : Int32))] (.int (0 : Int32)) := Arv.set Arq112 ckq112 cSq112 cNq112 cHq112 cGq112 (fits_nar_char _) W113 1 rfl (Nat.le_of_ble_eq_true rfl)
        have K115 : Gx p e below s₁ f0 T113 (mkF m 111 #[.val (.int p1), .val (.int (cF p1 (2 : Int32))), .val (.int (cF p1 (10 : Int32))), .val (.int (cF p1 (18 : Int32))), .val (.int (p1 &&& (3 : Int32)))] [(.ref b103), (.ref b97), (.ref b97)]) := fun t kt => K111 t (st113 t kt)
        have K116 : Gx p e below s₁ f0 T113 (mkF m 114 #[.val (.int p1), .val (.int (cF p1 (2 : Int32))), .val (.int (cF p1 (10 : Int32))), .val (.int (cF p1 (18 : Int32))), .val (.int (p1 &&& (3 : Int32)))] [(.int (cF p1 (18 : Int32))), (.int (2 : Int32)), (.ref b103), (.ref b103), (.ref b97), (.ref b97)]) := fun t kt => K115 t (by
          show Steps p.tables e below (T113.setTop (mkF m 111 #[.val (.int p1), .val (.int (cF p1 (2 : Int32))), .val (.int (cF p1 (10 : Int32))), .val (.int (cF p1 (18 : Int32))), .val (.int (p1 &&& (3 : Int32)))] [(.ref b103), (.ref b97), (.ref b97)])) _
          refine XS.dup X113.here hx rfl (hb hby d1_111) rfl rfl ?_
          show Steps p.tables e below (T113.setTop (mkF m 112 #[.val (.int p1), .val (.int (cF p1 (2 : Int32))), .val (.int (cF p1 (10 : Int32))), .val (.int (cF p1 (18 : Int32))), .val (.int (p1 &&& (3 : Int32)))] [(.ref b103), (.ref b103), (.ref b97), (.ref b97)])) _
          refine XS.iconst X113.here hx rfl (hb hby d1_112) ?_
          show Steps p.tables e below (T113.setTop (mkF m 113 #[.val (.int p1), .val (.int (cF p1 (2 : Int32))), .val (.int (cF p1 (10 : Int32))), .val (.int (cF p1 (18 : Int32))), .val (.int (p1 &&& (3 : Int32)))] [(.int (2 : Int32)), (.ref b103), (.ref b103), (.ref b97), (.ref b97)])) _
          refine XS.iloadN X113.here hx rfl (hb hby d1_113) rfl ?_
          exact kt)
        obtain ⟨clq117, Arq117, ckq117, cSq117, cNq117, cHq117, cGq117⟩ := id V113
        obtain ⟨T118, h118, X118', e118, W118, st118⟩ := stC X113 hx hZ e113 Arq117 (j := (2 : Int32)) (inb_of cSq117 ⟨by decide, by decide⟩) (g := (mkF m 114 #[.val (.int p1), .val (.int (cF p1 (2 : Int32))), .val (.int (cF p1 (10 : Int32))), .val (.int (cF p1 (18 : Int32))), .val (.int (p1 &&& (3 : Int32)))] [(.int (cF p1 (18 : Int32))), (.int (2 : Int32)), (.ref b103), (.ref b103), (.ref b97), (.ref b97)])) rfl rfl (hb hby d1_114)
        obtain ⟨lc118, X118, N118⟩ : ∃ lc, Stand p l e ({ frames := 4, cells := 6, slots := 12, locals := 66 } : Room) (s.setVm s.vm) m #[(.int p1)] below meth c T118 lc 2 7 ∧ Fr n0 lc := ⟨_, X118', Fr.snoc X118' N113 (Nat.le_trans Z0 (Nat.le_trans ((Keep.refl h0 []).ext E97).1 (Nat.le_of_eq g103.symm)))⟩
        have CR119 : CHr Z ELx s.vm h0 s.vm h118 := CR114.trans (CHr.wr W118 (Safe.arr hZ.alike Arq117 (by decide)) CR114.1)
        have V118 : Arv Z h118 b103 k103 .char (3 : Int32) [(.int (nar .char (cF p1 (2 : Int32)))), (.int (nar .char (cF p1 (10 : Int32)))), (.int (nar .char (cF p1 (18 : Int32))))] (.int (0 : Int32)) := Arv.set Arq117 ckq117 cSq117 cNq117 cHq117 cGq117 (fits_nar_char _) W118 2 rfl (Nat.le_of_ble_eq_true rfl)
        have K120 : Gx p e below s₁ f0 T118 (mkF m 115 #[.val (.int p1), .val (.int (cF p1 (2 : Int32))), .val (.int (cF p1 (10 : Int32))), .val (.int (cF p1 (18 : Int32))), .val (.int (p1 &&& (3 : Int32)))] [(.ref b103), (.ref b97), (.ref b97)]) := fun t kt => K116 t (st118 t kt)
        have f121 : Exa Z h118 b97 "java/lang/String" := ((((A97.ext E103).wr W108).wr W113).wr W118)
        have f122 : Fld Z h118 b97 "java/lang/String" "value" "[B" .null := ((((f99.ext E103).other W108 (Or.inl (Nat.ne_of_lt (Nat.lt_of_lt_of_le A97.lt (Nat.le_of_eq g103.symm))))).other W113 (Or.inl (Nat.ne_of_lt (Nat.lt_of_lt_of_le A97.lt (Nat.le_of_eq g103.symm))))).other W118 (Or.inl (Nat.ne_of_lt (Nat.lt_of_lt_of_le A97.lt (Nat.le_of_eq g103.symm)))))
        have f123 : Fld Z h118 b97 "java/lang/String" "coder" "B" (.int (0 : Int32)) := ((((f100.ext E103).other W108 (Or.inl (Nat.ne_of_lt (Nat.lt_of_lt_of_le A97.lt (Nat.le_of_eq g103.symm))))).other W113 (Or.inl (Nat.ne_of_lt (Nat.lt_of_lt_of_le A97.lt (Nat.le_of_eq g103.symm))))).other W118 (Or.inl (Nat.ne_of_lt (Nat.lt_of_lt_of_le A97.lt (Nat.le_of_eq g103.symm)))))
        have f124 : Old Z n0 h118 := (((((pr0.ext E97).ext E103).wr W108 (Nat.le_trans Z0 (Nat.le_trans ((Keep.refl h0 []).ext E97).1 (Nat.le_of_eq g103.symm)))).wr W113 (Nat.le_trans Z0 (Nat.le_trans ((Keep.refl h0 []).ext E97).1 (Nat.le_of_eq g103.symm)))).wr W118 (Nat.le_trans Z0 (Nat.le_trans ((Keep.refl h0 []).ext E97).1 (Nat.le_of_eq g103.symm))))
        have kp125 : Keep h0 h118 [] := ((((((Keep.refl h0 []).ext E97).ext E103).wr W108 (Or.inr (Nat.le_trans ((Keep.refl h0 []).ext E97).1 (Nat.le_of_eq g103.symm)))).wr W113 (Or.inr (Nat.le_trans ((Keep.refl h0 []).ext E97).1 (Nat.le_of_eq g103.symm)))).wr W118 (Or.inr (Nat.le_trans ((Keep.refl h0 []).ext E97).1 (Nat.le_of_eq g103.symm))))
        obtain ⟨_, _, ⟨T126, L126, k126, n126⟩, -, X126', ⟨Lc126, hQ126, l126, y126, z126⟩, st126⟩ := X118.specialBack hx (y := (⟨"java/lang/String", "<init>", "([C)V"⟩ : MethodName)) rfl hown (mvT hZ (hw _ (List.mem_of_getElem? (i := 11) rfl))) (mvT hZ (hw _ (List.mem_of_getElem? (i := 12) rfl))) (mvT hZ (hw _ (List.mem_of_getElem? (i := 13) rfl))) (by decide) (backOf (W := 1) (rmIn1_3 l Z a0 hw [] b97 b103 k103 (nar .char (cF p1 (2 : Int32))) (nar .char (cF p1 (10 : Int32))) (nar .char (cF p1 (18 : Int32))) cw h118 n0 (Nat.le_trans Z0 kp125.1) f121 (Nat.le_trans Z0 (Nat.le_trans (Keep.refl h0 []).1 (Nat.le_of_eq g97.symm))) f122 f123 V118 (own_c255 _ _) (own_c255 _ _) (own_c255 _ _) f124 pr1 hcw) hZ (hw _ (List.mem_of_getElem? (i := 13) rfl)) (hw _ (List.mem_of_getElem? (i := 9) rfl)) (by decide) (by decide)) (g := (mkF m 115 #[.val (.int p1), .val (.int (cF p1 (2 : Int32))), .val (.int (cF p1 (10 : Int32))), .val (.int (cF p1 (18 : Int32))), .val (.int (p1 &&& (3 : Int32)))] [(.ref b103), (.ref b97), (.ref b97)])) rfl (by rw [hml]; rfl) (Steps.refl _) (a := b97) (argsL := [(.ref b103)]) (rest := [(.ref b97)]) (lenOf pd___C_V rfl) rfl (by show 2 * 0 + _ ≤ _; exact Nat.le_of_eq rfl) (hb hby d1_115) (fun _ _ => ⟨rfl, e118, (by decide : 2 + 1 ≤ _), (by decide : 7 + 3 ≤ _)⟩)
        dsimp only [Pt.U, Pt.locs, Pt.cells, Pt.slots] at X126' l126 y126 z126 st126 hQ126
        subst l126 y126 z126
        obtain ⟨h126, e126⟩ : ∃ z, T126.heap = z := ⟨_, rfl⟩
        rw [e126] at hQ126
        obtain ⟨tb_126, tk_126, rfl, N126q, Kc126, f127, f128, f129, f130, f131⟩ := hQ126
        obtain ⟨lc126, X126, N126⟩ : ∃ lc, Stand p l e ({ frames := 4, cells := 6, slots := 12, locals := 66 } : Room) (s.setVm s.vm) m #[(.int p1)] below meth c T126 lc 3 10 ∧ Fr n0 lc := ⟨_, X126', Fr.app N118 N126q⟩
        have CR132 : CHr Z ELx s.vm h0 s.vm h126 := CR119.trans (CHr.keep Kc126 (allS (own_safeN hZ.alike f121 f122) all0) CR119.1)
        have K133 : Gx p e below s₁ f0 T126 (mkF m 118 #[.val (.int p1), .val (.int (cF p1 (2 : Int32))), .val (.int (cF p1 (10 : Int32))), .val (.int (cF p1 (18 : Int32))), .val (.int (p1 &&& (3 : Int32)))] [(.ref b97)]) := fun t kt => K120 t (st126.trans kt)
        have kp135 : Keep h0 h126 [] := (Keep.trans kp125 Kc126 (allS (Or.inr (Nat.le_trans (Keep.refl h0 []).1 (Nat.le_of_eq g97.symm))) all0))
        have CR134_ := CR132.trans (CHv.at X126 hZ (own_EW hw) CR132.1)
        obtain ⟨fs134, hr134, hrun134, hended134, hRW134⟩ := X126.leaveW hS0 (show _ ≤ T126.heap.size by first | (rw [e126]; exact (Nat.le_trans (Nat.le_trans (Nat.le_trans (Nat.le_trans (Nat.le_trans (Nat.le_trans hk0 E97.1) E103.1) (Keep.of_wr W108).1) (Keep.of_wr W113).1) (Keep.of_wr W118).1) Kc126.1)) | exact Nat.le_refl _) (v := some (.ref b97)) (fun h => by rw [Bd.returns] at h; cases h)
        refine ⟨_, _, pre0 _ (K133 _ ?_), hrun134, hended134, _, _, rfl, ?_, ?_, hRW134.1, hRW134.2.1, hRW134.2.2.1, hRW134.2.2.2.mono (by decide) (by decide)⟩
        · show Steps p.tables e below (T126.setTop (mkF m 118 #[.val (.int p1), .val (.int (cF p1 (2 : Int32))), .val (.int (cF p1 (10 : Int32))), .val (.int (cF p1 (18 : Int32))), .val (.int (p1 &&& (3 : Int32)))] [(.ref b97)])) _
          jvm_step X126.here [X126.here.top, hx, (hb hby d1_118), X126.method', Bd.returns, Value.isRef, FieldType.isReference]
          first | (intro acts; rw [hr134 _ acts rfl rfl rfl]) | rw [hr134 _ _ rfl rfl rfl]
          exact Steps.refl _
        · show QMk Z p1 cw h0 n0 _ T126.heap _
          rw [e126]
          exact ⟨b97, tb_126, tk_126, rfl, N126, kp135, (Nat.le_trans (Keep.refl h0 []).1 (Nat.le_of_eq g97.symm)), f128, f129, f130, (own_re f131 (own_three hb3 hb28 hb60) (fun i hi => by match i, hi with | 0, _ => exact rfl | 1, _ => exact rfl | 2, _ => exact rfl | i + 3, hi => exact absurd hi (by have : (3 : Int32).toNatClampNeg = 3 := rfl; omega)))⟩
        · show CHr Z ELx s.vm s.heap T126.vm T126.heap
          rw [e126]
          exact hs0 ▸ CR134_
theorem d9_0 : decode jdk_31_method_11_code 0 = .ok (.aload_n 0, 1) := by decide +kernel
theorem d9_1 : decode jdk_31_method_11_code 1 = .ok (.ifnonnull 12, 3) := by decide +kernel
theorem d9_13 : decode jdk_31_method_11_code 13 = .ok (.aload_n 0, 1) := by decide +kernel
theorem d9_14 : decode jdk_31_method_11_code 14 = .ok (.areturn, 1) := by decide +kernel
theorem pn_9 : plainName "java/util/Objects" = true := by first | (simp [plainName, overriddenIn]; done) | decide +kernel
theorem ef_Rnn (m : MethodId) (a1 : Addr) (a2 : Addr) : entryFrame m #[(.ref a1), (.ref a2)] 2 = mkF m 0 #[.val (.ref a1), .val (.ref a2)] [] := by first | (simp [entryFrame, mkF, argsToLocals, Value.category]; done) | rfl
def QRnn (Z : State) (a1 : Addr) (a2 : Addr) (h0 : Heap) (n0 : Nat) (v : Option Value) (h : Heap) (L : List Loc) : Prop := v = some (.ref a1) ∧ Fr n0 L ∧ h = h0
set_option maxRecDepth 65536 in
set_option maxHeartbeats 40000000 in
theorem rmRnn (l : Launch) (Z : State) (a0 : Array Value) (hw : ∀ d ∈ tables_1, d.before a0 Z = true) (ws : List Jvm.Cond) (a1 : Addr) (a2 : Addr) (h0 : Heap) (n0 : Nat) (Z0 : n0 ≤ h0.size) :
    MetFree l (⟨"java/util/Objects", "requireNonNull", "(Ljava/lang/Object;Ljava/lang/String;)Ljava/lang/Object;"⟩ : MethodName) (head1 (Jvm.Cond.code (⟨"java/util/Objects", "requireNonNull", "(Ljava/lang/Object;Ljava/lang/String;)Ljava/lang/Object;"⟩ : MethodName) jdk_31_method_11_code 2 (some (.object "java/lang/Object")) :: ws) ({ frames := 0, cells := 0, slots := 0, locals := 0 } : Room)) (fun a U => a = #[(.ref a1), (.ref a2)] ∧ Z.Warmed39 U.vm ∧ U.heap = h0) (fun _ _ _ _ _ => True) (fun _ U o U' => ∃ v L, o = .returned v ∧ QRnn Z a1 a2 h0 n0 v U'.heap L ∧ FrameEnd U o U' L ({ frames := 0, cells := 0, slots := 0, locals := 0 } : Room).cells ({ frames := 0, cells := 0, slots := 0, locals := 0 } : Room).slots) := by
  refine MetFree.of_bodySF (plainFor_of_name pn_9) hisR ?_
  intro p e s m args below meth c s₁ Bd hml0 hP hK
  obtain ⟨rfl, hZ, hh⟩ := hP
  have hx := Bd.exec
  have hby := Bd.bytes
  have hml : c.maxLocals = 2 := hml0
  have hown : s.vm.findClass "java/util/Objects" = some m.cls := findClass_of_methodNamed Bd.named
  have hnm := (name_of_methodNamed Bd.named Bd.method).1
  have X0 : Stand p l e ({ frames := 0, cells := 0, slots := 0, locals := 0 } : Room) s m #[(.ref a1), (.ref a2)] below meth c s₁ [] 0 0 := Stand.of_body Bd
  have hs0 : h0 = s.heap := hh.symm
  have e0 : s₁.heap = h0 := by rw [← hh, Bd.state]; rfl
  have N0 := Fr.nil n0
  obtain ⟨f0, hf0⟩ : ∃ f, f = entryFrame m #[(.ref a1), (.ref a2)] 2 := ⟨_, rfl⟩
  have pre0 : ∀ t, Steps p.tables e below (s₁.setTop f0) t → Steps p.tables e below (s₁.setTop (entryFrame m #[(.ref a1), (.ref a2)] 2)) t := fun t k => hf0 ▸ k
  have K0 : Gx p e below s₁ f0 s₁ (mkF m 0 #[.val (.ref a1), .val (.ref a2)] []) := fun t kt => by rw [hf0]; exact castTop (ef_Rnn m a1 a2) kt
  have K1 : Gx p e below s₁ f0 s₁ (mkF m 14 #[.val (.ref a1), .val (.ref a2)] [(.ref a1)]) := fun t kt => K0 t (by
    show Steps p.tables e below (s₁.setTop (mkF m 0 #[.val (.ref a1), .val (.ref a2)] [])) _
    refine XS.aloadN X0.here hx rfl (hb hby d9_0) rfl rfl ?_
    show Steps p.tables e below (s₁.setTop (mkF m 1 #[.val (.ref a1), .val (.ref a2)] [(.ref a1)])) _
    refine XS.ifnonnullYes X0.here hx rfl (pc0 := 1) (pc' := 13) rfl (hb hby d9_1) rfl (by decide) (by decide) ?_
    show Steps p.tables e below (s₁.setTop (mkF m 13 #[.val (.ref a1), .val (.ref a2)] [])) _
    refine XS.aloadN X0.here hx rfl (hb hby d9_13) rfl rfl ?_
    exact kt)
  obtain ⟨fs2, hr2, hrun2, hended2, hW2, hsame2⟩ := X0.leave (v := some (.ref a1)) (fun h => by rw [Bd.returns] at h; cases h)
  refine ⟨_, _, pre0 _ (K1 _ ?_), hrun2, hended2, _, _, rfl, ?_, ⟨_, rfl⟩, hW2, hsame2.mono (by decide) (by decide)⟩
  · show Steps p.tables e below (s₁.setTop (mkF m 14 #[.val (.ref a1), .val (.ref a2)] [(.ref a1)])) _
    jvm_step X0.here [X0.here.top, hx, (hb hby d9_14), X0.method', Bd.returns, Value.isRef, FieldType.isReference]
    first | (intro acts; rw [hr2 _ acts rfl rfl rfl]) | rw [hr2 _ _ rfl rfl rfl]
    exact Steps.refl _
  · show QRnn Z a1 a2 h0 n0 _ s₁.heap _
    rw [e0]
    exact ⟨rfl, N0, rfl⟩
theorem d8_0 : decode prog_68_method_1_code 0 = .ok (.aload_n 0, 1) := by decide +kernel
theorem d8_1 : decode prog_68_method_1_code 1 = .ok (.invokespecial 1, 3) := by decide +kernel
theorem d8_4 : decode prog_68_method_1_code 4 = .ok (.aload_n 0, 1) := by decide +kernel
theorem d8_5 : decode prog_68_method_1_code 5 = .ok (.aload_n 1, 1) := by decide +kernel
theorem d8_6 : decode prog_68_method_1_code 6 = .ok (.ldc 7, 2) := by decide +kernel
theorem d8_8 : decode prog_68_method_1_code 8 = .ok (.invokestatic 9, 3) := by decide +kernel
theorem d8_11 : decode prog_68_method_1_code 11 = .ok (.checkcast 15, 3) := by decide +kernel
theorem d8_14 : decode prog_68_method_1_code 14 = .ok (.putfield 17, 3) := by decide +kernel
theorem d8_17 : decode prog_68_method_1_code 17 = .ok (.aload_n 0, 1) := by decide +kernel
theorem d8_18 : decode prog_68_method_1_code 18 = .ok (.aload_n 2, 1) := by decide +kernel
theorem d8_19 : decode prog_68_method_1_code 19 = .ok (.ldc 22, 2) := by decide +kernel
theorem d8_21 : decode prog_68_method_1_code 21 = .ok (.invokestatic 9, 3) := by decide +kernel
theorem d8_24 : decode prog_68_method_1_code 24 = .ok (.checkcast 15, 3) := by decide +kernel
theorem d8_27 : decode prog_68_method_1_code 27 = .ok (.putfield 24, 3) := by decide +kernel
theorem d8_30 : decode prog_68_method_1_code 30 = .ok (.return_, 1) := by decide +kernel
theorem pn_8 : plainName "com/example/stanzacall/stanzacall/xml/Element" = true := by first | (simp [plainName, overriddenIn]; done) | decide +kernel
theorem pd__Ljava_lang_Object_Ljava_lang_String__Ljava_lang_Object_ : parseMethodDescriptor "(Ljava/lang/Object;Ljava/lang/String;)Ljava/lang/Object;" = some ⟨[(.object "java/lang/Object"), (.object "java/lang/String")], some (.object "java/lang/Object")⟩ := by decide +kernel
theorem ef_Ein (m : MethodId) (a1 : Addr) (a2 : Addr) (a3 : Addr) : entryFrame m #[(.ref a1), (.ref a2), (.ref a3)] 3 = mkF m 0 #[.val (.ref a1), .val (.ref a2), .val (.ref a3)] [] := by first | (simp [entryFrame, mkF, argsToLocals, Value.category]; done) | rfl
def QEin (Z : State) (a1 : Addr) (a2 : Addr) (a3 : Addr) (h0 : Heap) (n0 : Nat) (v : Option Value) (h : Heap) (L : List Loc) : Prop := v = none ∧ Fr n0 L ∧ Keep h0 h [a1] ∧ Fld Z h a1 "com/example/stanzacall/stanzacall/xml/Element" "namespace" "Ljava/lang/String;" (.ref a2) ∧ Fld Z h a1 "com/example/stanzacall/stanzacall/xml/Element" "name" "Ljava/lang/String;" (.ref a3)
set_option maxRecDepth 65536 in
set_option maxHeartbeats 40000000 in
theorem rmEin (l : Launch) (Z : State) (a0 : Array Value) (hw : ∀ d ∈ tables_1, d.before a0 Z = true) (ws : List Jvm.Cond) (a1 : Addr) (a2 : Addr) (a3 : Addr) (h0 : Heap) (n0 : Nat) (Z0 : n0 ≤ h0.size) (pr0 : Exa Z h0 a1 "com/example/stanzacall/stanzacall/xml/Element") (pr1 : n0 ≤ a1) (pr2 : Fld Z h0 a1 "com/example/stanzacall/stanzacall/xml/Element" "namespace" "Ljava/lang/String;" .null) (pr3 : Fld Z h0 a1 "com/example/stanzacall/stanzacall/xml/Element" "name" "Ljava/lang/String;" .null) (pr4 : Exa Z h0 a2 "java/lang/String") (pr5 : Exa Z h0 a3 "java/lang/String") :
    MetFree l (⟨"com/example/stanzacall/stanzacall/xml/Element", "<init>", "(Ljava/lang/String;Ljava/lang/String;)V"⟩ : MethodName) (head1 (Jvm.Cond.code (⟨"com/example/stanzacall/stanzacall/xml/Element", "<init>", "(Ljava/lang/String;Ljava/lang/String;)V"⟩ : MethodName) prog_68_method_1_code 3 none :: ws) ({ frames := 1, cells := 4, slots := 60, locals := 14 } : Room)) (fun a U => a = #[(.ref a1), (.ref a2), (.ref a3)] ∧ Z.Warmed39 U.vm ∧ U.heap = h0 ∧ CHv Z ELx U.vm h0) (fun _ _ _ _ _ => True) (fun _ U o U' => ∃ v L, o = .returned v ∧ QEin Z a1 a2 a3 h0 n0 v U'.heap L ∧ CHr Z ELx U.vm U.heap U'.vm U'.heap ∧ ReturnedEndW U o U' L ({ frames := 1, cells := 4, slots := 60, locals := 14 } : Room).cells ({ frames := 1, cells := 4, slots := 60, locals := 14 } : Room).slots) := by
  refine MetFree.of_bodySF (plainFor_of_name pn_8) hisR ?_
  intro p e s m args below meth c s₁ Bd hml0 hP hK
  obtain ⟨rfl, hZ, hh, hCH⟩ := hP
  have hx := Bd.exec
  have hby := Bd.bytes
  have hml : c.maxLocals = 3 := hml0
  have hown : s.vm.findClass "com/example/stanzacall/stanzacall/xml/Element" = some m.cls := findClass_of_methodNamed Bd.named
  have hnm := (name_of_methodNamed Bd.named Bd.method).1
  have X0 : Stand p l e ({ frames := 1, cells := 4, slots := 60, locals := 14 } : Room) (s.setVm s.vm) m #[(.ref a1), (.ref a2), (.ref a3)] below meth c s₁ [] 0 0 := Stand.of_body Bd
  have hZ : Z.Warmed39 (s.setVm s.vm).vm := hZ
  have hown : (s.setVm s.vm).vm.findClass "com/example/stanzacall/stanzacall/xml/Element" = some m.cls := hown
  have CR0 : CHr Z ELx s.vm h0 s.vm h0 := CHr.refl hCH
  have hS0 : s.Since s.vm h0.size := State.WarmedH.since (State.WarmedH.refl s) _
  have hk0 : h0.size ≤ h0.size := Nat.le_refl _
  have hs0 : h0 = s.heap := hh.symm
  have e0 : s₁.heap = h0 := by rw [← hh, Bd.state]; rfl
  have N0 := Fr.nil n0
  obtain ⟨f0, hf0⟩ : ∃ f, f = entryFrame m #[(.ref a1), (.ref a2), (.ref a3)] 3 := ⟨_, rfl⟩
  have pre0 : ∀ t, Steps p.tables e below (s₁.setTop f0) t → Steps p.tables e below (s₁.setTop (entryFrame m #[(.ref a1), (.ref a2), (.ref a3)] 3)) t := fun t k => hf0 ▸ k
  have K0 : Gx p e below s₁ f0 s₁ (mkF m 0 #[.val (.ref a1), .val (.ref a2), .val (.ref a3)] []) := fun t kt => by rw [hf0]; exact castTop (ef_Ein m a1 a2 a3) kt
  have K1 : Gx p e below s₁ f0 s₁ (mkF m 1 #[.val (.ref a1), .val (.ref a2), .val (.ref a3)] [(.ref a1)]) := fun t kt => K0 t (by
    show Steps p.tables e below (s₁.setTop (mkF m 0 #[.val (.ref a1), .val (.ref a2), .val (.ref a3)] [])) _
    refine XS.aloadN X0.here hx rfl (hb hby d8_0) rfl rfl ?_
    exact kt)
  obtain ⟨T2, X2, e2, st2⟩ := initO X0 hx hZ hown (hw _ (List.mem_of_getElem? (i := 43) rfl)) (hw _ (List.mem_of_getElem? (i := 19) rfl)) (hw _ (List.mem_of_getElem? (i := 20) rfl)) e0 (g := (mkF m 1 #[.val (.ref a1), .val (.ref a2), .val (.ref a3)] [(.ref a1)])) rfl (by rw [hml]; rfl) rfl (hb hby d8_1) (by decide) (W := 0) (by show 2 * 0 + _ ≤ _; exact Nat.le_of_eq rfl) (by decide)
  have K3 : Gx p e below s₁ f0 T2 (mkF m 4 #[.val (.ref a1), .val (.ref a2), .val (.ref a3)] []) := fun t kt => K1 t (st2 t kt)
  have K4 : Gx p e below s₁ f0 T2 (mkF m 6 #[.val (.ref a1), .val (.ref a2), .val (.ref a3)] [(.ref a2), (.ref a1)]) := fun t kt => K3 t (by
    show Steps p.tables e below (T2.setTop (mkF m 4 #[.val (.ref a1), .val (.ref a2), .val (.ref a3)] [])) _
    refine XS.aloadN X2.here hx rfl (hb hby d8_4) rfl rfl ?_
    show Steps p.tables e below (T2.setTop (mkF m 5 #[.val (.ref a1), .val (.ref a2), .val (.ref a3)] [(.ref a1)])) _
    refine XS.aloadN X2.here hx rfl (hb hby d8_5) rfl rfl ?_
    exact kt)
  obtain ⟨sa5, T5, h5, kk5, sb5, kc5, X5, e5, E5, hS5, hk5, hZ, hown, A5, Fc5, Fv5, V5, -, -, CRq5, -, Sf5, st5⟩ := ldcCH (s := s) (vm0 := s.vm) X2 hx hZ hown (hw _ (List.mem_of_getElem? (i := 44) rfl)) (own_wS hw) e2 hS0 hk0 (own_EW hw) (List.mem_of_getElem? (i := 0) rfl) CR0.1 (vs := [(.int (110 : Int32)), (.int (97 : Int32)), (.int (109 : Int32)), (.int (101 : Int32)), (.int (115 : Int32)), (.int (112 : Int32)), (.int (97 : Int32)), (.int (99 : Int32)), (.int (101 : Int32))]) (z := (9 : Int32)) ⟨by decide +kernel, by rfl⟩ (by decide) rfl (g := (mkF m 6 #[.val (.ref a1), .val (.ref a2), .val (.ref a3)] [(.ref a2), (.ref a1)])) rfl (hb hby d8_6) (n := 36) (by decide +kernel) (by decide) (by decide) (by decide)
  have CR6 : CHr Z ELx s.vm h0 T5.vm h5 := CR0.trans CRq5
  have f7 : Exa Z h5 a1 "com/example/stanzacall/stanzacall/xml/Element" := (pr0.ext E5)
  have nn8 := Sf5 a1 (Safe.exa hZ.alike f7 (by decide) (by decide))
  have f9 : Exa Z h5 a2 "java/lang/String" := (pr4.ext E5)
  have f10 : Exa Z h5 a3 "java/lang/String" := (pr5.ext E5)
  have K11 : Gx p e below s₁ f0 T5 (mkF m 8 #[.val (.ref a1), .val (.ref a2), .val (.ref a3)] [(.ref sa5), (.ref a2), (.ref a1)]) := fun t kt => K4 t (st5 t kt)
  have kp12 : Keep h0 h5 [a1] := ((Keep.refl h0 [a1]).ext E5)
  obtain ⟨_, _, ⟨T13, L13, k13, n13⟩, -, X13', ⟨Lc13, hQ13, l13, y13, z13⟩, st13⟩ := Jvm.LawKit.callS X5 hx (y := (⟨"java/util/Objects", "requireNonNull", "(Ljava/lang/Object;Ljava/lang/String;)Ljava/lang/Object;"⟩ : MethodName)) hown (mvT hZ (hw _ (List.mem_of_getElem? (i := 45) rfl))) (mvT hZ (hw _ (List.mem_of_getElem? (i := 46) rfl))) (mvT hZ (hw _ (List.mem_of_getElem? (i := 47) rfl))) (mvT hZ (hw _ (List.mem_of_getElem? (i := 48) rfl))) (by decide) (backOf (W := 1) (rmRnn l Z a0 hw [] a2 sa5 h5 n0 (Nat.le_trans Z0 kp12.1) ) hZ (hw _ (List.mem_of_getElem? (i := 48) rfl)) (hw _ (List.mem_of_getElem? (i := 47) rfl)) (by decide) (by decide)) (g := (mkF m 8 #[.val (.ref a1), .val (.ref a2), .val (.ref a3)] [(.ref sa5), (.ref a2), (.ref a1)])) rfl (by rw [hml]; rfl) (argsL := [(.ref a2), (.ref sa5)]) (rest := [(.ref a1)]) (lenOf pd__Ljava_lang_Object_Ljava_lang_String__Ljava_lang_Object_ rfl) rfl (by show 2 * 0 + _ ≤ _; exact Nat.le_of_eq rfl) (hb hby d8_8) (fun _ _ => ⟨rfl, e5, (by decide : 2 + 0 ≤ _), (by decide : 40 + 0 ≤ _)⟩)
  dsimp only [Pt.U, Pt.locs, Pt.cells, Pt.slots] at X13' l13 y13 z13 st13 hQ13
  subst l13 y13 z13
  obtain ⟨rfl, N13q, e13⟩ := hQ13
  obtain ⟨lc13, X13, N13⟩ : ∃ lc, Stand p l e ({ frames := 1, cells := 4, slots := 60, locals := 14 } : Room) (s.setVm T5.vm) m #[(.ref a1), (.ref a2), (.ref a3)] below meth c T13 lc 2 40 ∧ Fr n0 lc := ⟨_, X13', Fr.app N0 N13q⟩
  have K14 : Gx p e below s₁ f0 T13 (mkF m 11 #[.val (.ref a1), .val (.ref a2), .val (.ref a3)] [(.ref a2), (.ref a1)]) := fun t kt => K11 t (st13 t kt)
  obtain ⟨T15, X15, e15, st15⟩ := castY X13 hx hZ hown (hw _ (List.mem_of_getElem? (i := 49) rfl)) e13 (Ins.self f9) (g := (mkF m 11 #[.val (.ref a1), .val (.ref a2), .val (.ref a3)] [(.ref a2), (.ref a1)])) rfl rfl (hb hby d8_11)
  have K16 : Gx p e below s₁ f0 T15 (mkF m 14 #[.val (.ref a1), .val (.ref a2), .val (.ref a3)] [(.ref a2), (.ref a1)]) := fun t kt => K14 t (st15 t kt)
  have f17 : Fld Z h5 a1 "com/example/stanzacall/stanzacall/xml/Element" "namespace" "Ljava/lang/String;" .null := (pr2.ext E5)
  obtain ⟨T18, h18, X18', e18, W18, st18⟩ := putF X15 hx hZ hown (host := "") (Or.inl (hw _ (List.mem_of_getElem? (i := 50) rfl))) Via.refl e15 f17 f7 (Or.inr ⟨(hw _ (List.mem_of_getElem? (i := 51) rfl)), rfl, hnm⟩) (hw _ (List.mem_of_getElem? (i := 1) rfl)) (ty := (.object "java/lang/String")) (by decide) rfl rfl (g := (mkF m 14 #[.val (.ref a1), .val (.ref a2), .val (.ref a3)] [(.ref a2), (.ref a1)])) rfl rfl (hb hby d8_14)
  obtain ⟨lc18, X18, N18⟩ : ∃ lc, Stand p l e ({ frames := 1, cells := 4, slots := 60, locals := 14 } : Room) (s.setVm T5.vm) m #[(.ref a1), (.ref a2), (.ref a3)] below meth c T18 lc 2 40 ∧ Fr n0 lc := ⟨_, X18', Fr.snoc X18' N13 pr1⟩
  have CR19 : CHr Z ELx s.vm h0 T5.vm h18 := CR6.trans (CHr.wr W18 (Safe.exa hZ.alike f7 (by decide) (by decide)) CR6.1)
  have f18_ : Fld Z h18 a1 "com/example/stanzacall/stanzacall/xml/Element" "namespace" "Ljava/lang/String;" (.ref a2) := f17.same W18
  have K20 : Gx p e below s₁ f0 T18 (mkF m 17 #[.val (.ref a1), .val (.ref a2), .val (.ref a3)] []) := fun t kt => K16 t (st18 t kt)
  have K21 : Gx p e below s₁ f0 T18 (mkF m 19 #[.val (.ref a1), .val (.ref a2), .val (.ref a3)] [(.ref a3), (.ref a1)]) := fun t kt => K20 t (by
    show Steps p.tables e below (T18.setTop (mkF m 17 #[.val (.ref a1), .val (.ref a2), .val (.ref a3)] [])) _
    refine XS.aloadN X18.here hx rfl (hb hby d8_17) rfl rfl ?_
    show Steps p.tables e below (T18.setTop (mkF m 18 #[.val (.ref a1), .val (.ref a2), .val (.ref a3)] [(.ref a1)])) _
    refine XS.aloadN X18.here hx rfl (hb hby d8_18) rfl rfl ?_
    exact kt)
  obtain ⟨sa22, T22, h22, kk22, sb22, kc22, X22, e22, E22, hS22, hk22, hZ, hown, A22, Fc22, Fv22, V22, -, -, CRq22, -, Sf22, st22⟩ := ldcCH (s := s) (vm0 := T5.vm) X18 hx hZ hown (hw _ (List.mem_of_getElem? (i := 52) rfl)) (own_wS hw) e18 hS5 (Nat.le_trans hk5 (Keep.of_wr W18).1) (own_EW hw) (List.mem_of_getElem? (i := 1) rfl) CR19.1 (vs := [(.int (110 : Int32)), (.int (97 : Int32)), (.int (109 : Int32)), (.int (101 : Int32))]) (z := (4 : Int32)) ⟨by decide +kernel, by rfl⟩ (by decide) rfl (g := (mkF m 19 #[.val (.ref a1), .val (.ref a2), .val (.ref a3)] [(.ref a3), (.ref a1)])) rfl (hb hby d8_19) (n := 16) (by decide +kernel) (by decide) (by decide) (by decide)
  have CR23 : CHr Z ELx s.vm h0 T22.vm h22 := CR19.trans CRq22
  have f24 : Exa Z h22 a1 "com/example/stanzacall/stanzacall/xml/Element" := ((f7.wr W18).ext E22)
  have nn25 := Sf22 a1 (Safe.exa hZ.alike f24 (by decide) (by decide))
  have f26 : Exa Z h22 a2 "java/lang/String" := ((f9.wr W18).ext E22)
  have f27 : Exa Z h22 a3 "java/lang/String" := ((f10.wr W18).ext E22)
  have f28 : Exa Z h22 sa5 "java/lang/String" := ((A5.wr W18).ext E22)
  have f29 : Arv Z h22 sb5 kc5 .byte (9 : Int32) [(.int (110 : Int32)), (.int (97 : Int32)), (.int (109 : Int32)), (.int (101 : Int32)), (.int (115 : Int32)), (.int (112 : Int32)), (.int (97 : Int32)), (.int (99 : Int32)), (.int (101 : Int32))] (.int (0 : Int32)) := ((V5.other W18 (Ne.symm nn8.2)).ext E22)
  obtain ⟨clq30, Arq30, ckq30, cSq30, cNq30, cHq30, cGq30⟩ := id f29
  have K31 : Gx p e below s₁ f0 T22 (mkF m 21 #[.val (.ref a1), .val (.ref a2), .val (.ref a3)] [(.ref sa22), (.ref a3), (.ref a1)]) := fun t kt => K21 t (st22 t kt)
  have kp32 : Keep h0 h22 [a1] := ((kp12.wr W18 (Or.inl (List.mem_of_getElem? (i := 0) rfl))).ext E22)
  obtain ⟨_, _, ⟨T33, L33, k33, n33⟩, -, X33', ⟨Lc33, hQ33, l33, y33, z33⟩, st33⟩ := Jvm.LawKit.callS X22 hx (y := (⟨"java/util/Objects", "requireNonNull", "(Ljava/lang/Object;Ljava/lang/String;)Ljava/lang/Object;"⟩ : MethodName)) hown (mvT hZ (hw _ (List.mem_of_getElem? (i := 45) rfl))) (mvT hZ (hw _ (List.mem_of_getElem? (i := 46) rfl))) (mvT hZ (hw _ (List.mem_of_getElem? (i := 47) rfl))) (mvT hZ (hw _ (List.mem_of_getElem? (i := 48) rfl))) (by decide) (backOf (W := 1) (rmRnn l Z a0 hw [] a3 sa22 h22 n0 (Nat.le_trans Z0 kp32.1) ) hZ (hw _ (List.mem_of_getElem? (i := 48) rfl)) (hw _ (List.mem_of_getElem? (i := 47) rfl)) (by decide) (by decide)) (g := (mkF m 21 #[.val (.ref a1), .val (.ref a2), .val (.ref a3)] [(.ref sa22), (.ref a3), (.ref a1)])) rfl (by rw [hml]; rfl) (argsL := [(.ref a3), (.ref sa22)]) (rest := [(.ref a1)]) (lenOf pd__Ljava_lang_Object_Ljava_lang_String__Ljava_lang_Object_ rfl) rfl (by show 2 * 0 + _ ≤ _; exact Nat.le_of_eq rfl) (hb hby d8_21) (fun _ _ => ⟨rfl, e22, (by decide : 4 + 0 ≤ _), (by decide : 60 + 0 ≤ _)⟩)
  dsimp only [Pt.U, Pt.locs, Pt.cells, Pt.slots] at X33' l33 y33 z33 st33 hQ33
  subst l33 y33 z33
  obtain ⟨rfl, N33q, e33⟩ := hQ33
  obtain ⟨lc33, X33, N33⟩ : ∃ lc, Stand p l e ({ frames := 1, cells := 4, slots := 60, locals := 14 } : Room) (s.setVm T22.vm) m #[(.ref a1), (.ref a2), (.ref a3)] below meth c T33 lc 4 60 ∧ Fr n0 lc := ⟨_, X33', Fr.app N18 N33q⟩
  have K34 : Gx p e below s₁ f0 T33 (mkF m 24 #[.val (.ref a1), .val (.ref a2), .val (.ref a3)] [(.ref a3), (.ref a1)]) := fun t kt => K31 t (st33 t kt)
  obtain ⟨T35, X35, e35, st35⟩ := castY X33 hx hZ hown (hw _ (List.mem_of_getElem? (i := 49) rfl)) e33 (Ins.self f27) (g := (mkF m 24 #[.val (.ref a1), .val (.ref a2), .val (.ref a3)] [(.ref a3), (.ref a1)])) rfl rfl (hb hby d8_24)
  have K36 : Gx p e below s₁ f0 T35 (mkF m 27 #[.val (.ref a1), .val (.ref a2), .val (.ref a3)] [(.ref a3), (.ref a1)]) := fun t kt => K34 t (st35 t kt)
  have f37 : Fld Z h22 a1 "com/example/stanzacall/stanzacall/xml/Element" "name" "Ljava/lang/String;" .null := (((pr3.ext E5).other W18 (Or.inr (slot_ne (Or.inr (hw _ (List.mem_of_getElem? (i := 54) rfl))) (Or.inr (hw _ (List.mem_of_getElem? (i := 51) rfl))) (by decide) (t := (.object "java/lang/String")) (t' := (.object "java/lang/String")) (by decide) (by decide)))).ext E22)
  obtain ⟨T38, h38, X38', e38, W38, st38⟩ := putF X35 hx hZ hown (host := "") (Or.inl (hw _ (List.mem_of_getElem? (i := 53) rfl))) Via.refl e35 f37 f24 (Or.inr ⟨(hw _ (List.mem_of_getElem? (i := 54) rfl)), rfl, hnm⟩) (hw _ (List.mem_of_getElem? (i := 1) rfl)) (ty := (.object "java/lang/String")) (by decide) rfl rfl (g := (mkF m 27 #[.val (.ref a1), .val (.ref a2), .val (.ref a3)] [(.ref a3), (.ref a1)])) rfl rfl (hb hby d8_27)
  obtain ⟨lc38, X38, N38⟩ : ∃ lc, Stand p l e ({ frames := 1, cells := 4, slots := 60, locals := 14 } : Room) (s.setVm T22.vm) m #[(.ref a1), (.ref a2), (.ref a3)] below meth c T38 lc 4 60 ∧ Fr n0 lc := ⟨_, X38', Fr.snoc X38' N33 pr1⟩
  have CR39 : CHr Z ELx s.vm h0 T22.vm h38 := CR23.trans (CHr.wr W38 (Safe.exa hZ.alike f24 (by decide) (by decide)) CR23.1)
  have f38_ : Fld Z h38 a1 "com/example/stanzacall/stanzacall/xml/Element" "name" "Ljava/lang/String;" (.ref a3) := f37.same W38
  have K40 : Gx p e below s₁ f0 T38 (mkF m 30 #[.val (.ref a1), .val (.ref a2), .val (.ref a3)] []) := fun t kt => K36 t (st38 t kt)
  have kp42 : Keep h0 h38 [a1] := (kp32.wr W38 (Or.inl (List.mem_of_getElem? (i := 0) rfl)))
  have f43 : Fld Z h38 a1 "com/example/stanzacall/stanzacall/xml/Element" "namespace" "Ljava/lang/String;" (.ref a2) := ((f18_.ext E22).other W38 (Or.inr (slot_ne (Or.inr (hw _ (List.mem_of_getElem? (i := 51) rfl))) (Or.inr (hw _ (List.mem_of_getElem? (i := 54) rfl))) (by decide) (t := (.object "java/lang/String")) (t' := (.object "java/lang/String")) (by decide) (by decide))))
  have CR41_ := CR39.trans (CHv.at X38 hZ (own_EW hw) CR39.1)
  obtain ⟨fs41, hr41, hrun41, hended41, hRW41⟩ := X38.leaveW hS22 (show _ ≤ T38.heap.size by first | (rw [e38]; exact (Nat.le_trans hk22 (Keep.of_wr W38).1)) | exact Nat.le_refl _) (v := none) (fun _ => rfl)
  refine ⟨_, _, pre0 _ (K40 _ ?_), hrun41, hended41, _, _, rfl, ?_, ?_, hRW41.1, hRW41.2.1, hRW41.2.2.1, hRW41.2.2.2.mono (by decide) (by decide)⟩
  · exact X38.returnOut hx Bd.returns (hb hby d8_30) hr41
  · show QEin Z a1 a2 a3 h0 n0 _ T38.heap _
    rw [e38]
    exact ⟨rfl, N38, kp42, f43, f38_⟩
  · show CHr Z ELx s.vm s.heap T38.vm T38.heap
    rw [e38]
    exact hs0 ▸ CR41_
theorem d12_0 : decode jdk_43_method_13_code 0 = .ok (.aload_n 0, 1) := by decide +kernel
theorem d12_1 : decode jdk_43_method_13_code 1 = .ok (.arraylength, 1) := by decide +kernel
theorem d12_2 : decode jdk_43_method_13_code 2 = .ok (.aload_n 1, 1) := by decide +kernel
theorem d12_3 : decode jdk_43_method_13_code 3 = .ok (.arraylength, 1) := by decide +kernel
theorem d12_4 : decode jdk_43_method_13_code 4 = .ok (.if_icmp .ne 30, 3) := by decide +kernel
theorem d12_7 : decode jdk_43_method_13_code 7 = .ok (.iconst 0, 1) := by decide +kernel
theorem d12_8 : decode jdk_43_method_13_code 8 = .ok (.istore_n 2, 1) := by decide +kernel
theorem d12_9 : decode jdk_43_method_13_code 9 = .ok (.iload_n 2, 1) := by decide +kernel
theorem d12_10 : decode jdk_43_method_13_code 10 = .ok (.aload_n 0, 1) := by decide +kernel
theorem d12_11 : decode jdk_43_method_13_code 11 = .ok (.arraylength, 1) := by decide +kernel
theorem d12_12 : decode jdk_43_method_13_code 12 = .ok (.if_icmp .ge 20, 3) := by decide +kernel
theorem d12_15 : decode jdk_43_method_13_code 15 = .ok (.aload_n 0, 1) := by decide +kernel
theorem d12_16 : decode jdk_43_method_13_code 16 = .ok (.iload_n 2, 1) := by decide +kernel
theorem d12_17 : decode jdk_43_method_13_code 17 = .ok (.baload, 1) := by decide +kernel
theorem d12_18 : decode jdk_43_method_13_code 18 = .ok (.aload_n 1, 1) := by decide +kernel
theorem d12_19 : decode jdk_43_method_13_code 19 = .ok (.iload_n 2, 1) := by decide +kernel
theorem d12_20 : decode jdk_43_method_13_code 20 = .ok (.baload, 1) := by decide +kernel
theorem d12_21 : decode jdk_43_method_13_code 21 = .ok (.if_icmp .eq 5, 3) := by decide +kernel
theorem d12_24 : decode jdk_43_method_13_code 24 = .ok (.iconst 0, 1) := by decide +kernel
theorem d12_25 : decode jdk_43_method_13_code 25 = .ok (.ireturn, 1) := by decide +kernel
theorem d12_26 : decode jdk_43_method_13_code 26 = .ok (.iinc 2 1, 3) := by decide +kernel
theorem d12_29 : decode jdk_43_method_13_code 29 = .ok (.goto (-20), 3) := by decide +kernel
theorem d12_32 : decode jdk_43_method_13_code 32 = .ok (.iconst 1, 1) := by decide +kernel
theorem d12_33 : decode jdk_43_method_13_code 33 = .ok (.ireturn, 1) := by decide +kernel
theorem d12_34 : decode jdk_43_method_13_code 34 = .ok (.iconst 0, 1) := by decide +kernel
theorem d12_35 : decode jdk_43_method_13_code 35 = .ok (.ireturn, 1) := by decide +kernel
theorem pn_12 : plainName "java/lang/StringLatin1" = true := by first | (simp [plainName, overriddenIn]; done) | decide +kernel
theorem ef_Leq (m : MethodId) (vA : Addr) (vB : Addr) : entryFrame m #[(.ref vA), (.ref vB)] 3 = mkF m 0 #[.val (.ref vA), .val (.ref vB), .unset] [] := by first | (simp [entryFrame, mkF, argsToLocals, Value.category]; done) | rfl
def QLeq (Z : State) (vA : Addr) (vB : Addr) (ka : ClassId) (kb : ClassId) (za : Int32) (zb : Int32) (xa : Int32) (xb : Int32) (xc : Int32) (ya : Int32) (yb : Int32) (yc : Int32) (h0 : Heap) (n0 : Nat) (v : Option Value) (h : Heap) (L : List Loc) : Prop := v = some (.int (latF za zb xa xb xc ya yb yc)) ∧ Fr n0 L ∧ h = h0
set_option maxRecDepth 65536 in
set_option maxHeartbeats 40000000 in
theorem rmLeq (l : Launch) (Z : State) (a0 : Array Value) (hw : ∀ d ∈ tables_1, d.before a0 Z = true) (ws : List Jvm.Cond) (vA : Addr) (vB : Addr) (ka : ClassId) (kb : ClassId) (za : Int32) (zb : Int32) (xa : Int32) (xb : Int32) (xc : Int32) (ya : Int32) (yb : Int32) (yc : Int32) (h0 : Heap) (n0 : Nat) (Z0 : n0 ≤ h0.size) (pr0 : Arv Z h0 vA ka .byte za [(.int xa), (.int xb), (.int xc)] (.int (0 : Int32))) (pr1 : Arv Z h0 vB kb .byte zb [(.int ya), (.int yb), (.int yc)] (.int (0 : Int32))) (hz : ¬ ((3 : Int32) < za)) :
    MetFree l (⟨"java/lang/StringLatin1", "equals", "([B[B)Z"⟩ : MethodName) (head1 (Jvm.Cond.code (⟨"java/lang/StringLatin1", "equals", "([B[B)Z"⟩ : MethodName) jdk_43_method_13_code 3 (some .boolean) :: ws) ({ frames := 0, cells := 0, slots := 0, locals := 0 } : Room)) (fun a U => a = #[(.ref vA), (.ref vB)] ∧ Z.Warmed39 U.vm ∧ U.heap = h0) (fun _ _ _ _ _ => True) (fun _ U o U' => ∃ v L, o = .returned v ∧ QLeq Z vA vB ka kb za zb xa xb xc ya yb yc h0 n0 v U'.heap L ∧ FrameEnd U o U' L ({ frames := 0, cells := 0, slots := 0, locals := 0 } : Room).cells ({ frames := 0, cells := 0, slots := 0, locals := 0 } : Room).slots) := by
  refine MetFree.of_bodySF (plainFor_of_name pn_12) hisR ?_
  intro p e s m args below meth c s₁ Bd hml0 hP hK
  obtain ⟨rfl, hZ, hh⟩ := hP
  have hx := Bd.exec
  have hby := Bd.bytes
  have hml : c.maxLocals = 3 := hml0
  have hown : s.vm.findClass "java/lang/StringLatin1" = some m.cls := findClass_of_methodNamed Bd.named
  have hnm := (name_of_methodNamed Bd.named Bd.method).1
  have X0 : Stand p l e ({ frames := 0, cells := 0, slots := 0, locals := 0 } : Room) s m #[(.ref vA), (.ref vB)] below meth c s₁ [] 0 0 := Stand.of_body Bd
  have hs0 : h0 = s.heap := hh.symm
  have e0 : s₁.heap = h0 := by rw [← hh, Bd.state]; rfl
  have N0 := Fr.nil n0
  obtain ⟨f0, hf0⟩ : ∃ f, f = entryFrame m #[(.ref vA), (.ref vB)] 3 := ⟨_, rfl⟩
  have pre0 : ∀ t, Steps p.tables e below (s₁.setTop f0) t → Steps p.tables e below (s₁.setTop (entryFrame m #[(.ref vA), (.ref vB)] 3)) t := fun t k => hf0 ▸ k
  have K0 : Gx p e below s₁ f0 s₁ (mkF m 0 #[.val (.ref vA), .val (.ref vB), .unset] []) := fun t kt => by rw [hf0]; exact castTop (ef_Leq m vA vB) kt
  obtain ⟨clq1, Arq1, ckq1, cSq1, cNq1, cHq1, cGq1⟩ := id pr0
  obtain ⟨clq2, Arq2, ckq2, cSq2, cNq2, cHq2, cGq2⟩ := id pr1
  have K3 : Gx p e below s₁ f0 s₁ (mkF m 4 #[.val (.ref vA), .val (.ref vB), .unset] [(.int zb), (.int za)]) := fun t kt => K0 t (by
    show Steps p.tables e below (s₁.setTop (mkF m 0 #[.val (.ref vA), .val (.ref vB), .unset] [])) _
    refine XS.aloadN X0.here hx rfl (hb hby d12_0) rfl rfl ?_
    show Steps p.tables e below (s₁.setTop (mkF m 1 #[.val (.ref vA), .val (.ref vB), .unset] [(.ref vA)])) _
    refine X0.arraylength hx (by rw [e0]; exact Arq1.1) (State.isArrayOf_alike hZ.alike Arq1.2.1) (g := (mkF m 1 #[.val (.ref vA), .val (.ref vB), .unset] [(.ref vA)])) rfl rfl (hb hby d12_1) _ ?_
    rw [len_of cSq1 cNq1]
    show Steps p.tables e below (s₁.setTop (mkF m 2 #[.val (.ref vA), .val (.ref vB), .unset] [(.int za)])) _
    refine XS.aloadN X0.here hx rfl (hb hby d12_2) rfl rfl ?_
    show Steps p.tables e below (s₁.setTop (mkF m 3 #[.val (.ref vA), .val (.ref vB), .unset] [(.ref vB), (.int za)])) _
    refine X0.arraylength hx (by rw [e0]; exact Arq2.1) (State.isArrayOf_alike hZ.alike Arq2.2.1) (g := (mkF m 3 #[.val (.ref vA), .val (.ref vB), .unset] [(.ref vB), (.int za)])) rfl rfl (hb hby d12_3) _ ?_
    rw [len_of cSq2 cNq2]
    exact kt)
  by_cases hb4 : za = zb
  · skip
    have K5 : Gx p e below s₁ f0 s₁ (mkF m 12 #[.val (.ref vA), .val (.ref vB), .val (.int (0 : Int32))] [(.int za), (.int (0 : Int32))]) := fun t kt => K3 t (by
      show Steps p.tables e below (s₁.setTop (mkF m 4 #[.val (.ref vA), .val (.ref vB), .unset] [(.int zb), (.int za)])) _
      refine XS.icmpNo X0.here hx rfl (hb hby d12_4) rfl (teq hb4).2 ?_
      show Steps p.tables e below (s₁.setTop (mkF m 7 #[.val (.ref vA), .val (.ref vB), .unset] [])) _
      refine XS.iconst X0.here hx rfl (hb hby d12_7) ?_
      show Steps p.tables e below (s₁.setTop (mkF m 8 #[.val (.ref vA), .val (.ref vB), .unset] [(.int (0 : Int32))])) _
      refine XS.istoreN X0.here hx rfl (hb hby d12_8) rfl (l' := #[.val (.ref vA), .val (.ref vB), .val (.int (0 : Int32))]) rfl ?_
      show Steps p.tables e below (s₁.setTop (mkF m 9 #[.val (.ref vA), .val (.ref vB), .val (.int (0 : Int32))] [])) _
      refine XS.iloadN X0.here hx rfl (hb hby d12_9) rfl ?_
      show Steps p.tables e below (s₁.setTop (mkF m 10 #[.val (.ref vA), .val (.ref vB), .val (.int (0 : Int32))] [(.int (0 : Int32))])) _
      refine XS.aloadN X0.here hx rfl (hb hby d12_10) rfl rfl ?_
      show Steps p.tables e below (s₁.setTop (mkF m 11 #[.val (.ref vA), .val (.ref vB), .val (.int (0 : Int32))] [(.ref vA), (.int (0 : Int32))])) _
      refine X0.arraylength hx (by rw [e0]; exact Arq1.1) (State.isArrayOf_alike hZ.alike Arq1.2.1) (g := (mkF m 11 #[.val (.ref vA), .val (.ref vB), .val (.int (0 : Int32))] [(.ref vA), (.int (0 : Int32))])) rfl rfl (hb hby d12_11) _ ?_
      rw [len_of cSq1 cNq1]
      exact kt)
    by_cases hb6 : (0 : Int32) < za
    · skip
      have K7 : Gx p e below s₁ f0 s₁ (mkF m 21 #[.val (.ref vA), .val (.ref vB), .val (.int (0 : Int32))] [(.int ya), (.int xa)]) := fun t kt => K5 t (by
        show Steps p.tables e below (s₁.setTop (mkF m 12 #[.val (.ref vA), .val (.ref vB), .val (.int (0 : Int32))] [(.int za), (.int (0 : Int32))])) _
        refine XS.icmpNo X0.here hx rfl (hb hby d12_12) rfl (tlt hb6).2.1 ?_
        show Steps p.tables e below (s₁.setTop (mkF m 15 #[.val (.ref vA), .val (.ref vB), .val (.int (0 : Int32))] [])) _
        refine XS.aloadN X0.here hx rfl (hb hby d12_15) rfl rfl ?_
        show Steps p.tables e below (s₁.setTop (mkF m 16 #[.val (.ref vA), .val (.ref vB), .val (.int (0 : Int32))] [(.ref vA)])) _
        refine XS.iloadN X0.here hx rfl (hb hby d12_16) rfl ?_
        show Steps p.tables e below (s₁.setTop (mkF m 17 #[.val (.ref vA), .val (.ref vB), .val (.int (0 : Int32))] [(.int (0 : Int32)), (.ref vA)])) _
        refine X0.baloadBytes hx (j := (0 : Int32)) (v := (.int xa)) (by rw [e0]; exact Arq1.1) (State.isArrayOf_alike hZ.alike Arq1.2.1) Arq1.2.2 (inb_of cSq1 ⟨by decide, hb6⟩) (Has.at cHq1 (inb_of cSq1 ⟨by decide, hb6⟩) rfl) (g := (mkF m 17 #[.val (.ref vA), .val (.ref vB), .val (.int (0 : Int32))] [(.int (0 : Int32)), (.ref vA)])) rfl rfl (hb hby d12_17) _ ?_
        show Steps p.tables e below (s₁.setTop (mkF m 18 #[.val (.ref vA), .val (.ref vB), .val (.int (0 : Int32))] [(.int xa)])) _
        refine XS.aloadN X0.here hx rfl (hb hby d12_18) rfl rfl ?_
        show Steps p.tables e below (s₁.setTop (mkF m 19 #[.val (.ref vA), .val (.ref vB), .val (.int (0 : Int32))] [(.ref vB), (.int xa)])) _
        refine XS.iloadN X0.here hx rfl (hb hby d12_19) rfl ?_
        show Steps p.tables e below (s₁.setTop (mkF m 20 #[.val (.ref vA), .val (.ref vB), .val (.int (0 : Int32))] [(.int (0 : Int32)), (.ref vB), (.int xa)])) _
        refine X0.baloadBytes hx (j := (0 : Int32)) (v := (.int ya)) (by rw [e0]; exact Arq2.1) (State.isArrayOf_alike hZ.alike Arq2.2.1) Arq2.2.2 (inb_of cSq2 ⟨by decide, (by rw [← hb4]; exact hb6)⟩) (Has.at cHq2 (inb_of cSq2 ⟨by decide, (by rw [← hb4]; exact hb6)⟩) rfl) (g := (mkF m 20 #[.val (.ref vA), .val (.ref vB), .val (.int (0 : Int32))] [(.int (0 : Int32)), (.ref vB), (.int xa)])) rfl rfl (hb hby d12_20) _ ?_
        exact kt)
      by_cases hb8 : xa = ya
      · skip
        have K9 : Gx p e below s₁ f0 s₁ (mkF m 12 #[.val (.ref vA), .val (.ref vB), .val (.int (1 : Int32))] [(.int za), (.int (1 : Int32))]) := fun t kt => K7 t (by
          show Steps p.tables e below (s₁.setTop (mkF m 21 #[.val (.ref vA), .val (.ref vB), .val (.int (0 : Int32))] [(.int ya), (.int xa)])) _
          refine XS.icmpYes X0.here hx rfl (pc0 := 21) (pc' := 26) rfl (hb hby d12_21) rfl (teq hb8).1 (by decide) (by decide) ?_
          show Steps p.tables e below (s₁.setTop (mkF m 26 #[.val (.ref vA), .val (.ref vB), .val (.int (0 : Int32))] [])) _
          refine XS.iinc X0.here hx rfl (hb hby d12_26) rfl (l' := #[.val (.ref vA), .val (.ref vB), .val (.int (1 : Int32))]) rfl ?_
          show Steps p.tables e below (s₁.setTop (mkF m 29 #[.val (.ref vA), .val (.ref vB), .val (.int (1 : Int32))] [])) _
          refine XS.goto X0.here hx rfl (pc0 := 29) (pc' := 9) rfl (hb hby d12_29) (by decide) (by decide) ?_
          show Steps p.tables e below (s₁.setTop (mkF m 9 #[.val (.ref vA), .val (.ref vB), .val (.int (1 : Int32))] [])) _
          refine XS.iloadN X0.here hx rfl (hb hby d12_9) rfl ?_
          show Steps p.tables e below (s₁.setTop (mkF m 10 #[.val (.ref vA), .val (.ref vB), .val (.int (1 : Int32))] [(.int (1 : Int32))])) _
          refine XS.aloadN X0.here hx rfl (hb hby d12_10) rfl rfl ?_
          show Steps p.tables e below (s₁.setTop (mkF m 11 #[.val (.ref vA), .val (.ref vB), .val (.int (1 : Int32))] [(.ref vA), (.int (1 : Int32))])) _
          refine X0.arraylength hx (by rw [e0]; exact Arq1.1) (State.isArrayOf_alike hZ.alike Arq1.2.1) (g := (mkF m 11 #[.val (.ref vA), .val (.ref vB), .val (.int (1 : Int32))] [(.ref vA), (.int (1 : Int32))])) rfl rfl (hb hby d12_11) _ ?_
          rw [len_of cSq1 cNq1]
          exact kt)
        by_cases hb10 : (1 : Int32) < za
        · skip
          have K11 : Gx p e below s₁ f0 s₁ (mkF m 21 #[.val (.ref vA), .val (.ref vB), .val (.int (1 : Int32))] [(.int yb), (.int xb)]) := fun t kt => K9 t (by
            show Steps p.tables e below (s₁.setTop (mkF m 12 #[.val (.ref vA), .val (.ref vB), .val (.int (1 : Int32))] [(.int za), (.int (1 : Int32))])) _
            refine XS.icmpNo X0.here hx rfl (hb hby d12_12) rfl (tlt hb10).2.1 ?_
            show Steps p.tables e below (s₁.setTop (mkF m 15 #[.val (.ref vA), .val (.ref vB), .val (.int (1 : Int32))] [])) _
            refine XS.aloadN X0.here hx rfl (hb hby d12_15) rfl rfl ?_
            show Steps p.tables e below (s₁.setTop (mkF m 16 #[.val (.ref vA), .val (.ref vB), .val (.int (1 : Int32))] [(.ref vA)])) _
            refine XS.iloadN X0.here hx rfl (hb hby d12_16) rfl ?_
            show Steps p.tables e below (s₁.setTop (mkF m 17 #[.val (.ref vA), .val (.ref vB), .val (.int (1 : Int32))] [(.int (1 : Int32)), (.ref vA)])) _
            refine X0.baloadBytes hx (j := (1 : Int32)) (v := (.int xb)) (by rw [e0]; exact Arq1.1) (State.isArrayOf_alike hZ.alike Arq1.2.1) Arq1.2.2 (inb_of cSq1 ⟨by decide, hb10⟩) (Has.at cHq1 (inb_of cSq1 ⟨by decide, hb10⟩) rfl) (g := (mkF m 17 #[.val (.ref vA), .val (.ref vB), .val (.int (1 : Int32))] [(.int (1 : Int32)), (.ref vA)])) rfl rfl (hb hby d12_17) _ ?_
            show Steps p.tables e below (s₁.setTop (mkF m 18 #[.val (.ref vA), .val (.ref vB), .val (.int (1 : Int32))] [(.int xb)])) _
            refine XS.aloadN X0.here hx rfl (hb hby d12_18) rfl rfl ?_
            show Steps p.tables e below (s₁.setTop (mkF m 19 #[.val (.ref vA), .val (.ref vB), .val (.int (1 : Int32))] [(.ref vB), (.int xb)])) _
            refine XS.iloadN X0.here hx rfl (hb hby d12_19) rfl ?_
            show Steps p.tables e below (s₁.setTop (mkF m 20 #[.val (.ref vA), .val (.ref vB), .val (.int (1 : Int32))] [(.int (1 : Int32)), (.ref vB), (.int xb)])) _
            refine X0.baloadBytes hx (j := (1 : Int32)) (v := (.int yb)) (by rw [e0]; exact Arq2.1) (State.isArrayOf_alike hZ.alike Arq2.2.1) Arq2.2.2 (inb_of cSq2 ⟨by decide, (by rw [← hb4]; exact hb10)⟩) (Has.at cHq2 (inb_of cSq2 ⟨by decide, (by rw [← hb4]; exact hb10)⟩) rfl) (g := (mkF m 20 #[.val (.ref vA), .val (.ref vB), .val (.int (1 : Int32))] [(.int (1 : Int32)), (.ref vB), (.int xb)])) rfl rfl (hb hby d12_20) _ ?_
            exact kt)
          by_cases hb12 : xb = yb
          · skip
            have K13 : Gx p e below s₁ f0 s₁ (mkF m 12 #[.val (.ref vA), .val (.ref vB), .val (.int (2 : Int32))] [(.int za), (.int (2 : Int32))]) := fun t kt => K11 t (by
              show Steps p.tables e below (s₁.setTop (mkF m 21 #[.val (.ref vA), .val (.ref vB), .val (.int (1 : Int32))] [(.int yb), (.int xb)])) _
              refine XS.icmpYes X0.here hx rfl (pc0 := 21) (pc' := 26) rfl (hb hby d12_21) rfl (teq hb12).1 (by decide) (by decide) ?_
              show Steps p.tables e below (s₁.setTop (mkF m 26 #[.val (.ref vA), .val (.ref vB), .val (.int (1 : Int32))] [])) _
              refine XS.iinc X0.here hx rfl (hb hby d12_26) rfl (l' := #[.val (.ref vA), .val (.ref vB), .val (.int (2 : Int32))]) rfl ?_
              show Steps p.tables e below (s₁.setTop (mkF m 29 #[.val (.ref vA), .val (.ref vB), .val (.int (2 : Int32))] [])) _
              refine XS.goto X0.here hx rfl (pc0 := 29) (pc' := 9) rfl (hb hby d12_29) (by decide) (by decide) ?_
              show Steps p.tables e below (s₁.setTop (mkF m 9 #[.val (.ref vA), .val (.ref vB), .val (.int (2 : Int32))] [])) _
              refine XS.iloadN X0.here hx rfl (hb hby d12_9) rfl ?_
              show Steps p.tables e below (s₁.setTop (mkF m 10 #[.val (.ref vA), .val (.ref vB), .val (.int (2 : Int32))] [(.int (2 : Int32))])) _
              refine XS.aloadN X0.here hx rfl (hb hby d12_10) rfl rfl ?_
              show Steps p.tables e below (s₁.setTop (mkF m 11 #[.val (.ref vA), .val (.ref vB), .val (.int (2 : Int32))] [(.ref vA), (.int (2 : Int32))])) _
              refine X0.arraylength hx (by rw [e0]; exact Arq1.1) (State.isArrayOf_alike hZ.alike Arq1.2.1) (g := (mkF m 11 #[.val (.ref vA), .val (.ref vB), .val (.int (2 : Int32))] [(.ref vA), (.int (2 : Int32))])) rfl rfl (hb hby d12_11) _ ?_
              rw [len_of cSq1 cNq1]
              exact kt)
            by_cases hb14 : (2 : Int32) < za
            · skip
              have K15 : Gx p e below s₁ f0 s₁ (mkF m 21 #[.val (.ref vA), .val (.ref vB), .val (.int (2 : Int32))] [(.int yc), (.int xc)]) := fun t kt => K13 t (by
                show Steps p.tables e below (s₁.setTop (mkF m 12 #[.val (.ref vA), .val (.ref vB), .val (.int (2 : Int32))] [(.int za), (.int (2 : Int32))])) _
                refine XS.icmpNo X0.here hx rfl (hb hby d12_12) rfl (tlt hb14).2.1 ?_
                show Steps p.tables e below (s₁.setTop (mkF m 15 #[.val (.ref vA), .val (.ref vB), .val (.int (2 : Int32))] [])) _
                refine XS.aloadN X0.here hx rfl (hb hby d12_15) rfl rfl ?_
                show Steps p.tables e below (s₁.setTop (mkF m 16 #[.val (.ref vA), .val (.ref vB), .val (.int (2 : Int32))] [(.ref vA)])) _
                refine XS.iloadN X0.here hx rfl (hb hby d12_16) rfl ?_
                show Steps p.tables e below (s₁.setTop (mkF m 17 #[.val (.ref vA), .val (.ref vB), .val (.int (2 : Int32))] [(.int (2 : Int32)), (.ref vA)])) _
                refine X0.baloadBytes hx (j := (2 : Int32)) (v := (.int xc)) (by rw [e0]; exact Arq1.1) (State.isArrayOf_alike hZ.alike Arq1.2.1) Arq1.2.2 (inb_of cSq1 ⟨by decide, hb14⟩) (Has.at cHq1 (inb_of cSq1 ⟨by decide, hb14⟩) rfl) (g := (mkF m 17 #[.val (.ref vA), .val (.ref vB), .val (.int (2 : Int32))] [(.int (2 : Int32)), (.ref vA)])) rfl rfl (hb hby d12_17) _ ?_
                show Steps p.tables e below (s₁.setTop (mkF m 18 #[.val (.ref vA), .val (.ref vB), .val (.int (2 : Int32))] [(.int xc)])) _
                refine XS.aloadN X0.here hx rfl (hb hby d12_18) rfl rfl ?_
                show Steps p.tables e below (s₁.setTop (mkF m 19 #[.val (.ref vA), .val (.ref vB), .val (.int (2 : Int32))] [(.ref vB), (.int xc)])) _
                refine XS.iloadN X0.here hx rfl (hb hby d12_19) rfl ?_
                show Steps p.tables e below (s₁.setTop (mkF m 20 #[.val (.ref vA), .val (.ref vB), .val (.int (2 : Int32))] [(.int (2 : Int32)), (.ref vB), (.int xc)])) _
                refine X0.baloadBytes hx (j := (2 : Int32)) (v := (.int yc)) (by rw [e0]; exact Arq2.1) (State.isArrayOf_alike hZ.alike Arq2.2.1) Arq2.2.2 (inb_of cSq2 ⟨by decide, (by rw [← hb4]; exact hb14)⟩) (Has.at cHq2 (inb_of cSq2 ⟨by decide, (by rw [← hb4]; exact hb14)⟩) rfl) (g := (mkF m 20 #[.val (.ref vA), .val (.ref vB), .val (.int (2 : Int32))] [(.int (2 : Int32)), (.ref vB), (.int xc)])) rfl rfl (hb hby d12_20) _ ?_
                exact kt)
              by_cases hb16 : xc = yc
              · skip
                have K17 : Gx p e below s₁ f0 s₁ (mkF m 33 #[.val (.ref vA), .val (.ref vB), .val (.int (3 : Int32))] [(.int (1 : Int32))]) := fun t kt => K15 t (by
                  show Steps p.tables e below (s₁.setTop (mkF m 21 #[.val (.ref vA), .val (.ref vB), .val (.int (2 : Int32))] [(.int yc), (.int xc)])) _
                  refine XS.icmpYes X0.here hx rfl (pc0 := 21) (pc' := 26) rfl (hb hby d12_21) rfl (teq hb16).1 (by decide) (by decide) ?_
                  show Steps p.tables e below (s₁.setTop (mkF m 26 #[.val (.ref vA), .val (.ref vB), .val (.int (2 : Int32))] [])) _
                  refine XS.iinc X0.here hx rfl (hb hby d12_26) rfl (l' := #[.val (.ref vA), .val (.ref vB), .val (.int (3 : Int32))]) rfl ?_
                  show Steps p.tables e below (s₁.setTop (mkF m 29 #[.val (.ref vA), .val (.ref vB), .val (.int (3 : Int32))] [])) _
                  refine XS.goto X0.here hx rfl (pc0 := 29) (pc' := 9) rfl (hb hby d12_29) (by decide) (by decide) ?_
                  show Steps p.tables e below (s₁.setTop (mkF m 9 #[.val (.ref vA), .val (.ref vB), .val (.int (3 : Int32))] [])) _
                  refine XS.iloadN X0.here hx rfl (hb hby d12_9) rfl ?_
                  show Steps p.tables e below (s₁.setTop (mkF m 10 #[.val (.ref vA), .val (.ref vB), .val (.int (3 : Int32))] [(.int (3 : Int32))])) _
                  refine XS.aloadN X0.here hx rfl (hb hby d12_10) rfl rfl ?_
                  show Steps p.tables e below (s₁.setTop (mkF m 11 #[.val (.ref vA), .val (.ref vB), .val (.int (3 : Int32))] [(.ref vA), (.int (3 : Int32))])) _
                  refine X0.arraylength hx (by rw [e0]; exact Arq1.1) (State.isArrayOf_alike hZ.alike Arq1.2.1) (g := (mkF m 11 #[.val (.ref vA), .val (.ref vB), .val (.int (3 : Int32))] [(.ref vA), (.int (3 : Int32))])) rfl rfl (hb hby d12_11) _ ?_
                  rw [len_of cSq1 cNq1]
                  show Steps p.tables e below (s₁.setTop (mkF m 12 #[.val (.ref vA), .val (.ref vB), .val (.int (3 : Int32))] [(.int za), (.int (3 : Int32))])) _
                  refine XS.icmpYes X0.here hx rfl (pc0 := 12) (pc' := 32) rfl (hb hby d12_12) rfl (flt hz).2.1 (by decide) (by decide) ?_
                  show Steps p.tables e below (s₁.setTop (mkF m 32 #[.val (.ref vA), .val (.ref vB), .val (.int (3 : Int32))] [])) _
                  refine XS.iconst X0.here hx rfl (hb hby d12_32) ?_
                  exact kt)
                obtain ⟨fs18, hr18, hrun18, hended18, hW18, hsame18⟩ := X0.leave (v := some (.int (1 : Int32))) (fun h => by rw [Bd.returns] at h; cases h)
                refine ⟨_, _, pre0 _ (K17 _ ?_), hrun18, hended18, _, _, rfl, ?_, ⟨_, rfl⟩, hW18, hsame18.mono (by decide) (by decide)⟩
                · exact retN X0 hx (t := .boolean) Bd.returns (by simp) (hb hby d12_33) hr18
                · show QLeq Z vA vB ka kb za zb xa xb xc ya yb yc h0 n0 _ s₁.heap _
                  rw [e0]
                  exact ⟨(congrArg some (congrArg Value.int (by first | (simp only [latF, if_neg hz, if_pos hb4, if_pos hb6, if_pos hb8, if_pos hb10, if_pos hb12, if_pos hb14, if_pos hb16]; done) | rfl))), N0, rfl⟩
              · skip
                have K19 : Gx p e below s₁ f0 s₁ (mkF m 25 #[.val (.ref vA), .val (.ref vB), .val (.int (2 : Int32))] [(.int (0 : Int32))]) := fun t kt => K15 t (by
                  show Steps p.tables e below (s₁.setTop (mkF m 21 #[.val (.ref vA), .val (.ref vB), .val (.int (2 : Int32))] [(.int yc), (.int xc)])) _
                  refine XS.icmpNo X0.here hx rfl (hb hby d12_21) rfl (feq hb16).1 ?_
                  show Steps p.tables e below (s₁.setTop (mkF m 24 #[.val (.ref vA), .val (.ref vB), .val (.int (2 : Int32))] [])) _
                  refine XS.iconst X0.here hx rfl (hb hby d12_24) ?_
                  exact kt)
                obtain ⟨fs20, hr20, hrun20, hended20, hW20, hsame20⟩ := X0.leave (v := some (.int (0 : Int32))) (fun h => by rw [Bd.returns] at h; cases h)
                refine ⟨_, _, pre0 _ (K19 _ ?_), hrun20, hended20, _, _, rfl, ?_, ⟨_, rfl⟩, hW20, hsame20.mono (by decide) (by decide)⟩
                · exact retN X0 hx (t := .boolean) Bd.returns (by simp) (hb hby d12_25) hr20
                · show QLeq Z vA vB ka kb za zb xa xb xc ya yb yc h0 n0 _ s₁.heap _
                  rw [e0]
                  exact ⟨(congrArg some (congrArg Value.int (by first | (simp only [latF, if_neg hz, if_pos hb4, if_pos hb6, if_pos hb8, if_pos hb10, if_pos hb12, if_pos hb14, if_neg hb16]; done) | rfl))), N0, rfl⟩
            · skip
              have K21 : Gx p e below s₁ f0 s₁ (mkF m 33 #[.val (.ref vA), .val (.ref vB), .val (.int (2 : Int32))] [(.int (1 : Int32))]) := fun t kt => K13 t (by
                show Steps p.tables e below (s₁.setTop (mkF m 12 #[.val (.ref vA), .val (.ref vB), .val (.int (2 : Int32))] [(.int za), (.int (2 : Int32))])) _
                refine XS.icmpYes X0.here hx rfl (pc0 := 12) (pc' := 32) rfl (hb hby d12_12) rfl (flt hb14).2.1 (by decide) (by decide) ?_
                show Steps p.tables e below (s₁.setTop (mkF m 32 #[.val (.ref vA), .val (.ref vB), .val (.int (2 : Int32))] [])) _
                refine XS.iconst X0.here hx rfl (hb hby d12_32) ?_
                exact kt)
              obtain ⟨fs22, hr22, hrun22, hended22, hW22, hsame22⟩ := X0.leave (v := some (.int (1 : Int32))) (fun h => by rw [Bd.returns] at h; cases h)
              refine ⟨_, _, pre0 _ (K21 _ ?_), hrun22, hended22, _, _, rfl, ?_, ⟨_, rfl⟩, hW22, hsame22.mono (by decide) (by decide)⟩
              · exact retN X0 hx (t := .boolean) Bd.returns (by simp) (hb hby d12_33) hr22
              · show QLeq Z vA vB ka kb za zb xa xb xc ya yb yc h0 n0 _ s₁.heap _
                rw [e0]
                exact ⟨(congrArg some (congrArg Value.int (by first | (simp only [latF, if_neg hz, if_pos hb4, if_pos hb6, if_pos hb8, if_pos hb10, if_pos hb12, if_neg hb14]; done) | rfl))), N0, rfl⟩
          · skip
            have K23 : Gx p e below s₁ f0 s₁ (mkF m 25 #[.val (.ref vA), .val (.ref vB), .val (.int (1 : Int32))] [(.int (0 : Int32))]) := fun t kt => K11 t (by
              show Steps p.tables e below (s₁.setTop (mkF m 21 #[.val (.ref vA), .val (.ref vB), .val (.int (1 : Int32))] [(.int yb), (.int xb)])) _
              refine XS.icmpNo X0.here hx rfl (hb hby d12_21) rfl (feq hb12).1 ?_
              show Steps p.tables e below (s₁.setTop (mkF m 24 #[.val (.ref vA), .val (.ref vB), .val (.int (1 : Int32))] [])) _
              refine XS.iconst X0.here hx rfl (hb hby d12_24) ?_
              exact kt)
            obtain ⟨fs24, hr24, hrun24, hended24, hW24, hsame24⟩ := X0.leave (v := some (.int (0 : Int32))) (fun h => by rw [Bd.returns] at h; cases h)
            refine ⟨_, _, pre0 _ (K23 _ ?_), hrun24, hended24, _, _, rfl, ?_, ⟨_, rfl⟩, hW24, hsame24.mono (by decide) (by decide)⟩
            · exact retN X0 hx (t := .boolean) Bd.returns (by simp) (hb hby d12_25) hr24
            · show QLeq Z vA vB ka kb za zb xa xb xc ya yb yc h0 n0 _ s₁.heap _
              rw [e0]
              exact ⟨(congrArg some (congrArg Value.int (by first | (simp only [latF, if_neg hz, if_pos hb4, if_pos hb6, if_pos hb8, if_pos hb10, if_neg hb12]; done) | rfl))), N0, rfl⟩
        · skip
          have K25 : Gx p e below s₁ f0 s₁ (mkF m 33 #[.val (.ref vA), .val (.ref vB), .val (.int (1 : Int32))] [(.int (1 : Int32))]) := fun t kt => K9 t (by
            show Steps p.tables e below (s₁.setTop (mkF m 12 #[.val (.ref vA), .val (.ref vB), .val (.int (1 : Int32))] [(.int za), (.int (1 : Int32))])) _
            refine XS.icmpYes X0.here hx rfl (pc0 := 12) (pc' := 32) rfl (hb hby d12_12) rfl (flt hb10).2.1 (by decide) (by decide) ?_
            show Steps p.tables e below (s₁.setTop (mkF m 32 #[.val (.ref vA), .val (.ref vB), .val (.int (1 : Int32))] [])) _
            refine XS.iconst X0.here hx rfl (hb hby d12_32) ?_
            exact kt)
          obtain ⟨fs26, hr26, hrun26, hended26, hW26, hsame26⟩ := X0.leave (v := some (.int (1 : Int32))) (fun h => by rw [Bd.returns] at h; cases h)
          refine ⟨_, _, pre0 _ (K25 _ ?_), hrun26, hended26, _, _, rfl, ?_, ⟨_, rfl⟩, hW26, hsame26.mono (by decide) (by decide)⟩
          · exact retN X0 hx (t := .boolean) Bd.returns (by simp) (hb hby d12_33) hr26
          · show QLeq Z vA vB ka kb za zb xa xb xc ya yb yc h0 n0 _ s₁.heap _
            rw [e0]
            exact ⟨(congrArg some (congrArg Value.int (by first | (simp only [latF, if_neg hz, if_pos hb4, if_pos hb6, if_pos hb8, if_neg hb10]; done) | rfl))), N0, rfl⟩
      · skip
        have K27 : Gx p e below s₁ f0 s₁ (mkF m 25 #[.val (.ref vA), .val (.ref vB), .val (.int (0 : Int32))] [(.int (0 : Int32))]) := fun t kt => K7 t (by
          show Steps p.tables e below (s₁.setTop (mkF m 21 #[.val (.ref vA), .val (.ref vB), .val (.int (0 : Int32))] [(.int ya), (.int xa)])) _
          refine XS.icmpNo X0.here hx rfl (hb hby d12_21) rfl (feq hb8).1 ?_
          show Steps p.tables e below (s₁.setTop (mkF m 24 #[.val (.ref vA), .val (.ref vB), .val (.int (0 : Int32))] [])) _
          refine XS.iconst X0.here hx rfl (hb hby d12_24) ?_
          exact kt)
        obtain ⟨fs28, hr28, hrun28, hended28, hW28, hsame28⟩ := X0.leave (v := some (.int (0 : Int32))) (fun h => by rw [Bd.returns] at h; cases h)
        refine ⟨_, _, pre0 _ (K27 _ ?_), hrun28, hended28, _, _, rfl, ?_, ⟨_, rfl⟩, hW28, hsame28.mono (by decide) (by decide)⟩
        · exact retN X0 hx (t := .boolean) Bd.returns (by simp) (hb hby d12_25) hr28
        · show QLeq Z vA vB ka kb za zb xa xb xc ya yb yc h0 n0 _ s₁.heap _
          rw [e0]
          exact ⟨(congrArg some (congrArg Value.int (by first | (simp only [latF, if_neg hz, if_pos hb4, if_pos hb6, if_neg hb8]; done) | rfl))), N0, rfl⟩
    · skip
      have K29 : Gx p e below s₁ f0 s₁ (mkF m 33 #[.val (.ref vA), .val (.ref vB), .val (.int (0 : Int32))] [(.int (1 : Int32))]) := fun t kt => K5 t (by
        show Steps p.tables e below (s₁.setTop (mkF m 12 #[.val (.ref vA), .val (.ref vB), .val (.int (0 : Int32))] [(.int za), (.int (0 : Int32))])) _
        refine XS.icmpYes X0.here hx rfl (pc0 := 12) (pc' := 32) rfl (hb hby d12_12) rfl (flt hb6).2.1 (by decide) (by decide) ?_
        show Steps p.tables e below (s₁.setTop (mkF m 32 #[.val (.ref vA), .val (.ref vB), .val (.int (0 : Int32))] [])) _
        refine XS.iconst X0.here hx rfl (hb hby d12_32) ?_
        exact kt)
      obtain ⟨fs30, hr30, hrun30, hended30, hW30, hsame30⟩ := X0.leave (v := some (.int (1 : Int32))) (fun h => by rw [Bd.returns] at h; cases h)
      refine ⟨_, _, pre0 _ (K29 _ ?_), hrun30, hended30, _, _, rfl, ?_, ⟨_, rfl⟩, hW30, hsame30.mono (by decide) (by decide)⟩
      · exact retN X0 hx (t := .boolean) Bd.returns (by simp) (hb hby d12_33) hr30
      · show QLeq Z vA vB ka kb za zb xa xb xc ya yb yc h0 n0 _ s₁.heap _
        rw [e0]
        exact ⟨(congrArg some (congrArg Value.int (by first | (simp only [latF, if_neg hz, if_pos hb4, if_neg hb6]; done) | rfl))), N0, rfl⟩
  · skip
    have K31 : Gx p e below s₁ f0 s₁ (mkF m 35 #[.val (.ref vA), .val (.ref vB), .unset] [(.int (0 : Int32))]) := fun t kt => K3 t (by
      show Steps p.tables e below (s₁.setTop (mkF m 4 #[.val (.ref vA), .val (.ref vB), .unset] [(.int zb), (.int za)])) _
      refine XS.icmpYes X0.here hx rfl (pc0 := 4) (pc' := 34) rfl (hb hby d12_4) rfl (feq hb4).2 (by decide) (by decide) ?_
      show Steps p.tables e below (s₁.setTop (mkF m 34 #[.val (.ref vA), .val (.ref vB), .unset] [])) _
      refine XS.iconst X0.here hx rfl (hb hby d12_34) ?_
      exact kt)
    obtain ⟨fs32, hr32, hrun32, hended32, hW32, hsame32⟩ := X0.leave (v := some (.int (0 : Int32))) (fun h => by rw [Bd.returns] at h; cases h)
    refine ⟨_, _, pre0 _ (K31 _ ?_), hrun32, hended32, _, _, rfl, ?_, ⟨_, rfl⟩, hW32, hsame32.mono (by decide) (by decide)⟩
    · exact retN X0 hx (t := .boolean) Bd.returns (by simp) (hb hby d12_35) hr32
    · show QLeq Z vA vB ka kb za zb xa xb xc ya yb yc h0 n0 _ s₁.heap _
      rw [e0]
      exact ⟨(congrArg some (congrArg Value.int (by first | (simp only [latF, if_neg hz, if_neg hb4]; done) | rfl))), N0, rfl⟩
theorem d11_0 : decode jdk_42_method_66_code 0 = .ok (.aload_n 0, 1) := by decide +kernel
theorem d11_1 : decode jdk_42_method_66_code 1 = .ok (.aload_n 1, 1) := by decide +kernel
theorem d11_2 : decode jdk_42_method_66_code 2 = .ok (.if_acmp .ne 5, 3) := by decide +kernel
theorem d11_5 : decode jdk_42_method_66_code 5 = .ok (.iconst 1, 1) := by decide +kernel
theorem d11_6 : decode jdk_42_method_66_code 6 = .ok (.ireturn, 1) := by decide +kernel
theorem d11_7 : decode jdk_42_method_66_code 7 = .ok (.aload_n 1, 1) := by decide +kernel
theorem d11_8 : decode jdk_42_method_66_code 8 = .ok (.instanceof 10, 3) := by decide +kernel
theorem d11_11 : decode jdk_42_method_66_code 11 = .ok (.ifCond .eq 43, 3) := by decide +kernel
theorem d11_14 : decode jdk_42_method_66_code 14 = .ok (.aload_n 1, 1) := by decide +kernel
theorem d11_15 : decode jdk_42_method_66_code 15 = .ok (.checkcast 10, 3) := by decide +kernel
theorem d11_18 : decode jdk_42_method_66_code 18 = .ok (.astore_n 2, 1) := by decide +kernel
theorem d11_19 : decode jdk_42_method_66_code 19 = .ok (.getstatic 38, 3) := by decide +kernel
theorem d11_22 : decode jdk_42_method_66_code 22 = .ok (.ifCond .eq 14, 3) := by decide +kernel
theorem d11_25 : decode jdk_42_method_66_code 25 = .ok (.aload_n 0, 1) := by decide +kernel
theorem d11_26 : decode jdk_42_method_66_code 26 = .ok (.getfield 15, 3) := by decide +kernel
theorem d11_29 : decode jdk_42_method_66_code 29 = .ok (.aload_n 2, 1) := by decide +kernel
theorem d11_30 : decode jdk_42_method_66_code 30 = .ok (.getfield 15, 3) := by decide +kernel
theorem d11_33 : decode jdk_42_method_66_code 33 = .ok (.if_icmp .ne 21, 3) := by decide +kernel
theorem d11_36 : decode jdk_42_method_66_code 36 = .ok (.aload_n 0, 1) := by decide +kernel
theorem d11_37 : decode jdk_42_method_66_code 37 = .ok (.getfield 9, 3) := by decide +kernel
theorem d11_40 : decode jdk_42_method_66_code 40 = .ok (.aload_n 2, 1) := by decide +kernel
theorem d11_41 : decode jdk_42_method_66_code 41 = .ok (.getfield 9, 3) := by decide +kernel
theorem d11_44 : decode jdk_42_method_66_code 44 = .ok (.invokestatic 541, 3) := by decide +kernel
theorem d11_47 : decode jdk_42_method_66_code 47 = .ok (.ifCond .eq 7, 3) := by decide +kernel
theorem d11_50 : decode jdk_42_method_66_code 50 = .ok (.iconst 1, 1) := by decide +kernel
theorem d11_51 : decode jdk_42_method_66_code 51 = .ok (.goto 4, 3) := by decide +kernel
theorem d11_54 : decode jdk_42_method_66_code 54 = .ok (.iconst 0, 1) := by decide +kernel
theorem d11_55 : decode jdk_42_method_66_code 55 = .ok (.ireturn, 1) := by decide +kernel
theorem pn_11 : plainName "java/lang/String" = true := by first | (simp [plainName, overriddenIn]; done) | decide +kernel
theorem pd___B_B_Z : parseMethodDescriptor "([B[B)Z" = some ⟨[(.array .byte), (.array .byte)], some .boolean⟩ := by decide +kernel
theorem ef_Seq (m : MethodId) (a1 : Addr) (a2 : Addr) : entryFrame m #[(.ref a1), (.ref a2)] 3 = mkF m 0 #[.val (.ref a1), .val (.ref a2), .unset] [] := by first | (simp [entryFrame, mkF, argsToLocals, Value.category]; done) | rfl
def QSeq (Z : State) (a1 : Addr) (a2 : Addr) (vA : Addr) (vB : Addr) (ka : ClassId) (kb : ClassId) (za : Int32) (zb : Int32) (xa : Int32) (xb : Int32) (xc : Int32) (ya : Int32) (yb : Int32) (yc : Int32) (cw : Int32) (h0 : Heap) (n0 : Nat) (v : Option Value) (h : Heap) (L : List Loc) : Prop := v = some (.int (latF za zb xa xb xc ya yb yc)) ∧ Fr n0 L ∧ h = h0
set_option maxRecDepth 65536 in
set_option maxHeartbeats 40000000 in
theorem rmSeq (l : Launch) (Z : State) (a0 : Array Value) (hw : ∀ d ∈ tables_1, d.before a0 Z = true) (ws : List Jvm.Cond) (a1 : Addr) (a2 : Addr) (vA : Addr) (vB : Addr) (ka : ClassId) (kb : ClassId) (za : Int32) (zb : Int32) (xa : Int32) (xb : Int32) (xc : Int32) (ya : Int32) (yb : Int32) (yc : Int32) (cw : Int32) (h0 : Heap) (n0 : Nat) (Z0 : n0 ≤ h0.size) (pr0 : Fld Z h0 a1 "java/lang/String" "coder" "B" (.int (0 : Int32))) (pr1 : Fld Z h0 a1 "java/lang/String" "value" "[B" (.ref vA)) (pr2 : Arv Z h0 vA ka .byte za [(.int xa), (.int xb), (.int xc)] (.int (0 : Int32))) (pr3 : Exa Z h0 a2 "java/lang/String") (pr4 : Fld Z h0 a2 "java/lang/String" "coder" "B" (.int (0 : Int32))) (pr5 : Fld Z h0 a2 "java/lang/String" "value" "[B" (.ref vB)) (pr6 : Arv Z h0 vB kb .byte zb [(.int ya), (.int yb), (.int yc)] (.int (0 : Int32))) (pr7 : Old Z n0 h0) (pr8 : Sta Z Z.heap "java/lang/String" "COMPACT_STRINGS" "Z" (.int cw)) (hcw : ¬ (cw = (0 : Int32))) (hz : ¬ ((3 : Int32) < za)) :
    MetFree l (⟨"java/lang/String", "equals", "(Ljava/lang/Object;)Z"⟩ : MethodName) (head1 (Jvm.Cond.code (⟨"java/lang/String", "equals", "(Ljava/lang/Object;)Z"⟩ : MethodName) jdk_42_method_66_code 3 (some .boolean) :: ws) ({ frames := 1, cells := 0, slots := 0, locals := 14 } : Room)) (fun a U => a = #[(.ref a1), (.ref a2)] ∧ Z.Warmed39 U.vm ∧ U.heap = h0) (fun _ _ _ _ _ => True) (fun _ U o U' => ∃ v L, o = .returned v ∧ QSeq Z a1 a2 vA vB ka kb za zb xa xb xc ya yb yc cw h0 n0 v U'.heap L ∧ FrameEnd U o U' L ({ frames := 1, cells := 0, slots := 0, locals := 14 } : Room).cells ({ frames := 1, cells := 0, slots := 0, locals := 14 } : Room).slots) := by
  refine MetFree.of_bodySF (plainFor_of_name pn_11) hisR ?_
  intro p e s m args below meth c s₁ Bd hml0 hP hK
  obtain ⟨rfl, hZ, hh⟩ := hP
  have hx := Bd.exec
  have hby := Bd.bytes
  have hml : c.maxLocals = 3 := hml0
  have hown : s.vm.findClass "java/lang/String" = some m.cls := findClass_of_methodNamed Bd.named
  have hnm := (name_of_methodNamed Bd.named Bd.method).1
  have X0 : Stand p l e ({ frames := 1, cells := 0, slots := 0, locals := 14 } : Room) s m #[(.ref a1), (.ref a2)] below meth c s₁ [] 0 0 := Stand.of_body Bd
  have hs0 : h0 = s.heap := hh.symm
  have e0 : s₁.heap = h0 := by rw [← hh, Bd.state]; rfl
  have N0 := Fr.nil n0
  obtain ⟨f0, hf0⟩ : ∃ f, f = entryFrame m #[(.ref a1), (.ref a2)] 3 := ⟨_, rfl⟩
  have pre0 : ∀ t, Steps p.tables e below (s₁.setTop f0) t → Steps p.tables e below (s₁.setTop (entryFrame m #[(.ref a1), (.ref a2)] 3)) t := fun t k => hf0 ▸ k
  have K0 : Gx p e below s₁ f0 s₁ (mkF m 0 #[.val (.ref a1), .val (.ref a2), .unset] []) := fun t kt => by rw [hf0]; exact castTop (ef_Seq m a1 a2) kt
  have K1 : Gx p e below s₁ f0 s₁ (mkF m 2 #[.val (.ref a1), .val (.ref a2), .unset] [(.ref a2), (.ref a1)]) := fun t kt => K0 t (by
    show Steps p.tables e below (s₁.setTop (mkF m 0 #[.val (.ref a1), .val (.ref a2), .unset] [])) _
    refine XS.aloadN X0.here hx rfl (hb hby d11_0) rfl rfl ?_
    show Steps p.tables e below (s₁.setTop (mkF m 1 #[.val (.ref a1), .val (.ref a2), .unset] [(.ref a1)])) _
    refine XS.aloadN X0.here hx rfl (hb hby d11_1) rfl rfl ?_
    exact kt)
  by_cases hb2 : a1 = a2
  · skip
    have K3 : Gx p e below s₁ f0 s₁ (mkF m 6 #[.val (.ref a1), .val (.ref a2), .unset] [(.int (1 : Int32))]) := fun t kt => K1 t (by
      show Steps p.tables e below (s₁.setTop (mkF m 2 #[.val (.ref a1), .val (.ref a2), .unset] [(.ref a2), (.ref a1)])) _
      refine Jvm.RoadKit.acmp (g := (mkF m 2 #[.val (.ref a1), .val (.ref a2), .unset] [(.ref a2), (.ref a1)])) X0 hx rfl rfl rfl (pc0 := 2) (pc' := 5) (same := true) rfl (hb hby d11_2) rfl (decide_eq_true (congrArg Value.ref hb2)) (by decide) (by decide) ?_
      show Steps p.tables e below (s₁.setTop (mkF m 5 #[.val (.ref a1), .val (.ref a2), .unset] [])) _
      refine XS.iconst X0.here hx rfl (hb hby d11_5) ?_
      exact kt)
    obtain ⟨fs4, hr4, hrun4, hended4, hW4, hsame4⟩ := X0.leave (v := some (.int (1 : Int32))) (fun h => by rw [Bd.returns] at h; cases h)
    refine ⟨_, _, pre0 _ (K3 _ ?_), hrun4, hended4, _, _, rfl, ?_, ⟨_, rfl⟩, hW4, hsame4.mono (by decide) (by decide)⟩
    · exact retN X0 hx (t := .boolean) Bd.returns (by simp) (hb hby d11_6) hr4
    · show QSeq Z a1 a2 vA vB ka kb za zb xa xb xc ya yb yc cw h0 n0 _ s₁.heap _
      rw [e0]
      exact ⟨(congrArg some (congrArg Value.int (own_lsame pr1 pr2 pr5 pr6 hb2))), N0, rfl⟩
  · skip
    have K5 : Gx p e below s₁ f0 s₁ (mkF m 8 #[.val (.ref a1), .val (.ref a2), .unset] [(.ref a2)]) := fun t kt => K1 t (by
      show Steps p.tables e below (s₁.setTop (mkF m 2 #[.val (.ref a1), .val (.ref a2), .unset] [(.ref a2), (.ref a1)])) _
      refine Jvm.RoadKit.acmp (g := (mkF m 2 #[.val (.ref a1), .val (.ref a2), .unset] [(.ref a2), (.ref a1)])) X0 hx rfl rfl rfl (pc0 := 2) (pc' := 7) (same := false) rfl (hb hby d11_2) rfl (decide_eq_false fun q => hb2 (Value.ref.inj q)) (by decide) (by decide) ?_
      show Steps p.tables e below (s₁.setTop (mkF m 7 #[.val (.ref a1), .val (.ref a2), .unset] [])) _
      refine XS.aloadN X0.here hx rfl (hb hby d11_7) rfl rfl ?_
      exact kt)
    obtain ⟨T6, X6, e6, st6⟩ := instY X0 hx hZ hown (hw _ (List.mem_of_getElem? (i := 65) rfl)) e0 (Ins.self pr3) (g := (mkF m 8 #[.val (.ref a1), .val (.ref a2), .unset] [(.ref a2)])) rfl rfl (hb hby d11_8)
    have K7 : Gx p e below s₁ f0 T6 (mkF m 11 #[.val (.ref a1), .val (.ref a2), .unset] [(.int (1 : Int32))]) := fun t kt => K5 t (st6 t kt)
    have K8 : Gx p e below s₁ f0 T6 (mkF m 15 #[.val (.ref a1), .val (.ref a2), .unset] [(.ref a2)]) := fun t kt => K7 t (by
      show Steps p.tables e below (T6.setTop (mkF m 11 #[.val (.ref a1), .val (.ref a2), .unset] [(.int (1 : Int32))])) _
      refine XS.ifNo X6.here hx rfl (hb hby d11_11) rfl ((if0 _ _).trans (feq (by decide)).1) ?_
      show Steps p.tables e below (T6.setTop (mkF m 14 #[.val (.ref a1), .val (.ref a2), .unset] [])) _
      refine XS.aloadN X6.here hx rfl (hb hby d11_14) rfl rfl ?_
      exact kt)
    obtain ⟨T9, X9, e9, st9⟩ := castY X6 hx hZ hown (hw _ (List.mem_of_getElem? (i := 65) rfl)) e6 (Ins.self pr3) (g := (mkF m 15 #[.val (.ref a1), .val (.ref a2), .unset] [(.ref a2)])) rfl rfl (hb hby d11_15)
    have K10 : Gx p e below s₁ f0 T9 (mkF m 18 #[.val (.ref a1), .val (.ref a2), .unset] [(.ref a2)]) := fun t kt => K8 t (st9 t kt)
    have K11 : Gx p e below s₁ f0 T9 (mkF m 19 #[.val (.ref a1), .val (.ref a2), .val (.ref a2)] []) := fun t kt => K10 t (by
      show Steps p.tables e below (T9.setTop (mkF m 18 #[.val (.ref a1), .val (.ref a2), .unset] [(.ref a2)])) _
      refine XS.astoreN X9.here hx rfl (hb hby d11_18) rfl rfl (l' := #[.val (.ref a1), .val (.ref a2), .val (.ref a2)]) rfl ?_
      exact kt)
    have f12 : Sta Z h0 "java/lang/String" "COMPACT_STRINGS" "Z" (.int cw) := Sta.ext pr7.2 pr8
    obtain ⟨T13, X13, e13, st13⟩ := getS2 X9 hx hZ hown (host := "") (Or.inl (hw _ (List.mem_of_getElem? (i := 29) rfl))) Via.refl e9 f12 (g := (mkF m 19 #[.val (.ref a1), .val (.ref a2), .val (.ref a2)] [])) rfl (hb hby d11_19)
    have K14 : Gx p e below s₁ f0 T13 (mkF m 22 #[.val (.ref a1), .val (.ref a2), .val (.ref a2)] [(.int cw)]) := fun t kt => K11 t (st13 t kt)
    have K15 : Gx p e below s₁ f0 T13 (mkF m 26 #[.val (.ref a1), .val (.ref a2), .val (.ref a2)] [(.ref a1)]) := fun t kt => K14 t (by
      show Steps p.tables e below (T13.setTop (mkF m 22 #[.val (.ref a1), .val (.ref a2), .val (.ref a2)] [(.int cw)])) _
      refine XS.ifNo X13.here hx rfl (hb hby d11_22) rfl ((if0 _ _).trans (feq hcw).1) ?_
      show Steps p.tables e below (T13.setTop (mkF m 25 #[.val (.ref a1), .val (.ref a2), .val (.ref a2)] [])) _
      refine XS.aloadN X13.here hx rfl (hb hby d11_25) rfl rfl ?_
      exact kt)
    obtain ⟨T16, X16, e16, st16⟩ := getF X13 hx hZ hown (host := "") (Or.inl (hw _ (List.mem_of_getElem? (i := 28) rfl))) Via.refl e13 pr0 (g := (mkF m 26 #[.val (.ref a1), .val (.ref a2), .val (.ref a2)] [(.ref a1)])) rfl rfl (hb hby d11_26)
    have K17 : Gx p e below s₁ f0 T16 (mkF m 29 #[.val (.ref a1), .val (.ref a2), .val (.ref a2)] [(.int (0 : Int32))]) := fun t kt => K15 t (st16 t kt)
    have K18 : Gx p e below s₁ f0 T16 (mkF m 30 #[.val (.ref a1), .val (.ref a2), .val (.ref a2)] [(.ref a2), (.int (0 : Int32))]) := fun t kt => K17 t (by
      show Steps p.tables e below (T16.setTop (mkF m 29 #[.val (.ref a1), .val (.ref a2), .val (.ref a2)] [(.int (0 : Int32))])) _
      refine XS.aloadN X16.here hx rfl (hb hby d11_29) rfl rfl ?_
      exact kt)
    obtain ⟨T19, X19, e19, st19⟩ := getF X16 hx hZ hown (host := "") (Or.inl (hw _ (List.mem_of_getElem? (i := 28) rfl))) Via.refl e16 pr4 (g := (mkF m 30 #[.val (.ref a1), .val (.ref a2), .val (.ref a2)] [(.ref a2), (.int (0 : Int32))])) rfl rfl (hb hby d11_30)
    have K20 : Gx p e below s₁ f0 T19 (mkF m 33 #[.val (.ref a1), .val (.ref a2), .val (.ref a2)] [(.int (0 : Int32)), (.int (0 : Int32))]) := fun t kt => K18 t (st19 t kt)
    have K21 : Gx p e below s₁ f0 T19 (mkF m 37 #[.val (.ref a1), .val (.ref a2), .val (.ref a2)] [(.ref a1)]) := fun t kt => K20 t (by
      show Steps p.tables e below (T19.setTop (mkF m 33 #[.val (.ref a1), .val (.ref a2), .val (.ref a2)] [(.int (0 : Int32)), (.int (0 : Int32))])) _
      refine XS.icmpNo X19.here hx rfl (hb hby d11_33) rfl (teq (by decide)).2 ?_
      show Steps p.tables e below (T19.setTop (mkF m 36 #[.val (.ref a1), .val (.ref a2), .val (.ref a2)] [])) _
      refine XS.aloadN X19.here hx rfl (hb hby d11_36) rfl rfl ?_
      exact kt)
    obtain ⟨T22, X22, e22, st22⟩ := getF X19 hx hZ hown (host := "") (Or.inl (hw _ (List.mem_of_getElem? (i := 27) rfl))) Via.refl e19 pr1 (g := (mkF m 37 #[.val (.ref a1), .val (.ref a2), .val (.ref a2)] [(.ref a1)])) rfl rfl (hb hby d11_37)
    have K23 : Gx p e below s₁ f0 T22 (mkF m 40 #[.val (.ref a1), .val (.ref a2), .val (.ref a2)] [(.ref vA)]) := fun t kt => K21 t (st22 t kt)
    have K24 : Gx p e below s₁ f0 T22 (mkF m 41 #[.val (.ref a1), .val (.ref a2), .val (.ref a2)] [(.ref a2), (.ref vA)]) := fun t kt => K23 t (by
      show Steps p.tables e below (T22.setTop (mkF m 40 #[.val (.ref a1), .val (.ref a2), .val (.ref a2)] [(.ref vA)])) _
      refine XS.aloadN X22.here hx rfl (hb hby d11_40) rfl rfl ?_
      exact kt)
    obtain ⟨T25, X25, e25, st25⟩ := getF X22 hx hZ hown (host := "") (Or.inl (hw _ (List.mem_of_getElem? (i := 27) rfl))) Via.refl e22 pr5 (g := (mkF m 41 #[.val (.ref a1), .val (.ref a2), .val (.ref a2)] [(.ref a2), (.ref vA)])) rfl rfl (hb hby d11_41)
    have K26 : Gx p e below s₁ f0 T25 (mkF m 44 #[.val (.ref a1), .val (.ref a2), .val (.ref a2)] [(.ref vB), (.ref vA)]) := fun t kt => K24 t (st25 t kt)
    obtain ⟨_, _, ⟨T27, L27, k27, n27⟩, -, X27', ⟨Lc27, hQ27, l27, y27, z27⟩, st27⟩ := Jvm.LawKit.callS X25 hx (y := (⟨"java/lang/StringLatin1", "equals", "([B[B)Z"⟩ : MethodName)) hown (mvT hZ (hw _ (List.mem_of_getElem? (i := 66) rfl))) (mvT hZ (hw _ (List.mem_of_getElem? (i := 67) rfl))) (mvT hZ (hw _ (List.mem_of_getElem? (i := 68) rfl))) (mvT hZ (hw _ (List.mem_of_getElem? (i := 69) rfl))) (by decide) (backOf (W := 0) (rmLeq l Z a0 hw [] vA vB ka kb za zb xa xb xc ya yb yc h0 n0 (Nat.le_trans Z0 (Keep.refl h0 []).1) pr2 pr6 hz) hZ (hw _ (List.mem_of_getElem? (i := 69) rfl)) (hw _ (List.mem_of_getElem? (i := 68) rfl)) (by decide) (by decide)) (g := (mkF m 44 #[.val (.ref a1), .val (.ref a2), .val (.ref a2)] [(.ref vB), (.ref vA)])) rfl (by rw [hml]; rfl) (argsL := [(.ref vA), (.ref vB)]) (rest := []) (lenOf pd___B_B_Z rfl) rfl (by show 2 * 0 + _ ≤ _; exact Nat.le_of_eq rfl) (hb hby d11_44) (fun _ _ => ⟨rfl, e25, (by decide : 0 + 0 ≤ _), (by decide : 0 + 0 ≤ _)⟩)
    dsimp only [Pt.U, Pt.locs, Pt.cells, Pt.slots] at X27' l27 y27 z27 st27 hQ27
    subst l27 y27 z27
    obtain ⟨rfl, N27q, e27⟩ := hQ27
    obtain ⟨lc27, X27, N27⟩ : ∃ lc, Stand p l e ({ frames := 1, cells := 0, slots := 0, locals := 14 } : Room) s m #[(.ref a1), (.ref a2)] below meth c T27 lc 0 0 ∧ Fr n0 lc := ⟨_, X27', Fr.app N0 N27q⟩
    have K28 : Gx p e below s₁ f0 T27 (mkF m 47 #[.val (.ref a1), .val (.ref a2), .val (.ref a2)] [(.int (latF za zb xa xb xc ya yb yc))]) := fun t kt => K26 t (st27 t kt)
    by_cases hb29 : (latF za zb xa xb xc ya yb yc) = (0 : Int32)
    · skip
      have K30 : Gx p e below s₁ f0 T27 (mkF m 55 #[.val (.ref a1), .val (.ref a2), .val (.ref a2)] [(.int (0 : Int32))]) := fun t kt => K28 t (by
        show Steps p.tables e below (T27.setTop (mkF m 47 #[.val (.ref a1), .val (.ref a2), .val (.ref a2)] [(.int (latF za zb xa xb xc ya yb yc))])) _
        refine XS.ifYes X27.here hx rfl (pc0 := 47) (pc' := 54) rfl (hb hby d11_47) rfl ((if0 _ _).trans (teq hb29).1) (by decide) (by decide) ?_
        show Steps p.tables e below (T27.setTop (mkF m 54 #[.val (.ref a1), .val (.ref a2), .val (.ref a2)] [])) _
        refine XS.iconst X27.here hx rfl (hb hby d11_54) ?_
        exact kt)
      obtain ⟨fs31, hr31, hrun31, hended31, hW31, hsame31⟩ := X27.leave (v := some (.int (0 : Int32))) (fun h => by rw [Bd.returns] at h; cases h)
      refine ⟨_, _, pre0 _ (K30 _ ?_), hrun31, hended31, _, _, rfl, ?_, ⟨_, rfl⟩, hW31, hsame31.mono (by decide) (by decide)⟩
      · exact retN X27 hx (t := .boolean) Bd.returns (by simp) (hb hby d11_55) hr31
      · show QSeq Z a1 a2 vA vB ka kb za zb xa xb xc ya yb yc cw h0 n0 _ T27.heap _
        rw [e27]
        exact ⟨(congrArg some (congrArg Value.int hb29.symm)), N27, rfl⟩
    · skip
      have K32 : Gx p e below s₁ f0 T27 (mkF m 55 #[.val (.ref a1), .val (.ref a2), .val (.ref a2)] [(.int (1 : Int32))]) := fun t kt => K28 t (by
        show Steps p.tables e below (T27.setTop (mkF m 47 #[.val (.ref a1), .val (.ref a2), .val (.ref a2)] [(.int (latF za zb xa xb xc ya yb yc))])) _
        refine XS.ifNo X27.here hx rfl (hb hby d11_47) rfl ((if0 _ _).trans (feq hb29).1) ?_
        show Steps p.tables e below (T27.setTop (mkF m 50 #[.val (.ref a1), .val (.ref a2), .val (.ref a2)] [])) _
        refine XS.iconst X27.here hx rfl (hb hby d11_50) ?_
        show Steps p.tables e below (T27.setTop (mkF m 51 #[.val (.ref a1), .val (.ref a2), .val (.ref a2)] [(.int (1 : Int32))])) _
        refine XS.goto X27.here hx rfl (pc0 := 51) (pc' := 55) rfl (hb hby d11_51) (by decide) (by decide) ?_
        exact kt)
      obtain ⟨fs33, hr33, hrun33, hended33, hW33, hsame33⟩ := X27.leave (v := some (.int (1 : Int32))) (fun h => by rw [Bd.returns] at h; cases h)
      refine ⟨_, _, pre0 _ (K32 _ ?_), hrun33, hended33, _, _, rfl, ?_, ⟨_, rfl⟩, hW33, hsame33.mono (by decide) (by decide)⟩
      · exact retN X27 hx (t := .boolean) Bd.returns (by simp) (hb hby d11_55) hr33
      · show QSeq Z a1 a2 vA vB ka kb za zb xa xb xc ya yb yc cw h0 n0 _ T27.heap _
        rw [e27]
        exact ⟨(congrArg some (congrArg Value.int (own_lat01 hb29))), N27, rfl⟩
theorem d10_0 : decode prog_68_method_4_code 0 = .ok (.aload_n 0, 1) := by decide +kernel
theorem d10_1 : decode prog_68_method_4_code 1 = .ok (.getfield 17, 3) := by decide +kernel
theorem d10_4 : decode prog_68_method_4_code 4 = .ok (.aload_n 1, 1) := by decide +kernel
theorem d10_5 : decode prog_68_method_4_code 5 = .ok (.invokevirtual 26, 3) := by decide +kernel
theorem d10_8 : decode prog_68_method_4_code 8 = .ok (.ifCond .eq 18, 3) := by decide +kernel
theorem d10_11 : decode prog_68_method_4_code 11 = .ok (.aload_n 0, 1) := by decide +kernel
theorem d10_12 : decode prog_68_method_4_code 12 = .ok (.getfield 24, 3) := by decide +kernel
theorem d10_15 : decode prog_68_method_4_code 15 = .ok (.aload_n 2, 1) := by decide +kernel
theorem d10_16 : decode prog_68_method_4_code 16 = .ok (.invokevirtual 26, 3) := by decide +kernel
theorem d10_19 : decode prog_68_method_4_code 19 = .ok (.ifCond .eq 7, 3) := by decide +kernel
theorem d10_22 : decode prog_68_method_4_code 22 = .ok (.iconst 1, 1) := by decide +kernel
theorem d10_23 : decode prog_68_method_4_code 23 = .ok (.goto 4, 3) := by decide +kernel
theorem d10_26 : decode prog_68_method_4_code 26 = .ok (.iconst 0, 1) := by decide +kernel
theorem d10_27 : decode prog_68_method_4_code 27 = .ok (.ireturn, 1) := by decide +kernel
theorem pn_10 : plainName "com/example/stanzacall/stanzacall/xml/Element" = true := by first | (simp [plainName, overriddenIn]; done) | decide +kernel
theorem pd__Ljava_lang_Object__Z : parseMethodDescriptor "(Ljava/lang/Object;)Z" = some ⟨[(.object "java/lang/Object")], some .boolean⟩ := by decide +kernel
theorem ef_Is (m : MethodId) (a1 : Addr) (a2 : Addr) (a3 : Addr) : entryFrame m #[(.ref a1), (.ref a2), (.ref a3)] 3 = mkF m 0 #[.val (.ref a1), .val (.ref a2), .val (.ref a3)] [] := by first | (simp [entryFrame, mkF, argsToLocals, Value.category]; done) | rfl
def QIs (Z : State) (a1 : Addr) (a2 : Addr) (a3 : Addr) (sn : Addr) (vn : Addr) (kkn : ClassId) (zn : Int32) (xan : Int32) (xbn : Int32) (xcn : Int32) (sm : Addr) (vm : Addr) (kkm : ClassId) (zm : Int32) (xam : Int32) (xbm : Int32) (xcm : Int32) (vu : Addr) (kku : ClassId) (zu : Int32) (xau : Int32) (xbu : Int32) (xcu : Int32) (vw : Addr) (kkw : ClassId) (zw : Int32) (xaw : Int32) (xbw : Int32) (xcw : Int32) (cw : Int32) (h0 : Heap) (n0 : Nat) (v : Option Value) (h : Heap) (L : List Loc) : Prop := v = some (.int (isF (latF zn zu xan xbn xcn xau xbu xcu) (latF zm zw xam xbm xcm xaw xbw xcw))) ∧ Fr n0 L ∧ h = h0
set_option maxRecDepth 65536 in
set_option maxHeartbeats 40000000 in
theorem rmIs (l : Launch) (Z : State) (a0 : Array Value) (hw : ∀ d ∈ tables_1, d.before a0 Z = true) (ws : List Jvm.Cond) (a1 : Addr) (a2 : Addr) (a3 : Addr) (sn : Addr) (vn : Addr) (kkn : ClassId) (zn : Int32) (xan : Int32) (xbn : Int32) (xcn : Int32) (sm : Addr) (vm : Addr) (kkm : ClassId) (zm : Int32) (xam : Int32) (xbm : Int32) (xcm : Int32) (vu : Addr) (kku : ClassId) (zu : Int32) (xau : Int32) (xbu : Int32) (xcu : Int32) (vw : Addr) (kkw : ClassId) (zw : Int32) (xaw : Int32) (xbw : Int32) (xcw : Int32) (cw : Int32) (h0 : Heap) (n0 : Nat) (Z0 : n0 ≤ h0.size) (pr0 : Exa Z h0 a1 "com/example/stanzacall/stanzacall/xml/Element") (pr1 : Fld Z h0 a1 "com/example/stanzacall/stanzacall/xml/Element" "namespace" "Ljava/lang/String;" (.ref sn)) (pr2 : Fld Z h0 a1 "com/example/stanzacall/stanzacall/xml/Element" "name" "Ljava/lang/String;" (.ref sm)) (pr3 : Exa Z h0 sn "java/lang/String") (pr4 : Fld Z h0 sn "java/lang/String" "coder" "B" (.int (0 : Int32))) (pr5 : Fld Z h0 sn "java/lang/String" "value" "[B" (.ref vn)) (pr6 : Arv Z h0 vn kkn .byte zn [(.int xan), (.int xbn), (.int xcn)] (.int (0 : Int32))) (pr7 : Exa Z h0 sm "java/lang/String") (pr8 : Fld Z h0 sm "java/lang/String" "coder" "B" (.int (0 : Int32))) (pr9 : Fld Z h0 sm "java/lang/String" "value" "[B" (.ref vm)) (pr10 : Arv Z h0 vm kkm .byte zm [(.int xam), (.int xbm), (.int xcm)] (.int (0 : Int32))) (pr11 : Exa Z h0 a2 "java/lang/String") (pr12 : Fld Z h0 a2 "java/lang/String" "coder" "B" (.int (0 : Int32))) (pr13 : Fld Z h0 a2 "java/lang/String" "value" "[B" (.ref vu)) (pr14 : Arv Z h0 vu kku .byte zu [(.int xau), (.int xbu), (.int xcu)] (.int (0 : Int32))) (pr15 : Exa Z h0 a3 "java/lang/String") (pr16 : Fld Z h0 a3 "java/lang/String" "coder" "B" (.int (0 : Int32))) (pr17 : Fld Z h0 a3 "java/lang/String" "value" "[B" (.ref vw)) (pr18 : Arv Z h0 vw kkw .byte zw [(.int xaw), (.int xbw), (.int xcw)] (.int (0 : Int32))) (pr19 : Old Z n0 h0) (pr20 : Sta Z Z.heap "java/lang/String" "COMPACT_STRINGS" "Z" (.int cw)) (hcw : ¬ (cw = (0 : Int32))) (hzn : ¬ ((3 : Int32) < zn)) (hzm : ¬ ((3 : Int32) < zm)) :
    MetFree l (⟨"com/example/stanzacall/stanzacall/xml/Element", "is", "(Ljava/lang/String;Ljava/lang/String;)Z"⟩ : MethodName) (head1 (Jvm.Cond.code (⟨"com/example/stanzacall/stanzacall/xml/Element", "is", "(Ljava/lang/String;Ljava/lang/String;)Z"⟩ : MethodName) prog_68_method_4_code 3 (some .boolean) :: ws) ({ frames := 2, cells := 0, slots := 0, locals := 28 } : Room)) (fun a U => a = #[(.ref a1), (.ref a2), (.ref a3)] ∧ Z.Warmed39 U.vm ∧ U.heap = h0) (fun _ _ _ _ _ => True) (fun _ U o U' => ∃ v L, o = .returned v ∧ QIs Z a1 a2 a3 sn vn kkn zn xan xbn xcn sm vm kkm zm xam xbm xcm vu kku zu xau xbu xcu vw kkw zw xaw xbw xcw cw h0 n0 v U'.heap L ∧ FrameEnd U o U' L ({ frames := 2, cells := 0, slots := 0, locals := 28 } : Room).cells ({ frames := 2, cells := 0, slots := 0, locals := 28 } : Room).slots) := by
  refine MetFree.of_bodySF (plainFor_of_name pn_10) hisR ?_
  intro p e s m args below meth c s₁ Bd hml0 hP hK
  obtain ⟨rfl, hZ, hh⟩ := hP
  have hx := Bd.exec
  have hby := Bd.bytes
  have hml : c.maxLocals = 3 := hml0
  have hown : s.vm.findClass "com/example/stanzacall/stanzacall/xml/Element" = some m.cls := findClass_of_methodNamed Bd.named
  have hnm := (name_of_methodNamed Bd.named Bd.method).1
  have X0 : Stand p l e ({ frames := 2, cells := 0, slots := 0, locals := 28 } : Room) s m #[(.ref a1), (.ref a2), (.ref a3)] below meth c s₁ [] 0 0 := Stand.of_body Bd
  have hs0 : h0 = s.heap := hh.symm
  have e0 : s₁.heap = h0 := by rw [← hh, Bd.state]; rfl
  have N0 := Fr.nil n0
  obtain ⟨f0, hf0⟩ : ∃ f, f = entryFrame m #[(.ref a1), (.ref a2), (.ref a3)] 3 := ⟨_, rfl⟩
  have pre0 : ∀ t, Steps p.tables e below (s₁.setTop f0) t → Steps p.tables e below (s₁.setTop (entryFrame m #[(.ref a1), (.ref a2), (.ref a3)] 3)) t := fun t k => hf0 ▸ k
  have K0 : Gx p e below s₁ f0 s₁ (mkF m 0 #[.val (.ref a1), .val (.ref a2), .val (.ref a3)] []) := fun t kt => by rw [hf0]; exact castTop (ef_Is m a1 a2 a3) kt
  have K1 : Gx p e below s₁ f0 s₁ (mkF m 1 #[.val (.ref a1), .val (.ref a2), .val (.ref a3)] [(.ref a1)]) := fun t kt => K0 t (by
    show Steps p.tables e below (s₁.setTop (mkF m 0 #[.val (.ref a1), .val (.ref a2), .val (.ref a3)] [])) _
    refine XS.aloadN X0.here hx rfl (hb hby d10_0) rfl rfl ?_
    exact kt)
  obtain ⟨T2, X2, e2, st2⟩ := getF X0 hx hZ hown (host := "") (Or.inl (hw _ (List.mem_of_getElem? (i := 50) rfl))) Via.refl e0 pr1 (g := (mkF m 1 #[.val (.ref a1), .val (.ref a2), .val (.ref a3)] [(.ref a1)])) rfl rfl (hb hby d10_1)
  have K3 : Gx p e below s₁ f0 T2 (mkF m 4 #[.val (.ref a1), .val (.ref a2), .val (.ref a3)] [(.ref sn)]) := fun t kt => K1 t (st2 t kt)
  have K4 : Gx p e below s₁ f0 T2 (mkF m 5 #[.val (.ref a1), .val (.ref a2), .val (.ref a3)] [(.ref a2), (.ref sn)]) := fun t kt => K3 t (by
    show Steps p.tables e below (T2.setTop (mkF m 4 #[.val (.ref a1), .val (.ref a2), .val (.ref a3)] [(.ref sn)])) _
    refine XS.aloadN X2.here hx rfl (hb hby d10_4) rfl rfl ?_
    exact kt)
  obtain ⟨cq5, kq5, q5a, q5b, q5c⟩ := isOf hZ e2 pr3
  obtain ⟨_, _, ⟨T5, L5, k5, n5⟩, -, X5', ⟨Lc5, hQ5, l5, y5, z5⟩, st5⟩ := X2.virtualBack hx (y := (⟨"java/lang/String", "equals", "(Ljava/lang/Object;)Z"⟩ : MethodName)) (z := (⟨"java/lang/String", "equals", "(Ljava/lang/Object;)Z"⟩ : MethodName)) hown (mvT hZ (hw _ (List.mem_of_getElem? (i := 60) rfl))) (mvT hZ (hw _ (List.mem_of_getElem? (i := 61) rfl))) (notFace_of_selects (args := #[]) (mvT hZ (hw _ (List.mem_of_getElem? (i := 63) rfl)))) (mvT hZ (hw _ (List.mem_of_getElem? (i := 63) rfl))) (mvT hZ (hw _ (List.mem_of_getElem? (i := 62) rfl))) (by decide) (backOf (W := 0) (rmSeq l Z a0 hw [] sn a2 vn vu kkn kku zn zu xan xbn xcn xau xbu xcu cw h0 n0 (Nat.le_trans Z0 (Keep.refl h0 []).1) pr4 pr5 pr6 pr11 pr12 pr13 pr14 pr19 pr20 hcw hzn) hZ (hw _ (List.mem_of_getElem? (i := 64) rfl)) (hw _ (List.mem_of_getElem? (i := 9) rfl)) (by decide) (by decide)) q5a q5c (g := (mkF m 5 #[.val (.ref a1), .val (.ref a2), .val (.ref a3)] [(.ref a2), (.ref sn)])) rfl (by rw [hml]; rfl) (Steps.refl _) (argsL := [(.ref a2)]) (rest := []) (lenOf pd__Ljava_lang_Object__Z rfl) rfl (by show 2 * 0 + _ ≤ _; exact Nat.le_of_eq rfl) (hb hby d10_5) (fun _ _ => ⟨rfl, e2, (by decide : 0 + 0 ≤ _), (by decide : 0 + 0 ≤ _)⟩)
  dsimp only [Pt.U, Pt.locs, Pt.cells, Pt.slots] at X5' l5 y5 z5 st5 hQ5
  subst l5 y5 z5
  obtain ⟨rfl, N5q, e5⟩ := hQ5
  obtain ⟨lc5, X5, N5⟩ : ∃ lc, Stand p l e ({ frames := 2, cells := 0, slots := 0, locals := 28 } : Room) s m #[(.ref a1), (.ref a2), (.ref a3)] below meth c T5 lc 0 0 ∧ Fr n0 lc := ⟨_, X5', Fr.app N0 N5q⟩
  have K6 : Gx p e below s₁ f0 T5 (mkF m 8 #[.val (.ref a1), .val (.ref a2), .val (.ref a3)] [(.int (latF zn zu xan xbn xcn xau xbu xcu))]) := fun t kt => K4 t (st5.trans kt)
  by_cases hb7 : (latF zn zu xan xbn xcn xau xbu xcu) = (0 : Int32)
  · skip
    have K8 : Gx p e below s₁ f0 T5 (mkF m 27 #[.val (.ref a1), .val (.ref a2), .val (.ref a3)] [(.int (0 : Int32))]) := fun t kt => K6 t (by
      show Steps p.tables e below (T5.setTop (mkF m 8 #[.val (.ref a1), .val (.ref a2), .val (.ref a3)] [(.int (latF zn zu xan xbn xcn xau xbu xcu))])) _
      refine XS.ifYes X5.here hx rfl (pc0 := 8) (pc' := 26) rfl (hb hby d10_8) rfl ((if0 _ _).trans (teq hb7).1) (by decide) (by decide) ?_
      show Steps p.tables e below (T5.setTop (mkF m 26 #[.val (.ref a1), .val (.ref a2), .val (.ref a3)] [])) _
      refine XS.iconst X5.here hx rfl (hb hby d10_26) ?_
      exact kt)
    obtain ⟨fs9, hr9, hrun9, hended9, hW9, hsame9⟩ := X5.leave (v := some (.int (0 : Int32))) (fun h => by rw [Bd.returns] at h; cases h)
    refine ⟨_, _, pre0 _ (K8 _ ?_), hrun9, hended9, _, _, rfl, ?_, ⟨_, rfl⟩, hW9, hsame9.mono (by decide) (by decide)⟩
    · exact retN X5 hx (t := .boolean) Bd.returns (by simp) (hb hby d10_27) hr9
    · show QIs Z a1 a2 a3 sn vn kkn zn xan xbn xcn sm vm kkm zm xam xbm xcm vu kku zu xau xbu xcu vw kkw zw xaw xbw xcw cw h0 n0 _ T5.heap _
      rw [e5]
      exact ⟨(congrArg some (congrArg Value.int (by first | (simp only [isF, if_neg hcw, if_neg hzn, if_neg hzm, if_pos hb7]; done) | rfl))), N5, rfl⟩
  · skip
    have K10 : Gx p e below s₁ f0 T5 (mkF m 12 #[.val (.ref a1), .val (.ref a2), .val (.ref a3)] [(.ref a1)]) := fun t kt => K6 t (by
      show Steps p.tables e below (T5.setTop (mkF m 8 #[.val (.ref a1), .val (.ref a2), .val (.ref a3)] [(.int (latF zn zu xan xbn xcn xau xbu xcu))])) _
      refine XS.ifNo X5.here hx rfl (hb hby d10_8) rfl ((if0 _ _).trans (feq hb7).1) ?_
      show Steps p.tables e below (T5.setTop (mkF m 11 #[.val (.ref a1), .val (.ref a2), .val (.ref a3)] [])) _
      refine XS.aloadN X5.here hx rfl (hb hby d10_11) rfl rfl ?_
      exact kt)
    obtain ⟨T11, X11, e11, st11⟩ := getF X5 hx hZ hown (host := "") (Or.inl (hw _ (List.mem_of_getElem? (i := 53) rfl))) Via.refl e5 pr2 (g := (mkF m 12 #[.val (.ref a1), .val (.ref a2), .val (.ref a3)] [(.ref a1)])) rfl rfl (hb hby d10_12)
    have K12 : Gx p e below s₁ f0 T11 (mkF m 15 #[.val (.ref a1), .val (.ref a2), .val (.ref a3)] [(.ref sm)]) := fun t kt => K10 t (st11 t kt)
    have K13 : Gx p e below s₁ f0 T11 (mkF m 16 #[.val (.ref a1), .val (.ref a2), .val (.ref a3)] [(.ref a3), (.ref sm)]) := fun t kt => K12 t (by
      show Steps p.tables e below (T11.setTop (mkF m 15 #[.val (.ref a1), .val (.ref a2), .val (.ref a3)] [(.ref sm)])) _
      refine XS.aloadN X11.here hx rfl (hb hby d10_15) rfl rfl ?_
      exact kt)
    obtain ⟨cq14, kq14, q14a, q14b, q14c⟩ := isOf hZ e11 pr7
    obtain ⟨_, _, ⟨T14, L14, k14, n14⟩, -, X14', ⟨Lc14, hQ14, l14, y14, z14⟩, st14⟩ := X11.virtualBack hx (y := (⟨"java/lang/String", "equals", "(Ljava/lang/Object;)Z"⟩ : MethodName)) (z := (⟨"java/lang/String", "equals", "(Ljava/lang/Object;)Z"⟩ : MethodName)) hown (mvT hZ (hw _ (List.mem_of_getElem? (i := 60) rfl))) (mvT hZ (hw _ (List.mem_of_getElem? (i := 61) rfl))) (notFace_of_selects (args := #[]) (mvT hZ (hw _ (List.mem_of_getElem? (i := 63) rfl)))) (mvT hZ (hw _ (List.mem_of_getElem? (i := 63) rfl))) (mvT hZ (hw _ (List.mem_of_getElem? (i := 62) rfl))) (by decide) (backOf (W := 0) (rmSeq l Z a0 hw [] sm a3 vm vw kkm kkw zm zw xam xbm xcm xaw xbw xcw cw h0 n0 (Nat.le_trans Z0 (Keep.refl h0 []).1) pr8 pr9 pr10 pr15 pr16 pr17 pr18 pr19 pr20 hcw hzm) hZ (hw _ (List.mem_of_getElem? (i := 64) rfl)) (hw _ (List.mem_of_getElem? (i := 9) rfl)) (by decide) (by decide)) q14a q14c (g := (mkF m 16 #[.val (.ref a1), .val (.ref a2), .val (.ref a3)] [(.ref a3), (.ref sm)])) rfl (by rw [hml]; rfl) (Steps.refl _) (argsL := [(.ref a3)]) (rest := []) (lenOf pd__Ljava_lang_Object__Z rfl) rfl (by show 2 * 0 + _ ≤ _; exact Nat.le_of_eq rfl) (hb hby d10_16) (fun _ _ => ⟨rfl, e11, (by decide : 0 + 0 ≤ _), (by decide : 0 + 0 ≤ _)⟩)
    dsimp only [Pt.U, Pt.locs, Pt.cells, Pt.slots] at X14' l14 y14 z14 st14 hQ14
    subst l14 y14 z14
    obtain ⟨rfl, N14q, e14⟩ := hQ14
    obtain ⟨lc14, X14, N14⟩ : ∃ lc, Stand p l e ({ frames := 2, cells := 0, slots := 0, locals := 28 } : Room) s m #[(.ref a1), (.ref a2), (.ref a3)] below meth c T14 lc 0 0 ∧ Fr n0 lc := ⟨_, X14', Fr.app N5 N14q⟩
    have K15 : Gx p e below s₁ f0 T14 (mkF m 19 #[.val (.ref a1), .val (.ref a2), .val (.ref a3)] [(.int (latF zm zw xam xbm xcm xaw xbw xcw))]) := fun t kt => K13 t (st14.trans kt)
    by_cases hb16 : (latF zm zw xam xbm xcm xaw xbw xcw) = (0 : Int32)
    · skip
      have K17 : Gx p e below s₁ f0 T14 (mkF m 27 #[.val (.ref a1), .val (.ref a2), .val (.ref a3)] [(.int (0 : Int32))]) := fun t kt => K15 t (by
        show Steps p.tables e below (T14.setTop (mkF m 19 #[.val (.ref a1), .val (.ref a2), .val (.ref a3)] [(.int (latF zm zw xam xbm xcm xaw xbw xcw))])) _
        refine XS.ifYes X14.here hx rfl (pc0 := 19) (pc' := 26) rfl (hb hby d10_19) rfl ((if0 _ _).trans (teq hb16).1) (by decide) (by decide) ?_
        show Steps p.tables e below (T14.setTop (mkF m 26 #[.val (.ref a1), .val (.ref a2), .val (.ref a3)] [])) _
        refine XS.iconst X14.here hx rfl (hb hby d10_26) ?_
        exact kt)
      obtain ⟨fs18, hr18, hrun18, hended18, hW18, hsame18⟩ := X14.leave (v := some (.int (0 : Int32))) (fun h => by rw [Bd.returns] at h; cases h)
      refine ⟨_, _, pre0 _ (K17 _ ?_), hrun18, hended18, _, _, rfl, ?_, ⟨_, rfl⟩, hW18, hsame18.mono (by decide) (by decide)⟩
      · exact retN X14 hx (t := .boolean) Bd.returns (by simp) (hb hby d10_27) hr18
      · show QIs Z a1 a2 a3 sn vn kkn zn xan xbn xcn sm vm kkm zm xam xbm xcm vu kku zu xau xbu xcu vw kkw zw xaw xbw xcw cw h0 n0 _ T14.heap _
        rw [e14]
        exact ⟨(congrArg some (congrArg Value.int (by first | (simp only [isF, if_neg hcw, if_neg hzn, if_neg hzm, if_neg hb7, if_pos hb16]; done) | rfl))), N14, rfl⟩
    · skip
      have K19 : Gx p e below s₁ f0 T14 (mkF m 27 #[.val (.ref a1), .val (.ref a2), .val (.ref a3)] [(.int (1 : Int32))]) := fun t kt => K15 t (by
        show Steps p.tables e below (T14.setTop (mkF m 19 #[.val (.ref a1), .val (.ref a2), .val (.ref a3)] [(.int (latF zm zw xam xbm xcm xaw xbw xcw))])) _
        refine XS.ifNo X14.here hx rfl (hb hby d10_19) rfl ((if0 _ _).trans (feq hb16).1) ?_
        show Steps p.tables e below (T14.setTop (mkF m 22 #[.val (.ref a1), .val (.ref a2), .val (.ref a3)] [])) _
        refine XS.iconst X14.here hx rfl (hb hby d10_22) ?_
        show Steps p.tables e below (T14.setTop (mkF m 23 #[.val (.ref a1), .val (.ref a2), .val (.ref a3)] [(.int (1 : Int32))])) _
        refine XS.goto X14.here hx rfl (pc0 := 23) (pc' := 27) rfl (hb hby d10_23) (by decide) (by decide) ?_
        exact kt)
      obtain ⟨fs20, hr20, hrun20, hended20, hW20, hsame20⟩ := X14.leave (v := some (.int (1 : Int32))) (fun h => by rw [Bd.returns] at h; cases h)
      refine ⟨_, _, pre0 _ (K19 _ ?_), hrun20, hended20, _, _, rfl, ?_, ⟨_, rfl⟩, hW20, hsame20.mono (by decide) (by decide)⟩
      · exact retN X14 hx (t := .boolean) Bd.returns (by simp) (hb hby d10_27) hr20
      · show QIs Z a1 a2 a3 sn vn kkn zn xan xbn xcn sm vm kkm zm xam xbm xcm vu kku zu xau xbu xcu vw kkw zw xaw xbw xcw cw h0 n0 _ T14.heap _
        rw [e14]
        exact ⟨(congrArg some (congrArg Value.int (by first | (simp only [isF, if_neg hcw, if_neg hzn, if_neg hzm, if_neg hb7, if_neg hb16]; done) | rfl))), N14, rfl⟩
theorem d13_0 : decode method_3_code 0 = .ok (.iload_n 0, 1) := by decide +kernel
theorem d13_1 : decode method_3_code 1 = .ok (.iconst 3, 1) := by decide +kernel
theorem d13_2 : decode method_3_code 2 = .ok (.iand, 1) := by decide +kernel
theorem d13_3 : decode method_3_code 3 = .ok (.istore_n 2, 1) := by decide +kernel
theorem d13_4 : decode method_3_code 4 = .ok (.iload_n 1, 1) := by decide +kernel
theorem d13_5 : decode method_3_code 5 = .ok (.iconst 3, 1) := by decide +kernel
theorem d13_6 : decode method_3_code 6 = .ok (.iand, 1) := by decide +kernel
theorem d13_7 : decode method_3_code 7 = .ok (.istore_n 3, 1) := by decide +kernel
theorem d13_8 : decode method_3_code 8 = .ok (.iload_n 2, 1) := by decide +kernel
theorem d13_9 : decode method_3_code 9 = .ok (.iload_n 3, 1) := by decide +kernel
theorem d13_10 : decode method_3_code 10 = .ok (.if_icmp .eq 5, 3) := by decide +kernel
theorem d13_13 : decode method_3_code 13 = .ok (.iconst 0, 1) := by decide +kernel
theorem d13_14 : decode method_3_code 14 = .ok (.ireturn, 1) := by decide +kernel
theorem d13_15 : decode method_3_code 15 = .ok (.iload_n 2, 1) := by decide +kernel
theorem d13_16 : decode method_3_code 16 = .ok (.ifCond .ne 9, 3) := by decide +kernel
theorem d13_19 : decode method_3_code 19 = .ok (.iconst 0, 1) := by decide +kernel
theorem d13_20 : decode method_3_code 20 = .ok (.istore 4, 2) := by decide +kernel
theorem d13_22 : decode method_3_code 22 = .ok (.goto 32, 3) := by decide +kernel
theorem d13_25 : decode method_3_code 25 = .ok (.iload_n 2, 1) := by decide +kernel
theorem d13_26 : decode method_3_code 26 = .ok (.iconst 1, 1) := by decide +kernel
theorem d13_27 : decode method_3_code 27 = .ok (.if_icmp .ne 11, 3) := by decide +kernel
theorem d13_30 : decode method_3_code 30 = .ok (.sipush 255, 3) := by decide +kernel
theorem d13_33 : decode method_3_code 33 = .ok (.istore 4, 2) := by decide +kernel
theorem d13_35 : decode method_3_code 35 = .ok (.goto 19, 3) := by decide +kernel
theorem d13_38 : decode method_3_code 38 = .ok (.iload_n 2, 1) := by decide +kernel
theorem d13_39 : decode method_3_code 39 = .ok (.iconst 2, 1) := by decide +kernel
theorem d13_40 : decode method_3_code 40 = .ok (.if_icmp .ne 10, 3) := by decide +kernel
theorem d13_43 : decode method_3_code 43 = .ok (.ldc 12, 2) := by decide +kernel
theorem d13_45 : decode method_3_code 45 = .ok (.istore 4, 2) := by decide +kernel
theorem d13_47 : decode method_3_code 47 = .ok (.goto 7, 3) := by decide +kernel
theorem d13_50 : decode method_3_code 50 = .ok (.ldc 13, 2) := by decide +kernel
theorem d13_52 : decode method_3_code 52 = .ok (.istore 4, 2) := by decide +kernel
theorem d13_54 : decode method_3_code 54 = .ok (.iload_n 0, 1) := by decide +kernel
theorem d13_55 : decode method_3_code 55 = .ok (.iload_n 1, 1) := by decide +kernel
theorem d13_56 : decode method_3_code 56 = .ok (.ixor, 1) := by decide +kernel
theorem d13_57 : decode method_3_code 57 = .ok (.iconst 2, 1) := by decide +kernel
theorem d13_58 : decode method_3_code 58 = .ok (.iushr, 1) := by decide +kernel
theorem d13_59 : decode method_3_code 59 = .ok (.iload 4, 2) := by decide +kernel
theorem d13_61 : decode method_3_code 61 = .ok (.iand, 1) := by decide +kernel
theorem d13_62 : decode method_3_code 62 = .ok (.ifCond .ne 7, 3) := by decide +kernel
theorem d13_65 : decode method_3_code 65 = .ok (.iconst 1, 1) := by decide +kernel
theorem d13_66 : decode method_3_code 66 = .ok (.goto 4, 3) := by decide +kernel
theorem d13_69 : decode method_3_code 69 = .ok (.iconst 0, 1) := by decide +kernel
theorem d13_70 : decode method_3_code 70 = .ok (.ireturn, 1) := by decide +kernel
theorem pn_13 : plainName "com/example/stanzacall/stanzacall/xml/ElementIsPinLaw" = true := by first | (simp [plainName, overriddenIn]; done) | decide +kernel
theorem ef_St (m : MethodId) (p1 : Int32) (p2 : Int32) : entryFrame m #[(.int p1), (.int p2)] 5 = mkF m 0 #[.val (.int p1), .val (.int p2), .unset, .unset, .unset] [] := by first | (simp [entryFrame, mkF, argsToLocals, Value.category]; done) | rfl
def QSt (Z : State) (p1 : Int32) (p2 : Int32) (h0 : Heap) (n0 : Nat) (v : Option Value) (h : Heap) (L : List Loc) : Prop := v = some (.int (stF p1 p2)) ∧ Fr n0 L ∧ h = h0
set_option maxRecDepth 65536 in
set_option maxHeartbeats 40000000 in
theorem rmSt (l : Launch) (Z : State) (a0 : Array Value) (hw : ∀ d ∈ tables_1, d.before a0 Z = true) (ws : List Jvm.Cond) (p1 : Int32) (p2 : Int32) (h0 : Heap) (n0 : Nat) (Z0 : n0 ≤ h0.size) :
    MetFree l (⟨"com/example/stanzacall/stanzacall/xml/ElementIsPinLaw", "sameText", "(II)Z"⟩ : MethodName) (head1 (Jvm.Cond.code (⟨"com/example/stanzacall/stanzacall/xml/ElementIsPinLaw", "sameText", "(II)Z"⟩ : MethodName) method_3_code 5 (some .boolean) :: ws) ({ frames := 0, cells := 0, slots := 0, locals := 0 } : Room)) (fun a U => a = #[(.int p1), (.int p2)] ∧ Z.Warmed39 U.vm ∧ U.heap = h0) (fun _ _ _ _ _ => True) (fun _ U o U' => ∃ v L, o = .returned v ∧ QSt Z p1 p2 h0 n0 v U'.heap L ∧ FrameEnd U o U' L ({ frames := 0, cells := 0, slots := 0, locals := 0 } : Room).cells ({ frames := 0, cells := 0, slots := 0, locals := 0 } : Room).slots) := by
  refine MetFree.of_bodySF (plainFor_of_name pn_13) hisR ?_
  intro p e s m args below meth c s₁ Bd hml0 hP hK
  obtain ⟨rfl, hZ, hh⟩ := hP
  have hx := Bd.exec
  have hby := Bd.bytes
  have hml : c.maxLocals = 5 := hml0
  have hown : s.vm.findClass "com/example/stanzacall/stanzacall/xml/ElementIsPinLaw" = some m.cls := findClass_of_methodNamed Bd.named
  have hnm := (name_of_methodNamed Bd.named Bd.method).1
  have X0 : Stand p l e ({ frames := 0, cells := 0, slots := 0, locals := 0 } : Room) s m #[(.int p1), (.int p2)] below meth c s₁ [] 0 0 := Stand.of_body Bd
  have hs0 : h0 = s.heap := hh.symm
  have e0 : s₁.heap = h0 := by rw [← hh, Bd.state]; rfl
  have N0 := Fr.nil n0
  obtain ⟨f0, hf0⟩ : ∃ f, f = entryFrame m #[(.int p1), (.int p2)] 5 := ⟨_, rfl⟩
  have pre0 : ∀ t, Steps p.tables e below (s₁.setTop f0) t → Steps p.tables e below (s₁.setTop (entryFrame m #[(.int p1), (.int p2)] 5)) t := fun t k => hf0 ▸ k
  have K0 : Gx p e below s₁ f0 s₁ (mkF m 0 #[.val (.int p1), .val (.int p2), .unset, .unset, .unset] []) := fun t kt => by rw [hf0]; exact castTop (ef_St m p1 p2) kt
  have K1 : Gx p e below s₁ f0 s₁ (mkF m 10 #[.val (.int p1), .val (.int p2), .val (.int (p1 &&& (3 : Int32))), .val (.int (p2 &&& (3 : Int32))), .unset] [(.int (p2 &&& (3 : Int32))), (.int (p1 &&& (3 : Int32)))]) := fun t kt => K0 t (by
    show Steps p.tables e below (s₁.setTop (mkF m 0 #[.val (.int p1), .val (.int p2), .unset, .unset, .unset] [])) _
    refine XS.iloadN X0.here hx rfl (hb hby d13_0) rfl ?_
    show Steps p.tables e below (s₁.setTop (mkF m 1 #[.val (.int p1), .val (.int p2), .unset, .unset, .unset] [(.int p1)])) _
    refine XS.iconst X0.here hx rfl (hb hby d13_1) ?_
    show Steps p.tables e below (s₁.setTop (mkF m 2 #[.val (.int p1), .val (.int p2), .unset, .unset, .unset] [(.int (3 : Int32)), (.int p1)])) _
    refine XS.iand X0.here hx rfl (hb hby d13_2) rfl ?_
    show Steps p.tables e below (s₁.setTop (mkF m 3 #[.val (.int p1), .val (.int p2), .unset, .unset, .unset] [(.int (p1 &&& (3 : Int32)))])) _
    refine XS.istoreN X0.here hx rfl (hb hby d13_3) rfl (l' := #[.val (.int p1), .val (.int p2), .val (.int (p1 &&& (3 : Int32))), .unset, .unset]) rfl ?_
    show Steps p.tables e below (s₁.setTop (mkF m 4 #[.val (.int p1), .val (.int p2), .val (.int (p1 &&& (3 : Int32))), .unset, .unset] [])) _
    refine XS.iloadN X0.here hx rfl (hb hby d13_4) rfl ?_
    show Steps p.tables e below (s₁.setTop (mkF m 5 #[.val (.int p1), .val (.int p2), .val (.int (p1 &&& (3 : Int32))), .unset, .unset] [(.int p2)])) _
    refine XS.iconst X0.here hx rfl (hb hby d13_5) ?_
    show Steps p.tables e below (s₁.setTop (mkF m 6 #[.val (.int p1), .val (.int p2), .val (.int (p1 &&& (3 : Int32))), .unset, .unset] [(.int (3 : Int32)), (.int p2)])) _
    refine XS.iand X0.here hx rfl (hb hby d13_6) rfl ?_
    show Steps p.tables e below (s₁.setTop (mkF m 7 #[.val (.int p1), .val (.int p2), .val (.int (p1 &&& (3 : Int32))), .unset, .unset] [(.int (p2 &&& (3 : Int32)))])) _
    refine XS.istoreN X0.here hx rfl (hb hby d13_7) rfl (l' := #[.val (.int p1), .val (.int p2), .val (.int (p1 &&& (3 : Int32))), .val (.int (p2 &&& (3 : Int32))), .unset]) rfl ?_
    show Steps p.tables e below (s₁.setTop (mkF m 8 #[.val (.int p1), .val (.int p2), .val (.int (p1 &&& (3 : Int32))), .val (.int (p2 &&& (3 : Int32))), .unset] [])) _
    refine XS.iloadN X0.here hx rfl (hb hby d13_8) rfl ?_
    show Steps p.tables e below (s₁.setTop (mkF m 9 #[.val (.int p1), .val (.int p2), .val (.int (p1 &&& (3 : Int32))), .val (.int (p2 &&& (3 : Int32))), .unset] [(.int (p1 &&& (3 : Int32)))])) _
    refine XS.iloadN X0.here hx rfl (hb hby d13_9) rfl ?_
    exact kt)
  by_cases hb2 : (p1 &&& (3 : Int32)) = (p2 &&& (3 : Int32))
  · skip
    have K7 : Gx p e below s₁ f0 s₁ (mkF m 16 #[.val (.int p1), .val (.int p2), .val (.int (p1 &&& (3 : Int32))), .val (.int (p2 &&& (3 : Int32))), .unset] [(.int (p1 &&& (3 : Int32)))]) := fun t kt => K1 t (by
      show Steps p.tables e below (s₁.setTop (mkF m 10 #[.val (.int p1), .val (.int p2), .val (.int (p1 &&& (3 : Int32))), .val (.int (p2 &&& (3 : Int32))), .unset] [(.int (p2 &&& (3 : Int32))), (.int (p1 &&& (3 : Int32)))])) _
      refine XS.icmpYes X0.here hx rfl (pc0 := 10) (pc' := 15) rfl (hb hby d13_10) rfl (teq hb2).1 (by decide) (by decide) ?_
      show Steps p.tables e below (s₁.setTop (mkF m 15 #[.val (.int p1), .val (.int p2), .val (.int (p1 &&& (3 : Int32))), .val (.int (p2 &&& (3 : Int32))), .unset] [])) _
      refine XS.iloadN X0.here hx rfl (hb hby d13_15) rfl ?_
      exact kt)
    obtain ⟨v6, hv6⟩ : ∃ z : Int32, z = (if (p1 &&& (3 : Int32)) = (0 : Int32) then (0 : Int32) else (if (p1 &&& (3 : Int32)) = (1 : Int32) then (255 : Int32) else (if (p1 &&& (3 : Int32)) = (2 : Int32) then (65535 : Int32) else (16777215 : Int32)))) := ⟨_, rfl⟩
    have K8 : Gx p e below s₁ f0 s₁ (mkF m 54 #[.val (.int p1), .val (.int p2), .val (.int (p1 &&& (3 : Int32))), .val (.int (p2 &&& (3 : Int32))), .val (.int v6)] []) := fun t kt => K7 t (by
      by_cases hc16_2 : (p1 &&& (3 : Int32)) = (0 : Int32)
      · skip
        show Steps p.tables e below (s₁.setTop (mkF m 16 #[.val (.int p1), .val (.int p2), .val (.int (p1 &&& (3 : Int32))), .val (.int (p2 &&& (3 : Int32))), .unset] [(.int (p1 &&& (3 : Int32)))])) _
        refine XS.ifNo X0.here hx rfl (hb hby d13_16) rfl ((if0 _ _).trans (teq hc16_2).2) ?_
        show Steps p.tables e below (s₁.setTop (mkF m 19 #[.val (.int p1), .val (.int p2), .val (.int (p1 &&& (3 : Int32))), .val (.int (p2 &&& (3 : Int32))), .unset] [])) _
        refine XS.iconst X0.here hx rfl (hb hby d13_19) ?_
        show Steps p.tables e below (s₁.setTop (mkF m 20 #[.val (.int p1), .val (.int p2), .val (.int (p1 &&& (3 : Int32))), .val (.int (p2 &&& (3 : Int32))), .unset] [(.int (0 : Int32))])) _
        refine XS.istore X0.here hx rfl (hb hby d13_20) rfl (l' := #[.val (.int p1), .val (.int p2), .val (.int (p1 &&& (3 : Int32))), .val (.int (p2 &&& (3 : Int32))), .val (.int (0 : Int32))]) rfl ?_
        show Steps p.tables e below (s₁.setTop (mkF m 22 #[.val (.int p1), .val (.int p2), .val (.int (p1 &&& (3 : Int32))), .val (.int (p2 &&& (3 : Int32))), .val (.int (0 : Int32))] [])) _
        refine XS.goto X0.here hx rfl (pc0 := 22) (pc' := 54) rfl (hb hby d13_22) (by decide) (by decide) ?_
        show Steps p.tables e below (s₁.setTop (mkF m 54 #[.val (.int p1), .val (.int p2), .val (.int (p1 &&& (3 : Int32))), .val (.int (p2 &&& (3 : Int32))), .val (.int (0 : Int32))] [])) _
        exact castTop (by simp only [hv6, if_pos hc16_2]) kt
      · skip
        show Steps p.tables e below (s₁.setTop (mkF m 16 #[.val (.int p1), .val (.int p2), .val (.int (p1 &&& (3 : Int32))), .val (.int (p2 &&& (3 : Int32))), .unset] [(.int (p1 &&& (3 : Int32)))])) _
        refine XS.ifYes X0.here hx rfl (pc0 := 16) (pc' := 25) rfl (hb hby d13_16) rfl ((if0 _ _).trans (feq hc16_2).2) (by decide) (by decide) ?_
        show Steps p.tables e below (s₁.setTop (mkF m 25 #[.val (.int p1), .val (.int p2), .val (.int (p1 &&& (3 : Int32))), .val (.int (p2 &&& (3 : Int32))), .unset] [])) _
        refine XS.iloadN X0.here hx rfl (hb hby d13_25) rfl ?_
        show Steps p.tables e below (s₁.setTop (mkF m 26 #[.val (.int p1), .val (.int p2), .val (.int (p1 &&& (3 : Int32))), .val (.int (p2 &&& (3 : Int32))), .unset] [(.int (p1 &&& (3 : Int32)))])) _
        refine XS.iconst X0.here hx rfl (hb hby d13_26) ?_
        by_cases hc27_3 : (p1 &&& (3 : Int32)) = (1 : Int32)
        · skip
          show Steps p.tables e below (s₁.setTop (mkF m 27 #[.val (.int p1), .val (.int p2), .val (.int (p1 &&& (3 : Int32))), .val (.int (p2 &&& (3 : Int32))), .unset] [(.int (1 : Int32)), (.int (p1 &&& (3 : Int32)))])) _
          refine XS.icmpNo X0.here hx rfl (hb hby d13_27) rfl (teq hc27_3).2 ?_
          show Steps p.tables e below (s₁.setTop (mkF m 30 #[.val (.int p1), .val (.int p2), .val (.int (p1 &&& (3 : Int32))), .val (.int (p2 &&& (3 : Int32))), .unset] [])) _
          refine XS.sipush X0.here hx rfl (hb hby d13_30) ?_
          show Steps p.tables e below (s₁.setTop (mkF m 33 #[.val (.int p1), .val (.int p2), .val (.int (p1 &&& (3 : Int32))), .val (.int (p2 &&& (3 : Int32))), .unset] [(.int (255 : Int32))])) _
          refine XS.istore X0.here hx rfl (hb hby d13_33) rfl (l' := #[.val (.int p1), .val (.int p2), .val (.int (p1 &&& (3 : Int32))), .val (.int (p2 &&& (3 : Int32))), .val (.int (255 : Int32))]) rfl ?_
          show Steps p.tables e below (s₁.setTop (mkF m 35 #[.val (.int p1), .val (.int p2), .val (.int (p1 &&& (3 : Int32))), .val (.int (p2 &&& (3 : Int32))), .val (.int (255 : Int32))] [])) _
          refine XS.goto X0.here hx rfl (pc0 := 35) (pc' := 54) rfl (hb hby d13_35) (by decide) (by decide) ?_
          show Steps p.tables e below (s₁.setTop (mkF m 54 #[.val (.int p1), .val (.int p2), .val (.int (p1 &&& (3 : Int32))), .val (.int (p2 &&& (3 : Int32))), .val (.int (255 : Int32))] [])) _
          exact castTop (by simp only [hv6, if_neg hc16_2, if_pos hc27_3]) kt
        · skip
          show Steps p.tables e below (s₁.setTop (mkF m 27 #[.val (.int p1), .val (.int p2), .val (.int (p1 &&& (3 : Int32))), .val (.int (p2 &&& (3 : Int32))), .unset] [(.int (1 : Int32)), (.int (p1 &&& (3 : Int32)))])) _
          refine XS.icmpYes X0.here hx rfl (pc0 := 27) (pc' := 38) rfl (hb hby d13_27) rfl (feq hc27_3).2 (by decide) (by decide) ?_
          show Steps p.tables e below (s₁.setTop (mkF m 38 #[.val (.int p1), .val (.int p2), .val (.int (p1 &&& (3 : Int32))), .val (.int (p2 &&& (3 : Int32))), .unset] [])) _
          refine XS.iloadN X0.here hx rfl (hb hby d13_38) rfl ?_
          show Steps p.tables e below (s₁.setTop (mkF m 39 #[.val (.int p1), .val (.int p2), .val (.int (p1 &&& (3 : Int32))), .val (.int (p2 &&& (3 : Int32))), .unset] [(.int (p1 &&& (3 : Int32)))])) _
          refine XS.iconst X0.here hx rfl (hb hby d13_39) ?_
          by_cases hc40_4 : (p1 &&& (3 : Int32)) = (2 : Int32)
          · skip
            show Steps p.tables e below (s₁.setTop (mkF m 40 #[.val (.int p1), .val (.int p2), .val (.int (p1 &&& (3 : Int32))), .val (.int (p2 &&& (3 : Int32))), .unset] [(.int (2 : Int32)), (.int (p1 &&& (3 : Int32)))])) _
            refine XS.icmpNo X0.here hx rfl (hb hby d13_40) rfl (teq hc40_4).2 ?_
            show Steps p.tables e below (s₁.setTop (mkF m 43 #[.val (.int p1), .val (.int p2), .val (.int (p1 &&& (3 : Int32))), .val (.int (p2 &&& (3 : Int32))), .unset] [])) _
            refine X0.ldcInt hx hown (mvT hZ (hw _ (List.mem_of_getElem? (i := 74) rfl))) (g := (mkF m 43 #[.val (.int p1), .val (.int p2), .val (.int (p1 &&& (3 : Int32))), .val (.int (p2 &&& (3 : Int32))), .unset] [])) rfl (hb hby d13_43) _ ?_
            show Steps p.tables e below (s₁.setTop (mkF m 45 #[.val (.int p1), .val (.int p2), .val (.int (p1 &&& (3 : Int32))), .val (.int (p2 &&& (3 : Int32))), .unset] [(.int (65535 : Int32))])) _
            refine XS.istore X0.here hx rfl (hb hby d13_45) rfl (l' := #[.val (.int p1), .val (.int p2), .val (.int (p1 &&& (3 : Int32))), .val (.int (p2 &&& (3 : Int32))), .val (.int (65535 : Int32))]) rfl ?_
            show Steps p.tables e below (s₁.setTop (mkF m 47 #[.val (.int p1), .val (.int p2), .val (.int (p1 &&& (3 : Int32))), .val (.int (p2 &&& (3 : Int32))), .val (.int (65535 : Int32))] [])) _
            refine XS.goto X0.here hx rfl (pc0 := 47) (pc' := 54) rfl (hb hby d13_47) (by decide) (by decide) ?_
            show Steps p.tables e below (s₁.setTop (mkF m 54 #[.val (.int p1), .val (.int p2), .val (.int (p1 &&& (3 : Int32))), .val (.int (p2 &&& (3 : Int32))), .val (.int (65535 : Int32))] [])) _
            exact castTop (by simp only [hv6, if_neg hc16_2, if_neg hc27_3, if_pos hc40_4]) kt
          · skip
            show Steps p.tables e below (s₁.setTop (mkF m 40 #[.val (.int p1), .val (.int p2), .val (.int (p1 &&& (3 : Int32))), .val (.int (p2 &&& (3 : Int32))), .unset] [(.int (2 : Int32)), (.int (p1 &&& (3 : Int32)))])) _
            refine XS.icmpYes X0.here hx rfl (pc0 := 40) (pc' := 50) rfl (hb hby d13_40) rfl (feq hc40_4).2 (by decide) (by decide) ?_
            show Steps p.tables e below (s₁.setTop (mkF m 50 #[.val (.int p1), .val (.int p2), .val (.int (p1 &&& (3 : Int32))), .val (.int (p2 &&& (3 : Int32))), .unset] [])) _
            refine X0.ldcInt hx hown (mvT hZ (hw _ (List.mem_of_getElem? (i := 73) rfl))) (g := (mkF m 50 #[.val (.int p1), .val (.int p2), .val (.int (p1 &&& (3 : Int32))), .val (.int (p2 &&& (3 : Int32))), .unset] [])) rfl (hb hby d13_50) _ ?_
            show Steps p.tables e below (s₁.setTop (mkF m 52 #[.val (.int p1), .val (.int p2), .val (.int (p1 &&& (3 : Int32))), .val (.int (p2 &&& (3 : Int32))), .unset] [(.int (16777215 : Int32))])) _
            refine XS.istore X0.here hx rfl (hb hby d13_52) rfl (l' := #[.val (.int p1), .val (.int p2), .val (.int (p1 &&& (3 : Int32))), .val (.int (p2 &&& (3 : Int32))), .val (.int (16777215 : Int32))]) rfl ?_
            show Steps p.tables e below (s₁.setTop (mkF m 54 #[.val (.int p1), .val (.int p2), .val (.int (p1 &&& (3 : Int32))), .val (.int (p2 &&& (3 : Int32))), .val (.int (16777215 : Int32))] [])) _
            exact castTop (by simp only [hv6, if_neg hc16_2, if_neg hc27_3, if_neg hc40_4]) kt)
    rw [(hv6 : v6 = maskF p1)] at K8
    have K9 : Gx p e below s₁ f0 s₁ (mkF m 62 #[.val (.int p1), .val (.int p2), .val (.int (p1 &&& (3 : Int32))), .val (.int (p2 &&& (3 : Int32))), .val (.int (maskF p1))] [(.int ((((p1 ^^^ p2).toUInt32 >>> ((2 : Int32) &&& 31).toUInt32).toInt32) &&& (maskF p1)))]) := fun t kt => K8 t (by
      show Steps p.tables e below (s₁.setTop (mkF m 54 #[.val (.int p1), .val (.int p2), .val (.int (p1 &&& (3 : Int32))), .val (.int (p2 &&& (3 : Int32))), .val (.int (maskF p1))] [])) _
      refine XS.iloadN X0.here hx rfl (hb hby d13_54) rfl ?_
      show Steps p.tables e below (s₁.setTop (mkF m 55 #[.val (.int p1), .val (.int p2), .val (.int (p1 &&& (3 : Int32))), .val (.int (p2 &&& (3 : Int32))), .val (.int (maskF p1))] [(.int p1)])) _
      refine XS.iloadN X0.here hx rfl (hb hby d13_55) rfl ?_
      show Steps p.tables e below (s₁.setTop (mkF m 56 #[.val (.int p1), .val (.int p2), .val (.int (p1 &&& (3 : Int32))), .val (.int (p2 &&& (3 : Int32))), .val (.int (maskF p1))] [(.int p2), (.int p1)])) _
      refine XS.ixor X0.here hx rfl (hb hby d13_56) rfl ?_
      show Steps p.tables e below (s₁.setTop (mkF m 57 #[.val (.int p1), .val (.int p2), .val (.int (p1 &&& (3 : Int32))), .val (.int (p2 &&& (3 : Int32))), .val (.int (maskF p1))] [(.int (p1 ^^^ p2))])) _
      refine XS.iconst X0.here hx rfl (hb hby d13_57) ?_
      show Steps p.tables e below (s₁.setTop (mkF m 58 #[.val (.int p1), .val (.int p2), .val (.int (p1 &&& (3 : Int32))), .val (.int (p2 &&& (3 : Int32))), .val (.int (maskF p1))] [(.int (2 : Int32)), (.int (p1 ^^^ p2))])) _
      refine XS.iushr X0.here hx rfl (hb hby d13_58) rfl ?_
      show Steps p.tables e below (s₁.setTop (mkF m 59 #[.val (.int p1), .val (.int p2), .val (.int (p1 &&& (3 : Int32))), .val (.int (p2 &&& (3 : Int32))), .val (.int (maskF p1))] [(.int (((p1 ^^^ p2).toUInt32 >>> ((2 : Int32) &&& 31).toUInt32).toInt32))])) _
      refine XS.iload X0.here hx rfl (hb hby d13_59) rfl ?_
      show Steps p.tables e below (s₁.setTop (mkF m 61 #[.val (.int p1), .val (.int p2), .val (.int (p1 &&& (3 : Int32))), .val (.int (p2 &&& (3 : Int32))), .val (.int (maskF p1))] [(.int (maskF p1)), (.int (((p1 ^^^ p2).toUInt32 >>> ((2 : Int32) &&& 31).toUInt32).toInt32))])) _
      refine XS.iand X0.here hx rfl (hb hby d13_61) rfl ?_
      exact kt)
    by_cases hb10 : ((((p1 ^^^ p2).toUInt32 >>> ((2 : Int32) &&& 31).toUInt32).toInt32) &&& (maskF p1)) = (0 : Int32)
    · skip
      have K11 : Gx p e below s₁ f0 s₁ (mkF m 70 #[.val (.int p1), .val (.int p2), .val (.int (p1 &&& (3 : Int32))), .val (.int (p2 &&& (3 : Int32))), .val (.int (maskF p1))] [(.int (1 : Int32))]) := fun t kt => K9 t (by
        show Steps p.tables e below (s₁.setTop (mkF m 62 #[.val (.int p1), .val (.int p2), .val (.int (p1 &&& (3 : Int32))), .val (.int (p2 &&& (3 : Int32))), .val (.int (maskF p1))] [(.int ((((p1 ^^^ p2).toUInt32 >>> ((2 : Int32) &&& 31).toUInt32).toInt32) &&& (maskF p1)))])) _
        refine XS.ifNo X0.here hx rfl (hb hby d13_62) rfl ((if0 _ _).trans (teq hb10).2) ?_
        show Steps p.tables e below (s₁.setTop (mkF m 65 #[.val (.int p1), .val (.int p2), .val (.int (p1 &&& (3 : Int32))), .val (.int (p2 &&& (3 : Int32))), .val (.int (maskF p1))] [])) _
        refine XS.iconst X0.here hx rfl (hb hby d13_65) ?_
        show Steps p.tables e below (s₁.setTop (mkF m 66 #[.val (.int p1), .val (.int p2), .val (.int (p1 &&& (3 : Int32))), .val (.int (p2 &&& (3 : Int32))), .val (.int (maskF p1))] [(.int (1 : Int32))])) _
        refine XS.goto X0.here hx rfl (pc0 := 66) (pc' := 70) rfl (hb hby d13_66) (by decide) (by decide) ?_
        exact kt)
      obtain ⟨fs12, hr12, hrun12, hended12, hW12, hsame12⟩ := X0.leave (v := some (.int (1 : Int32))) (fun h => by rw [Bd.returns] at h; cases h)
      refine ⟨_, _, pre0 _ (K11 _ ?_), hrun12, hended12, _, _, rfl, ?_, ⟨_, rfl⟩, hW12, hsame12.mono (by decide) (by decide)⟩
      · exact retN X0 hx (t := .boolean) Bd.returns (by simp) (hb hby d13_70) hr12
      · show QSt Z p1 p2 h0 n0 _ s₁.heap _
        rw [e0]
        exact ⟨(congrArg some (congrArg Value.int (by first | (simp only [stF, hv6, if_pos hb2, if_pos hb10]; done) | (rw [hv6]; rfl) | rfl))), N0, rfl⟩
    · skip
      have K13 : Gx p e below s₁ f0 s₁ (mkF m 70 #[.val (.int p1), .val (.int p2), .val (.int (p1 &&& (3 : Int32))), .val (.int (p2 &&& (3 : Int32))), .val (.int (maskF p1))] [(.int (0 : Int32))]) := fun t kt => K9 t (by
        show Steps p.tables e below (s₁.setTop (mkF m 62 #[.val (.int p1), .val (.int p2), .val (.int (p1 &&& (3 : Int32))), .val (.int (p2 &&& (3 : Int32))), .val (.int (maskF p1))] [(.int ((((p1 ^^^ p2).toUInt32 >>> ((2 : Int32) &&& 31).toUInt32).toInt32) &&& (maskF p1)))])) _
        refine XS.ifYes X0.here hx rfl (pc0 := 62) (pc' := 69) rfl (hb hby d13_62) rfl ((if0 _ _).trans (feq hb10).2) (by decide) (by decide) ?_
        show Steps p.tables e below (s₁.setTop (mkF m 69 #[.val (.int p1), .val (.int p2), .val (.int (p1 &&& (3 : Int32))), .val (.int (p2 &&& (3 : Int32))), .val (.int (maskF p1))] [])) _
        refine XS.iconst X0.here hx rfl (hb hby d13_69) ?_
        exact kt)
      obtain ⟨fs14, hr14, hrun14, hended14, hW14, hsame14⟩ := X0.leave (v := some (.int (0 : Int32))) (fun h => by rw [Bd.returns] at h; cases h)
      refine ⟨_, _, pre0 _ (K13 _ ?_), hrun14, hended14, _, _, rfl, ?_, ⟨_, rfl⟩, hW14, hsame14.mono (by decide) (by decide)⟩
      · exact retN X0 hx (t := .boolean) Bd.returns (by simp) (hb hby d13_70) hr14
      · show QSt Z p1 p2 h0 n0 _ s₁.heap _
        rw [e0]
        exact ⟨(congrArg some (congrArg Value.int (by first | (simp only [stF, hv6, if_pos hb2, if_neg hb10]; done) | (rw [hv6]; rfl) | rfl))), N0, rfl⟩
  · skip
    have K15 : Gx p e below s₁ f0 s₁ (mkF m 14 #[.val (.int p1), .val (.int p2), .val (.int (p1 &&& (3 : Int32))), .val (.int (p2 &&& (3 : Int32))), .unset] [(.int (0 : Int32))]) := fun t kt => K1 t (by
      show Steps p.tables e below (s₁.setTop (mkF m 10 #[.val (.int p1), .val (.int p2), .val (.int (p1 &&& (3 : Int32))), .val (.int (p2 &&& (3 : Int32))), .unset] [(.int (p2 &&& (3 : Int32))), (.int (p1 &&& (3 : Int32)))])) _
      refine XS.icmpNo X0.here hx rfl (hb hby d13_10) rfl (feq hb2).1 ?_
      show Steps p.tables e below (s₁.setTop (mkF m 13 #[.val (.int p1), .val (.int p2), .val (.int (p1 &&& (3 : Int32))), .val (.int (p2 &&& (3 : Int32))), .unset] [])) _
      refine XS.iconst X0.here hx rfl (hb hby d13_13) ?_
      exact kt)
    obtain ⟨fs16, hr16, hrun16, hended16, hW16, hsame16⟩ := X0.leave (v := some (.int (0 : Int32))) (fun h => by rw [Bd.returns] at h; cases h)
    refine ⟨_, _, pre0 _ (K15 _ ?_), hrun16, hended16, _, _, rfl, ?_, ⟨_, rfl⟩, hW16, hsame16.mono (by decide) (by decide)⟩
    · exact retN X0 hx (t := .boolean) Bd.returns (by simp) (hb hby d13_14) hr16
    · show QSt Z p1 p2 h0 n0 _ s₁.heap _
      rw [e0]
      exact ⟨(congrArg some (congrArg Value.int (by first | (simp only [stF, if_neg hb2]; done) | rfl))), N0, rfl⟩
theorem pn_0 : plainName "com/example/stanzacall/stanzacall/xml/ElementIsPinLaw" = true := by first | (simp [plainName, overriddenIn]; done) | decide +kernel
theorem pd__I_Ljava_lang_String_ : parseMethodDescriptor "(I)Ljava/lang/String;" = some ⟨[.int], some (.object "java/lang/String")⟩ := by decide +kernel
theorem pd__Ljava_lang_String_Ljava_lang_String__V : parseMethodDescriptor "(Ljava/lang/String;Ljava/lang/String;)V" = some ⟨[(.object "java/lang/String"), (.object "java/lang/String")], none⟩ := by decide +kernel
theorem pd__Ljava_lang_String_Ljava_lang_String__Z : parseMethodDescriptor "(Ljava/lang/String;Ljava/lang/String;)Z" = some ⟨[(.object "java/lang/String"), (.object "java/lang/String")], some .boolean⟩ := by decide +kernel
theorem pd__II_Z : parseMethodDescriptor "(II)Z" = some ⟨[.int, .int], some .boolean⟩ := by decide +kernel
theorem ef_0 (m : MethodId) (p1 : Int32) (p2 : Int32) (p3 : Int32) (p4 : Int32) (p5 : Int32) : entryFrame m #[(.int p1), (.int p2), (.int p3), (.int p4), (.int p5)] maxLocals = mkF m 0 #[.val (.int p1), .val (.int p2), .val (.int p3), .val (.int p4), .val (.int p5), .unset, .unset, .unset, .unset, .unset] [] := by first | (simp [entryFrame, mkF, argsToLocals, Value.category, maxLocals]; done) | rfl
def Q0 (Z : State) (p1 : Int32) (p2 : Int32) (p3 : Int32) (p4 : Int32) (p5 : Int32) (cw : Int32) (h0 : Heap) (n0 : Nat) (v : Option Value) (h : Heap) (L : List Loc) : Prop := v = some (.int (1 : Int32)) ∧ Fr n0 L
set_option maxRecDepth 65536 in
set_option maxHeartbeats 40000000 in
theorem rm0 (l : Launch) (Z : State) (a0 : Array Value) (hw : ∀ d ∈ tables_1, d.before a0 Z = true) (ws : List Jvm.Cond) (p1 : Int32) (p2 : Int32) (p3 : Int32) (p4 : Int32) (p5 : Int32) (cw : Int32) (h0 : Heap) (n0 : Nat) (Z0 : n0 ≤ h0.size) (pr0 : Old Z n0 h0) (pr1 : Sta Z Z.heap "java/lang/String" "COMPACT_STRINGS" "Z" (.int cw)) (hcw : ¬ (cw = (0 : Int32))) :
    MetFree l x (head1 (Jvm.Cond.code x code maxLocals ret :: ws) room_1) (fun a U => a = #[(.int p1), (.int p2), (.int p3), (.int p4), (.int p5)] ∧ Z.Warmed39 U.vm ∧ U.heap = h0 ∧ CHv Z ELx U.vm h0) (fun _ _ _ _ _ => True) (fun _ U o U' => ∃ v L, o = .returned v ∧ Q0 Z p1 p2 p3 p4 p5 cw h0 n0 v U'.heap L ∧ CHr Z ELx U.vm U.heap U'.vm U'.heap ∧ ReturnedEndW U o U' L room_1.cells room_1.slots) := by
  refine MetFree.of_bodySF (plainFor_of_name pn_0) hisR ?_
  intro p e s m args below meth c s₁ Bd hml0 hP hK
  obtain ⟨rfl, hZ, hh, hCH⟩ := hP
  have hx := Bd.exec
  have hby := Bd.bytes
  have hml : c.maxLocals = 10 := hml0
  have hown : s.vm.findClass "com/example/stanzacall/stanzacall/xml/ElementIsPinLaw" = some m.cls := findClass_of_methodNamed Bd.named
  have hnm := (name_of_methodNamed Bd.named Bd.method).1
  have X0 : Stand p l e room_1 (s.setVm s.vm) m #[(.int p1), (.int p2), (.int p3), (.int p4), (.int p5)] below meth c s₁ [] 0 0 := Stand.of_body Bd
  have hZ : Z.Warmed39 (s.setVm s.vm).vm := hZ
  have hown : (s.setVm s.vm).vm.findClass "com/example/stanzacall/stanzacall/xml/ElementIsPinLaw" = some m.cls := hown
  have CR0 : CHr Z ELx s.vm h0 s.vm h0 := CHr.refl hCH
  have hS0 : s.Since s.vm h0.size := State.WarmedH.since (State.WarmedH.refl s) _
  have hk0 : h0.size ≤ h0.size := Nat.le_refl _
  have hs0 : h0 = s.heap := hh.symm
  have e0 : s₁.heap = h0 := by rw [← hh, Bd.state]; rfl
  have N0 := Fr.nil n0
  obtain ⟨f0, hf0⟩ : ∃ f, f = entryFrame m #[(.int p1), (.int p2), (.int p3), (.int p4), (.int p5)] maxLocals := ⟨_, rfl⟩
  have pre0 : ∀ t, Steps p.tables e below (s₁.setTop f0) t → Steps p.tables e below (s₁.setTop (entryFrame m #[(.int p1), (.int p2), (.int p3), (.int p4), (.int p5)] maxLocals)) t := fun t k => hf0 ▸ k
  have K0 : Gx p e below s₁ f0 s₁ (mkF m 0 #[.val (.int p1), .val (.int p2), .val (.int p3), .val (.int p4), .val (.int p5), .unset, .unset, .unset, .unset, .unset] []) := fun t kt => by rw [hf0]; exact castTop (ef_0 m p1 p2 p3 p4 p5) kt
  have K3 : Gx p e below s₁ f0 s₁ (mkF m 4 #[.val (.int p1), .val (.int p2), .val (.int p3), .val (.int p4), .val (.int p5), .unset, .unset, .unset, .unset, .unset] [(.int (p5 &&& (1 : Int32)))]) := fun t kt => K0 t (by
    show Steps p.tables e below (s₁.setTop (mkF m 0 #[.val (.int p1), .val (.int p2), .val (.int p3), .val (.int p4), .val (.int p5), .unset, .unset, .unset, .unset, .unset] [])) _
    refine XS.iload X0.here hx rfl (hb hby at_0) rfl ?_
    show Steps p.tables e below (s₁.setTop (mkF m 2 #[.val (.int p1), .val (.int p2), .val (.int p3), .val (.int p4), .val (.int p5), .unset, .unset, .unset, .unset, .unset] [(.int p5)])) _
    refine XS.iconst X0.here hx rfl (hb hby at_2) ?_
    show Steps p.tables e below (s₁.setTop (mkF m 3 #[.val (.int p1), .val (.int p2), .val (.int p3), .val (.int p4), .val (.int p5), .unset, .unset, .unset, .unset, .unset] [(.int (1 : Int32)), (.int p5)])) _
    refine XS.iand X0.here hx rfl (hb hby at_3) rfl ?_
    exact kt)
  obtain ⟨v2, hv2⟩ : ∃ z : Int32, z = (if (p5 &&& (1 : Int32)) = (0 : Int32) then p3 else p1) := ⟨_, rfl⟩
  have K4 : Gx p e below s₁ f0 s₁ (mkF m 12 #[.val (.int p1), .val (.int p2), .val (.int p3), .val (.int p4), .val (.int p5), .unset, .unset, .unset, .unset, .unset] [(.int v2)]) := fun t kt => K3 t (by
    by_cases hc4_0 : (p5 &&& (1 : Int32)) = (0 : Int32)
    · skip
      show Steps p.tables e below (s₁.setTop (mkF m 4 #[.val (.int p1), .val (.int p2), .val (.int p3), .val (.int p4), .val (.int p5), .unset, .unset, .unset, .unset, .unset] [(.int (p5 &&& (1 : Int32)))])) _
      refine XS.ifYes X0.here hx rfl (pc0 := 4) (pc' := 11) rfl (hb hby at_4) rfl ((if0 _ _).trans (teq hc4_0).1) (by decide) (by decide) ?_
      show Steps p.tables e below (s₁.setTop (mkF m 11 #[.val (.int p1), .val (.int p2), .val (.int p3), .val (.int p4), .val (.int p5), .unset, .unset, .unset, .unset, .unset] [])) _
      refine XS.iloadN X0.here hx rfl (hb hby at_11) rfl ?_
      show Steps p.tables e below (s₁.setTop (mkF m 12 #[.val (.int p1), .val (.int p2), .val (.int p3), .val (.int p4), .val (.int p5), .unset, .unset, .unset, .unset, .unset] [(.int p3)])) _
      exact castTop (by simp only [hv2, if_pos hc4_0]) kt
    · skip
      show Steps p.tables e below (s₁.setTop (mkF m 4 #[.val (.int p1), .val (.int p2), .val (.int p3), .val (.int p4), .val (.int p5), .unset, .unset, .unset, .unset, .unset] [(.int (p5 &&& (1 : Int32)))])) _
      refine XS.ifNo X0.here hx rfl (hb hby at_4) rfl ((if0 _ _).trans (feq hc4_0).1) ?_
      show Steps p.tables e below (s₁.setTop (mkF m 7 #[.val (.int p1), .val (.int p2), .val (.int p3), .val (.int p4), .val (.int p5), .unset, .unset, .unset, .unset, .unset] [])) _
      refine XS.iloadN X0.here hx rfl (hb hby at_7) rfl ?_
      show Steps p.tables e below (s₁.setTop (mkF m 8 #[.val (.int p1), .val (.int p2), .val (.int p3), .val (.int p4), .val (.int p5), .unset, .unset, .unset, .unset, .unset] [(.int p1)])) _
      refine XS.goto X0.here hx rfl (pc0 := 8) (pc' := 12) rfl (hb hby at_8) (by decide) (by decide) ?_
      show Steps p.tables e below (s₁.setTop (mkF m 12 #[.val (.int p1), .val (.int p2), .val (.int p3), .val (.int p4), .val (.int p5), .unset, .unset, .unset, .unset, .unset] [(.int p1)])) _
      exact castTop (by simp only [hv2, if_neg hc4_0]) kt)
  have K7 : Gx p e below s₁ f0 s₁ (mkF m 18 #[.val (.int p1), .val (.int p2), .val (.int p3), .val (.int p4), .val (.int p5), .val (.int v2), .unset, .unset, .unset, .unset] [(.int (p5 &&& (2 : Int32)))]) := fun t kt => K4 t (by
    show Steps p.tables e below (s₁.setTop (mkF m 12 #[.val (.int p1), .val (.int p2), .val (.int p3), .val (.int p4), .val (.int p5), .unset, .unset, .unset, .unset, .unset] [(.int v2)])) _
    refine XS.istore X0.here hx rfl (hb hby at_12) rfl (l' := #[.val (.int p1), .val (.int p2), .val (.int p3), .val (.int p4), .val (.int p5), .val (.int v2), .unset, .unset, .unset, .unset]) rfl ?_
    show Steps p.tables e below (s₁.setTop (mkF m 14 #[.val (.int p1), .val (.int p2), .val (.int p3), .val (.int p4), .val (.int p5), .val (.int v2), .unset, .unset, .unset, .unset] [])) _
    refine XS.iload X0.here hx rfl (hb hby at_14) rfl ?_
    show Steps p.tables e below (s₁.setTop (mkF m 16 #[.val (.int p1), .val (.int p2), .val (.int p3), .val (.int p4), .val (.int p5), .val (.int v2), .unset, .unset, .unset, .unset] [(.int p5)])) _
    refine XS.iconst X0.here hx rfl (hb hby at_16) ?_
    show Steps p.tables e below (s₁.setTop (mkF m 17 #[.val (.int p1), .val (.int p2), .val (.int p3), .val (.int p4), .val (.int p5), .val (.int v2), .unset, .unset, .unset, .unset] [(.int (2 : Int32)), (.int p5)])) _
    refine XS.iand X0.here hx rfl (hb hby at_17) rfl ?_
    exact kt)
  obtain ⟨v6, hv6⟩ : ∃ z : Int32, z = (if (p5 &&& (2 : Int32)) = (0 : Int32) then p4 else p2) := ⟨_, rfl⟩
  have K8 : Gx p e below s₁ f0 s₁ (mkF m 26 #[.val (.int p1), .val (.int p2), .val (.int p3), .val (.int p4), .val (.int p5), .val (.int v2), .unset, .unset, .unset, .unset] [(.int v6)]) := fun t kt => K7 t (by
    by_cases hc18_4 : (p5 &&& (2 : Int32)) = (0 : Int32)
    · skip
      show Steps p.tables e below (s₁.setTop (mkF m 18 #[.val (.int p1), .val (.int p2), .val (.int p3), .val (.int p4), .val (.int p5), .val (.int v2), .unset, .unset, .unset, .unset] [(.int (p5 &&& (2 : Int32)))])) _
      refine XS.ifYes X0.here hx rfl (pc0 := 18) (pc' := 25) rfl (hb hby at_18) rfl ((if0 _ _).trans (teq hc18_4).1) (by decide) (by decide) ?_
      show Steps p.tables e below (s₁.setTop (mkF m 25 #[.val (.int p1), .val (.int p2), .val (.int p3), .val (.int p4), .val (.int p5), .val (.int v2), .unset, .unset, .unset, .unset] [])) _
      refine XS.iloadN X0.here hx rfl (hb hby at_25) rfl ?_
      show Steps p.tables e below (s₁.setTop (mkF m 26 #[.val (.int p1), .val (.int p2), .val (.int p3), .val (.int p4), .val (.int p5), .val (.int v2), .unset, .unset, .unset, .unset] [(.int p4)])) _
      exact castTop (by simp only [hv6, if_pos hc18_4]) kt
    · skip
      show Steps p.tables e below (s₁.setTop (mkF m 18 #[.val (.int p1), .val (.int p2), .val (.int p3), .val (.int p4), .val (.int p5), .val (.int v2), .unset, .unset, .unset, .unset] [(.int (p5 &&& (2 : Int32)))])) _
      refine XS.ifNo X0.here hx rfl (hb hby at_18) rfl ((if0 _ _).trans (feq hc18_4).1) ?_
      show Steps p.tables e below (s₁.setTop (mkF m 21 #[.val (.int p1), .val (.int p2), .val (.int p3), .val (.int p4), .val (.int p5), .val (.int v2), .unset, .unset, .unset, .unset] [])) _
      refine XS.iloadN X0.here hx rfl (hb hby at_21) rfl ?_
      show Steps p.tables e below (s₁.setTop (mkF m 22 #[.val (.int p1), .val (.int p2), .val (.int p3), .val (.int p4), .val (.int p5), .val (.int v2), .unset, .unset, .unset, .unset] [(.int p2)])) _
      refine XS.goto X0.here hx rfl (pc0 := 22) (pc' := 26) rfl (hb hby at_22) (by decide) (by decide) ?_
      show Steps p.tables e below (s₁.setTop (mkF m 26 #[.val (.int p1), .val (.int p2), .val (.int p3), .val (.int p4), .val (.int p5), .val (.int v2), .unset, .unset, .unset, .unset] [(.int p2)])) _
      exact castTop (by simp only [hv6, if_neg hc18_4]) kt)
  have K9 : Gx p e below s₁ f0 s₁ (mkF m 28 #[.val (.int p1), .val (.int p2), .val (.int p3), .val (.int p4), .val (.int p5), .val (.int v2), .val (.int v6), .unset, .unset, .unset] []) := fun t kt => K8 t (by
    show Steps p.tables e below (s₁.setTop (mkF m 26 #[.val (.int p1), .val (.int p2), .val (.int p3), .val (.int p4), .val (.int p5), .val (.int v2), .unset, .unset, .unset, .unset] [(.int v6)])) _
    refine XS.istore X0.here hx rfl (hb hby at_26) rfl (l' := #[.val (.int p1), .val (.int p2), .val (.int p3), .val (.int p4), .val (.int p5), .val (.int v2), .val (.int v6), .unset, .unset, .unset]) rfl ?_
    exact kt)
  obtain ⟨T10, h10, X10, e10, E10, A10, D10, -, st10⟩ := newO X0 hx hZ hown (hw _ (List.mem_of_getElem? (i := 0) rfl)) (hw _ (List.mem_of_getElem? (i := 1) rfl)) (hw _ (List.mem_of_getElem? (i := 2) rfl)) e0 (g := (mkF m 28 #[.val (.int p1), .val (.int p2), .val (.int p3), .val (.int p4), .val (.int p5), .val (.int v2), .val (.int v6), .unset, .unset, .unset] [])) rfl (hb hby at_28) (by decide) (by decide)
  obtain ⟨b10, g10⟩ : ∃ z, z = h0.size := ⟨_, rfl⟩
  rw [← g10] at A10 D10 st10
  have CR11 : CHr Z ELx s.vm h0 s.vm h10 := CR0.trans (CHr.ext E10 CR0.1)
  have f12 : Fld Z h10 b10 "com/example/stanzacall/stanzacall/xml/Element" "namespace" "Ljava/lang/String;" .null := D10 (Or.inr (hw _ (List.mem_of_getElem? (i := 51) rfl))) (ty := (.object "java/lang/String")) (by decide)
  have f13 : Fld Z h10 b10 "com/example/stanzacall/stanzacall/xml/Element" "name" "Ljava/lang/String;" .null := D10 (Or.inr (hw _ (List.mem_of_getElem? (i := 54) rfl))) (ty := (.object "java/lang/String")) (by decide)
  have K14 : Gx p e below s₁ f0 T10 (mkF m 31 #[.val (.int p1), .val (.int p2), .val (.int p3), .val (.int p4), .val (.int p5), .val (.int v2), .val (.int v6), .unset, .unset, .unset] [(.ref b10)]) := fun t kt => K9 t (st10 t kt)
  have K15 : Gx p e below s₁ f0 T10 (mkF m 33 #[.val (.int p1), .val (.int p2), .val (.int p3), .val (.int p4), .val (.int p5), .val (.int v2), .val (.int v6), .unset, .unset, .unset] [(.int p1), (.ref b10), (.ref b10)]) := fun t kt => K14 t (by
    show Steps p.tables e below (T10.setTop (mkF m 31 #[.val (.int p1), .val (.int p2), .val (.int p3), .val (.int p4), .val (.int p5), .val (.int v2), .val (.int v6), .unset, .unset, .unset] [(.ref b10)])) _
    refine XS.dup X10.here hx rfl (hb hby at_31) rfl rfl ?_
    show Steps p.tables e below (T10.setTop (mkF m 32 #[.val (.int p1), .val (.int p2), .val (.int p3), .val (.int p4), .val (.int p5), .val (.int v2), .val (.int v6), .unset, .unset, .unset] [(.ref b10), (.ref b10)])) _
    refine XS.iloadN X10.here hx rfl (hb hby at_32) rfl ?_
    exact kt)
  have f16 : Old Z n0 h10 := (pr0.ext E10)
  have kp17 : Keep h0 h10 [] := ((Keep.refl h0 []).ext E10)
  obtain ⟨_, _, ⟨T18, L18, k18, n18⟩, -, X18', hSq18, gq18, ⟨Lc18, hQ18, l18, y18, z18, CRq18⟩, st18⟩ := callSS X10 hx (y := (⟨"com/example/stanzacall/stanzacall/xml/ElementIsPinLaw", "mk", "(I)Ljava/lang/String;"⟩ : MethodName)) hown (mvT hZ (hw _ (List.mem_of_getElem? (i := 3) rfl))) (mvT hZ (hw _ (List.mem_of_getElem? (i := 4) rfl))) (mvT hZ (hw _ (List.mem_of_getElem? (i := 5) rfl))) (mvT hZ (hw _ (List.mem_of_getElem? (i := 6) rfl))) (by decide) (backOfSH (s := s) (vm0 := s.vm) (W := 2) (rmMk l Z a0 hw [] p1 cw h10 n0 (Nat.le_trans Z0 kp17.1) f16 pr1 hcw) hZ (hw _ (List.mem_of_getElem? (i := 6) rfl)) (hw _ (List.mem_of_getElem? (i := 5) rfl)) (by decide) (by decide) (own_EW hw) CR11.1) (g := (mkF m 33 #[.val (.int p1), .val (.int p2), .val (.int p3), .val (.int p4), .val (.int p5), .val (.int v2), .val (.int v6), .unset, .unset, .unset] [(.int p1), (.ref b10), (.ref b10)])) rfl (by rw [hml]; rfl) (argsL := [(.int p1)]) (rest := [(.ref b10), (.ref b10)]) (lenOf pd__I_Ljava_lang_String_ rfl) rfl (by show 2 * 0 + _ ≤ _; exact Nat.le_of_eq rfl) (hb hby at_33) (fun _ _ => ⟨rfl, e10, (by decide : 1 + 6 ≤ _), (by decide : 5 + 12 ≤ _)⟩)
  dsimp only [Pt.U, Pt.locs, Pt.cells, Pt.slots] at X18' l18 y18 z18 st18 hQ18 CRq18 hSq18 gq18
  subst l18 y18 z18
  obtain ⟨X18', hS18, hZ, hown⟩ := rebS hS0 (show _ ≤ T10.heap.size by first | (rw [e10]; exact (Nat.le_trans hk0 E10.1)) | exact Nat.le_refl _) X18' hSq18 gq18 hZ hown
  obtain ⟨h18, e18⟩ : ∃ z, T18.heap = z := ⟨_, rfl⟩
  rw [e18] at hQ18 CRq18
  obtain ⟨mr_18, mv_18, mq_18, rfl, N18q, Kc18, f19, f20, f21, f22, f23⟩ := hQ18
  obtain ⟨lc18, X18, N18⟩ : ∃ lc, Stand p l e room_1 (s.setVm T18.vm) m #[(.int p1), (.int p2), (.int p3), (.int p4), (.int p5)] below meth c T18 lc 7 17 ∧ Fr n0 lc := ⟨_, X18', Fr.app N0 N18q⟩
  have CR24 : CHr Z ELx s.vm h0 T18.vm h18 := CR11.trans CRq18
  have K25 : Gx p e below s₁ f0 T18 (mkF m 36 #[.val (.int p1), .val (.int p2), .val (.int p3), .val (.int p4), .val (.int p5), .val (.int v2), .val (.int v6), .unset, .unset, .unset] [(.ref mr_18), (.ref b10), (.ref b10)]) := fun t kt => K15 t (st18.trans kt)
  have K26 : Gx p e below s₁ f0 T18 (mkF m 37 #[.val (.int p1), .val (.int p2), .val (.int p3), .val (.int p4), .val (.int p5), .val (.int v2), .val (.int v6), .unset, .unset, .unset] [(.int p2), (.ref mr_18), (.ref b10), (.ref b10)]) := fun t kt => K25 t (by
    show Steps p.tables e below (T18.setTop (mkF m 36 #[.val (.int p1), .val (.int p2), .val (.int p3), .val (.int p4), .val (.int p5), .val (.int v2), .val (.int v6), .unset, .unset, .unset] [(.ref mr_18), (.ref b10), (.ref b10)])) _
    refine XS.iloadN X18.here hx rfl (hb hby at_36) rfl ?_
    exact kt)
  have f27 : Old Z n0 h18 := (f16.keep Kc18 all0)
  have kp28 : Keep h0 h18 [] := (Keep.trans kp17 Kc18 all0)
  obtain ⟨_, _, ⟨T29, L29, k29, n29⟩, -, X29', hSq29, gq29, ⟨Lc29, hQ29, l29, y29, z29, CRq29⟩, st29⟩ := callSS X18 hx (y := (⟨"com/example/stanzacall/stanzacall/xml/ElementIsPinLaw", "mk", "(I)Ljava/lang/String;"⟩ : MethodName)) hown (mvT hZ (hw _ (List.mem_of_getElem? (i := 3) rfl))) (mvT hZ (hw _ (List.mem_of_getElem? (i := 4) rfl))) (mvT hZ (hw _ (List.mem_of_getElem? (i := 5) rfl))) (mvT hZ (hw _ (List.mem_of_getElem? (i := 6) rfl))) (by decide) (backOfSH (s := s) (vm0 := T18.vm) (W := 3) (rmMk l Z a0 hw [] p2 cw h18 n0 (Nat.le_trans Z0 kp28.1) f27 pr1 hcw) hZ (hw _ (List.mem_of_getElem? (i := 6) rfl)) (hw _ (List.mem_of_getElem? (i := 5) rfl)) (by decide) (by decide) (own_EW hw) CR24.1) (g := (mkF m 37 #[.val (.int p1), .val (.int p2), .val (.int p3), .val (.int p4), .val (.int p5), .val (.int v2), .val (.int v6), .unset, .unset, .unset] [(.int p2), (.ref mr_18), (.ref b10), (.ref b10)])) rfl (by rw [hml]; rfl) (argsL := [(.int p2)]) (rest := [(.ref mr_18), (.ref b10), (.ref b10)]) (lenOf pd__I_Ljava_lang_String_ rfl) rfl (by show 2 * 0 + _ ≤ _; exact Nat.le_of_eq rfl) (hb hby at_37) (fun _ _ => ⟨rfl, e18, (by decide : 7 + 6 ≤ _), (by decide : 17 + 12 ≤ _)⟩)
  dsimp only [Pt.U, Pt.locs, Pt.cells, Pt.slots] at X29' l29 y29 z29 st29 hQ29 CRq29 hSq29 gq29
  subst l29 y29 z29
  obtain ⟨X29', hS29, hZ, hown⟩ := rebS hS18 (show _ ≤ T18.heap.size by first | (rw [e18]; exact (Nat.le_of_eq (congrArg Array.size e18))) | exact Nat.le_refl _) X29' hSq29 gq29 hZ hown
  obtain ⟨h29, e29⟩ : ∃ z, T29.heap = z := ⟨_, rfl⟩
  rw [e29] at hQ29 CRq29
  obtain ⟨mr_29, mv_29, mq_29, rfl, N29q, Kc29, f30, f31, f32, f33, f34⟩ := hQ29
  obtain ⟨lc29, X29, N29⟩ : ∃ lc, Stand p l e room_1 (s.setVm T29.vm) m #[(.int p1), (.int p2), (.int p3), (.int p4), (.int p5)] below meth c T29 lc 13 29 ∧ Fr n0 lc := ⟨_, X29', Fr.app N18 N29q⟩
  have CR35 : CHr Z ELx s.vm h0 T29.vm h29 := CR24.trans CRq29
  have K36 : Gx p e below s₁ f0 T29 (mkF m 40 #[.val (.int p1), .val (.int p2), .val (.int p3), .val (.int p4), .val (.int p5), .val (.int v2), .val (.int v6), .unset, .unset, .unset] [(.ref mr_29), (.ref mr_18), (.ref b10), (.ref b10)]) := fun t kt => K26 t (st29.trans kt)
  have f37 : Exa Z h29 b10 "com/example/stanzacall/stanzacall/xml/Element" := ((A10.keep Kc18).keep Kc29)
  have f38 : Fld Z h29 b10 "com/example/stanzacall/stanzacall/xml/Element" "namespace" "Ljava/lang/String;" .null := ((f12.keep Kc18 nin0).keep Kc29 nin0)
  have f39 : Fld Z h29 b10 "com/example/stanzacall/stanzacall/xml/Element" "name" "Ljava/lang/String;" .null := ((f13.keep Kc18 nin0).keep Kc29 nin0)
  have f40 : Exa Z h29 mr_18 "java/lang/String" := (f20.keep Kc29)
  have kp41 : Keep h0 h29 [] := (Keep.trans kp28 Kc29 all0)
  obtain ⟨_, _, ⟨T42, L42, k42, n42⟩, -, X42', hSq42, gq42, ⟨Lc42, hQ42, l42, y42, z42, CRq42⟩, st42⟩ := X29.specialBackS hx (y := (⟨"com/example/stanzacall/stanzacall/xml/Element", "<init>", "(Ljava/lang/String;Ljava/lang/String;)V"⟩ : MethodName)) rfl hown (mvT hZ (hw _ (List.mem_of_getElem? (i := 40) rfl))) (mvT hZ (hw _ (List.mem_of_getElem? (i := 41) rfl))) (mvT hZ (hw _ (List.mem_of_getElem? (i := 42) rfl))) (by decide) (backOfSH (s := s) (vm0 := T29.vm) (W := 1) (rmEin l Z a0 hw [] b10 mr_18 mr_29 h29 n0 (Nat.le_trans Z0 kp41.1) f37 (Nat.le_trans Z0 (Nat.le_trans (Keep.refl h0 []).1 (Nat.le_of_eq g10.symm))) f38 f39 f40 f31) hZ (hw _ (List.mem_of_getElem? (i := 42) rfl)) (hw _ (List.mem_of_getElem? (i := 2) rfl)) (by decide) (by decide) (own_EW hw) CR35.1) (g := (mkF m 40 #[.val (.int p1), .val (.int p2), .val (.int p3), .val (.int p4), .val (.int p5), .val (.int v2), .val (.int v6), .unset, .unset, .unset] [(.ref mr_29), (.ref mr_18), (.ref b10), (.ref b10)])) rfl (by rw [hml]; rfl) (Steps.refl _) (a := b10) (argsL := [(.ref mr_18), (.ref mr_29)]) (rest := [(.ref b10)]) (lenOf pd__Ljava_lang_String_Ljava_lang_String__V rfl) rfl (by show 2 * 0 + _ ≤ _; exact Nat.le_of_eq rfl) (hb hby at_40) (fun _ _ => ⟨rfl, e29, (by decide : 13 + 4 ≤ _), (by decide : 29 + 60 ≤ _)⟩)
  dsimp only [Pt.U, Pt.locs, Pt.cells, Pt.slots] at X42' l42 y42 z42 st42 hQ42 CRq42 hSq42 gq42
  subst l42 y42 z42
  obtain ⟨X42', hS42, hZ, hown⟩ := rebS hS29 (show _ ≤ T29.heap.size by first | (rw [e29]; exact (Nat.le_of_eq (congrArg Array.size e29))) | exact Nat.le_refl _) X42' hSq42 gq42 hZ hown
  obtain ⟨h42, e42⟩ : ∃ z, T42.heap = z := ⟨_, rfl⟩
  rw [e42] at hQ42 CRq42
  obtain ⟨rfl, N42q, Kc42, f43, f44⟩ := hQ42
  obtain ⟨lc42, X42, N42⟩ : ∃ lc, Stand p l e room_1 (s.setVm T42.vm) m #[(.int p1), (.int p2), (.int p3), (.int p4), (.int p5)] below meth c T42 lc 17 89 ∧ Fr n0 lc := ⟨_, X42', Fr.app N29 N42q⟩
  have CR45 : CHr Z ELx s.vm h0 T42.vm h42 := CR35.trans CRq42
  have K46 : Gx p e below s₁ f0 T42 (mkF m 43 #[.val (.int p1), .val (.int p2), .val (.int p3), .val (.int p4), .val (.int p5), .val (.int v2), .val (.int v6), .unset, .unset, .unset] [(.ref b10)]) := fun t kt => K36 t (st42.trans kt)
  have K47 : Gx p e below s₁ f0 T42 (mkF m 49 #[.val (.int p1), .val (.int p2), .val (.int p3), .val (.int p4), .val (.int p5), .val (.int v2), .val (.int v6), .val (.ref b10), .unset, .unset] [(.int v2), (.ref b10)]) := fun t kt => K46 t (by
    show Steps p.tables e below (T42.setTop (mkF m 43 #[.val (.int p1), .val (.int p2), .val (.int p3), .val (.int p4), .val (.int p5), .val (.int v2), .val (.int v6), .unset, .unset, .unset] [(.ref b10)])) _
    refine XS.astore X42.here hx rfl (hb hby at_43) rfl rfl (l' := #[.val (.int p1), .val (.int p2), .val (.int p3), .val (.int p4), .val (.int p5), .val (.int v2), .val (.int v6), .val (.ref b10), .unset, .unset]) rfl ?_
    show Steps p.tables e below (T42.setTop (mkF m 45 #[.val (.int p1), .val (.int p2), .val (.int p3), .val (.int p4), .val (.int p5), .val (.int v2), .val (.int v6), .val (.ref b10), .unset, .unset] [])) _
    refine XS.aload X42.here hx rfl (hb hby at_45) rfl rfl ?_
    show Steps p.tables e below (T42.setTop (mkF m 47 #[.val (.int p1), .val (.int p2), .val (.int p3), .val (.int p4), .val (.int p5), .val (.int v2), .val (.int v6), .val (.ref b10), .unset, .unset] [(.ref b10)])) _
    refine XS.iload X42.here hx rfl (hb hby at_47) rfl ?_
    exact kt)
  have f48 : Old Z n0 h42 := ((f27.keep Kc29 all0).keep Kc42 (allS (Nat.le_trans Z0 (Nat.le_trans (Keep.refl h0 []).1 (Nat.le_of_eq g10.symm))) all0))
  have kp49 : Keep h0 h42 [] := (Keep.trans kp41 Kc42 (allS (Or.inr (Nat.le_trans (Keep.refl h0 []).1 (Nat.le_of_eq g10.symm))) all0))
  obtain ⟨_, _, ⟨T50, L50, k50, n50⟩, -, X50', hSq50, gq50, ⟨Lc50, hQ50, l50, y50, z50, CRq50⟩, st50⟩ := callSS X42 hx (y := (⟨"com/example/stanzacall/stanzacall/xml/ElementIsPinLaw", "mk", "(I)Ljava/lang/String;"⟩ : MethodName)) hown (mvT hZ (hw _ (List.mem_of_getElem? (i := 3) rfl))) (mvT hZ (hw _ (List.mem_of_getElem? (i := 4) rfl))) (mvT hZ (hw _ (List.mem_of_getElem? (i := 5) rfl))) (mvT hZ (hw _ (List.mem_of_getElem? (i := 6) rfl))) (by decide) (backOfSH (s := s) (vm0 := T42.vm) (W := 1) (rmMk l Z a0 hw [] v2 cw h42 n0 (Nat.le_trans Z0 kp49.1) f48 pr1 hcw) hZ (hw _ (List.mem_of_getElem? (i := 6) rfl)) (hw _ (List.mem_of_getElem? (i := 5) rfl)) (by decide) (by decide) (own_EW hw) CR45.1) (g := (mkF m 49 #[.val (.int p1), .val (.int p2), .val (.int p3), .val (.int p4), .val (.int p5), .val (.int v2), .val (.int v6), .val (.ref b10), .unset, .unset] [(.int v2), (.ref b10)])) rfl (by rw [hml]; rfl) (argsL := [(.int v2)]) (rest := [(.ref b10)]) (lenOf pd__I_Ljava_lang_String_ rfl) rfl (by show 2 * 0 + _ ≤ _; exact Nat.le_of_eq rfl) (hb hby at_49) (fun _ _ => ⟨rfl, e42, (by decide : 17 + 6 ≤ _), (by decide : 89 + 12 ≤ _)⟩)
  dsimp only [Pt.U, Pt.locs, Pt.cells, Pt.slots] at X50' l50 y50 z50 st50 hQ50 CRq50 hSq50 gq50
  subst l50 y50 z50
  obtain ⟨X50', hS50, hZ, hown⟩ := rebS hS42 (show _ ≤ T42.heap.size by first | (rw [e42]; exact (Nat.le_of_eq (congrArg Array.size e42))) | exact Nat.le_refl _) X50' hSq50 gq50 hZ hown
  obtain ⟨h50, e50⟩ : ∃ z, T50.heap = z := ⟨_, rfl⟩
  rw [e50] at hQ50 CRq50
  obtain ⟨mr_50, mv_50, mq_50, rfl, N50q, Kc50, f51, f52, f53, f54, f55⟩ := hQ50
  obtain ⟨lc50, X50, N50⟩ : ∃ lc, Stand p l e room_1 (s.setVm T50.vm) m #[(.int p1), (.int p2), (.int p3), (.int p4), (.int p5)] below meth c T50 lc 23 101 ∧ Fr n0 lc := ⟨_, X50', Fr.app N42 N50q⟩
  have CR56 : CHr Z ELx s.vm h0 T50.vm h50 := CR45.trans CRq50
  have K57 : Gx p e below s₁ f0 T50 (mkF m 52 #[.val (.int p1), .val (.int p2), .val (.int p3), .val (.int p4), .val (.int p5), .val (.int v2), .val (.int v6), .val (.ref b10), .unset, .unset] [(.ref mr_50), (.ref b10)]) := fun t kt => K47 t (st50.trans kt)
  have K58 : Gx p e below s₁ f0 T50 (mkF m 54 #[.val (.int p1), .val (.int p2), .val (.int p3), .val (.int p4), .val (.int p5), .val (.int v2), .val (.int v6), .val (.ref b10), .unset, .unset] [(.int v6), (.ref mr_50), (.ref b10)]) := fun t kt => K57 t (by
    show Steps p.tables e below (T50.setTop (mkF m 52 #[.val (.int p1), .val (.int p2), .val (.int p3), .val (.int p4), .val (.int p5), .val (.int v2), .val (.int v6), .val (.ref b10), .unset, .unset] [(.ref mr_50), (.ref b10)])) _
    refine XS.iload X50.here hx rfl (hb hby at_52) rfl ?_
    exact kt)
  have f59 : Old Z n0 h50 := (f48.keep Kc50 all0)
  have kp60 : Keep h0 h50 [] := (Keep.trans kp49 Kc50 all0)
  obtain ⟨_, _, ⟨T61, L61, k61, n61⟩, -, X61', hSq61, gq61, ⟨Lc61, hQ61, l61, y61, z61, CRq61⟩, st61⟩ := callSS X50 hx (y := (⟨"com/example/stanzacall/stanzacall/xml/ElementIsPinLaw", "mk", "(I)Ljava/lang/String;"⟩ : MethodName)) hown (mvT hZ (hw _ (List.mem_of_getElem? (i := 3) rfl))) (mvT hZ (hw _ (List.mem_of_getElem? (i := 4) rfl))) (mvT hZ (hw _ (List.mem_of_getElem? (i := 5) rfl))) (mvT hZ (hw _ (List.mem_of_getElem? (i := 6) rfl))) (by decide) (backOfSH (s := s) (vm0 := T50.vm) (W := 2) (rmMk l Z a0 hw [] v6 cw h50 n0 (Nat.le_trans Z0 kp60.1) f59 pr1 hcw) hZ (hw _ (List.mem_of_getElem? (i := 6) rfl)) (hw _ (List.mem_of_getElem? (i := 5) rfl)) (by decide) (by decide) (own_EW hw) CR56.1) (g := (mkF m 54 #[.val (.int p1), .val (.int p2), .val (.int p3), .val (.int p4), .val (.int p5), .val (.int v2), .val (.int v6), .val (.ref b10), .unset, .unset] [(.int v6), (.ref mr_50), (.ref b10)])) rfl (by rw [hml]; rfl) (argsL := [(.int v6)]) (rest := [(.ref mr_50), (.ref b10)]) (lenOf pd__I_Ljava_lang_String_ rfl) rfl (by show 2 * 0 + _ ≤ _; exact Nat.le_of_eq rfl) (hb hby at_54) (fun _ _ => ⟨rfl, e50, (by decide : 23 + 6 ≤ _), (by decide : 101 + 12 ≤ _)⟩)
  dsimp only [Pt.U, Pt.locs, Pt.cells, Pt.slots] at X61' l61 y61 z61 st61 hQ61 CRq61 hSq61 gq61
  subst l61 y61 z61
  obtain ⟨X61', hS61, hZ, hown⟩ := rebS hS50 (show _ ≤ T50.heap.size by first | (rw [e50]; exact (Nat.le_of_eq (congrArg Array.size e50))) | exact Nat.le_refl _) X61' hSq61 gq61 hZ hown
  obtain ⟨h61, e61⟩ : ∃ z, T61.heap = z := ⟨_, rfl⟩
  rw [e61] at hQ61 CRq61
  obtain ⟨mr_61, mv_61, mq_61, rfl, N61q, Kc61, f62, f63, f64, f65, f66⟩ := hQ61
  obtain ⟨lc61, X61, N61⟩ : ∃ lc, Stand p l e room_1 (s.setVm T61.vm) m #[(.int p1), (.int p2), (.int p3), (.int p4), (.int p5)] below meth c T61 lc 29 113 ∧ Fr n0 lc := ⟨_, X61', Fr.app N50 N61q⟩
  have CR67 : CHr Z ELx s.vm h0 T61.vm h61 := CR56.trans CRq61
  have K68 : Gx p e below s₁ f0 T61 (mkF m 57 #[.val (.int p1), .val (.int p2), .val (.int p3), .val (.int p4), .val (.int p5), .val (.int v2), .val (.int v6), .val (.ref b10), .unset, .unset] [(.ref mr_61), (.ref mr_50), (.ref b10)]) := fun t kt => K58 t (st61.trans kt)
  have f69 : Exa Z h61 b10 "com/example/stanzacall/stanzacall/xml/Element" := (((f37.keep Kc42).keep Kc50).keep Kc61)
  have f70 : Fld Z h61 b10 "com/example/stanzacall/stanzacall/xml/Element" "namespace" "Ljava/lang/String;" (.ref mr_18) := ((f43.keep Kc50 nin0).keep Kc61 nin0)
  have f71 : Fld Z h61 b10 "com/example/stanzacall/stanzacall/xml/Element" "name" "Ljava/lang/String;" (.ref mr_29) := ((f44.keep Kc50 nin0).keep Kc61 nin0)
  have f72 : Exa Z h61 mr_18 "java/lang/String" := (((f40.keep Kc42).keep Kc50).keep Kc61)
  have f73 : Fld Z h61 mr_18 "java/lang/String" "coder" "B" (.int (0 : Int32)) := ((((f21.keep Kc29 nin0).keep Kc42 (ninS (Ne.symm (Nat.ne_of_lt (Nat.lt_of_lt_of_le A10.lt f19))) nin0)).keep Kc50 nin0).keep Kc61 nin0)
  have f74 : Fld Z h61 mr_18 "java/lang/String" "value" "[B" (.ref mv_18) := ((((f22.keep Kc29 nin0).keep Kc42 (ninS (Ne.symm (Nat.ne_of_lt (Nat.lt_of_lt_of_le A10.lt f19))) nin0)).keep Kc50 nin0).keep Kc61 nin0)
  have f75 : Arv Z h61 mv_18 mq_18 .byte (p1 &&& (3 : Int32)) [(.int (bF p1 (2 : Int32))), (.int (bF p1 (10 : Int32))), (.int (bF p1 (18 : Int32)))] (.int (0 : Int32)) := ((((f23.keep Kc29 nin0).keep Kc42 (ninS (Ne.symm (Exa.neArv (A10.keep Kc18) f23 (hw _ (List.mem_of_getElem? (i := 1) rfl)))) nin0)).keep Kc50 nin0).keep Kc61 nin0)
  have f76 : Exa Z h61 mr_29 "java/lang/String" := (((f31.keep Kc42).keep Kc50).keep Kc61)
  have f77 : Fld Z h61 mr_29 "java/lang/String" "coder" "B" (.int (0 : Int32)) := (((f32.keep Kc42 (ninS (Ne.symm (Nat.ne_of_lt (Nat.lt_of_lt_of_le (A10.keep Kc18).lt f30))) nin0)).keep Kc50 nin0).keep Kc61 nin0)
  have f78 : Fld Z h61 mr_29 "java/lang/String" "value" "[B" (.ref mv_29) := (((f33.keep Kc42 (ninS (Ne.symm (Nat.ne_of_lt (Nat.lt_of_lt_of_le (A10.keep Kc18).lt f30))) nin0)).keep Kc50 nin0).keep Kc61 nin0)
  have f79 : Arv Z h61 mv_29 mq_29 .byte (p2 &&& (3 : Int32)) [(.int (bF p2 (2 : Int32))), (.int (bF p2 (10 : Int32))), (.int (bF p2 (18 : Int32)))] (.int (0 : Int32)) := (((f34.keep Kc42 (ninS (Ne.symm (Exa.neArv f37 f34 (hw _ (List.mem_of_getElem? (i := 1) rfl)))) nin0)).keep Kc50 nin0).keep Kc61 nin0)
  have f80 : Exa Z h61 mr_50 "java/lang/String" := (f52.keep Kc61)
  have f81 : Fld Z h61 mr_50 "java/lang/String" "coder" "B" (.int (0 : Int32)) := (f53.keep Kc61 nin0)
  have f82 : Fld Z h61 mr_50 "java/lang/String" "value" "[B" (.ref mv_50) := (f54.keep Kc61 nin0)
  have f83 : Arv Z h61 mv_50 mq_50 .byte (v2 &&& (3 : Int32)) [(.int (bF v2 (2 : Int32))), (.int (bF v2 (10 : Int32))), (.int (bF v2 (18 : Int32)))] (.int (0 : Int32)) := (f55.keep Kc61 nin0)
  have f84 : Old Z n0 h61 := (f59.keep Kc61 all0)
  have kp85 : Keep h0 h61 [] := (Keep.trans kp60 Kc61 all0)
  obtain ⟨cq86, kq86, q86a, q86b, q86c⟩ := isOf hZ e61 f69
  obtain ⟨_, _, ⟨T86, L86, k86, n86⟩, -, X86', ⟨Lc86, hQ86, l86, y86, z86⟩, st86⟩ := X61.virtualBack hx (y := (⟨"com/example/stanzacall/stanzacall/xml/Element", "is", "(Ljava/lang/String;Ljava/lang/String;)Z"⟩ : MethodName)) (z := (⟨"com/example/stanzacall/stanzacall/xml/Element", "is", "(Ljava/lang/String;Ljava/lang/String;)Z"⟩ : MethodName)) hown (mvT hZ (hw _ (List.mem_of_getElem? (i := 55) rfl))) (mvT hZ (hw _ (List.mem_of_getElem? (i := 56) rfl))) (notFace_of_selects (args := #[]) (mvT hZ (hw _ (List.mem_of_getElem? (i := 58) rfl)))) (mvT hZ (hw _ (List.mem_of_getElem? (i := 58) rfl))) (mvT hZ (hw _ (List.mem_of_getElem? (i := 57) rfl))) (by decide) (backOf (W := 0) (rmIs l Z a0 hw [] b10 mr_50 mr_61 mr_18 mv_18 mq_18 (p1 &&& (3 : Int32)) (bF p1 (2 : Int32)) (bF p1 (10 : Int32)) (bF p1 (18 : Int32)) mr_29 mv_29 mq_29 (p2 &&& (3 : Int32)) (bF p2 (2 : Int32)) (bF p2 (10 : Int32)) (bF p2 (18 : Int32)) mv_50 mq_50 (v2 &&& (3 : Int32)) (bF v2 (2 : Int32)) (bF v2 (10 : Int32)) (bF v2 (18 : Int32)) mv_61 mq_61 (v6 &&& (3 : Int32)) (bF v6 (2 : Int32)) (bF v6 (10 : Int32)) (bF v6 (18 : Int32)) cw h61 n0 (Nat.le_trans Z0 kp85.1) f69 f70 f71 f72 f73 f74 f75 f76 f77 f78 f79 f80 f81 f82 f83 f63 f64 f65 f66 f84 pr1 hcw (own_le3 _) (own_le3 _)) hZ (hw _ (List.mem_of_getElem? (i := 59) rfl)) (hw _ (List.mem_of_getElem? (i := 2) rfl)) (by decide) (by decide)) q86a q86c (g := (mkF m 57 #[.val (.int p1), .val (.int p2), .val (.int p3), .val (.int p4), .val (.int p5), .val (.int v2), .val (.int v6), .val (.ref b10), .unset, .unset] [(.ref mr_61), (.ref mr_50), (.ref b10)])) rfl (by rw [hml]; rfl) (Steps.refl _) (argsL := [(.ref mr_50), (.ref mr_61)]) (rest := []) (lenOf pd__Ljava_lang_String_Ljava_lang_String__Z rfl) rfl (by show 2 * 0 + _ ≤ _; exact Nat.le_of_eq rfl) (hb hby at_57) (fun _ _ => ⟨rfl, e61, (by decide : 29 + 0 ≤ _), (by decide : 113 + 0 ≤ _)⟩)
  dsimp only [Pt.U, Pt.locs, Pt.cells, Pt.slots] at X86' l86 y86 z86 st86 hQ86
  subst l86 y86 z86
  obtain ⟨rfl, N86q, e86⟩ := hQ86
  obtain ⟨lc86, X86, N86⟩ : ∃ lc, Stand p l e room_1 (s.setVm T61.vm) m #[(.int p1), (.int p2), (.int p3), (.int p4), (.int p5)] below meth c T86 lc 29 113 ∧ Fr n0 lc := ⟨_, X86', Fr.app N61 N86q⟩
  have K87 : Gx p e below s₁ f0 T86 (mkF m 60 #[.val (.int p1), .val (.int p2), .val (.int p3), .val (.int p4), .val (.int p5), .val (.int v2), .val (.int v6), .val (.ref b10), .unset, .unset] [(.int (isF (latF (p1 &&& (3 : Int32)) (v2 &&& (3 : Int32)) (bF p1 (2 : Int32)) (bF p1 (10 : Int32)) (bF p1 (18 : Int32)) (bF v2 (2 : Int32)) (bF v2 (10 : Int32)) (bF v2 (18 : Int32))) (latF (p2 &&& (3 : Int32)) (v6 &&& (3 : Int32)) (bF p2 (2 : Int32)) (bF p2 (10 : Int32)) (bF p2 (18 : Int32)) (bF v6 (2 : Int32)) (bF v6 (10 : Int32)) (bF v6 (18 : Int32)))))]) := fun t kt => K68 t (st86.trans kt)
  have K88 : Gx p e below s₁ f0 T86 (mkF m 65 #[.val (.int p1), .val (.int p2), .val (.int p3), .val (.int p4), .val (.int p5), .val (.int v2), .val (.int v6), .val (.ref b10), .val (.int (isF (latF (p1 &&& (3 : Int32)) (v2 &&& (3 : Int32)) (bF p1 (2 : Int32)) (bF p1 (10 : Int32)) (bF p1 (18 : Int32)) (bF v2 (2 : Int32)) (bF v2 (10 : Int32)) (bF v2 (18 : Int32))) (latF (p2 &&& (3 : Int32)) (v6 &&& (3 : Int32)) (bF p2 (2 : Int32)) (bF p2 (10 : Int32)) (bF p2 (18 : Int32)) (bF v6 (2 : Int32)) (bF v6 (10 : Int32)) (bF v6 (18 : Int32))))), .unset] [(.int v2), (.int p1)]) := fun t kt => K87 t (by
    show Steps p.tables e below (T86.setTop (mkF m 60 #[.val (.int p1), .val (.int p2), .val (.int p3), .val (.int p4), .val (.int p5), .val (.int v2), .val (.int v6), .val (.ref b10), .unset, .unset] [(.int (isF (latF (p1 &&& (3 : Int32)) (v2 &&& (3 : Int32)) (bF p1 (2 : Int32)) (bF p1 (10 : Int32)) (bF p1 (18 : Int32)) (bF v2 (2 : Int32)) (bF v2 (10 : Int32)) (bF v2 (18 : Int32))) (latF (p2 &&& (3 : Int32)) (v6 &&& (3 : Int32)) (bF p2 (2 : Int32)) (bF p2 (10 : Int32)) (bF p2 (18 : Int32)) (bF v6 (2 : Int32)) (bF v6 (10 : Int32)) (bF v6 (18 : Int32)))))])) _
    refine XS.istore X86.here hx rfl (hb hby at_60) rfl (l' := #[.val (.int p1), .val (.int p2), .val (.int p3), .val (.int p4), .val (.int p5), .val (.int v2), .val (.int v6), .val (.ref b10), .val (.int (isF (latF (p1 &&& (3 : Int32)) (v2 &&& (3 : Int32)) (bF p1 (2 : Int32)) (bF p1 (10 : Int32)) (bF p1 (18 : Int32)) (bF v2 (2 : Int32)) (bF v2 (10 : Int32)) (bF v2 (18 : Int32))) (latF (p2 &&& (3 : Int32)) (v6 &&& (3 : Int32)) (bF p2 (2 : Int32)) (bF p2 (10 : Int32)) (bF p2 (18 : Int32)) (bF v6 (2 : Int32)) (bF v6 (10 : Int32)) (bF v6 (18 : Int32))))), .unset]) rfl ?_
    show Steps p.tables e below (T86.setTop (mkF m 62 #[.val (.int p1), .val (.int p2), .val (.int p3), .val (.int p4), .val (.int p5), .val (.int v2), .val (.int v6), .val (.ref b10), .val (.int (isF (latF (p1 &&& (3 : Int32)) (v2 &&& (3 : Int32)) (bF p1 (2 : Int32)) (bF p1 (10 : Int32)) (bF p1 (18 : Int32)) (bF v2 (2 : Int32)) (bF v2 (10 : Int32)) (bF v2 (18 : Int32))) (latF (p2 &&& (3 : Int32)) (v6 &&& (3 : Int32)) (bF p2 (2 : Int32)) (bF p2 (10 : Int32)) (bF p2 (18 : Int32)) (bF v6 (2 : Int32)) (bF v6 (10 : Int32)) (bF v6 (18 : Int32))))), .unset] [])) _
    refine XS.iloadN X86.here hx rfl (hb hby at_62) rfl ?_
    show Steps p.tables e below (T86.setTop (mkF m 63 #[.val (.int p1), .val (.int p2), .val (.int p3), .val (.int p4), .val (.int p5), .val (.int v2), .val (.int v6), .val (.ref b10), .val (.int (isF (latF (p1 &&& (3 : Int32)) (v2 &&& (3 : Int32)) (bF p1 (2 : Int32)) (bF p1 (10 : Int32)) (bF p1 (18 : Int32)) (bF v2 (2 : Int32)) (bF v2 (10 : Int32)) (bF v2 (18 : Int32))) (latF (p2 &&& (3 : Int32)) (v6 &&& (3 : Int32)) (bF p2 (2 : Int32)) (bF p2 (10 : Int32)) (bF p2 (18 : Int32)) (bF v6 (2 : Int32)) (bF v6 (10 : Int32)) (bF v6 (18 : Int32))))), .unset] [(.int p1)])) _
    refine XS.iload X86.here hx rfl (hb hby at_63) rfl ?_
    exact kt)
  obtain ⟨_, _, ⟨T89, L89, k89, n89⟩, -, X89', ⟨Lc89, hQ89, l89, y89, z89⟩, st89⟩ := Jvm.LawKit.callS X86 hx (y := (⟨"com/example/stanzacall/stanzacall/xml/ElementIsPinLaw", "sameText", "(II)Z"⟩ : MethodName)) hown (mvT hZ (hw _ (List.mem_of_getElem? (i := 70) rfl))) (mvT hZ (hw _ (List.mem_of_getElem? (i := 71) rfl))) (mvT hZ (hw _ (List.mem_of_getElem? (i := 5) rfl))) (mvT hZ (hw _ (List.mem_of_getElem? (i := 72) rfl))) (by decide) (backOf (W := 0) (rmSt l Z a0 hw [] p1 v2 h61 n0 (Nat.le_trans Z0 kp85.1) ) hZ (hw _ (List.mem_of_getElem? (i := 72) rfl)) (hw _ (List.mem_of_getElem? (i := 5) rfl)) (by decide) (by decide)) (g := (mkF m 65 #[.val (.int p1), .val (.int p2), .val (.int p3), .val (.int p4), .val (.int p5), .val (.int v2), .val (.int v6), .val (.ref b10), .val (.int (isF (latF (p1 &&& (3 : Int32)) (v2 &&& (3 : Int32)) (bF p1 (2 : Int32)) (bF p1 (10 : Int32)) (bF p1 (18 : Int32)) (bF v2 (2 : Int32)) (bF v2 (10 : Int32)) (bF v2 (18 : Int32))) (latF (p2 &&& (3 : Int32)) (v6 &&& (3 : Int32)) (bF p2 (2 : Int32)) (bF p2 (10 : Int32)) (bF p2 (18 : Int32)) (bF v6 (2 : Int32)) (bF v6 (10 : Int32)) (bF v6 (18 : Int32))))), .unset] [(.int v2), (.int p1)])) rfl (by rw [hml]; rfl) (argsL := [(.int p1), (.int v2)]) (rest := []) (lenOf pd__II_Z rfl) rfl (by show 2 * 0 + _ ≤ _; exact Nat.le_of_eq rfl) (hb hby at_65) (fun _ _ => ⟨rfl, e86, (by decide : 29 + 0 ≤ _), (by decide : 113 + 0 ≤ _)⟩)
  dsimp only [Pt.U, Pt.locs, Pt.cells, Pt.slots] at X89' l89 y89 z89 st89 hQ89
  subst l89 y89 z89
  obtain ⟨rfl, N89q, e89⟩ := hQ89
  obtain ⟨lc89, X89, N89⟩ : ∃ lc, Stand p l e room_1 (s.setVm T61.vm) m #[(.int p1), (.int p2), (.int p3), (.int p4), (.int p5)] below meth c T89 lc 29 113 ∧ Fr n0 lc := ⟨_, X89', Fr.app N86 N89q⟩
  have K90 : Gx p e below s₁ f0 T89 (mkF m 68 #[.val (.int p1), .val (.int p2), .val (.int p3), .val (.int p4), .val (.int p5), .val (.int v2), .val (.int v6), .val (.ref b10), .val (.int (isF (latF (p1 &&& (3 : Int32)) (v2 &&& (3 : Int32)) (bF p1 (2 : Int32)) (bF p1 (10 : Int32)) (bF p1 (18 : Int32)) (bF v2 (2 : Int32)) (bF v2 (10 : Int32)) (bF v2 (18 : Int32))) (latF (p2 &&& (3 : Int32)) (v6 &&& (3 : Int32)) (bF p2 (2 : Int32)) (bF p2 (10 : Int32)) (bF p2 (18 : Int32)) (bF v6 (2 : Int32)) (bF v6 (10 : Int32)) (bF v6 (18 : Int32))))), .unset] [(.int (stF p1 v2))]) := fun t kt => K88 t (st89 t kt)
  by_cases hb91 : (stF p1 v2) = (0 : Int32)
  · skip
    have K92 : Gx p e below s₁ f0 T89 (mkF m 99 #[.val (.int p1), .val (.int p2), .val (.int p3), .val (.int p4), .val (.int p5), .val (.int v2), .val (.int v6), .val (.ref b10), .val (.int (isF (latF (p1 &&& (3 : Int32)) (v2 &&& (3 : Int32)) (bF p1 (2 : Int32)) (bF p1 (10 : Int32)) (bF p1 (18 : Int32)) (bF v2 (2 : Int32)) (bF v2 (10 : Int32)) (bF v2 (18 : Int32))) (latF (p2 &&& (3 : Int32)) (v6 &&& (3 : Int32)) (bF p2 (2 : Int32)) (bF p2 (10 : Int32)) (bF p2 (18 : Int32)) (bF v6 (2 : Int32)) (bF v6 (10 : Int32)) (bF v6 (18 : Int32))))), .val (.int (0 : Int32))] [(.int (1 : Int32))]) := fun t kt => K90 t (by
      show Steps p.tables e below (T89.setTop (mkF m 68 #[.val (.int p1), .val (.int p2), .val (.int p3), .val (.int p4), .val (.int p5), .val (.int v2), .val (.int v6), .val (.ref b10), .val (.int (isF (latF (p1 &&& (3 : Int32)) (v2 &&& (3 : Int32)) (bF p1 (2 : Int32)) (bF p1 (10 : Int32)) (bF p1 (18 : Int32)) (bF v2 (2 : Int32)) (bF v2 (10 : Int32)) (bF v2 (18 : Int32))) (latF (p2 &&& (3 : Int32)) (v6 &&& (3 : Int32)) (bF p2 (2 : Int32)) (bF p2 (10 : Int32)) (bF p2 (18 : Int32)) (bF v6 (2 : Int32)) (bF v6 (10 : Int32)) (bF v6 (18 : Int32))))), .unset] [(.int (stF p1 v2))])) _
      refine XS.ifYes X89.here hx rfl (pc0 := 68) (pc' := 84) rfl (hb hby at_68) rfl ((if0 _ _).trans (teq hb91).1) (by decide) (by decide) ?_
      show Steps p.tables e below (T89.setTop (mkF m 84 #[.val (.int p1), .val (.int p2), .val (.int p3), .val (.int p4), .val (.int p5), .val (.int v2), .val (.int v6), .val (.ref b10), .val (.int (isF (latF (p1 &&& (3 : Int32)) (v2 &&& (3 : Int32)) (bF p1 (2 : Int32)) (bF p1 (10 : Int32)) (bF p1 (18 : Int32)) (bF v2 (2 : Int32)) (bF v2 (10 : Int32)) (bF v2 (18 : Int32))) (latF (p2 &&& (3 : Int32)) (v6 &&& (3 : Int32)) (bF p2 (2 : Int32)) (bF p2 (10 : Int32)) (bF p2 (18 : Int32)) (bF v6 (2 : Int32)) (bF v6 (10 : Int32)) (bF v6 (18 : Int32))))), .unset] [])) _
      refine XS.iconst X89.here hx rfl (hb hby at_84) ?_
      show Steps p.tables e below (T89.setTop (mkF m 85 #[.val (.int p1), .val (.int p2), .val (.int p3), .val (.int p4), .val (.int p5), .val (.int v2), .val (.int v6), .val (.ref b10), .val (.int (isF (latF (p1 &&& (3 : Int32)) (v2 &&& (3 : Int32)) (bF p1 (2 : Int32)) (bF p1 (10 : Int32)) (bF p1 (18 : Int32)) (bF v2 (2 : Int32)) (bF v2 (10 : Int32)) (bF v2 (18 : Int32))) (latF (p2 &&& (3 : Int32)) (v6 &&& (3 : Int32)) (bF p2 (2 : Int32)) (bF p2 (10 : Int32)) (bF p2 (18 : Int32)) (bF v6 (2 : Int32)) (bF v6 (10 : Int32)) (bF v6 (18 : Int32))))), .unset] [(.int (0 : Int32))])) _
      refine XS.istore X89.here hx rfl (hb hby at_85) rfl (l' := #[.val (.int p1), .val (.int p2), .val (.int p3), .val (.int p4), .val (.int p5), .val (.int v2), .val (.int v6), .val (.ref b10), .val (.int (isF (latF (p1 &&& (3 : Int32)) (v2 &&& (3 : Int32)) (bF p1 (2 : Int32)) (bF p1 (10 : Int32)) (bF p1 (18 : Int32)) (bF v2 (2 : Int32)) (bF v2 (10 : Int32)) (bF v2 (18 : Int32))) (latF (p2 &&& (3 : Int32)) (v6 &&& (3 : Int32)) (bF p2 (2 : Int32)) (bF p2 (10 : Int32)) (bF p2 (18 : Int32)) (bF v6 (2 : Int32)) (bF v6 (10 : Int32)) (bF v6 (18 : Int32))))), .val (.int (0 : Int32))]) rfl ?_
      show Steps p.tables e below (T89.setTop (mkF m 87 #[.val (.int p1), .val (.int p2), .val (.int p3), .val (.int p4), .val (.int p5), .val (.int v2), .val (.int v6), .val (.ref b10), .val (.int (isF (latF (p1 &&& (3 : Int32)) (v2 &&& (3 : Int32)) (bF p1 (2 : Int32)) (bF p1 (10 : Int32)) (bF p1 (18 : Int32)) (bF v2 (2 : Int32)) (bF v2 (10 : Int32)) (bF v2 (18 : Int32))) (latF (p2 &&& (3 : Int32)) (v6 &&& (3 : Int32)) (bF p2 (2 : Int32)) (bF p2 (10 : Int32)) (bF p2 (18 : Int32)) (bF v6 (2 : Int32)) (bF v6 (10 : Int32)) (bF v6 (18 : Int32))))), .val (.int (0 : Int32))] [])) _
      refine XS.iload X89.here hx rfl (hb hby at_87) rfl ?_
      show Steps p.tables e below (T89.setTop (mkF m 89 #[.val (.int p1), .val (.int p2), .val (.int p3), .val (.int p4), .val (.int p5), .val (.int v2), .val (.int v6), .val (.ref b10), .val (.int (isF (latF (p1 &&& (3 : Int32)) (v2 &&& (3 : Int32)) (bF p1 (2 : Int32)) (bF p1 (10 : Int32)) (bF p1 (18 : Int32)) (bF v2 (2 : Int32)) (bF v2 (10 : Int32)) (bF v2 (18 : Int32))) (latF (p2 &&& (3 : Int32)) (v6 &&& (3 : Int32)) (bF p2 (2 : Int32)) (bF p2 (10 : Int32)) (bF p2 (18 : Int32)) (bF v6 (2 : Int32)) (bF v6 (10 : Int32)) (bF v6 (18 : Int32))))), .val (.int (0 : Int32))] [(.int (isF (latF (p1 &&& (3 : Int32)) (v2 &&& (3 : Int32)) (bF p1 (2 : Int32)) (bF p1 (10 : Int32)) (bF p1 (18 : Int32)) (bF v2 (2 : Int32)) (bF v2 (10 : Int32)) (bF v2 (18 : Int32))) (latF (p2 &&& (3 : Int32)) (v6 &&& (3 : Int32)) (bF p2 (2 : Int32)) (bF p2 (10 : Int32)) (bF p2 (18 : Int32)) (bF v6 (2 : Int32)) (bF v6 (10 : Int32)) (bF v6 (18 : Int32)))))])) _
      refine XS.iload X89.here hx rfl (hb hby at_89) rfl ?_
      show Steps p.tables e below (T89.setTop (mkF m 91 #[.val (.int p1), .val (.int p2), .val (.int p3), .val (.int p4), .val (.int p5), .val (.int v2), .val (.int v6), .val (.ref b10), .val (.int (isF (latF (p1 &&& (3 : Int32)) (v2 &&& (3 : Int32)) (bF p1 (2 : Int32)) (bF p1 (10 : Int32)) (bF p1 (18 : Int32)) (bF v2 (2 : Int32)) (bF v2 (10 : Int32)) (bF v2 (18 : Int32))) (latF (p2 &&& (3 : Int32)) (v6 &&& (3 : Int32)) (bF p2 (2 : Int32)) (bF p2 (10 : Int32)) (bF p2 (18 : Int32)) (bF v6 (2 : Int32)) (bF v6 (10 : Int32)) (bF v6 (18 : Int32))))), .val (.int (0 : Int32))] [(.int (0 : Int32)), (.int (isF (latF (p1 &&& (3 : Int32)) (v2 &&& (3 : Int32)) (bF p1 (2 : Int32)) (bF p1 (10 : Int32)) (bF p1 (18 : Int32)) (bF v2 (2 : Int32)) (bF v2 (10 : Int32)) (bF v2 (18 : Int32))) (latF (p2 &&& (3 : Int32)) (v6 &&& (3 : Int32)) (bF p2 (2 : Int32)) (bF p2 (10 : Int32)) (bF p2 (18 : Int32)) (bF v6 (2 : Int32)) (bF v6 (10 : Int32)) (bF v6 (18 : Int32)))))])) _
      refine XS.icmpNo X89.here hx rfl (hb hby at_91) rfl (teq (by rw [own_main p1 v2, own_main p2 v6]; unfold isF; simp only [if_pos hb91])).2 ?_
      show Steps p.tables e below (T89.setTop (mkF m 94 #[.val (.int p1), .val (.int p2), .val (.int p3), .val (.int p4), .val (.int p5), .val (.int v2), .val (.int v6), .val (.ref b10), .val (.int (isF (latF (p1 &&& (3 : Int32)) (v2 &&& (3 : Int32)) (bF p1 (2 : Int32)) (bF p1 (10 : Int32)) (bF p1 (18 : Int32)) (bF v2 (2 : Int32)) (bF v2 (10 : Int32)) (bF v2 (18 : Int32))) (latF (p2 &&& (3 : Int32)) (v6 &&& (3 : Int32)) (bF p2 (2 : Int32)) (bF p2 (10 : Int32)) (bF p2 (18 : Int32)) (bF v6 (2 : Int32)) (bF v6 (10 : Int32)) (bF v6 (18 : Int32))))), .val (.int (0 : Int32))] [])) _
      refine XS.iconst X89.here hx rfl (hb hby at_94) ?_
      show Steps p.tables e below (T89.setTop (mkF m 95 #[.val (.int p1), .val (.int p2), .val (.int p3), .val (.int p4), .val (.int p5), .val (.int v2), .val (.int v6), .val (.ref b10), .val (.int (isF (latF (p1 &&& (3 : Int32)) (v2 &&& (3 : Int32)) (bF p1 (2 : Int32)) (bF p1 (10 : Int32)) (bF p1 (18 : Int32)) (bF v2 (2 : Int32)) (bF v2 (10 : Int32)) (bF v2 (18 : Int32))) (latF (p2 &&& (3 : Int32)) (v6 &&& (3 : Int32)) (bF p2 (2 : Int32)) (bF p2 (10 : Int32)) (bF p2 (18 : Int32)) (bF v6 (2 : Int32)) (bF v6 (10 : Int32)) (bF v6 (18 : Int32))))), .val (.int (0 : Int32))] [(.int (1 : Int32))])) _
      refine XS.goto X89.here hx rfl (pc0 := 95) (pc' := 99) rfl (hb hby at_95) (by decide) (by decide) ?_
      exact kt)
    have CR93_ := CR67.trans (CHv.at X89 hZ (own_EW hw) CR67.1)
    obtain ⟨fs93, hr93, hrun93, hended93, hRW93⟩ := X89.leaveW hS61 (show _ ≤ T89.heap.size by first | (rw [e89]; exact (Nat.le_of_eq (congrArg Array.size e61))) | exact Nat.le_refl _) (v := some (.int (1 : Int32))) (fun h => by rw [Bd.returns] at h; cases h)
    refine ⟨_, _, pre0 _ (K92 _ ?_), hrun93, hended93, _, _, rfl, ?_, ?_, hRW93.1, hRW93.2.1, hRW93.2.2.1, hRW93.2.2.2.mono (by decide) (by decide)⟩
    · exact retN X89 hx (t := .boolean) Bd.returns (by simp) (hb hby at_99) hr93
    · show Q0 Z p1 p2 p3 p4 p5 cw h0 n0 _ T89.heap _
      rw [e89]
      exact ⟨rfl, N89⟩
    · show CHr Z ELx s.vm s.heap T89.vm T89.heap
      rw [e89]
      exact hs0 ▸ CR93_
  · skip
    have K94 : Gx p e below s₁ f0 T89 (mkF m 74 #[.val (.int p1), .val (.int p2), .val (.int p3), .val (.int p4), .val (.int p5), .val (.int v2), .val (.int v6), .val (.ref b10), .val (.int (isF (latF (p1 &&& (3 : Int32)) (v2 &&& (3 : Int32)) (bF p1 (2 : Int32)) (bF p1 (10 : Int32)) (bF p1 (18 : Int32)) (bF v2 (2 : Int32)) (bF v2 (10 : Int32)) (bF v2 (18 : Int32))) (latF (p2 &&& (3 : Int32)) (v6 &&& (3 : Int32)) (bF p2 (2 : Int32)) (bF p2 (10 : Int32)) (bF p2 (18 : Int32)) (bF v6 (2 : Int32)) (bF v6 (10 : Int32)) (bF v6 (18 : Int32))))), .unset] [(.int v6), (.int p2)]) := fun t kt => K90 t (by
      show Steps p.tables e below (T89.setTop (mkF m 68 #[.val (.int p1), .val (.int p2), .val (.int p3), .val (.int p4), .val (.int p5), .val (.int v2), .val (.int v6), .val (.ref b10), .val (.int (isF (latF (p1 &&& (3 : Int32)) (v2 &&& (3 : Int32)) (bF p1 (2 : Int32)) (bF p1 (10 : Int32)) (bF p1 (18 : Int32)) (bF v2 (2 : Int32)) (bF v2 (10 : Int32)) (bF v2 (18 : Int32))) (latF (p2 &&& (3 : Int32)) (v6 &&& (3 : Int32)) (bF p2 (2 : Int32)) (bF p2 (10 : Int32)) (bF p2 (18 : Int32)) (bF v6 (2 : Int32)) (bF v6 (10 : Int32)) (bF v6 (18 : Int32))))), .unset] [(.int (stF p1 v2))])) _
      refine XS.ifNo X89.here hx rfl (hb hby at_68) rfl ((if0 _ _).trans (feq hb91).1) ?_
      show Steps p.tables e below (T89.setTop (mkF m 71 #[.val (.int p1), .val (.int p2), .val (.int p3), .val (.int p4), .val (.int p5), .val (.int v2), .val (.int v6), .val (.ref b10), .val (.int (isF (latF (p1 &&& (3 : Int32)) (v2 &&& (3 : Int32)) (bF p1 (2 : Int32)) (bF p1 (10 : Int32)) (bF p1 (18 : Int32)) (bF v2 (2 : Int32)) (bF v2 (10 : Int32)) (bF v2 (18 : Int32))) (latF (p2 &&& (3 : Int32)) (v6 &&& (3 : Int32)) (bF p2 (2 : Int32)) (bF p2 (10 : Int32)) (bF p2 (18 : Int32)) (bF v6 (2 : Int32)) (bF v6 (10 : Int32)) (bF v6 (18 : Int32))))), .unset] [])) _
      refine XS.iloadN X89.here hx rfl (hb hby at_71) rfl ?_
      show Steps p.tables e below (T89.setTop (mkF m 72 #[.val (.int p1), .val (.int p2), .val (.int p3), .val (.int p4), .val (.int p5), .val (.int v2), .val (.int v6), .val (.ref b10), .val (.int (isF (latF (p1 &&& (3 : Int32)) (v2 &&& (3 : Int32)) (bF p1 (2 : Int32)) (bF p1 (10 : Int32)) (bF p1 (18 : Int32)) (bF v2 (2 : Int32)) (bF v2 (10 : Int32)) (bF v2 (18 : Int32))) (latF (p2 &&& (3 : Int32)) (v6 &&& (3 : Int32)) (bF p2 (2 : Int32)) (bF p2 (10 : Int32)) (bF p2 (18 : Int32)) (bF v6 (2 : Int32)) (bF v6 (10 : Int32)) (bF v6 (18 : Int32))))), .unset] [(.int p2)])) _
      refine XS.iload X89.here hx rfl (hb hby at_72) rfl ?_
      exact kt)
    obtain ⟨_, _, ⟨T95, L95, k95, n95⟩, -, X95', ⟨Lc95, hQ95, l95, y95, z95⟩, st95⟩ := Jvm.LawKit.callS X89 hx (y := (⟨"com/example/stanzacall/stanzacall/xml/ElementIsPinLaw", "sameText", "(II)Z"⟩ : MethodName)) hown (mvT hZ (hw _ (List.mem_of_getElem? (i := 70) rfl))) (mvT hZ (hw _ (List.mem_of_getElem? (i := 71) rfl))) (mvT hZ (hw _ (List.mem_of_getElem? (i := 5) rfl))) (mvT hZ (hw _ (List.mem_of_getElem? (i := 72) rfl))) (by decide) (backOf (W := 0) (rmSt l Z a0 hw [] p2 v6 h61 n0 (Nat.le_trans Z0 kp85.1) ) hZ (hw _ (List.mem_of_getElem? (i := 72) rfl)) (hw _ (List.mem_of_getElem? (i := 5) rfl)) (by decide) (by decide)) (g := (mkF m 74 #[.val (.int p1), .val (.int p2), .val (.int p3), .val (.int p4), .val (.int p5), .val (.int v2), .val (.int v6), .val (.ref b10), .val (.int (isF (latF (p1 &&& (3 : Int32)) (v2 &&& (3 : Int32)) (bF p1 (2 : Int32)) (bF p1 (10 : Int32)) (bF p1 (18 : Int32)) (bF v2 (2 : Int32)) (bF v2 (10 : Int32)) (bF v2 (18 : Int32))) (latF (p2 &&& (3 : Int32)) (v6 &&& (3 : Int32)) (bF p2 (2 : Int32)) (bF p2 (10 : Int32)) (bF p2 (18 : Int32)) (bF v6 (2 : Int32)) (bF v6 (10 : Int32)) (bF v6 (18 : Int32))))), .unset] [(.int v6), (.int p2)])) rfl (by rw [hml]; rfl) (argsL := [(.int p2), (.int v6)]) (rest := []) (lenOf pd__II_Z rfl) rfl (by show 2 * 0 + _ ≤ _; exact Nat.le_of_eq rfl) (hb hby at_74) (fun _ _ => ⟨rfl, e89, (by decide : 29 + 0 ≤ _), (by decide : 113 + 0 ≤ _)⟩)
    dsimp only [Pt.U, Pt.locs, Pt.cells, Pt.slots] at X95' l95 y95 z95 st95 hQ95
    subst l95 y95 z95
    obtain ⟨rfl, N95q, e95⟩ := hQ95
    obtain ⟨lc95, X95, N95⟩ : ∃ lc, Stand p l e room_1 (s.setVm T61.vm) m #[(.int p1), (.int p2), (.int p3), (.int p4), (.int p5)] below meth c T95 lc 29 113 ∧ Fr n0 lc := ⟨_, X95', Fr.app N89 N95q⟩
    have K96 : Gx p e below s₁ f0 T95 (mkF m 77 #[.val (.int p1), .val (.int p2), .val (.int p3), .val (.int p4), .val (.int p5), .val (.int v2), .val (.int v6), .val (.ref b10), .val (.int (isF (latF (p1 &&& (3 : Int32)) (v2 &&& (3 : Int32)) (bF p1 (2 : Int32)) (bF p1 (10 : Int32)) (bF p1 (18 : Int32)) (bF v2 (2 : Int32)) (bF v2 (10 : Int32)) (bF v2 (18 : Int32))) (latF (p2 &&& (3 : Int32)) (v6 &&& (3 : Int32)) (bF p2 (2 : Int32)) (bF p2 (10 : Int32)) (bF p2 (18 : Int32)) (bF v6 (2 : Int32)) (bF v6 (10 : Int32)) (bF v6 (18 : Int32))))), .unset] [(.int (stF p2 v6))]) := fun t kt => K94 t (st95 t kt)
    by_cases hb97 : (stF p2 v6) = (0 : Int32)
    · skip
      have K98 : Gx p e below s₁ f0 T95 (mkF m 99 #[.val (.int p1), .val (.int p2), .val (.int p3), .val (.int p4), .val (.int p5), .val (.int v2), .val (.int v6), .val (.ref b10), .val (.int (isF (latF (p1 &&& (3 : Int32)) (v2 &&& (3 : Int32)) (bF p1 (2 : Int32)) (bF p1 (10 : Int32)) (bF p1 (18 : Int32)) (bF v2 (2 : Int32)) (bF v2 (10 : Int32)) (bF v2 (18 : Int32))) (latF (p2 &&& (3 : Int32)) (v6 &&& (3 : Int32)) (bF p2 (2 : Int32)) (bF p2 (10 : Int32)) (bF p2 (18 : Int32)) (bF v6 (2 : Int32)) (bF v6 (10 : Int32)) (bF v6 (18 : Int32))))), .val (.int (0 : Int32))] [(.int (1 : Int32))]) := fun t kt => K96 t (by
        show Steps p.tables e below (T95.setTop (mkF m 77 #[.val (.int p1), .val (.int p2), .val (.int p3), .val (.int p4), .val (.int p5), .val (.int v2), .val (.int v6), .val (.ref b10), .val (.int (isF (latF (p1 &&& (3 : Int32)) (v2 &&& (3 : Int32)) (bF p1 (2 : Int32)) (bF p1 (10 : Int32)) (bF p1 (18 : Int32)) (bF v2 (2 : Int32)) (bF v2 (10 : Int32)) (bF v2 (18 : Int32))) (latF (p2 &&& (3 : Int32)) (v6 &&& (3 : Int32)) (bF p2 (2 : Int32)) (bF p2 (10 : Int32)) (bF p2 (18 : Int32)) (bF v6 (2 : Int32)) (bF v6 (10 : Int32)) (bF v6 (18 : Int32))))), .unset] [(.int (stF p2 v6))])) _
        refine XS.ifYes X95.here hx rfl (pc0 := 77) (pc' := 84) rfl (hb hby at_77) rfl ((if0 _ _).trans (teq hb97).1) (by decide) (by decide) ?_
        show Steps p.tables e below (T95.setTop (mkF m 84 #[.val (.int p1), .val (.int p2), .val (.int p3), .val (.int p4), .val (.int p5), .val (.int v2), .val (.int v6), .val (.ref b10), .val (.int (isF (latF (p1 &&& (3 : Int32)) (v2 &&& (3 : Int32)) (bF p1 (2 : Int32)) (bF p1 (10 : Int32)) (bF p1 (18 : Int32)) (bF v2 (2 : Int32)) (bF v2 (10 : Int32)) (bF v2 (18 : Int32))) (latF (p2 &&& (3 : Int32)) (v6 &&& (3 : Int32)) (bF p2 (2 : Int32)) (bF p2 (10 : Int32)) (bF p2 (18 : Int32)) (bF v6 (2 : Int32)) (bF v6 (10 : Int32)) (bF v6 (18 : Int32))))), .unset] [])) _
        refine XS.iconst X95.here hx rfl (hb hby at_84) ?_
        show Steps p.tables e below (T95.setTop (mkF m 85 #[.val (.int p1), .val (.int p2), .val (.int p3), .val (.int p4), .val (.int p5), .val (.int v2), .val (.int v6), .val (.ref b10), .val (.int (isF (latF (p1 &&& (3 : Int32)) (v2 &&& (3 : Int32)) (bF p1 (2 : Int32)) (bF p1 (10 : Int32)) (bF p1 (18 : Int32)) (bF v2 (2 : Int32)) (bF v2 (10 : Int32)) (bF v2 (18 : Int32))) (latF (p2 &&& (3 : Int32)) (v6 &&& (3 : Int32)) (bF p2 (2 : Int32)) (bF p2 (10 : Int32)) (bF p2 (18 : Int32)) (bF v6 (2 : Int32)) (bF v6 (10 : Int32)) (bF v6 (18 : Int32))))), .unset] [(.int (0 : Int32))])) _
        refine XS.istore X95.here hx rfl (hb hby at_85) rfl (l' := #[.val (.int p1), .val (.int p2), .val (.int p3), .val (.int p4), .val (.int p5), .val (.int v2), .val (.int v6), .val (.ref b10), .val (.int (isF (latF (p1 &&& (3 : Int32)) (v2 &&& (3 : Int32)) (bF p1 (2 : Int32)) (bF p1 (10 : Int32)) (bF p1 (18 : Int32)) (bF v2 (2 : Int32)) (bF v2 (10 : Int32)) (bF v2 (18 : Int32))) (latF (p2 &&& (3 : Int32)) (v6 &&& (3 : Int32)) (bF p2 (2 : Int32)) (bF p2 (10 : Int32)) (bF p2 (18 : Int32)) (bF v6 (2 : Int32)) (bF v6 (10 : Int32)) (bF v6 (18 : Int32))))), .val (.int (0 : Int32))]) rfl ?_
        show Steps p.tables e below (T95.setTop (mkF m 87 #[.val (.int p1), .val (.int p2), .val (.int p3), .val (.int p4), .val (.int p5), .val (.int v2), .val (.int v6), .val (.ref b10), .val (.int (isF (latF (p1 &&& (3 : Int32)) (v2 &&& (3 : Int32)) (bF p1 (2 : Int32)) (bF p1 (10 : Int32)) (bF p1 (18 : Int32)) (bF v2 (2 : Int32)) (bF v2 (10 : Int32)) (bF v2 (18 : Int32))) (latF (p2 &&& (3 : Int32)) (v6 &&& (3 : Int32)) (bF p2 (2 : Int32)) (bF p2 (10 : Int32)) (bF p2 (18 : Int32)) (bF v6 (2 : Int32)) (bF v6 (10 : Int32)) (bF v6 (18 : Int32))))), .val (.int (0 : Int32))] [])) _
        refine XS.iload X95.here hx rfl (hb hby at_87) rfl ?_
        show Steps p.tables e below (T95.setTop (mkF m 89 #[.val (.int p1), .val (.int p2), .val (.int p3), .val (.int p4), .val (.int p5), .val (.int v2), .val (.int v6), .val (.ref b10), .val (.int (isF (latF (p1 &&& (3 : Int32)) (v2 &&& (3 : Int32)) (bF p1 (2 : Int32)) (bF p1 (10 : Int32)) (bF p1 (18 : Int32)) (bF v2 (2 : Int32)) (bF v2 (10 : Int32)) (bF v2 (18 : Int32))) (latF (p2 &&& (3 : Int32)) (v6 &&& (3 : Int32)) (bF p2 (2 : Int32)) (bF p2 (10 : Int32)) (bF p2 (18 : Int32)) (bF v6 (2 : Int32)) (bF v6 (10 : Int32)) (bF v6 (18 : Int32))))), .val (.int (0 : Int32))] [(.int (isF (latF (p1 &&& (3 : Int32)) (v2 &&& (3 : Int32)) (bF p1 (2 : Int32)) (bF p1 (10 : Int32)) (bF p1 (18 : Int32)) (bF v2 (2 : Int32)) (bF v2 (10 : Int32)) (bF v2 (18 : Int32))) (latF (p2 &&& (3 : Int32)) (v6 &&& (3 : Int32)) (bF p2 (2 : Int32)) (bF p2 (10 : Int32)) (bF p2 (18 : Int32)) (bF v6 (2 : Int32)) (bF v6 (10 : Int32)) (bF v6 (18 : Int32)))))])) _
        refine XS.iload X95.here hx rfl (hb hby at_89) rfl ?_
        show Steps p.tables e below (T95.setTop (mkF m 91 #[.val (.int p1), .val (.int p2), .val (.int p3), .val (.int p4), .val (.int p5), .val (.int v2), .val (.int v6), .val (.ref b10), .val (.int (isF (latF (p1 &&& (3 : Int32)) (v2 &&& (3 : Int32)) (bF p1 (2 : Int32)) (bF p1 (10 : Int32)) (bF p1 (18 : Int32)) (bF v2 (2 : Int32)) (bF v2 (10 : Int32)) (bF v2 (18 : Int32))) (latF (p2 &&& (3 : Int32)) (v6 &&& (3 : Int32)) (bF p2 (2 : Int32)) (bF p2 (10 : Int32)) (bF p2 (18 : Int32)) (bF v6 (2 : Int32)) (bF v6 (10 : Int32)) (bF v6 (18 : Int32))))), .val (.int (0 : Int32))] [(.int (0 : Int32)), (.int (isF (latF (p1 &&& (3 : Int32)) (v2 &&& (3 : Int32)) (bF p1 (2 : Int32)) (bF p1 (10 : Int32)) (bF p1 (18 : Int32)) (bF v2 (2 : Int32)) (bF v2 (10 : Int32)) (bF v2 (18 : Int32))) (latF (p2 &&& (3 : Int32)) (v6 &&& (3 : Int32)) (bF p2 (2 : Int32)) (bF p2 (10 : Int32)) (bF p2 (18 : Int32)) (bF v6 (2 : Int32)) (bF v6 (10 : Int32)) (bF v6 (18 : Int32)))))])) _
        refine XS.icmpNo X95.here hx rfl (hb hby at_91) rfl (teq (by rw [own_main p1 v2, own_main p2 v6]; unfold isF; simp only [if_neg hb91, if_pos hb97])).2 ?_
        show Steps p.tables e below (T95.setTop (mkF m 94 #[.val (.int p1), .val (.int p2), .val (.int p3), .val (.int p4), .val (.int p5), .val (.int v2), .val (.int v6), .val (.ref b10), .val (.int (isF (latF (p1 &&& (3 : Int32)) (v2 &&& (3 : Int32)) (bF p1 (2 : Int32)) (bF p1 (10 : Int32)) (bF p1 (18 : Int32)) (bF v2 (2 : Int32)) (bF v2 (10 : Int32)) (bF v2 (18 : Int32))) (latF (p2 &&& (3 : Int32)) (v6 &&& (3 : Int32)) (bF p2 (2 : Int32)) (bF p2 (10 : Int32)) (bF p2 (18 : Int32)) (bF v6 (2 : Int32)) (bF v6 (10 : Int32)) (bF v6 (18 : Int32))))), .val (.int (0 : Int32))] [])) _
        refine XS.iconst X95.here hx rfl (hb hby at_94) ?_
        show Steps p.tables e below (T95.setTop (mkF m 95 #[.val (.int p1), .val (.int p2), .val (.int p3), .val (.int p4), .val (.int p5), .val (.int v2), .val (.int v6), .val (.ref b10), .val (.int (isF (latF (p1 &&& (3 : Int32)) (v2 &&& (3 : Int32)) (bF p1 (2 : Int32)) (bF p1 (10 : Int32)) (bF p1 (18 : Int32)) (bF v2 (2 : Int32)) (bF v2 (10 : Int32)) (bF v2 (18 : Int32))) (latF (p2 &&& (3 : Int32)) (v6 &&& (3 : Int32)) (bF p2 (2 : Int32)) (bF p2 (10 : Int32)) (bF p2 (18 : Int32)) (bF v6 (2 : Int32)) (bF v6 (10 : Int32)) (bF v6 (18 : Int32))))), .val (.int (0 : Int32))] [(.int (1 : Int32))])) _
        refine XS.goto X95.here hx rfl (pc0 := 95) (pc' := 99) rfl (hb hby at_95) (by decide) (by decide) ?_
        exact kt)
      have CR99_ := CR67.trans (CHv.at X95 hZ (own_EW hw) CR67.1)
      obtain ⟨fs99, hr99, hrun99, hended99, hRW99⟩ := X95.leaveW hS61 (show _ ≤ T95.heap.size by first | (rw [e95]; exact (Nat.le_of_eq (congrArg Array.size e61))) | exact Nat.le_refl _) (v := some (.int (1 : Int32))) (fun h => by rw [Bd.returns] at h; cases h)
      refine ⟨_, _, pre0 _ (K98 _ ?_), hrun99, hended99, _, _, rfl, ?_, ?_, hRW99.1, hRW99.2.1, hRW99.2.2.1, hRW99.2.2.2.mono (by decide) (by decide)⟩
      · exact retN X95 hx (t := .boolean) Bd.returns (by simp) (hb hby at_99) hr99
      · show Q0 Z p1 p2 p3 p4 p5 cw h0 n0 _ T95.heap _
        rw [e95]
        exact ⟨rfl, N95⟩
      · show CHr Z ELx s.vm s.heap T95.vm T95.heap
        rw [e95]
        exact hs0 ▸ CR99_
    · skip
      have K100 : Gx p e below s₁ f0 T95 (mkF m 99 #[.val (.int p1), .val (.int p2), .val (.int p3), .val (.int p4), .val (.int p5), .val (.int v2), .val (.int v6), .val (.ref b10), .val (.int (isF (latF (p1 &&& (3 : Int32)) (v2 &&& (3 : Int32)) (bF p1 (2 : Int32)) (bF p1 (10 : Int32)) (bF p1 (18 : Int32)) (bF v2 (2 : Int32)) (bF v2 (10 : Int32)) (bF v2 (18 : Int32))) (latF (p2 &&& (3 : Int32)) (v6 &&& (3 : Int32)) (bF p2 (2 : Int32)) (bF p2 (10 : Int32)) (bF p2 (18 : Int32)) (bF v6 (2 : Int32)) (bF v6 (10 : Int32)) (bF v6 (18 : Int32))))), .val (.int (1 : Int32))] [(.int (1 : Int32))]) := fun t kt => K96 t (by
        show Steps p.tables e below (T95.setTop (mkF m 77 #[.val (.int p1), .val (.int p2), .val (.int p3), .val (.int p4), .val (.int p5), .val (.int v2), .val (.int v6), .val (.ref b10), .val (.int (isF (latF (p1 &&& (3 : Int32)) (v2 &&& (3 : Int32)) (bF p1 (2 : Int32)) (bF p1 (10 : Int32)) (bF p1 (18 : Int32)) (bF v2 (2 : Int32)) (bF v2 (10 : Int32)) (bF v2 (18 : Int32))) (latF (p2 &&& (3 : Int32)) (v6 &&& (3 : Int32)) (bF p2 (2 : Int32)) (bF p2 (10 : Int32)) (bF p2 (18 : Int32)) (bF v6 (2 : Int32)) (bF v6 (10 : Int32)) (bF v6 (18 : Int32))))), .unset] [(.int (stF p2 v6))])) _
        refine XS.ifNo X95.here hx rfl (hb hby at_77) rfl ((if0 _ _).trans (feq hb97).1) ?_
        show Steps p.tables e below (T95.setTop (mkF m 80 #[.val (.int p1), .val (.int p2), .val (.int p3), .val (.int p4), .val (.int p5), .val (.int v2), .val (.int v6), .val (.ref b10), .val (.int (isF (latF (p1 &&& (3 : Int32)) (v2 &&& (3 : Int32)) (bF p1 (2 : Int32)) (bF p1 (10 : Int32)) (bF p1 (18 : Int32)) (bF v2 (2 : Int32)) (bF v2 (10 : Int32)) (bF v2 (18 : Int32))) (latF (p2 &&& (3 : Int32)) (v6 &&& (3 : Int32)) (bF p2 (2 : Int32)) (bF p2 (10 : Int32)) (bF p2 (18 : Int32)) (bF v6 (2 : Int32)) (bF v6 (10 : Int32)) (bF v6 (18 : Int32))))), .unset] [])) _
        refine XS.iconst X95.here hx rfl (hb hby at_80) ?_
        show Steps p.tables e below (T95.setTop (mkF m 81 #[.val (.int p1), .val (.int p2), .val (.int p3), .val (.int p4), .val (.int p5), .val (.int v2), .val (.int v6), .val (.ref b10), .val (.int (isF (latF (p1 &&& (3 : Int32)) (v2 &&& (3 : Int32)) (bF p1 (2 : Int32)) (bF p1 (10 : Int32)) (bF p1 (18 : Int32)) (bF v2 (2 : Int32)) (bF v2 (10 : Int32)) (bF v2 (18 : Int32))) (latF (p2 &&& (3 : Int32)) (v6 &&& (3 : Int32)) (bF p2 (2 : Int32)) (bF p2 (10 : Int32)) (bF p2 (18 : Int32)) (bF v6 (2 : Int32)) (bF v6 (10 : Int32)) (bF v6 (18 : Int32))))), .unset] [(.int (1 : Int32))])) _
        refine XS.goto X95.here hx rfl (pc0 := 81) (pc' := 85) rfl (hb hby at_81) (by decide) (by decide) ?_
        show Steps p.tables e below (T95.setTop (mkF m 85 #[.val (.int p1), .val (.int p2), .val (.int p3), .val (.int p4), .val (.int p5), .val (.int v2), .val (.int v6), .val (.ref b10), .val (.int (isF (latF (p1 &&& (3 : Int32)) (v2 &&& (3 : Int32)) (bF p1 (2 : Int32)) (bF p1 (10 : Int32)) (bF p1 (18 : Int32)) (bF v2 (2 : Int32)) (bF v2 (10 : Int32)) (bF v2 (18 : Int32))) (latF (p2 &&& (3 : Int32)) (v6 &&& (3 : Int32)) (bF p2 (2 : Int32)) (bF p2 (10 : Int32)) (bF p2 (18 : Int32)) (bF v6 (2 : Int32)) (bF v6 (10 : Int32)) (bF v6 (18 : Int32))))), .unset] [(.int (1 : Int32))])) _
        refine XS.istore X95.here hx rfl (hb hby at_85) rfl (l' := #[.val (.int p1), .val (.int p2), .val (.int p3), .val (.int p4), .val (.int p5), .val (.int v2), .val (.int v6), .val (.ref b10), .val (.int (isF (latF (p1 &&& (3 : Int32)) (v2 &&& (3 : Int32)) (bF p1 (2 : Int32)) (bF p1 (10 : Int32)) (bF p1 (18 : Int32)) (bF v2 (2 : Int32)) (bF v2 (10 : Int32)) (bF v2 (18 : Int32))) (latF (p2 &&& (3 : Int32)) (v6 &&& (3 : Int32)) (bF p2 (2 : Int32)) (bF p2 (10 : Int32)) (bF p2 (18 : Int32)) (bF v6 (2 : Int32)) (bF v6 (10 : Int32)) (bF v6 (18 : Int32))))), .val (.int (1 : Int32))]) rfl ?_
        show Steps p.tables e below (T95.setTop (mkF m 87 #[.val (.int p1), .val (.int p2), .val (.int p3), .val (.int p4), .val (.int p5), .val (.int v2), .val (.int v6), .val (.ref b10), .val (.int (isF (latF (p1 &&& (3 : Int32)) (v2 &&& (3 : Int32)) (bF p1 (2 : Int32)) (bF p1 (10 : Int32)) (bF p1 (18 : Int32)) (bF v2 (2 : Int32)) (bF v2 (10 : Int32)) (bF v2 (18 : Int32))) (latF (p2 &&& (3 : Int32)) (v6 &&& (3 : Int32)) (bF p2 (2 : Int32)) (bF p2 (10 : Int32)) (bF p2 (18 : Int32)) (bF v6 (2 : Int32)) (bF v6 (10 : Int32)) (bF v6 (18 : Int32))))), .val (.int (1 : Int32))] [])) _
        refine XS.iload X95.here hx rfl (hb hby at_87) rfl ?_
        show Steps p.tables e below (T95.setTop (mkF m 89 #[.val (.int p1), .val (.int p2), .val (.int p3), .val (.int p4), .val (.int p5), .val (.int v2), .val (.int v6), .val (.ref b10), .val (.int (isF (latF (p1 &&& (3 : Int32)) (v2 &&& (3 : Int32)) (bF p1 (2 : Int32)) (bF p1 (10 : Int32)) (bF p1 (18 : Int32)) (bF v2 (2 : Int32)) (bF v2 (10 : Int32)) (bF v2 (18 : Int32))) (latF (p2 &&& (3 : Int32)) (v6 &&& (3 : Int32)) (bF p2 (2 : Int32)) (bF p2 (10 : Int32)) (bF p2 (18 : Int32)) (bF v6 (2 : Int32)) (bF v6 (10 : Int32)) (bF v6 (18 : Int32))))), .val (.int (1 : Int32))] [(.int (isF (latF (p1 &&& (3 : Int32)) (v2 &&& (3 : Int32)) (bF p1 (2 : Int32)) (bF p1 (10 : Int32)) (bF p1 (18 : Int32)) (bF v2 (2 : Int32)) (bF v2 (10 : Int32)) (bF v2 (18 : Int32))) (latF (p2 &&& (3 : Int32)) (v6 &&& (3 : Int32)) (bF p2 (2 : Int32)) (bF p2 (10 : Int32)) (bF p2 (18 : Int32)) (bF v6 (2 : Int32)) (bF v6 (10 : Int32)) (bF v6 (18 : Int32)))))])) _
        refine XS.iload X95.here hx rfl (hb hby at_89) rfl ?_
        show Steps p.tables e below (T95.setTop (mkF m 91 #[.val (.int p1), .val (.int p2), .val (.int p3), .val (.int p4), .val (.int p5), .val (.int v2), .val (.int v6), .val (.ref b10), .val (.int (isF (latF (p1 &&& (3 : Int32)) (v2 &&& (3 : Int32)) (bF p1 (2 : Int32)) (bF p1 (10 : Int32)) (bF p1 (18 : Int32)) (bF v2 (2 : Int32)) (bF v2 (10 : Int32)) (bF v2 (18 : Int32))) (latF (p2 &&& (3 : Int32)) (v6 &&& (3 : Int32)) (bF p2 (2 : Int32)) (bF p2 (10 : Int32)) (bF p2 (18 : Int32)) (bF v6 (2 : Int32)) (bF v6 (10 : Int32)) (bF v6 (18 : Int32))))), .val (.int (1 : Int32))] [(.int (1 : Int32)), (.int (isF (latF (p1 &&& (3 : Int32)) (v2 &&& (3 : Int32)) (bF p1 (2 : Int32)) (bF p1 (10 : Int32)) (bF p1 (18 : Int32)) (bF v2 (2 : Int32)) (bF v2 (10 : Int32)) (bF v2 (18 : Int32))) (latF (p2 &&& (3 : Int32)) (v6 &&& (3 : Int32)) (bF p2 (2 : Int32)) (bF p2 (10 : Int32)) (bF p2 (18 : Int32)) (bF v6 (2 : Int32)) (bF v6 (10 : Int32)) (bF v6 (18 : Int32)))))])) _
        refine XS.icmpNo X95.here hx rfl (hb hby at_91) rfl (teq (by rw [own_main p1 v2, own_main p2 v6]; unfold isF; simp only [if_neg hb91, if_neg hb97])).2 ?_
        show Steps p.tables e below (T95.setTop (mkF m 94 #[.val (.int p1), .val (.int p2), .val (.int p3), .val (.int p4), .val (.int p5), .val (.int v2), .val (.int v6), .val (.ref b10), .val (.int (isF (latF (p1 &&& (3 : Int32)) (v2 &&& (3 : Int32)) (bF p1 (2 : Int32)) (bF p1 (10 : Int32)) (bF p1 (18 : Int32)) (bF v2 (2 : Int32)) (bF v2 (10 : Int32)) (bF v2 (18 : Int32))) (latF (p2 &&& (3 : Int32)) (v6 &&& (3 : Int32)) (bF p2 (2 : Int32)) (bF p2 (10 : Int32)) (bF p2 (18 : Int32)) (bF v6 (2 : Int32)) (bF v6 (10 : Int32)) (bF v6 (18 : Int32))))), .val (.int (1 : Int32))] [])) _
        refine XS.iconst X95.here hx rfl (hb hby at_94) ?_
        show Steps p.tables e below (T95.setTop (mkF m 95 #[.val (.int p1), .val (.int p2), .val (.int p3), .val (.int p4), .val (.int p5), .val (.int v2), .val (.int v6), .val (.ref b10), .val (.int (isF (latF (p1 &&& (3 : Int32)) (v2 &&& (3 : Int32)) (bF p1 (2 : Int32)) (bF p1 (10 : Int32)) (bF p1 (18 : Int32)) (bF v2 (2 : Int32)) (bF v2 (10 : Int32)) (bF v2 (18 : Int32))) (latF (p2 &&& (3 : Int32)) (v6 &&& (3 : Int32)) (bF p2 (2 : Int32)) (bF p2 (10 : Int32)) (bF p2 (18 : Int32)) (bF v6 (2 : Int32)) (bF v6 (10 : Int32)) (bF v6 (18 : Int32))))), .val (.int (1 : Int32))] [(.int (1 : Int32))])) _
        refine XS.goto X95.here hx rfl (pc0 := 95) (pc' := 99) rfl (hb hby at_95) (by decide) (by decide) ?_
        exact kt)
      have CR101_ := CR67.trans (CHv.at X95 hZ (own_EW hw) CR67.1)
      obtain ⟨fs101, hr101, hrun101, hended101, hRW101⟩ := X95.leaveW hS61 (show _ ≤ T95.heap.size by first | (rw [e95]; exact (Nat.le_of_eq (congrArg Array.size e61))) | exact Nat.le_refl _) (v := some (.int (1 : Int32))) (fun h => by rw [Bd.returns] at h; cases h)
      refine ⟨_, _, pre0 _ (K100 _ ?_), hrun101, hended101, _, _, rfl, ?_, ?_, hRW101.1, hRW101.2.1, hRW101.2.2.1, hRW101.2.2.2.mono (by decide) (by decide)⟩
      · exact retN X95 hx (t := .boolean) Bd.returns (by simp) (hb hby at_99) hr101
      · show Q0 Z p1 p2 p3 p4 p5 cw h0 n0 _ T95.heap _
        rw [e95]
        exact ⟨rfl, N95⟩
      · show CHr Z ELx s.vm s.heap T95.vm T95.heap
        rw [e95]
        exact hs0 ▸ CR101_
set_option maxRecDepth 65536 in
set_option maxHeartbeats 40000000 in
theorem comes_1 {Post : Tables → Env → Array Value → State → Outcome → State → Prop} (hpost : ∀ tb e args s v u, (limb_1_1.after args s (.returned v) u = true ∧ limb_1_2.after args s (.returned v) u = true ∧ True) → ReturnedEndW s (.returned v) u (Jvm.fieldLocs frame_1_writes args s ++ Jvm.arrayLocs frame_1_arrays args s ++ Jvm.staticLocs frame_1_statics s) 40 3264 → Post tb e args s (.returned v) u) :
    ArmFor flags0 classFile x code maxLocals ret World_1 tables_1 room_1 Calls_1 rest_1 Pre_1 Post := by
  intro l hfl _ _ p e ha hc hk s m args below hf hA hF happ hP
  obtain ⟨hcalls, hrest, hpre⟩ := hP
  obtain ⟨-, -, -, hnamed, -, -, -, hat⟩ := (Spec.applies_iff hf).mp happ
  obtain ⟨hg, hn⟩ := and_e (Cond.before_iff.mp (show (Jvm.Cond.and given_1 narrow_1).before args s = true from hpre))
  obtain ⟨g1, g2⟩ := and_e hg
  obtain ⟨g3, g4⟩ := and_e g2
  obtain ⟨g5, g6⟩ := and_e g4
  obtain ⟨g7, g8⟩ := and_e g6
  obtain ⟨g9, g10⟩ := and_e g8
  obtain ⟨w0, w1, w2, w3, w4, rfl⟩ : ∃ w0 w1 w2 w3 w4 : Value, args = #[w0, w1, w2, w3, w4] := by
    have hs : args.size = 5 := by simpa [Cond.value, given_1] using g1
    obtain ⟨L⟩ := args
    match L, hs with
    | [w0, w1, w2, w3, w4], _ => exact ⟨w0, w1, w2, w3, w4, rfl⟩
  have hw := fun d (hd : d ∈ tables_1) => atoms_spec (ws := Jvm.Cond.code x code maxLocals ret :: tables_1) hat d (List.mem_cons_of_mem _ hd)
  have hfit : Fit s := fun {y c} hc i hi => by
    obtain ⟨ha, rfl⟩ := Array.getElem?_eq_some_iff.mp hc
    have q := List.all_eq_true.mp ((Array.all_eq_true_iff_forall_mem.mp hF) _ (Array.getElem_mem ha)) i (List.mem_range.mpr hi)
    simpa [Array.getElem?_eq_getElem hi] using q
  obtain ⟨hsets, hown0⟩ := atoms_of _ (rest_1_c_eq ▸ (show rest_1_c.before _ s = true from hrest))
  have hr0 := Cond.before_iff.mp hown0
  obtain ⟨i0, ei0⟩ := is_v g3
  obtain rfl : w0 = (.int i0) := Option.some.inj ei0
  obtain ⟨i1, ei1⟩ := is_v g5
  obtain rfl : w1 = (.int i1) := Option.some.inj ei1
  obtain ⟨i2, ei2⟩ := is_v g7
  obtain rfl : w2 = (.int i2) := Option.some.inj ei2
  obtain ⟨i3, ei3⟩ := is_v g9
  obtain rfl : w3 = (.int i3) := Option.some.inj ei3
  obtain ⟨i4, ei4⟩ := is_v g10
  obtain rfl : w4 = (.int i4) := Option.some.inj ei4
  have hcwS := own_compact hsets
  obtain ⟨cw, hSc, hcw⟩ := hcwS
  have hCH : CHv s ELx s.vm s.heap := CHv.start (own_EW hw) (fun q hq => hcalls.1 q hq) (own_cpw hsets) (hw _ (List.mem_of_getElem? (i := 22) rfl)) (hw _ (List.mem_of_getElem? (i := 8) rfl))
  obtain ⟨n, o, h1, h2, h3, _, L, rfl, ⟨rfl, N⟩, -, hq⟩ := rm0 l s _ hw tables_1 i0 i1 i2 i3 i4 cw s.heap s.heap.size (Nat.le_refl _) (Old.start s) hSc hcw p e ha hc hk s m _ below hf ((Spec.applies_iff_loose hf).mp happ).1 ⟨rfl, State.Warmed39.refl s, rfl, hCH⟩ trivial
  refine ⟨n, _, h1, h2, h3, hpost _ _ _ _ _ _ ⟨Cond.after_iff.mpr rfl, Cond.after_iff.mpr (eq_i res_at (Term.int_eval (1)) rfl), trivial⟩ ⟨hq.1, hq.2.1, hq.2.2.1, (hq.2.2.2.sift fun y hy => Or.inr (N y hy)).mono (by decide) (by decide)⟩⟩
theorem main_1_1 : Claimed_1_1 := comes_1 fun _ _ _ _ _ _ h hF => ⟨h.1, hF⟩
theorem main_1_2 : Claimed_1_2 := comes_1 fun _ _ _ _ _ _ h hF => ⟨h.2.1, hF⟩
end Jvm.Pilot.@@N@@
namespace Jvm.Pilot.@@N@@
open Jvm Jvm.ClassFile Sem Op Lib Jvm.Free Jvm.Stand Jvm.Pilot.@@N@@.Jvm.D
/-! MADE BY PROGRAM (witnessworld.py) out of the Statement's table words and the real class files: 21 classes; the members and pool entries that the words name. The judged class is class 1, her method 3. -/
namespace start1
open Jvm.ClassFile
def u (s : String) : CpInfo := .utf8 (stringToUtf16 s)
/-- a pool by its gaps: so many unusable entries, then the entry; so many at the end -/
def gap : Nat → List CpInfo → List CpInfo
  | 0, r => r
  | n + 1, r => .unusable :: gap n r
def poolList (es : List (Nat × CpInfo)) (last : Nat) : List CpInfo := es.foldr (fun e r => gap e.1 (e.2 :: r)) (gap last [])
def pool (es : List (Nat × CpInfo)) (last : Nat) : Array CpInfo := ⟨poolList es last⟩
def fileOf (pool : Array CpInfo) (this : Nat) (attrs : Array Attribute := #[]) (ms : Array MethodInfo := #[]) (fl : Nat := 33) (sup : Nat := 0) (ifs : Array Nat := #[]) (fds : Array FieldInfo := #[]) : ClassFile where
  minorVersion := 0
  majorVersion := 65
  constantPool := pool
  accessFlags := fl
  thisClass := this
  superClass := sup
  interfaces := ifs
  fields := fds
  methods := ms
  attributes := attrs
def plain (name : String) (sup : Option ClassId) : Class where
  name := name
  kind := .ordinary
  loader := none
  accessFlags := 33
  super := sup
  interfaces := #[]
  cf := none
  fields := #[]
  methods := #[]
  instanceTypes := #[]
  staticTypes := #[]
  resolved := #[]
  callSites := []
  init := .initialized
  statics := none
  mirror := none

def pool0 : Array CpInfo := pool [(5, u "<init>"), (0, u "()V"), (1, .class_ 10), (1, u "java/lang/Object")] 113

def k0c0 : Code := { maxStack := 0, maxLocals := 1, code := object_method_1_code, exceptionTable := #[], attributes := #[] }
def k0m0 : Method := { name := "<init>", desc := "()V", sig := { parameters := [], returnType := none }, accessFlags := 1, code := some k0c0 }
/-- java/lang/Object -/
def k0 : Class := { plain "java/lang/Object" none with
  accessFlags := 33
  interfaces := #[]
  cf := some (fileOf pool0 8 #[] #[{ accessFlags := 1, nameIndex := 5, descriptorIndex := 6, attributes := #[] }] 33 0 #[] #[])
  fields := #[]
  methods := #[k0m0]
  instanceTypes := #[]
  staticTypes := #[]
  resolved := Array.replicate 124 none
  statics := none }

def pool1 : Array CpInfo := pool [(2, .class_ 4), (1, u "java/lang/Object"), (0, u "<init>"), (0, u "()V"), (0, .class_ 8), (0, u "java/lang/String"), (0, .methodref 7 10), (0, .nameAndType 5 11), (0, u "([C)V"), (0, .integer 65535), (0, .integer 16777215), (0, .class_ 15), (0, u "com/example/stanzacall/stanzacall/xml/Element"), (0, .methodref 17 18), (0, .class_ 19), (0, .nameAndType 20 21), (0, u "com/example/stanzacall/stanzacall/xml/ElementIsPinLaw"), (0, u "mk"), (0, u "(I)Ljava/lang/String;"), (0, .methodref 14 23), (0, .nameAndType 5 24), (0, u "(Ljava/lang/String;Ljava/lang/String;)V"), (0, .methodref 14 26), (0, .nameAndType 27 28), (0, u "is"), (0, u "(Ljava/lang/String;Ljava/lang/String;)Z"), (0, .methodref 17 30), (0, .nameAndType 31 32), (0, u "sameText"), (0, u "(II)Z"), (3, u "law"), (0, u "(IIIII)Z")] 2

def k1m0 : Method := { name := "<init>", desc := "()V", sig := { parameters := [], returnType := none }, accessFlags := 2, code := none }
def k1c1 : Code := { maxStack := 6, maxLocals := 5, code := method_2_code, exceptionTable := #[], attributes := #[] }
def k1m1 : Method := { name := "mk", desc := "(I)Ljava/lang/String;", sig := { parameters := [.int], returnType := some (.object "java/lang/String") }, accessFlags := 10, code := some k1c1 }
def k1c2 : Code := { maxStack := 2, maxLocals := 5, code := method_3_code, exceptionTable := #[], attributes := #[] }
def k1m2 : Method := { name := "sameText", desc := "(II)Z", sig := { parameters := [.int, .int], returnType := some .boolean }, accessFlags := 10, code := some k1c2 }
def k1c3 : Code := { maxStack := 4, maxLocals := 10, code := code, exceptionTable := #[], attributes := #[] }
def k1m3 : Method := { name := "law", desc := "(IIIII)Z", sig := { parameters := [.int, .int, .int, .int, .int], returnType := some .boolean }, accessFlags := 9, code := some k1c3 }
/-- com/example/stanzacall/stanzacall/xml/ElementIsPinLaw -/
def k1 : Class := { plain "com/example/stanzacall/stanzacall/xml/ElementIsPinLaw" (some 0) with
  accessFlags := 49
  interfaces := #[]
  cf := some (fileOf pool1 17 #[] #[{ accessFlags := 2, nameIndex := 5, descriptorIndex := 6, attributes := #[] }, { accessFlags := 10, nameIndex := 20, descriptorIndex := 21, attributes := #[] }, { accessFlags := 10, nameIndex := 31, descriptorIndex := 32, attributes := #[] }, { accessFlags := 9, nameIndex := 36, descriptorIndex := 37, attributes := #[] }] 49 2 #[] #[])
  fields := #[]
  methods := #[k1m0, k1m1, k1m2, k1m3]
  instanceTypes := #[]
  staticTypes := #[]
  resolved := Array.replicate 40 none
  statics := none }

def pool2 : Array CpInfo := pool [(1, .methodref 2 3), (0, .class_ 4), (0, .nameAndType 5 6), (0, u "java/lang/Object"), (0, u "<init>"), (0, u "()V"), (0, .string 8), (0, u "namespace"), (0, .methodref 10 11), (0, .class_ 12), (0, .nameAndType 13 14), (0, u "java/util/Objects"), (0, u "requireNonNull"), (0, u "(Ljava/lang/Object;Ljava/lang/String;)Ljava/lang/Object;"), (0, .class_ 16), (0, u "java/lang/String"), (0, .fieldref 18 19), (0, .class_ 20), (0, .nameAndType 8 21), (0, u "com/example/stanzacall/stanzacall/xml/Element"), (0, u "Ljava/lang/String;"), (0, .string 23), (0, u "name"), (0, .fieldref 18 25), (0, .nameAndType 23 21), (0, .methodref 15 27), (0, .nameAndType 28 29), (0, u "equals"), (0, u "(Ljava/lang/Object;)Z"), (2, u "attributes"), (0, u "Ljava/util/Map;"), (51, u "items"), (0, u "Ljava/util/List;"), (5, u "onlyItem"), (0, u "Ljava/lang/Object;"), (24, u "is"), (0, u "(Ljava/lang/String;Ljava/lang/String;)Z"), (79, u "(Ljava/lang/String;Ljava/lang/String;)V")] 34

def k2c0 : Code := { maxStack := 3, maxLocals := 3, code := prog_68_method_1_code, exceptionTable := #[], attributes := #[] }
def k2m0 : Method := { name := "<init>", desc := "(Ljava/lang/String;Ljava/lang/String;)V", sig := { parameters := [(.object "java/lang/String"), (.object "java/lang/String")], returnType := none }, accessFlags := 1, code := some k2c0 }
def k2c1 : Code := { maxStack := 2, maxLocals := 3, code := prog_68_method_4_code, exceptionTable := #[], attributes := #[] }
def k2m1 : Method := { name := "is", desc := "(Ljava/lang/String;Ljava/lang/String;)Z", sig := { parameters := [(.object "java/lang/String"), (.object "java/lang/String")], returnType := some .boolean }, accessFlags := 1, code := some k2c1 }
/-- com/example/stanzacall/stanzacall/xml/Element -/
def k2 : Class := { plain "com/example/stanzacall/stanzacall/xml/Element" (some 0) with
  accessFlags := 49
  interfaces := #[]
  cf := some (fileOf pool2 18 #[] #[{ accessFlags := 1, nameIndex := 5, descriptorIndex := 199, attributes := #[] }, { accessFlags := 1, nameIndex := 118, descriptorIndex := 119, attributes := #[] }] 49 2 #[] #[{ accessFlags := 18, nameIndex := 8, descriptorIndex := 21, attributes := #[] }, { accessFlags := 18, nameIndex := 23, descriptorIndex := 21, attributes := #[] }, { accessFlags := 2, nameIndex := 32, descriptorIndex := 33, attributes := #[] }, { accessFlags := 2, nameIndex := 92, descriptorIndex := 93, attributes := #[] }, { accessFlags := 2, nameIndex := 85, descriptorIndex := 86, attributes := #[] }])
  fields := #[{ name := "namespace", type := (.object "java/lang/String"), accessFlags := 18, slot := 0, constantValue := 0 }, { name := "name", type := (.object "java/lang/String"), accessFlags := 18, slot := 1, constantValue := 0 }, { name := "attributes", type := (.object "java/util/Map"), accessFlags := 2, slot := 2, constantValue := 0 }, { name := "onlyItem", type := (.object "java/lang/Object"), accessFlags := 2, slot := 3, constantValue := 0 }, { name := "items", type := (.object "java/util/List"), accessFlags := 2, slot := 4, constantValue := 0 }]
  methods := #[k2m0, k2m1]
  instanceTypes := #[(.object "java/lang/String"), (.object "java/lang/String"), (.object "java/util/Map"), (.object "java/lang/Object"), (.object "java/util/List")]
  staticTypes := #[]
  resolved := Array.replicate 234 none
  statics := none }

def pool3 : Array CpInfo := pool [(1, .class_ 2), (0, u "java/io/Serializable"), (0, .class_ 4), (0, u "java/lang/Object")] 2

/-- java/io/Serializable -/
def k3 : Class := { plain "java/io/Serializable" (some 0) with
  accessFlags := 1537
  interfaces := #[]
  cf := some (fileOf pool3 1 #[] #[] 1537 3 #[] #[])
  fields := #[]
  methods := #[]
  instanceTypes := #[]
  staticTypes := #[]
  resolved := Array.replicate 7 none
  statics := none }

def pool4 : Array CpInfo := pool [(1, .class_ 2), (0, u "java/lang/Comparable"), (0, .class_ 4), (0, u "java/lang/Object")] 7

/-- java/lang/Comparable -/
def k4 : Class := { plain "java/lang/Comparable" (some 0) with
  accessFlags := 1537
  interfaces := #[]
  cf := some (fileOf pool4 1 #[] #[] 1537 3 #[] #[])
  fields := #[]
  methods := #[]
  instanceTypes := #[]
  staticTypes := #[]
  resolved := Array.replicate 12 none
  statics := none }

def pool5 : Array CpInfo := pool [(2, .class_ 4), (1, u "java/lang/CharSequence"), (42, .class_ 48), (0, u "java/lang/CharSequence$1CodePointIterator"), (10, .class_ 60), (0, u "java/lang/CharSequence$1CharIterator"), (5, .class_ 67), (0, u "java/lang/Object")] 63

/-- java/lang/CharSequence -/
def k5 : Class := { plain "java/lang/CharSequence" (some 0) with
  accessFlags := 1537
  interfaces := #[]
  cf := some (fileOf pool5 2 #[.nestMembers #[47, 59]] #[] 1537 66 #[] #[])
  fields := #[]
  methods := #[]
  instanceTypes := #[]
  staticTypes := #[]
  resolved := Array.replicate 131 none
  statics := none }

def pool6 : Array CpInfo := pool [(1, .class_ 2), (0, u "java/lang/constant/Constable"), (0, .class_ 4), (0, u "java/lang/Object")] 6

/-- java/lang/constant/Constable -/
def k6 : Class := { plain "java/lang/constant/Constable" (some 0) with
  accessFlags := 1537
  interfaces := #[]
  cf := some (fileOf pool6 1 #[] #[] 1537 3 #[] #[])
  fields := #[]
  methods := #[]
  instanceTypes := #[]
  staticTypes := #[]
  resolved := Array.replicate 11 none
  statics := none }

def pool7 : Array CpInfo := pool [(1, .class_ 2), (0, u "java/lang/constant/ConstantDesc"), (0, .class_ 4), (0, u "java/lang/Object")] 32

/-- java/lang/constant/ConstantDesc -/
def k7 : Class := { plain "java/lang/constant/ConstantDesc" (some 0) with
  accessFlags := 1537
  interfaces := #[]
  cf := some (fileOf pool7 1 #[] #[] 1537 3 #[] #[])
  fields := #[]
  methods := #[]
  instanceTypes := #[]
  staticTypes := #[]
  resolved := Array.replicate 37 none
  statics := none }

def pool8 : Array CpInfo := pool [(1, .methodref 2 3), (0, .class_ 4), (0, .nameAndType 5 6), (0, u "java/lang/Object"), (0, u "<init>"), (0, u "()V"), (0, .string 8), (0, u ""), (0, .fieldref 10 11), (0, .class_ 12), (0, .nameAndType 13 14), (0, u "java/lang/String"), (0, u "value"), (0, u "[B"), (0, .fieldref 10 16), (0, .nameAndType 17 18), (0, u "coder"), (0, u "B"), (2, u "hash"), (0, u "I"), (2, u "hashIsZero"), (0, u "Z"), (0, .methodref 10 28), (0, .nameAndType 5 29), (0, u "([CIILjava/lang/Void;)V"), (8, .fieldref 10 39), (0, .nameAndType 40 26), (0, u "COMPACT_STRINGS"), (1, .class_ 44), (1, u "java/lang/StringUTF16"), (0, u "compress"), (1, .methodref 42 48), (0, .nameAndType 49 50), (0, u "coderFromArrayLen"), (0, u "([BI)B"), (56, .class_ 109), (1, u "java/lang/StringLatin1"), (67, .methodref 42 178), (0, .nameAndType 45 179), (0, u "([CII)[B"), (361, .methodref 107 542), (0, .nameAndType 543 544), (0, u "equals"), (0, u "([B[B)Z"), (28, u "(Ljava/lang/Object;)Z"), (1, .class_ 576), (0, u "java/lang/CharSequence"), (22, u "CASE_INSENSITIVE_ORDER"), (0, u "Ljava/util/Comparator;"), (409, u "([C)V"), (90, u "serialPersistentFields"), (0, u "[Ljava/io/ObjectStreamField;"), (0, .class_ 1104), (0, u "java/lang/String$CaseInsensitiveComparator"), (1, .class_ 1107), (0, u "java/io/Serializable"), (0, .class_ 1109), (0, u "java/lang/Comparable"), (0, .class_ 1111), (0, u "java/lang/constant/Constable"), (0, .class_ 1113), (0, u "java/lang/constant/ConstantDesc"), (2, u "serialVersionUID"), (0, u "J"), (3, u "REPL"), (0, u "C"), (2, u "LATIN1"), (1, u "UTF16")] 323

def k8m0 : Method := { name := "<init>", desc := "()V", sig := { parameters := [], returnType := none }, accessFlags := 1, code := none }
def k8c1 : Code := { maxStack := 5, maxLocals := 2, code := jdk_42_method_3_code, exceptionTable := #[], attributes := #[] }
def k8m1 : Method := { name := "<init>", desc := "([C)V", sig := { parameters := [(.array .char)], returnType := none }, accessFlags := 1, code := some k8c1 }
def k8c2 : Code := { maxStack := 2, maxLocals := 3, code := jdk_42_method_66_code, exceptionTable := #[], attributes := #[] }
def k8m2 : Method := { name := "equals", desc := "(Ljava/lang/Object;)Z", sig := { parameters := [(.object "java/lang/Object")], returnType := some .boolean }, accessFlags := 1, code := some k8c2 }
def k8c3 : Code := { maxStack := 4, maxLocals := 6, code := jdk_42_method_149_code, exceptionTable := #[], attributes := #[] }
def k8m3 : Method := { name := "<init>", desc := "([CIILjava/lang/Void;)V", sig := { parameters := [(.array .char), .int, .int, (.object "java/lang/Void")], returnType := none }, accessFlags := 2, code := some k8c3 }
/-- java/lang/String -/
def k8 : Class := { plain "java/lang/String" (some 0) with
  accessFlags := 49
  interfaces := #[3, 4, 5, 6, 7]
  cf := some (fileOf pool8 10 #[.nestMembers #[1103]] #[{ accessFlags := 1, nameIndex := 5, descriptorIndex := 6, attributes := #[] }, { accessFlags := 1, nameIndex := 5, descriptorIndex := 1010, attributes := #[] }, { accessFlags := 1, nameIndex := 543, descriptorIndex := 573, attributes := #[] }, { accessFlags := 2, nameIndex := 5, descriptorIndex := 29, attributes := #[] }] 49 2 #[1106, 1108, 575, 1110, 1112] #[{ accessFlags := 18, nameIndex := 13, descriptorIndex := 14, attributes := #[] }, { accessFlags := 18, nameIndex := 17, descriptorIndex := 18, attributes := #[] }, { accessFlags := 2, nameIndex := 21, descriptorIndex := 22, attributes := #[] }, { accessFlags := 2, nameIndex := 25, descriptorIndex := 26, attributes := #[] }, { accessFlags := 26, nameIndex := 1116, descriptorIndex := 1117, attributes := #[] }, { accessFlags := 24, nameIndex := 40, descriptorIndex := 26, attributes := #[] }, { accessFlags := 26, nameIndex := 1101, descriptorIndex := 1102, attributes := #[] }, { accessFlags := 26, nameIndex := 1121, descriptorIndex := 1122, attributes := #[] }, { accessFlags := 25, nameIndex := 599, descriptorIndex := 600, attributes := #[] }, { accessFlags := 24, nameIndex := 1125, descriptorIndex := 18, attributes := #[] }, { accessFlags := 24, nameIndex := 1127, descriptorIndex := 18, attributes := #[] }])
  fields := #[{ name := "value", type := (.array .byte), accessFlags := 18, slot := 0, constantValue := 0 }, { name := "coder", type := .byte, accessFlags := 18, slot := 1, constantValue := 0 }, { name := "hash", type := .int, accessFlags := 2, slot := 2, constantValue := 0 }, { name := "hashIsZero", type := .boolean, accessFlags := 2, slot := 3, constantValue := 0 }, { name := "serialVersionUID", type := .long, accessFlags := 26, slot := 0, constantValue := 0 }, { name := "COMPACT_STRINGS", type := .boolean, accessFlags := 24, slot := 1, constantValue := 0 }, { name := "serialPersistentFields", type := (.array (.object "java/io/ObjectStreamField")), accessFlags := 26, slot := 2, constantValue := 0 }, { name := "REPL", type := .char, accessFlags := 26, slot := 3, constantValue := 0 }, { name := "CASE_INSENSITIVE_ORDER", type := (.object "java/util/Comparator"), accessFlags := 25, slot := 4, constantValue := 0 }, { name := "LATIN1", type := .byte, accessFlags := 24, slot := 5, constantValue := 0 }, { name := "UTF16", type := .byte, accessFlags := 24, slot := 6, constantValue := 0 }]
  methods := #[k8m0, k8m1, k8m2, k8m3]
  instanceTypes := #[(.array .byte), .byte, .int, .boolean]
  staticTypes := #[.long, .boolean, (.array (.object "java/io/ObjectStreamField")), .char, (.object "java/util/Comparator"), .byte, .byte]
  resolved := Array.replicate 1451 none
  statics := some 0 }

def pool9 : Array CpInfo := pool [(6, .class_ 8), (1, u "java/lang/Object"), (0, u "<init>"), (0, u "()V"), (1, .class_ 14), (1, u "java/lang/StringUTF16"), (31, u "$assertionsDisabled"), (0, u "Z"), (13, u "HI_BYTE_SHIFT"), (0, u "I"), (2, u "LO_BYTE_SHIFT"), (49, .methodref 12 116), (0, .nameAndType 117 118), (0, u "compress"), (0, u "([CI[BII)I"), (3, u "([CII)[B"), (138, u "coderFromArrayLen"), (0, u "([BI)B"), (106, .class_ 371), (1, u "java/lang/StringUTF16$LinesSpliterator"), (58, u "MAX_LENGTH"), (196, .class_ 628), (0, u "java/lang/StringUTF16$CodePointsSpliterator"), (0, .class_ 630), (0, u "java/lang/StringUTF16$CharsSpliterator")] 4

def k9m0 : Method := { name := "<init>", desc := "()V", sig := { parameters := [], returnType := none }, accessFlags := 0, code := none }
def k9c1 : Code := { maxStack := 2, maxLocals := 2, code := jdk_52_method_15_code, exceptionTable := #[], attributes := #[] }
def k9m1 : Method := { name := "coderFromArrayLen", desc := "([BI)B", sig := { parameters := [(.array .byte), .int], returnType := some .byte }, accessFlags := 8, code := some k9c1 }
def k9c2 : Code := { maxStack := 5, maxLocals := 6, code := jdk_52_method_16_code, exceptionTable := #[], attributes := #[] }
def k9m2 : Method := { name := "compress", desc := "([CII)[B", sig := { parameters := [(.array .char), .int, .int], returnType := some (.array .byte) }, accessFlags := 9, code := some k9c2 }
def k9c3 : Code := { maxStack := 3, maxLocals := 7, code := jdk_52_method_21_code, exceptionTable := #[], attributes := #[] }
def k9m3 : Method := { name := "compress", desc := "([CI[BII)I", sig := { parameters := [(.array .char), .int, (.array .byte), .int, .int], returnType := some .int }, accessFlags := 9, code := some k9c3 }
/-- java/lang/StringUTF16 -/
def k9 : Class := { plain "java/lang/StringUTF16" (some 0) with
  accessFlags := 48
  interfaces := #[]
  cf := some (fileOf pool9 12 #[.nestMembers #[627, 629, 369]] #[{ accessFlags := 0, nameIndex := 9, descriptorIndex := 10, attributes := #[] }, { accessFlags := 8, nameIndex := 261, descriptorIndex := 262, attributes := #[] }, { accessFlags := 9, nameIndex := 117, descriptorIndex := 122, attributes := #[] }, { accessFlags := 9, nameIndex := 117, descriptorIndex := 118, attributes := #[] }] 48 6 #[] #[{ accessFlags := 26, nameIndex := 61, descriptorIndex := 62, attributes := #[] }, { accessFlags := 26, nameIndex := 65, descriptorIndex := 62, attributes := #[] }, { accessFlags := 24, nameIndex := 430, descriptorIndex := 62, attributes := #[] }, { accessFlags := 4120, nameIndex := 46, descriptorIndex := 47, attributes := #[] }])
  fields := #[{ name := "HI_BYTE_SHIFT", type := .int, accessFlags := 26, slot := 0, constantValue := 0 }, { name := "LO_BYTE_SHIFT", type := .int, accessFlags := 26, slot := 1, constantValue := 0 }, { name := "MAX_LENGTH", type := .int, accessFlags := 24, slot := 2, constantValue := 0 }, { name := "$assertionsDisabled", type := .boolean, accessFlags := 4120, slot := 3, constantValue := 0 }]
  methods := #[k9m0, k9m1, k9m2, k9m3]
  instanceTypes := #[]
  staticTypes := #[.int, .int, .int, .boolean]
  resolved := Array.replicate 635 none
  statics := none }

def pool10 : Array CpInfo := pool [(2, .class_ 4), (1, u "java/lang/Object"), (0, u "<init>"), (0, u "()V"), (35, .class_ 44), (1, u "java/util/Objects"), (0, u "requireNonNull"), (48, u "(Ljava/lang/Object;Ljava/lang/String;)Ljava/lang/Object;")] 89

def k10m0 : Method := { name := "<init>", desc := "()V", sig := { parameters := [], returnType := none }, accessFlags := 2, code := none }
def k10c1 : Code := { maxStack := 3, maxLocals := 2, code := jdk_31_method_11_code, exceptionTable := #[], attributes := #[] }
def k10m1 : Method := { name := "requireNonNull", desc := "(Ljava/lang/Object;Ljava/lang/String;)Ljava/lang/Object;", sig := { parameters := [(.object "java/lang/Object"), (.object "java/lang/String")], returnType := some (.object "java/lang/Object") }, accessFlags := 9, code := some k10c1 }
/-- java/util/Objects -/
def k10 : Class := { plain "java/util/Objects" (some 0) with
  accessFlags := 49
  interfaces := #[]
  cf := some (fileOf pool10 42 #[] #[{ accessFlags := 2, nameIndex := 5, descriptorIndex := 6, attributes := #[] }, { accessFlags := 9, nameIndex := 45, descriptorIndex := 94, attributes := #[] }] 49 2 #[] #[])
  fields := #[]
  methods := #[k10m0, k10m1]
  instanceTypes := #[]
  staticTypes := #[]
  resolved := Array.replicate 184 none
  statics := none }

def pool11 : Array CpInfo := pool [(4, .class_ 6), (1, u "java/lang/Object"), (0, u "<init>"), (0, u "()V"), (5, .class_ 16), (1, u "java/lang/StringLatin1"), (104, u "$assertionsDisabled"), (0, u "Z"), (98, .class_ 223), (1, u "java/lang/StringLatin1$LinesSpliterator"), (57, u "equals"), (0, u "([B[B)Z"), (107, .class_ 391), (0, u "java/lang/StringLatin1$CharsSpliterator")] 3

def k11m0 : Method := { name := "<init>", desc := "()V", sig := { parameters := [], returnType := none }, accessFlags := 0, code := none }
def k11c1 : Code := { maxStack := 3, maxLocals := 3, code := jdk_43_method_13_code, exceptionTable := #[], attributes := #[] }
def k11m1 : Method := { name := "equals", desc := "([B[B)Z", sig := { parameters := [(.array .byte), (.array .byte)], returnType := some .boolean }, accessFlags := 9, code := some k11c1 }
/-- java/lang/StringLatin1 -/
def k11 : Class := { plain "java/lang/StringLatin1" (some 0) with
  accessFlags := 48
  interfaces := #[]
  cf := some (fileOf pool11 14 #[.nestMembers #[390, 221]] #[{ accessFlags := 0, nameIndex := 7, descriptorIndex := 8, attributes := #[] }, { accessFlags := 9, nameIndex := 281, descriptorIndex := 282, attributes := #[] }] 48 4 #[] #[{ accessFlags := 4120, nameIndex := 121, descriptorIndex := 122, attributes := #[] }])
  fields := #[{ name := "$assertionsDisabled", type := .boolean, accessFlags := 4120, slot := 0, constantValue := 0 }]
  methods := #[k11m0, k11m1]
  instanceTypes := #[]
  staticTypes := #[.boolean]
  resolved := Array.replicate 395 none
  statics := none }

def pool12 : Array CpInfo := pool [(2, .class_ 4), (1, u "java/lang/Object"), (0, u "<init>"), (0, u "()V"), (17, .class_ 26), (1, u "jdk/internal/util/Preconditions"), (28, .class_ 56), (0, u "jdk/internal/util/Preconditions$4"), (57, .class_ 115), (0, u "jdk/internal/util/Preconditions$1"), (7, u "SIOOBE_FORMATTER"), (0, u "Ljava/util/function/BiFunction;"), (0, .class_ 126), (0, u "jdk/internal/util/Preconditions$2"), (3, u "AIOOBE_FORMATTER"), (0, .class_ 132), (0, u "jdk/internal/util/Preconditions$3"), (3, u "IOOBE_FORMATTER")] 57

def k12m0 : Method := { name := "<init>", desc := "()V", sig := { parameters := [], returnType := none }, accessFlags := 1, code := none }
/-- jdk/internal/util/Preconditions -/
def k12 : Class := { plain "jdk/internal/util/Preconditions" (some 0) with
  accessFlags := 33
  interfaces := #[]
  cf := some (fileOf pool12 24 #[.nestMembers #[55, 131, 125, 114]] #[{ accessFlags := 1, nameIndex := 5, descriptorIndex := 6, attributes := #[] }] 33 2 #[] #[{ accessFlags := 25, nameIndex := 123, descriptorIndex := 124, attributes := #[] }, { accessFlags := 25, nameIndex := 130, descriptorIndex := 124, attributes := #[] }, { accessFlags := 25, nameIndex := 136, descriptorIndex := 124, attributes := #[] }])
  fields := #[{ name := "SIOOBE_FORMATTER", type := (.object "java/util/function/BiFunction"), accessFlags := 25, slot := 0, constantValue := 0 }, { name := "AIOOBE_FORMATTER", type := (.object "java/util/function/BiFunction"), accessFlags := 25, slot := 1, constantValue := 0 }, { name := "IOOBE_FORMATTER", type := (.object "java/util/function/BiFunction"), accessFlags := 25, slot := 2, constantValue := 0 }]
  methods := #[k12m0]
  instanceTypes := #[]
  staticTypes := #[(.object "java/util/function/BiFunction"), (.object "java/util/function/BiFunction"), (.object "java/util/function/BiFunction")]
  resolved := Array.replicate 194 none
  statics := some 1 }

def pool13 : Array CpInfo := pool [(9, u "<init>"), (6, .class_ 18), (1, u "java/lang/Object"), (0, u "()V"), (1, .class_ 23), (1, u "jdk/internal/util/ArraysSupport"), (0, u "LOG2_ARRAY_LONG_INDEX_SCALE"), (0, u "I"), (2, u "U"), (0, u "Ljdk/internal/misc/Unsafe;"), (8, u "BIG_ENDIAN"), (0, u "Z"), (8, u "LOG2_BYTE_BIT_SIZE"), (4, u "LOG2_ARRAY_INT_INDEX_SCALE"), (54, u "JLA"), (0, u "Ljdk/internal/access/JavaLangAccess;"), (11, u "LOG2_ARRAY_BOOLEAN_INDEX_SCALE"), (9, u "LOG2_ARRAY_BYTE_INDEX_SCALE"), (5, u "LOG2_ARRAY_CHAR_INDEX_SCALE"), (5, u "LOG2_ARRAY_SHORT_INDEX_SCALE"), (18, u "LOG2_ARRAY_FLOAT_INDEX_SCALE"), (24, u "LOG2_ARRAY_DOUBLE_INDEX_SCALE"), (89, u "T_BOOLEAN"), (2, u "T_CHAR"), (1, u "T_FLOAT"), (1, u "T_DOUBLE"), (1, u "T_BYTE"), (1, u "T_SHORT"), (1, u "T_INT"), (1, u "T_LONG"), (1, u "SOFT_MAX_ARRAY_LENGTH")] 83

def k13m0 : Method := { name := "<init>", desc := "()V", sig := { parameters := [], returnType := none }, accessFlags := 2, code := none }
/-- jdk/internal/util/ArraysSupport -/
def k13 : Class := { plain "jdk/internal/util/ArraysSupport" (some 0) with
  accessFlags := 33
  interfaces := #[]
  cf := some (fileOf pool13 21 #[] #[{ accessFlags := 2, nameIndex := 9, descriptorIndex := 19, attributes := #[] }] 33 16 #[] #[{ accessFlags := 24, nameIndex := 28, descriptorIndex := 29, attributes := #[] }, { accessFlags := 26, nameIndex := 38, descriptorIndex := 39, attributes := #[] }, { accessFlags := 25, nameIndex := 121, descriptorIndex := 25, attributes := #[] }, { accessFlags := 25, nameIndex := 131, descriptorIndex := 25, attributes := #[] }, { accessFlags := 25, nameIndex := 137, descriptorIndex := 25, attributes := #[] }, { accessFlags := 25, nameIndex := 143, descriptorIndex := 25, attributes := #[] }, { accessFlags := 25, nameIndex := 53, descriptorIndex := 25, attributes := #[] }, { accessFlags := 25, nameIndex := 24, descriptorIndex := 25, attributes := #[] }, { accessFlags := 25, nameIndex := 162, descriptorIndex := 25, attributes := #[] }, { accessFlags := 25, nameIndex := 187, descriptorIndex := 25, attributes := #[] }, { accessFlags := 26, nameIndex := 48, descriptorIndex := 25, attributes := #[] }, { accessFlags := 25, nameIndex := 277, descriptorIndex := 25, attributes := #[] }, { accessFlags := 25, nameIndex := 280, descriptorIndex := 25, attributes := #[] }, { accessFlags := 25, nameIndex := 282, descriptorIndex := 25, attributes := #[] }, { accessFlags := 25, nameIndex := 284, descriptorIndex := 25, attributes := #[] }, { accessFlags := 25, nameIndex := 286, descriptorIndex := 25, attributes := #[] }, { accessFlags := 25, nameIndex := 288, descriptorIndex := 25, attributes := #[] }, { accessFlags := 25, nameIndex := 290, descriptorIndex := 25, attributes := #[] }, { accessFlags := 25, nameIndex := 292, descriptorIndex := 25, attributes := #[] }, { accessFlags := 26, nameIndex := 108, descriptorIndex := 109, attributes := #[] }, { accessFlags := 25, nameIndex := 294, descriptorIndex := 25, attributes := #[] }])
  fields := #[{ name := "U", type := (.object "jdk/internal/misc/Unsafe"), accessFlags := 24, slot := 0, constantValue := 0 }, { name := "BIG_ENDIAN", type := .boolean, accessFlags := 26, slot := 1, constantValue := 0 }, { name := "LOG2_ARRAY_BOOLEAN_INDEX_SCALE", type := .int, accessFlags := 25, slot := 2, constantValue := 0 }, { name := "LOG2_ARRAY_BYTE_INDEX_SCALE", type := .int, accessFlags := 25, slot := 3, constantValue := 0 }, { name := "LOG2_ARRAY_CHAR_INDEX_SCALE", type := .int, accessFlags := 25, slot := 4, constantValue := 0 }, { name := "LOG2_ARRAY_SHORT_INDEX_SCALE", type := .int, accessFlags := 25, slot := 5, constantValue := 0 }, { name := "LOG2_ARRAY_INT_INDEX_SCALE", type := .int, accessFlags := 25, slot := 6, constantValue := 0 }, { name := "LOG2_ARRAY_LONG_INDEX_SCALE", type := .int, accessFlags := 25, slot := 7, constantValue := 0 }, { name := "LOG2_ARRAY_FLOAT_INDEX_SCALE", type := .int, accessFlags := 25, slot := 8, constantValue := 0 }, { name := "LOG2_ARRAY_DOUBLE_INDEX_SCALE", type := .int, accessFlags := 25, slot := 9, constantValue := 0 }, { name := "LOG2_BYTE_BIT_SIZE", type := .int, accessFlags := 26, slot := 10, constantValue := 0 }, { name := "T_BOOLEAN", type := .int, accessFlags := 25, slot := 11, constantValue := 0 }, { name := "T_CHAR", type := .int, accessFlags := 25, slot := 12, constantValue := 0 }, { name := "T_FLOAT", type := .int, accessFlags := 25, slot := 13, constantValue := 0 }, { name := "T_DOUBLE", type := .int, accessFlags := 25, slot := 14, constantValue := 0 }, { name := "T_BYTE", type := .int, accessFlags := 25, slot := 15, constantValue := 0 }, { name := "T_SHORT", type := .int, accessFlags := 25, slot := 16, constantValue := 0 }, { name := "T_INT", type := .int, accessFlags := 25, slot := 17, constantValue := 0 }, { name := "T_LONG", type := .int, accessFlags := 25, slot := 18, constantValue := 0 }, { name := "JLA", type := (.object "jdk/internal/access/JavaLangAccess"), accessFlags := 26, slot := 19, constantValue := 0 }, { name := "SOFT_MAX_ARRAY_LENGTH", type := .int, accessFlags := 25, slot := 20, constantValue := 0 }]
  methods := #[k13m0]
  instanceTypes := #[]
  staticTypes := #[(.object "jdk/internal/misc/Unsafe"), .boolean, .int, .int, .int, .int, .int, .int, .int, .int, .int, .int, .int, .int, .int, .int, .int, .int, .int, (.object "jdk/internal/access/JavaLangAccess"), .int]
  resolved := Array.replicate 378 none
  statics := none }

def pool14 : Array CpInfo := pool [(1, u "java/lang/Cloneable"), (0, .class_ 1), (0, u "java/lang/Object"), (0, .class_ 3)] 3

/-- java/lang/Cloneable -/
def k14 : Class := { plain "java/lang/Cloneable" (some 0) with
  accessFlags := 1537
  interfaces := #[]
  cf := some (fileOf pool14 2 #[] #[] 1537 4 #[] #[])
  fields := #[]
  methods := #[]
  instanceTypes := #[]
  staticTypes := #[]
  resolved := Array.replicate 8 none
  statics := none }

/-- the primitive byte -/
def k15 : Class := { plain "byte" none with kind := .primitive 'B', accessFlags := 0x411 }
/-- [B -/
def k16 : Class := { plain "[B" (some 0) with kind := .array 15 .byte, interfaces := #[14, 3], accessFlags := 1041 }

/-- the primitive char -/
def k17 : Class := { plain "char" none with kind := .primitive 'C', accessFlags := 0x411 }
/-- [C -/
def k18 : Class := { plain "[C" (some 0) with kind := .array 17 .char, interfaces := #[14, 3], accessFlags := 1041 }

/-- the primitive int -/
def k19 : Class := { plain "int" none with kind := .primitive 'I', accessFlags := 0x411 }
/-- [I -/
def k20 : Class := { plain "[I" (some 0) with kind := .array 19 .int, interfaces := #[14, 3], accessFlags := 1041 }

def heap : Heap := #[{ cls := 8, slots := #[.long 0, .int 1, .null, .int 0, .null, .int 0, .int 0], vm := .statics 8 },
  { cls := 12, slots := #[.null, .null, .null], vm := .statics 12 }]
def classes : Array Class := #[k0, k1, k2, k3, k4, k5, k6, k7, k8, k9, k10, k11, k12, k13, k14, k15, k16, k17, k18, k19, k20]
def interned : List (Array UInt16 × Addr) := []
def slotsUsed : Nat := 10
def theMethod : MethodId := ⟨1, 3⟩
def args0 : Array Value := #[.int 6, .int 9, .int 11, .int 14, .int 1]
def aboutOver (below : List Frame) : State where
  vm := { classes := classes, interned := interned.toArray }
  heap := heap
  slotsUsed := slotsUsed
  threads := #[{ frames := .invoking theMethod args0 :: below }]
def below0 : List Frame := [.native { method := ⟨0, 0⟩, args := #[] }]
def about1 : State := aboutOver below0
def p0 : Program := .bare "" "" ""
def e0 : Env := launch0.env 0 0 0
theorem w_frames : about1.frames = Frame.invoking theMethod args0 :: below0 := rfl
set_option maxRecDepth 65536 in
theorem w_args : argsFit about1.vm theMethod args0 = true := by decide +kernel
set_option maxRecDepth 65536 in
theorem w_heap : heapFits about1 = true := by decide +kernel
set_option maxRecDepth 65536 in
theorem w_runnable : about1.curStatus? = some .runnable := by decide +kernel
set_option maxRecDepth 65536 in
theorem w_alone : about1.alone = true := by decide +kernel
set_option maxRecDepth 65536 in
theorem w_named : about1.methodNamed? x = some theMethod := by decide +kernel
set_option maxRecDepth 65536 in
theorem w_hears : about1.hears theMethod below0 = true := by decide +kernel
set_option maxRecDepth 65536 in
theorem w_ripe : about1.ripe theMethod args0 below0 = true := by decide +kernel
theorem w_running : about1.status = .running := rfl
set_option maxRecDepth 65536 in
theorem w_room : about1.hasRoom e0.platform room_1 = true :=
  launch0.hasRoom_least _ room_1 (by decide +kernel) (by decide +kernel) (by decide +kernel) (by decide +kernel) (by decide +kernel) (by decide +kernel)
theorem allAtoms_all (ts : List Jvm.Cond) (a : Array Jvm.Value) (st : Jvm.State) : (allAtoms ts).before a st = ts.all (fun c => c.before a st) := by
  induction ts with
  | nil => rfl
  | cons c t ih =>
    show (Jvm.Cond.and c (allAtoms t)).before a st = _
    rw [Jvm.Cond.before_and, ih, List.all_cons]
def words1 : List Jvm.Cond := Jvm.Cond.code x code maxLocals ret :: tables_1
/-- a 'code' word, met by the world's own term for the bytes: nothing is compared byte by byte -/
theorem code_word {y : MethodName} {bytes : ByteArray} {mx : Nat} {rt : Option FieldType} {a : Array Value} {s : State} {m : MethodId} {meth : Method} {c : Code} (h1 : s.methodNamed? y = some m) (h2 : s.vm.method? m = some meth) (h3 : meth.code = some c) (h4 : c.code = bytes)
    (h5 : (c.maxLocals == mx && c.exceptionTable.isEmpty && decide (c.maxStack ≤ mostOperands) && decide (meth.sig.returnType = rt) && !meth.locks && decide (parseMethodDescriptor y.desc = some meth.sig)) = true) : (Jvm.Cond.code y bytes mx rt).before a s = true := by
  simp only [Bool.and_eq_true, beq_iff_eq, Bool.not_eq_true', decide_eq_true_eq] at h5
  obtain ⟨⟨⟨⟨⟨g1, g2⟩, g3⟩, g4⟩, g5⟩, g6⟩ := h5
  simp [Cond.before, Cond.holds, Cond.value, h1, h2, h3, h4, g1, g2, g3, g4, g5, g6]
def isCode : Jvm.Cond → Bool
  | .code _ _ _ _ => true
  | _ => false
theorem all_split {L : List Jvm.Cond} {P : Jvm.Cond → Bool} (h1 : L.all (fun c => isCode c || P c) = true) (h2 : ∀ c ∈ L.filter isCode, P c = true) : L.all P = true := by
  refine List.all_eq_true.mpr fun c hc => ?_
  have h := List.all_eq_true.mp h1 c hc
  rcases Bool.eq_false_or_eq_true (isCode c) with hi | hi
  · exact h2 c (List.mem_filter.mpr ⟨hc, hi⟩)
  · simpa [hi] using h
set_option maxRecDepth 65536 in
theorem w_c0 : (Jvm.Cond.code x code maxLocals ret).before args0 about1 = true := code_word (m := ⟨1, 3⟩) (meth := k1m3) (c := k1c3) (by decide +kernel) rfl rfl rfl (by decide +kernel)
set_option maxRecDepth 65536 in
theorem w_c1 : (Jvm.Cond.code ({ cls := "com/example/stanzacall/stanzacall/xml/ElementIsPinLaw", name := "mk", desc := "(I)Ljava/lang/String;" } : Jvm.MethodName) method_2_code (5 : Nat) (Option.some (Jvm.ClassFile.FieldType.object "java/lang/String"))).before args0 about1 = true := code_word (m := ⟨1, 1⟩) (meth := k1m1) (c := k1c1) (by decide +kernel) rfl rfl rfl (by decide +kernel)
set_option maxRecDepth 65536 in
theorem w_c2 : (Jvm.Cond.code ({ cls := "java/lang/String", name := "<init>", desc := "([C)V" } : Jvm.MethodName) jdk_42_method_3_code (2 : Nat) (Option.none : Option Jvm.ClassFile.FieldType)).before args0 about1 = true := code_word (m := ⟨8, 1⟩) (meth := k8m1) (c := k8c1) (by decide +kernel) rfl rfl rfl (by decide +kernel)
set_option maxRecDepth 65536 in
theorem w_c3 : (Jvm.Cond.code ({ cls := "java/lang/String", name := "<init>", desc := "([CIILjava/lang/Void;)V" } : Jvm.MethodName) jdk_42_method_149_code (6 : Nat) (Option.none : Option Jvm.ClassFile.FieldType)).before args0 about1 = true := code_word (m := ⟨8, 3⟩) (meth := k8m3) (c := k8c3) (by decide +kernel) rfl rfl rfl (by decide +kernel)
set_option maxRecDepth 65536 in
theorem w_c4 : (Jvm.Cond.code ({ cls := "java/lang/Object", name := "<init>", desc := "()V" } : Jvm.MethodName) object_method_1_code (1 : Nat) (Option.none : Option Jvm.ClassFile.FieldType)).before args0 about1 = true := code_word (m := ⟨0, 0⟩) (meth := k0m0) (c := k0c0) (by decide +kernel) rfl rfl rfl (by decide +kernel)
set_option maxRecDepth 65536 in
theorem w_c5 : (Jvm.Cond.code ({ cls := "java/lang/StringUTF16", name := "compress", desc := "([CII)[B" } : Jvm.MethodName) jdk_52_method_16_code (6 : Nat) (Option.some (Jvm.ClassFile.FieldType.array Jvm.ClassFile.FieldType.byte))).before args0 about1 = true := code_word (m := ⟨9, 2⟩) (meth := k9m2) (c := k9c2) (by decide +kernel) rfl rfl rfl (by decide +kernel)
set_option maxRecDepth 65536 in
theorem w_c6 : (Jvm.Cond.code ({ cls := "java/lang/StringUTF16", name := "compress", desc := "([CI[BII)I" } : Jvm.MethodName) jdk_52_method_21_code (7 : Nat) (Option.some Jvm.ClassFile.FieldType.int)).before args0 about1 = true := code_word (m := ⟨9, 3⟩) (meth := k9m3) (c := k9c3) (by decide +kernel) rfl rfl rfl (by decide +kernel)
set_option maxRecDepth 65536 in
theorem w_c7 : (Jvm.Cond.code ({ cls := "java/lang/StringUTF16", name := "coderFromArrayLen", desc := "([BI)B" } : Jvm.MethodName) jdk_52_method_15_code (2 : Nat) (Option.some Jvm.ClassFile.FieldType.byte)).before args0 about1 = true := code_word (m := ⟨9, 1⟩) (meth := k9m1) (c := k9c1) (by decide +kernel) rfl rfl rfl (by decide +kernel)
set_option maxRecDepth 65536 in
theorem w_c8 : (Jvm.Cond.code ({ cls := "com/example/stanzacall/stanzacall/xml/Element", name := "<init>", desc := "(Ljava/lang/String;Ljava/lang/String;)V" } : Jvm.MethodName) prog_68_method_1_code (3 : Nat) (Option.none : Option Jvm.ClassFile.FieldType)).before args0 about1 = true := code_word (m := ⟨2, 0⟩) (meth := k2m0) (c := k2c0) (by decide +kernel) rfl rfl rfl (by decide +kernel)
set_option maxRecDepth 65536 in
theorem w_c9 : (Jvm.Cond.code ({ cls := "java/util/Objects", name := "requireNonNull", desc := "(Ljava/lang/Object;Ljava/lang/String;)Ljava/lang/Object;" } : Jvm.MethodName) jdk_31_method_11_code (2 : Nat) (Option.some (Jvm.ClassFile.FieldType.object "java/lang/Object"))).before args0 about1 = true := code_word (m := ⟨10, 1⟩) (meth := k10m1) (c := k10c1) (by decide +kernel) rfl rfl rfl (by decide +kernel)
set_option maxRecDepth 65536 in
theorem w_c10 : (Jvm.Cond.code ({ cls := "com/example/stanzacall/stanzacall/xml/Element", name := "is", desc := "(Ljava/lang/String;Ljava/lang/String;)Z" } : Jvm.MethodName) prog_68_method_4_code (3 : Nat) (Option.some Jvm.ClassFile.FieldType.boolean)).before args0 about1 = true := code_word (m := ⟨2, 1⟩) (meth := k2m1) (c := k2c1) (by decide +kernel) rfl rfl rfl (by decide +kernel)
set_option maxRecDepth 65536 in
theorem w_c11 : (Jvm.Cond.code ({ cls := "java/lang/String", name := "equals", desc := "(Ljava/lang/Object;)Z" } : Jvm.MethodName) jdk_42_method_66_code (3 : Nat) (Option.some Jvm.ClassFile.FieldType.boolean)).before args0 about1 = true := code_word (m := ⟨8, 2⟩) (meth := k8m2) (c := k8c2) (by decide +kernel) rfl rfl rfl (by decide +kernel)
set_option maxRecDepth 65536 in
theorem w_c12 : (Jvm.Cond.code ({ cls := "java/lang/StringLatin1", name := "equals", desc := "([B[B)Z" } : Jvm.MethodName) jdk_43_method_13_code (3 : Nat) (Option.some Jvm.ClassFile.FieldType.boolean)).before args0 about1 = true := code_word (m := ⟨11, 1⟩) (meth := k11m1) (c := k11c1) (by decide +kernel) rfl rfl rfl (by decide +kernel)
set_option maxRecDepth 65536 in
theorem w_c13 : (Jvm.Cond.code ({ cls := "com/example/stanzacall/stanzacall/xml/ElementIsPinLaw", name := "sameText", desc := "(II)Z" } : Jvm.MethodName) method_3_code (5 : Nat) (Option.some Jvm.ClassFile.FieldType.boolean)).before args0 about1 = true := code_word (m := ⟨1, 2⟩) (meth := k1m2) (c := k1c2) (by decide +kernel) rfl rfl rfl (by decide +kernel)
def codes1 : List Jvm.Cond := [Jvm.Cond.code x code maxLocals ret, Jvm.Cond.code ({ cls := "com/example/stanzacall/stanzacall/xml/ElementIsPinLaw", name := "mk", desc := "(I)Ljava/lang/String;" } : Jvm.MethodName) method_2_code (5 : Nat) (Option.some (Jvm.ClassFile.FieldType.object "java/lang/String")), Jvm.Cond.code ({ cls := "java/lang/String", name := "<init>", desc := "([C)V" } : Jvm.MethodName) jdk_42_method_3_code (2 : Nat) (Option.none : Option Jvm.ClassFile.FieldType), Jvm.Cond.code ({ cls := "java/lang/String", name := "<init>", desc := "([CIILjava/lang/Void;)V" } : Jvm.MethodName) jdk_42_method_149_code (6 : Nat) (Option.none : Option Jvm.ClassFile.FieldType), Jvm.Cond.code ({ cls := "java/lang/Object", name := "<init>", desc := "()V" } : Jvm.MethodName) object_method_1_code (1 : Nat) (Option.none : Option Jvm.ClassFile.FieldType), Jvm.Cond.code ({ cls := "java/lang/StringUTF16", name := "compress", desc := "([CII)[B" } : Jvm.MethodName) jdk_52_method_16_code (6 : Nat) (Option.some (Jvm.ClassFile.FieldType.array Jvm.ClassFile.FieldType.byte)), Jvm.Cond.code ({ cls := "java/lang/StringUTF16", name := "compress", desc := "([CI[BII)I" } : Jvm.MethodName) jdk_52_method_21_code (7 : Nat) (Option.some Jvm.ClassFile.FieldType.int), Jvm.Cond.code ({ cls := "java/lang/StringUTF16", name := "coderFromArrayLen", desc := "([BI)B" } : Jvm.MethodName) jdk_52_method_15_code (2 : Nat) (Option.some Jvm.ClassFile.FieldType.byte), Jvm.Cond.code ({ cls := "com/example/stanzacall/stanzacall/xml/Element", name := "<init>", desc := "(Ljava/lang/String;Ljava/lang/String;)V" } : Jvm.MethodName) prog_68_method_1_code (3 : Nat) (Option.none : Option Jvm.ClassFile.FieldType), Jvm.Cond.code ({ cls := "java/util/Objects", name := "requireNonNull", desc := "(Ljava/lang/Object;Ljava/lang/String;)Ljava/lang/Object;" } : Jvm.MethodName) jdk_31_method_11_code (2 : Nat) (Option.some (Jvm.ClassFile.FieldType.object "java/lang/Object")), Jvm.Cond.code ({ cls := "com/example/stanzacall/stanzacall/xml/Element", name := "is", desc := "(Ljava/lang/String;Ljava/lang/String;)Z" } : Jvm.MethodName) prog_68_method_4_code (3 : Nat) (Option.some Jvm.ClassFile.FieldType.boolean), Jvm.Cond.code ({ cls := "java/lang/String", name := "equals", desc := "(Ljava/lang/Object;)Z" } : Jvm.MethodName) jdk_42_method_66_code (3 : Nat) (Option.some Jvm.ClassFile.FieldType.boolean), Jvm.Cond.code ({ cls := "java/lang/StringLatin1", name := "equals", desc := "([B[B)Z" } : Jvm.MethodName) jdk_43_method_13_code (3 : Nat) (Option.some Jvm.ClassFile.FieldType.boolean), Jvm.Cond.code ({ cls := "com/example/stanzacall/stanzacall/xml/ElementIsPinLaw", name := "sameText", desc := "(II)Z" } : Jvm.MethodName) method_3_code (5 : Nat) (Option.some Jvm.ClassFile.FieldType.boolean)]
set_option maxRecDepth 65536 in
theorem codes_eq : words1.filter isCode = codes1 := rfl
theorem w_codes : ∀ c ∈ words1.filter isCode, c.before args0 about1 = true := by
  rw [codes_eq]
  intro c hc
  simp only [codes1, List.mem_cons, List.not_mem_nil, or_false] at hc
  rcases hc with rfl | rfl | rfl | rfl | rfl | rfl | rfl | rfl | rfl | rfl | rfl | rfl | rfl | rfl
  · exact w_c0
  · exact w_c1
  · exact w_c2
  · exact w_c3
  · exact w_c4
  · exact w_c5
  · exact w_c6
  · exact w_c7
  · exact w_c8
  · exact w_c9
  · exact w_c10
  · exact w_c11
  · exact w_c12
  · exact w_c13
set_option maxRecDepth 65536 in
theorem w_t1 : (words1.take 24).all (fun c => isCode c || c.before args0 about1) = true := by decide +kernel
set_option maxRecDepth 65536 in
theorem w_t2 : ((words1.drop 24).take 24).all (fun c => isCode c || c.before args0 about1) = true := by decide +kernel
set_option maxRecDepth 65536 in
theorem w_t3 : (((words1.drop 24).drop 24).take 24).all (fun c => isCode c || c.before args0 about1) = true := by decide +kernel
set_option maxRecDepth 65536 in
theorem w_t4 : (((words1.drop 24).drop 24).drop 24).all (fun c => isCode c || c.before args0 about1) = true := by decide +kernel
theorem w_tables : (allAtoms (Jvm.Cond.code x code maxLocals ret :: tables_1)).before args0 about1 = true := by
  rw [allAtoms_all]
  show words1.all (fun c => c.before args0 about1) = true
  refine all_split ?_ w_codes
  rw [← List.take_append_drop 24 words1, List.all_append, w_t1, ← List.take_append_drop 24 (words1.drop 24), List.all_append, w_t2, ← List.take_append_drop 24 ((words1.drop 24).drop 24), List.all_append, w_t3, w_t4]
  rfl
set_option maxRecDepth 65536 in
theorem w_rest : rest_1_c.before args0 about1 = true := by decide +kernel
set_option maxRecDepth 65536 in
theorem w_case : (Jvm.Cond.and given_1 narrow_1).before args0 about1 = true := by decide +kernel
set_option maxRecDepth 65536 in
theorem w_consts : constsHeld consts_1 about1 := Jvm.Lit.constsHeldB_iff.mp (by decide +kernel)
theorem w_applies : (headSpec (Jvm.Cond.code x code maxLocals ret :: tables_1) room_1).applies x e0.platform about1 = true :=
  (Spec.applies_iff w_frames).mpr ⟨w_running, w_runnable, w_alone, w_named, w_hears, w_ripe, w_room, w_tables⟩
theorem atStart : AtStart classFile x code maxLocals ret World_1 tables_1 room_1 Calls_1 rest_1 Pre_1 launch0 p0 e0 about1 theMethod args0 below0 :=
  ⟨lists_1, trivial, launch0.admits_env _ _ _, launch0.least_env, fairChoices_fair.cas, fairChoices_fair.clock, w_frames, w_args, w_heap, w_applies, ⟨w_consts, trivial⟩, w_rest, w_case⟩
end start1
theorem witness_1 : WitnessClaimed_1 := ⟨start1.p0, start1.e0, start1.about1, start1.theMethod, start1.args0, start1.below0, start1.atStart⟩
end Jvm.Pilot.@@N@@
