import JvmDerived
import JvmDerived.Pilot.@@N@@Statement
import JvmDerived.Pilot.@@N@@Code
set_option linter.unusedVariables false
set_option linter.unusedSimpArgs false
namespace Jvm.RoadKit
open Sem ClassFile Op Lib Jvm.Stand Jvm.Free Jvm.LawKit
section New
variable {p : Program} {l : Launch} {e : Env} {R : Room} {s : State} {m : MethodId} {args : Array Value} {below : List Frame} {meth : Method} {c : Code} {T : State} {locs : List Loc} {cells slots : Nat}
theorem retI (X : Stand p l e R s m args below meth c T locs cells slots) (hx : p.tables.exec = Jvm.exec) {pc : Nat} {Ls : Array Slot} {z : Int32} {rest : List Value} (hret : meth.sig.returnType = some .int) (hd : decode c.code pc = .ok (.ireturn, 1)) {fs : List Frame}
    (hl : ∀ (f : JFrame) (acts : List Action), f.method = m → f.locked = none → f.entered = [] → (doReturn e (T.setTop f) acts (some (.int z))).1 = T.setFrames fs) : Steps p.tables e below (T.setTop (mkF m pc Ls (.int z :: rest))) (T.setFrames fs) := by
  have hm' : T.vm.method? m = some meth := X.method'
  have hn : narrow .int (.int z) = .int z := rfl
  show Steps p.tables e below (T.setTop { method := m, pc := pc, locals := Ls, stack := _ :: rest, locked := none }) _
  jvm_step X.here [X.here.top, hx, hd, hm', hret, hn]
  first | (intro acts; rw [hl _ acts rfl rfl rfl]) | rw [hl _ _ rfl rfl rfl]
  exact Steps.refl _
end New
end Jvm.RoadKit
namespace Jvm.Pilot.@@N@@
open Jvm Jvm.ClassFile Sem Op Lib Jvm.Free Jvm.Stand Jvm.LawKit Jvm.RoadKit Bundle Jvm.Pilot.@@N@@.Jvm.D
abbrev Gx (p : Program) (e : Env) (below : List Frame) (T0 : State) (f0 : JFrame) (T : State) (f : JFrame) : Prop := ∀ t, Steps p.tables e below (T.setTop f) t → Steps p.tables e below (T0.setTop f0) t
def encF (v u : Int32) : Int32 := if v < (10 : Int32) then ((48 : Int32) + v) else ((if u = (0 : Int32) then (97 : Int32) else (65 : Int32)) + (v - (10 : Int32)))
def digV3 (c : Int32) : Int32 := if c < (65 : Int32) then (-1 : Int32) else if (70 : Int32) < c then (-1 : Int32) else ((c - (65 : Int32)) + (10 : Int32))
def digV2 (c : Int32) : Int32 := if c < (97 : Int32) then digV3 c else if (102 : Int32) < c then digV3 c else ((c - (97 : Int32)) + (10 : Int32))
def digV (c : Int32) : Int32 := if c < (48 : Int32) then digV2 c else if (57 : Int32) < c then digV2 c else (c - (48 : Int32))
def digF (c r : Int32) : Int32 := if digV c < r then digV c else (-1 : Int32)
theorem own_fin (v : Int32) (n : Nat) (h0 : 0 ≤ v.toInt) (h1 : v.toInt < n) (hn : n ≤ 100000) : ∃ i : Fin n, v = Int32.ofNat i.1 := by
  refine ⟨⟨v.toInt.toNat, by omega⟩, ?_⟩
  apply Int32.toInt_inj.mp
  show _ = (Int32.ofNat v.toInt.toNat).toInt
  rw [toInt_of (n := Int32.ofNat v.toInt.toNat) rfl (by omega)]
  omega
theorem own_cases16 {v : Int32} (h0 : 0 ≤ v.toInt) (h1 : v.toInt < 16) : v = 0 ∨ v = 1 ∨ v = 2 ∨ v = 3 ∨ v = 4 ∨ v = 5 ∨ v = 6 ∨ v = 7 ∨ v = 8 ∨ v = 9 ∨ v = 10 ∨ v = 11 ∨ v = 12 ∨ v = 13 ∨ v = 14 ∨ v = 15 := by
  obtain ⟨i, rfl⟩ := own_fin v 16 h0 h1 (by decide)
  clear h0 h1
  revert i
  decide
theorem own_rem (x : Int32) (d : Int32) (k : Int) (hd : d.toInt = k) (hk : 0 < k) : 0 ≤ ((x &&& (2147483647 : Int32)) % d).toInt ∧ ((x &&& (2147483647 : Int32)) % d).toInt < k := by
  have h1 : 0 ≤ (x &&& (2147483647 : Int32)).toInt := (c_andS x (2147483647 : Int32)).2.2 (by decide)
  have h2 := (c_irem (x &&& (2147483647 : Int32)) d k hd).1 h1
  rw [h2]
  exact ⟨Int.emod_nonneg _ (by omega), Int.emod_lt_of_pos _ hk⟩
theorem own_rdx (x : Int32) : 0 ≤ ((x &&& (2147483647 : Int32)) % (17 : Int32)).toInt ∧ ((x &&& (2147483647 : Int32)) % (17 : Int32)).toInt < 17 := own_rem x 17 17 (by decide) (by decide)
theorem own_val (x : Int32) : 0 ≤ ((x &&& (2147483647 : Int32)) % (16 : Int32)).toInt ∧ ((x &&& (2147483647 : Int32)) % (16 : Int32)).toInt < 16 := own_rem x 16 16 (by decide) (by decide)
theorem own_digenc (v u : Int32) (h : 0 ≤ v.toInt ∧ v.toInt < 16) : digV (encF v u) = v := by
  rcases own_cases16 h.1 h.2 with rfl | rfl | rfl | rfl | rfl | rfl | rfl | rfl | rfl | rfl | rfl | rfl | rfl | rfl | rfl | rfl <;>
    (by_cases hu : u = 0
     · subst hu; decide
     · simp only [encF, if_neg hu]; decide)
theorem own_complete (v u r : Int32) (h : 0 ≤ v.toInt ∧ v.toInt < 16) : digF (encF v u) r = if v < r then v else (-1 : Int32) := by
  unfold digF
  rw [own_digenc v u h]
theorem own_digV (c : Int32) : digV c = (-1 : Int32) ∨ (¬ digV c < 0 ∧ (c = encF (digV c) 0 ∨ c = encF (digV c) 1)) := by
  by_cases h0 : 0 ≤ c.toInt ∧ c.toInt < 128
  · obtain ⟨i, rfl⟩ := own_fin c 128 h0.1 h0.2 (by decide)
    clear h0
    revert i
    decide +kernel
  · left
    have e3 : digV3 c = -1 := by
      unfold digV3
      by_cases q : c < (65 : Int32)
      · rw [if_pos q]
      · rw [if_neg q, if_pos]
        rw [Int32.lt_iff_toInt_lt] at q ⊢
        have a1 : (65 : Int32).toInt = 65 := by decide
        have a2 : (70 : Int32).toInt = 70 := by decide
        omega
    have e2 : digV2 c = -1 := by
      unfold digV2
      by_cases q : c < (97 : Int32)
      · rw [if_pos q, e3]
      · rw [if_neg q, if_pos, e3]
        rw [Int32.lt_iff_toInt_lt] at q ⊢
        have a1 : (97 : Int32).toInt = 97 := by decide
        have a2 : (102 : Int32).toInt = 102 := by decide
        omega
    unfold digV
    by_cases q : c < (48 : Int32)
    · rw [if_pos q, e2]
    · rw [if_neg q, if_pos, e2]
      rw [Int32.lt_iff_toInt_lt] at q ⊢
      have a1 : (48 : Int32).toInt = 48 := by decide
      have a2 : (57 : Int32).toInt = 57 := by decide
      omega
theorem own_sound (c r : Int32) : digF c r = (-1 : Int32) ∨ (¬ (digF c r < (0 : Int32)) ∧ digF c r < r ∧ (c = encF (digF c r) (0 : Int32) ∨ c = encF (digF c r) (1 : Int32))) := by
  unfold digF
  by_cases h : digV c < r
  · rw [if_pos h]
    rcases own_digV c with q | q
    · exact Or.inl q
    · exact Or.inr ⟨q.1, h, q.2⟩
  · rw [if_neg h]; exact Or.inl rfl
theorem d1_0 : decode method_2_code 0 = .ok (.iload_n 0, 1) := by decide +kernel
theorem d1_1 : decode method_2_code 1 = .ok (.bipush 10, 2) := by decide +kernel
theorem d1_3 : decode method_2_code 3 = .ok (.if_icmp .ge 8, 3) := by decide +kernel
theorem d1_6 : decode method_2_code 6 = .ok (.bipush 48, 2) := by decide +kernel
theorem d1_8 : decode method_2_code 8 = .ok (.iload_n 0, 1) := by decide +kernel
theorem d1_9 : decode method_2_code 9 = .ok (.iadd, 1) := by decide +kernel
theorem d1_10 : decode method_2_code 10 = .ok (.ireturn, 1) := by decide +kernel
theorem d1_11 : decode method_2_code 11 = .ok (.iload_n 1, 1) := by decide +kernel
theorem d1_12 : decode method_2_code 12 = .ok (.ifCond .eq 8, 3) := by decide +kernel
theorem d1_15 : decode method_2_code 15 = .ok (.bipush 65, 2) := by decide +kernel
theorem d1_17 : decode method_2_code 17 = .ok (.goto 5, 3) := by decide +kernel
theorem d1_20 : decode method_2_code 20 = .ok (.bipush 97, 2) := by decide +kernel
theorem d1_22 : decode method_2_code 22 = .ok (.iload_n 0, 1) := by decide +kernel
theorem d1_23 : decode method_2_code 23 = .ok (.bipush 10, 2) := by decide +kernel
theorem d1_25 : decode method_2_code 25 = .ok (.isub, 1) := by decide +kernel
theorem d1_26 : decode method_2_code 26 = .ok (.iadd, 1) := by decide +kernel
theorem d1_27 : decode method_2_code 27 = .ok (.ireturn, 1) := by decide +kernel
theorem pn_1 : plainName "com/example/serendib/serendib/lexer/NumericLiteralDigitPinLaw" = true := by first | (simp [plainName, overriddenIn]; done) | decide +kernel
theorem ef_Enc (m : MethodId) (p1 : Int32) (p2 : Int32) : entryFrame m #[(.int p1), (.int p2)] 2 = mkF m 0 #[.val (.int p1), .val (.int p2)] [] := by first | (simp [entryFrame, mkF, argsToLocals, Value.category]; done) | rfl
def QEnc (Z : State) (p1 : Int32) (p2 : Int32) (h0 : Heap) (n0 : Nat) (v : Option Value) (h : Heap) (L : List Loc) : Prop := v = some (.int (encF p1 p2)) ∧ Fr n0 L ∧ h = h0
set_option maxRecDepth 65536 in
set_option maxHeartbeats 40000000 in
theorem rmEnc (l : Launch) (Z : State) (a0 : Array Value) (hw : ∀ d ∈ tables_1, d.before a0 Z = true) (ws : List Jvm.Cond) (p1 : Int32) (p2 : Int32) (h0 : Heap) (n0 : Nat) (Z0 : n0 ≤ h0.size) :
    MetFree l (⟨"com/example/serendib/serendib/lexer/NumericLiteralDigitPinLaw", "encode", "(IZ)I"⟩ : MethodName) (head1 (Jvm.Cond.code (⟨"com/example/serendib/serendib/lexer/NumericLiteralDigitPinLaw", "encode", "(IZ)I"⟩ : MethodName) method_2_code 2 (some .int) :: ws) ({ frames := 0, cells := 0, slots := 0, locals := 0 } : Room)) (fun a U => a = #[(.int p1), (.int p2)] ∧ Z.Warmed39 U.vm ∧ U.heap = h0) (fun _ _ _ _ _ => True) (fun _ U o U' => ∃ v L, o = .returned v ∧ QEnc Z p1 p2 h0 n0 v U'.heap L ∧ FrameEnd U o U' L ({ frames := 0, cells := 0, slots := 0, locals := 0 } : Room).cells ({ frames := 0, cells := 0, slots := 0, locals := 0 } : Room).slots) := by
  refine MetFree.of_bodySF (plainFor_of_name pn_1) hisR ?_
  intro p e s m args below meth c s₁ Bd hml0 hP hK
  obtain ⟨rfl, hZ, hh⟩ := hP
  have hx := Bd.exec
  have hby := Bd.bytes
  have hml : c.maxLocals = 2 := hml0
  have hown : s.vm.findClass "com/example/serendib/serendib/lexer/NumericLiteralDigitPinLaw" = some m.cls := findClass_of_methodNamed Bd.named
  have hnm := (name_of_methodNamed Bd.named Bd.method).1
  have X0 : Stand p l e ({ frames := 0, cells := 0, slots := 0, locals := 0 } : Room) s m #[(.int p1), (.int p2)] below meth c s₁ [] 0 0 := Stand.of_body Bd
  have hs0 : h0 = s.heap := hh.symm
  have e0 : s₁.heap = h0 := by rw [← hh, Bd.state]; rfl
  have N0 := Fr.nil n0
  obtain ⟨f0, hf0⟩ : ∃ f, f = entryFrame m #[(.int p1), (.int p2)] 2 := ⟨_, rfl⟩
  have pre0 : ∀ t, Steps p.tables e below (s₁.setTop f0) t → Steps p.tables e below (s₁.setTop (entryFrame m #[(.int p1), (.int p2)] 2)) t := fun t k => hf0 ▸ k
  have K0 : Gx p e below s₁ f0 s₁ (mkF m 0 #[.val (.int p1), .val (.int p2)] []) := fun t kt => by rw [hf0]; exact castTop (ef_Enc m p1 p2) kt
  have K1 : Gx p e below s₁ f0 s₁ (mkF m 3 #[.val (.int p1), .val (.int p2)] [(.int (10 : Int32)), (.int p1)]) := fun t kt => K0 t (by
    show Steps p.tables e below (s₁.setTop (mkF m 0 #[.val (.int p1), .val (.int p2)] [])) _
    refine XS.iloadN X0.here hx rfl (hb hby d1_0) rfl ?_
    show Steps p.tables e below (s₁.setTop (mkF m 1 #[.val (.int p1), .val (.int p2)] [(.int p1)])) _
    refine XS.bipush X0.here hx rfl (hb hby d1_1) ?_
    exact kt)
  by_cases hb2 : p1 < (10 : Int32)
  · skip
    have K3 : Gx p e below s₁ f0 s₁ (mkF m 10 #[.val (.int p1), .val (.int p2)] [(.int ((48 : Int32) + p1))]) := fun t kt => K1 t (by
      show Steps p.tables e below (s₁.setTop (mkF m 3 #[.val (.int p1), .val (.int p2)] [(.int (10 : Int32)), (.int p1)])) _
      refine XS.icmpNo X0.here hx rfl (hb hby d1_3) rfl (tlt hb2).2.1 ?_
      show Steps p.tables e below (s₁.setTop (mkF m 6 #[.val (.int p1), .val (.int p2)] [])) _
      refine XS.bipush X0.here hx rfl (hb hby d1_6) ?_
      show Steps p.tables e below (s₁.setTop (mkF m 8 #[.val (.int p1), .val (.int p2)] [(.int (48 : Int32))])) _
      refine XS.iloadN X0.here hx rfl (hb hby d1_8) rfl ?_
      show Steps p.tables e below (s₁.setTop (mkF m 9 #[.val (.int p1), .val (.int p2)] [(.int p1), (.int (48 : Int32))])) _
      refine XS.iadd X0.here hx rfl (hb hby d1_9) rfl ?_
      exact kt)
    obtain ⟨fs4, hr4, hrun4, hended4, hW4, hsame4⟩ := X0.leave (v := some (.int ((48 : Int32) + p1))) (fun h => by rw [Bd.returns] at h; cases h)
    refine ⟨_, _, pre0 _ (K3 _ ?_), hrun4, hended4, _, _, rfl, ?_, ⟨_, rfl⟩, hW4, hsame4.mono (by decide) (by decide)⟩
    · exact retI X0 hx Bd.returns (hb hby d1_10) hr4
    · show QEnc Z p1 p2 h0 n0 _ s₁.heap _
      rw [e0]
      exact ⟨(congrArg some (congrArg Value.int (by first | (simp only [encF, if_pos hb2]; done)))), N0, rfl⟩
  · skip
    have K7 : Gx p e below s₁ f0 s₁ (mkF m 12 #[.val (.int p1), .val (.int p2)] [(.int p2)]) := fun t kt => K1 t (by
      show Steps p.tables e below (s₁.setTop (mkF m 3 #[.val (.int p1), .val (.int p2)] [(.int (10 : Int32)), (.int p1)])) _
      refine XS.icmpYes X0.here hx rfl (pc0 := 3) (pc' := 11) rfl (hb hby d1_3) rfl (flt hb2).2.1 (by decide) (by decide) ?_
      show Steps p.tables e below (s₁.setTop (mkF m 11 #[.val (.int p1), .val (.int p2)] [])) _
      refine XS.iloadN X0.here hx rfl (hb hby d1_11) rfl ?_
      exact kt)
    obtain ⟨v6, hv6⟩ : ∃ z : Int32, z = (if p2 = (0 : Int32) then (97 : Int32) else (65 : Int32)) := ⟨_, rfl⟩
    have K8 : Gx p e below s₁ f0 s₁ (mkF m 22 #[.val (.int p1), .val (.int p2)] [(.int v6)]) := fun t kt => K7 t (by
      by_cases hc12_4 : p2 = (0 : Int32)
      · skip
        show Steps p.tables e below (s₁.setTop (mkF m 12 #[.val (.int p1), .val (.int p2)] [(.int p2)])) _
        refine XS.ifYes X0.here hx rfl (pc0 := 12) (pc' := 20) rfl (hb hby d1_12) rfl ((if0 _ _).trans (teq hc12_4).1) (by decide) (by decide) ?_
        show Steps p.tables e below (s₁.setTop (mkF m 20 #[.val (.int p1), .val (.int p2)] [])) _
        refine XS.bipush X0.here hx rfl (hb hby d1_20) ?_
        show Steps p.tables e below (s₁.setTop (mkF m 22 #[.val (.int p1), .val (.int p2)] [(.int (97 : Int32))])) _
        exact castTop (by simp only [hv6, if_pos hc12_4]) kt
      · skip
        show Steps p.tables e below (s₁.setTop (mkF m 12 #[.val (.int p1), .val (.int p2)] [(.int p2)])) _
        refine XS.ifNo X0.here hx rfl (hb hby d1_12) rfl ((if0 _ _).trans (feq hc12_4).1) ?_
        show Steps p.tables e below (s₁.setTop (mkF m 15 #[.val (.int p1), .val (.int p2)] [])) _
        refine XS.bipush X0.here hx rfl (hb hby d1_15) ?_
        show Steps p.tables e below (s₁.setTop (mkF m 17 #[.val (.int p1), .val (.int p2)] [(.int (65 : Int32))])) _
        refine XS.goto X0.here hx rfl (pc0 := 17) (pc' := 22) rfl (hb hby d1_17) (by decide) (by decide) ?_
        show Steps p.tables e below (s₁.setTop (mkF m 22 #[.val (.int p1), .val (.int p2)] [(.int (65 : Int32))])) _
        exact castTop (by simp only [hv6, if_neg hc12_4]) kt)
    have K9 : Gx p e below s₁ f0 s₁ (mkF m 27 #[.val (.int p1), .val (.int p2)] [(.int (v6 + (p1 - (10 : Int32))))]) := fun t kt => K8 t (by
      show Steps p.tables e below (s₁.setTop (mkF m 22 #[.val (.int p1), .val (.int p2)] [(.int v6)])) _
      refine XS.iloadN X0.here hx rfl (hb hby d1_22) rfl ?_
      show Steps p.tables e below (s₁.setTop (mkF m 23 #[.val (.int p1), .val (.int p2)] [(.int p1), (.int v6)])) _
      refine XS.bipush X0.here hx rfl (hb hby d1_23) ?_
      show Steps p.tables e below (s₁.setTop (mkF m 25 #[.val (.int p1), .val (.int p2)] [(.int (10 : Int32)), (.int p1), (.int v6)])) _
      refine XS.isub X0.here hx rfl (hb hby d1_25) rfl ?_
      show Steps p.tables e below (s₁.setTop (mkF m 26 #[.val (.int p1), .val (.int p2)] [(.int (p1 - (10 : Int32))), (.int v6)])) _
      refine XS.iadd X0.here hx rfl (hb hby d1_26) rfl ?_
      exact kt)
    obtain ⟨fs10, hr10, hrun10, hended10, hW10, hsame10⟩ := X0.leave (v := some (.int (v6 + (p1 - (10 : Int32))))) (fun h => by rw [Bd.returns] at h; cases h)
    refine ⟨_, _, pre0 _ (K9 _ ?_), hrun10, hended10, _, _, rfl, ?_, ⟨_, rfl⟩, hW10, hsame10.mono (by decide) (by decide)⟩
    · exact retI X0 hx Bd.returns (hb hby d1_27) hr10
    · show QEnc Z p1 p2 h0 n0 _ s₁.heap _
      rw [e0]
      exact ⟨(congrArg some (congrArg Value.int (by first | (simp only [encF, hv6, if_neg hb2]; done) | (rw [hv6]; rfl)))), N0, rfl⟩
theorem d2_0 : decode prog_41_method_3_code 0 = .ok (.iconst (-1), 1) := by decide +kernel
theorem d2_1 : decode prog_41_method_3_code 1 = .ok (.istore_n 2, 1) := by decide +kernel
theorem d2_2 : decode prog_41_method_3_code 2 = .ok (.iload_n 0, 1) := by decide +kernel
theorem d2_3 : decode prog_41_method_3_code 3 = .ok (.bipush 48, 2) := by decide +kernel
theorem d2_5 : decode prog_41_method_3_code 5 = .ok (.if_icmp .lt 17, 3) := by decide +kernel
theorem d2_8 : decode prog_41_method_3_code 8 = .ok (.iload_n 0, 1) := by decide +kernel
theorem d2_9 : decode prog_41_method_3_code 9 = .ok (.bipush 57, 2) := by decide +kernel
theorem d2_11 : decode prog_41_method_3_code 11 = .ok (.if_icmp .gt 11, 3) := by decide +kernel
theorem d2_14 : decode prog_41_method_3_code 14 = .ok (.iload_n 0, 1) := by decide +kernel
theorem d2_15 : decode prog_41_method_3_code 15 = .ok (.bipush 48, 2) := by decide +kernel
theorem d2_17 : decode prog_41_method_3_code 17 = .ok (.isub, 1) := by decide +kernel
theorem d2_18 : decode prog_41_method_3_code 18 = .ok (.istore_n 2, 1) := by decide +kernel
theorem d2_19 : decode prog_41_method_3_code 19 = .ok (.goto 46, 3) := by decide +kernel
theorem d2_22 : decode prog_41_method_3_code 22 = .ok (.iload_n 0, 1) := by decide +kernel
theorem d2_23 : decode prog_41_method_3_code 23 = .ok (.bipush 97, 2) := by decide +kernel
theorem d2_25 : decode prog_41_method_3_code 25 = .ok (.if_icmp .lt 20, 3) := by decide +kernel
theorem d2_28 : decode prog_41_method_3_code 28 = .ok (.iload_n 0, 1) := by decide +kernel
theorem d2_29 : decode prog_41_method_3_code 29 = .ok (.bipush 102, 2) := by decide +kernel
theorem d2_31 : decode prog_41_method_3_code 31 = .ok (.if_icmp .gt 14, 3) := by decide +kernel
theorem d2_34 : decode prog_41_method_3_code 34 = .ok (.iload_n 0, 1) := by decide +kernel
theorem d2_35 : decode prog_41_method_3_code 35 = .ok (.bipush 97, 2) := by decide +kernel
theorem d2_37 : decode prog_41_method_3_code 37 = .ok (.isub, 1) := by decide +kernel
theorem d2_38 : decode prog_41_method_3_code 38 = .ok (.bipush 10, 2) := by decide +kernel
theorem d2_40 : decode prog_41_method_3_code 40 = .ok (.iadd, 1) := by decide +kernel
theorem d2_41 : decode prog_41_method_3_code 41 = .ok (.istore_n 2, 1) := by decide +kernel
theorem d2_42 : decode prog_41_method_3_code 42 = .ok (.goto 23, 3) := by decide +kernel
theorem d2_45 : decode prog_41_method_3_code 45 = .ok (.iload_n 0, 1) := by decide +kernel
theorem d2_46 : decode prog_41_method_3_code 46 = .ok (.bipush 65, 2) := by decide +kernel
theorem d2_48 : decode prog_41_method_3_code 48 = .ok (.if_icmp .lt 17, 3) := by decide +kernel
theorem d2_51 : decode prog_41_method_3_code 51 = .ok (.iload_n 0, 1) := by decide +kernel
theorem d2_52 : decode prog_41_method_3_code 52 = .ok (.bipush 70, 2) := by decide +kernel
theorem d2_54 : decode prog_41_method_3_code 54 = .ok (.if_icmp .gt 11, 3) := by decide +kernel
theorem d2_57 : decode prog_41_method_3_code 57 = .ok (.iload_n 0, 1) := by decide +kernel
theorem d2_58 : decode prog_41_method_3_code 58 = .ok (.bipush 65, 2) := by decide +kernel
theorem d2_60 : decode prog_41_method_3_code 60 = .ok (.isub, 1) := by decide +kernel
theorem d2_61 : decode prog_41_method_3_code 61 = .ok (.bipush 10, 2) := by decide +kernel
theorem d2_63 : decode prog_41_method_3_code 63 = .ok (.iadd, 1) := by decide +kernel
theorem d2_64 : decode prog_41_method_3_code 64 = .ok (.istore_n 2, 1) := by decide +kernel
theorem d2_65 : decode prog_41_method_3_code 65 = .ok (.iload_n 2, 1) := by decide +kernel
theorem d2_66 : decode prog_41_method_3_code 66 = .ok (.iload_n 1, 1) := by decide +kernel
theorem d2_67 : decode prog_41_method_3_code 67 = .ok (.if_icmp .ge 7, 3) := by decide +kernel
theorem d2_70 : decode prog_41_method_3_code 70 = .ok (.iload_n 2, 1) := by decide +kernel
theorem d2_71 : decode prog_41_method_3_code 71 = .ok (.goto 4, 3) := by decide +kernel
theorem d2_74 : decode prog_41_method_3_code 74 = .ok (.iconst (-1), 1) := by decide +kernel
theorem d2_75 : decode prog_41_method_3_code 75 = .ok (.ireturn, 1) := by decide +kernel
theorem pn_2 : plainName "com/example/serendib/serendib/lexer/NumericLiteral" = true := by first | (simp [plainName, overriddenIn]; done) | decide +kernel
theorem ef_Dig (m : MethodId) (p1 : Int32) (p2 : Int32) : entryFrame m #[(.int p1), (.int p2)] 3 = mkF m 0 #[.val (.int p1), .val (.int p2), .unset] [] := by first | (simp [entryFrame, mkF, argsToLocals, Value.category]; done) | rfl
def QDig (Z : State) (p1 : Int32) (p2 : Int32) (h0 : Heap) (n0 : Nat) (v : Option Value) (h : Heap) (L : List Loc) : Prop := v = some (.int (digF p1 p2)) ∧ Fr n0 L ∧ h = h0
set_option maxRecDepth 65536 in
set_option maxHeartbeats 40000000 in
theorem rmDig (l : Launch) (Z : State) (a0 : Array Value) (hw : ∀ d ∈ tables_1, d.before a0 Z = true) (ws : List Jvm.Cond) (p1 : Int32) (p2 : Int32) (h0 : Heap) (n0 : Nat) (Z0 : n0 ≤ h0.size) :
    MetFree l (⟨"com/example/serendib/serendib/lexer/NumericLiteral", "digit", "(II)I"⟩ : MethodName) (head1 (Jvm.Cond.code (⟨"com/example/serendib/serendib/lexer/NumericLiteral", "digit", "(II)I"⟩ : MethodName) prog_41_method_3_code 3 (some .int) :: ws) ({ frames := 0, cells := 0, slots := 0, locals := 0 } : Room)) (fun a U => a = #[(.int p1), (.int p2)] ∧ Z.Warmed39 U.vm ∧ U.heap = h0) (fun _ _ _ _ _ => True) (fun _ U o U' => ∃ v L, o = .returned v ∧ QDig Z p1 p2 h0 n0 v U'.heap L ∧ FrameEnd U o U' L ({ frames := 0, cells := 0, slots := 0, locals := 0 } : Room).cells ({ frames := 0, cells := 0, slots := 0, locals := 0 } : Room).slots) := by
  refine MetFree.of_bodySF (plainFor_of_name pn_2) hisR ?_
  intro p e s m args below meth c s₁ Bd hml0 hP hK
  obtain ⟨rfl, hZ, hh⟩ := hP
  have hx := Bd.exec
  have hby := Bd.bytes
  have hml : c.maxLocals = 3 := hml0
  have hown : s.vm.findClass "com/example/serendib/serendib/lexer/NumericLiteral" = some m.cls := findClass_of_methodNamed Bd.named
  have hnm := (name_of_methodNamed Bd.named Bd.method).1
  have X0 : Stand p l e ({ frames := 0, cells := 0, slots := 0, locals := 0 } : Room) s m #[(.int p1), (.int p2)] below meth c s₁ [] 0 0 := Stand.of_body Bd
  have hs0 : h0 = s.heap := hh.symm
  have e0 : s₁.heap = h0 := by rw [← hh, Bd.state]; rfl
  have N0 := Fr.nil n0
  obtain ⟨f0, hf0⟩ : ∃ f, f = entryFrame m #[(.int p1), (.int p2)] 3 := ⟨_, rfl⟩
  have pre0 : ∀ t, Steps p.tables e below (s₁.setTop f0) t → Steps p.tables e below (s₁.setTop (entryFrame m #[(.int p1), (.int p2)] 3)) t := fun t k => hf0 ▸ k
  have K0 : Gx p e below s₁ f0 s₁ (mkF m 0 #[.val (.int p1), .val (.int p2), .unset] []) := fun t kt => by rw [hf0]; exact castTop (ef_Dig m p1 p2) kt
  have K16 : Gx p e below s₁ f0 s₁ (mkF m 5 #[.val (.int p1), .val (.int p2), .val (.int (-1 : Int32))] [(.int (48 : Int32)), (.int p1)]) := fun t kt => K0 t (by
    show Steps p.tables e below (s₁.setTop (mkF m 0 #[.val (.int p1), .val (.int p2), .unset] [])) _
    refine XS.iconst X0.here hx rfl (hb hby d2_0) ?_
    show Steps p.tables e below (s₁.setTop (mkF m 1 #[.val (.int p1), .val (.int p2), .unset] [(.int (-1 : Int32))])) _
    refine XS.istoreN X0.here hx rfl (hb hby d2_1) rfl (l' := #[.val (.int p1), .val (.int p2), .val (.int (-1 : Int32))]) rfl ?_
    show Steps p.tables e below (s₁.setTop (mkF m 2 #[.val (.int p1), .val (.int p2), .val (.int (-1 : Int32))] [])) _
    refine XS.iloadN X0.here hx rfl (hb hby d2_2) rfl ?_
    show Steps p.tables e below (s₁.setTop (mkF m 3 #[.val (.int p1), .val (.int p2), .val (.int (-1 : Int32))] [(.int p1)])) _
    refine XS.bipush X0.here hx rfl (hb hby d2_3) ?_
    exact kt)
  obtain ⟨v15, hv15⟩ : ∃ z : Int32, z = (if p1 < (48 : Int32) then (if p1 < (97 : Int32) then (if p1 < (65 : Int32) then (-1 : Int32) else (if (70 : Int32) < p1 then (-1 : Int32) else ((p1 - (65 : Int32)) + (10 : Int32)))) else (if (102 : Int32) < p1 then (if p1 < (65 : Int32) then (-1 : Int32) else (if (70 : Int32) < p1 then (-1 : Int32) else ((p1 - (65 : Int32)) + (10 : Int32)))) else ((p1 - (97 : Int32)) + (10 : Int32)))) else (if (57 : Int32) < p1 then (if p1 < (97 : Int32) then (if p1 < (65 : Int32) then (-1 : Int32) else (if (70 : Int32) < p1 then (-1 : Int32) else ((p1 - (65 : Int32)) + (10 : Int32)))) else (if (102 : Int32) < p1 then (if p1 < (65 : Int32) then (-1 : Int32) else (if (70 : Int32) < p1 then (-1 : Int32) else ((p1 - (65 : Int32)) + (10 : Int32)))) else ((p1 - (97 : Int32)) + (10 : Int32)))) else (p1 - (48 : Int32)))) := ⟨_, rfl⟩
  have K17 : Gx p e below s₁ f0 s₁ (mkF m 65 #[.val (.int p1), .val (.int p2), .val (.int v15)] []) := fun t kt => K16 t (by
    by_cases hc5_0 : p1 < (48 : Int32)
    · skip
      show Steps p.tables e below (s₁.setTop (mkF m 5 #[.val (.int p1), .val (.int p2), .val (.int (-1 : Int32))] [(.int (48 : Int32)), (.int p1)])) _
      refine XS.icmpYes X0.here hx rfl (pc0 := 5) (pc' := 22) rfl (hb hby d2_5) rfl (tlt hc5_0).1 (by decide) (by decide) ?_
      show Steps p.tables e below (s₁.setTop (mkF m 22 #[.val (.int p1), .val (.int p2), .val (.int (-1 : Int32))] [])) _
      refine XS.iloadN X0.here hx rfl (hb hby d2_22) rfl ?_
      show Steps p.tables e below (s₁.setTop (mkF m 23 #[.val (.int p1), .val (.int p2), .val (.int (-1 : Int32))] [(.int p1)])) _
      refine XS.bipush X0.here hx rfl (hb hby d2_23) ?_
      by_cases hc25_1 : p1 < (97 : Int32)
      · skip
        show Steps p.tables e below (s₁.setTop (mkF m 25 #[.val (.int p1), .val (.int p2), .val (.int (-1 : Int32))] [(.int (97 : Int32)), (.int p1)])) _
        refine XS.icmpYes X0.here hx rfl (pc0 := 25) (pc' := 45) rfl (hb hby d2_25) rfl (tlt hc25_1).1 (by decide) (by decide) ?_
        show Steps p.tables e below (s₁.setTop (mkF m 45 #[.val (.int p1), .val (.int p2), .val (.int (-1 : Int32))] [])) _
        refine XS.iloadN X0.here hx rfl (hb hby d2_45) rfl ?_
        show Steps p.tables e below (s₁.setTop (mkF m 46 #[.val (.int p1), .val (.int p2), .val (.int (-1 : Int32))] [(.int p1)])) _
        refine XS.bipush X0.here hx rfl (hb hby d2_46) ?_
        by_cases hc48_2 : p1 < (65 : Int32)
        · skip
          show Steps p.tables e below (s₁.setTop (mkF m 48 #[.val (.int p1), .val (.int p2), .val (.int (-1 : Int32))] [(.int (65 : Int32)), (.int p1)])) _
          refine XS.icmpYes X0.here hx rfl (pc0 := 48) (pc' := 65) rfl (hb hby d2_48) rfl (tlt hc48_2).1 (by decide) (by decide) ?_
          show Steps p.tables e below (s₁.setTop (mkF m 65 #[.val (.int p1), .val (.int p2), .val (.int (-1 : Int32))] [])) _
          exact castTop (by simp only [hv15, if_pos hc5_0, if_pos hc25_1, if_pos hc48_2]) kt
        · skip
          show Steps p.tables e below (s₁.setTop (mkF m 48 #[.val (.int p1), .val (.int p2), .val (.int (-1 : Int32))] [(.int (65 : Int32)), (.int p1)])) _
          refine XS.icmpNo X0.here hx rfl (hb hby d2_48) rfl (flt hc48_2).1 ?_
          show Steps p.tables e below (s₁.setTop (mkF m 51 #[.val (.int p1), .val (.int p2), .val (.int (-1 : Int32))] [])) _
          refine XS.iloadN X0.here hx rfl (hb hby d2_51) rfl ?_
          show Steps p.tables e below (s₁.setTop (mkF m 52 #[.val (.int p1), .val (.int p2), .val (.int (-1 : Int32))] [(.int p1)])) _
          refine XS.bipush X0.here hx rfl (hb hby d2_52) ?_
          by_cases hc54_3 : (70 : Int32) < p1
          · skip
            show Steps p.tables e below (s₁.setTop (mkF m 54 #[.val (.int p1), .val (.int p2), .val (.int (-1 : Int32))] [(.int (70 : Int32)), (.int p1)])) _
            refine XS.icmpYes X0.here hx rfl (pc0 := 54) (pc' := 65) rfl (hb hby d2_54) rfl (tlt hc54_3).2.2.1 (by decide) (by decide) ?_
            show Steps p.tables e below (s₁.setTop (mkF m 65 #[.val (.int p1), .val (.int p2), .val (.int (-1 : Int32))] [])) _
            exact castTop (by simp only [hv15, if_pos hc5_0, if_pos hc25_1, if_neg hc48_2, if_pos hc54_3]) kt
          · skip
            show Steps p.tables e below (s₁.setTop (mkF m 54 #[.val (.int p1), .val (.int p2), .val (.int (-1 : Int32))] [(.int (70 : Int32)), (.int p1)])) _
            refine XS.icmpNo X0.here hx rfl (hb hby d2_54) rfl (flt hc54_3).2.2.1 ?_
            show Steps p.tables e below (s₁.setTop (mkF m 57 #[.val (.int p1), .val (.int p2), .val (.int (-1 : Int32))] [])) _
            refine XS.iloadN X0.here hx rfl (hb hby d2_57) rfl ?_
            show Steps p.tables e below (s₁.setTop (mkF m 58 #[.val (.int p1), .val (.int p2), .val (.int (-1 : Int32))] [(.int p1)])) _
            refine XS.bipush X0.here hx rfl (hb hby d2_58) ?_
            show Steps p.tables e below (s₁.setTop (mkF m 60 #[.val (.int p1), .val (.int p2), .val (.int (-1 : Int32))] [(.int (65 : Int32)), (.int p1)])) _
            refine XS.isub X0.here hx rfl (hb hby d2_60) rfl ?_
            show Steps p.tables e below (s₁.setTop (mkF m 61 #[.val (.int p1), .val (.int p2), .val (.int (-1 : Int32))] [(.int (p1 - (65 : Int32)))])) _
            refine XS.bipush X0.here hx rfl (hb hby d2_61) ?_
            show Steps p.tables e below (s₁.setTop (mkF m 63 #[.val (.int p1), .val (.int p2), .val (.int (-1 : Int32))] [(.int (10 : Int32)), (.int (p1 - (65 : Int32)))])) _
            refine XS.iadd X0.here hx rfl (hb hby d2_63) rfl ?_
            show Steps p.tables e below (s₁.setTop (mkF m 64 #[.val (.int p1), .val (.int p2), .val (.int (-1 : Int32))] [(.int ((p1 - (65 : Int32)) + (10 : Int32)))])) _
            refine XS.istoreN X0.here hx rfl (hb hby d2_64) rfl (l' := #[.val (.int p1), .val (.int p2), .val (.int ((p1 - (65 : Int32)) + (10 : Int32)))]) rfl ?_
            show Steps p.tables e below (s₁.setTop (mkF m 65 #[.val (.int p1), .val (.int p2), .val (.int ((p1 - (65 : Int32)) + (10 : Int32)))] [])) _
            exact castTop (by simp only [hv15, if_pos hc5_0, if_pos hc25_1, if_neg hc48_2, if_neg hc54_3]) kt
      · skip
        show Steps p.tables e below (s₁.setTop (mkF m 25 #[.val (.int p1), .val (.int p2), .val (.int (-1 : Int32))] [(.int (97 : Int32)), (.int p1)])) _
        refine XS.icmpNo X0.here hx rfl (hb hby d2_25) rfl (flt hc25_1).1 ?_
        show Steps p.tables e below (s₁.setTop (mkF m 28 #[.val (.int p1), .val (.int p2), .val (.int (-1 : Int32))] [])) _
        refine XS.iloadN X0.here hx rfl (hb hby d2_28) rfl ?_
        show Steps p.tables e below (s₁.setTop (mkF m 29 #[.val (.int p1), .val (.int p2), .val (.int (-1 : Int32))] [(.int p1)])) _
        refine XS.bipush X0.here hx rfl (hb hby d2_29) ?_
        by_cases hc31_4 : (102 : Int32) < p1
        · skip
          show Steps p.tables e below (s₁.setTop (mkF m 31 #[.val (.int p1), .val (.int p2), .val (.int (-1 : Int32))] [(.int (102 : Int32)), (.int p1)])) _
          refine XS.icmpYes X0.here hx rfl (pc0 := 31) (pc' := 45) rfl (hb hby d2_31) rfl (tlt hc31_4).2.2.1 (by decide) (by decide) ?_
          show Steps p.tables e below (s₁.setTop (mkF m 45 #[.val (.int p1), .val (.int p2), .val (.int (-1 : Int32))] [])) _
          refine XS.iloadN X0.here hx rfl (hb hby d2_45) rfl ?_
          show Steps p.tables e below (s₁.setTop (mkF m 46 #[.val (.int p1), .val (.int p2), .val (.int (-1 : Int32))] [(.int p1)])) _
          refine XS.bipush X0.here hx rfl (hb hby d2_46) ?_
          by_cases hc48_5 : p1 < (65 : Int32)
          · skip
            show Steps p.tables e below (s₁.setTop (mkF m 48 #[.val (.int p1), .val (.int p2), .val (.int (-1 : Int32))] [(.int (65 : Int32)), (.int p1)])) _
            refine XS.icmpYes X0.here hx rfl (pc0 := 48) (pc' := 65) rfl (hb hby d2_48) rfl (tlt hc48_5).1 (by decide) (by decide) ?_
            show Steps p.tables e below (s₁.setTop (mkF m 65 #[.val (.int p1), .val (.int p2), .val (.int (-1 : Int32))] [])) _
            exact castTop (by simp only [hv15, if_pos hc5_0, if_neg hc25_1, if_pos hc31_4, if_pos hc48_5]) kt
          · skip
            show Steps p.tables e below (s₁.setTop (mkF m 48 #[.val (.int p1), .val (.int p2), .val (.int (-1 : Int32))] [(.int (65 : Int32)), (.int p1)])) _
            refine XS.icmpNo X0.here hx rfl (hb hby d2_48) rfl (flt hc48_5).1 ?_
            show Steps p.tables e below (s₁.setTop (mkF m 51 #[.val (.int p1), .val (.int p2), .val (.int (-1 : Int32))] [])) _
            refine XS.iloadN X0.here hx rfl (hb hby d2_51) rfl ?_
            show Steps p.tables e below (s₁.setTop (mkF m 52 #[.val (.int p1), .val (.int p2), .val (.int (-1 : Int32))] [(.int p1)])) _
            refine XS.bipush X0.here hx rfl (hb hby d2_52) ?_
            by_cases hc54_6 : (70 : Int32) < p1
            · skip
              show Steps p.tables e below (s₁.setTop (mkF m 54 #[.val (.int p1), .val (.int p2), .val (.int (-1 : Int32))] [(.int (70 : Int32)), (.int p1)])) _
              refine XS.icmpYes X0.here hx rfl (pc0 := 54) (pc' := 65) rfl (hb hby d2_54) rfl (tlt hc54_6).2.2.1 (by decide) (by decide) ?_
              show Steps p.tables e below (s₁.setTop (mkF m 65 #[.val (.int p1), .val (.int p2), .val (.int (-1 : Int32))] [])) _
              exact castTop (by simp only [hv15, if_pos hc5_0, if_neg hc25_1, if_pos hc31_4, if_neg hc48_5, if_pos hc54_6]) kt
            · skip
              show Steps p.tables e below (s₁.setTop (mkF m 54 #[.val (.int p1), .val (.int p2), .val (.int (-1 : Int32))] [(.int (70 : Int32)), (.int p1)])) _
              refine XS.icmpNo X0.here hx rfl (hb hby d2_54) rfl (flt hc54_6).2.2.1 ?_
              show Steps p.tables e below (s₁.setTop (mkF m 57 #[.val (.int p1), .val (.int p2), .val (.int (-1 : Int32))] [])) _
              refine XS.iloadN X0.here hx rfl (hb hby d2_57) rfl ?_
              show Steps p.tables e below (s₁.setTop (mkF m 58 #[.val (.int p1), .val (.int p2), .val (.int (-1 : Int32))] [(.int p1)])) _
              refine XS.bipush X0.here hx rfl (hb hby d2_58) ?_
              show Steps p.tables e below (s₁.setTop (mkF m 60 #[.val (.int p1), .val (.int p2), .val (.int (-1 : Int32))] [(.int (65 : Int32)), (.int p1)])) _
              refine XS.isub X0.here hx rfl (hb hby d2_60) rfl ?_
              show Steps p.tables e below (s₁.setTop (mkF m 61 #[.val (.int p1), .val (.int p2), .val (.int (-1 : Int32))] [(.int (p1 - (65 : Int32)))])) _
              refine XS.bipush X0.here hx rfl (hb hby d2_61) ?_
              show Steps p.tables e below (s₁.setTop (mkF m 63 #[.val (.int p1), .val (.int p2), .val (.int (-1 : Int32))] [(.int (10 : Int32)), (.int (p1 - (65 : Int32)))])) _
              refine XS.iadd X0.here hx rfl (hb hby d2_63) rfl ?_
              show Steps p.tables e below (s₁.setTop (mkF m 64 #[.val (.int p1), .val (.int p2), .val (.int (-1 : Int32))] [(.int ((p1 - (65 : Int32)) + (10 : Int32)))])) _
              refine XS.istoreN X0.here hx rfl (hb hby d2_64) rfl (l' := #[.val (.int p1), .val (.int p2), .val (.int ((p1 - (65 : Int32)) + (10 : Int32)))]) rfl ?_
              show Steps p.tables e below (s₁.setTop (mkF m 65 #[.val (.int p1), .val (.int p2), .val (.int ((p1 - (65 : Int32)) + (10 : Int32)))] [])) _
              exact castTop (by simp only [hv15, if_pos hc5_0, if_neg hc25_1, if_pos hc31_4, if_neg hc48_5, if_neg hc54_6]) kt
        · skip
          show Steps p.tables e below (s₁.setTop (mkF m 31 #[.val (.int p1), .val (.int p2), .val (.int (-1 : Int32))] [(.int (102 : Int32)), (.int p1)])) _
          refine XS.icmpNo X0.here hx rfl (hb hby d2_31) rfl (flt hc31_4).2.2.1 ?_
          show Steps p.tables e below (s₁.setTop (mkF m 34 #[.val (.int p1), .val (.int p2), .val (.int (-1 : Int32))] [])) _
          refine XS.iloadN X0.here hx rfl (hb hby d2_34) rfl ?_
          show Steps p.tables e below (s₁.setTop (mkF m 35 #[.val (.int p1), .val (.int p2), .val (.int (-1 : Int32))] [(.int p1)])) _
          refine XS.bipush X0.here hx rfl (hb hby d2_35) ?_
          show Steps p.tables e below (s₁.setTop (mkF m 37 #[.val (.int p1), .val (.int p2), .val (.int (-1 : Int32))] [(.int (97 : Int32)), (.int p1)])) _
          refine XS.isub X0.here hx rfl (hb hby d2_37) rfl ?_
          show Steps p.tables e below (s₁.setTop (mkF m 38 #[.val (.int p1), .val (.int p2), .val (.int (-1 : Int32))] [(.int (p1 - (97 : Int32)))])) _
          refine XS.bipush X0.here hx rfl (hb hby d2_38) ?_
          show Steps p.tables e below (s₁.setTop (mkF m 40 #[.val (.int p1), .val (.int p2), .val (.int (-1 : Int32))] [(.int (10 : Int32)), (.int (p1 - (97 : Int32)))])) _
          refine XS.iadd X0.here hx rfl (hb hby d2_40) rfl ?_
          show Steps p.tables e below (s₁.setTop (mkF m 41 #[.val (.int p1), .val (.int p2), .val (.int (-1 : Int32))] [(.int ((p1 - (97 : Int32)) + (10 : Int32)))])) _
          refine XS.istoreN X0.here hx rfl (hb hby d2_41) rfl (l' := #[.val (.int p1), .val (.int p2), .val (.int ((p1 - (97 : Int32)) + (10 : Int32)))]) rfl ?_
          show Steps p.tables e below (s₁.setTop (mkF m 42 #[.val (.int p1), .val (.int p2), .val (.int ((p1 - (97 : Int32)) + (10 : Int32)))] [])) _
          refine XS.goto X0.here hx rfl (pc0 := 42) (pc' := 65) rfl (hb hby d2_42) (by decide) (by decide) ?_
          show Steps p.tables e below (s₁.setTop (mkF m 65 #[.val (.int p1), .val (.int p2), .val (.int ((p1 - (97 : Int32)) + (10 : Int32)))] [])) _
          exact castTop (by simp only [hv15, if_pos hc5_0, if_neg hc25_1, if_neg hc31_4]) kt
    · skip
      show Steps p.tables e below (s₁.setTop (mkF m 5 #[.val (.int p1), .val (.int p2), .val (.int (-1 : Int32))] [(.int (48 : Int32)), (.int p1)])) _
      refine XS.icmpNo X0.here hx rfl (hb hby d2_5) rfl (flt hc5_0).1 ?_
      show Steps p.tables e below (s₁.setTop (mkF m 8 #[.val (.int p1), .val (.int p2), .val (.int (-1 : Int32))] [])) _
      refine XS.iloadN X0.here hx rfl (hb hby d2_8) rfl ?_
      show Steps p.tables e below (s₁.setTop (mkF m 9 #[.val (.int p1), .val (.int p2), .val (.int (-1 : Int32))] [(.int p1)])) _
      refine XS.bipush X0.here hx rfl (hb hby d2_9) ?_
      by_cases hc11_7 : (57 : Int32) < p1
      · skip
        show Steps p.tables e below (s₁.setTop (mkF m 11 #[.val (.int p1), .val (.int p2), .val (.int (-1 : Int32))] [(.int (57 : Int32)), (.int p1)])) _
        refine XS.icmpYes X0.here hx rfl (pc0 := 11) (pc' := 22) rfl (hb hby d2_11) rfl (tlt hc11_7).2.2.1 (by decide) (by decide) ?_
        show Steps p.tables e below (s₁.setTop (mkF m 22 #[.val (.int p1), .val (.int p2), .val (.int (-1 : Int32))] [])) _
        refine XS.iloadN X0.here hx rfl (hb hby d2_22) rfl ?_
        show Steps p.tables e below (s₁.setTop (mkF m 23 #[.val (.int p1), .val (.int p2), .val (.int (-1 : Int32))] [(.int p1)])) _
        refine XS.bipush X0.here hx rfl (hb hby d2_23) ?_
        by_cases hc25_8 : p1 < (97 : Int32)
        · skip
          show Steps p.tables e below (s₁.setTop (mkF m 25 #[.val (.int p1), .val (.int p2), .val (.int (-1 : Int32))] [(.int (97 : Int32)), (.int p1)])) _
          refine XS.icmpYes X0.here hx rfl (pc0 := 25) (pc' := 45) rfl (hb hby d2_25) rfl (tlt hc25_8).1 (by decide) (by decide) ?_
          show Steps p.tables e below (s₁.setTop (mkF m 45 #[.val (.int p1), .val (.int p2), .val (.int (-1 : Int32))] [])) _
          refine XS.iloadN X0.here hx rfl (hb hby d2_45) rfl ?_
          show Steps p.tables e below (s₁.setTop (mkF m 46 #[.val (.int p1), .val (.int p2), .val (.int (-1 : Int32))] [(.int p1)])) _
          refine XS.bipush X0.here hx rfl (hb hby d2_46) ?_
          by_cases hc48_9 : p1 < (65 : Int32)
          · skip
            show Steps p.tables e below (s₁.setTop (mkF m 48 #[.val (.int p1), .val (.int p2), .val (.int (-1 : Int32))] [(.int (65 : Int32)), (.int p1)])) _
            refine XS.icmpYes X0.here hx rfl (pc0 := 48) (pc' := 65) rfl (hb hby d2_48) rfl (tlt hc48_9).1 (by decide) (by decide) ?_
            show Steps p.tables e below (s₁.setTop (mkF m 65 #[.val (.int p1), .val (.int p2), .val (.int (-1 : Int32))] [])) _
            exact castTop (by simp only [hv15, if_neg hc5_0, if_pos hc11_7, if_pos hc25_8, if_pos hc48_9]) kt
          · skip
            show Steps p.tables e below (s₁.setTop (mkF m 48 #[.val (.int p1), .val (.int p2), .val (.int (-1 : Int32))] [(.int (65 : Int32)), (.int p1)])) _
            refine XS.icmpNo X0.here hx rfl (hb hby d2_48) rfl (flt hc48_9).1 ?_
            show Steps p.tables e below (s₁.setTop (mkF m 51 #[.val (.int p1), .val (.int p2), .val (.int (-1 : Int32))] [])) _
            refine XS.iloadN X0.here hx rfl (hb hby d2_51) rfl ?_
            show Steps p.tables e below (s₁.setTop (mkF m 52 #[.val (.int p1), .val (.int p2), .val (.int (-1 : Int32))] [(.int p1)])) _
            refine XS.bipush X0.here hx rfl (hb hby d2_52) ?_
            by_cases hc54_10 : (70 : Int32) < p1
            · skip
              show Steps p.tables e below (s₁.setTop (mkF m 54 #[.val (.int p1), .val (.int p2), .val (.int (-1 : Int32))] [(.int (70 : Int32)), (.int p1)])) _
              refine XS.icmpYes X0.here hx rfl (pc0 := 54) (pc' := 65) rfl (hb hby d2_54) rfl (tlt hc54_10).2.2.1 (by decide) (by decide) ?_
              show Steps p.tables e below (s₁.setTop (mkF m 65 #[.val (.int p1), .val (.int p2), .val (.int (-1 : Int32))] [])) _
              exact castTop (by simp only [hv15, if_neg hc5_0, if_pos hc11_7, if_pos hc25_8, if_neg hc48_9, if_pos hc54_10]) kt
            · skip
              show Steps p.tables e below (s₁.setTop (mkF m 54 #[.val (.int p1), .val (.int p2), .val (.int (-1 : Int32))] [(.int (70 : Int32)), (.int p1)])) _
              refine XS.icmpNo X0.here hx rfl (hb hby d2_54) rfl (flt hc54_10).2.2.1 ?_
              show Steps p.tables e below (s₁.setTop (mkF m 57 #[.val (.int p1), .val (.int p2), .val (.int (-1 : Int32))] [])) _
              refine XS.iloadN X0.here hx rfl (hb hby d2_57) rfl ?_
              show Steps p.tables e below (s₁.setTop (mkF m 58 #[.val (.int p1), .val (.int p2), .val (.int (-1 : Int32))] [(.int p1)])) _
              refine XS.bipush X0.here hx rfl (hb hby d2_58) ?_
              show Steps p.tables e below (s₁.setTop (mkF m 60 #[.val (.int p1), .val (.int p2), .val (.int (-1 : Int32))] [(.int (65 : Int32)), (.int p1)])) _
              refine XS.isub X0.here hx rfl (hb hby d2_60) rfl ?_
              show Steps p.tables e below (s₁.setTop (mkF m 61 #[.val (.int p1), .val (.int p2), .val (.int (-1 : Int32))] [(.int (p1 - (65 : Int32)))])) _
              refine XS.bipush X0.here hx rfl (hb hby d2_61) ?_
              show Steps p.tables e below (s₁.setTop (mkF m 63 #[.val (.int p1), .val (.int p2), .val (.int (-1 : Int32))] [(.int (10 : Int32)), (.int (p1 - (65 : Int32)))])) _
              refine XS.iadd X0.here hx rfl (hb hby d2_63) rfl ?_
              show Steps p.tables e below (s₁.setTop (mkF m 64 #[.val (.int p1), .val (.int p2), .val (.int (-1 : Int32))] [(.int ((p1 - (65 : Int32)) + (10 : Int32)))])) _
              refine XS.istoreN X0.here hx rfl (hb hby d2_64) rfl (l' := #[.val (.int p1), .val (.int p2), .val (.int ((p1 - (65 : Int32)) + (10 : Int32)))]) rfl ?_
              show Steps p.tables e below (s₁.setTop (mkF m 65 #[.val (.int p1), .val (.int p2), .val (.int ((p1 - (65 : Int32)) + (10 : Int32)))] [])) _
              exact castTop (by simp only [hv15, if_neg hc5_0, if_pos hc11_7, if_pos hc25_8, if_neg hc48_9, if_neg hc54_10]) kt
        · skip
          show Steps p.tables e below (s₁.setTop (mkF m 25 #[.val (.int p1), .val (.int p2), .val (.int (-1 : Int32))] [(.int (97 : Int32)), (.int p1)])) _
          refine XS.icmpNo X0.here hx rfl (hb hby d2_25) rfl (flt hc25_8).1 ?_
          show Steps p.tables e below (s₁.setTop (mkF m 28 #[.val (.int p1), .val (.int p2), .val (.int (-1 : Int32))] [])) _
          refine XS.iloadN X0.here hx rfl (hb hby d2_28) rfl ?_
          show Steps p.tables e below (s₁.setTop (mkF m 29 #[.val (.int p1), .val (.int p2), .val (.int (-1 : Int32))] [(.int p1)])) _
          refine XS.bipush X0.here hx rfl (hb hby d2_29) ?_
          by_cases hc31_11 : (102 : Int32) < p1
          · skip
            show Steps p.tables e below (s₁.setTop (mkF m 31 #[.val (.int p1), .val (.int p2), .val (.int (-1 : Int32))] [(.int (102 : Int32)), (.int p1)])) _
            refine XS.icmpYes X0.here hx rfl (pc0 := 31) (pc' := 45) rfl (hb hby d2_31) rfl (tlt hc31_11).2.2.1 (by decide) (by decide) ?_
            show Steps p.tables e below (s₁.setTop (mkF m 45 #[.val (.int p1), .val (.int p2), .val (.int (-1 : Int32))] [])) _
            refine XS.iloadN X0.here hx rfl (hb hby d2_45) rfl ?_
            show Steps p.tables e below (s₁.setTop (mkF m 46 #[.val (.int p1), .val (.int p2), .val (.int (-1 : Int32))] [(.int p1)])) _
            refine XS.bipush X0.here hx rfl (hb hby d2_46) ?_
            by_cases hc48_12 : p1 < (65 : Int32)
            · skip
              show Steps p.tables e below (s₁.setTop (mkF m 48 #[.val (.int p1), .val (.int p2), .val (.int (-1 : Int32))] [(.int (65 : Int32)), (.int p1)])) _
              refine XS.icmpYes X0.here hx rfl (pc0 := 48) (pc' := 65) rfl (hb hby d2_48) rfl (tlt hc48_12).1 (by decide) (by decide) ?_
              show Steps p.tables e below (s₁.setTop (mkF m 65 #[.val (.int p1), .val (.int p2), .val (.int (-1 : Int32))] [])) _
              exact castTop (by simp only [hv15, if_neg hc5_0, if_pos hc11_7, if_neg hc25_8, if_pos hc31_11, if_pos hc48_12]) kt
            · skip
              show Steps p.tables e below (s₁.setTop (mkF m 48 #[.val (.int p1), .val (.int p2), .val (.int (-1 : Int32))] [(.int (65 : Int32)), (.int p1)])) _
              refine XS.icmpNo X0.here hx rfl (hb hby d2_48) rfl (flt hc48_12).1 ?_
              show Steps p.tables e below (s₁.setTop (mkF m 51 #[.val (.int p1), .val (.int p2), .val (.int (-1 : Int32))] [])) _
              refine XS.iloadN X0.here hx rfl (hb hby d2_51) rfl ?_
              show Steps p.tables e below (s₁.setTop (mkF m 52 #[.val (.int p1), .val (.int p2), .val (.int (-1 : Int32))] [(.int p1)])) _
              refine XS.bipush X0.here hx rfl (hb hby d2_52) ?_
              by_cases hc54_13 : (70 : Int32) < p1
              · skip
                show Steps p.tables e below (s₁.setTop (mkF m 54 #[.val (.int p1), .val (.int p2), .val (.int (-1 : Int32))] [(.int (70 : Int32)), (.int p1)])) _
                refine XS.icmpYes X0.here hx rfl (pc0 := 54) (pc' := 65) rfl (hb hby d2_54) rfl (tlt hc54_13).2.2.1 (by decide) (by decide) ?_
                show Steps p.tables e below (s₁.setTop (mkF m 65 #[.val (.int p1), .val (.int p2), .val (.int (-1 : Int32))] [])) _
                exact castTop (by simp only [hv15, if_neg hc5_0, if_pos hc11_7, if_neg hc25_8, if_pos hc31_11, if_neg hc48_12, if_pos hc54_13]) kt
              · skip
                show Steps p.tables e below (s₁.setTop (mkF m 54 #[.val (.int p1), .val (.int p2), .val (.int (-1 : Int32))] [(.int (70 : Int32)), (.int p1)])) _
                refine XS.icmpNo X0.here hx rfl (hb hby d2_54) rfl (flt hc54_13).2.2.1 ?_
                show Steps p.tables e below (s₁.setTop (mkF m 57 #[.val (.int p1), .val (.int p2), .val (.int (-1 : Int32))] [])) _
                refine XS.iloadN X0.here hx rfl (hb hby d2_57) rfl ?_
                show Steps p.tables e below (s₁.setTop (mkF m 58 #[.val (.int p1), .val (.int p2), .val (.int (-1 : Int32))] [(.int p1)])) _
                refine XS.bipush X0.here hx rfl (hb hby d2_58) ?_
                show Steps p.tables e below (s₁.setTop (mkF m 60 #[.val (.int p1), .val (.int p2), .val (.int (-1 : Int32))] [(.int (65 : Int32)), (.int p1)])) _
                refine XS.isub X0.here hx rfl (hb hby d2_60) rfl ?_
                show Steps p.tables e below (s₁.setTop (mkF m 61 #[.val (.int p1), .val (.int p2), .val (.int (-1 : Int32))] [(.int (p1 - (65 : Int32)))])) _
                refine XS.bipush X0.here hx rfl (hb hby d2_61) ?_
                show Steps p.tables e below (s₁.setTop (mkF m 63 #[.val (.int p1), .val (.int p2), .val (.int (-1 : Int32))] [(.int (10 : Int32)), (.int (p1 - (65 : Int32)))])) _
                refine XS.iadd X0.here hx rfl (hb hby d2_63) rfl ?_
                show Steps p.tables e below (s₁.setTop (mkF m 64 #[.val (.int p1), .val (.int p2), .val (.int (-1 : Int32))] [(.int ((p1 - (65 : Int32)) + (10 : Int32)))])) _
                refine XS.istoreN X0.here hx rfl (hb hby d2_64) rfl (l' := #[.val (.int p1), .val (.int p2), .val (.int ((p1 - (65 : Int32)) + (10 : Int32)))]) rfl ?_
                show Steps p.tables e below (s₁.setTop (mkF m 65 #[.val (.int p1), .val (.int p2), .val (.int ((p1 - (65 : Int32)) + (10 : Int32)))] [])) _
                exact castTop (by simp only [hv15, if_neg hc5_0, if_pos hc11_7, if_neg hc25_8, if_pos hc31_11, if_neg hc48_12, if_neg hc54_13]) kt
          · skip
            show Steps p.tables e below (s₁.setTop (mkF m 31 #[.val (.int p1), .val (.int p2), .val (.int (-1 : Int32))] [(.int (102 : Int32)), (.int p1)])) _
            refine XS.icmpNo X0.here hx rfl (hb hby d2_31) rfl (flt hc31_11).2.2.1 ?_
            show Steps p.tables e below (s₁.setTop (mkF m 34 #[.val (.int p1), .val (.int p2), .val (.int (-1 : Int32))] [])) _
            refine XS.iloadN X0.here hx rfl (hb hby d2_34) rfl ?_
            show Steps p.tables e below (s₁.setTop (mkF m 35 #[.val (.int p1), .val (.int p2), .val (.int (-1 : Int32))] [(.int p1)])) _
            refine XS.bipush X0.here hx rfl (hb hby d2_35) ?_
            show Steps p.tables e below (s₁.setTop (mkF m 37 #[.val (.int p1), .val (.int p2), .val (.int (-1 : Int32))] [(.int (97 : Int32)), (.int p1)])) _
            refine XS.isub X0.here hx rfl (hb hby d2_37) rfl ?_
            show Steps p.tables e below (s₁.setTop (mkF m 38 #[.val (.int p1), .val (.int p2), .val (.int (-1 : Int32))] [(.int (p1 - (97 : Int32)))])) _
            refine XS.bipush X0.here hx rfl (hb hby d2_38) ?_
            show Steps p.tables e below (s₁.setTop (mkF m 40 #[.val (.int p1), .val (.int p2), .val (.int (-1 : Int32))] [(.int (10 : Int32)), (.int (p1 - (97 : Int32)))])) _
            refine XS.iadd X0.here hx rfl (hb hby d2_40) rfl ?_
            show Steps p.tables e below (s₁.setTop (mkF m 41 #[.val (.int p1), .val (.int p2), .val (.int (-1 : Int32))] [(.int ((p1 - (97 : Int32)) + (10 : Int32)))])) _
            refine XS.istoreN X0.here hx rfl (hb hby d2_41) rfl (l' := #[.val (.int p1), .val (.int p2), .val (.int ((p1 - (97 : Int32)) + (10 : Int32)))]) rfl ?_
            show Steps p.tables e below (s₁.setTop (mkF m 42 #[.val (.int p1), .val (.int p2), .val (.int ((p1 - (97 : Int32)) + (10 : Int32)))] [])) _
            refine XS.goto X0.here hx rfl (pc0 := 42) (pc' := 65) rfl (hb hby d2_42) (by decide) (by decide) ?_
            show Steps p.tables e below (s₁.setTop (mkF m 65 #[.val (.int p1), .val (.int p2), .val (.int ((p1 - (97 : Int32)) + (10 : Int32)))] [])) _
            exact castTop (by simp only [hv15, if_neg hc5_0, if_pos hc11_7, if_neg hc25_8, if_neg hc31_11]) kt
      · skip
        show Steps p.tables e below (s₁.setTop (mkF m 11 #[.val (.int p1), .val (.int p2), .val (.int (-1 : Int32))] [(.int (57 : Int32)), (.int p1)])) _
        refine XS.icmpNo X0.here hx rfl (hb hby d2_11) rfl (flt hc11_7).2.2.1 ?_
        show Steps p.tables e below (s₁.setTop (mkF m 14 #[.val (.int p1), .val (.int p2), .val (.int (-1 : Int32))] [])) _
        refine XS.iloadN X0.here hx rfl (hb hby d2_14) rfl ?_
        show Steps p.tables e below (s₁.setTop (mkF m 15 #[.val (.int p1), .val (.int p2), .val (.int (-1 : Int32))] [(.int p1)])) _
        refine XS.bipush X0.here hx rfl (hb hby d2_15) ?_
        show Steps p.tables e below (s₁.setTop (mkF m 17 #[.val (.int p1), .val (.int p2), .val (.int (-1 : Int32))] [(.int (48 : Int32)), (.int p1)])) _
        refine XS.isub X0.here hx rfl (hb hby d2_17) rfl ?_
        show Steps p.tables e below (s₁.setTop (mkF m 18 #[.val (.int p1), .val (.int p2), .val (.int (-1 : Int32))] [(.int (p1 - (48 : Int32)))])) _
        refine XS.istoreN X0.here hx rfl (hb hby d2_18) rfl (l' := #[.val (.int p1), .val (.int p2), .val (.int (p1 - (48 : Int32)))]) rfl ?_
        show Steps p.tables e below (s₁.setTop (mkF m 19 #[.val (.int p1), .val (.int p2), .val (.int (p1 - (48 : Int32)))] [])) _
        refine XS.goto X0.here hx rfl (pc0 := 19) (pc' := 65) rfl (hb hby d2_19) (by decide) (by decide) ?_
        show Steps p.tables e below (s₁.setTop (mkF m 65 #[.val (.int p1), .val (.int p2), .val (.int (p1 - (48 : Int32)))] [])) _
        exact castTop (by simp only [hv15, if_neg hc5_0, if_neg hc11_7]) kt)
  have K20 : Gx p e below s₁ f0 s₁ (mkF m 67 #[.val (.int p1), .val (.int p2), .val (.int v15)] [(.int p2), (.int v15)]) := fun t kt => K17 t (by
    show Steps p.tables e below (s₁.setTop (mkF m 65 #[.val (.int p1), .val (.int p2), .val (.int v15)] [])) _
    refine XS.iloadN X0.here hx rfl (hb hby d2_65) rfl ?_
    show Steps p.tables e below (s₁.setTop (mkF m 66 #[.val (.int p1), .val (.int p2), .val (.int v15)] [(.int v15)])) _
    refine XS.iloadN X0.here hx rfl (hb hby d2_66) rfl ?_
    exact kt)
  obtain ⟨v19, hv19⟩ : ∃ z : Int32, z = (if v15 < p2 then v15 else (-1 : Int32)) := ⟨_, rfl⟩
  have K21 : Gx p e below s₁ f0 s₁ (mkF m 75 #[.val (.int p1), .val (.int p2), .val (.int v15)] [(.int v19)]) := fun t kt => K20 t (by
    by_cases hc67_17 : v15 < p2
    · skip
      show Steps p.tables e below (s₁.setTop (mkF m 67 #[.val (.int p1), .val (.int p2), .val (.int v15)] [(.int p2), (.int v15)])) _
      refine XS.icmpNo X0.here hx rfl (hb hby d2_67) rfl (tlt hc67_17).2.1 ?_
      show Steps p.tables e below (s₁.setTop (mkF m 70 #[.val (.int p1), .val (.int p2), .val (.int v15)] [])) _
      refine XS.iloadN X0.here hx rfl (hb hby d2_70) rfl ?_
      show Steps p.tables e below (s₁.setTop (mkF m 71 #[.val (.int p1), .val (.int p2), .val (.int v15)] [(.int v15)])) _
      refine XS.goto X0.here hx rfl (pc0 := 71) (pc' := 75) rfl (hb hby d2_71) (by decide) (by decide) ?_
      show Steps p.tables e below (s₁.setTop (mkF m 75 #[.val (.int p1), .val (.int p2), .val (.int v15)] [(.int v15)])) _
      exact castTop (by simp only [hv19, if_pos hc67_17]) kt
    · skip
      show Steps p.tables e below (s₁.setTop (mkF m 67 #[.val (.int p1), .val (.int p2), .val (.int v15)] [(.int p2), (.int v15)])) _
      refine XS.icmpYes X0.here hx rfl (pc0 := 67) (pc' := 74) rfl (hb hby d2_67) rfl (flt hc67_17).2.1 (by decide) (by decide) ?_
      show Steps p.tables e below (s₁.setTop (mkF m 74 #[.val (.int p1), .val (.int p2), .val (.int v15)] [])) _
      refine XS.iconst X0.here hx rfl (hb hby d2_74) ?_
      show Steps p.tables e below (s₁.setTop (mkF m 75 #[.val (.int p1), .val (.int p2), .val (.int v15)] [(.int (-1 : Int32))])) _
      exact castTop (by simp only [hv19, if_neg hc67_17]) kt)
  obtain ⟨fs22, hr22, hrun22, hended22, hW22, hsame22⟩ := X0.leave (v := some (.int v19)) (fun h => by rw [Bd.returns] at h; cases h)
  refine ⟨_, _, pre0 _ (K21 _ ?_), hrun22, hended22, _, _, rfl, ?_, ⟨_, rfl⟩, hW22, hsame22.mono (by decide) (by decide)⟩
  · exact retI X0 hx Bd.returns (hb hby d2_75) hr22
  · show QDig Z p1 p2 h0 n0 _ s₁.heap _
    rw [e0]
    exact ⟨(congrArg some (congrArg Value.int (by first | (simp only [digF, digV, digV2, digV3, hv15, hv19]; done) | (rw [hv19]; rfl) | (rw [hv19, hv15]; rfl)))), N0, rfl⟩
theorem pn_0 : plainName "com/example/serendib/serendib/lexer/NumericLiteralDigitPinLaw" = true := by first | (simp [plainName, overriddenIn]; done) | decide +kernel
theorem pd__IZ_I : parseMethodDescriptor "(IZ)I" = some ⟨[.int, .boolean], some .int⟩ := by decide +kernel
theorem pd__II_I : parseMethodDescriptor "(II)I" = some ⟨[.int, .int], some .int⟩ := by decide +kernel
theorem ef_0 (m : MethodId) (p1 : Int32) (p2 : Int32) (p3 : Int32) (p4 : Int32) : entryFrame m #[(.int p1), (.int p2), (.int p3), (.int p4)] maxLocals = mkF m 0 #[.val (.int p1), .val (.int p2), .val (.int p3), .val (.int p4), .unset, .unset, .unset, .unset, .unset, .unset, .unset, .unset, .unset] [] := by first | (simp [entryFrame, mkF, argsToLocals, Value.category, maxLocals]; done) | rfl
def Q0 (Z : State) (p1 : Int32) (p2 : Int32) (p3 : Int32) (p4 : Int32) (h0 : Heap) (n0 : Nat) (v : Option Value) (h : Heap) (L : List Loc) : Prop := v = some (.int (1 : Int32)) ∧ Fr n0 L
set_option maxRecDepth 65536 in
set_option maxHeartbeats 40000000 in
theorem rm0 (l : Launch) (Z : State) (a0 : Array Value) (hw : ∀ d ∈ tables_1, d.before a0 Z = true) (ws : List Jvm.Cond) (p1 : Int32) (p2 : Int32) (p3 : Int32) (p4 : Int32) (h0 : Heap) (n0 : Nat) (Z0 : n0 ≤ h0.size) :
    MetFree l x (head1 (Jvm.Cond.code x code maxLocals ret :: ws) room_1) (fun a U => a = #[(.int p1), (.int p2), (.int p3), (.int p4)] ∧ Z.Warmed39 U.vm ∧ U.heap = h0) (fun _ _ _ _ _ => True) (fun _ U o U' => ∃ v L, o = .returned v ∧ Q0 Z p1 p2 p3 p4 h0 n0 v U'.heap L ∧ FrameEnd U o U' L room_1.cells room_1.slots) := by
  refine MetFree.of_bodySF (plainFor_of_name pn_0) hisR ?_
  intro p e s m args below meth c s₁ Bd hml0 hP hK
  obtain ⟨rfl, hZ, hh⟩ := hP
  have hx := Bd.exec
  have hby := Bd.bytes
  have hml : c.maxLocals = 13 := hml0
  have hown : s.vm.findClass "com/example/serendib/serendib/lexer/NumericLiteralDigitPinLaw" = some m.cls := findClass_of_methodNamed Bd.named
  have hnm := (name_of_methodNamed Bd.named Bd.method).1
  have X0 : Stand p l e room_1 s m #[(.int p1), (.int p2), (.int p3), (.int p4)] below meth c s₁ [] 0 0 := Stand.of_body Bd
  have hs0 : h0 = s.heap := hh.symm
  have e0 : s₁.heap = h0 := by rw [← hh, Bd.state]; rfl
  have N0 := Fr.nil n0
  obtain ⟨f0, hf0⟩ : ∃ f, f = entryFrame m #[(.int p1), (.int p2), (.int p3), (.int p4)] maxLocals := ⟨_, rfl⟩
  have pre0 : ∀ t, Steps p.tables e below (s₁.setTop f0) t → Steps p.tables e below (s₁.setTop (entryFrame m #[(.int p1), (.int p2), (.int p3), (.int p4)] maxLocals)) t := fun t k => hf0 ▸ k
  have K0 : Gx p e below s₁ f0 s₁ (mkF m 0 #[.val (.int p1), .val (.int p2), .val (.int p3), .val (.int p4), .unset, .unset, .unset, .unset, .unset, .unset, .unset, .unset, .unset] []) := fun t kt => by rw [hf0]; exact castTop (ef_0 m p1 p2 p3 p4) kt
  have K1 : Gx p e below s₁ f0 s₁ (mkF m 9 #[.val (.int p1), .val (.int p2), .val (.int p3), .val (.int p4), .val (.int ((p3 &&& (2147483647 : Int32)) % (17 : Int32))), .unset, .unset, .unset, .unset, .unset, .unset, .unset, .unset] []) := fun t kt => K0 t (by
    show Steps p.tables e below (s₁.setTop (mkF m 0 #[.val (.int p1), .val (.int p2), .val (.int p3), .val (.int p4), .unset, .unset, .unset, .unset, .unset, .unset, .unset, .unset, .unset] [])) _
    refine XS.iloadN X0.here hx rfl (hb hby at_0) rfl ?_
    show Steps p.tables e below (s₁.setTop (mkF m 1 #[.val (.int p1), .val (.int p2), .val (.int p3), .val (.int p4), .unset, .unset, .unset, .unset, .unset, .unset, .unset, .unset, .unset] [(.int p3)])) _
    refine X0.ldcInt hx hown (mvT hZ (hw _ (List.mem_of_getElem? (i := 0) rfl))) (g := (mkF m 1 #[.val (.int p1), .val (.int p2), .val (.int p3), .val (.int p4), .unset, .unset, .unset, .unset, .unset, .unset, .unset, .unset, .unset] [(.int p3)])) rfl (hb hby at_1) _ ?_
    show Steps p.tables e below (s₁.setTop (mkF m 3 #[.val (.int p1), .val (.int p2), .val (.int p3), .val (.int p4), .unset, .unset, .unset, .unset, .unset, .unset, .unset, .unset, .unset] [(.int (2147483647 : Int32)), (.int p3)])) _
    refine XS.iand X0.here hx rfl (hb hby at_3) rfl ?_
    show Steps p.tables e below (s₁.setTop (mkF m 4 #[.val (.int p1), .val (.int p2), .val (.int p3), .val (.int p4), .unset, .unset, .unset, .unset, .unset, .unset, .unset, .unset, .unset] [(.int (p3 &&& (2147483647 : Int32)))])) _
    refine XS.bipush X0.here hx rfl (hb hby at_4) ?_
    show Steps p.tables e below (s₁.setTop (mkF m 6 #[.val (.int p1), .val (.int p2), .val (.int p3), .val (.int p4), .unset, .unset, .unset, .unset, .unset, .unset, .unset, .unset, .unset] [(.int (17 : Int32)), (.int (p3 &&& (2147483647 : Int32)))])) _
    refine iremM X0 hx rfl (hb hby at_6) rfl (by decide) ?_
    show Steps p.tables e below (s₁.setTop (mkF m 7 #[.val (.int p1), .val (.int p2), .val (.int p3), .val (.int p4), .unset, .unset, .unset, .unset, .unset, .unset, .unset, .unset, .unset] [(.int ((p3 &&& (2147483647 : Int32)) % (17 : Int32)))])) _
    refine XS.istore X0.here hx rfl (hb hby at_7) rfl (l' := #[.val (.int p1), .val (.int p2), .val (.int p3), .val (.int p4), .val (.int ((p3 &&& (2147483647 : Int32)) % (17 : Int32))), .unset, .unset, .unset, .unset, .unset, .unset, .unset, .unset]) rfl ?_
    exact kt)
  obtain ⟨v2, hv2⟩ : ∃ z : Int32, z = ((p3 &&& (2147483647 : Int32)) % (17 : Int32)) := ⟨_, rfl⟩
  rw [← hv2] at K1
  have hr1 := own_rdx p3
  rw [← hv2] at hr1
  have K3 : Gx p e below s₁ f0 s₁ (mkF m 18 #[.val (.int p1), .val (.int p2), .val (.int p3), .val (.int p4), .val (.int v2), .val (.int ((p2 &&& (2147483647 : Int32)) % (16 : Int32))), .unset, .unset, .unset, .unset, .unset, .unset, .unset] []) := fun t kt => K1 t (by
    show Steps p.tables e below (s₁.setTop (mkF m 9 #[.val (.int p1), .val (.int p2), .val (.int p3), .val (.int p4), .val (.int v2), .unset, .unset, .unset, .unset, .unset, .unset, .unset, .unset] [])) _
    refine XS.iloadN X0.here hx rfl (hb hby at_9) rfl ?_
    show Steps p.tables e below (s₁.setTop (mkF m 10 #[.val (.int p1), .val (.int p2), .val (.int p3), .val (.int p4), .val (.int v2), .unset, .unset, .unset, .unset, .unset, .unset, .unset, .unset] [(.int p2)])) _
    refine X0.ldcInt hx hown (mvT hZ (hw _ (List.mem_of_getElem? (i := 0) rfl))) (g := (mkF m 10 #[.val (.int p1), .val (.int p2), .val (.int p3), .val (.int p4), .val (.int v2), .unset, .unset, .unset, .unset, .unset, .unset, .unset, .unset] [(.int p2)])) rfl (hb hby at_10) _ ?_
    show Steps p.tables e below (s₁.setTop (mkF m 12 #[.val (.int p1), .val (.int p2), .val (.int p3), .val (.int p4), .val (.int v2), .unset, .unset, .unset, .unset, .unset, .unset, .unset, .unset] [(.int (2147483647 : Int32)), (.int p2)])) _
    refine XS.iand X0.here hx rfl (hb hby at_12) rfl ?_
    show Steps p.tables e below (s₁.setTop (mkF m 13 #[.val (.int p1), .val (.int p2), .val (.int p3), .val (.int p4), .val (.int v2), .unset, .unset, .unset, .unset, .unset, .unset, .unset, .unset] [(.int (p2 &&& (2147483647 : Int32)))])) _
    refine XS.bipush X0.here hx rfl (hb hby at_13) ?_
    show Steps p.tables e below (s₁.setTop (mkF m 15 #[.val (.int p1), .val (.int p2), .val (.int p3), .val (.int p4), .val (.int v2), .unset, .unset, .unset, .unset, .unset, .unset, .unset, .unset] [(.int (16 : Int32)), (.int (p2 &&& (2147483647 : Int32)))])) _
    refine iremM X0 hx rfl (hb hby at_15) rfl (by decide) ?_
    show Steps p.tables e below (s₁.setTop (mkF m 16 #[.val (.int p1), .val (.int p2), .val (.int p3), .val (.int p4), .val (.int v2), .unset, .unset, .unset, .unset, .unset, .unset, .unset, .unset] [(.int ((p2 &&& (2147483647 : Int32)) % (16 : Int32)))])) _
    refine XS.istore X0.here hx rfl (hb hby at_16) rfl (l' := #[.val (.int p1), .val (.int p2), .val (.int p3), .val (.int p4), .val (.int v2), .val (.int ((p2 &&& (2147483647 : Int32)) % (16 : Int32))), .unset, .unset, .unset, .unset, .unset, .unset, .unset]) rfl ?_
    exact kt)
  obtain ⟨v4, hv4⟩ : ∃ z : Int32, z = ((p2 &&& (2147483647 : Int32)) % (16 : Int32)) := ⟨_, rfl⟩
  rw [← hv4] at K3
  have hv1 := own_val p2
  rw [← hv4] at hv1
  have K7 : Gx p e below s₁ f0 s₁ (mkF m 21 #[.val (.int p1), .val (.int p2), .val (.int p3), .val (.int p4), .val (.int v2), .val (.int v4), .unset, .unset, .unset, .unset, .unset, .unset, .unset] [(.int (p4 &&& (1 : Int32)))]) := fun t kt => K3 t (by
    show Steps p.tables e below (s₁.setTop (mkF m 18 #[.val (.int p1), .val (.int p2), .val (.int p3), .val (.int p4), .val (.int v2), .val (.int v4), .unset, .unset, .unset, .unset, .unset, .unset, .unset] [])) _
    refine XS.iloadN X0.here hx rfl (hb hby at_18) rfl ?_
    show Steps p.tables e below (s₁.setTop (mkF m 19 #[.val (.int p1), .val (.int p2), .val (.int p3), .val (.int p4), .val (.int v2), .val (.int v4), .unset, .unset, .unset, .unset, .unset, .unset, .unset] [(.int p4)])) _
    refine XS.iconst X0.here hx rfl (hb hby at_19) ?_
    show Steps p.tables e below (s₁.setTop (mkF m 20 #[.val (.int p1), .val (.int p2), .val (.int p3), .val (.int p4), .val (.int v2), .val (.int v4), .unset, .unset, .unset, .unset, .unset, .unset, .unset] [(.int (1 : Int32)), (.int p4)])) _
    refine XS.iand X0.here hx rfl (hb hby at_20) rfl ?_
    exact kt)
  obtain ⟨v6, hv6⟩ : ∃ z : Int32, z = (if (p4 &&& (1 : Int32)) = (0 : Int32) then (0 : Int32) else (1 : Int32)) := ⟨_, rfl⟩
  have K8 : Gx p e below s₁ f0 s₁ (mkF m 29 #[.val (.int p1), .val (.int p2), .val (.int p3), .val (.int p4), .val (.int v2), .val (.int v4), .unset, .unset, .unset, .unset, .unset, .unset, .unset] [(.int v6)]) := fun t kt => K7 t (by
    by_cases hc21_4 : (p4 &&& (1 : Int32)) = (0 : Int32)
    · skip
      show Steps p.tables e below (s₁.setTop (mkF m 21 #[.val (.int p1), .val (.int p2), .val (.int p3), .val (.int p4), .val (.int v2), .val (.int v4), .unset, .unset, .unset, .unset, .unset, .unset, .unset] [(.int (p4 &&& (1 : Int32)))])) _
      refine XS.ifYes X0.here hx rfl (pc0 := 21) (pc' := 28) rfl (hb hby at_21) rfl ((if0 _ _).trans (teq hc21_4).1) (by decide) (by decide) ?_
      show Steps p.tables e below (s₁.setTop (mkF m 28 #[.val (.int p1), .val (.int p2), .val (.int p3), .val (.int p4), .val (.int v2), .val (.int v4), .unset, .unset, .unset, .unset, .unset, .unset, .unset] [])) _
      refine XS.iconst X0.here hx rfl (hb hby at_28) ?_
      show Steps p.tables e below (s₁.setTop (mkF m 29 #[.val (.int p1), .val (.int p2), .val (.int p3), .val (.int p4), .val (.int v2), .val (.int v4), .unset, .unset, .unset, .unset, .unset, .unset, .unset] [(.int (0 : Int32))])) _
      exact castTop (by simp only [hv6, if_pos hc21_4]) kt
    · skip
      show Steps p.tables e below (s₁.setTop (mkF m 21 #[.val (.int p1), .val (.int p2), .val (.int p3), .val (.int p4), .val (.int v2), .val (.int v4), .unset, .unset, .unset, .unset, .unset, .unset, .unset] [(.int (p4 &&& (1 : Int32)))])) _
      refine XS.ifNo X0.here hx rfl (hb hby at_21) rfl ((if0 _ _).trans (feq hc21_4).1) ?_
      show Steps p.tables e below (s₁.setTop (mkF m 24 #[.val (.int p1), .val (.int p2), .val (.int p3), .val (.int p4), .val (.int v2), .val (.int v4), .unset, .unset, .unset, .unset, .unset, .unset, .unset] [])) _
      refine XS.iconst X0.here hx rfl (hb hby at_24) ?_
      show Steps p.tables e below (s₁.setTop (mkF m 25 #[.val (.int p1), .val (.int p2), .val (.int p3), .val (.int p4), .val (.int v2), .val (.int v4), .unset, .unset, .unset, .unset, .unset, .unset, .unset] [(.int (1 : Int32))])) _
      refine XS.goto X0.here hx rfl (pc0 := 25) (pc' := 29) rfl (hb hby at_25) (by decide) (by decide) ?_
      show Steps p.tables e below (s₁.setTop (mkF m 29 #[.val (.int p1), .val (.int p2), .val (.int p3), .val (.int p4), .val (.int v2), .val (.int v4), .unset, .unset, .unset, .unset, .unset, .unset, .unset] [(.int (1 : Int32))])) _
      exact castTop (by simp only [hv6, if_neg hc21_4]) kt)
  have K11 : Gx p e below s₁ f0 s₁ (mkF m 34 #[.val (.int p1), .val (.int p2), .val (.int p3), .val (.int p4), .val (.int v2), .val (.int v4), .val (.int v6), .unset, .unset, .unset, .unset, .unset, .unset] [(.int (p4 &&& (2 : Int32)))]) := fun t kt => K8 t (by
    show Steps p.tables e below (s₁.setTop (mkF m 29 #[.val (.int p1), .val (.int p2), .val (.int p3), .val (.int p4), .val (.int v2), .val (.int v4), .unset, .unset, .unset, .unset, .unset, .unset, .unset] [(.int v6)])) _
    refine XS.istore X0.here hx rfl (hb hby at_29) rfl (l' := #[.val (.int p1), .val (.int p2), .val (.int p3), .val (.int p4), .val (.int v2), .val (.int v4), .val (.int v6), .unset, .unset, .unset, .unset, .unset, .unset]) rfl ?_
    show Steps p.tables e below (s₁.setTop (mkF m 31 #[.val (.int p1), .val (.int p2), .val (.int p3), .val (.int p4), .val (.int v2), .val (.int v4), .val (.int v6), .unset, .unset, .unset, .unset, .unset, .unset] [])) _
    refine XS.iloadN X0.here hx rfl (hb hby at_31) rfl ?_
    show Steps p.tables e below (s₁.setTop (mkF m 32 #[.val (.int p1), .val (.int p2), .val (.int p3), .val (.int p4), .val (.int v2), .val (.int v4), .val (.int v6), .unset, .unset, .unset, .unset, .unset, .unset] [(.int p4)])) _
    refine XS.iconst X0.here hx rfl (hb hby at_32) ?_
    show Steps p.tables e below (s₁.setTop (mkF m 33 #[.val (.int p1), .val (.int p2), .val (.int p3), .val (.int p4), .val (.int v2), .val (.int v4), .val (.int v6), .unset, .unset, .unset, .unset, .unset, .unset] [(.int (2 : Int32)), (.int p4)])) _
    refine XS.iand X0.here hx rfl (hb hby at_33) rfl ?_
    exact kt)
  obtain ⟨v10, hv10⟩ : ∃ z : Int32, z = (if (p4 &&& (2 : Int32)) = (0 : Int32) then p1 else (p1 &&& (127 : Int32))) := ⟨_, rfl⟩
  have K12 : Gx p e below s₁ f0 s₁ (mkF m 45 #[.val (.int p1), .val (.int p2), .val (.int p3), .val (.int p4), .val (.int v2), .val (.int v4), .val (.int v6), .unset, .unset, .unset, .unset, .unset, .unset] [(.int v10)]) := fun t kt => K11 t (by
    by_cases hc34_8 : (p4 &&& (2 : Int32)) = (0 : Int32)
    · skip
      show Steps p.tables e below (s₁.setTop (mkF m 34 #[.val (.int p1), .val (.int p2), .val (.int p3), .val (.int p4), .val (.int v2), .val (.int v4), .val (.int v6), .unset, .unset, .unset, .unset, .unset, .unset] [(.int (p4 &&& (2 : Int32)))])) _
      refine XS.ifYes X0.here hx rfl (pc0 := 34) (pc' := 44) rfl (hb hby at_34) rfl ((if0 _ _).trans (teq hc34_8).1) (by decide) (by decide) ?_
      show Steps p.tables e below (s₁.setTop (mkF m 44 #[.val (.int p1), .val (.int p2), .val (.int p3), .val (.int p4), .val (.int v2), .val (.int v4), .val (.int v6), .unset, .unset, .unset, .unset, .unset, .unset] [])) _
      refine XS.iloadN X0.here hx rfl (hb hby at_44) rfl ?_
      show Steps p.tables e below (s₁.setTop (mkF m 45 #[.val (.int p1), .val (.int p2), .val (.int p3), .val (.int p4), .val (.int v2), .val (.int v4), .val (.int v6), .unset, .unset, .unset, .unset, .unset, .unset] [(.int p1)])) _
      exact castTop (by simp only [hv10, if_pos hc34_8]) kt
    · skip
      show Steps p.tables e below (s₁.setTop (mkF m 34 #[.val (.int p1), .val (.int p2), .val (.int p3), .val (.int p4), .val (.int v2), .val (.int v4), .val (.int v6), .unset, .unset, .unset, .unset, .unset, .unset] [(.int (p4 &&& (2 : Int32)))])) _
      refine XS.ifNo X0.here hx rfl (hb hby at_34) rfl ((if0 _ _).trans (feq hc34_8).1) ?_
      show Steps p.tables e below (s₁.setTop (mkF m 37 #[.val (.int p1), .val (.int p2), .val (.int p3), .val (.int p4), .val (.int v2), .val (.int v4), .val (.int v6), .unset, .unset, .unset, .unset, .unset, .unset] [])) _
      refine XS.iloadN X0.here hx rfl (hb hby at_37) rfl ?_
      show Steps p.tables e below (s₁.setTop (mkF m 38 #[.val (.int p1), .val (.int p2), .val (.int p3), .val (.int p4), .val (.int v2), .val (.int v4), .val (.int v6), .unset, .unset, .unset, .unset, .unset, .unset] [(.int p1)])) _
      refine XS.bipush X0.here hx rfl (hb hby at_38) ?_
      show Steps p.tables e below (s₁.setTop (mkF m 40 #[.val (.int p1), .val (.int p2), .val (.int p3), .val (.int p4), .val (.int v2), .val (.int v4), .val (.int v6), .unset, .unset, .unset, .unset, .unset, .unset] [(.int (127 : Int32)), (.int p1)])) _
      refine XS.iand X0.here hx rfl (hb hby at_40) rfl ?_
      show Steps p.tables e below (s₁.setTop (mkF m 41 #[.val (.int p1), .val (.int p2), .val (.int p3), .val (.int p4), .val (.int v2), .val (.int v4), .val (.int v6), .unset, .unset, .unset, .unset, .unset, .unset] [(.int (p1 &&& (127 : Int32)))])) _
      refine XS.goto X0.here hx rfl (pc0 := 41) (pc' := 45) rfl (hb hby at_41) (by decide) (by decide) ?_
      show Steps p.tables e below (s₁.setTop (mkF m 45 #[.val (.int p1), .val (.int p2), .val (.int p3), .val (.int p4), .val (.int v2), .val (.int v4), .val (.int v6), .unset, .unset, .unset, .unset, .unset, .unset] [(.int (p1 &&& (127 : Int32)))])) _
      exact castTop (by simp only [hv10, if_neg hc34_8]) kt)
  have K13 : Gx p e below s₁ f0 s₁ (mkF m 51 #[.val (.int p1), .val (.int p2), .val (.int p3), .val (.int p4), .val (.int v2), .val (.int v4), .val (.int v6), .val (.int v10), .unset, .unset, .unset, .unset, .unset] [(.int v6), (.int v4)]) := fun t kt => K12 t (by
    show Steps p.tables e below (s₁.setTop (mkF m 45 #[.val (.int p1), .val (.int p2), .val (.int p3), .val (.int p4), .val (.int v2), .val (.int v4), .val (.int v6), .unset, .unset, .unset, .unset, .unset, .unset] [(.int v10)])) _
    refine XS.istore X0.here hx rfl (hb hby at_45) rfl (l' := #[.val (.int p1), .val (.int p2), .val (.int p3), .val (.int p4), .val (.int v2), .val (.int v4), .val (.int v6), .val (.int v10), .unset, .unset, .unset, .unset, .unset]) rfl ?_
    show Steps p.tables e below (s₁.setTop (mkF m 47 #[.val (.int p1), .val (.int p2), .val (.int p3), .val (.int p4), .val (.int v2), .val (.int v4), .val (.int v6), .val (.int v10), .unset, .unset, .unset, .unset, .unset] [])) _
    refine XS.iload X0.here hx rfl (hb hby at_47) rfl ?_
    show Steps p.tables e below (s₁.setTop (mkF m 49 #[.val (.int p1), .val (.int p2), .val (.int p3), .val (.int p4), .val (.int v2), .val (.int v4), .val (.int v6), .val (.int v10), .unset, .unset, .unset, .unset, .unset] [(.int v4)])) _
    refine XS.iload X0.here hx rfl (hb hby at_49) rfl ?_
    exact kt)
  obtain ⟨_, _, ⟨T14, L14, k14, n14⟩, -, X14', ⟨Lc14, hQ14, l14, y14, z14⟩, st14⟩ := Jvm.LawKit.callS X0 hx (y := (⟨"com/example/serendib/serendib/lexer/NumericLiteralDigitPinLaw", "encode", "(IZ)I"⟩ : MethodName)) hown (mvT hZ (hw _ (List.mem_of_getElem? (i := 1) rfl))) (mvT hZ (hw _ (List.mem_of_getElem? (i := 2) rfl))) (mvT hZ (hw _ (List.mem_of_getElem? (i := 3) rfl))) (mvT hZ (hw _ (List.mem_of_getElem? (i := 4) rfl))) (by decide) (backOf (W := 0) (rmEnc l Z a0 hw [] v4 v6 h0 n0 (Nat.le_trans Z0 (Keep.refl h0 []).1) ) hZ (hw _ (List.mem_of_getElem? (i := 4) rfl)) (hw _ (List.mem_of_getElem? (i := 3) rfl)) (by decide) (by decide)) (g := (mkF m 51 #[.val (.int p1), .val (.int p2), .val (.int p3), .val (.int p4), .val (.int v2), .val (.int v4), .val (.int v6), .val (.int v10), .unset, .unset, .unset, .unset, .unset] [(.int v6), (.int v4)])) rfl (by rw [hml]; rfl) (argsL := [(.int v4), (.int v6)]) (rest := []) (lenOf pd__IZ_I rfl) rfl (by show 2 * 0 + _ ≤ _; exact Nat.le_of_eq rfl) (hb hby at_51) (fun _ _ => ⟨rfl, e0, (by decide : 0 + 0 ≤ _), (by decide : 0 + 0 ≤ _)⟩)
  dsimp only [Pt.U, Pt.locs, Pt.cells, Pt.slots] at X14' l14 y14 z14 st14 hQ14
  subst l14 y14 z14
  obtain ⟨rfl, N14q, e14⟩ := hQ14
  obtain ⟨lc14, X14, N14⟩ : ∃ lc, Stand p l e room_1 s m #[(.int p1), (.int p2), (.int p3), (.int p4)] below meth c T14 lc 0 0 ∧ Fr n0 lc := ⟨_, X14', Fr.app N0 N14q⟩
  have K15 : Gx p e below s₁ f0 T14 (mkF m 54 #[.val (.int p1), .val (.int p2), .val (.int p3), .val (.int p4), .val (.int v2), .val (.int v4), .val (.int v6), .val (.int v10), .unset, .unset, .unset, .unset, .unset] [(.int (encF v4 v6))]) := fun t kt => K13 t (st14 t kt)
  obtain ⟨v16, hv16⟩ : ∃ z : Int32, z = (encF v4 v6) := ⟨_, rfl⟩
  rw [← hv16] at K15
  have K17 : Gx p e below s₁ f0 T14 (mkF m 60 #[.val (.int p1), .val (.int p2), .val (.int p3), .val (.int p4), .val (.int v2), .val (.int v4), .val (.int v6), .val (.int v10), .val (.int v16), .unset, .unset, .unset, .unset] [(.int v2), (.int v16)]) := fun t kt => K15 t (by
    show Steps p.tables e below (T14.setTop (mkF m 54 #[.val (.int p1), .val (.int p2), .val (.int p3), .val (.int p4), .val (.int v2), .val (.int v4), .val (.int v6), .val (.int v10), .unset, .unset, .unset, .unset, .unset] [(.int v16)])) _
    refine XS.istore X14.here hx rfl (hb hby at_54) rfl (l' := #[.val (.int p1), .val (.int p2), .val (.int p3), .val (.int p4), .val (.int v2), .val (.int v4), .val (.int v6), .val (.int v10), .val (.int v16), .unset, .unset, .unset, .unset]) rfl ?_
    show Steps p.tables e below (T14.setTop (mkF m 56 #[.val (.int p1), .val (.int p2), .val (.int p3), .val (.int p4), .val (.int v2), .val (.int v4), .val (.int v6), .val (.int v10), .val (.int v16), .unset, .unset, .unset, .unset] [])) _
    refine XS.iload X14.here hx rfl (hb hby at_56) rfl ?_
    show Steps p.tables e below (T14.setTop (mkF m 58 #[.val (.int p1), .val (.int p2), .val (.int p3), .val (.int p4), .val (.int v2), .val (.int v4), .val (.int v6), .val (.int v10), .val (.int v16), .unset, .unset, .unset, .unset] [(.int v16)])) _
    refine XS.iload X14.here hx rfl (hb hby at_58) rfl ?_
    exact kt)
  obtain ⟨_, _, ⟨T18, L18, k18, n18⟩, -, X18', ⟨Lc18, hQ18, l18, y18, z18⟩, st18⟩ := Jvm.LawKit.callS X14 hx (y := (⟨"com/example/serendib/serendib/lexer/NumericLiteral", "digit", "(II)I"⟩ : MethodName)) hown (mvT hZ (hw _ (List.mem_of_getElem? (i := 5) rfl))) (mvT hZ (hw _ (List.mem_of_getElem? (i := 6) rfl))) (mvT hZ (hw _ (List.mem_of_getElem? (i := 7) rfl))) (mvT hZ (hw _ (List.mem_of_getElem? (i := 8) rfl))) (by decide) (backOf (W := 0) (rmDig l Z a0 hw [] v16 v2 h0 n0 (Nat.le_trans Z0 (Keep.refl h0 []).1) ) hZ (hw _ (List.mem_of_getElem? (i := 8) rfl)) (hw _ (List.mem_of_getElem? (i := 7) rfl)) (by decide) (by decide)) (g := (mkF m 60 #[.val (.int p1), .val (.int p2), .val (.int p3), .val (.int p4), .val (.int v2), .val (.int v4), .val (.int v6), .val (.int v10), .val (.int v16), .unset, .unset, .unset, .unset] [(.int v2), (.int v16)])) rfl (by rw [hml]; rfl) (argsL := [(.int v16), (.int v2)]) (rest := []) (lenOf pd__II_I rfl) rfl (by show 2 * 0 + _ ≤ _; exact Nat.le_of_eq rfl) (hb hby at_60) (fun _ _ => ⟨rfl, e14, (by decide : 0 + 0 ≤ _), (by decide : 0 + 0 ≤ _)⟩)
  dsimp only [Pt.U, Pt.locs, Pt.cells, Pt.slots] at X18' l18 y18 z18 st18 hQ18
  subst l18 y18 z18
  obtain ⟨rfl, N18q, e18⟩ := hQ18
  obtain ⟨lc18, X18, N18⟩ : ∃ lc, Stand p l e room_1 s m #[(.int p1), (.int p2), (.int p3), (.int p4)] below meth c T18 lc 0 0 ∧ Fr n0 lc := ⟨_, X18', Fr.app N14 N18q⟩
  have K19 : Gx p e below s₁ f0 T18 (mkF m 63 #[.val (.int p1), .val (.int p2), .val (.int p3), .val (.int p4), .val (.int v2), .val (.int v4), .val (.int v6), .val (.int v10), .val (.int v16), .unset, .unset, .unset, .unset] [(.int (digF v16 v2))]) := fun t kt => K17 t (st18 t kt)
  obtain ⟨v20, hv20⟩ : ∃ z : Int32, z = (digF v16 v2) := ⟨_, rfl⟩
  rw [← hv20] at K19
  have K23 : Gx p e below s₁ f0 T18 (mkF m 71 #[.val (.int p1), .val (.int p2), .val (.int p3), .val (.int p4), .val (.int v2), .val (.int v4), .val (.int v6), .val (.int v10), .val (.int v16), .val (.int v20), .unset, .unset, .unset] [(.int v2), (.int v4), (.int v20)]) := fun t kt => K19 t (by
    show Steps p.tables e below (T18.setTop (mkF m 63 #[.val (.int p1), .val (.int p2), .val (.int p3), .val (.int p4), .val (.int v2), .val (.int v4), .val (.int v6), .val (.int v10), .val (.int v16), .unset, .unset, .unset, .unset] [(.int v20)])) _
    refine XS.istore X18.here hx rfl (hb hby at_63) rfl (l' := #[.val (.int p1), .val (.int p2), .val (.int p3), .val (.int p4), .val (.int v2), .val (.int v4), .val (.int v6), .val (.int v10), .val (.int v16), .val (.int v20), .unset, .unset, .unset]) rfl ?_
    show Steps p.tables e below (T18.setTop (mkF m 65 #[.val (.int p1), .val (.int p2), .val (.int p3), .val (.int p4), .val (.int v2), .val (.int v4), .val (.int v6), .val (.int v10), .val (.int v16), .val (.int v20), .unset, .unset, .unset] [])) _
    refine XS.iload X18.here hx rfl (hb hby at_65) rfl ?_
    show Steps p.tables e below (T18.setTop (mkF m 67 #[.val (.int p1), .val (.int p2), .val (.int p3), .val (.int p4), .val (.int v2), .val (.int v4), .val (.int v6), .val (.int v10), .val (.int v16), .val (.int v20), .unset, .unset, .unset] [(.int v20)])) _
    refine XS.iload X18.here hx rfl (hb hby at_67) rfl ?_
    show Steps p.tables e below (T18.setTop (mkF m 69 #[.val (.int p1), .val (.int p2), .val (.int p3), .val (.int p4), .val (.int v2), .val (.int v4), .val (.int v6), .val (.int v10), .val (.int v16), .val (.int v20), .unset, .unset, .unset] [(.int v4), (.int v20)])) _
    refine XS.iload X18.here hx rfl (hb hby at_69) rfl ?_
    exact kt)
  obtain ⟨v22, hv22⟩ : ∃ z : Int32, z = (if v4 < v2 then v4 else (-1 : Int32)) := ⟨_, rfl⟩
  have K24 : Gx p e below s₁ f0 T18 (mkF m 80 #[.val (.int p1), .val (.int p2), .val (.int p3), .val (.int p4), .val (.int v2), .val (.int v4), .val (.int v6), .val (.int v10), .val (.int v16), .val (.int v20), .unset, .unset, .unset] [(.int v22), (.int v20)]) := fun t kt => K23 t (by
    by_cases hc71_20 : v4 < v2
    · skip
      show Steps p.tables e below (T18.setTop (mkF m 71 #[.val (.int p1), .val (.int p2), .val (.int p3), .val (.int p4), .val (.int v2), .val (.int v4), .val (.int v6), .val (.int v10), .val (.int v16), .val (.int v20), .unset, .unset, .unset] [(.int v2), (.int v4), (.int v20)])) _
      refine XS.icmpNo X18.here hx rfl (hb hby at_71) rfl (tlt hc71_20).2.1 ?_
      show Steps p.tables e below (T18.setTop (mkF m 74 #[.val (.int p1), .val (.int p2), .val (.int p3), .val (.int p4), .val (.int v2), .val (.int v4), .val (.int v6), .val (.int v10), .val (.int v16), .val (.int v20), .unset, .unset, .unset] [(.int v20)])) _
      refine XS.iload X18.here hx rfl (hb hby at_74) rfl ?_
      show Steps p.tables e below (T18.setTop (mkF m 76 #[.val (.int p1), .val (.int p2), .val (.int p3), .val (.int p4), .val (.int v2), .val (.int v4), .val (.int v6), .val (.int v10), .val (.int v16), .val (.int v20), .unset, .unset, .unset] [(.int v4), (.int v20)])) _
      refine XS.goto X18.here hx rfl (pc0 := 76) (pc' := 80) rfl (hb hby at_76) (by decide) (by decide) ?_
      show Steps p.tables e below (T18.setTop (mkF m 80 #[.val (.int p1), .val (.int p2), .val (.int p3), .val (.int p4), .val (.int v2), .val (.int v4), .val (.int v6), .val (.int v10), .val (.int v16), .val (.int v20), .unset, .unset, .unset] [(.int v4), (.int v20)])) _
      exact castTop (by simp only [hv22, if_pos hc71_20]) kt
    · skip
      show Steps p.tables e below (T18.setTop (mkF m 71 #[.val (.int p1), .val (.int p2), .val (.int p3), .val (.int p4), .val (.int v2), .val (.int v4), .val (.int v6), .val (.int v10), .val (.int v16), .val (.int v20), .unset, .unset, .unset] [(.int v2), (.int v4), (.int v20)])) _
      refine XS.icmpYes X18.here hx rfl (pc0 := 71) (pc' := 79) rfl (hb hby at_71) rfl (flt hc71_20).2.1 (by decide) (by decide) ?_
      show Steps p.tables e below (T18.setTop (mkF m 79 #[.val (.int p1), .val (.int p2), .val (.int p3), .val (.int p4), .val (.int v2), .val (.int v4), .val (.int v6), .val (.int v10), .val (.int v16), .val (.int v20), .unset, .unset, .unset] [(.int v20)])) _
      refine XS.iconst X18.here hx rfl (hb hby at_79) ?_
      show Steps p.tables e below (T18.setTop (mkF m 80 #[.val (.int p1), .val (.int p2), .val (.int p3), .val (.int p4), .val (.int v2), .val (.int v4), .val (.int v6), .val (.int v10), .val (.int v16), .val (.int v20), .unset, .unset, .unset] [(.int (-1 : Int32)), (.int v20)])) _
      exact castTop (by simp only [hv22, if_neg hc71_20]) kt)
  have K25 : Gx p e below s₁ f0 T18 (mkF m 94 #[.val (.int p1), .val (.int p2), .val (.int p3), .val (.int p4), .val (.int v2), .val (.int v4), .val (.int v6), .val (.int v10), .val (.int v16), .val (.int v20), .val (.int (1 : Int32)), .unset, .unset] [(.int v2), (.int v10)]) := fun t kt => K24 t (by
    show Steps p.tables e below (T18.setTop (mkF m 80 #[.val (.int p1), .val (.int p2), .val (.int p3), .val (.int p4), .val (.int v2), .val (.int v4), .val (.int v6), .val (.int v10), .val (.int v16), .val (.int v20), .unset, .unset, .unset] [(.int v22), (.int v20)])) _
    refine XS.icmpNo X18.here hx rfl (hb hby at_80) rfl (teq (by rw [hv20, hv16, hv22]; exact own_complete _ _ _ hv1)).2 ?_
    show Steps p.tables e below (T18.setTop (mkF m 83 #[.val (.int p1), .val (.int p2), .val (.int p3), .val (.int p4), .val (.int v2), .val (.int v4), .val (.int v6), .val (.int v10), .val (.int v16), .val (.int v20), .unset, .unset, .unset] [])) _
    refine XS.iconst X18.here hx rfl (hb hby at_83) ?_
    show Steps p.tables e below (T18.setTop (mkF m 84 #[.val (.int p1), .val (.int p2), .val (.int p3), .val (.int p4), .val (.int v2), .val (.int v4), .val (.int v6), .val (.int v10), .val (.int v16), .val (.int v20), .unset, .unset, .unset] [(.int (1 : Int32))])) _
    refine XS.goto X18.here hx rfl (pc0 := 84) (pc' := 88) rfl (hb hby at_84) (by decide) (by decide) ?_
    show Steps p.tables e below (T18.setTop (mkF m 88 #[.val (.int p1), .val (.int p2), .val (.int p3), .val (.int p4), .val (.int v2), .val (.int v4), .val (.int v6), .val (.int v10), .val (.int v16), .val (.int v20), .unset, .unset, .unset] [(.int (1 : Int32))])) _
    refine XS.istore X18.here hx rfl (hb hby at_88) rfl (l' := #[.val (.int p1), .val (.int p2), .val (.int p3), .val (.int p4), .val (.int v2), .val (.int v4), .val (.int v6), .val (.int v10), .val (.int v16), .val (.int v20), .val (.int (1 : Int32)), .unset, .unset]) rfl ?_
    show Steps p.tables e below (T18.setTop (mkF m 90 #[.val (.int p1), .val (.int p2), .val (.int p3), .val (.int p4), .val (.int v2), .val (.int v4), .val (.int v6), .val (.int v10), .val (.int v16), .val (.int v20), .val (.int (1 : Int32)), .unset, .unset] [])) _
    refine XS.iload X18.here hx rfl (hb hby at_90) rfl ?_
    show Steps p.tables e below (T18.setTop (mkF m 92 #[.val (.int p1), .val (.int p2), .val (.int p3), .val (.int p4), .val (.int v2), .val (.int v4), .val (.int v6), .val (.int v10), .val (.int v16), .val (.int v20), .val (.int (1 : Int32)), .unset, .unset] [(.int v10)])) _
    refine XS.iload X18.here hx rfl (hb hby at_92) rfl ?_
    exact kt)
  obtain ⟨_, _, ⟨T26, L26, k26, n26⟩, -, X26', ⟨Lc26, hQ26, l26, y26, z26⟩, st26⟩ := Jvm.LawKit.callS X18 hx (y := (⟨"com/example/serendib/serendib/lexer/NumericLiteral", "digit", "(II)I"⟩ : MethodName)) hown (mvT hZ (hw _ (List.mem_of_getElem? (i := 5) rfl))) (mvT hZ (hw _ (List.mem_of_getElem? (i := 6) rfl))) (mvT hZ (hw _ (List.mem_of_getElem? (i := 7) rfl))) (mvT hZ (hw _ (List.mem_of_getElem? (i := 8) rfl))) (by decide) (backOf (W := 0) (rmDig l Z a0 hw [] v10 v2 h0 n0 (Nat.le_trans Z0 (Keep.refl h0 []).1) ) hZ (hw _ (List.mem_of_getElem? (i := 8) rfl)) (hw _ (List.mem_of_getElem? (i := 7) rfl)) (by decide) (by decide)) (g := (mkF m 94 #[.val (.int p1), .val (.int p2), .val (.int p3), .val (.int p4), .val (.int v2), .val (.int v4), .val (.int v6), .val (.int v10), .val (.int v16), .val (.int v20), .val (.int (1 : Int32)), .unset, .unset] [(.int v2), (.int v10)])) rfl (by rw [hml]; rfl) (argsL := [(.int v10), (.int v2)]) (rest := []) (lenOf pd__II_I rfl) rfl (by show 2 * 0 + _ ≤ _; exact Nat.le_of_eq rfl) (hb hby at_94) (fun _ _ => ⟨rfl, e18, (by decide : 0 + 0 ≤ _), (by decide : 0 + 0 ≤ _)⟩)
  dsimp only [Pt.U, Pt.locs, Pt.cells, Pt.slots] at X26' l26 y26 z26 st26 hQ26
  subst l26 y26 z26
  obtain ⟨rfl, N26q, e26⟩ := hQ26
  obtain ⟨lc26, X26, N26⟩ : ∃ lc, Stand p l e room_1 s m #[(.int p1), (.int p2), (.int p3), (.int p4)] below meth c T26 lc 0 0 ∧ Fr n0 lc := ⟨_, X26', Fr.app N18 N26q⟩
  have K27 : Gx p e below s₁ f0 T26 (mkF m 97 #[.val (.int p1), .val (.int p2), .val (.int p3), .val (.int p4), .val (.int v2), .val (.int v4), .val (.int v6), .val (.int v10), .val (.int v16), .val (.int v20), .val (.int (1 : Int32)), .unset, .unset] [(.int (digF v10 v2))]) := fun t kt => K25 t (st26 t kt)
  obtain ⟨v28, hv28⟩ : ∃ z : Int32, z = (digF v10 v2) := ⟨_, rfl⟩
  rw [← hv28] at K27
  have hs := own_sound v10 v2
  rw [← hv28] at hs
  have K29 : Gx p e below s₁ f0 T26 (mkF m 102 #[.val (.int p1), .val (.int p2), .val (.int p3), .val (.int p4), .val (.int v2), .val (.int v4), .val (.int v6), .val (.int v10), .val (.int v16), .val (.int v20), .val (.int (1 : Int32)), .val (.int v28), .unset] [(.int (-1 : Int32)), (.int v28)]) := fun t kt => K27 t (by
    show Steps p.tables e below (T26.setTop (mkF m 97 #[.val (.int p1), .val (.int p2), .val (.int p3), .val (.int p4), .val (.int v2), .val (.int v4), .val (.int v6), .val (.int v10), .val (.int v16), .val (.int v20), .val (.int (1 : Int32)), .unset, .unset] [(.int v28)])) _
    refine XS.istore X26.here hx rfl (hb hby at_97) rfl (l' := #[.val (.int p1), .val (.int p2), .val (.int p3), .val (.int p4), .val (.int v2), .val (.int v4), .val (.int v6), .val (.int v10), .val (.int v16), .val (.int v20), .val (.int (1 : Int32)), .val (.int v28), .unset]) rfl ?_
    show Steps p.tables e below (T26.setTop (mkF m 99 #[.val (.int p1), .val (.int p2), .val (.int p3), .val (.int p4), .val (.int v2), .val (.int v4), .val (.int v6), .val (.int v10), .val (.int v16), .val (.int v20), .val (.int (1 : Int32)), .val (.int v28), .unset] [])) _
    refine XS.iload X26.here hx rfl (hb hby at_99) rfl ?_
    show Steps p.tables e below (T26.setTop (mkF m 101 #[.val (.int p1), .val (.int p2), .val (.int p3), .val (.int p4), .val (.int v2), .val (.int v4), .val (.int v6), .val (.int v10), .val (.int v16), .val (.int v20), .val (.int (1 : Int32)), .val (.int v28), .unset] [(.int v28)])) _
    refine XS.iconst X26.here hx rfl (hb hby at_101) ?_
    exact kt)
  by_cases hb30 : v28 = (-1 : Int32)
  · skip
    have K31 : Gx p e below s₁ f0 T26 (mkF m 161 #[.val (.int p1), .val (.int p2), .val (.int p3), .val (.int p4), .val (.int v2), .val (.int v4), .val (.int v6), .val (.int v10), .val (.int v16), .val (.int v20), .val (.int (1 : Int32)), .val (.int v28), .val (.int (1 : Int32))] [(.int (1 : Int32))]) := fun t kt => K29 t (by
      show Steps p.tables e below (T26.setTop (mkF m 102 #[.val (.int p1), .val (.int p2), .val (.int p3), .val (.int p4), .val (.int v2), .val (.int v4), .val (.int v6), .val (.int v10), .val (.int v16), .val (.int v20), .val (.int (1 : Int32)), .val (.int v28), .unset] [(.int (-1 : Int32)), (.int v28)])) _
      refine XS.icmpYes X26.here hx rfl (pc0 := 102) (pc' := 139) rfl (hb hby at_102) rfl (teq hb30).1 (by decide) (by decide) ?_
      show Steps p.tables e below (T26.setTop (mkF m 139 #[.val (.int p1), .val (.int p2), .val (.int p3), .val (.int p4), .val (.int v2), .val (.int v4), .val (.int v6), .val (.int v10), .val (.int v16), .val (.int v20), .val (.int (1 : Int32)), .val (.int v28), .unset] [])) _
      refine XS.iconst X26.here hx rfl (hb hby at_139) ?_
      show Steps p.tables e below (T26.setTop (mkF m 140 #[.val (.int p1), .val (.int p2), .val (.int p3), .val (.int p4), .val (.int v2), .val (.int v4), .val (.int v6), .val (.int v10), .val (.int v16), .val (.int v20), .val (.int (1 : Int32)), .val (.int v28), .unset] [(.int (1 : Int32))])) _
      refine XS.goto X26.here hx rfl (pc0 := 140) (pc' := 144) rfl (hb hby at_140) (by decide) (by decide) ?_
      show Steps p.tables e below (T26.setTop (mkF m 144 #[.val (.int p1), .val (.int p2), .val (.int p3), .val (.int p4), .val (.int v2), .val (.int v4), .val (.int v6), .val (.int v10), .val (.int v16), .val (.int v20), .val (.int (1 : Int32)), .val (.int v28), .unset] [(.int (1 : Int32))])) _
      refine XS.istore X26.here hx rfl (hb hby at_144) rfl (l' := #[.val (.int p1), .val (.int p2), .val (.int p3), .val (.int p4), .val (.int v2), .val (.int v4), .val (.int v6), .val (.int v10), .val (.int v16), .val (.int v20), .val (.int (1 : Int32)), .val (.int v28), .val (.int (1 : Int32))]) rfl ?_
      show Steps p.tables e below (T26.setTop (mkF m 146 #[.val (.int p1), .val (.int p2), .val (.int p3), .val (.int p4), .val (.int v2), .val (.int v4), .val (.int v6), .val (.int v10), .val (.int v16), .val (.int v20), .val (.int (1 : Int32)), .val (.int v28), .val (.int (1 : Int32))] [])) _
      refine XS.iload X26.here hx rfl (hb hby at_146) rfl ?_
      show Steps p.tables e below (T26.setTop (mkF m 148 #[.val (.int p1), .val (.int p2), .val (.int p3), .val (.int p4), .val (.int v2), .val (.int v4), .val (.int v6), .val (.int v10), .val (.int v16), .val (.int v20), .val (.int (1 : Int32)), .val (.int v28), .val (.int (1 : Int32))] [(.int (1 : Int32))])) _
      refine XS.ifNo X26.here hx rfl (hb hby at_148) rfl ((if0 _ _).trans (feq (by decide)).1) ?_
      show Steps p.tables e below (T26.setTop (mkF m 151 #[.val (.int p1), .val (.int p2), .val (.int p3), .val (.int p4), .val (.int v2), .val (.int v4), .val (.int v6), .val (.int v10), .val (.int v16), .val (.int v20), .val (.int (1 : Int32)), .val (.int v28), .val (.int (1 : Int32))] [])) _
      refine XS.iload X26.here hx rfl (hb hby at_151) rfl ?_
      show Steps p.tables e below (T26.setTop (mkF m 153 #[.val (.int p1), .val (.int p2), .val (.int p3), .val (.int p4), .val (.int v2), .val (.int v4), .val (.int v6), .val (.int v10), .val (.int v16), .val (.int v20), .val (.int (1 : Int32)), .val (.int v28), .val (.int (1 : Int32))] [(.int (1 : Int32))])) _
      refine XS.ifNo X26.here hx rfl (hb hby at_153) rfl ((if0 _ _).trans (feq (by decide)).1) ?_
      show Steps p.tables e below (T26.setTop (mkF m 156 #[.val (.int p1), .val (.int p2), .val (.int p3), .val (.int p4), .val (.int v2), .val (.int v4), .val (.int v6), .val (.int v10), .val (.int v16), .val (.int v20), .val (.int (1 : Int32)), .val (.int v28), .val (.int (1 : Int32))] [])) _
      refine XS.iconst X26.here hx rfl (hb hby at_156) ?_
      show Steps p.tables e below (T26.setTop (mkF m 157 #[.val (.int p1), .val (.int p2), .val (.int p3), .val (.int p4), .val (.int v2), .val (.int v4), .val (.int v6), .val (.int v10), .val (.int v16), .val (.int v20), .val (.int (1 : Int32)), .val (.int v28), .val (.int (1 : Int32))] [(.int (1 : Int32))])) _
      refine XS.goto X26.here hx rfl (pc0 := 157) (pc' := 161) rfl (hb hby at_157) (by decide) (by decide) ?_
      exact kt)
    obtain ⟨fs32, hr32, hrun32, hended32, hW32, hsame32⟩ := X26.leave (v := some (.int (1 : Int32))) (fun h => by rw [Bd.returns] at h; cases h)
    refine ⟨_, _, pre0 _ (K31 _ ?_), hrun32, hended32, _, _, rfl, ?_, ⟨_, rfl⟩, hW32, hsame32.mono (by decide) (by decide)⟩
    · exact retN X26 hx (t := .boolean) Bd.returns (by simp) (hb hby at_161) hr32
    · show Q0 Z p1 p2 p3 p4 h0 n0 _ T26.heap _
      rw [e26]
      exact ⟨rfl, N26⟩
  · skip
    have K33 : Gx p e below s₁ f0 T26 (mkF m 122 #[.val (.int p1), .val (.int p2), .val (.int p3), .val (.int p4), .val (.int v2), .val (.int v4), .val (.int v6), .val (.int v10), .val (.int v16), .val (.int v20), .val (.int (1 : Int32)), .val (.int v28), .unset] [(.int (0 : Int32)), (.int v28), (.int v10)]) := fun t kt => K29 t (by
      show Steps p.tables e below (T26.setTop (mkF m 102 #[.val (.int p1), .val (.int p2), .val (.int p3), .val (.int p4), .val (.int v2), .val (.int v4), .val (.int v6), .val (.int v10), .val (.int v16), .val (.int v20), .val (.int (1 : Int32)), .val (.int v28), .unset] [(.int (-1 : Int32)), (.int v28)])) _
      refine XS.icmpNo X26.here hx rfl (hb hby at_102) rfl (feq hb30).1 ?_
      show Steps p.tables e below (T26.setTop (mkF m 105 #[.val (.int p1), .val (.int p2), .val (.int p3), .val (.int p4), .val (.int v2), .val (.int v4), .val (.int v6), .val (.int v10), .val (.int v16), .val (.int v20), .val (.int (1 : Int32)), .val (.int v28), .unset] [])) _
      refine XS.iload X26.here hx rfl (hb hby at_105) rfl ?_
      show Steps p.tables e below (T26.setTop (mkF m 107 #[.val (.int p1), .val (.int p2), .val (.int p3), .val (.int p4), .val (.int v2), .val (.int v4), .val (.int v6), .val (.int v10), .val (.int v16), .val (.int v20), .val (.int (1 : Int32)), .val (.int v28), .unset] [(.int v28)])) _
      refine XS.ifNo X26.here hx rfl (hb hby at_107) rfl ((if0 _ _).trans (flt (hs.resolve_left hb30).1).1) ?_
      show Steps p.tables e below (T26.setTop (mkF m 110 #[.val (.int p1), .val (.int p2), .val (.int p3), .val (.int p4), .val (.int v2), .val (.int v4), .val (.int v6), .val (.int v10), .val (.int v16), .val (.int v20), .val (.int (1 : Int32)), .val (.int v28), .unset] [])) _
      refine XS.iload X26.here hx rfl (hb hby at_110) rfl ?_
      show Steps p.tables e below (T26.setTop (mkF m 112 #[.val (.int p1), .val (.int p2), .val (.int p3), .val (.int p4), .val (.int v2), .val (.int v4), .val (.int v6), .val (.int v10), .val (.int v16), .val (.int v20), .val (.int (1 : Int32)), .val (.int v28), .unset] [(.int v28)])) _
      refine XS.iload X26.here hx rfl (hb hby at_112) rfl ?_
      show Steps p.tables e below (T26.setTop (mkF m 114 #[.val (.int p1), .val (.int p2), .val (.int p3), .val (.int p4), .val (.int v2), .val (.int v4), .val (.int v6), .val (.int v10), .val (.int v16), .val (.int v20), .val (.int (1 : Int32)), .val (.int v28), .unset] [(.int v2), (.int v28)])) _
      refine XS.icmpNo X26.here hx rfl (hb hby at_114) rfl (tlt (hs.resolve_left hb30).2.1).2.1 ?_
      show Steps p.tables e below (T26.setTop (mkF m 117 #[.val (.int p1), .val (.int p2), .val (.int p3), .val (.int p4), .val (.int v2), .val (.int v4), .val (.int v6), .val (.int v10), .val (.int v16), .val (.int v20), .val (.int (1 : Int32)), .val (.int v28), .unset] [])) _
      refine XS.iload X26.here hx rfl (hb hby at_117) rfl ?_
      show Steps p.tables e below (T26.setTop (mkF m 119 #[.val (.int p1), .val (.int p2), .val (.int p3), .val (.int p4), .val (.int v2), .val (.int v4), .val (.int v6), .val (.int v10), .val (.int v16), .val (.int v20), .val (.int (1 : Int32)), .val (.int v28), .unset] [(.int v10)])) _
      refine XS.iload X26.here hx rfl (hb hby at_119) rfl ?_
      show Steps p.tables e below (T26.setTop (mkF m 121 #[.val (.int p1), .val (.int p2), .val (.int p3), .val (.int p4), .val (.int v2), .val (.int v4), .val (.int v6), .val (.int v10), .val (.int v16), .val (.int v20), .val (.int (1 : Int32)), .val (.int v28), .unset] [(.int v28), (.int v10)])) _
      refine XS.iconst X26.here hx rfl (hb hby at_121) ?_
      exact kt)
    obtain ⟨_, _, ⟨T34, L34, k34, n34⟩, -, X34', ⟨Lc34, hQ34, l34, y34, z34⟩, st34⟩ := Jvm.LawKit.callS X26 hx (y := (⟨"com/example/serendib/serendib/lexer/NumericLiteralDigitPinLaw", "encode", "(IZ)I"⟩ : MethodName)) hown (mvT hZ (hw _ (List.mem_of_getElem? (i := 1) rfl))) (mvT hZ (hw _ (List.mem_of_getElem? (i := 2) rfl))) (mvT hZ (hw _ (List.mem_of_getElem? (i := 3) rfl))) (mvT hZ (hw _ (List.mem_of_getElem? (i := 4) rfl))) (by decide) (backOf (W := 1) (rmEnc l Z a0 hw [] v28 (0 : Int32) h0 n0 (Nat.le_trans Z0 (Keep.refl h0 []).1) ) hZ (hw _ (List.mem_of_getElem? (i := 4) rfl)) (hw _ (List.mem_of_getElem? (i := 3) rfl)) (by decide) (by decide)) (g := (mkF m 122 #[.val (.int p1), .val (.int p2), .val (.int p3), .val (.int p4), .val (.int v2), .val (.int v4), .val (.int v6), .val (.int v10), .val (.int v16), .val (.int v20), .val (.int (1 : Int32)), .val (.int v28), .unset] [(.int (0 : Int32)), (.int v28), (.int v10)])) rfl (by rw [hml]; rfl) (argsL := [(.int v28), (.int (0 : Int32))]) (rest := [(.int v10)]) (lenOf pd__IZ_I rfl) rfl (by show 2 * 0 + _ ≤ _; exact Nat.le_of_eq rfl) (hb hby at_122) (fun _ _ => ⟨rfl, e26, (by decide : 0 + 0 ≤ _), (by decide : 0 + 0 ≤ _)⟩)
    dsimp only [Pt.U, Pt.locs, Pt.cells, Pt.slots] at X34' l34 y34 z34 st34 hQ34
    subst l34 y34 z34
    obtain ⟨rfl, N34q, e34⟩ := hQ34
    obtain ⟨lc34, X34, N34⟩ : ∃ lc, Stand p l e room_1 s m #[(.int p1), (.int p2), (.int p3), (.int p4)] below meth c T34 lc 0 0 ∧ Fr n0 lc := ⟨_, X34', Fr.app N26 N34q⟩
    have K35 : Gx p e below s₁ f0 T34 (mkF m 125 #[.val (.int p1), .val (.int p2), .val (.int p3), .val (.int p4), .val (.int v2), .val (.int v4), .val (.int v6), .val (.int v10), .val (.int v16), .val (.int v20), .val (.int (1 : Int32)), .val (.int v28), .unset] [(.int (encF v28 (0 : Int32))), (.int v10)]) := fun t kt => K33 t (st34 t kt)
    by_cases hb36 : v10 = (encF v28 (0 : Int32))
    · skip
      have K37 : Gx p e below s₁ f0 T34 (mkF m 161 #[.val (.int p1), .val (.int p2), .val (.int p3), .val (.int p4), .val (.int v2), .val (.int v4), .val (.int v6), .val (.int v10), .val (.int v16), .val (.int v20), .val (.int (1 : Int32)), .val (.int v28), .val (.int (1 : Int32))] [(.int (1 : Int32))]) := fun t kt => K35 t (by
        show Steps p.tables e below (T34.setTop (mkF m 125 #[.val (.int p1), .val (.int p2), .val (.int p3), .val (.int p4), .val (.int v2), .val (.int v4), .val (.int v6), .val (.int v10), .val (.int v16), .val (.int v20), .val (.int (1 : Int32)), .val (.int v28), .unset] [(.int (encF v28 (0 : Int32))), (.int v10)])) _
        refine XS.icmpYes X34.here hx rfl (pc0 := 125) (pc' := 139) rfl (hb hby at_125) rfl (teq hb36).1 (by decide) (by decide) ?_
        show Steps p.tables e below (T34.setTop (mkF m 139 #[.val (.int p1), .val (.int p2), .val (.int p3), .val (.int p4), .val (.int v2), .val (.int v4), .val (.int v6), .val (.int v10), .val (.int v16), .val (.int v20), .val (.int (1 : Int32)), .val (.int v28), .unset] [])) _
        refine XS.iconst X34.here hx rfl (hb hby at_139) ?_
        show Steps p.tables e below (T34.setTop (mkF m 140 #[.val (.int p1), .val (.int p2), .val (.int p3), .val (.int p4), .val (.int v2), .val (.int v4), .val (.int v6), .val (.int v10), .val (.int v16), .val (.int v20), .val (.int (1 : Int32)), .val (.int v28), .unset] [(.int (1 : Int32))])) _
        refine XS.goto X34.here hx rfl (pc0 := 140) (pc' := 144) rfl (hb hby at_140) (by decide) (by decide) ?_
        show Steps p.tables e below (T34.setTop (mkF m 144 #[.val (.int p1), .val (.int p2), .val (.int p3), .val (.int p4), .val (.int v2), .val (.int v4), .val (.int v6), .val (.int v10), .val (.int v16), .val (.int v20), .val (.int (1 : Int32)), .val (.int v28), .unset] [(.int (1 : Int32))])) _
        refine XS.istore X34.here hx rfl (hb hby at_144) rfl (l' := #[.val (.int p1), .val (.int p2), .val (.int p3), .val (.int p4), .val (.int v2), .val (.int v4), .val (.int v6), .val (.int v10), .val (.int v16), .val (.int v20), .val (.int (1 : Int32)), .val (.int v28), .val (.int (1 : Int32))]) rfl ?_
        show Steps p.tables e below (T34.setTop (mkF m 146 #[.val (.int p1), .val (.int p2), .val (.int p3), .val (.int p4), .val (.int v2), .val (.int v4), .val (.int v6), .val (.int v10), .val (.int v16), .val (.int v20), .val (.int (1 : Int32)), .val (.int v28), .val (.int (1 : Int32))] [])) _
        refine XS.iload X34.here hx rfl (hb hby at_146) rfl ?_
        show Steps p.tables e below (T34.setTop (mkF m 148 #[.val (.int p1), .val (.int p2), .val (.int p3), .val (.int p4), .val (.int v2), .val (.int v4), .val (.int v6), .val (.int v10), .val (.int v16), .val (.int v20), .val (.int (1 : Int32)), .val (.int v28), .val (.int (1 : Int32))] [(.int (1 : Int32))])) _
        refine XS.ifNo X34.here hx rfl (hb hby at_148) rfl ((if0 _ _).trans (feq (by decide)).1) ?_
        show Steps p.tables e below (T34.setTop (mkF m 151 #[.val (.int p1), .val (.int p2), .val (.int p3), .val (.int p4), .val (.int v2), .val (.int v4), .val (.int v6), .val (.int v10), .val (.int v16), .val (.int v20), .val (.int (1 : Int32)), .val (.int v28), .val (.int (1 : Int32))] [])) _
        refine XS.iload X34.here hx rfl (hb hby at_151) rfl ?_
        show Steps p.tables e below (T34.setTop (mkF m 153 #[.val (.int p1), .val (.int p2), .val (.int p3), .val (.int p4), .val (.int v2), .val (.int v4), .val (.int v6), .val (.int v10), .val (.int v16), .val (.int v20), .val (.int (1 : Int32)), .val (.int v28), .val (.int (1 : Int32))] [(.int (1 : Int32))])) _
        refine XS.ifNo X34.here hx rfl (hb hby at_153) rfl ((if0 _ _).trans (feq (by decide)).1) ?_
        show Steps p.tables e below (T34.setTop (mkF m 156 #[.val (.int p1), .val (.int p2), .val (.int p3), .val (.int p4), .val (.int v2), .val (.int v4), .val (.int v6), .val (.int v10), .val (.int v16), .val (.int v20), .val (.int (1 : Int32)), .val (.int v28), .val (.int (1 : Int32))] [])) _
        refine XS.iconst X34.here hx rfl (hb hby at_156) ?_
        show Steps p.tables e below (T34.setTop (mkF m 157 #[.val (.int p1), .val (.int p2), .val (.int p3), .val (.int p4), .val (.int v2), .val (.int v4), .val (.int v6), .val (.int v10), .val (.int v16), .val (.int v20), .val (.int (1 : Int32)), .val (.int v28), .val (.int (1 : Int32))] [(.int (1 : Int32))])) _
        refine XS.goto X34.here hx rfl (pc0 := 157) (pc' := 161) rfl (hb hby at_157) (by decide) (by decide) ?_
        exact kt)
      obtain ⟨fs38, hr38, hrun38, hended38, hW38, hsame38⟩ := X34.leave (v := some (.int (1 : Int32))) (fun h => by rw [Bd.returns] at h; cases h)
      refine ⟨_, _, pre0 _ (K37 _ ?_), hrun38, hended38, _, _, rfl, ?_, ⟨_, rfl⟩, hW38, hsame38.mono (by decide) (by decide)⟩
      · exact retN X34 hx (t := .boolean) Bd.returns (by simp) (hb hby at_161) hr38
      · show Q0 Z p1 p2 p3 p4 h0 n0 _ T34.heap _
        rw [e34]
        exact ⟨rfl, N34⟩
    · skip
      have K39 : Gx p e below s₁ f0 T34 (mkF m 133 #[.val (.int p1), .val (.int p2), .val (.int p3), .val (.int p4), .val (.int v2), .val (.int v4), .val (.int v6), .val (.int v10), .val (.int v16), .val (.int v20), .val (.int (1 : Int32)), .val (.int v28), .unset] [(.int (1 : Int32)), (.int v28), (.int v10)]) := fun t kt => K35 t (by
        show Steps p.tables e below (T34.setTop (mkF m 125 #[.val (.int p1), .val (.int p2), .val (.int p3), .val (.int p4), .val (.int v2), .val (.int v4), .val (.int v6), .val (.int v10), .val (.int v16), .val (.int v20), .val (.int (1 : Int32)), .val (.int v28), .unset] [(.int (encF v28 (0 : Int32))), (.int v10)])) _
        refine XS.icmpNo X34.here hx rfl (hb hby at_125) rfl (feq hb36).1 ?_
        show Steps p.tables e below (T34.setTop (mkF m 128 #[.val (.int p1), .val (.int p2), .val (.int p3), .val (.int p4), .val (.int v2), .val (.int v4), .val (.int v6), .val (.int v10), .val (.int v16), .val (.int v20), .val (.int (1 : Int32)), .val (.int v28), .unset] [])) _
        refine XS.iload X34.here hx rfl (hb hby at_128) rfl ?_
        show Steps p.tables e below (T34.setTop (mkF m 130 #[.val (.int p1), .val (.int p2), .val (.int p3), .val (.int p4), .val (.int v2), .val (.int v4), .val (.int v6), .val (.int v10), .val (.int v16), .val (.int v20), .val (.int (1 : Int32)), .val (.int v28), .unset] [(.int v10)])) _
        refine XS.iload X34.here hx rfl (hb hby at_130) rfl ?_
        show Steps p.tables e below (T34.setTop (mkF m 132 #[.val (.int p1), .val (.int p2), .val (.int p3), .val (.int p4), .val (.int v2), .val (.int v4), .val (.int v6), .val (.int v10), .val (.int v16), .val (.int v20), .val (.int (1 : Int32)), .val (.int v28), .unset] [(.int v28), (.int v10)])) _
        refine XS.iconst X34.here hx rfl (hb hby at_132) ?_
        exact kt)
      obtain ⟨_, _, ⟨T40, L40, k40, n40⟩, -, X40', ⟨Lc40, hQ40, l40, y40, z40⟩, st40⟩ := Jvm.LawKit.callS X34 hx (y := (⟨"com/example/serendib/serendib/lexer/NumericLiteralDigitPinLaw", "encode", "(IZ)I"⟩ : MethodName)) hown (mvT hZ (hw _ (List.mem_of_getElem? (i := 1) rfl))) (mvT hZ (hw _ (List.mem_of_getElem? (i := 2) rfl))) (mvT hZ (hw _ (List.mem_of_getElem? (i := 3) rfl))) (mvT hZ (hw _ (List.mem_of_getElem? (i := 4) rfl))) (by decide) (backOf (W := 1) (rmEnc l Z a0 hw [] v28 (1 : Int32) h0 n0 (Nat.le_trans Z0 (Keep.refl h0 []).1) ) hZ (hw _ (List.mem_of_getElem? (i := 4) rfl)) (hw _ (List.mem_of_getElem? (i := 3) rfl)) (by decide) (by decide)) (g := (mkF m 133 #[.val (.int p1), .val (.int p2), .val (.int p3), .val (.int p4), .val (.int v2), .val (.int v4), .val (.int v6), .val (.int v10), .val (.int v16), .val (.int v20), .val (.int (1 : Int32)), .val (.int v28), .unset] [(.int (1 : Int32)), (.int v28), (.int v10)])) rfl (by rw [hml]; rfl) (argsL := [(.int v28), (.int (1 : Int32))]) (rest := [(.int v10)]) (lenOf pd__IZ_I rfl) rfl (by show 2 * 0 + _ ≤ _; exact Nat.le_of_eq rfl) (hb hby at_133) (fun _ _ => ⟨rfl, e34, (by decide : 0 + 0 ≤ _), (by decide : 0 + 0 ≤ _)⟩)
      dsimp only [Pt.U, Pt.locs, Pt.cells, Pt.slots] at X40' l40 y40 z40 st40 hQ40
      subst l40 y40 z40
      obtain ⟨rfl, N40q, e40⟩ := hQ40
      obtain ⟨lc40, X40, N40⟩ : ∃ lc, Stand p l e room_1 s m #[(.int p1), (.int p2), (.int p3), (.int p4)] below meth c T40 lc 0 0 ∧ Fr n0 lc := ⟨_, X40', Fr.app N34 N40q⟩
      have K41 : Gx p e below s₁ f0 T40 (mkF m 136 #[.val (.int p1), .val (.int p2), .val (.int p3), .val (.int p4), .val (.int v2), .val (.int v4), .val (.int v6), .val (.int v10), .val (.int v16), .val (.int v20), .val (.int (1 : Int32)), .val (.int v28), .unset] [(.int (encF v28 (1 : Int32))), (.int v10)]) := fun t kt => K39 t (st40 t kt)
      have K42 : Gx p e below s₁ f0 T40 (mkF m 161 #[.val (.int p1), .val (.int p2), .val (.int p3), .val (.int p4), .val (.int v2), .val (.int v4), .val (.int v6), .val (.int v10), .val (.int v16), .val (.int v20), .val (.int (1 : Int32)), .val (.int v28), .val (.int (1 : Int32))] [(.int (1 : Int32))]) := fun t kt => K41 t (by
        show Steps p.tables e below (T40.setTop (mkF m 136 #[.val (.int p1), .val (.int p2), .val (.int p3), .val (.int p4), .val (.int v2), .val (.int v4), .val (.int v6), .val (.int v10), .val (.int v16), .val (.int v20), .val (.int (1 : Int32)), .val (.int v28), .unset] [(.int (encF v28 (1 : Int32))), (.int v10)])) _
        refine XS.icmpNo X40.here hx rfl (hb hby at_136) rfl (teq ((hs.resolve_left hb30).2.2.resolve_left hb36)).2 ?_
        show Steps p.tables e below (T40.setTop (mkF m 139 #[.val (.int p1), .val (.int p2), .val (.int p3), .val (.int p4), .val (.int v2), .val (.int v4), .val (.int v6), .val (.int v10), .val (.int v16), .val (.int v20), .val (.int (1 : Int32)), .val (.int v28), .unset] [])) _
        refine XS.iconst X40.here hx rfl (hb hby at_139) ?_
        show Steps p.tables e below (T40.setTop (mkF m 140 #[.val (.int p1), .val (.int p2), .val (.int p3), .val (.int p4), .val (.int v2), .val (.int v4), .val (.int v6), .val (.int v10), .val (.int v16), .val (.int v20), .val (.int (1 : Int32)), .val (.int v28), .unset] [(.int (1 : Int32))])) _
        refine XS.goto X40.here hx rfl (pc0 := 140) (pc' := 144) rfl (hb hby at_140) (by decide) (by decide) ?_
        show Steps p.tables e below (T40.setTop (mkF m 144 #[.val (.int p1), .val (.int p2), .val (.int p3), .val (.int p4), .val (.int v2), .val (.int v4), .val (.int v6), .val (.int v10), .val (.int v16), .val (.int v20), .val (.int (1 : Int32)), .val (.int v28), .unset] [(.int (1 : Int32))])) _
        refine XS.istore X40.here hx rfl (hb hby at_144) rfl (l' := #[.val (.int p1), .val (.int p2), .val (.int p3), .val (.int p4), .val (.int v2), .val (.int v4), .val (.int v6), .val (.int v10), .val (.int v16), .val (.int v20), .val (.int (1 : Int32)), .val (.int v28), .val (.int (1 : Int32))]) rfl ?_
        show Steps p.tables e below (T40.setTop (mkF m 146 #[.val (.int p1), .val (.int p2), .val (.int p3), .val (.int p4), .val (.int v2), .val (.int v4), .val (.int v6), .val (.int v10), .val (.int v16), .val (.int v20), .val (.int (1 : Int32)), .val (.int v28), .val (.int (1 : Int32))] [])) _
        refine XS.iload X40.here hx rfl (hb hby at_146) rfl ?_
        show Steps p.tables e below (T40.setTop (mkF m 148 #[.val (.int p1), .val (.int p2), .val (.int p3), .val (.int p4), .val (.int v2), .val (.int v4), .val (.int v6), .val (.int v10), .val (.int v16), .val (.int v20), .val (.int (1 : Int32)), .val (.int v28), .val (.int (1 : Int32))] [(.int (1 : Int32))])) _
        refine XS.ifNo X40.here hx rfl (hb hby at_148) rfl ((if0 _ _).trans (feq (by decide)).1) ?_
        show Steps p.tables e below (T40.setTop (mkF m 151 #[.val (.int p1), .val (.int p2), .val (.int p3), .val (.int p4), .val (.int v2), .val (.int v4), .val (.int v6), .val (.int v10), .val (.int v16), .val (.int v20), .val (.int (1 : Int32)), .val (.int v28), .val (.int (1 : Int32))] [])) _
        refine XS.iload X40.here hx rfl (hb hby at_151) rfl ?_
        show Steps p.tables e below (T40.setTop (mkF m 153 #[.val (.int p1), .val (.int p2), .val (.int p3), .val (.int p4), .val (.int v2), .val (.int v4), .val (.int v6), .val (.int v10), .val (.int v16), .val (.int v20), .val (.int (1 : Int32)), .val (.int v28), .val (.int (1 : Int32))] [(.int (1 : Int32))])) _
        refine XS.ifNo X40.here hx rfl (hb hby at_153) rfl ((if0 _ _).trans (feq (by decide)).1) ?_
        show Steps p.tables e below (T40.setTop (mkF m 156 #[.val (.int p1), .val (.int p2), .val (.int p3), .val (.int p4), .val (.int v2), .val (.int v4), .val (.int v6), .val (.int v10), .val (.int v16), .val (.int v20), .val (.int (1 : Int32)), .val (.int v28), .val (.int (1 : Int32))] [])) _
        refine XS.iconst X40.here hx rfl (hb hby at_156) ?_
        show Steps p.tables e below (T40.setTop (mkF m 157 #[.val (.int p1), .val (.int p2), .val (.int p3), .val (.int p4), .val (.int v2), .val (.int v4), .val (.int v6), .val (.int v10), .val (.int v16), .val (.int v20), .val (.int (1 : Int32)), .val (.int v28), .val (.int (1 : Int32))] [(.int (1 : Int32))])) _
        refine XS.goto X40.here hx rfl (pc0 := 157) (pc' := 161) rfl (hb hby at_157) (by decide) (by decide) ?_
        exact kt)
      obtain ⟨fs43, hr43, hrun43, hended43, hW43, hsame43⟩ := X40.leave (v := some (.int (1 : Int32))) (fun h => by rw [Bd.returns] at h; cases h)
      refine ⟨_, _, pre0 _ (K42 _ ?_), hrun43, hended43, _, _, rfl, ?_, ⟨_, rfl⟩, hW43, hsame43.mono (by decide) (by decide)⟩
      · exact retN X40 hx (t := .boolean) Bd.returns (by simp) (hb hby at_161) hr43
      · show Q0 Z p1 p2 p3 p4 h0 n0 _ T40.heap _
        rw [e40]
        exact ⟨rfl, N40⟩
set_option maxRecDepth 65536 in
set_option maxHeartbeats 40000000 in
theorem comes_1 {Post : Tables → Env → Array Value → State → Outcome → State → Prop} (hpost : ∀ tb e args s v u, (limb_1_1.after args s (.returned v) u = true ∧ limb_1_2.after args s (.returned v) u = true ∧ True) → FrameEnd s (.returned v) u (Jvm.fieldLocs frame_1_writes args s ++ Jvm.arrayLocs frame_1_arrays args s ++ Jvm.staticLocs frame_1_statics s) 0 0 → Post tb e args s (.returned v) u) :
    ArmFor flags0 classFile x code maxLocals ret World_1 tables_1 room_1 Calls_1 rest_1 Pre_1 Post := by
  intro l hfl _ _ p e ha hc hk s m args below hf hA hF happ hP
  obtain ⟨hcalls, hrest, hpre⟩ := hP
  obtain ⟨-, -, -, hnamed, -, -, -, hat⟩ := (Spec.applies_iff hf).mp happ
  obtain ⟨hg, hn⟩ := and_e (Cond.before_iff.mp (show (Jvm.Cond.and given_1 narrow_1).before args s = true from hpre))
  obtain ⟨g1, g2⟩ := and_e hg
  obtain ⟨g3, g4⟩ := and_e g2
  obtain ⟨g5, g6⟩ := and_e g4
  obtain ⟨g7, g8⟩ := and_e g6
  obtain ⟨w0, w1, w2, w3, rfl⟩ : ∃ w0 w1 w2 w3 : Value, args = #[w0, w1, w2, w3] := by
    have hs : args.size = 4 := by simpa [Cond.value, given_1] using g1
    obtain ⟨L⟩ := args
    match L, hs with
    | [w0, w1, w2, w3], _ => exact ⟨w0, w1, w2, w3, rfl⟩
  have hw := fun d (hd : d ∈ tables_1) => atoms_spec (ws := Jvm.Cond.code x code maxLocals ret :: tables_1) hat d (List.mem_cons_of_mem _ hd)
  have hfit : Fit s := fun {y c} hc i hi => by
    obtain ⟨ha, rfl⟩ := Array.getElem?_eq_some_iff.mp hc
    have q := List.all_eq_true.mp ((Array.all_eq_true_iff_forall_mem.mp hF) _ (Array.getElem_mem ha)) i (List.mem_range.mpr hi)
    simpa [Array.getElem?_eq_getElem hi] using q
  obtain ⟨i0, ei0⟩ := is_v g3
  obtain rfl : w0 = (.int i0) := Option.some.inj ei0
  obtain ⟨i1, ei1⟩ := is_v g5
  obtain rfl : w1 = (.int i1) := Option.some.inj ei1
  obtain ⟨i2, ei2⟩ := is_v g7
  obtain rfl : w2 = (.int i2) := Option.some.inj ei2
  obtain ⟨i3, ei3⟩ := is_v g8
  obtain rfl : w3 = (.int i3) := Option.some.inj ei3
  obtain ⟨n, o, h1, h2, h3, _, L, rfl, ⟨rfl, N⟩, hq⟩ := rm0 l s _ hw tables_1 i0 i1 i2 i3 s.heap s.heap.size (Nat.le_refl _) p e ha hc hk s m _ below hf ((Spec.applies_iff_loose hf).mp happ).1 ⟨rfl, State.Warmed39.refl s, rfl⟩ trivial
  refine ⟨n, _, h1, h2, h3, hpost _ _ _ _ _ _ ⟨Cond.after_iff.mpr rfl, Cond.after_iff.mpr (eq_i res_at (Term.int_eval (1)) rfl), trivial⟩ ⟨hq.1, hq.2.1, (hq.2.2.sift fun y hy => Or.inr (N y hy)).mono (by decide) (by decide)⟩⟩
theorem main_1_1 : Claimed_1_1 := comes_1 fun _ _ _ _ _ _ h hF => ⟨h.1, hF⟩
theorem main_1_2 : Claimed_1_2 := comes_1 fun _ _ _ _ _ _ h hF => ⟨h.2.1, hF⟩
end Jvm.Pilot.@@N@@
namespace Jvm.Pilot.@@N@@
open Jvm Jvm.ClassFile Sem Op Lib Jvm.Free Jvm.Stand Jvm.Pilot.@@N@@.Jvm.D
/-! MADE BY PROGRAM (witnessworld.py) out of the Statement's table words and the real class files: 10 classes; the members and pool entries that the words name. The judged class is class 1, her method 2. -/
namespace start1
open Jvm.ClassFile
def u (s : String) : CpInfo := .utf8 (stringToUtf16 s)
/-- a pool by its gaps: so many unusable entries, then the entry; so many at the end -/
def gap : Nat → List CpInfo → List CpInfo
  | 0, r => r
  | n + 1, r => .unusable :: gap n r
def poolList (es : List (Nat × CpInfo)) (last : Nat) : List CpInfo := es.foldr (fun e r => gap e.1 (e.2 :: r)) (gap last [])
def pool (es : List (Nat × CpInfo)) (last : Nat) : Array CpInfo := ⟨poolList es last⟩
def fileOf (pool : Array CpInfo) (this : Nat) (attrs : Array Attribute := #[]) (ms : Array MethodInfo := #[]) (fl : Nat := 33) (sup : Nat := 0) (ifs : Array Nat := #[]) (fds : Array FieldInfo := #[]) : ClassFile where
  minorVersion := 0
  majorVersion := 65
  constantPool := pool
  accessFlags := fl
  thisClass := this
  superClass := sup
  interfaces := ifs
  fields := fds
  methods := ms
  attributes := attrs
def plain (name : String) (sup : Option ClassId) : Class where
  name := name
  kind := .ordinary
  loader := none
  accessFlags := 33
  super := sup
  interfaces := #[]
  cf := none
  fields := #[]
  methods := #[]
  instanceTypes := #[]
  staticTypes := #[]
  resolved := #[]
  callSites := []
  init := .initialized
  statics := none
  mirror := none

def pool0 : Array CpInfo := pool [(5, u "<init>"), (0, u "()V"), (1, .class_ 10), (1, u "java/lang/Object")] 113

def k0m0 : Method := { name := "<init>", desc := "()V", sig := { parameters := [], returnType := none }, accessFlags := 1, code := none }
/-- java/lang/Object -/
def k0 : Class := { plain "java/lang/Object" none with
  accessFlags := 33
  interfaces := #[]
  cf := some (fileOf pool0 8 #[] #[{ accessFlags := 1, nameIndex := 5, descriptorIndex := 6, attributes := #[] }] 33 0 #[] #[])
  fields := #[]
  methods := #[k0m0]
  instanceTypes := #[]
  staticTypes := #[]
  resolved := Array.replicate 124 none
  statics := none }

def pool1 : Array CpInfo := pool [(2, .class_ 4), (1, u "java/lang/Object"), (0, u "<init>"), (0, u "()V"), (0, .integer 2147483647), (0, .methodref 9 10), (0, .class_ 11), (0, .nameAndType 12 13), (0, u "com/example/serendib/serendib/lexer/NumericLiteralDigitPinLaw"), (0, u "encode"), (0, u "(IZ)I"), (0, .methodref 15 16), (0, .class_ 17), (0, .nameAndType 18 19), (0, u "com/example/serendib/serendib/lexer/NumericLiteral"), (0, u "digit"), (0, u "(II)I"), (3, u "law"), (0, u "(IIII)Z")] 2

def k1m0 : Method := { name := "<init>", desc := "()V", sig := { parameters := [], returnType := none }, accessFlags := 1, code := none }
def k1c1 : Code := { maxStack := 3, maxLocals := 2, code := method_2_code, exceptionTable := #[], attributes := #[] }
def k1m1 : Method := { name := "encode", desc := "(IZ)I", sig := { parameters := [.int, .boolean], returnType := some .int }, accessFlags := 10, code := some k1c1 }
def k1c2 : Code := { maxStack := 3, maxLocals := 13, code := code, exceptionTable := #[], attributes := #[] }
def k1m2 : Method := { name := "law", desc := "(IIII)Z", sig := { parameters := [.int, .int, .int, .int], returnType := some .boolean }, accessFlags := 9, code := some k1c2 }
/-- com/example/serendib/serendib/lexer/NumericLiteralDigitPinLaw -/
def k1 : Class := { plain "com/example/serendib/serendib/lexer/NumericLiteralDigitPinLaw" (some 0) with
  accessFlags := 49
  interfaces := #[]
  cf := some (fileOf pool1 9 #[] #[{ accessFlags := 1, nameIndex := 5, descriptorIndex := 6, attributes := #[] }, { accessFlags := 10, nameIndex := 12, descriptorIndex := 13, attributes := #[] }, { accessFlags := 9, nameIndex := 23, descriptorIndex := 24, attributes := #[] }] 49 2 #[] #[])
  fields := #[]
  methods := #[k1m0, k1m1, k1m2]
  instanceTypes := #[]
  staticTypes := #[]
  resolved := Array.replicate 27 none
  statics := none }

def pool2 : Array CpInfo := pool [(2, .class_ 4), (1, u "java/lang/Object"), (0, u "<init>"), (0, u "()V"), (0, .class_ 8), (0, u "java/lang/Record")] 13

def k2m0 : Method := { name := "<init>", desc := "()V", sig := { parameters := [], returnType := none }, accessFlags := 4, code := none }
/-- java/lang/Record -/
def k2 : Class := { plain "java/lang/Record" (some 0) with
  accessFlags := 1057
  interfaces := #[]
  cf := some (fileOf pool2 7 #[] #[{ accessFlags := 4, nameIndex := 5, descriptorIndex := 6, attributes := #[] }] 1057 2 #[] #[])
  fields := #[]
  methods := #[k2m0]
  instanceTypes := #[]
  staticTypes := #[]
  resolved := Array.replicate 22 none
  statics := none }

def pool3 : Array CpInfo := pool [(2, .class_ 4), (1, u "java/lang/Record"), (3, .class_ 10), (1, u "com/example/serendib/serendib/lexer/NumericLiteral"), (0, u "kind"), (0, u "Lcom/example/serendib/serendib/lexer/TokenKind;"), (2, u "value"), (0, u "Ljava/lang/String;"), (2, u "mistake"), (72, u "digit"), (0, u "(II)I"), (52, u "EXPONENT"), (0, u "Ljava/util/regex/Pattern;"), (62, u "MAGNITUDES"), (1, u "FRACTIONAL_MAGNITUDES"), (0, u "REFERENCE")] 64

def k3c0 : Code := { maxStack := 2, maxLocals := 3, code := prog_41_method_3_code, exceptionTable := #[], attributes := #[] }
def k3m0 : Method := { name := "digit", desc := "(II)I", sig := { parameters := [.int, .int], returnType := some .int }, accessFlags := 8, code := some k3c0 }
/-- com/example/serendib/serendib/lexer/NumericLiteral -/
def k3 : Class := { plain "com/example/serendib/serendib/lexer/NumericLiteral" (some 2) with
  accessFlags := 48
  interfaces := #[]
  cf := some (fileOf pool3 8 #[] #[{ accessFlags := 8, nameIndex := 92, descriptorIndex := 93, attributes := #[] }] 48 2 #[] #[{ accessFlags := 18, nameIndex := 11, descriptorIndex := 12, attributes := #[] }, { accessFlags := 18, nameIndex := 15, descriptorIndex := 16, attributes := #[] }, { accessFlags := 18, nameIndex := 19, descriptorIndex := 16, attributes := #[] }, { accessFlags := 26, nameIndex := 210, descriptorIndex := 16, attributes := #[] }, { accessFlags := 26, nameIndex := 212, descriptorIndex := 16, attributes := #[] }, { accessFlags := 26, nameIndex := 146, descriptorIndex := 147, attributes := #[] }, { accessFlags := 26, nameIndex := 213, descriptorIndex := 16, attributes := #[] }])
  fields := #[{ name := "kind", type := (.object "com/example/serendib/serendib/lexer/TokenKind"), accessFlags := 18, slot := 0, constantValue := 0 }, { name := "value", type := (.object "java/lang/String"), accessFlags := 18, slot := 1, constantValue := 0 }, { name := "mistake", type := (.object "java/lang/String"), accessFlags := 18, slot := 2, constantValue := 0 }, { name := "MAGNITUDES", type := (.object "java/lang/String"), accessFlags := 26, slot := 0, constantValue := 0 }, { name := "FRACTIONAL_MAGNITUDES", type := (.object "java/lang/String"), accessFlags := 26, slot := 1, constantValue := 0 }, { name := "EXPONENT", type := (.object "java/util/regex/Pattern"), accessFlags := 26, slot := 2, constantValue := 0 }, { name := "REFERENCE", type := (.object "java/lang/String"), accessFlags := 26, slot := 3, constantValue := 0 }]
  methods := #[k3m0]
  instanceTypes := #[(.object "com/example/serendib/serendib/lexer/TokenKind"), (.object "java/lang/String"), (.object "java/lang/String")]
  staticTypes := #[(.object "java/lang/String"), (.object "java/lang/String"), (.object "java/util/regex/Pattern"), (.object "java/lang/String")]
  resolved := Array.replicate 278 none
  statics := none }

def pool4 : Array CpInfo := pool [(1, u "java/lang/Cloneable"), (0, .class_ 1), (0, u "java/lang/Object"), (0, .class_ 3)] 3

/-- java/lang/Cloneable -/
def k4 : Class := { plain "java/lang/Cloneable" (some 0) with
  accessFlags := 1537
  interfaces := #[]
  cf := some (fileOf pool4 2 #[] #[] 1537 4 #[] #[])
  fields := #[]
  methods := #[]
  instanceTypes := #[]
  staticTypes := #[]
  resolved := Array.replicate 8 none
  statics := none }

def pool5 : Array CpInfo := pool [(1, u "java/io/Serializable"), (0, .class_ 1), (0, u "java/lang/Object"), (0, .class_ 3)] 3

/-- java/io/Serializable -/
def k5 : Class := { plain "java/io/Serializable" (some 0) with
  accessFlags := 1537
  interfaces := #[]
  cf := some (fileOf pool5 2 #[] #[] 1537 4 #[] #[])
  fields := #[]
  methods := #[]
  instanceTypes := #[]
  staticTypes := #[]
  resolved := Array.replicate 8 none
  statics := none }

/-- the primitive byte -/
def k6 : Class := { plain "byte" none with kind := .primitive 'B', accessFlags := 0x411 }
/-- [B -/
def k7 : Class := { plain "[B" (some 0) with kind := .array 6 .byte, interfaces := #[4, 5], accessFlags := 1041 }

/-- the primitive int -/
def k8 : Class := { plain "int" none with kind := .primitive 'I', accessFlags := 0x411 }
/-- [I -/
def k9 : Class := { plain "[I" (some 0) with kind := .array 8 .int, interfaces := #[4, 5], accessFlags := 1041 }

def heap : Heap := #[]
def classes : Array Class := #[k0, k1, k2, k3, k4, k5, k6, k7, k8, k9]
def interned : List (Array UInt16 × Addr) := []
def slotsUsed : Nat := 0
def theMethod : MethodId := ⟨1, 2⟩
def args0 : Array Value := #[.int 5, .int 6, .int 7, .int 8]
def aboutOver (below : List Frame) : State where
  vm := { classes := classes, interned := interned.toArray }
  heap := heap
  slotsUsed := slotsUsed
  threads := #[{ frames := .invoking theMethod args0 :: below }]
def below0 : List Frame := [.native { method := ⟨0, 0⟩, args := #[] }]
def about1 : State := aboutOver below0
def p0 : Program := .bare "" "" ""
def e0 : Env := launch0.env 0 0 0
theorem w_frames : about1.frames = Frame.invoking theMethod args0 :: below0 := rfl
set_option maxRecDepth 65536 in
theorem w_args : argsFit about1.vm theMethod args0 = true := by decide +kernel
set_option maxRecDepth 65536 in
theorem w_heap : heapFits about1 = true := by decide +kernel
set_option maxRecDepth 65536 in
theorem w_runnable : about1.curStatus? = some .runnable := by decide +kernel
set_option maxRecDepth 65536 in
theorem w_alone : about1.alone = true := by decide +kernel
set_option maxRecDepth 65536 in
theorem w_named : about1.methodNamed? x = some theMethod := by decide +kernel
set_option maxRecDepth 65536 in
theorem w_hears : about1.hears theMethod below0 = true := by decide +kernel
set_option maxRecDepth 65536 in
theorem w_ripe : about1.ripe theMethod args0 below0 = true := by decide +kernel
theorem w_running : about1.status = .running := rfl
set_option maxRecDepth 65536 in
theorem w_room : about1.hasRoom e0.platform room_1 = true :=
  launch0.hasRoom_least _ room_1 (by decide +kernel) (by decide +kernel) (by decide +kernel) (by decide +kernel) (by decide +kernel) (by decide +kernel)
theorem allAtoms_all (ts : List Jvm.Cond) (a : Array Jvm.Value) (st : Jvm.State) : (allAtoms ts).before a st = ts.all (fun c => c.before a st) := by
  induction ts with
  | nil => rfl
  | cons c t ih =>
    show (Jvm.Cond.and c (allAtoms t)).before a st = _
    rw [Jvm.Cond.before_and, ih, List.all_cons]
def words1 : List Jvm.Cond := Jvm.Cond.code x code maxLocals ret :: tables_1
/-- a 'code' word, met by the world's own term for the bytes: nothing is compared byte by byte -/
theorem code_word {y : MethodName} {bytes : ByteArray} {mx : Nat} {rt : Option FieldType} {a : Array Value} {s : State} {m : MethodId} {meth : Method} {c : Code} (h1 : s.methodNamed? y = some m) (h2 : s.vm.method? m = some meth) (h3 : meth.code = some c) (h4 : c.code = bytes)
    (h5 : (c.maxLocals == mx && c.exceptionTable.isEmpty && decide (c.maxStack ≤ mostOperands) && decide (meth.sig.returnType = rt) && !meth.locks && decide (parseMethodDescriptor y.desc = some meth.sig)) = true) : (Jvm.Cond.code y bytes mx rt).before a s = true := by
  simp only [Bool.and_eq_true, beq_iff_eq, Bool.not_eq_true', decide_eq_true_eq] at h5
  obtain ⟨⟨⟨⟨⟨g1, g2⟩, g3⟩, g4⟩, g5⟩, g6⟩ := h5
  simp [Cond.before, Cond.holds, Cond.value, h1, h2, h3, h4, g1, g2, g3, g4, g5, g6]
def isCode : Jvm.Cond → Bool
  | .code _ _ _ _ => true
  | _ => false
theorem all_split {L : List Jvm.Cond} {P : Jvm.Cond → Bool} (h1 : L.all (fun c => isCode c || P c) = true) (h2 : ∀ c ∈ L.filter isCode, P c = true) : L.all P = true := by
  refine List.all_eq_true.mpr fun c hc => ?_
  have h := List.all_eq_true.mp h1 c hc
  rcases Bool.eq_false_or_eq_true (isCode c) with hi | hi
  · exact h2 c (List.mem_filter.mpr ⟨hc, hi⟩)
  · simpa [hi] using h
set_option maxRecDepth 65536 in
theorem w_c0 : (Jvm.Cond.code x code maxLocals ret).before args0 about1 = true := code_word (m := ⟨1, 2⟩) (meth := k1m2) (c := k1c2) (by decide +kernel) rfl rfl rfl (by decide +kernel)
set_option maxRecDepth 65536 in
theorem w_c1 : (Jvm.Cond.code ({ cls := "com/example/serendib/serendib/lexer/NumericLiteralDigitPinLaw", name := "encode", desc := "(IZ)I" } : Jvm.MethodName) method_2_code (2 : Nat) (Option.some Jvm.ClassFile.FieldType.int)).before args0 about1 = true := code_word (m := ⟨1, 1⟩) (meth := k1m1) (c := k1c1) (by decide +kernel) rfl rfl rfl (by decide +kernel)
set_option maxRecDepth 65536 in
theorem w_c2 : (Jvm.Cond.code ({ cls := "com/example/serendib/serendib/lexer/NumericLiteral", name := "digit", desc := "(II)I" } : Jvm.MethodName) prog_41_method_3_code (3 : Nat) (Option.some Jvm.ClassFile.FieldType.int)).before args0 about1 = true := code_word (m := ⟨3, 0⟩) (meth := k3m0) (c := k3c0) (by decide +kernel) rfl rfl rfl (by decide +kernel)
def codes1 : List Jvm.Cond := [Jvm.Cond.code x code maxLocals ret, Jvm.Cond.code ({ cls := "com/example/serendib/serendib/lexer/NumericLiteralDigitPinLaw", name := "encode", desc := "(IZ)I" } : Jvm.MethodName) method_2_code (2 : Nat) (Option.some Jvm.ClassFile.FieldType.int), Jvm.Cond.code ({ cls := "com/example/serendib/serendib/lexer/NumericLiteral", name := "digit", desc := "(II)I" } : Jvm.MethodName) prog_41_method_3_code (3 : Nat) (Option.some Jvm.ClassFile.FieldType.int)]
set_option maxRecDepth 65536 in
theorem codes_eq : words1.filter isCode = codes1 := rfl
theorem w_codes : ∀ c ∈ words1.filter isCode, c.before args0 about1 = true := by
  rw [codes_eq]
  intro c hc
  simp only [codes1, List.mem_cons, List.not_mem_nil, or_false] at hc
  rcases hc with rfl | rfl | rfl
  · exact w_c0
  · exact w_c1
  · exact w_c2
set_option maxRecDepth 65536 in
theorem w_t1 : words1.all (fun c => isCode c || c.before args0 about1) = true := by decide +kernel
theorem w_tables : (allAtoms (Jvm.Cond.code x code maxLocals ret :: tables_1)).before args0 about1 = true := by
  rw [allAtoms_all]
  show words1.all (fun c => c.before args0 about1) = true
  refine all_split ?_ w_codes
  rw [w_t1]
set_option maxRecDepth 65536 in
theorem w_case : (Jvm.Cond.and given_1 narrow_1).before args0 about1 = true := by decide +kernel
theorem w_applies : (headSpec (Jvm.Cond.code x code maxLocals ret :: tables_1) room_1).applies x e0.platform about1 = true :=
  (Spec.applies_iff w_frames).mpr ⟨w_running, w_runnable, w_alone, w_named, w_hears, w_ripe, w_room, w_tables⟩
theorem atStart : AtStart classFile x code maxLocals ret World_1 tables_1 room_1 Calls_1 rest_1 Pre_1 launch0 p0 e0 about1 theMethod args0 below0 :=
  ⟨lists_1, trivial, launch0.admits_env _ _ _, launch0.least_env, fairChoices_fair.cas, fairChoices_fair.clock, w_frames, w_args, w_heap, w_applies, trivial, trivial, w_case⟩
end start1
theorem witness_1 : WitnessClaimed_1 := ⟨start1.p0, start1.e0, start1.about1, start1.theMethod, start1.args0, start1.below0, start1.atStart⟩
end Jvm.Pilot.@@N@@
