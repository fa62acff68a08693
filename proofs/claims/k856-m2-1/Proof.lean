import JvmDerived
import JvmDerived.Pilot.@@N@@Statement
import JvmDerived.Pilot.@@N@@Code
set_option linter.unusedVariables false
set_option linter.unusedSimpArgs false
namespace Jvm.RoadKit
open Sem ClassFile Op Lib Jvm.Stand Jvm.Free Jvm.LawKit
section New
variable {p : Program} {l : Launch} {e : Env} {R : Room} {s : State} {m : MethodId} {args : Array Value} {below : List Frame} {meth : Method} {c : Code} {T : State} {locs : List Loc} {cells slots : Nat}
theorem retI (X : Stand p l e R s m args below meth c T locs cells slots) (hx : p.tables.exec = Jvm.exec) {pc : Nat} {Ls : Array Slot} {z : Int32} {rest : List Value} (hret : meth.sig.returnType = some .int) (hd : decode c.code pc = .ok (.ireturn, 1)) {fs : List Frame}
    (hl : ∀ (f : JFrame) (acts : List Action), f.method = m → f.locked = none → f.entered = [] → (doReturn e (T.setTop f) acts (some (.int z))).1 = T.setFrames fs) : Steps p.tables e below (T.setTop (mkF m pc Ls (.int z :: rest))) (T.setFrames fs) := by
  have hm' : T.vm.method? m = some meth := X.method'
  have hn : narrow .int (.int z) = .int z := rfl
  show Steps p.tables e below (T.setTop { method := m, pc := pc, locals := Ls, stack := _ :: rest, locked := none }) _
  jvm_step X.here [X.here.top, hx, hd, hm', hret, hn]
  first | (intro acts; rw [hl _ acts rfl rfl rfl]) | rw [hl _ _ rfl rfl rfl]
  exact Steps.refl _
end New
end Jvm.RoadKit
namespace Jvm.Pilot.@@N@@
open Jvm Jvm.ClassFile Sem Op Lib Jvm.Free Jvm.Stand Jvm.LawKit Jvm.RoadKit Bundle Jvm.Pilot.@@N@@.Jvm.D
abbrev Gx (p : Program) (e : Env) (below : List Frame) (T0 : State) (f0 : JFrame) (T : State) (f : JFrame) : Prop := ∀ t, Steps p.tables e below (T.setTop f) t → Steps p.tables e below (T0.setTop f0) t
theorem own_fldI {args : Array Value} {Z : State} {t : Term} {O n d : String} {a : Addr} {z : Int32} (ev : t.eval args Z none [] Z = some (.ref a)) (h : (Jvm.Cond.eq (Jvm.Term.field t O n d) (Jvm.Term.int z)).value args Z none Z [] = some true) : Fld Z Z.heap a O n d (.int z) := by
  refine Fld.start ?_
  rw [← fld_at (C := O) (n := n) (dd := d) ev]
  exact Cond.eq_int (show (Jvm.Cond.eq (Jvm.Term.field t O n d) (Jvm.Term.int z)).holds args Z none Z [] = true from Cond.before_iff.mpr h) rfl
def sgnF (x : Int32) : Int32 := if ((x &&& (2147483647 : Int32)) % (3 : Int32)) = (0 : Int32) then (0 : Int32) else if ((x &&& (2147483647 : Int32)) % (3 : Int32)) = (1 : Int32) then (1 : Int32) else (-1 : Int32)
def vofF (inv cov con : Addr) (p : Int32) : Addr := if (0 : Int32) < p then cov else if p < (0 : Int32) then con else inv
def withinF (inv cov con a b : Addr) : Addr := if a = inv then inv else if b = inv then inv else if a = cov then b else if b = cov then con else cov
theorem own_sgn (x : Int32) : sgnF x = 0 ∨ sgnF x = 1 ∨ sgnF x = -1 := by
  unfold sgnF
  split
  · exact Or.inl rfl
  · split
    · exact Or.inr (Or.inl rfl)
    · exact Or.inr (Or.inr rfl)
theorem own_v0 (inv cov con : Addr) : vofF inv cov con 0 = inv := by simp [vofF]
theorem own_v1 (inv cov con : Addr) : vofF inv cov con 1 = cov := by
  unfold vofF; rw [if_pos (by decide)]
theorem own_vm (inv cov con : Addr) : vofF inv cov con (-1) = con := by
  unfold vofF; rw [if_neg (by decide), if_pos (by decide)]
theorem own_final (inv cov con : Addr) (h1 : inv ≠ cov) (h2 : inv ≠ con) (h3 : cov ≠ con) (a b : Int32) : withinF inv cov con (vofF inv cov con (sgnF a)) (vofF inv cov con (sgnF b)) = vofF inv cov con (sgnF a * sgnF b) := by
  have e1 : (1 : Int32) * 1 = 1 := by decide
  have e2 : (1 : Int32) * (-1) = -1 := by decide
  have e3 : (-1 : Int32) * 1 = -1 := by decide
  have e4 : (-1 : Int32) * (-1) = 1 := by decide
  have e5 : (0 : Int32) * 0 = 0 := by decide
  have e6 : (0 : Int32) * 1 = 0 := by decide
  have e7 : (0 : Int32) * (-1) = 0 := by decide
  have e8 : (1 : Int32) * 0 = 0 := by decide
  have e9 : (-1 : Int32) * 0 = 0 := by decide
  rcases own_sgn a with ha | ha | ha <;> rcases own_sgn b with hb | hb | hb <;> rw [ha, hb] <;> simp only [e1, e2, e3, e4, e5, e6, e7, e8, e9, own_v0, own_v1, own_vm, withinF] <;> simp [h1, h2, h3, Ne.symm h1, Ne.symm h2, Ne.symm h3]
theorem own_exa {Z : State} {h : Heap} {C : String} {inv cov con : Addr} (p : Int32) (a : Exa Z h inv C) (b : Exa Z h cov C) (c : Exa Z h con C) : Exa Z h (vofF inv cov con p) C := by
  unfold vofF
  split
  · exact b
  · split
    · exact c
    · exact a
theorem d1_0 : decode method_2_code 0 = .ok (.iload_n 0, 1) := by decide +kernel
theorem d1_1 : decode method_2_code 1 = .ok (.ldc 7, 2) := by decide +kernel
theorem d1_3 : decode method_2_code 3 = .ok (.iand, 1) := by decide +kernel
theorem d1_4 : decode method_2_code 4 = .ok (.iconst 3, 1) := by decide +kernel
theorem d1_5 : decode method_2_code 5 = .ok (.irem, 1) := by decide +kernel
theorem d1_6 : decode method_2_code 6 = .ok (.istore_n 1, 1) := by decide +kernel
theorem d1_7 : decode method_2_code 7 = .ok (.iload_n 1, 1) := by decide +kernel
theorem d1_8 : decode method_2_code 8 = .ok (.ifCond .ne 5, 3) := by decide +kernel
theorem d1_11 : decode method_2_code 11 = .ok (.iconst 0, 1) := by decide +kernel
theorem d1_12 : decode method_2_code 12 = .ok (.ireturn, 1) := by decide +kernel
theorem d1_13 : decode method_2_code 13 = .ok (.iload_n 1, 1) := by decide +kernel
theorem d1_14 : decode method_2_code 14 = .ok (.iconst 1, 1) := by decide +kernel
theorem d1_15 : decode method_2_code 15 = .ok (.if_icmp .ne 5, 3) := by decide +kernel
theorem d1_18 : decode method_2_code 18 = .ok (.iconst 1, 1) := by decide +kernel
theorem d1_19 : decode method_2_code 19 = .ok (.ireturn, 1) := by decide +kernel
theorem d1_20 : decode method_2_code 20 = .ok (.iconst (-1), 1) := by decide +kernel
theorem d1_21 : decode method_2_code 21 = .ok (.ireturn, 1) := by decide +kernel
theorem pn_1 : plainName "com/example/serendib/serendib/model/VarianceWithinPinLaw" = true := by first | (simp [plainName, overriddenIn]; done) | decide +kernel
theorem ef_Sgn (m : MethodId) (p1 : Int32) : entryFrame m #[(.int p1)] 2 = mkF m 0 #[.val (.int p1), .unset] [] := by first | (simp [entryFrame, mkF, argsToLocals, Value.category]; done) | rfl
def QSgn (Z : State) (p1 : Int32) (h0 : Heap) (n0 : Nat) (v : Option Value) (h : Heap) (L : List Loc) : Prop := v = some (.int (sgnF p1)) ∧ Fr n0 L ∧ h = h0
set_option maxRecDepth 65536 in
set_option maxHeartbeats 40000000 in
theorem rmSgn (l : Launch) (Z : State) (a0 : Array Value) (hw : ∀ d ∈ tables_1, d.before a0 Z = true) (ws : List Jvm.Cond) (p1 : Int32) (h0 : Heap) (n0 : Nat) (Z0 : n0 ≤ h0.size) :
    MetFree l (⟨"com/example/serendib/serendib/model/VarianceWithinPinLaw", "sign", "(I)I"⟩ : MethodName) (head1 (Jvm.Cond.code (⟨"com/example/serendib/serendib/model/VarianceWithinPinLaw", "sign", "(I)I"⟩ : MethodName) method_2_code 2 (some .int) :: ws) ({ frames := 0, cells := 0, slots := 0, locals := 0 } : Room)) (fun a U => a = #[(.int p1)] ∧ Z.Warmed39 U.vm ∧ U.heap = h0) (fun _ _ _ _ _ => True) (fun _ U o U' => ∃ v L, o = .returned v ∧ QSgn Z p1 h0 n0 v U'.heap L ∧ FrameEnd U o U' L ({ frames := 0, cells := 0, slots := 0, locals := 0 } : Room).cells ({ frames := 0, cells := 0, slots := 0, locals := 0 } : Room).slots) := by
  refine MetFree.of_bodySF (plainFor_of_name pn_1) hisR ?_
  intro p e s m args below meth c s₁ Bd hml0 hP hK
  obtain ⟨rfl, hZ, hh⟩ := hP
  have hx := Bd.exec
  have hby := Bd.bytes
  have hml : c.maxLocals = 2 := hml0
  have hown : s.vm.findClass "com/example/serendib/serendib/model/VarianceWithinPinLaw" = some m.cls := findClass_of_methodNamed Bd.named
  have hnm := (name_of_methodNamed Bd.named Bd.method).1
  have X0 : Stand p l e ({ frames := 0, cells := 0, slots := 0, locals := 0 } : Room) s m #[(.int p1)] below meth c s₁ [] 0 0 := Stand.of_body Bd
  have hs0 : h0 = s.heap := hh.symm
  have e0 : s₁.heap = h0 := by rw [← hh, Bd.state]; rfl
  have N0 := Fr.nil n0
  obtain ⟨f0, hf0⟩ : ∃ f, f = entryFrame m #[(.int p1)] 2 := ⟨_, rfl⟩
  have pre0 : ∀ t, Steps p.tables e below (s₁.setTop f0) t → Steps p.tables e below (s₁.setTop (entryFrame m #[(.int p1)] 2)) t := fun t k => hf0 ▸ k
  have K0 : Gx p e below s₁ f0 s₁ (mkF m 0 #[.val (.int p1), .unset] []) := fun t kt => by rw [hf0]; exact castTop (ef_Sgn m p1) kt
  have K1 : Gx p e below s₁ f0 s₁ (mkF m 8 #[.val (.int p1), .val (.int ((p1 &&& (2147483647 : Int32)) % (3 : Int32)))] [(.int ((p1 &&& (2147483647 : Int32)) % (3 : Int32)))]) := fun t kt => K0 t (by
    show Steps p.tables e below (s₁.setTop (mkF m 0 #[.val (.int p1), .unset] [])) _
    refine XS.iloadN X0.here hx rfl (hb hby d1_0) rfl ?_
    show Steps p.tables e below (s₁.setTop (mkF m 1 #[.val (.int p1), .unset] [(.int p1)])) _
    refine X0.ldcInt hx hown (mvT hZ (hw _ (List.mem_of_getElem? (i := 4) rfl))) (g := (mkF m 1 #[.val (.int p1), .unset] [(.int p1)])) rfl (hb hby d1_1) _ ?_
    show Steps p.tables e below (s₁.setTop (mkF m 3 #[.val (.int p1), .unset] [(.int (2147483647 : Int32)), (.int p1)])) _
    refine XS.iand X0.here hx rfl (hb hby d1_3) rfl ?_
    show Steps p.tables e below (s₁.setTop (mkF m 4 #[.val (.int p1), .unset] [(.int (p1 &&& (2147483647 : Int32)))])) _
    refine XS.iconst X0.here hx rfl (hb hby d1_4) ?_
    show Steps p.tables e below (s₁.setTop (mkF m 5 #[.val (.int p1), .unset] [(.int (3 : Int32)), (.int (p1 &&& (2147483647 : Int32)))])) _
    refine iremM X0 hx rfl (hb hby d1_5) rfl (by decide) ?_
    show Steps p.tables e below (s₁.setTop (mkF m 6 #[.val (.int p1), .unset] [(.int ((p1 &&& (2147483647 : Int32)) % (3 : Int32)))])) _
    refine XS.istoreN X0.here hx rfl (hb hby d1_6) rfl (l' := #[.val (.int p1), .val (.int ((p1 &&& (2147483647 : Int32)) % (3 : Int32)))]) rfl ?_
    show Steps p.tables e below (s₁.setTop (mkF m 7 #[.val (.int p1), .val (.int ((p1 &&& (2147483647 : Int32)) % (3 : Int32)))] [])) _
    refine XS.iloadN X0.here hx rfl (hb hby d1_7) rfl ?_
    exact kt)
  by_cases hb2 : ((p1 &&& (2147483647 : Int32)) % (3 : Int32)) = (0 : Int32)
  · skip
    have K3 : Gx p e below s₁ f0 s₁ (mkF m 12 #[.val (.int p1), .val (.int ((p1 &&& (2147483647 : Int32)) % (3 : Int32)))] [(.int (0 : Int32))]) := fun t kt => K1 t (by
      show Steps p.tables e below (s₁.setTop (mkF m 8 #[.val (.int p1), .val (.int ((p1 &&& (2147483647 : Int32)) % (3 : Int32)))] [(.int ((p1 &&& (2147483647 : Int32)) % (3 : Int32)))])) _
      refine XS.ifNo X0.here hx rfl (hb hby d1_8) rfl ((if0 _ _).trans (teq hb2).2) ?_
      show Steps p.tables e below (s₁.setTop (mkF m 11 #[.val (.int p1), .val (.int ((p1 &&& (2147483647 : Int32)) % (3 : Int32)))] [])) _
      refine XS.iconst X0.here hx rfl (hb hby d1_11) ?_
      exact kt)
    obtain ⟨fs4, hr4, hrun4, hended4, hW4, hsame4⟩ := X0.leave (v := some (.int (0 : Int32))) (fun h => by rw [Bd.returns] at h; cases h)
    refine ⟨_, _, pre0 _ (K3 _ ?_), hrun4, hended4, _, _, rfl, ?_, ⟨_, rfl⟩, hW4, hsame4.mono (by decide) (by decide)⟩
    · exact retI X0 hx Bd.returns (hb hby d1_12) hr4
    · show QSgn Z p1 h0 n0 _ s₁.heap _
      rw [e0]
      exact ⟨(congrArg some (congrArg Value.int (by simp only [sgnF, if_pos hb2]))), N0, rfl⟩
  · skip
    have K5 : Gx p e below s₁ f0 s₁ (mkF m 15 #[.val (.int p1), .val (.int ((p1 &&& (2147483647 : Int32)) % (3 : Int32)))] [(.int (1 : Int32)), (.int ((p1 &&& (2147483647 : Int32)) % (3 : Int32)))]) := fun t kt => K1 t (by
      show Steps p.tables e below (s₁.setTop (mkF m 8 #[.val (.int p1), .val (.int ((p1 &&& (2147483647 : Int32)) % (3 : Int32)))] [(.int ((p1 &&& (2147483647 : Int32)) % (3 : Int32)))])) _
      refine XS.ifYes X0.here hx rfl (pc0 := 8) (pc' := 13) rfl (hb hby d1_8) rfl ((if0 _ _).trans (feq hb2).2) (by decide) (by decide) ?_
      show Steps p.tables e below (s₁.setTop (mkF m 13 #[.val (.int p1), .val (.int ((p1 &&& (2147483647 : Int32)) % (3 : Int32)))] [])) _
      refine XS.iloadN X0.here hx rfl (hb hby d1_13) rfl ?_
      show Steps p.tables e below (s₁.setTop (mkF m 14 #[.val (.int p1), .val (.int ((p1 &&& (2147483647 : Int32)) % (3 : Int32)))] [(.int ((p1 &&& (2147483647 : Int32)) % (3 : Int32)))])) _
      refine XS.iconst X0.here hx rfl (hb hby d1_14) ?_
      exact kt)
    by_cases hb6 : ((p1 &&& (2147483647 : Int32)) % (3 : Int32)) = (1 : Int32)
    · skip
      have K7 : Gx p e below s₁ f0 s₁ (mkF m 19 #[.val (.int p1), .val (.int ((p1 &&& (2147483647 : Int32)) % (3 : Int32)))] [(.int (1 : Int32))]) := fun t kt => K5 t (by
        show Steps p.tables e below (s₁.setTop (mkF m 15 #[.val (.int p1), .val (.int ((p1 &&& (2147483647 : Int32)) % (3 : Int32)))] [(.int (1 : Int32)), (.int ((p1 &&& (2147483647 : Int32)) % (3 : Int32)))])) _
        refine XS.icmpNo X0.here hx rfl (hb hby d1_15) rfl (teq hb6).2 ?_
        show Steps p.tables e below (s₁.setTop (mkF m 18 #[.val (.int p1), .val (.int ((p1 &&& (2147483647 : Int32)) % (3 : Int32)))] [])) _
        refine XS.iconst X0.here hx rfl (hb hby d1_18) ?_
        exact kt)
      obtain ⟨fs8, hr8, hrun8, hended8, hW8, hsame8⟩ := X0.leave (v := some (.int (1 : Int32))) (fun h => by rw [Bd.returns] at h; cases h)
      refine ⟨_, _, pre0 _ (K7 _ ?_), hrun8, hended8, _, _, rfl, ?_, ⟨_, rfl⟩, hW8, hsame8.mono (by decide) (by decide)⟩
      · exact retI X0 hx Bd.returns (hb hby d1_19) hr8
      · show QSgn Z p1 h0 n0 _ s₁.heap _
        rw [e0]
        exact ⟨(congrArg some (congrArg Value.int (by simp only [sgnF, if_neg hb2, if_pos hb6]))), N0, rfl⟩
    · skip
      have K9 : Gx p e below s₁ f0 s₁ (mkF m 21 #[.val (.int p1), .val (.int ((p1 &&& (2147483647 : Int32)) % (3 : Int32)))] [(.int (-1 : Int32))]) := fun t kt => K5 t (by
        show Steps p.tables e below (s₁.setTop (mkF m 15 #[.val (.int p1), .val (.int ((p1 &&& (2147483647 : Int32)) % (3 : Int32)))] [(.int (1 : Int32)), (.int ((p1 &&& (2147483647 : Int32)) % (3 : Int32)))])) _
        refine XS.icmpYes X0.here hx rfl (pc0 := 15) (pc' := 20) rfl (hb hby d1_15) rfl (feq hb6).2 (by decide) (by decide) ?_
        show Steps p.tables e below (s₁.setTop (mkF m 20 #[.val (.int p1), .val (.int ((p1 &&& (2147483647 : Int32)) % (3 : Int32)))] [])) _
        refine XS.iconst X0.here hx rfl (hb hby d1_20) ?_
        exact kt)
      obtain ⟨fs10, hr10, hrun10, hended10, hW10, hsame10⟩ := X0.leave (v := some (.int (-1 : Int32))) (fun h => by rw [Bd.returns] at h; cases h)
      refine ⟨_, _, pre0 _ (K9 _ ?_), hrun10, hended10, _, _, rfl, ?_, ⟨_, rfl⟩, hW10, hsame10.mono (by decide) (by decide)⟩
      · exact retI X0 hx Bd.returns (hb hby d1_21) hr10
      · show QSgn Z p1 h0 n0 _ s₁.heap _
        rw [e0]
        exact ⟨(congrArg some (congrArg Value.int (by simp only [sgnF, if_neg hb2, if_neg hb6]))), N0, rfl⟩
theorem d2_0 : decode method_3_code 0 = .ok (.iload_n 0, 1) := by decide +kernel
theorem d2_1 : decode method_3_code 1 = .ok (.ifCond .le 7, 3) := by decide +kernel
theorem d2_4 : decode method_3_code 4 = .ok (.getstatic 8, 3) := by decide +kernel
theorem d2_7 : decode method_3_code 7 = .ok (.areturn, 1) := by decide +kernel
theorem d2_8 : decode method_3_code 8 = .ok (.iload_n 0, 1) := by decide +kernel
theorem d2_9 : decode method_3_code 9 = .ok (.ifCond .ge 7, 3) := by decide +kernel
theorem d2_12 : decode method_3_code 12 = .ok (.getstatic 14, 3) := by decide +kernel
theorem d2_15 : decode method_3_code 15 = .ok (.areturn, 1) := by decide +kernel
theorem d2_16 : decode method_3_code 16 = .ok (.getstatic 17, 3) := by decide +kernel
theorem d2_19 : decode method_3_code 19 = .ok (.areturn, 1) := by decide +kernel
theorem pn_2 : plainName "com/example/serendib/serendib/model/VarianceWithinPinLaw" = true := by first | (simp [plainName, overriddenIn]; done) | decide +kernel
theorem ef_Ofs (m : MethodId) (p1 : Int32) : entryFrame m #[(.int p1)] 1 = mkF m 0 #[.val (.int p1)] [] := by first | (simp [entryFrame, mkF, argsToLocals, Value.category]; done) | rfl
def QOfs (Z : State) (p1 : Int32) (inv : Addr) (cov : Addr) (con : Addr) (h0 : Heap) (n0 : Nat) (v : Option Value) (h : Heap) (L : List Loc) : Prop := v = some (.ref (vofF inv cov con p1)) ∧ Fr n0 L ∧ h = h0
set_option maxRecDepth 65536 in
set_option maxHeartbeats 40000000 in
theorem rmOfs (l : Launch) (Z : State) (a0 : Array Value) (hw : ∀ d ∈ tables_1, d.before a0 Z = true) (ws : List Jvm.Cond) (p1 : Int32) (inv : Addr) (cov : Addr) (con : Addr) (h0 : Heap) (n0 : Nat) (Z0 : n0 ≤ h0.size) (pr0 : Sta Z h0 "com/example/serendib/serendib/model/TypeParameter$Variance" "INVARIANT" "Lcom/example/serendib/serendib/model/TypeParameter$Variance;" (.ref inv)) (pr1 : Sta Z h0 "com/example/serendib/serendib/model/TypeParameter$Variance" "COVARIANT" "Lcom/example/serendib/serendib/model/TypeParameter$Variance;" (.ref cov)) (pr2 : Sta Z h0 "com/example/serendib/serendib/model/TypeParameter$Variance" "CONTRAVARIANT" "Lcom/example/serendib/serendib/model/TypeParameter$Variance;" (.ref con)) :
    MetFree l (⟨"com/example/serendib/serendib/model/VarianceWithinPinLaw", "ofSign", "(I)Lcom/example/serendib/serendib/model/TypeParameter$Variance;"⟩ : MethodName) (head1 (Jvm.Cond.code (⟨"com/example/serendib/serendib/model/VarianceWithinPinLaw", "ofSign", "(I)Lcom/example/serendib/serendib/model/TypeParameter$Variance;"⟩ : MethodName) method_3_code 1 (some (.object "com/example/serendib/serendib/model/TypeParameter$Variance")) :: ws) ({ frames := 0, cells := 0, slots := 0, locals := 0 } : Room)) (fun a U => a = #[(.int p1)] ∧ Z.Warmed39 U.vm ∧ U.heap = h0) (fun _ _ _ _ _ => True) (fun _ U o U' => ∃ v L, o = .returned v ∧ QOfs Z p1 inv cov con h0 n0 v U'.heap L ∧ FrameEnd U o U' L ({ frames := 0, cells := 0, slots := 0, locals := 0 } : Room).cells ({ frames := 0, cells := 0, slots := 0, locals := 0 } : Room).slots) := by
  refine MetFree.of_bodySF (plainFor_of_name pn_2) hisR ?_
  intro p e s m args below meth c s₁ Bd hml0 hP hK
  obtain ⟨rfl, hZ, hh⟩ := hP
  have hx := Bd.exec
  have hby := Bd.bytes
  have hml : c.maxLocals = 1 := hml0
  have hown : s.vm.findClass "com/example/serendib/serendib/model/VarianceWithinPinLaw" = some m.cls := findClass_of_methodNamed Bd.named
  have hnm := (name_of_methodNamed Bd.named Bd.method).1
  have X0 : Stand p l e ({ frames := 0, cells := 0, slots := 0, locals := 0 } : Room) s m #[(.int p1)] below meth c s₁ [] 0 0 := Stand.of_body Bd
  have hs0 : h0 = s.heap := hh.symm
  have e0 : s₁.heap = h0 := by rw [← hh, Bd.state]; rfl
  have N0 := Fr.nil n0
  obtain ⟨f0, hf0⟩ : ∃ f, f = entryFrame m #[(.int p1)] 1 := ⟨_, rfl⟩
  have pre0 : ∀ t, Steps p.tables e below (s₁.setTop f0) t → Steps p.tables e below (s₁.setTop (entryFrame m #[(.int p1)] 1)) t := fun t k => hf0 ▸ k
  have K0 : Gx p e below s₁ f0 s₁ (mkF m 0 #[.val (.int p1)] []) := fun t kt => by rw [hf0]; exact castTop (ef_Ofs m p1) kt
  have K1 : Gx p e below s₁ f0 s₁ (mkF m 1 #[.val (.int p1)] [(.int p1)]) := fun t kt => K0 t (by
    show Steps p.tables e below (s₁.setTop (mkF m 0 #[.val (.int p1)] [])) _
    refine XS.iloadN X0.here hx rfl (hb hby d2_0) rfl ?_
    exact kt)
  by_cases hb2 : (0 : Int32) < p1
  · skip
    have K3 : Gx p e below s₁ f0 s₁ (mkF m 4 #[.val (.int p1)] []) := fun t kt => K1 t (by
      show Steps p.tables e below (s₁.setTop (mkF m 1 #[.val (.int p1)] [(.int p1)])) _
      refine XS.ifNo X0.here hx rfl (hb hby d2_1) rfl ((if0 _ _).trans (tlt hb2).2.2.2) ?_
      exact kt)
    obtain ⟨T4, X4, e4, st4⟩ := getS2 X0 hx hZ hown (host := "") (Or.inl (hw _ (List.mem_of_getElem? (i := 19) rfl))) Via.refl e0 pr1 (g := (mkF m 4 #[.val (.int p1)] [])) rfl (hb hby d2_4)
    have K5 : Gx p e below s₁ f0 T4 (mkF m 7 #[.val (.int p1)] [(.ref cov)]) := fun t kt => K3 t (st4 t kt)
    obtain ⟨fs6, hr6, hrun6, hended6, hW6, hsame6⟩ := X4.leave (v := some (.ref cov)) (fun h => by rw [Bd.returns] at h; cases h)
    refine ⟨_, _, pre0 _ (K5 _ ?_), hrun6, hended6, _, _, rfl, ?_, ⟨_, rfl⟩, hW6, hsame6.mono (by decide) (by decide)⟩
    · show Steps p.tables e below (T4.setTop (mkF m 7 #[.val (.int p1)] [(.ref cov)])) _
      jvm_step X4.here [X4.here.top, hx, (hb hby d2_7), X4.method', Bd.returns, Value.isRef, FieldType.isReference]
      first | (intro acts; rw [hr6 _ acts rfl rfl rfl]) | rw [hr6 _ _ rfl rfl rfl]
      exact Steps.refl _
    · show QOfs Z p1 inv cov con h0 n0 _ T4.heap _
      rw [e4]
      exact ⟨(congrArg some (congrArg Value.ref (by simp only [vofF, if_pos hb2]))), N0, rfl⟩
  · skip
    have K7 : Gx p e below s₁ f0 s₁ (mkF m 9 #[.val (.int p1)] [(.int p1)]) := fun t kt => K1 t (by
      show Steps p.tables e below (s₁.setTop (mkF m 1 #[.val (.int p1)] [(.int p1)])) _
      refine XS.ifYes X0.here hx rfl (pc0 := 1) (pc' := 8) rfl (hb hby d2_1) rfl ((if0 _ _).trans (flt hb2).2.2.2) (by decide) (by decide) ?_
      show Steps p.tables e below (s₁.setTop (mkF m 8 #[.val (.int p1)] [])) _
      refine XS.iloadN X0.here hx rfl (hb hby d2_8) rfl ?_
      exact kt)
    by_cases hb8 : p1 < (0 : Int32)
    · skip
      have K9 : Gx p e below s₁ f0 s₁ (mkF m 12 #[.val (.int p1)] []) := fun t kt => K7 t (by
        show Steps p.tables e below (s₁.setTop (mkF m 9 #[.val (.int p1)] [(.int p1)])) _
        refine XS.ifNo X0.here hx rfl (hb hby d2_9) rfl ((if0 _ _).trans (tlt hb8).2.1) ?_
        exact kt)
      obtain ⟨T10, X10, e10, st10⟩ := getS2 X0 hx hZ hown (host := "") (Or.inl (hw _ (List.mem_of_getElem? (i := 17) rfl))) Via.refl e0 pr2 (g := (mkF m 12 #[.val (.int p1)] [])) rfl (hb hby d2_12)
      have K11 : Gx p e below s₁ f0 T10 (mkF m 15 #[.val (.int p1)] [(.ref con)]) := fun t kt => K9 t (st10 t kt)
      obtain ⟨fs12, hr12, hrun12, hended12, hW12, hsame12⟩ := X10.leave (v := some (.ref con)) (fun h => by rw [Bd.returns] at h; cases h)
      refine ⟨_, _, pre0 _ (K11 _ ?_), hrun12, hended12, _, _, rfl, ?_, ⟨_, rfl⟩, hW12, hsame12.mono (by decide) (by decide)⟩
      · show Steps p.tables e below (T10.setTop (mkF m 15 #[.val (.int p1)] [(.ref con)])) _
        jvm_step X10.here [X10.here.top, hx, (hb hby d2_15), X10.method', Bd.returns, Value.isRef, FieldType.isReference]
        first | (intro acts; rw [hr12 _ acts rfl rfl rfl]) | rw [hr12 _ _ rfl rfl rfl]
        exact Steps.refl _
      · show QOfs Z p1 inv cov con h0 n0 _ T10.heap _
        rw [e10]
        exact ⟨(congrArg some (congrArg Value.ref (by simp only [vofF, if_neg hb2, if_pos hb8]))), N0, rfl⟩
    · skip
      have K13 : Gx p e below s₁ f0 s₁ (mkF m 16 #[.val (.int p1)] []) := fun t kt => K7 t (by
        show Steps p.tables e below (s₁.setTop (mkF m 9 #[.val (.int p1)] [(.int p1)])) _
        refine XS.ifYes X0.here hx rfl (pc0 := 9) (pc' := 16) rfl (hb hby d2_9) rfl ((if0 _ _).trans (flt hb8).2.1) (by decide) (by decide) ?_
        exact kt)
      obtain ⟨T14, X14, e14, st14⟩ := getS2 X0 hx hZ hown (host := "") (Or.inl (hw _ (List.mem_of_getElem? (i := 8) rfl))) Via.refl e0 pr0 (g := (mkF m 16 #[.val (.int p1)] [])) rfl (hb hby d2_16)
      have K15 : Gx p e below s₁ f0 T14 (mkF m 19 #[.val (.int p1)] [(.ref inv)]) := fun t kt => K13 t (st14 t kt)
      obtain ⟨fs16, hr16, hrun16, hended16, hW16, hsame16⟩ := X14.leave (v := some (.ref inv)) (fun h => by rw [Bd.returns] at h; cases h)
      refine ⟨_, _, pre0 _ (K15 _ ?_), hrun16, hended16, _, _, rfl, ?_, ⟨_, rfl⟩, hW16, hsame16.mono (by decide) (by decide)⟩
      · show Steps p.tables e below (T14.setTop (mkF m 19 #[.val (.int p1)] [(.ref inv)])) _
        jvm_step X14.here [X14.here.top, hx, (hb hby d2_19), X14.method', Bd.returns, Value.isRef, FieldType.isReference]
        first | (intro acts; rw [hr16 _ acts rfl rfl rfl]) | rw [hr16 _ _ rfl rfl rfl]
        exact Steps.refl _
      · show QOfs Z p1 inv cov con h0 n0 _ T14.heap _
        rw [e14]
        exact ⟨(congrArg some (congrArg Value.ref (by simp only [vofF, if_neg hb2, if_neg hb8]))), N0, rfl⟩
theorem d3_0 : decode prog_64_method_4_code 0 = .ok (.aload_n 0, 1) := by decide +kernel
theorem d3_1 : decode prog_64_method_4_code 1 = .ok (.getstatic 3, 3) := by decide +kernel
theorem d3_4 : decode prog_64_method_4_code 4 = .ok (.if_acmp .eq 10, 3) := by decide +kernel
theorem d3_7 : decode prog_64_method_4_code 7 = .ok (.aload_n 1, 1) := by decide +kernel
theorem d3_8 : decode prog_64_method_4_code 8 = .ok (.getstatic 3, 3) := by decide +kernel
theorem d3_11 : decode prog_64_method_4_code 11 = .ok (.if_acmp .ne 10, 3) := by decide +kernel
theorem d3_14 : decode prog_64_method_4_code 14 = .ok (.getstatic 3, 3) := by decide +kernel
theorem d3_17 : decode prog_64_method_4_code 17 = .ok (.astore_n 2, 1) := by decide +kernel
theorem d3_18 : decode prog_64_method_4_code 18 = .ok (.goto 32, 3) := by decide +kernel
theorem d3_21 : decode prog_64_method_4_code 21 = .ok (.aload_n 0, 1) := by decide +kernel
theorem d3_22 : decode prog_64_method_4_code 22 = .ok (.getstatic 7, 3) := by decide +kernel
theorem d3_25 : decode prog_64_method_4_code 25 = .ok (.if_acmp .ne 8, 3) := by decide +kernel
theorem d3_28 : decode prog_64_method_4_code 28 = .ok (.aload_n 1, 1) := by decide +kernel
theorem d3_29 : decode prog_64_method_4_code 29 = .ok (.astore_n 2, 1) := by decide +kernel
theorem d3_30 : decode prog_64_method_4_code 30 = .ok (.goto 20, 3) := by decide +kernel
theorem d3_33 : decode prog_64_method_4_code 33 = .ok (.aload_n 1, 1) := by decide +kernel
theorem d3_34 : decode prog_64_method_4_code 34 = .ok (.getstatic 7, 3) := by decide +kernel
theorem d3_37 : decode prog_64_method_4_code 37 = .ok (.if_acmp .ne 9, 3) := by decide +kernel
theorem d3_40 : decode prog_64_method_4_code 40 = .ok (.getstatic 10, 3) := by decide +kernel
theorem d3_43 : decode prog_64_method_4_code 43 = .ok (.goto 6, 3) := by decide +kernel
theorem d3_46 : decode prog_64_method_4_code 46 = .ok (.getstatic 7, 3) := by decide +kernel
theorem d3_49 : decode prog_64_method_4_code 49 = .ok (.astore_n 2, 1) := by decide +kernel
theorem d3_50 : decode prog_64_method_4_code 50 = .ok (.aload_n 2, 1) := by decide +kernel
theorem d3_51 : decode prog_64_method_4_code 51 = .ok (.areturn, 1) := by decide +kernel
theorem pn_3 : plainName "com/example/serendib/serendib/model/TypeParameter$Variance" = true := by first | (simp [plainName, overriddenIn]; done) | decide +kernel
theorem ef_Wi (m : MethodId) (a1 : Addr) (a2 : Addr) : entryFrame m #[(.ref a1), (.ref a2)] 3 = mkF m 0 #[.val (.ref a1), .val (.ref a2), .unset] [] := by first | (simp [entryFrame, mkF, argsToLocals, Value.category]; done) | rfl
def QWi (Z : State) (a1 : Addr) (a2 : Addr) (inv : Addr) (cov : Addr) (con : Addr) (h0 : Heap) (n0 : Nat) (v : Option Value) (h : Heap) (L : List Loc) : Prop := v = some (.ref (withinF inv cov con a1 a2)) ∧ Fr n0 L ∧ h = h0
set_option maxRecDepth 65536 in
set_option maxHeartbeats 40000000 in
theorem rmWi (l : Launch) (Z : State) (a0 : Array Value) (hw : ∀ d ∈ tables_1, d.before a0 Z = true) (ws : List Jvm.Cond) (a1 : Addr) (a2 : Addr) (inv : Addr) (cov : Addr) (con : Addr) (h0 : Heap) (n0 : Nat) (Z0 : n0 ≤ h0.size) (pr0 : Sta Z h0 "com/example/serendib/serendib/model/TypeParameter$Variance" "INVARIANT" "Lcom/example/serendib/serendib/model/TypeParameter$Variance;" (.ref inv)) (pr1 : Sta Z h0 "com/example/serendib/serendib/model/TypeParameter$Variance" "COVARIANT" "Lcom/example/serendib/serendib/model/TypeParameter$Variance;" (.ref cov)) (pr2 : Sta Z h0 "com/example/serendib/serendib/model/TypeParameter$Variance" "CONTRAVARIANT" "Lcom/example/serendib/serendib/model/TypeParameter$Variance;" (.ref con)) :
    MetFree l (⟨"com/example/serendib/serendib/model/TypeParameter$Variance", "within", "(Lcom/example/serendib/serendib/model/TypeParameter$Variance;)Lcom/example/serendib/serendib/model/TypeParameter$Variance;"⟩ : MethodName) (head1 (Jvm.Cond.code (⟨"com/example/serendib/serendib/model/TypeParameter$Variance", "within", "(Lcom/example/serendib/serendib/model/TypeParameter$Variance;)Lcom/example/serendib/serendib/model/TypeParameter$Variance;"⟩ : MethodName) prog_64_method_4_code 3 (some (.object "com/example/serendib/serendib/model/TypeParameter$Variance")) :: ws) ({ frames := 0, cells := 0, slots := 0, locals := 0 } : Room)) (fun a U => a = #[(.ref a1), (.ref a2)] ∧ Z.Warmed39 U.vm ∧ U.heap = h0) (fun _ _ _ _ _ => True) (fun _ U o U' => ∃ v L, o = .returned v ∧ QWi Z a1 a2 inv cov con h0 n0 v U'.heap L ∧ FrameEnd U o U' L ({ frames := 0, cells := 0, slots := 0, locals := 0 } : Room).cells ({ frames := 0, cells := 0, slots := 0, locals := 0 } : Room).slots) := by
  refine MetFree.of_bodySF (plainFor_of_name pn_3) hisR ?_
  intro p e s m args below meth c s₁ Bd hml0 hP hK
  obtain ⟨rfl, hZ, hh⟩ := hP
  have hx := Bd.exec
  have hby := Bd.bytes
  have hml : c.maxLocals = 3 := hml0
  have hown : s.vm.findClass "com/example/serendib/serendib/model/TypeParameter$Variance" = some m.cls := findClass_of_methodNamed Bd.named
  have hnm := (name_of_methodNamed Bd.named Bd.method).1
  have X0 : Stand p l e ({ frames := 0, cells := 0, slots := 0, locals := 0 } : Room) s m #[(.ref a1), (.ref a2)] below meth c s₁ [] 0 0 := Stand.of_body Bd
  have hs0 : h0 = s.heap := hh.symm
  have e0 : s₁.heap = h0 := by rw [← hh, Bd.state]; rfl
  have N0 := Fr.nil n0
  obtain ⟨f0, hf0⟩ : ∃ f, f = entryFrame m #[(.ref a1), (.ref a2)] 3 := ⟨_, rfl⟩
  have pre0 : ∀ t, Steps p.tables e below (s₁.setTop f0) t → Steps p.tables e below (s₁.setTop (entryFrame m #[(.ref a1), (.ref a2)] 3)) t := fun t k => hf0 ▸ k
  have K0 : Gx p e below s₁ f0 s₁ (mkF m 0 #[.val (.ref a1), .val (.ref a2), .unset] []) := fun t kt => by rw [hf0]; exact castTop (ef_Wi m a1 a2) kt
  have K1 : Gx p e below s₁ f0 s₁ (mkF m 1 #[.val (.ref a1), .val (.ref a2), .unset] [(.ref a1)]) := fun t kt => K0 t (by
    show Steps p.tables e below (s₁.setTop (mkF m 0 #[.val (.ref a1), .val (.ref a2), .unset] [])) _
    refine XS.aloadN X0.here hx rfl (hb hby d3_0) rfl rfl ?_
    exact kt)
  obtain ⟨T2, X2, e2, st2⟩ := getS2 X0 hx hZ hown (host := "") (Or.inl (hw _ (List.mem_of_getElem? (i := 16) rfl))) Via.refl e0 pr0 (g := (mkF m 1 #[.val (.ref a1), .val (.ref a2), .unset] [(.ref a1)])) rfl (hb hby d3_1)
  have K3 : Gx p e below s₁ f0 T2 (mkF m 4 #[.val (.ref a1), .val (.ref a2), .unset] [(.ref inv), (.ref a1)]) := fun t kt => K1 t (st2 t kt)
  by_cases hb4 : a1 = inv
  · skip
    have K5 : Gx p e below s₁ f0 T2 (mkF m 14 #[.val (.ref a1), .val (.ref a2), .unset] []) := fun t kt => K3 t (by
      show Steps p.tables e below (T2.setTop (mkF m 4 #[.val (.ref a1), .val (.ref a2), .unset] [(.ref inv), (.ref a1)])) _
      refine Jvm.RoadKit.acmp (g := (mkF m 4 #[.val (.ref a1), .val (.ref a2), .unset] [(.ref inv), (.ref a1)])) X2 hx rfl rfl rfl (pc0 := 4) (pc' := 14) (same := true) rfl (hb hby d3_4) rfl (decide_eq_true (congrArg Value.ref hb4)) (by decide) (by decide) ?_
      exact kt)
    obtain ⟨T6, X6, e6, st6⟩ := getS2 X2 hx hZ hown (host := "") (Or.inl (hw _ (List.mem_of_getElem? (i := 16) rfl))) Via.refl e2 pr0 (g := (mkF m 14 #[.val (.ref a1), .val (.ref a2), .unset] [])) rfl (hb hby d3_14)
    have K7 : Gx p e below s₁ f0 T6 (mkF m 17 #[.val (.ref a1), .val (.ref a2), .unset] [(.ref inv)]) := fun t kt => K5 t (st6 t kt)
    have K8 : Gx p e below s₁ f0 T6 (mkF m 51 #[.val (.ref a1), .val (.ref a2), .val (.ref inv)] [(.ref inv)]) := fun t kt => K7 t (by
      show Steps p.tables e below (T6.setTop (mkF m 17 #[.val (.ref a1), .val (.ref a2), .unset] [(.ref inv)])) _
      refine XS.astoreN X6.here hx rfl (hb hby d3_17) rfl rfl (l' := #[.val (.ref a1), .val (.ref a2), .val (.ref inv)]) rfl ?_
      show Steps p.tables e below (T6.setTop (mkF m 18 #[.val (.ref a1), .val (.ref a2), .val (.ref inv)] [])) _
      refine XS.goto X6.here hx rfl (pc0 := 18) (pc' := 50) rfl (hb hby d3_18) (by decide) (by decide) ?_
      show Steps p.tables e below (T6.setTop (mkF m 50 #[.val (.ref a1), .val (.ref a2), .val (.ref inv)] [])) _
      refine XS.aloadN X6.here hx rfl (hb hby d3_50) rfl rfl ?_
      exact kt)
    obtain ⟨fs9, hr9, hrun9, hended9, hW9, hsame9⟩ := X6.leave (v := some (.ref inv)) (fun h => by rw [Bd.returns] at h; cases h)
    refine ⟨_, _, pre0 _ (K8 _ ?_), hrun9, hended9, _, _, rfl, ?_, ⟨_, rfl⟩, hW9, hsame9.mono (by decide) (by decide)⟩
    · show Steps p.tables e below (T6.setTop (mkF m 51 #[.val (.ref a1), .val (.ref a2), .val (.ref inv)] [(.ref inv)])) _
      jvm_step X6.here [X6.here.top, hx, (hb hby d3_51), X6.method', Bd.returns, Value.isRef, FieldType.isReference]
      first | (intro acts; rw [hr9 _ acts rfl rfl rfl]) | rw [hr9 _ _ rfl rfl rfl]
      exact Steps.refl _
    · show QWi Z a1 a2 inv cov con h0 n0 _ T6.heap _
      rw [e6]
      exact ⟨(congrArg some (congrArg Value.ref (by simp only [withinF, if_pos hb4]))), N0, rfl⟩
  · skip
    have K10 : Gx p e below s₁ f0 T2 (mkF m 8 #[.val (.ref a1), .val (.ref a2), .unset] [(.ref a2)]) := fun t kt => K3 t (by
      show Steps p.tables e below (T2.setTop (mkF m 4 #[.val (.ref a1), .val (.ref a2), .unset] [(.ref inv), (.ref a1)])) _
      refine Jvm.RoadKit.acmp (g := (mkF m 4 #[.val (.ref a1), .val (.ref a2), .unset] [(.ref inv), (.ref a1)])) X2 hx rfl rfl rfl (pc0 := 4) (pc' := 7) (same := false) rfl (hb hby d3_4) rfl (decide_eq_false fun q => hb4 (Value.ref.inj q)) (by decide) (by decide) ?_
      show Steps p.tables e below (T2.setTop (mkF m 7 #[.val (.ref a1), .val (.ref a2), .unset] [])) _
      refine XS.aloadN X2.here hx rfl (hb hby d3_7) rfl rfl ?_
      exact kt)
    obtain ⟨T11, X11, e11, st11⟩ := getS2 X2 hx hZ hown (host := "") (Or.inl (hw _ (List.mem_of_getElem? (i := 16) rfl))) Via.refl e2 pr0 (g := (mkF m 8 #[.val (.ref a1), .val (.ref a2), .unset] [(.ref a2)])) rfl (hb hby d3_8)
    have K12 : Gx p e below s₁ f0 T11 (mkF m 11 #[.val (.ref a1), .val (.ref a2), .unset] [(.ref inv), (.ref a2)]) := fun t kt => K10 t (st11 t kt)
    by_cases hb13 : a2 = inv
    · skip
      have K14 : Gx p e below s₁ f0 T11 (mkF m 14 #[.val (.ref a1), .val (.ref a2), .unset] []) := fun t kt => K12 t (by
        show Steps p.tables e below (T11.setTop (mkF m 11 #[.val (.ref a1), .val (.ref a2), .unset] [(.ref inv), (.ref a2)])) _
        refine Jvm.RoadKit.acmp (g := (mkF m 11 #[.val (.ref a1), .val (.ref a2), .unset] [(.ref inv), (.ref a2)])) X11 hx rfl rfl rfl (pc0 := 11) (pc' := 14) (same := true) rfl (hb hby d3_11) rfl (decide_eq_true (congrArg Value.ref hb13)) (by decide) (by decide) ?_
        exact kt)
      obtain ⟨T15, X15, e15, st15⟩ := getS2 X11 hx hZ hown (host := "") (Or.inl (hw _ (List.mem_of_getElem? (i := 16) rfl))) Via.refl e11 pr0 (g := (mkF m 14 #[.val (.ref a1), .val (.ref a2), .unset] [])) rfl (hb hby d3_14)
      have K16 : Gx p e below s₁ f0 T15 (mkF m 17 #[.val (.ref a1), .val (.ref a2), .unset] [(.ref inv)]) := fun t kt => K14 t (st15 t kt)
      have K17 : Gx p e below s₁ f0 T15 (mkF m 51 #[.val (.ref a1), .val (.ref a2), .val (.ref inv)] [(.ref inv)]) := fun t kt => K16 t (by
        show Steps p.tables e below (T15.setTop (mkF m 17 #[.val (.ref a1), .val (.ref a2), .unset] [(.ref inv)])) _
        refine XS.astoreN X15.here hx rfl (hb hby d3_17) rfl rfl (l' := #[.val (.ref a1), .val (.ref a2), .val (.ref inv)]) rfl ?_
        show Steps p.tables e below (T15.setTop (mkF m 18 #[.val (.ref a1), .val (.ref a2), .val (.ref inv)] [])) _
        refine XS.goto X15.here hx rfl (pc0 := 18) (pc' := 50) rfl (hb hby d3_18) (by decide) (by decide) ?_
        show Steps p.tables e below (T15.setTop (mkF m 50 #[.val (.ref a1), .val (.ref a2), .val (.ref inv)] [])) _
        refine XS.aloadN X15.here hx rfl (hb hby d3_50) rfl rfl ?_
        exact kt)
      obtain ⟨fs18, hr18, hrun18, hended18, hW18, hsame18⟩ := X15.leave (v := some (.ref inv)) (fun h => by rw [Bd.returns] at h; cases h)
      refine ⟨_, _, pre0 _ (K17 _ ?_), hrun18, hended18, _, _, rfl, ?_, ⟨_, rfl⟩, hW18, hsame18.mono (by decide) (by decide)⟩
      · show Steps p.tables e below (T15.setTop (mkF m 51 #[.val (.ref a1), .val (.ref a2), .val (.ref inv)] [(.ref inv)])) _
        jvm_step X15.here [X15.here.top, hx, (hb hby d3_51), X15.method', Bd.returns, Value.isRef, FieldType.isReference]
        first | (intro acts; rw [hr18 _ acts rfl rfl rfl]) | rw [hr18 _ _ rfl rfl rfl]
        exact Steps.refl _
      · show QWi Z a1 a2 inv cov con h0 n0 _ T15.heap _
        rw [e15]
        exact ⟨(congrArg some (congrArg Value.ref (by simp only [withinF, if_neg hb4, if_pos hb13]))), N0, rfl⟩
    · skip
      have K19 : Gx p e below s₁ f0 T11 (mkF m 22 #[.val (.ref a1), .val (.ref a2), .unset] [(.ref a1)]) := fun t kt => K12 t (by
        show Steps p.tables e below (T11.setTop (mkF m 11 #[.val (.ref a1), .val (.ref a2), .unset] [(.ref inv), (.ref a2)])) _
        refine Jvm.RoadKit.acmp (g := (mkF m 11 #[.val (.ref a1), .val (.ref a2), .unset] [(.ref inv), (.ref a2)])) X11 hx rfl rfl rfl (pc0 := 11) (pc' := 21) (same := false) rfl (hb hby d3_11) rfl (decide_eq_false fun q => hb13 (Value.ref.inj q)) (by decide) (by decide) ?_
        show Steps p.tables e below (T11.setTop (mkF m 21 #[.val (.ref a1), .val (.ref a2), .unset] [])) _
        refine XS.aloadN X11.here hx rfl (hb hby d3_21) rfl rfl ?_
        exact kt)
      obtain ⟨T20, X20, e20, st20⟩ := getS2 X11 hx hZ hown (host := "") (Or.inl (hw _ (List.mem_of_getElem? (i := 21) rfl))) Via.refl e11 pr1 (g := (mkF m 22 #[.val (.ref a1), .val (.ref a2), .unset] [(.ref a1)])) rfl (hb hby d3_22)
      have K21 : Gx p e below s₁ f0 T20 (mkF m 25 #[.val (.ref a1), .val (.ref a2), .unset] [(.ref cov), (.ref a1)]) := fun t kt => K19 t (st20 t kt)
      by_cases hb22 : a1 = cov
      · skip
        have K23 : Gx p e below s₁ f0 T20 (mkF m 51 #[.val (.ref a1), .val (.ref a2), .val (.ref a2)] [(.ref a2)]) := fun t kt => K21 t (by
          show Steps p.tables e below (T20.setTop (mkF m 25 #[.val (.ref a1), .val (.ref a2), .unset] [(.ref cov), (.ref a1)])) _
          refine Jvm.RoadKit.acmp (g := (mkF m 25 #[.val (.ref a1), .val (.ref a2), .unset] [(.ref cov), (.ref a1)])) X20 hx rfl rfl rfl (pc0 := 25) (pc' := 28) (same := true) rfl (hb hby d3_25) rfl (decide_eq_true (congrArg Value.ref hb22)) (by decide) (by decide) ?_
          show Steps p.tables e below (T20.setTop (mkF m 28 #[.val (.ref a1), .val (.ref a2), .unset] [])) _
          refine XS.aloadN X20.here hx rfl (hb hby d3_28) rfl rfl ?_
          show Steps p.tables e below (T20.setTop (mkF m 29 #[.val (.ref a1), .val (.ref a2), .unset] [(.ref a2)])) _
          refine XS.astoreN X20.here hx rfl (hb hby d3_29) rfl rfl (l' := #[.val (.ref a1), .val (.ref a2), .val (.ref a2)]) rfl ?_
          show Steps p.tables e below (T20.setTop (mkF m 30 #[.val (.ref a1), .val (.ref a2), .val (.ref a2)] [])) _
          refine XS.goto X20.here hx rfl (pc0 := 30) (pc' := 50) rfl (hb hby d3_30) (by decide) (by decide) ?_
          show Steps p.tables e below (T20.setTop (mkF m 50 #[.val (.ref a1), .val (.ref a2), .val (.ref a2)] [])) _
          refine XS.aloadN X20.here hx rfl (hb hby d3_50) rfl rfl ?_
          exact kt)
        obtain ⟨fs24, hr24, hrun24, hended24, hW24, hsame24⟩ := X20.leave (v := some (.ref a2)) (fun h => by rw [Bd.returns] at h; cases h)
        refine ⟨_, _, pre0 _ (K23 _ ?_), hrun24, hended24, _, _, rfl, ?_, ⟨_, rfl⟩, hW24, hsame24.mono (by decide) (by decide)⟩
        · show Steps p.tables e below (T20.setTop (mkF m 51 #[.val (.ref a1), .val (.ref a2), .val (.ref a2)] [(.ref a2)])) _
          jvm_step X20.here [X20.here.top, hx, (hb hby d3_51), X20.method', Bd.returns, Value.isRef, FieldType.isReference]
          first | (intro acts; rw [hr24 _ acts rfl rfl rfl]) | rw [hr24 _ _ rfl rfl rfl]
          exact Steps.refl _
        · show QWi Z a1 a2 inv cov con h0 n0 _ T20.heap _
          rw [e20]
          exact ⟨(congrArg some (congrArg Value.ref (by simp only [withinF, if_neg hb4, if_neg hb13, if_pos hb22]))), N0, rfl⟩
      · skip
        have K25 : Gx p e below s₁ f0 T20 (mkF m 34 #[.val (.ref a1), .val (.ref a2), .unset] [(.ref a2)]) := fun t kt => K21 t (by
          show Steps p.tables e below (T20.setTop (mkF m 25 #[.val (.ref a1), .val (.ref a2), .unset] [(.ref cov), (.ref a1)])) _
          refine Jvm.RoadKit.acmp (g := (mkF m 25 #[.val (.ref a1), .val (.ref a2), .unset] [(.ref cov), (.ref a1)])) X20 hx rfl rfl rfl (pc0 := 25) (pc' := 33) (same := false) rfl (hb hby d3_25) rfl (decide_eq_false fun q => hb22 (Value.ref.inj q)) (by decide) (by decide) ?_
          show Steps p.tables e below (T20.setTop (mkF m 33 #[.val (.ref a1), .val (.ref a2), .unset] [])) _
          refine XS.aloadN X20.here hx rfl (hb hby d3_33) rfl rfl ?_
          exact kt)
        obtain ⟨T26, X26, e26, st26⟩ := getS2 X20 hx hZ hown (host := "") (Or.inl (hw _ (List.mem_of_getElem? (i := 21) rfl))) Via.refl e20 pr1 (g := (mkF m 34 #[.val (.ref a1), .val (.ref a2), .unset] [(.ref a2)])) rfl (hb hby d3_34)
        have K27 : Gx p e below s₁ f0 T26 (mkF m 37 #[.val (.ref a1), .val (.ref a2), .unset] [(.ref cov), (.ref a2)]) := fun t kt => K25 t (st26 t kt)
        by_cases hb28 : a2 = cov
        · skip
          have K29 : Gx p e below s₁ f0 T26 (mkF m 40 #[.val (.ref a1), .val (.ref a2), .unset] []) := fun t kt => K27 t (by
            show Steps p.tables e below (T26.setTop (mkF m 37 #[.val (.ref a1), .val (.ref a2), .unset] [(.ref cov), (.ref a2)])) _
            refine Jvm.RoadKit.acmp (g := (mkF m 37 #[.val (.ref a1), .val (.ref a2), .unset] [(.ref cov), (.ref a2)])) X26 hx rfl rfl rfl (pc0 := 37) (pc' := 40) (same := true) rfl (hb hby d3_37) rfl (decide_eq_true (congrArg Value.ref hb28)) (by decide) (by decide) ?_
            exact kt)
          obtain ⟨T30, X30, e30, st30⟩ := getS2 X26 hx hZ hown (host := "") (Or.inl (hw _ (List.mem_of_getElem? (i := 22) rfl))) Via.refl e26 pr2 (g := (mkF m 40 #[.val (.ref a1), .val (.ref a2), .unset] [])) rfl (hb hby d3_40)
          have K31 : Gx p e below s₁ f0 T30 (mkF m 43 #[.val (.ref a1), .val (.ref a2), .unset] [(.ref con)]) := fun t kt => K29 t (st30 t kt)
          have K32 : Gx p e below s₁ f0 T30 (mkF m 51 #[.val (.ref a1), .val (.ref a2), .val (.ref con)] [(.ref con)]) := fun t kt => K31 t (by
            show Steps p.tables e below (T30.setTop (mkF m 43 #[.val (.ref a1), .val (.ref a2), .unset] [(.ref con)])) _
            refine XS.goto X30.here hx rfl (pc0 := 43) (pc' := 49) rfl (hb hby d3_43) (by decide) (by decide) ?_
            show Steps p.tables e below (T30.setTop (mkF m 49 #[.val (.ref a1), .val (.ref a2), .unset] [(.ref con)])) _
            refine XS.astoreN X30.here hx rfl (hb hby d3_49) rfl rfl (l' := #[.val (.ref a1), .val (.ref a2), .val (.ref con)]) rfl ?_
            show Steps p.tables e below (T30.setTop (mkF m 50 #[.val (.ref a1), .val (.ref a2), .val (.ref con)] [])) _
            refine XS.aloadN X30.here hx rfl (hb hby d3_50) rfl rfl ?_
            exact kt)
          obtain ⟨fs33, hr33, hrun33, hended33, hW33, hsame33⟩ := X30.leave (v := some (.ref con)) (fun h => by rw [Bd.returns] at h; cases h)
          refine ⟨_, _, pre0 _ (K32 _ ?_), hrun33, hended33, _, _, rfl, ?_, ⟨_, rfl⟩, hW33, hsame33.mono (by decide) (by decide)⟩
          · show Steps p.tables e below (T30.setTop (mkF m 51 #[.val (.ref a1), .val (.ref a2), .val (.ref con)] [(.ref con)])) _
            jvm_step X30.here [X30.here.top, hx, (hb hby d3_51), X30.method', Bd.returns, Value.isRef, FieldType.isReference]
            first | (intro acts; rw [hr33 _ acts rfl rfl rfl]) | rw [hr33 _ _ rfl rfl rfl]
            exact Steps.refl _
          · show QWi Z a1 a2 inv cov con h0 n0 _ T30.heap _
            rw [e30]
            exact ⟨(congrArg some (congrArg Value.ref (by simp only [withinF, if_neg hb4, if_neg hb13, if_neg hb22, if_pos hb28]))), N0, rfl⟩
        · skip
          have K34 : Gx p e below s₁ f0 T26 (mkF m 46 #[.val (.ref a1), .val (.ref a2), .unset] []) := fun t kt => K27 t (by
            show Steps p.tables e below (T26.setTop (mkF m 37 #[.val (.ref a1), .val (.ref a2), .unset] [(.ref cov), (.ref a2)])) _
            refine Jvm.RoadKit.acmp (g := (mkF m 37 #[.val (.ref a1), .val (.ref a2), .unset] [(.ref cov), (.ref a2)])) X26 hx rfl rfl rfl (pc0 := 37) (pc' := 46) (same := false) rfl (hb hby d3_37) rfl (decide_eq_false fun q => hb28 (Value.ref.inj q)) (by decide) (by decide) ?_
            exact kt)
          obtain ⟨T35, X35, e35, st35⟩ := getS2 X26 hx hZ hown (host := "") (Or.inl (hw _ (List.mem_of_getElem? (i := 21) rfl))) Via.refl e26 pr1 (g := (mkF m 46 #[.val (.ref a1), .val (.ref a2), .unset] [])) rfl (hb hby d3_46)
          have K36 : Gx p e below s₁ f0 T35 (mkF m 49 #[.val (.ref a1), .val (.ref a2), .unset] [(.ref cov)]) := fun t kt => K34 t (st35 t kt)
          have K37 : Gx p e below s₁ f0 T35 (mkF m 51 #[.val (.ref a1), .val (.ref a2), .val (.ref cov)] [(.ref cov)]) := fun t kt => K36 t (by
            show Steps p.tables e below (T35.setTop (mkF m 49 #[.val (.ref a1), .val (.ref a2), .unset] [(.ref cov)])) _
            refine XS.astoreN X35.here hx rfl (hb hby d3_49) rfl rfl (l' := #[.val (.ref a1), .val (.ref a2), .val (.ref cov)]) rfl ?_
            show Steps p.tables e below (T35.setTop (mkF m 50 #[.val (.ref a1), .val (.ref a2), .val (.ref cov)] [])) _
            refine XS.aloadN X35.here hx rfl (hb hby d3_50) rfl rfl ?_
            exact kt)
          obtain ⟨fs38, hr38, hrun38, hended38, hW38, hsame38⟩ := X35.leave (v := some (.ref cov)) (fun h => by rw [Bd.returns] at h; cases h)
          refine ⟨_, _, pre0 _ (K37 _ ?_), hrun38, hended38, _, _, rfl, ?_, ⟨_, rfl⟩, hW38, hsame38.mono (by decide) (by decide)⟩
          · show Steps p.tables e below (T35.setTop (mkF m 51 #[.val (.ref a1), .val (.ref a2), .val (.ref cov)] [(.ref cov)])) _
            jvm_step X35.here [X35.here.top, hx, (hb hby d3_51), X35.method', Bd.returns, Value.isRef, FieldType.isReference]
            first | (intro acts; rw [hr38 _ acts rfl rfl rfl]) | rw [hr38 _ _ rfl rfl rfl]
            exact Steps.refl _
          · show QWi Z a1 a2 inv cov con h0 n0 _ T35.heap _
            rw [e35]
            exact ⟨(congrArg some (congrArg Value.ref (by simp only [withinF, if_neg hb4, if_neg hb13, if_neg hb22, if_neg hb28]))), N0, rfl⟩
theorem pn_0 : plainName "com/example/serendib/serendib/model/VarianceWithinPinLaw" = true := by first | (simp [plainName, overriddenIn]; done) | decide +kernel
theorem pd__I_I : parseMethodDescriptor "(I)I" = some ⟨[.int], some .int⟩ := by decide +kernel
theorem pd__I_Lcom_example_serendib_serendib_model_TypeParameter_Variance_ : parseMethodDescriptor "(I)Lcom/example/serendib/serendib/model/TypeParameter$Variance;" = some ⟨[.int], some (.object "com/example/serendib/serendib/model/TypeParameter$Variance")⟩ := by decide +kernel
theorem pd__Lcom_example_serendib_serendib_model_TypeParameter_Variance__Lcom_example_serendib_serendib_model_TypeParameter_Variance_ : parseMethodDescriptor "(Lcom/example/serendib/serendib/model/TypeParameter$Variance;)Lcom/example/serendib/serendib/model/TypeParameter$Variance;" = some ⟨[(.object "com/example/serendib/serendib/model/TypeParameter$Variance")], some (.object "com/example/serendib/serendib/model/TypeParameter$Variance")⟩ := by decide +kernel
theorem ef_0 (m : MethodId) (p1 : Int32) (p2 : Int32) : entryFrame m #[(.int p1), (.int p2)] maxLocals = mkF m 0 #[.val (.int p1), .val (.int p2), .unset, .unset, .unset, .unset, .unset] [] := by first | (simp [entryFrame, mkF, argsToLocals, Value.category, maxLocals]; done) | rfl
def Q0 (Z : State) (p1 : Int32) (p2 : Int32) (inv : Addr) (cov : Addr) (con : Addr) (h0 : Heap) (n0 : Nat) (v : Option Value) (h : Heap) (L : List Loc) : Prop := v = some (.int (1 : Int32)) ∧ Fr n0 L
set_option maxRecDepth 65536 in
set_option maxHeartbeats 40000000 in
theorem rm0 (l : Launch) (Z : State) (a0 : Array Value) (hw : ∀ d ∈ tables_1, d.before a0 Z = true) (ws : List Jvm.Cond) (p1 : Int32) (p2 : Int32) (inv : Addr) (cov : Addr) (con : Addr) (h0 : Heap) (n0 : Nat) (Z0 : n0 ≤ h0.size) (pr0 : Sta Z h0 "com/example/serendib/serendib/model/TypeParameter$Variance" "INVARIANT" "Lcom/example/serendib/serendib/model/TypeParameter$Variance;" (.ref inv)) (pr1 : Sta Z h0 "com/example/serendib/serendib/model/TypeParameter$Variance" "COVARIANT" "Lcom/example/serendib/serendib/model/TypeParameter$Variance;" (.ref cov)) (pr2 : Sta Z h0 "com/example/serendib/serendib/model/TypeParameter$Variance" "CONTRAVARIANT" "Lcom/example/serendib/serendib/model/TypeParameter$Variance;" (.ref con)) (pr3 : Exa Z h0 inv "com/example/serendib/serendib/model/TypeParameter$Variance") (pr4 : Exa Z h0 cov "com/example/serendib/serendib/model/TypeParameter$Variance") (pr5 : Exa Z h0 con "com/example/serendib/serendib/model/TypeParameter$Variance") (pr6 : inv ≠ cov) (pr7 : inv ≠ con) (pr8 : cov ≠ con) :
    MetFree l x (head1 (Jvm.Cond.code x code maxLocals ret :: ws) room_1) (fun a U => a = #[(.int p1), (.int p2)] ∧ Z.Warmed39 U.vm ∧ U.heap = h0) (fun _ _ _ _ _ => True) (fun _ U o U' => ∃ v L, o = .returned v ∧ Q0 Z p1 p2 inv cov con h0 n0 v U'.heap L ∧ FrameEnd U o U' L room_1.cells room_1.slots) := by
  refine MetFree.of_bodySF (plainFor_of_name pn_0) hisR ?_
  intro p e s m args below meth c s₁ Bd hml0 hP hK
  obtain ⟨rfl, hZ, hh⟩ := hP
  have hx := Bd.exec
  have hby := Bd.bytes
  have hml : c.maxLocals = 7 := hml0
  have hown : s.vm.findClass "com/example/serendib/serendib/model/VarianceWithinPinLaw" = some m.cls := findClass_of_methodNamed Bd.named
  have hnm := (name_of_methodNamed Bd.named Bd.method).1
  have X0 : Stand p l e room_1 s m #[(.int p1), (.int p2)] below meth c s₁ [] 0 0 := Stand.of_body Bd
  have hs0 : h0 = s.heap := hh.symm
  have e0 : s₁.heap = h0 := by rw [← hh, Bd.state]; rfl
  have N0 := Fr.nil n0
  obtain ⟨f0, hf0⟩ : ∃ f, f = entryFrame m #[(.int p1), (.int p2)] maxLocals := ⟨_, rfl⟩
  have pre0 : ∀ t, Steps p.tables e below (s₁.setTop f0) t → Steps p.tables e below (s₁.setTop (entryFrame m #[(.int p1), (.int p2)] maxLocals)) t := fun t k => hf0 ▸ k
  have K0 : Gx p e below s₁ f0 s₁ (mkF m 0 #[.val (.int p1), .val (.int p2), .unset, .unset, .unset, .unset, .unset] []) := fun t kt => by rw [hf0]; exact castTop (ef_0 m p1 p2) kt
  have K1 : Gx p e below s₁ f0 s₁ (mkF m 1 #[.val (.int p1), .val (.int p2), .unset, .unset, .unset, .unset, .unset] [(.int p1)]) := fun t kt => K0 t (by
    show Steps p.tables e below (s₁.setTop (mkF m 0 #[.val (.int p1), .val (.int p2), .unset, .unset, .unset, .unset, .unset] [])) _
    refine XS.iloadN X0.here hx rfl (hb hby at_0) rfl ?_
    exact kt)
  obtain ⟨_, _, ⟨T2, L2, k2, n2⟩, -, X2', ⟨Lc2, hQ2, l2, y2, z2⟩, st2⟩ := Jvm.LawKit.callS X0 hx (y := (⟨"com/example/serendib/serendib/model/VarianceWithinPinLaw", "sign", "(I)I"⟩ : MethodName)) hown (mvT hZ (hw _ (List.mem_of_getElem? (i := 0) rfl))) (mvT hZ (hw _ (List.mem_of_getElem? (i := 1) rfl))) (mvT hZ (hw _ (List.mem_of_getElem? (i := 2) rfl))) (mvT hZ (hw _ (List.mem_of_getElem? (i := 3) rfl))) (by decide) (backOf (W := 0) (rmSgn l Z a0 hw [] p1 h0 n0 (Nat.le_trans Z0 (Keep.refl h0 []).1) ) hZ (hw _ (List.mem_of_getElem? (i := 3) rfl)) (hw _ (List.mem_of_getElem? (i := 2) rfl)) (by decide) (by decide)) (g := (mkF m 1 #[.val (.int p1), .val (.int p2), .unset, .unset, .unset, .unset, .unset] [(.int p1)])) rfl (by rw [hml]; rfl) (argsL := [(.int p1)]) (rest := []) (lenOf pd__I_I rfl) rfl (by show 2 * 0 + _ ≤ _; exact Nat.le_of_eq rfl) (hb hby at_1) (fun _ _ => ⟨rfl, e0, (by decide : 0 + 0 ≤ _), (by decide : 0 + 0 ≤ _)⟩)
  dsimp only [Pt.U, Pt.locs, Pt.cells, Pt.slots] at X2' l2 y2 z2 st2 hQ2
  subst l2 y2 z2
  obtain ⟨rfl, N2q, e2⟩ := hQ2
  obtain ⟨lc2, X2, N2⟩ : ∃ lc, Stand p l e room_1 s m #[(.int p1), (.int p2)] below meth c T2 lc 0 0 ∧ Fr n0 lc := ⟨_, X2', Fr.app N0 N2q⟩
  have K3 : Gx p e below s₁ f0 T2 (mkF m 4 #[.val (.int p1), .val (.int p2), .unset, .unset, .unset, .unset, .unset] [(.int (sgnF p1))]) := fun t kt => K1 t (st2 t kt)
  obtain ⟨v4, hv4⟩ : ∃ z : Int32, z = (sgnF p1) := ⟨_, rfl⟩
  rw [← hv4] at K3
  have K5 : Gx p e below s₁ f0 T2 (mkF m 6 #[.val (.int p1), .val (.int p2), .val (.int v4), .unset, .unset, .unset, .unset] [(.int p2)]) := fun t kt => K3 t (by
    show Steps p.tables e below (T2.setTop (mkF m 4 #[.val (.int p1), .val (.int p2), .unset, .unset, .unset, .unset, .unset] [(.int v4)])) _
    refine XS.istoreN X2.here hx rfl (hb hby at_4) rfl (l' := #[.val (.int p1), .val (.int p2), .val (.int v4), .unset, .unset, .unset, .unset]) rfl ?_
    show Steps p.tables e below (T2.setTop (mkF m 5 #[.val (.int p1), .val (.int p2), .val (.int v4), .unset, .unset, .unset, .unset] [])) _
    refine XS.iloadN X2.here hx rfl (hb hby at_5) rfl ?_
    exact kt)
  obtain ⟨_, _, ⟨T6, L6, k6, n6⟩, -, X6', ⟨Lc6, hQ6, l6, y6, z6⟩, st6⟩ := Jvm.LawKit.callS X2 hx (y := (⟨"com/example/serendib/serendib/model/VarianceWithinPinLaw", "sign", "(I)I"⟩ : MethodName)) hown (mvT hZ (hw _ (List.mem_of_getElem? (i := 0) rfl))) (mvT hZ (hw _ (List.mem_of_getElem? (i := 1) rfl))) (mvT hZ (hw _ (List.mem_of_getElem? (i := 2) rfl))) (mvT hZ (hw _ (List.mem_of_getElem? (i := 3) rfl))) (by decide) (backOf (W := 0) (rmSgn l Z a0 hw [] p2 h0 n0 (Nat.le_trans Z0 (Keep.refl h0 []).1) ) hZ (hw _ (List.mem_of_getElem? (i := 3) rfl)) (hw _ (List.mem_of_getElem? (i := 2) rfl)) (by decide) (by decide)) (g := (mkF m 6 #[.val (.int p1), .val (.int p2), .val (.int v4), .unset, .unset, .unset, .unset] [(.int p2)])) rfl (by rw [hml]; rfl) (argsL := [(.int p2)]) (rest := []) (lenOf pd__I_I rfl) rfl (by show 2 * 0 + _ ≤ _; exact Nat.le_of_eq rfl) (hb hby at_6) (fun _ _ => ⟨rfl, e2, (by decide : 0 + 0 ≤ _), (by decide : 0 + 0 ≤ _)⟩)
  dsimp only [Pt.U, Pt.locs, Pt.cells, Pt.slots] at X6' l6 y6 z6 st6 hQ6
  subst l6 y6 z6
  obtain ⟨rfl, N6q, e6⟩ := hQ6
  obtain ⟨lc6, X6, N6⟩ : ∃ lc, Stand p l e room_1 s m #[(.int p1), (.int p2)] below meth c T6 lc 0 0 ∧ Fr n0 lc := ⟨_, X6', Fr.app N2 N6q⟩
  have K7 : Gx p e below s₁ f0 T6 (mkF m 9 #[.val (.int p1), .val (.int p2), .val (.int v4), .unset, .unset, .unset, .unset] [(.int (sgnF p2))]) := fun t kt => K5 t (st6 t kt)
  obtain ⟨v8, hv8⟩ : ∃ z : Int32, z = (sgnF p2) := ⟨_, rfl⟩
  rw [← hv8] at K7
  have K9 : Gx p e below s₁ f0 T6 (mkF m 11 #[.val (.int p1), .val (.int p2), .val (.int v4), .val (.int v8), .unset, .unset, .unset] [(.int v4)]) := fun t kt => K7 t (by
    show Steps p.tables e below (T6.setTop (mkF m 9 #[.val (.int p1), .val (.int p2), .val (.int v4), .unset, .unset, .unset, .unset] [(.int v8)])) _
    refine XS.istoreN X6.here hx rfl (hb hby at_9) rfl (l' := #[.val (.int p1), .val (.int p2), .val (.int v4), .val (.int v8), .unset, .unset, .unset]) rfl ?_
    show Steps p.tables e below (T6.setTop (mkF m 10 #[.val (.int p1), .val (.int p2), .val (.int v4), .val (.int v8), .unset, .unset, .unset] [])) _
    refine XS.iloadN X6.here hx rfl (hb hby at_10) rfl ?_
    exact kt)
  obtain ⟨_, _, ⟨T10, L10, k10, n10⟩, -, X10', ⟨Lc10, hQ10, l10, y10, z10⟩, st10⟩ := Jvm.LawKit.callS X6 hx (y := (⟨"com/example/serendib/serendib/model/VarianceWithinPinLaw", "ofSign", "(I)Lcom/example/serendib/serendib/model/TypeParameter$Variance;"⟩ : MethodName)) hown (mvT hZ (hw _ (List.mem_of_getElem? (i := 5) rfl))) (mvT hZ (hw _ (List.mem_of_getElem? (i := 6) rfl))) (mvT hZ (hw _ (List.mem_of_getElem? (i := 2) rfl))) (mvT hZ (hw _ (List.mem_of_getElem? (i := 7) rfl))) (by decide) (backOf (W := 0) (rmOfs l Z a0 hw [] v4 inv cov con h0 n0 (Nat.le_trans Z0 (Keep.refl h0 []).1) pr0 pr1 pr2) hZ (hw _ (List.mem_of_getElem? (i := 7) rfl)) (hw _ (List.mem_of_getElem? (i := 2) rfl)) (by decide) (by decide)) (g := (mkF m 11 #[.val (.int p1), .val (.int p2), .val (.int v4), .val (.int v8), .unset, .unset, .unset] [(.int v4)])) rfl (by rw [hml]; rfl) (argsL := [(.int v4)]) (rest := []) (lenOf pd__I_Lcom_example_serendib_serendib_model_TypeParameter_Variance_ rfl) rfl (by show 2 * 0 + _ ≤ _; exact Nat.le_of_eq rfl) (hb hby at_11) (fun _ _ => ⟨rfl, e6, (by decide : 0 + 0 ≤ _), (by decide : 0 + 0 ≤ _)⟩)
  dsimp only [Pt.U, Pt.locs, Pt.cells, Pt.slots] at X10' l10 y10 z10 st10 hQ10
  subst l10 y10 z10
  obtain ⟨rfl, N10q, e10⟩ := hQ10
  obtain ⟨lc10, X10, N10⟩ : ∃ lc, Stand p l e room_1 s m #[(.int p1), (.int p2)] below meth c T10 lc 0 0 ∧ Fr n0 lc := ⟨_, X10', Fr.app N6 N10q⟩
  have K11 : Gx p e below s₁ f0 T10 (mkF m 14 #[.val (.int p1), .val (.int p2), .val (.int v4), .val (.int v8), .unset, .unset, .unset] [(.ref (vofF inv cov con v4))]) := fun t kt => K9 t (st10 t kt)
  obtain ⟨v12, hv12⟩ : ∃ z : Addr, z = (vofF inv cov con v4) := ⟨_, rfl⟩
  rw [← hv12] at K11
  have Ep : Exa Z h0 v12 "com/example/serendib/serendib/model/TypeParameter$Variance" := by rw [hv12]; exact own_exa _ pr3 pr4 pr5
  have K13 : Gx p e below s₁ f0 T10 (mkF m 17 #[.val (.int p1), .val (.int p2), .val (.int v4), .val (.int v8), .val (.ref v12), .unset, .unset] [(.int v8)]) := fun t kt => K11 t (by
    show Steps p.tables e below (T10.setTop (mkF m 14 #[.val (.int p1), .val (.int p2), .val (.int v4), .val (.int v8), .unset, .unset, .unset] [(.ref v12)])) _
    refine XS.astore X10.here hx rfl (hb hby at_14) rfl rfl (l' := #[.val (.int p1), .val (.int p2), .val (.int v4), .val (.int v8), .val (.ref v12), .unset, .unset]) rfl ?_
    show Steps p.tables e below (T10.setTop (mkF m 16 #[.val (.int p1), .val (.int p2), .val (.int v4), .val (.int v8), .val (.ref v12), .unset, .unset] [])) _
    refine XS.iloadN X10.here hx rfl (hb hby at_16) rfl ?_
    exact kt)
  obtain ⟨_, _, ⟨T14, L14, k14, n14⟩, -, X14', ⟨Lc14, hQ14, l14, y14, z14⟩, st14⟩ := Jvm.LawKit.callS X10 hx (y := (⟨"com/example/serendib/serendib/model/VarianceWithinPinLaw", "ofSign", "(I)Lcom/example/serendib/serendib/model/TypeParameter$Variance;"⟩ : MethodName)) hown (mvT hZ (hw _ (List.mem_of_getElem? (i := 5) rfl))) (mvT hZ (hw _ (List.mem_of_getElem? (i := 6) rfl))) (mvT hZ (hw _ (List.mem_of_getElem? (i := 2) rfl))) (mvT hZ (hw _ (List.mem_of_getElem? (i := 7) rfl))) (by decide) (backOf (W := 0) (rmOfs l Z a0 hw [] v8 inv cov con h0 n0 (Nat.le_trans Z0 (Keep.refl h0 []).1) pr0 pr1 pr2) hZ (hw _ (List.mem_of_getElem? (i := 7) rfl)) (hw _ (List.mem_of_getElem? (i := 2) rfl)) (by decide) (by decide)) (g := (mkF m 17 #[.val (.int p1), .val (.int p2), .val (.int v4), .val (.int v8), .val (.ref v12), .unset, .unset] [(.int v8)])) rfl (by rw [hml]; rfl) (argsL := [(.int v8)]) (rest := []) (lenOf pd__I_Lcom_example_serendib_serendib_model_TypeParameter_Variance_ rfl) rfl (by show 2 * 0 + _ ≤ _; exact Nat.le_of_eq rfl) (hb hby at_17) (fun _ _ => ⟨rfl, e10, (by decide : 0 + 0 ≤ _), (by decide : 0 + 0 ≤ _)⟩)
  dsimp only [Pt.U, Pt.locs, Pt.cells, Pt.slots] at X14' l14 y14 z14 st14 hQ14
  subst l14 y14 z14
  obtain ⟨rfl, N14q, e14⟩ := hQ14
  obtain ⟨lc14, X14, N14⟩ : ∃ lc, Stand p l e room_1 s m #[(.int p1), (.int p2)] below meth c T14 lc 0 0 ∧ Fr n0 lc := ⟨_, X14', Fr.app N10 N14q⟩
  have K15 : Gx p e below s₁ f0 T14 (mkF m 20 #[.val (.int p1), .val (.int p2), .val (.int v4), .val (.int v8), .val (.ref v12), .unset, .unset] [(.ref (vofF inv cov con v8))]) := fun t kt => K13 t (st14 t kt)
  obtain ⟨v16, hv16⟩ : ∃ z : Addr, z = (vofF inv cov con v8) := ⟨_, rfl⟩
  rw [← hv16] at K15
  have K17 : Gx p e below s₁ f0 T14 (mkF m 25 #[.val (.int p1), .val (.int p2), .val (.int v4), .val (.int v8), .val (.ref v12), .val (.ref v16), .unset] [(.int (v4 * v8))]) := fun t kt => K15 t (by
    show Steps p.tables e below (T14.setTop (mkF m 20 #[.val (.int p1), .val (.int p2), .val (.int v4), .val (.int v8), .val (.ref v12), .unset, .unset] [(.ref v16)])) _
    refine XS.astore X14.here hx rfl (hb hby at_20) rfl rfl (l' := #[.val (.int p1), .val (.int p2), .val (.int v4), .val (.int v8), .val (.ref v12), .val (.ref v16), .unset]) rfl ?_
    show Steps p.tables e below (T14.setTop (mkF m 22 #[.val (.int p1), .val (.int p2), .val (.int v4), .val (.int v8), .val (.ref v12), .val (.ref v16), .unset] [])) _
    refine XS.iloadN X14.here hx rfl (hb hby at_22) rfl ?_
    show Steps p.tables e below (T14.setTop (mkF m 23 #[.val (.int p1), .val (.int p2), .val (.int v4), .val (.int v8), .val (.ref v12), .val (.ref v16), .unset] [(.int v4)])) _
    refine XS.iloadN X14.here hx rfl (hb hby at_23) rfl ?_
    show Steps p.tables e below (T14.setTop (mkF m 24 #[.val (.int p1), .val (.int p2), .val (.int v4), .val (.int v8), .val (.ref v12), .val (.ref v16), .unset] [(.int v8), (.int v4)])) _
    refine XS.imul X14.here hx rfl (hb hby at_24) rfl ?_
    exact kt)
  obtain ⟨_, _, ⟨T18, L18, k18, n18⟩, -, X18', ⟨Lc18, hQ18, l18, y18, z18⟩, st18⟩ := Jvm.LawKit.callS X14 hx (y := (⟨"com/example/serendib/serendib/model/VarianceWithinPinLaw", "ofSign", "(I)Lcom/example/serendib/serendib/model/TypeParameter$Variance;"⟩ : MethodName)) hown (mvT hZ (hw _ (List.mem_of_getElem? (i := 5) rfl))) (mvT hZ (hw _ (List.mem_of_getElem? (i := 6) rfl))) (mvT hZ (hw _ (List.mem_of_getElem? (i := 2) rfl))) (mvT hZ (hw _ (List.mem_of_getElem? (i := 7) rfl))) (by decide) (backOf (W := 0) (rmOfs l Z a0 hw [] (v4 * v8) inv cov con h0 n0 (Nat.le_trans Z0 (Keep.refl h0 []).1) pr0 pr1 pr2) hZ (hw _ (List.mem_of_getElem? (i := 7) rfl)) (hw _ (List.mem_of_getElem? (i := 2) rfl)) (by decide) (by decide)) (g := (mkF m 25 #[.val (.int p1), .val (.int p2), .val (.int v4), .val (.int v8), .val (.ref v12), .val (.ref v16), .unset] [(.int (v4 * v8))])) rfl (by rw [hml]; rfl) (argsL := [(.int (v4 * v8))]) (rest := []) (lenOf pd__I_Lcom_example_serendib_serendib_model_TypeParameter_Variance_ rfl) rfl (by show 2 * 0 + _ ≤ _; exact Nat.le_of_eq rfl) (hb hby at_25) (fun _ _ => ⟨rfl, e14, (by decide : 0 + 0 ≤ _), (by decide : 0 + 0 ≤ _)⟩)
  dsimp only [Pt.U, Pt.locs, Pt.cells, Pt.slots] at X18' l18 y18 z18 st18 hQ18
  subst l18 y18 z18
  obtain ⟨rfl, N18q, e18⟩ := hQ18
  obtain ⟨lc18, X18, N18⟩ : ∃ lc, Stand p l e room_1 s m #[(.int p1), (.int p2)] below meth c T18 lc 0 0 ∧ Fr n0 lc := ⟨_, X18', Fr.app N14 N18q⟩
  have K19 : Gx p e below s₁ f0 T18 (mkF m 28 #[.val (.int p1), .val (.int p2), .val (.int v4), .val (.int v8), .val (.ref v12), .val (.ref v16), .unset] [(.ref (vofF inv cov con (v4 * v8)))]) := fun t kt => K17 t (st18 t kt)
  obtain ⟨v20, hv20⟩ : ∃ z : Addr, z = (vofF inv cov con (v4 * v8)) := ⟨_, rfl⟩
  rw [← hv20] at K19
  have K21 : Gx p e below s₁ f0 T18 (mkF m 34 #[.val (.int p1), .val (.int p2), .val (.int v4), .val (.int v8), .val (.ref v12), .val (.ref v16), .val (.ref v20)] [(.ref v16), (.ref v12)]) := fun t kt => K19 t (by
    show Steps p.tables e below (T18.setTop (mkF m 28 #[.val (.int p1), .val (.int p2), .val (.int v4), .val (.int v8), .val (.ref v12), .val (.ref v16), .unset] [(.ref v20)])) _
    refine XS.astore X18.here hx rfl (hb hby at_28) rfl rfl (l' := #[.val (.int p1), .val (.int p2), .val (.int v4), .val (.int v8), .val (.ref v12), .val (.ref v16), .val (.ref v20)]) rfl ?_
    show Steps p.tables e below (T18.setTop (mkF m 30 #[.val (.int p1), .val (.int p2), .val (.int v4), .val (.int v8), .val (.ref v12), .val (.ref v16), .val (.ref v20)] [])) _
    refine XS.aload X18.here hx rfl (hb hby at_30) rfl rfl ?_
    show Steps p.tables e below (T18.setTop (mkF m 32 #[.val (.int p1), .val (.int p2), .val (.int v4), .val (.int v8), .val (.ref v12), .val (.ref v16), .val (.ref v20)] [(.ref v12)])) _
    refine XS.aload X18.here hx rfl (hb hby at_32) rfl rfl ?_
    exact kt)
  obtain ⟨cq22, kq22, q22a, q22b, q22c⟩ := isOf hZ e18 Ep
  obtain ⟨_, _, ⟨T22, L22, k22, n22⟩, -, X22', ⟨Lc22, hQ22, l22, y22, z22⟩, st22⟩ := X18.virtualBack hx (y := (⟨"com/example/serendib/serendib/model/TypeParameter$Variance", "within", "(Lcom/example/serendib/serendib/model/TypeParameter$Variance;)Lcom/example/serendib/serendib/model/TypeParameter$Variance;"⟩ : MethodName)) (z := (⟨"com/example/serendib/serendib/model/TypeParameter$Variance", "within", "(Lcom/example/serendib/serendib/model/TypeParameter$Variance;)Lcom/example/serendib/serendib/model/TypeParameter$Variance;"⟩ : MethodName)) hown (mvT hZ (hw _ (List.mem_of_getElem? (i := 11) rfl))) (mvT hZ (hw _ (List.mem_of_getElem? (i := 12) rfl))) (notFace_of_selects (args := #[]) (mvT hZ (hw _ (List.mem_of_getElem? (i := 14) rfl)))) (mvT hZ (hw _ (List.mem_of_getElem? (i := 14) rfl))) (mvT hZ (hw _ (List.mem_of_getElem? (i := 13) rfl))) (by decide) (backOf (W := 0) (rmWi l Z a0 hw [] v12 v16 inv cov con h0 n0 (Nat.le_trans Z0 (Keep.refl h0 []).1) pr0 pr1 pr2) hZ (hw _ (List.mem_of_getElem? (i := 15) rfl)) (hw _ (List.mem_of_getElem? (i := 9) rfl)) (by decide) (by decide)) q22a q22c (g := (mkF m 34 #[.val (.int p1), .val (.int p2), .val (.int v4), .val (.int v8), .val (.ref v12), .val (.ref v16), .val (.ref v20)] [(.ref v16), (.ref v12)])) rfl (by rw [hml]; rfl) (Steps.refl _) (argsL := [(.ref v16)]) (rest := []) (lenOf pd__Lcom_example_serendib_serendib_model_TypeParameter_Variance__Lcom_example_serendib_serendib_model_TypeParameter_Variance_ rfl) rfl (by show 2 * 0 + _ ≤ _; exact Nat.le_of_eq rfl) (hb hby at_34) (fun _ _ => ⟨rfl, e18, (by decide : 0 + 0 ≤ _), (by decide : 0 + 0 ≤ _)⟩)
  dsimp only [Pt.U, Pt.locs, Pt.cells, Pt.slots] at X22' l22 y22 z22 st22 hQ22
  subst l22 y22 z22
  obtain ⟨rfl, N22q, e22⟩ := hQ22
  obtain ⟨lc22, X22, N22⟩ : ∃ lc, Stand p l e room_1 s m #[(.int p1), (.int p2)] below meth c T22 lc 0 0 ∧ Fr n0 lc := ⟨_, X22', Fr.app N18 N22q⟩
  have K23 : Gx p e below s₁ f0 T22 (mkF m 37 #[.val (.int p1), .val (.int p2), .val (.int v4), .val (.int v8), .val (.ref v12), .val (.ref v16), .val (.ref v20)] [(.ref (withinF inv cov con v12 v16))]) := fun t kt => K21 t (st22.trans kt)
  obtain ⟨v24, hv24⟩ : ∃ z : Addr, z = (withinF inv cov con v12 v16) := ⟨_, rfl⟩
  rw [← hv24] at K23
  have K25 : Gx p e below s₁ f0 T22 (mkF m 47 #[.val (.int p1), .val (.int p2), .val (.int v4), .val (.int v8), .val (.ref v12), .val (.ref v16), .val (.ref v20)] [(.int (1 : Int32))]) := fun t kt => K23 t (by
    show Steps p.tables e below (T22.setTop (mkF m 37 #[.val (.int p1), .val (.int p2), .val (.int v4), .val (.int v8), .val (.ref v12), .val (.ref v16), .val (.ref v20)] [(.ref v24)])) _
    refine XS.aload X22.here hx rfl (hb hby at_37) rfl rfl ?_
    show Steps p.tables e below (T22.setTop (mkF m 39 #[.val (.int p1), .val (.int p2), .val (.int v4), .val (.int v8), .val (.ref v12), .val (.ref v16), .val (.ref v20)] [(.ref v20), (.ref v24)])) _
    refine Jvm.RoadKit.acmp (g := (mkF m 39 #[.val (.int p1), .val (.int p2), .val (.int v4), .val (.int v8), .val (.ref v12), .val (.ref v16), .val (.ref v20)] [(.ref v20), (.ref v24)])) X22 hx rfl rfl rfl (pc0 := 39) (pc' := 42) (same := true) rfl (hb hby at_39) rfl (decide_eq_true (congrArg Value.ref (by rw [hv24, hv20, hv12, hv16, hv4, hv8]; exact own_final inv cov con pr6 pr7 pr8 p1 p2))) (by decide) (by decide) ?_
    show Steps p.tables e below (T22.setTop (mkF m 42 #[.val (.int p1), .val (.int p2), .val (.int v4), .val (.int v8), .val (.ref v12), .val (.ref v16), .val (.ref v20)] [])) _
    refine XS.iconst X22.here hx rfl (hb hby at_42) ?_
    show Steps p.tables e below (T22.setTop (mkF m 43 #[.val (.int p1), .val (.int p2), .val (.int v4), .val (.int v8), .val (.ref v12), .val (.ref v16), .val (.ref v20)] [(.int (1 : Int32))])) _
    refine XS.goto X22.here hx rfl (pc0 := 43) (pc' := 47) rfl (hb hby at_43) (by decide) (by decide) ?_
    exact kt)
  obtain ⟨fs26, hr26, hrun26, hended26, hW26, hsame26⟩ := X22.leave (v := some (.int (1 : Int32))) (fun h => by rw [Bd.returns] at h; cases h)
  refine ⟨_, _, pre0 _ (K25 _ ?_), hrun26, hended26, _, _, rfl, ?_, ⟨_, rfl⟩, hW26, hsame26.mono (by decide) (by decide)⟩
  · exact retN X22 hx (t := .boolean) Bd.returns (by simp) (hb hby at_47) hr26
  · show Q0 Z p1 p2 inv cov con h0 n0 _ T22.heap _
    rw [e22]
    exact ⟨rfl, N22⟩
set_option maxRecDepth 65536 in
set_option maxHeartbeats 40000000 in
theorem comes_1 {Post : Tables → Env → Array Value → State → Outcome → State → Prop} (hpost : ∀ tb e args s v u, (limb_1_1.after args s (.returned v) u = true ∧ limb_1_2.after args s (.returned v) u = true ∧ True) → FrameEnd s (.returned v) u (Jvm.fieldLocs frame_1_writes args s ++ Jvm.arrayLocs frame_1_arrays args s ++ Jvm.staticLocs frame_1_statics s) 0 0 → Post tb e args s (.returned v) u) :
    ArmFor flags0 classFile x code maxLocals ret World_1 tables_1 room_1 Calls_1 rest_1 Pre_1 Post := by
  intro l hfl _ _ p e ha hc hk s m args below hf hA hF happ hP
  obtain ⟨hcalls, hrest, hpre⟩ := hP
  obtain ⟨-, -, -, hnamed, -, -, -, hat⟩ := (Spec.applies_iff hf).mp happ
  obtain ⟨hg, hn⟩ := and_e (Cond.before_iff.mp (show (Jvm.Cond.and given_1 narrow_1).before args s = true from hpre))
  obtain ⟨g1, g2⟩ := and_e hg
  obtain ⟨g3, g4⟩ := and_e g2
  obtain ⟨w0, w1, rfl⟩ : ∃ w0 w1 : Value, args = #[w0, w1] := by
    have hs : args.size = 2 := by simpa [Cond.value, given_1] using g1
    obtain ⟨L⟩ := args
    match L, hs with
    | [w0, w1], _ => exact ⟨w0, w1, rfl⟩
  have hw := fun d (hd : d ∈ tables_1) => atoms_spec (ws := Jvm.Cond.code x code maxLocals ret :: tables_1) hat d (List.mem_cons_of_mem _ hd)
  have hfit : Fit s := fun {y c} hc i hi => by
    obtain ⟨ha, rfl⟩ := Array.getElem?_eq_some_iff.mp hc
    have q := List.all_eq_true.mp ((Array.all_eq_true_iff_forall_mem.mp hF) _ (Array.getElem_mem ha)) i (List.mem_range.mpr hi)
    simpa [Array.getElem?_eq_getElem hi] using q
  obtain ⟨i0, ei0⟩ := is_v g3
  obtain rfl : w0 = (.int i0) := Option.some.inj ei0
  obtain ⟨i1, ei1⟩ := is_v g4
  obtain rfl : w1 = (.int i1) := Option.some.inj ei1
  obtain ⟨g5, g6⟩ := and_e hn
  obtain ⟨g7, g8⟩ := and_e g6
  obtain ⟨g9, g10⟩ := and_e g8
  obtain ⟨g11, g12⟩ := and_e g10
  obtain ⟨g13, g14⟩ := and_e g12
  obtain ⟨st15, evst15⟩ := exa_v g5
  have Sst15 := Sta.start evst15 (Or.inr ⟨(hw _ (List.mem_of_getElem? (i := 9) rfl)), (hw _ (List.mem_of_getElem? (i := 10) rfl))⟩)
  have Est15 := Exa.start evst15 g5
  obtain ⟨st16, evst16⟩ := exa_v g7
  have Sst16 := Sta.start evst16 (Or.inr ⟨(hw _ (List.mem_of_getElem? (i := 9) rfl)), (hw _ (List.mem_of_getElem? (i := 18) rfl))⟩)
  have Est16 := Exa.start evst16 g7
  obtain ⟨st17, evst17⟩ := exa_v g9
  have Sst17 := Sta.start evst17 (Or.inr ⟨(hw _ (List.mem_of_getElem? (i := 9) rfl)), (hw _ (List.mem_of_getElem? (i := 20) rfl))⟩)
  have Est17 := Exa.start evst17 g9
  have F18 : Fld s s.heap st16 "java/lang/Enum" "ordinal" "I" (.int (2 : Int32)) := own_fldI evst16 g11
  have F19 : Fld s s.heap st15 "java/lang/Enum" "ordinal" "I" (.int (0 : Int32)) := own_fldI evst15 g13
  have F20 : Fld s s.heap st17 "java/lang/Enum" "ordinal" "I" (.int (1 : Int32)) := own_fldI evst17 g14
  obtain ⟨n, o, h1, h2, h3, _, L, rfl, ⟨rfl, N⟩, hq⟩ := rm0 l s _ hw tables_1 i0 i1 st15 st17 st16 s.heap s.heap.size (Nat.le_refl _) Sst15 Sst17 Sst16 Est15 Est17 Est16 (Fld.ne F19 F20 (by intro q; cases q)) (Fld.ne F19 F18 (by intro q; cases q)) (Fld.ne F20 F18 (by intro q; cases q)) p e ha hc hk s m _ below hf ((Spec.applies_iff_loose hf).mp happ).1 ⟨rfl, State.Warmed39.refl s, rfl⟩ trivial
  refine ⟨n, _, h1, h2, h3, hpost _ _ _ _ _ _ ⟨Cond.after_iff.mpr rfl, Cond.after_iff.mpr (eq_i res_at (Term.int_eval (1)) rfl), trivial⟩ ⟨hq.1, hq.2.1, (hq.2.2.sift fun y hy => Or.inr (N y hy)).mono (by decide) (by decide)⟩⟩
theorem main_1_1 : Claimed_1_1 := comes_1 fun _ _ _ _ _ _ h hF => ⟨h.1, hF⟩
theorem main_1_2 : Claimed_1_2 := comes_1 fun _ _ _ _ _ _ h hF => ⟨h.2.1, hF⟩
end Jvm.Pilot.@@N@@
namespace Jvm.Pilot.@@N@@
open Jvm Jvm.ClassFile Sem Op Lib Jvm.Free Jvm.Stand Jvm.Pilot.@@N@@.Jvm.D
/-! MADE BY PROGRAM (witnessworld.py) out of the Statement's table words and the real class files: 12 classes; the members and pool entries that the words name. The judged class is class 1, her method 3. -/
namespace start1
open Jvm.ClassFile
def u (s : String) : CpInfo := .utf8 (stringToUtf16 s)
/-- a pool by its gaps: so many unusable entries, then the entry; so many at the end -/
def gap : Nat → List CpInfo → List CpInfo
  | 0, r => r
  | n + 1, r => .unusable :: gap n r
def poolList (es : List (Nat × CpInfo)) (last : Nat) : List CpInfo := es.foldr (fun e r => gap e.1 (e.2 :: r)) (gap last [])
def pool (es : List (Nat × CpInfo)) (last : Nat) : Array CpInfo := ⟨poolList es last⟩
def fileOf (pool : Array CpInfo) (this : Nat) (attrs : Array Attribute := #[]) (ms : Array MethodInfo := #[]) (fl : Nat := 33) (sup : Nat := 0) (ifs : Array Nat := #[]) (fds : Array FieldInfo := #[]) : ClassFile where
  minorVersion := 0
  majorVersion := 65
  constantPool := pool
  accessFlags := fl
  thisClass := this
  superClass := sup
  interfaces := ifs
  fields := fds
  methods := ms
  attributes := attrs
def plain (name : String) (sup : Option ClassId) : Class where
  name := name
  kind := .ordinary
  loader := none
  accessFlags := 33
  super := sup
  interfaces := #[]
  cf := none
  fields := #[]
  methods := #[]
  instanceTypes := #[]
  staticTypes := #[]
  resolved := #[]
  callSites := []
  init := .initialized
  statics := none
  mirror := none

def pool0 : Array CpInfo := pool [(5, u "<init>"), (0, u "()V"), (1, .class_ 10), (1, u "java/lang/Object")] 113

def k0m0 : Method := { name := "<init>", desc := "()V", sig := { parameters := [], returnType := none }, accessFlags := 1, code := none }
/-- java/lang/Object -/
def k0 : Class := { plain "java/lang/Object" none with
  accessFlags := 33
  interfaces := #[]
  cf := some (fileOf pool0 8 #[] #[{ accessFlags := 1, nameIndex := 5, descriptorIndex := 6, attributes := #[] }] 33 0 #[] #[])
  fields := #[]
  methods := #[k0m0]
  instanceTypes := #[]
  staticTypes := #[]
  resolved := Array.replicate 124 none
  statics := none }

def pool1 : Array CpInfo := pool [(2, .class_ 4), (1, u "java/lang/Object"), (0, u "<init>"), (0, u "()V"), (0, .integer 2147483647), (0, .fieldref 9 10), (0, .class_ 11), (0, .nameAndType 12 13), (0, u "com/example/serendib/serendib/model/TypeParameter$Variance"), (0, u "COVARIANT"), (0, u "Lcom/example/serendib/serendib/model/TypeParameter$Variance;"), (0, .fieldref 9 15), (0, .nameAndType 16 13), (0, u "CONTRAVARIANT"), (0, .fieldref 9 18), (0, .nameAndType 19 13), (0, u "INVARIANT"), (0, .methodref 21 22), (0, .class_ 23), (0, .nameAndType 24 25), (0, u "com/example/serendib/serendib/model/VarianceWithinPinLaw"), (0, u "sign"), (0, u "(I)I"), (0, .methodref 21 27), (0, .nameAndType 28 29), (0, u "ofSign"), (0, u "(I)Lcom/example/serendib/serendib/model/TypeParameter$Variance;"), (0, .methodref 9 31), (0, .nameAndType 32 33), (0, u "within"), (0, u "(Lcom/example/serendib/serendib/model/TypeParameter$Variance;)Lcom/example/serendib/serendib/model/TypeParameter$Variance;"), (3, u "law"), (0, u "(II)Z")] 6

def k1m0 : Method := { name := "<init>", desc := "()V", sig := { parameters := [], returnType := none }, accessFlags := 2, code := none }
def k1c1 : Code := { maxStack := 2, maxLocals := 2, code := method_2_code, exceptionTable := #[], attributes := #[] }
def k1m1 : Method := { name := "sign", desc := "(I)I", sig := { parameters := [.int], returnType := some .int }, accessFlags := 10, code := some k1c1 }
def k1c2 : Code := { maxStack := 1, maxLocals := 1, code := method_3_code, exceptionTable := #[], attributes := #[] }
def k1m2 : Method := { name := "ofSign", desc := "(I)Lcom/example/serendib/serendib/model/TypeParameter$Variance;", sig := { parameters := [.int], returnType := some (.object "com/example/serendib/serendib/model/TypeParameter$Variance") }, accessFlags := 10, code := some k1c2 }
def k1c3 : Code := { maxStack := 2, maxLocals := 7, code := code, exceptionTable := #[], attributes := #[] }
def k1m3 : Method := { name := "law", desc := "(II)Z", sig := { parameters := [.int, .int], returnType := some .boolean }, accessFlags := 9, code := some k1c3 }
/-- com/example/serendib/serendib/model/VarianceWithinPinLaw -/
def k1 : Class := { plain "com/example/serendib/serendib/model/VarianceWithinPinLaw" (some 0) with
  accessFlags := 49
  interfaces := #[]
  cf := some (fileOf pool1 21 #[] #[{ accessFlags := 2, nameIndex := 5, descriptorIndex := 6, attributes := #[] }, { accessFlags := 10, nameIndex := 24, descriptorIndex := 25, attributes := #[] }, { accessFlags := 10, nameIndex := 28, descriptorIndex := 29, attributes := #[] }, { accessFlags := 9, nameIndex := 37, descriptorIndex := 38, attributes := #[] }] 49 2 #[] #[])
  fields := #[]
  methods := #[k1m0, k1m1, k1m2, k1m3]
  instanceTypes := #[]
  staticTypes := #[]
  resolved := Array.replicate 45 none
  statics := none }

def pool2 : Array CpInfo := pool [(1, .class_ 2), (0, u "java/lang/constant/Constable"), (0, .class_ 4), (0, u "java/lang/Object")] 6

/-- java/lang/constant/Constable -/
def k2 : Class := { plain "java/lang/constant/Constable" (some 0) with
  accessFlags := 1537
  interfaces := #[]
  cf := some (fileOf pool2 1 #[] #[] 1537 3 #[] #[])
  fields := #[]
  methods := #[]
  instanceTypes := #[]
  staticTypes := #[]
  resolved := Array.replicate 11 none
  statics := none }

def pool3 : Array CpInfo := pool [(1, .class_ 2), (0, u "java/lang/Comparable"), (0, .class_ 4), (0, u "java/lang/Object")] 7

/-- java/lang/Comparable -/
def k3 : Class := { plain "java/lang/Comparable" (some 0) with
  accessFlags := 1537
  interfaces := #[]
  cf := some (fileOf pool3 1 #[] #[] 1537 3 #[] #[])
  fields := #[]
  methods := #[]
  instanceTypes := #[]
  staticTypes := #[]
  resolved := Array.replicate 12 none
  statics := none }

def pool4 : Array CpInfo := pool [(1, .class_ 2), (0, u "java/io/Serializable"), (0, .class_ 4), (0, u "java/lang/Object")] 2

/-- java/io/Serializable -/
def k4 : Class := { plain "java/io/Serializable" (some 0) with
  accessFlags := 1537
  interfaces := #[]
  cf := some (fileOf pool4 1 #[] #[] 1537 3 #[] #[])
  fields := #[]
  methods := #[]
  instanceTypes := #[]
  staticTypes := #[]
  resolved := Array.replicate 7 none
  statics := none }

def pool5 : Array CpInfo := pool [(2, .class_ 4), (1, u "java/lang/Enum"), (0, u "name"), (0, u "Ljava/lang/String;"), (2, u "ordinal"), (0, u "I"), (1, .class_ 14), (1, u "java/lang/Object"), (4, u "hash"), (86, .class_ 108), (1, u "java/lang/Enum$EnumDesc"), (2, .class_ 112), (0, u "java/lang/constant/Constable"), (0, .class_ 114), (0, u "java/lang/Comparable"), (0, .class_ 116), (0, u "java/io/Serializable")] 87

/-- java/lang/Enum -/
def k5 : Class := { plain "java/lang/Enum" (some 0) with
  accessFlags := 1057
  interfaces := #[2, 3, 4]
  cf := some (fileOf pool5 2 #[.nestMembers #[106]] #[] 1057 12 #[111, 113, 115] #[{ accessFlags := 18, nameIndex := 5, descriptorIndex := 6, attributes := #[] }, { accessFlags := 18, nameIndex := 9, descriptorIndex := 10, attributes := #[] }, { accessFlags := 2, nameIndex := 19, descriptorIndex := 10, attributes := #[] }])
  fields := #[{ name := "name", type := (.object "java/lang/String"), accessFlags := 18, slot := 0, constantValue := 0 }, { name := "ordinal", type := .int, accessFlags := 18, slot := 1, constantValue := 0 }, { name := "hash", type := .int, accessFlags := 2, slot := 2, constantValue := 0 }]
  methods := #[]
  instanceTypes := #[(.object "java/lang/String"), .int, .int]
  staticTypes := #[]
  resolved := Array.replicate 204 none
  statics := none }

def pool6 : Array CpInfo := pool [(1, .class_ 2), (0, u "com/example/serendib/serendib/model/TypeParameter$Variance"), (0, .fieldref 1 4), (0, .nameAndType 5 6), (0, u "INVARIANT"), (0, u "Lcom/example/serendib/serendib/model/TypeParameter$Variance;"), (0, .fieldref 1 8), (0, .nameAndType 9 6), (0, u "COVARIANT"), (0, .fieldref 1 11), (0, .nameAndType 12 6), (0, u "CONTRAVARIANT"), (2, u "$VALUES"), (0, u "[Lcom/example/serendib/serendib/model/TypeParameter$Variance;"), (6, .class_ 25), (1, u "java/lang/Enum"), (21, u "within"), (0, u "(Lcom/example/serendib/serendib/model/TypeParameter$Variance;)Lcom/example/serendib/serendib/model/TypeParameter$Variance;"), (6, .class_ 56), (0, u "com/example/serendib/serendib/model/TypeParameter")] 2

def k6c0 : Code := { maxStack := 2, maxLocals := 3, code := prog_64_method_4_code, exceptionTable := #[], attributes := #[] }
def k6m0 : Method := { name := "within", desc := "(Lcom/example/serendib/serendib/model/TypeParameter$Variance;)Lcom/example/serendib/serendib/model/TypeParameter$Variance;", sig := { parameters := [(.object "com/example/serendib/serendib/model/TypeParameter$Variance")], returnType := some (.object "com/example/serendib/serendib/model/TypeParameter$Variance") }, accessFlags := 1, code := some k6c0 }
/-- com/example/serendib/serendib/model/TypeParameter$Variance -/
def k6 : Class := { plain "com/example/serendib/serendib/model/TypeParameter$Variance" (some 5) with
  accessFlags := 16433
  interfaces := #[]
  cf := some (fileOf pool6 1 #[.nestHost 55] #[{ accessFlags := 1, nameIndex := 47, descriptorIndex := 48, attributes := #[] }] 16433 23 #[] #[{ accessFlags := 16409, nameIndex := 5, descriptorIndex := 6, attributes := #[] }, { accessFlags := 16409, nameIndex := 9, descriptorIndex := 6, attributes := #[] }, { accessFlags := 16409, nameIndex := 12, descriptorIndex := 6, attributes := #[] }, { accessFlags := 4122, nameIndex := 15, descriptorIndex := 16, attributes := #[] }])
  fields := #[{ name := "INVARIANT", type := (.object "com/example/serendib/serendib/model/TypeParameter$Variance"), accessFlags := 16409, slot := 0, constantValue := 0 }, { name := "COVARIANT", type := (.object "com/example/serendib/serendib/model/TypeParameter$Variance"), accessFlags := 16409, slot := 1, constantValue := 0 }, { name := "CONTRAVARIANT", type := (.object "com/example/serendib/serendib/model/TypeParameter$Variance"), accessFlags := 16409, slot := 2, constantValue := 0 }, { name := "$VALUES", type := (.array (.object "com/example/serendib/serendib/model/TypeParameter$Variance")), accessFlags := 4122, slot := 3, constantValue := 0 }]
  methods := #[k6m0]
  instanceTypes := #[(.object "java/lang/String"), .int, .int]
  staticTypes := #[(.object "com/example/serendib/serendib/model/TypeParameter$Variance"), (.object "com/example/serendib/serendib/model/TypeParameter$Variance"), (.object "com/example/serendib/serendib/model/TypeParameter$Variance"), (.array (.object "com/example/serendib/serendib/model/TypeParameter$Variance"))]
  resolved := Array.replicate 59 none
  statics := some 0 }

def pool7 : Array CpInfo := pool [(1, u "java/lang/Cloneable"), (0, .class_ 1), (0, u "java/lang/Object"), (0, .class_ 3)] 3

/-- java/lang/Cloneable -/
def k7 : Class := { plain "java/lang/Cloneable" (some 0) with
  accessFlags := 1537
  interfaces := #[]
  cf := some (fileOf pool7 2 #[] #[] 1537 4 #[] #[])
  fields := #[]
  methods := #[]
  instanceTypes := #[]
  staticTypes := #[]
  resolved := Array.replicate 8 none
  statics := none }

/-- the primitive byte -/
def k8 : Class := { plain "byte" none with kind := .primitive 'B', accessFlags := 0x411 }
/-- [B -/
def k9 : Class := { plain "[B" (some 0) with kind := .array 8 .byte, interfaces := #[7, 4], accessFlags := 1041 }

/-- the primitive int -/
def k10 : Class := { plain "int" none with kind := .primitive 'I', accessFlags := 0x411 }
/-- [I -/
def k11 : Class := { plain "[I" (some 0) with kind := .array 10 .int, interfaces := #[7, 4], accessFlags := 1041 }

def heap : Heap := #[{ cls := 6, slots := #[.ref 1, .ref 2, .ref 3, .null], vm := .statics 6 },
  { cls := 6, slots := #[.null, .int 0, .int 0], vm := .none },
  { cls := 6, slots := #[.null, .int 1, .int 0], vm := .none },
  { cls := 6, slots := #[.null, .int 2, .int 0], vm := .none }]
def classes : Array Class := #[k0, k1, k2, k3, k4, k5, k6, k7, k8, k9, k10, k11]
def interned : List (Array UInt16 × Addr) := []
def slotsUsed : Nat := 13
def theMethod : MethodId := ⟨1, 3⟩
def args0 : Array Value := #[.int 5, .int 6]
def aboutOver (below : List Frame) : State where
  vm := { classes := classes, interned := interned.toArray }
  heap := heap
  slotsUsed := slotsUsed
  threads := #[{ frames := .invoking theMethod args0 :: below }]
def below0 : List Frame := [.native { method := ⟨0, 0⟩, args := #[] }]
def about1 : State := aboutOver below0
def p0 : Program := .bare "" "" ""
def e0 : Env := launch0.env 0 0 0
theorem w_frames : about1.frames = Frame.invoking theMethod args0 :: below0 := rfl
set_option maxRecDepth 65536 in
theorem w_args : argsFit about1.vm theMethod args0 = true := by decide +kernel
set_option maxRecDepth 65536 in
theorem w_heap : heapFits about1 = true := by decide +kernel
set_option maxRecDepth 65536 in
theorem w_runnable : about1.curStatus? = some .runnable := by decide +kernel
set_option maxRecDepth 65536 in
theorem w_alone : about1.alone = true := by decide +kernel
set_option maxRecDepth 65536 in
theorem w_named : about1.methodNamed? x = some theMethod := by decide +kernel
set_option maxRecDepth 65536 in
theorem w_hears : about1.hears theMethod below0 = true := by decide +kernel
set_option maxRecDepth 65536 in
theorem w_ripe : about1.ripe theMethod args0 below0 = true := by decide +kernel
theorem w_running : about1.status = .running := rfl
set_option maxRecDepth 65536 in
theorem w_room : about1.hasRoom e0.platform room_1 = true :=
  launch0.hasRoom_least _ room_1 (by decide +kernel) (by decide +kernel) (by decide +kernel) (by decide +kernel) (by decide +kernel) (by decide +kernel)
theorem allAtoms_all (ts : List Jvm.Cond) (a : Array Jvm.Value) (st : Jvm.State) : (allAtoms ts).before a st = ts.all (fun c => c.before a st) := by
  induction ts with
  | nil => rfl
  | cons c t ih =>
    show (Jvm.Cond.and c (allAtoms t)).before a st = _
    rw [Jvm.Cond.before_and, ih, List.all_cons]
def words1 : List Jvm.Cond := Jvm.Cond.code x code maxLocals ret :: tables_1
/-- a 'code' word, met by the world's own term for the bytes: nothing is compared byte by byte -/
theorem code_word {y : MethodName} {bytes : ByteArray} {mx : Nat} {rt : Option FieldType} {a : Array Value} {s : State} {m : MethodId} {meth : Method} {c : Code} (h1 : s.methodNamed? y = some m) (h2 : s.vm.method? m = some meth) (h3 : meth.code = some c) (h4 : c.code = bytes)
    (h5 : (c.maxLocals == mx && c.exceptionTable.isEmpty && decide (c.maxStack ≤ mostOperands) && decide (meth.sig.returnType = rt) && !meth.locks && decide (parseMethodDescriptor y.desc = some meth.sig)) = true) : (Jvm.Cond.code y bytes mx rt).before a s = true := by
  simp only [Bool.and_eq_true, beq_iff_eq, Bool.not_eq_true', decide_eq_true_eq] at h5
  obtain ⟨⟨⟨⟨⟨g1, g2⟩, g3⟩, g4⟩, g5⟩, g6⟩ := h5
  simp [Cond.before, Cond.holds, Cond.value, h1, h2, h3, h4, g1, g2, g3, g4, g5, g6]
def isCode : Jvm.Cond → Bool
  | .code _ _ _ _ => true
  | _ => false
theorem all_split {L : List Jvm.Cond} {P : Jvm.Cond → Bool} (h1 : L.all (fun c => isCode c || P c) = true) (h2 : ∀ c ∈ L.filter isCode, P c = true) : L.all P = true := by
  refine List.all_eq_true.mpr fun c hc => ?_
  have h := List.all_eq_true.mp h1 c hc
  rcases Bool.eq_false_or_eq_true (isCode c) with hi | hi
  · exact h2 c (List.mem_filter.mpr ⟨hc, hi⟩)
  · simpa [hi] using h
set_option maxRecDepth 65536 in
theorem w_c0 : (Jvm.Cond.code x code maxLocals ret).before args0 about1 = true := code_word (m := ⟨1, 3⟩) (meth := k1m3) (c := k1c3) (by decide +kernel) rfl rfl rfl (by decide +kernel)
set_option maxRecDepth 65536 in
theorem w_c1 : (Jvm.Cond.code ({ cls := "com/example/serendib/serendib/model/VarianceWithinPinLaw", name := "sign", desc := "(I)I" } : Jvm.MethodName) method_2_code (2 : Nat) (Option.some Jvm.ClassFile.FieldType.int)).before args0 about1 = true := code_word (m := ⟨1, 1⟩) (meth := k1m1) (c := k1c1) (by decide +kernel) rfl rfl rfl (by decide +kernel)
set_option maxRecDepth 65536 in
theorem w_c2 : (Jvm.Cond.code ({ cls := "com/example/serendib/serendib/model/VarianceWithinPinLaw", name := "ofSign", desc := "(I)Lcom/example/serendib/serendib/model/TypeParameter$Variance;" } : Jvm.MethodName) method_3_code (1 : Nat) (Option.some (Jvm.ClassFile.FieldType.object "com/example/serendib/serendib/model/TypeParameter$Variance"))).before args0 about1 = true := code_word (m := ⟨1, 2⟩) (meth := k1m2) (c := k1c2) (by decide +kernel) rfl rfl rfl (by decide +kernel)
set_option maxRecDepth 65536 in
theorem w_c3 : (Jvm.Cond.code ({ cls := "com/example/serendib/serendib/model/TypeParameter$Variance", name := "within", desc := "(Lcom/example/serendib/serendib/model/TypeParameter$Variance;)Lcom/example/serendib/serendib/model/TypeParameter$Variance;" } : Jvm.MethodName) prog_64_method_4_code (3 : Nat) (Option.some (Jvm.ClassFile.FieldType.object "com/example/serendib/serendib/model/TypeParameter$Variance"))).before args0 about1 = true := code_word (m := ⟨6, 0⟩) (meth := k6m0) (c := k6c0) (by decide +kernel) rfl rfl rfl (by decide +kernel)
def codes1 : List Jvm.Cond := [Jvm.Cond.code x code maxLocals ret, Jvm.Cond.code ({ cls := "com/example/serendib/serendib/model/VarianceWithinPinLaw", name := "sign", desc := "(I)I" } : Jvm.MethodName) method_2_code (2 : Nat) (Option.some Jvm.ClassFile.FieldType.int), Jvm.Cond.code ({ cls := "com/example/serendib/serendib/model/VarianceWithinPinLaw", name := "ofSign", desc := "(I)Lcom/example/serendib/serendib/model/TypeParameter$Variance;" } : Jvm.MethodName) method_3_code (1 : Nat) (Option.some (Jvm.ClassFile.FieldType.object "com/example/serendib/serendib/model/TypeParameter$Variance")), Jvm.Cond.code ({ cls := "com/example/serendib/serendib/model/TypeParameter$Variance", name := "within", desc := "(Lcom/example/serendib/serendib/model/TypeParameter$Variance;)Lcom/example/serendib/serendib/model/TypeParameter$Variance;" } : Jvm.MethodName) prog_64_method_4_code (3 : Nat) (Option.some (Jvm.ClassFile.FieldType.object "com/example/serendib/serendib/model/TypeParameter$Variance"))]
set_option maxRecDepth 65536 in
theorem codes_eq : words1.filter isCode = codes1 := rfl
theorem w_codes : ∀ c ∈ words1.filter isCode, c.before args0 about1 = true := by
  rw [codes_eq]
  intro c hc
  simp only [codes1, List.mem_cons, List.not_mem_nil, or_false] at hc
  rcases hc with rfl | rfl | rfl | rfl
  · exact w_c0
  · exact w_c1
  · exact w_c2
  · exact w_c3
set_option maxRecDepth 65536 in
theorem w_t1 : words1.all (fun c => isCode c || c.before args0 about1) = true := by decide +kernel
theorem w_tables : (allAtoms (Jvm.Cond.code x code maxLocals ret :: tables_1)).before args0 about1 = true := by
  rw [allAtoms_all]
  show words1.all (fun c => c.before args0 about1) = true
  refine all_split ?_ w_codes
  rw [w_t1]
set_option maxRecDepth 65536 in
theorem w_case : (Jvm.Cond.and given_1 narrow_1).before args0 about1 = true := by decide +kernel
theorem w_applies : (headSpec (Jvm.Cond.code x code maxLocals ret :: tables_1) room_1).applies x e0.platform about1 = true :=
  (Spec.applies_iff w_frames).mpr ⟨w_running, w_runnable, w_alone, w_named, w_hears, w_ripe, w_room, w_tables⟩
theorem atStart : AtStart classFile x code maxLocals ret World_1 tables_1 room_1 Calls_1 rest_1 Pre_1 launch0 p0 e0 about1 theMethod args0 below0 :=
  ⟨lists_1, trivial, launch0.admits_env _ _ _, launch0.least_env, fairChoices_fair.cas, fairChoices_fair.clock, w_frames, w_args, w_heap, w_applies, trivial, trivial, w_case⟩
end start1
theorem witness_1 : WitnessClaimed_1 := ⟨start1.p0, start1.e0, start1.about1, start1.theMethod, start1.args0, start1.below0, start1.atStart⟩
end Jvm.Pilot.@@N@@
