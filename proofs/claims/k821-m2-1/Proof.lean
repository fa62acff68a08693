import JvmDerived
import JvmDerived.Pilot.@@N@@Statement
import JvmDerived.Pilot.@@N@@Code
set_option linter.unusedVariables false
set_option linter.unusedSimpArgs false
namespace Jvm.RoadKit
open Sem ClassFile Op Lib Jvm.Stand Jvm.Free Jvm.LawKit
section New
variable {p : Program} {l : Launch} {e : Env} {R : Room} {s : State} {m : MethodId} {args : Array Value} {below : List Frame} {meth : Method} {c : Code} {T : State} {locs : List Loc} {cells slots : Nat}
theorem retI (X : Stand p l e R s m args below meth c T locs cells slots) (hx : p.tables.exec = Jvm.exec) {pc : Nat} {Ls : Array Slot} {z : Int32} {rest : List Value} (hret : meth.sig.returnType = some .int) (hd : decode c.code pc = .ok (.ireturn, 1)) {fs : List Frame}
    (hl : ∀ (f : JFrame) (acts : List Action), f.method = m → f.locked = none → f.entered = [] → (doReturn e (T.setTop f) acts (some (.int z))).1 = T.setFrames fs) : Steps p.tables e below (T.setTop (mkF m pc Ls (.int z :: rest))) (T.setFrames fs) := by
  have hm' : T.vm.method? m = some meth := X.method'
  have hn : narrow .int (.int z) = .int z := rfl
  show Steps p.tables e below (T.setTop { method := m, pc := pc, locals := Ls, stack := _ :: rest, locked := none }) _
  jvm_step X.here [X.here.top, hx, hd, hm', hret, hn]
  first | (intro acts; rw [hl _ acts rfl rfl rfl]) | rw [hl _ _ rfl rfl rfl]
  exact Steps.refl _
end New
end Jvm.RoadKit
namespace Jvm.Pilot.@@N@@
open Jvm Jvm.ClassFile Sem Op Lib Jvm.Free Jvm.Stand Jvm.LawKit Jvm.RoadKit Bundle Jvm.Pilot.@@N@@.Jvm.D
abbrev Gx (p : Program) (e : Env) (below : List Frame) (T0 : State) (f0 : JFrame) (T : State) (f : JFrame) : Prop := ∀ t, Steps p.tables e below (T.setTop f) t → Steps p.tables e below (T0.setTop f0) t
theorem own_fldI {args : Array Value} {Z : State} {t : Term} {O n d : String} {a : Addr} {z : Int32} (ev : t.eval args Z none [] Z = some (.ref a)) (h : (Jvm.Cond.eq (Jvm.Term.field t O n d) (Jvm.Term.int z)).value args Z none Z [] = some true) : Fld Z Z.heap a O n d (.int z) := by
  refine Fld.start ?_
  rw [← fld_at (C := O) (n := n) (dd := d) ev]
  exact Cond.eq_int (show (Jvm.Cond.eq (Jvm.Term.field t O n d) (Jvm.Term.int z)).holds args Z none Z [] = true from Cond.before_iff.mpr h) rfl
def likeF (lk nl il ni : Addr) (p q : Int32) : Addr := if p = (0 : Int32) then (if q = (0 : Int32) then lk else nl) else (if q = (0 : Int32) then il else ni)
theorem d1_0 : decode prog_11_method_5_code 0 = .ok (.iload_n 0, 1) := by decide +kernel
theorem d1_1 : decode prog_11_method_5_code 1 = .ok (.ifCond .eq 17, 3) := by decide +kernel
theorem d1_4 : decode prog_11_method_5_code 4 = .ok (.iload_n 1, 1) := by decide +kernel
theorem d1_5 : decode prog_11_method_5_code 5 = .ok (.ifCond .eq 9, 3) := by decide +kernel
theorem d1_8 : decode prog_11_method_5_code 8 = .ok (.getstatic 13, 3) := by decide +kernel
theorem d1_11 : decode prog_11_method_5_code 11 = .ok (.goto 6, 3) := by decide +kernel
theorem d1_14 : decode prog_11_method_5_code 14 = .ok (.getstatic 10, 3) := by decide +kernel
theorem d1_17 : decode prog_11_method_5_code 17 = .ok (.areturn, 1) := by decide +kernel
theorem d1_18 : decode prog_11_method_5_code 18 = .ok (.iload_n 1, 1) := by decide +kernel
theorem d1_19 : decode prog_11_method_5_code 19 = .ok (.ifCond .eq 9, 3) := by decide +kernel
theorem d1_22 : decode prog_11_method_5_code 22 = .ok (.getstatic 7, 3) := by decide +kernel
theorem d1_25 : decode prog_11_method_5_code 25 = .ok (.goto 6, 3) := by decide +kernel
theorem d1_28 : decode prog_11_method_5_code 28 = .ok (.getstatic 3, 3) := by decide +kernel
theorem d1_31 : decode prog_11_method_5_code 31 = .ok (.areturn, 1) := by decide +kernel
theorem pn_1 : plainName "com/example/looseleaf/looseleaf/sql/MatchOperator" = true := by first | (simp [plainName, overriddenIn]; done) | decide +kernel
theorem ef_Lik (m : MethodId) (p1 : Int32) (p2 : Int32) : entryFrame m #[(.int p1), (.int p2)] 2 = mkF m 0 #[.val (.int p1), .val (.int p2)] [] := by first | (simp [entryFrame, mkF, argsToLocals, Value.category]; done) | rfl
def QLik (Z : State) (p1 : Int32) (p2 : Int32) (lk : Addr) (nl : Addr) (il : Addr) (ni : Addr) (h0 : Heap) (n0 : Nat) (v : Option Value) (h : Heap) (L : List Loc) : Prop := v = some (.ref (likeF lk nl il ni p1 p2)) ∧ Fr n0 L ∧ h = h0
set_option maxRecDepth 65536 in
set_option maxHeartbeats 40000000 in
theorem rmLik (l : Launch) (Z : State) (a0 : Array Value) (hw : ∀ d ∈ tables_1, d.before a0 Z = true) (ws : List Jvm.Cond) (p1 : Int32) (p2 : Int32) (lk : Addr) (nl : Addr) (il : Addr) (ni : Addr) (h0 : Heap) (n0 : Nat) (Z0 : n0 ≤ h0.size) (pr0 : Sta Z h0 "com/example/looseleaf/looseleaf/sql/MatchOperator" "LIKE" "Lcom/example/looseleaf/looseleaf/sql/MatchOperator;" (.ref lk)) (pr1 : Sta Z h0 "com/example/looseleaf/looseleaf/sql/MatchOperator" "NOT_LIKE" "Lcom/example/looseleaf/looseleaf/sql/MatchOperator;" (.ref nl)) (pr2 : Sta Z h0 "com/example/looseleaf/looseleaf/sql/MatchOperator" "ILIKE" "Lcom/example/looseleaf/looseleaf/sql/MatchOperator;" (.ref il)) (pr3 : Sta Z h0 "com/example/looseleaf/looseleaf/sql/MatchOperator" "NOT_ILIKE" "Lcom/example/looseleaf/looseleaf/sql/MatchOperator;" (.ref ni)) :
    MetFree l (⟨"com/example/looseleaf/looseleaf/sql/MatchOperator", "like", "(ZZ)Lcom/example/looseleaf/looseleaf/sql/MatchOperator;"⟩ : MethodName) (head1 (Jvm.Cond.code (⟨"com/example/looseleaf/looseleaf/sql/MatchOperator", "like", "(ZZ)Lcom/example/looseleaf/looseleaf/sql/MatchOperator;"⟩ : MethodName) prog_11_method_5_code 2 (some (.object "com/example/looseleaf/looseleaf/sql/MatchOperator")) :: ws) ({ frames := 0, cells := 0, slots := 0, locals := 0 } : Room)) (fun a U => a = #[(.int p1), (.int p2)] ∧ Z.Warmed39 U.vm ∧ U.heap = h0) (fun _ _ _ _ _ => True) (fun _ U o U' => ∃ v L, o = .returned v ∧ QLik Z p1 p2 lk nl il ni h0 n0 v U'.heap L ∧ FrameEnd U o U' L ({ frames := 0, cells := 0, slots := 0, locals := 0 } : Room).cells ({ frames := 0, cells := 0, slots := 0, locals := 0 } : Room).slots) := by
  refine MetFree.of_bodySF (plainFor_of_name pn_1) hisR ?_
  intro p e s m args below meth c s₁ Bd hml0 hP hK
  obtain ⟨rfl, hZ, hh⟩ := hP
  have hx := Bd.exec
  have hby := Bd.bytes
  have hml : c.maxLocals = 2 := hml0
  have hown : s.vm.findClass "com/example/looseleaf/looseleaf/sql/MatchOperator" = some m.cls := findClass_of_methodNamed Bd.named
  have hnm := (name_of_methodNamed Bd.named Bd.method).1
  have X0 : Stand p l e ({ frames := 0, cells := 0, slots := 0, locals := 0 } : Room) s m #[(.int p1), (.int p2)] below meth c s₁ [] 0 0 := Stand.of_body Bd
  have hs0 : h0 = s.heap := hh.symm
  have e0 : s₁.heap = h0 := by rw [← hh, Bd.state]; rfl
  have N0 := Fr.nil n0
  obtain ⟨f0, hf0⟩ : ∃ f, f = entryFrame m #[(.int p1), (.int p2)] 2 := ⟨_, rfl⟩
  have pre0 : ∀ t, Steps p.tables e below (s₁.setTop f0) t → Steps p.tables e below (s₁.setTop (entryFrame m #[(.int p1), (.int p2)] 2)) t := fun t k => hf0 ▸ k
  have K0 : Gx p e below s₁ f0 s₁ (mkF m 0 #[.val (.int p1), .val (.int p2)] []) := fun t kt => by rw [hf0]; exact castTop (ef_Lik m p1 p2) kt
  have K1 : Gx p e below s₁ f0 s₁ (mkF m 1 #[.val (.int p1), .val (.int p2)] [(.int p1)]) := fun t kt => K0 t (by
    show Steps p.tables e below (s₁.setTop (mkF m 0 #[.val (.int p1), .val (.int p2)] [])) _
    refine XS.iloadN X0.here hx rfl (hb hby d1_0) rfl ?_
    exact kt)
  by_cases hb2 : p1 = (0 : Int32)
  · skip
    have K3 : Gx p e below s₁ f0 s₁ (mkF m 19 #[.val (.int p1), .val (.int p2)] [(.int p2)]) := fun t kt => K1 t (by
      show Steps p.tables e below (s₁.setTop (mkF m 1 #[.val (.int p1), .val (.int p2)] [(.int p1)])) _
      refine XS.ifYes X0.here hx rfl (pc0 := 1) (pc' := 18) rfl (hb hby d1_1) rfl ((if0 _ _).trans (teq hb2).1) (by decide) (by decide) ?_
      show Steps p.tables e below (s₁.setTop (mkF m 18 #[.val (.int p1), .val (.int p2)] [])) _
      refine XS.iloadN X0.here hx rfl (hb hby d1_18) rfl ?_
      exact kt)
    by_cases hb4 : p2 = (0 : Int32)
    · skip
      have K5 : Gx p e below s₁ f0 s₁ (mkF m 28 #[.val (.int p1), .val (.int p2)] []) := fun t kt => K3 t (by
        show Steps p.tables e below (s₁.setTop (mkF m 19 #[.val (.int p1), .val (.int p2)] [(.int p2)])) _
        refine XS.ifYes X0.here hx rfl (pc0 := 19) (pc' := 28) rfl (hb hby d1_19) rfl ((if0 _ _).trans (teq hb4).1) (by decide) (by decide) ?_
        exact kt)
      obtain ⟨T6, X6, e6, st6⟩ := getS2 X0 hx hZ hown (host := "") (Or.inl (hw _ (List.mem_of_getElem? (i := 4) rfl))) Via.refl e0 pr0 (g := (mkF m 28 #[.val (.int p1), .val (.int p2)] [])) rfl (hb hby d1_28)
      have K7 : Gx p e below s₁ f0 T6 (mkF m 31 #[.val (.int p1), .val (.int p2)] [(.ref lk)]) := fun t kt => K5 t (st6 t kt)
      obtain ⟨fs8, hr8, hrun8, hended8, hW8, hsame8⟩ := X6.leave (v := some (.ref lk)) (fun h => by rw [Bd.returns] at h; cases h)
      refine ⟨_, _, pre0 _ (K7 _ ?_), hrun8, hended8, _, _, rfl, ?_, ⟨_, rfl⟩, hW8, hsame8.mono (by decide) (by decide)⟩
      · show Steps p.tables e below (T6.setTop (mkF m 31 #[.val (.int p1), .val (.int p2)] [(.ref lk)])) _
        jvm_step X6.here [X6.here.top, hx, (hb hby d1_31), X6.method', Bd.returns, Value.isRef, FieldType.isReference]
        first | (intro acts; rw [hr8 _ acts rfl rfl rfl]) | rw [hr8 _ _ rfl rfl rfl]
        exact Steps.refl _
      · show QLik Z p1 p2 lk nl il ni h0 n0 _ T6.heap _
        rw [e6]
        exact ⟨(congrArg some (congrArg Value.ref (by simp only [likeF, if_pos hb2, if_pos hb4]))), N0, rfl⟩
    · skip
      have K9 : Gx p e below s₁ f0 s₁ (mkF m 22 #[.val (.int p1), .val (.int p2)] []) := fun t kt => K3 t (by
        show Steps p.tables e below (s₁.setTop (mkF m 19 #[.val (.int p1), .val (.int p2)] [(.int p2)])) _
        refine XS.ifNo X0.here hx rfl (hb hby d1_19) rfl ((if0 _ _).trans (feq hb4).1) ?_
        exact kt)
      obtain ⟨T10, X10, e10, st10⟩ := getS2 X0 hx hZ hown (host := "") (Or.inl (hw _ (List.mem_of_getElem? (i := 29) rfl))) Via.refl e0 pr1 (g := (mkF m 22 #[.val (.int p1), .val (.int p2)] [])) rfl (hb hby d1_22)
      have K11 : Gx p e below s₁ f0 T10 (mkF m 25 #[.val (.int p1), .val (.int p2)] [(.ref nl)]) := fun t kt => K9 t (st10 t kt)
      have K12 : Gx p e below s₁ f0 T10 (mkF m 31 #[.val (.int p1), .val (.int p2)] [(.ref nl)]) := fun t kt => K11 t (by
        show Steps p.tables e below (T10.setTop (mkF m 25 #[.val (.int p1), .val (.int p2)] [(.ref nl)])) _
        refine XS.goto X10.here hx rfl (pc0 := 25) (pc' := 31) rfl (hb hby d1_25) (by decide) (by decide) ?_
        exact kt)
      obtain ⟨fs13, hr13, hrun13, hended13, hW13, hsame13⟩ := X10.leave (v := some (.ref nl)) (fun h => by rw [Bd.returns] at h; cases h)
      refine ⟨_, _, pre0 _ (K12 _ ?_), hrun13, hended13, _, _, rfl, ?_, ⟨_, rfl⟩, hW13, hsame13.mono (by decide) (by decide)⟩
      · show Steps p.tables e below (T10.setTop (mkF m 31 #[.val (.int p1), .val (.int p2)] [(.ref nl)])) _
        jvm_step X10.here [X10.here.top, hx, (hb hby d1_31), X10.method', Bd.returns, Value.isRef, FieldType.isReference]
        first | (intro acts; rw [hr13 _ acts rfl rfl rfl]) | rw [hr13 _ _ rfl rfl rfl]
        exact Steps.refl _
      · show QLik Z p1 p2 lk nl il ni h0 n0 _ T10.heap _
        rw [e10]
        exact ⟨(congrArg some (congrArg Value.ref (by simp only [likeF, if_pos hb2, if_neg hb4]))), N0, rfl⟩
  · skip
    have K14 : Gx p e below s₁ f0 s₁ (mkF m 5 #[.val (.int p1), .val (.int p2)] [(.int p2)]) := fun t kt => K1 t (by
      show Steps p.tables e below (s₁.setTop (mkF m 1 #[.val (.int p1), .val (.int p2)] [(.int p1)])) _
      refine XS.ifNo X0.here hx rfl (hb hby d1_1) rfl ((if0 _ _).trans (feq hb2).1) ?_
      show Steps p.tables e below (s₁.setTop (mkF m 4 #[.val (.int p1), .val (.int p2)] [])) _
      refine XS.iloadN X0.here hx rfl (hb hby d1_4) rfl ?_
      exact kt)
    by_cases hb15 : p2 = (0 : Int32)
    · skip
      have K16 : Gx p e below s₁ f0 s₁ (mkF m 14 #[.val (.int p1), .val (.int p2)] []) := fun t kt => K14 t (by
        show Steps p.tables e below (s₁.setTop (mkF m 5 #[.val (.int p1), .val (.int p2)] [(.int p2)])) _
        refine XS.ifYes X0.here hx rfl (pc0 := 5) (pc' := 14) rfl (hb hby d1_5) rfl ((if0 _ _).trans (teq hb15).1) (by decide) (by decide) ?_
        exact kt)
      obtain ⟨T17, X17, e17, st17⟩ := getS2 X0 hx hZ hown (host := "") (Or.inl (hw _ (List.mem_of_getElem? (i := 31) rfl))) Via.refl e0 pr2 (g := (mkF m 14 #[.val (.int p1), .val (.int p2)] [])) rfl (hb hby d1_14)
      have K18 : Gx p e below s₁ f0 T17 (mkF m 17 #[.val (.int p1), .val (.int p2)] [(.ref il)]) := fun t kt => K16 t (st17 t kt)
      obtain ⟨fs19, hr19, hrun19, hended19, hW19, hsame19⟩ := X17.leave (v := some (.ref il)) (fun h => by rw [Bd.returns] at h; cases h)
      refine ⟨_, _, pre0 _ (K18 _ ?_), hrun19, hended19, _, _, rfl, ?_, ⟨_, rfl⟩, hW19, hsame19.mono (by decide) (by decide)⟩
      · show Steps p.tables e below (T17.setTop (mkF m 17 #[.val (.int p1), .val (.int p2)] [(.ref il)])) _
        jvm_step X17.here [X17.here.top, hx, (hb hby d1_17), X17.method', Bd.returns, Value.isRef, FieldType.isReference]
        first | (intro acts; rw [hr19 _ acts rfl rfl rfl]) | rw [hr19 _ _ rfl rfl rfl]
        exact Steps.refl _
      · show QLik Z p1 p2 lk nl il ni h0 n0 _ T17.heap _
        rw [e17]
        exact ⟨(congrArg some (congrArg Value.ref (by simp only [likeF, if_neg hb2, if_pos hb15]))), N0, rfl⟩
    · skip
      have K20 : Gx p e below s₁ f0 s₁ (mkF m 8 #[.val (.int p1), .val (.int p2)] []) := fun t kt => K14 t (by
        show Steps p.tables e below (s₁.setTop (mkF m 5 #[.val (.int p1), .val (.int p2)] [(.int p2)])) _
        refine XS.ifNo X0.here hx rfl (hb hby d1_5) rfl ((if0 _ _).trans (feq hb15).1) ?_
        exact kt)
      obtain ⟨T21, X21, e21, st21⟩ := getS2 X0 hx hZ hown (host := "") (Or.inl (hw _ (List.mem_of_getElem? (i := 27) rfl))) Via.refl e0 pr3 (g := (mkF m 8 #[.val (.int p1), .val (.int p2)] [])) rfl (hb hby d1_8)
      have K22 : Gx p e below s₁ f0 T21 (mkF m 11 #[.val (.int p1), .val (.int p2)] [(.ref ni)]) := fun t kt => K20 t (st21 t kt)
      have K23 : Gx p e below s₁ f0 T21 (mkF m 17 #[.val (.int p1), .val (.int p2)] [(.ref ni)]) := fun t kt => K22 t (by
        show Steps p.tables e below (T21.setTop (mkF m 11 #[.val (.int p1), .val (.int p2)] [(.ref ni)])) _
        refine XS.goto X21.here hx rfl (pc0 := 11) (pc' := 17) rfl (hb hby d1_11) (by decide) (by decide) ?_
        exact kt)
      obtain ⟨fs24, hr24, hrun24, hended24, hW24, hsame24⟩ := X21.leave (v := some (.ref ni)) (fun h => by rw [Bd.returns] at h; cases h)
      refine ⟨_, _, pre0 _ (K23 _ ?_), hrun24, hended24, _, _, rfl, ?_, ⟨_, rfl⟩, hW24, hsame24.mono (by decide) (by decide)⟩
      · show Steps p.tables e below (T21.setTop (mkF m 17 #[.val (.int p1), .val (.int p2)] [(.ref ni)])) _
        jvm_step X21.here [X21.here.top, hx, (hb hby d1_17), X21.method', Bd.returns, Value.isRef, FieldType.isReference]
        first | (intro acts; rw [hr24 _ acts rfl rfl rfl]) | rw [hr24 _ _ rfl rfl rfl]
        exact Steps.refl _
      · show QLik Z p1 p2 lk nl il ni h0 n0 _ T21.heap _
        rw [e21]
        exact ⟨(congrArg some (congrArg Value.ref (by simp only [likeF, if_neg hb2, if_neg hb15]))), N0, rfl⟩
theorem d2_0 : decode prog_11_method_7_code 0 = .ok (.aload_n 0, 1) := by decide +kernel
theorem d2_1 : decode prog_11_method_7_code 1 = .ok (.getfield 51, 3) := by decide +kernel
theorem d2_4 : decode prog_11_method_7_code 4 = .ok (.ireturn, 1) := by decide +kernel
theorem pn_2 : plainName "com/example/looseleaf/looseleaf/sql/MatchOperator" = true := by first | (simp [plainName, overriddenIn]; done) | decide +kernel
theorem ef_Rx (m : MethodId) (a1 : Addr) : entryFrame m #[(.ref a1)] 1 = mkF m 0 #[.val (.ref a1)] [] := by first | (simp [entryFrame, mkF, argsToLocals, Value.category]; done) | rfl
def QRx (Z : State) (a1 : Addr) (w : Int32) (h0 : Heap) (n0 : Nat) (v : Option Value) (h : Heap) (L : List Loc) : Prop := v = some (.int (nar .boolean w)) ∧ Fr n0 L ∧ h = h0
set_option maxRecDepth 65536 in
set_option maxHeartbeats 40000000 in
theorem rmRx (l : Launch) (Z : State) (a0 : Array Value) (hw : ∀ d ∈ tables_1, d.before a0 Z = true) (ws : List Jvm.Cond) (a1 : Addr) (w : Int32) (h0 : Heap) (n0 : Nat) (Z0 : n0 ≤ h0.size) (pr0 : Fld Z h0 a1 "com/example/looseleaf/looseleaf/sql/MatchOperator" "regex" "Z" (.int w)) :
    MetFree l (⟨"com/example/looseleaf/looseleaf/sql/MatchOperator", "isRegex", "()Z"⟩ : MethodName) (head1 (Jvm.Cond.code (⟨"com/example/looseleaf/looseleaf/sql/MatchOperator", "isRegex", "()Z"⟩ : MethodName) prog_11_method_7_code 1 (some .boolean) :: ws) ({ frames := 0, cells := 0, slots := 0, locals := 0 } : Room)) (fun a U => a = #[(.ref a1)] ∧ Z.Warmed39 U.vm ∧ U.heap = h0) (fun _ _ _ _ _ => True) (fun _ U o U' => ∃ v L, o = .returned v ∧ QRx Z a1 w h0 n0 v U'.heap L ∧ FrameEnd U o U' L ({ frames := 0, cells := 0, slots := 0, locals := 0 } : Room).cells ({ frames := 0, cells := 0, slots := 0, locals := 0 } : Room).slots) := by
  refine MetFree.of_bodySF (plainFor_of_name pn_2) hisR ?_
  intro p e s m args below meth c s₁ Bd hml0 hP hK
  obtain ⟨rfl, hZ, hh⟩ := hP
  have hx := Bd.exec
  have hby := Bd.bytes
  have hml : c.maxLocals = 1 := hml0
  have hown : s.vm.findClass "com/example/looseleaf/looseleaf/sql/MatchOperator" = some m.cls := findClass_of_methodNamed Bd.named
  have hnm := (name_of_methodNamed Bd.named Bd.method).1
  have X0 : Stand p l e ({ frames := 0, cells := 0, slots := 0, locals := 0 } : Room) s m #[(.ref a1)] below meth c s₁ [] 0 0 := Stand.of_body Bd
  have hs0 : h0 = s.heap := hh.symm
  have e0 : s₁.heap = h0 := by rw [← hh, Bd.state]; rfl
  have N0 := Fr.nil n0
  obtain ⟨f0, hf0⟩ : ∃ f, f = entryFrame m #[(.ref a1)] 1 := ⟨_, rfl⟩
  have pre0 : ∀ t, Steps p.tables e below (s₁.setTop f0) t → Steps p.tables e below (s₁.setTop (entryFrame m #[(.ref a1)] 1)) t := fun t k => hf0 ▸ k
  have K0 : Gx p e below s₁ f0 s₁ (mkF m 0 #[.val (.ref a1)] []) := fun t kt => by rw [hf0]; exact castTop (ef_Rx m a1) kt
  have K1 : Gx p e below s₁ f0 s₁ (mkF m 1 #[.val (.ref a1)] [(.ref a1)]) := fun t kt => K0 t (by
    show Steps p.tables e below (s₁.setTop (mkF m 0 #[.val (.ref a1)] [])) _
    refine XS.aloadN X0.here hx rfl (hb hby d2_0) rfl rfl ?_
    exact kt)
  obtain ⟨T2, X2, e2, st2⟩ := getF X0 hx hZ hown (host := "") (Or.inl (hw _ (List.mem_of_getElem? (i := 11) rfl))) Via.refl e0 pr0 (g := (mkF m 1 #[.val (.ref a1)] [(.ref a1)])) rfl rfl (hb hby d2_1)
  have K3 : Gx p e below s₁ f0 T2 (mkF m 4 #[.val (.ref a1)] [(.int w)]) := fun t kt => K1 t (st2 t kt)
  obtain ⟨fs4, hr4, hrun4, hended4, hW4, hsame4⟩ := X2.leave (v := some (.int (nar .boolean w))) (fun h => by rw [Bd.returns] at h; cases h)
  refine ⟨_, _, pre0 _ (K3 _ ?_), hrun4, hended4, _, _, rfl, ?_, ⟨_, rfl⟩, hW4, hsame4.mono (by decide) (by decide)⟩
  · exact retN X2 hx (t := .boolean) Bd.returns (by simp) (hb hby d2_4) hr4
  · show QRx Z a1 w h0 n0 _ T2.heap _
    rw [e2]
    exact ⟨rfl, N0, rfl⟩
theorem d3_0 : decode prog_11_method_8_code 0 = .ok (.aload_n 0, 1) := by decide +kernel
theorem d3_1 : decode prog_11_method_8_code 1 = .ok (.getfield 55, 3) := by decide +kernel
theorem d3_4 : decode prog_11_method_8_code 4 = .ok (.ireturn, 1) := by decide +kernel
theorem pn_3 : plainName "com/example/looseleaf/looseleaf/sql/MatchOperator" = true := by first | (simp [plainName, overriddenIn]; done) | decide +kernel
theorem ef_Ic (m : MethodId) (a1 : Addr) : entryFrame m #[(.ref a1)] 1 = mkF m 0 #[.val (.ref a1)] [] := by first | (simp [entryFrame, mkF, argsToLocals, Value.category]; done) | rfl
def QIc (Z : State) (a1 : Addr) (w : Int32) (h0 : Heap) (n0 : Nat) (v : Option Value) (h : Heap) (L : List Loc) : Prop := v = some (.int (nar .boolean w)) ∧ Fr n0 L ∧ h = h0
set_option maxRecDepth 65536 in
set_option maxHeartbeats 40000000 in
theorem rmIc (l : Launch) (Z : State) (a0 : Array Value) (hw : ∀ d ∈ tables_1, d.before a0 Z = true) (ws : List Jvm.Cond) (a1 : Addr) (w : Int32) (h0 : Heap) (n0 : Nat) (Z0 : n0 ≤ h0.size) (pr0 : Fld Z h0 a1 "com/example/looseleaf/looseleaf/sql/MatchOperator" "ignoresCase" "Z" (.int w)) :
    MetFree l (⟨"com/example/looseleaf/looseleaf/sql/MatchOperator", "ignoresCase", "()Z"⟩ : MethodName) (head1 (Jvm.Cond.code (⟨"com/example/looseleaf/looseleaf/sql/MatchOperator", "ignoresCase", "()Z"⟩ : MethodName) prog_11_method_8_code 1 (some .boolean) :: ws) ({ frames := 0, cells := 0, slots := 0, locals := 0 } : Room)) (fun a U => a = #[(.ref a1)] ∧ Z.Warmed39 U.vm ∧ U.heap = h0) (fun _ _ _ _ _ => True) (fun _ U o U' => ∃ v L, o = .returned v ∧ QIc Z a1 w h0 n0 v U'.heap L ∧ FrameEnd U o U' L ({ frames := 0, cells := 0, slots := 0, locals := 0 } : Room).cells ({ frames := 0, cells := 0, slots := 0, locals := 0 } : Room).slots) := by
  refine MetFree.of_bodySF (plainFor_of_name pn_3) hisR ?_
  intro p e s m args below meth c s₁ Bd hml0 hP hK
  obtain ⟨rfl, hZ, hh⟩ := hP
  have hx := Bd.exec
  have hby := Bd.bytes
  have hml : c.maxLocals = 1 := hml0
  have hown : s.vm.findClass "com/example/looseleaf/looseleaf/sql/MatchOperator" = some m.cls := findClass_of_methodNamed Bd.named
  have hnm := (name_of_methodNamed Bd.named Bd.method).1
  have X0 : Stand p l e ({ frames := 0, cells := 0, slots := 0, locals := 0 } : Room) s m #[(.ref a1)] below meth c s₁ [] 0 0 := Stand.of_body Bd
  have hs0 : h0 = s.heap := hh.symm
  have e0 : s₁.heap = h0 := by rw [← hh, Bd.state]; rfl
  have N0 := Fr.nil n0
  obtain ⟨f0, hf0⟩ : ∃ f, f = entryFrame m #[(.ref a1)] 1 := ⟨_, rfl⟩
  have pre0 : ∀ t, Steps p.tables e below (s₁.setTop f0) t → Steps p.tables e below (s₁.setTop (entryFrame m #[(.ref a1)] 1)) t := fun t k => hf0 ▸ k
  have K0 : Gx p e below s₁ f0 s₁ (mkF m 0 #[.val (.ref a1)] []) := fun t kt => by rw [hf0]; exact castTop (ef_Ic m a1) kt
  have K1 : Gx p e below s₁ f0 s₁ (mkF m 1 #[.val (.ref a1)] [(.ref a1)]) := fun t kt => K0 t (by
    show Steps p.tables e below (s₁.setTop (mkF m 0 #[.val (.ref a1)] [])) _
    refine XS.aloadN X0.here hx rfl (hb hby d3_0) rfl rfl ?_
    exact kt)
  obtain ⟨T2, X2, e2, st2⟩ := getF X0 hx hZ hown (host := "") (Or.inl (hw _ (List.mem_of_getElem? (i := 18) rfl))) Via.refl e0 pr0 (g := (mkF m 1 #[.val (.ref a1)] [(.ref a1)])) rfl rfl (hb hby d3_1)
  have K3 : Gx p e below s₁ f0 T2 (mkF m 4 #[.val (.ref a1)] [(.int w)]) := fun t kt => K1 t (st2 t kt)
  obtain ⟨fs4, hr4, hrun4, hended4, hW4, hsame4⟩ := X2.leave (v := some (.int (nar .boolean w))) (fun h => by rw [Bd.returns] at h; cases h)
  refine ⟨_, _, pre0 _ (K3 _ ?_), hrun4, hended4, _, _, rfl, ?_, ⟨_, rfl⟩, hW4, hsame4.mono (by decide) (by decide)⟩
  · exact retN X2 hx (t := .boolean) Bd.returns (by simp) (hb hby d3_4) hr4
  · show QIc Z a1 w h0 n0 _ T2.heap _
    rw [e2]
    exact ⟨rfl, N0, rfl⟩
theorem d4_0 : decode prog_11_method_9_code 0 = .ok (.aload_n 0, 1) := by decide +kernel
theorem d4_1 : decode prog_11_method_9_code 1 = .ok (.getfield 58, 3) := by decide +kernel
theorem d4_4 : decode prog_11_method_9_code 4 = .ok (.ireturn, 1) := by decide +kernel
theorem pn_4 : plainName "com/example/looseleaf/looseleaf/sql/MatchOperator" = true := by first | (simp [plainName, overriddenIn]; done) | decide +kernel
theorem ef_Ng (m : MethodId) (a1 : Addr) : entryFrame m #[(.ref a1)] 1 = mkF m 0 #[.val (.ref a1)] [] := by first | (simp [entryFrame, mkF, argsToLocals, Value.category]; done) | rfl
def QNg (Z : State) (a1 : Addr) (w : Int32) (h0 : Heap) (n0 : Nat) (v : Option Value) (h : Heap) (L : List Loc) : Prop := v = some (.int (nar .boolean w)) ∧ Fr n0 L ∧ h = h0
set_option maxRecDepth 65536 in
set_option maxHeartbeats 40000000 in
theorem rmNg (l : Launch) (Z : State) (a0 : Array Value) (hw : ∀ d ∈ tables_1, d.before a0 Z = true) (ws : List Jvm.Cond) (a1 : Addr) (w : Int32) (h0 : Heap) (n0 : Nat) (Z0 : n0 ≤ h0.size) (pr0 : Fld Z h0 a1 "com/example/looseleaf/looseleaf/sql/MatchOperator" "negated" "Z" (.int w)) :
    MetFree l (⟨"com/example/looseleaf/looseleaf/sql/MatchOperator", "isNegated", "()Z"⟩ : MethodName) (head1 (Jvm.Cond.code (⟨"com/example/looseleaf/looseleaf/sql/MatchOperator", "isNegated", "()Z"⟩ : MethodName) prog_11_method_9_code 1 (some .boolean) :: ws) ({ frames := 0, cells := 0, slots := 0, locals := 0 } : Room)) (fun a U => a = #[(.ref a1)] ∧ Z.Warmed39 U.vm ∧ U.heap = h0) (fun _ _ _ _ _ => True) (fun _ U o U' => ∃ v L, o = .returned v ∧ QNg Z a1 w h0 n0 v U'.heap L ∧ FrameEnd U o U' L ({ frames := 0, cells := 0, slots := 0, locals := 0 } : Room).cells ({ frames := 0, cells := 0, slots := 0, locals := 0 } : Room).slots) := by
  refine MetFree.of_bodySF (plainFor_of_name pn_4) hisR ?_
  intro p e s m args below meth c s₁ Bd hml0 hP hK
  obtain ⟨rfl, hZ, hh⟩ := hP
  have hx := Bd.exec
  have hby := Bd.bytes
  have hml : c.maxLocals = 1 := hml0
  have hown : s.vm.findClass "com/example/looseleaf/looseleaf/sql/MatchOperator" = some m.cls := findClass_of_methodNamed Bd.named
  have hnm := (name_of_methodNamed Bd.named Bd.method).1
  have X0 : Stand p l e ({ frames := 0, cells := 0, slots := 0, locals := 0 } : Room) s m #[(.ref a1)] below meth c s₁ [] 0 0 := Stand.of_body Bd
  have hs0 : h0 = s.heap := hh.symm
  have e0 : s₁.heap = h0 := by rw [← hh, Bd.state]; rfl
  have N0 := Fr.nil n0
  obtain ⟨f0, hf0⟩ : ∃ f, f = entryFrame m #[(.ref a1)] 1 := ⟨_, rfl⟩
  have pre0 : ∀ t, Steps p.tables e below (s₁.setTop f0) t → Steps p.tables e below (s₁.setTop (entryFrame m #[(.ref a1)] 1)) t := fun t k => hf0 ▸ k
  have K0 : Gx p e below s₁ f0 s₁ (mkF m 0 #[.val (.ref a1)] []) := fun t kt => by rw [hf0]; exact castTop (ef_Ng m a1) kt
  have K1 : Gx p e below s₁ f0 s₁ (mkF m 1 #[.val (.ref a1)] [(.ref a1)]) := fun t kt => K0 t (by
    show Steps p.tables e below (s₁.setTop (mkF m 0 #[.val (.ref a1)] [])) _
    refine XS.aloadN X0.here hx rfl (hb hby d4_0) rfl rfl ?_
    exact kt)
  obtain ⟨T2, X2, e2, st2⟩ := getF X0 hx hZ hown (host := "") (Or.inl (hw _ (List.mem_of_getElem? (i := 25) rfl))) Via.refl e0 pr0 (g := (mkF m 1 #[.val (.ref a1)] [(.ref a1)])) rfl rfl (hb hby d4_1)
  have K3 : Gx p e below s₁ f0 T2 (mkF m 4 #[.val (.ref a1)] [(.int w)]) := fun t kt => K1 t (st2 t kt)
  obtain ⟨fs4, hr4, hrun4, hended4, hW4, hsame4⟩ := X2.leave (v := some (.int (nar .boolean w))) (fun h => by rw [Bd.returns] at h; cases h)
  refine ⟨_, _, pre0 _ (K3 _ ?_), hrun4, hended4, _, _, rfl, ?_, ⟨_, rfl⟩, hW4, hsame4.mono (by decide) (by decide)⟩
  · exact retN X2 hx (t := .boolean) Bd.returns (by simp) (hb hby d4_4) hr4
  · show QNg Z a1 w h0 n0 _ T2.heap _
    rw [e2]
    exact ⟨rfl, N0, rfl⟩
theorem pn_0 : plainName "com/example/looseleaf/looseleaf/sql/MatchOperatorLikePinLaw" = true := by first | (simp [plainName, overriddenIn]; done) | decide +kernel
theorem pd__ZZ_Lcom_example_looseleaf_looseleaf_sql_MatchOperator_ : parseMethodDescriptor "(ZZ)Lcom/example/looseleaf/looseleaf/sql/MatchOperator;" = some ⟨[.boolean, .boolean], some (.object "com/example/looseleaf/looseleaf/sql/MatchOperator")⟩ := by decide +kernel
theorem pd___Z : parseMethodDescriptor "()Z" = some ⟨[], some .boolean⟩ := by decide +kernel
theorem ef_0 (m : MethodId) (p1 : Int32) : entryFrame m #[(.int p1)] maxLocals = mkF m 0 #[.val (.int p1), .unset, .unset, .unset] [] := by first | (simp [entryFrame, mkF, argsToLocals, Value.category, maxLocals]; done) | rfl
def Q0 (Z : State) (p1 : Int32) (lk : Addr) (nl : Addr) (il : Addr) (ni : Addr) (h0 : Heap) (n0 : Nat) (v : Option Value) (h : Heap) (L : List Loc) : Prop := v = some (.int (1 : Int32)) ∧ Fr n0 L
set_option maxRecDepth 65536 in
set_option maxHeartbeats 40000000 in
theorem rm0 (l : Launch) (Z : State) (a0 : Array Value) (hw : ∀ d ∈ tables_1, d.before a0 Z = true) (ws : List Jvm.Cond) (p1 : Int32) (lk : Addr) (nl : Addr) (il : Addr) (ni : Addr) (h0 : Heap) (n0 : Nat) (Z0 : n0 ≤ h0.size) (pr0 : Sta Z h0 "com/example/looseleaf/looseleaf/sql/MatchOperator" "LIKE" "Lcom/example/looseleaf/looseleaf/sql/MatchOperator;" (.ref lk)) (pr1 : Sta Z h0 "com/example/looseleaf/looseleaf/sql/MatchOperator" "NOT_LIKE" "Lcom/example/looseleaf/looseleaf/sql/MatchOperator;" (.ref nl)) (pr2 : Sta Z h0 "com/example/looseleaf/looseleaf/sql/MatchOperator" "ILIKE" "Lcom/example/looseleaf/looseleaf/sql/MatchOperator;" (.ref il)) (pr3 : Sta Z h0 "com/example/looseleaf/looseleaf/sql/MatchOperator" "NOT_ILIKE" "Lcom/example/looseleaf/looseleaf/sql/MatchOperator;" (.ref ni)) (pr4 : Exa Z h0 lk "com/example/looseleaf/looseleaf/sql/MatchOperator") (pr5 : Exa Z h0 nl "com/example/looseleaf/looseleaf/sql/MatchOperator") (pr6 : Exa Z h0 il "com/example/looseleaf/looseleaf/sql/MatchOperator") (pr7 : Exa Z h0 ni "com/example/looseleaf/looseleaf/sql/MatchOperator") (pr8 : Fld Z h0 lk "com/example/looseleaf/looseleaf/sql/MatchOperator" "regex" "Z" (.int (0 : Int32))) (pr9 : Fld Z h0 nl "com/example/looseleaf/looseleaf/sql/MatchOperator" "regex" "Z" (.int (0 : Int32))) (pr10 : Fld Z h0 il "com/example/looseleaf/looseleaf/sql/MatchOperator" "regex" "Z" (.int (0 : Int32))) (pr11 : Fld Z h0 ni "com/example/looseleaf/looseleaf/sql/MatchOperator" "regex" "Z" (.int (0 : Int32))) (pr12 : Fld Z h0 lk "com/example/looseleaf/looseleaf/sql/MatchOperator" "ignoresCase" "Z" (.int (0 : Int32))) (pr13 : Fld Z h0 nl "com/example/looseleaf/looseleaf/sql/MatchOperator" "ignoresCase" "Z" (.int (0 : Int32))) (pr14 : Fld Z h0 il "com/example/looseleaf/looseleaf/sql/MatchOperator" "ignoresCase" "Z" (.int (1 : Int32))) (pr15 : Fld Z h0 ni "com/example/looseleaf/looseleaf/sql/MatchOperator" "ignoresCase" "Z" (.int (1 : Int32))) (pr16 : Fld Z h0 lk "com/example/looseleaf/looseleaf/sql/MatchOperator" "negated" "Z" (.int (0 : Int32))) (pr17 : Fld Z h0 nl "com/example/looseleaf/looseleaf/sql/MatchOperator" "negated" "Z" (.int (1 : Int32))) (pr18 : Fld Z h0 il "com/example/looseleaf/looseleaf/sql/MatchOperator" "negated" "Z" (.int (0 : Int32))) (pr19 : Fld Z h0 ni "com/example/looseleaf/looseleaf/sql/MatchOperator" "negated" "Z" (.int (1 : Int32))) :
    MetFree l x (head1 (Jvm.Cond.code x code maxLocals ret :: ws) room_1) (fun a U => a = #[(.int p1)] ∧ Z.Warmed39 U.vm ∧ U.heap = h0) (fun _ _ _ _ _ => True) (fun _ U o U' => ∃ v L, o = .returned v ∧ Q0 Z p1 lk nl il ni h0 n0 v U'.heap L ∧ FrameEnd U o U' L room_1.cells room_1.slots) := by
  refine MetFree.of_bodySF (plainFor_of_name pn_0) hisR ?_
  intro p e s m args below meth c s₁ Bd hml0 hP hK
  obtain ⟨rfl, hZ, hh⟩ := hP
  have hx := Bd.exec
  have hby := Bd.bytes
  have hml : c.maxLocals = 4 := hml0
  have hown : s.vm.findClass "com/example/looseleaf/looseleaf/sql/MatchOperatorLikePinLaw" = some m.cls := findClass_of_methodNamed Bd.named
  have hnm := (name_of_methodNamed Bd.named Bd.method).1
  have X0 : Stand p l e room_1 s m #[(.int p1)] below meth c s₁ [] 0 0 := Stand.of_body Bd
  have hs0 : h0 = s.heap := hh.symm
  have e0 : s₁.heap = h0 := by rw [← hh, Bd.state]; rfl
  have N0 := Fr.nil n0
  obtain ⟨f0, hf0⟩ : ∃ f, f = entryFrame m #[(.int p1)] maxLocals := ⟨_, rfl⟩
  have pre0 : ∀ t, Steps p.tables e below (s₁.setTop f0) t → Steps p.tables e below (s₁.setTop (entryFrame m #[(.int p1)] maxLocals)) t := fun t k => hf0 ▸ k
  have K0 : Gx p e below s₁ f0 s₁ (mkF m 0 #[.val (.int p1), .unset, .unset, .unset] []) := fun t kt => by rw [hf0]; exact castTop (ef_0 m p1) kt
  have K1 : Gx p e below s₁ f0 s₁ (mkF m 3 #[.val (.int p1), .unset, .unset, .unset] [(.int (p1 &&& (1 : Int32)))]) := fun t kt => K0 t (by
    show Steps p.tables e below (s₁.setTop (mkF m 0 #[.val (.int p1), .unset, .unset, .unset] [])) _
    refine XS.iloadN X0.here hx rfl (hb hby at_0) rfl ?_
    show Steps p.tables e below (s₁.setTop (mkF m 1 #[.val (.int p1), .unset, .unset, .unset] [(.int p1)])) _
    refine XS.iconst X0.here hx rfl (hb hby at_1) ?_
    show Steps p.tables e below (s₁.setTop (mkF m 2 #[.val (.int p1), .unset, .unset, .unset] [(.int (1 : Int32)), (.int p1)])) _
    refine XS.iand X0.here hx rfl (hb hby at_2) rfl ?_
    exact kt)
  by_cases hb2 : (p1 &&& (1 : Int32)) = (0 : Int32)
  · skip
    have K3 : Gx p e below s₁ f0 s₁ (mkF m 15 #[.val (.int p1), .val (.int (0 : Int32)), .unset, .unset] [(.int (p1 &&& (2 : Int32)))]) := fun t kt => K1 t (by
      show Steps p.tables e below (s₁.setTop (mkF m 3 #[.val (.int p1), .unset, .unset, .unset] [(.int (p1 &&& (1 : Int32)))])) _
      refine XS.ifYes X0.here hx rfl (pc0 := 3) (pc' := 10) rfl (hb hby at_3) rfl ((if0 _ _).trans (teq hb2).1) (by decide) (by decide) ?_
      show Steps p.tables e below (s₁.setTop (mkF m 10 #[.val (.int p1), .unset, .unset, .unset] [])) _
      refine XS.iconst X0.here hx rfl (hb hby at_10) ?_
      show Steps p.tables e below (s₁.setTop (mkF m 11 #[.val (.int p1), .unset, .unset, .unset] [(.int (0 : Int32))])) _
      refine XS.istoreN X0.here hx rfl (hb hby at_11) rfl (l' := #[.val (.int p1), .val (.int (0 : Int32)), .unset, .unset]) rfl ?_
      show Steps p.tables e below (s₁.setTop (mkF m 12 #[.val (.int p1), .val (.int (0 : Int32)), .unset, .unset] [])) _
      refine XS.iloadN X0.here hx rfl (hb hby at_12) rfl ?_
      show Steps p.tables e below (s₁.setTop (mkF m 13 #[.val (.int p1), .val (.int (0 : Int32)), .unset, .unset] [(.int p1)])) _
      refine XS.iconst X0.here hx rfl (hb hby at_13) ?_
      show Steps p.tables e below (s₁.setTop (mkF m 14 #[.val (.int p1), .val (.int (0 : Int32)), .unset, .unset] [(.int (2 : Int32)), (.int p1)])) _
      refine XS.iand X0.here hx rfl (hb hby at_14) rfl ?_
      exact kt)
    by_cases hb4 : (p1 &&& (2 : Int32)) = (0 : Int32)
    · skip
      have K5 : Gx p e below s₁ f0 s₁ (mkF m 26 #[.val (.int p1), .val (.int (0 : Int32)), .val (.int (0 : Int32)), .unset] [(.int (0 : Int32)), (.int (0 : Int32))]) := fun t kt => K3 t (by
        show Steps p.tables e below (s₁.setTop (mkF m 15 #[.val (.int p1), .val (.int (0 : Int32)), .unset, .unset] [(.int (p1 &&& (2 : Int32)))])) _
        refine XS.ifYes X0.here hx rfl (pc0 := 15) (pc' := 22) rfl (hb hby at_15) rfl ((if0 _ _).trans (teq hb4).1) (by decide) (by decide) ?_
        show Steps p.tables e below (s₁.setTop (mkF m 22 #[.val (.int p1), .val (.int (0 : Int32)), .unset, .unset] [])) _
        refine XS.iconst X0.here hx rfl (hb hby at_22) ?_
        show Steps p.tables e below (s₁.setTop (mkF m 23 #[.val (.int p1), .val (.int (0 : Int32)), .unset, .unset] [(.int (0 : Int32))])) _
        refine XS.istoreN X0.here hx rfl (hb hby at_23) rfl (l' := #[.val (.int p1), .val (.int (0 : Int32)), .val (.int (0 : Int32)), .unset]) rfl ?_
        show Steps p.tables e below (s₁.setTop (mkF m 24 #[.val (.int p1), .val (.int (0 : Int32)), .val (.int (0 : Int32)), .unset] [])) _
        refine XS.iloadN X0.here hx rfl (hb hby at_24) rfl ?_
        show Steps p.tables e below (s₁.setTop (mkF m 25 #[.val (.int p1), .val (.int (0 : Int32)), .val (.int (0 : Int32)), .unset] [(.int (0 : Int32))])) _
        refine XS.iloadN X0.here hx rfl (hb hby at_25) rfl ?_
        exact kt)
      obtain ⟨_, _, ⟨T6, L6, k6, n6⟩, -, X6', ⟨Lc6, hQ6, l6, y6, z6⟩, st6⟩ := Jvm.LawKit.callS X0 hx (y := (⟨"com/example/looseleaf/looseleaf/sql/MatchOperator", "like", "(ZZ)Lcom/example/looseleaf/looseleaf/sql/MatchOperator;"⟩ : MethodName)) hown (mvT hZ (hw _ (List.mem_of_getElem? (i := 0) rfl))) (mvT hZ (hw _ (List.mem_of_getElem? (i := 1) rfl))) (mvT hZ (hw _ (List.mem_of_getElem? (i := 2) rfl))) (mvT hZ (hw _ (List.mem_of_getElem? (i := 3) rfl))) (by decide) (backOf (W := 0) (rmLik l Z a0 hw [] (0 : Int32) (0 : Int32) lk nl il ni h0 n0 (Nat.le_trans Z0 (Keep.refl h0 []).1) pr0 pr1 pr2 pr3) hZ (hw _ (List.mem_of_getElem? (i := 3) rfl)) (hw _ (List.mem_of_getElem? (i := 2) rfl)) (by decide) (by decide)) (g := (mkF m 26 #[.val (.int p1), .val (.int (0 : Int32)), .val (.int (0 : Int32)), .unset] [(.int (0 : Int32)), (.int (0 : Int32))])) rfl (by rw [hml]; rfl) (argsL := [(.int (0 : Int32)), (.int (0 : Int32))]) (rest := []) (lenOf pd__ZZ_Lcom_example_looseleaf_looseleaf_sql_MatchOperator_ rfl) rfl (by show 2 * 0 + _ ≤ _; exact Nat.le_of_eq rfl) (hb hby at_26) (fun _ _ => ⟨rfl, e0, (by decide : 0 + 0 ≤ _), (by decide : 0 + 0 ≤ _)⟩)
      dsimp only [Pt.U, Pt.locs, Pt.cells, Pt.slots] at X6' l6 y6 z6 st6 hQ6
      subst l6 y6 z6
      obtain ⟨rfl, N6q, e6⟩ := hQ6
      obtain ⟨lc6, X6, N6⟩ : ∃ lc, Stand p l e room_1 s m #[(.int p1)] below meth c T6 lc 0 0 ∧ Fr n0 lc := ⟨_, X6', Fr.app N0 N6q⟩
      have K7 : Gx p e below s₁ f0 T6 (mkF m 29 #[.val (.int p1), .val (.int (0 : Int32)), .val (.int (0 : Int32)), .unset] [(.ref (likeF lk nl il ni (0 : Int32) (0 : Int32)))]) := fun t kt => K5 t (st6 t kt)
      rw [(show (likeF lk nl il ni (0 : Int32) (0 : Int32)) = lk from by unfold likeF; simp)] at K7
      have K8 : Gx p e below s₁ f0 T6 (mkF m 37 #[.val (.int p1), .val (.int (0 : Int32)), .val (.int (0 : Int32)), .val (.ref lk)] [(.ref lk)]) := fun t kt => K7 t (by
        show Steps p.tables e below (T6.setTop (mkF m 29 #[.val (.int p1), .val (.int (0 : Int32)), .val (.int (0 : Int32)), .unset] [(.ref lk)])) _
        refine XS.astoreN X6.here hx rfl (hb hby at_29) rfl rfl (l' := #[.val (.int p1), .val (.int (0 : Int32)), .val (.int (0 : Int32)), .val (.ref lk)]) rfl ?_
        show Steps p.tables e below (T6.setTop (mkF m 30 #[.val (.int p1), .val (.int (0 : Int32)), .val (.int (0 : Int32)), .val (.ref lk)] [])) _
        refine XS.aloadN X6.here hx rfl (hb hby at_30) rfl rfl ?_
        show Steps p.tables e below (T6.setTop (mkF m 31 #[.val (.int p1), .val (.int (0 : Int32)), .val (.int (0 : Int32)), .val (.ref lk)] [(.ref lk)])) _
        refine XS.ifnonnullYes X6.here hx rfl (pc0 := 31) (pc' := 36) rfl (hb hby at_31) rfl (by decide) (by decide) ?_
        show Steps p.tables e below (T6.setTop (mkF m 36 #[.val (.int p1), .val (.int (0 : Int32)), .val (.int (0 : Int32)), .val (.ref lk)] [])) _
        refine XS.aloadN X6.here hx rfl (hb hby at_36) rfl rfl ?_
        exact kt)
      obtain ⟨cq9, kq9, q9a, q9b, q9c⟩ := isOf hZ e6 pr4
      obtain ⟨_, _, ⟨T9, L9, k9, n9⟩, -, X9', ⟨Lc9, hQ9, l9, y9, z9⟩, st9⟩ := X6.virtualBack hx (y := (⟨"com/example/looseleaf/looseleaf/sql/MatchOperator", "isRegex", "()Z"⟩ : MethodName)) (z := (⟨"com/example/looseleaf/looseleaf/sql/MatchOperator", "isRegex", "()Z"⟩ : MethodName)) hown (mvT hZ (hw _ (List.mem_of_getElem? (i := 6) rfl))) (mvT hZ (hw _ (List.mem_of_getElem? (i := 7) rfl))) (notFace_of_selects (args := #[]) (mvT hZ (hw _ (List.mem_of_getElem? (i := 9) rfl)))) (mvT hZ (hw _ (List.mem_of_getElem? (i := 9) rfl))) (mvT hZ (hw _ (List.mem_of_getElem? (i := 8) rfl))) (by decide) (backOf (W := 0) (rmRx l Z a0 hw [] lk (0 : Int32) h0 n0 (Nat.le_trans Z0 (Keep.refl h0 []).1) pr8) hZ (hw _ (List.mem_of_getElem? (i := 10) rfl)) (hw _ (List.mem_of_getElem? (i := 2) rfl)) (by decide) (by decide)) q9a q9c (g := (mkF m 37 #[.val (.int p1), .val (.int (0 : Int32)), .val (.int (0 : Int32)), .val (.ref lk)] [(.ref lk)])) rfl (by rw [hml]; rfl) (Steps.refl _) (argsL := []) (rest := []) (lenOf pd___Z rfl) rfl (by show 2 * 0 + _ ≤ _; exact Nat.le_of_eq rfl) (hb hby at_37) (fun _ _ => ⟨rfl, e6, (by decide : 0 + 0 ≤ _), (by decide : 0 + 0 ≤ _)⟩)
      dsimp only [Pt.U, Pt.locs, Pt.cells, Pt.slots] at X9' l9 y9 z9 st9 hQ9
      subst l9 y9 z9
      obtain ⟨rfl, N9q, e9⟩ := hQ9
      obtain ⟨lc9, X9, N9⟩ : ∃ lc, Stand p l e room_1 s m #[(.int p1)] below meth c T9 lc 0 0 ∧ Fr n0 lc := ⟨_, X9', Fr.app N6 N9q⟩
      have K10 : Gx p e below s₁ f0 T9 (mkF m 40 #[.val (.int p1), .val (.int (0 : Int32)), .val (.int (0 : Int32)), .val (.ref lk)] [(.int (nar .boolean (0 : Int32)))]) := fun t kt => K8 t (st9.trans kt)
      rw [(show (nar .boolean (0 : Int32)) = (0 : Int32) from by decide)] at K10
      have K11 : Gx p e below s₁ f0 T9 (mkF m 44 #[.val (.int p1), .val (.int (0 : Int32)), .val (.int (0 : Int32)), .val (.ref lk)] [(.ref lk)]) := fun t kt => K10 t (by
        show Steps p.tables e below (T9.setTop (mkF m 40 #[.val (.int p1), .val (.int (0 : Int32)), .val (.int (0 : Int32)), .val (.ref lk)] [(.int (0 : Int32))])) _
        refine XS.ifNo X9.here hx rfl (hb hby at_40) rfl ((if0 _ _).trans (teq (by decide)).2) ?_
        show Steps p.tables e below (T9.setTop (mkF m 43 #[.val (.int p1), .val (.int (0 : Int32)), .val (.int (0 : Int32)), .val (.ref lk)] [])) _
        refine XS.aloadN X9.here hx rfl (hb hby at_43) rfl rfl ?_
        exact kt)
      obtain ⟨cq12, kq12, q12a, q12b, q12c⟩ := isOf hZ e9 pr4
      obtain ⟨_, _, ⟨T12, L12, k12, n12⟩, -, X12', ⟨Lc12, hQ12, l12, y12, z12⟩, st12⟩ := X9.virtualBack hx (y := (⟨"com/example/looseleaf/looseleaf/sql/MatchOperator", "ignoresCase", "()Z"⟩ : MethodName)) (z := (⟨"com/example/looseleaf/looseleaf/sql/MatchOperator", "ignoresCase", "()Z"⟩ : MethodName)) hown (mvT hZ (hw _ (List.mem_of_getElem? (i := 13) rfl))) (mvT hZ (hw _ (List.mem_of_getElem? (i := 14) rfl))) (notFace_of_selects (args := #[]) (mvT hZ (hw _ (List.mem_of_getElem? (i := 16) rfl)))) (mvT hZ (hw _ (List.mem_of_getElem? (i := 16) rfl))) (mvT hZ (hw _ (List.mem_of_getElem? (i := 15) rfl))) (by decide) (backOf (W := 0) (rmIc l Z a0 hw [] lk (0 : Int32) h0 n0 (Nat.le_trans Z0 (Keep.refl h0 []).1) pr12) hZ (hw _ (List.mem_of_getElem? (i := 17) rfl)) (hw _ (List.mem_of_getElem? (i := 2) rfl)) (by decide) (by decide)) q12a q12c (g := (mkF m 44 #[.val (.int p1), .val (.int (0 : Int32)), .val (.int (0 : Int32)), .val (.ref lk)] [(.ref lk)])) rfl (by rw [hml]; rfl) (Steps.refl _) (argsL := []) (rest := []) (lenOf pd___Z rfl) rfl (by show 2 * 0 + _ ≤ _; exact Nat.le_of_eq rfl) (hb hby at_44) (fun _ _ => ⟨rfl, e9, (by decide : 0 + 0 ≤ _), (by decide : 0 + 0 ≤ _)⟩)
      dsimp only [Pt.U, Pt.locs, Pt.cells, Pt.slots] at X12' l12 y12 z12 st12 hQ12
      subst l12 y12 z12
      obtain ⟨rfl, N12q, e12⟩ := hQ12
      obtain ⟨lc12, X12, N12⟩ : ∃ lc, Stand p l e room_1 s m #[(.int p1)] below meth c T12 lc 0 0 ∧ Fr n0 lc := ⟨_, X12', Fr.app N9 N12q⟩
      have K13 : Gx p e below s₁ f0 T12 (mkF m 47 #[.val (.int p1), .val (.int (0 : Int32)), .val (.int (0 : Int32)), .val (.ref lk)] [(.int (nar .boolean (0 : Int32)))]) := fun t kt => K11 t (st12.trans kt)
      rw [(show (nar .boolean (0 : Int32)) = (0 : Int32) from by decide)] at K13
      have K14 : Gx p e below s₁ f0 T12 (mkF m 52 #[.val (.int p1), .val (.int (0 : Int32)), .val (.int (0 : Int32)), .val (.ref lk)] [(.ref lk)]) := fun t kt => K13 t (by
        show Steps p.tables e below (T12.setTop (mkF m 47 #[.val (.int p1), .val (.int (0 : Int32)), .val (.int (0 : Int32)), .val (.ref lk)] [(.int (0 : Int32))])) _
        refine XS.iloadN X12.here hx rfl (hb hby at_47) rfl ?_
        show Steps p.tables e below (T12.setTop (mkF m 48 #[.val (.int p1), .val (.int (0 : Int32)), .val (.int (0 : Int32)), .val (.ref lk)] [(.int (0 : Int32)), (.int (0 : Int32))])) _
        refine XS.icmpNo X12.here hx rfl (hb hby at_48) rfl (teq (by decide)).2 ?_
        show Steps p.tables e below (T12.setTop (mkF m 51 #[.val (.int p1), .val (.int (0 : Int32)), .val (.int (0 : Int32)), .val (.ref lk)] [])) _
        refine XS.aloadN X12.here hx rfl (hb hby at_51) rfl rfl ?_
        exact kt)
      obtain ⟨cq15, kq15, q15a, q15b, q15c⟩ := isOf hZ e12 pr4
      obtain ⟨_, _, ⟨T15, L15, k15, n15⟩, -, X15', ⟨Lc15, hQ15, l15, y15, z15⟩, st15⟩ := X12.virtualBack hx (y := (⟨"com/example/looseleaf/looseleaf/sql/MatchOperator", "isNegated", "()Z"⟩ : MethodName)) (z := (⟨"com/example/looseleaf/looseleaf/sql/MatchOperator", "isNegated", "()Z"⟩ : MethodName)) hown (mvT hZ (hw _ (List.mem_of_getElem? (i := 20) rfl))) (mvT hZ (hw _ (List.mem_of_getElem? (i := 21) rfl))) (notFace_of_selects (args := #[]) (mvT hZ (hw _ (List.mem_of_getElem? (i := 23) rfl)))) (mvT hZ (hw _ (List.mem_of_getElem? (i := 23) rfl))) (mvT hZ (hw _ (List.mem_of_getElem? (i := 22) rfl))) (by decide) (backOf (W := 0) (rmNg l Z a0 hw [] lk (0 : Int32) h0 n0 (Nat.le_trans Z0 (Keep.refl h0 []).1) pr16) hZ (hw _ (List.mem_of_getElem? (i := 24) rfl)) (hw _ (List.mem_of_getElem? (i := 2) rfl)) (by decide) (by decide)) q15a q15c (g := (mkF m 52 #[.val (.int p1), .val (.int (0 : Int32)), .val (.int (0 : Int32)), .val (.ref lk)] [(.ref lk)])) rfl (by rw [hml]; rfl) (Steps.refl _) (argsL := []) (rest := []) (lenOf pd___Z rfl) rfl (by show 2 * 0 + _ ≤ _; exact Nat.le_of_eq rfl) (hb hby at_52) (fun _ _ => ⟨rfl, e12, (by decide : 0 + 0 ≤ _), (by decide : 0 + 0 ≤ _)⟩)
      dsimp only [Pt.U, Pt.locs, Pt.cells, Pt.slots] at X15' l15 y15 z15 st15 hQ15
      subst l15 y15 z15
      obtain ⟨rfl, N15q, e15⟩ := hQ15
      obtain ⟨lc15, X15, N15⟩ : ∃ lc, Stand p l e room_1 s m #[(.int p1)] below meth c T15 lc 0 0 ∧ Fr n0 lc := ⟨_, X15', Fr.app N12 N15q⟩
      have K16 : Gx p e below s₁ f0 T15 (mkF m 55 #[.val (.int p1), .val (.int (0 : Int32)), .val (.int (0 : Int32)), .val (.ref lk)] [(.int (nar .boolean (0 : Int32)))]) := fun t kt => K14 t (st15.trans kt)
      rw [(show (nar .boolean (0 : Int32)) = (0 : Int32) from by decide)] at K16
      have K17 : Gx p e below s₁ f0 T15 (mkF m 64 #[.val (.int p1), .val (.int (0 : Int32)), .val (.int (0 : Int32)), .val (.ref lk)] [(.int (1 : Int32))]) := fun t kt => K16 t (by
        show Steps p.tables e below (T15.setTop (mkF m 55 #[.val (.int p1), .val (.int (0 : Int32)), .val (.int (0 : Int32)), .val (.ref lk)] [(.int (0 : Int32))])) _
        refine XS.iloadN X15.here hx rfl (hb hby at_55) rfl ?_
        show Steps p.tables e below (T15.setTop (mkF m 56 #[.val (.int p1), .val (.int (0 : Int32)), .val (.int (0 : Int32)), .val (.ref lk)] [(.int (0 : Int32)), (.int (0 : Int32))])) _
        refine XS.icmpNo X15.here hx rfl (hb hby at_56) rfl (teq (by decide)).2 ?_
        show Steps p.tables e below (T15.setTop (mkF m 59 #[.val (.int p1), .val (.int (0 : Int32)), .val (.int (0 : Int32)), .val (.ref lk)] [])) _
        refine XS.iconst X15.here hx rfl (hb hby at_59) ?_
        show Steps p.tables e below (T15.setTop (mkF m 60 #[.val (.int p1), .val (.int (0 : Int32)), .val (.int (0 : Int32)), .val (.ref lk)] [(.int (1 : Int32))])) _
        refine XS.goto X15.here hx rfl (pc0 := 60) (pc' := 64) rfl (hb hby at_60) (by decide) (by decide) ?_
        exact kt)
      obtain ⟨fs18, hr18, hrun18, hended18, hW18, hsame18⟩ := X15.leave (v := some (.int (1 : Int32))) (fun h => by rw [Bd.returns] at h; cases h)
      refine ⟨_, _, pre0 _ (K17 _ ?_), hrun18, hended18, _, _, rfl, ?_, ⟨_, rfl⟩, hW18, hsame18.mono (by decide) (by decide)⟩
      · exact retN X15 hx (t := .boolean) Bd.returns (by simp) (hb hby at_64) hr18
      · show Q0 Z p1 lk nl il ni h0 n0 _ T15.heap _
        rw [e15]
        exact ⟨rfl, N15⟩
    · skip
      have K19 : Gx p e below s₁ f0 s₁ (mkF m 26 #[.val (.int p1), .val (.int (0 : Int32)), .val (.int (1 : Int32)), .unset] [(.int (1 : Int32)), (.int (0 : Int32))]) := fun t kt => K3 t (by
        show Steps p.tables e below (s₁.setTop (mkF m 15 #[.val (.int p1), .val (.int (0 : Int32)), .unset, .unset] [(.int (p1 &&& (2 : Int32)))])) _
        refine XS.ifNo X0.here hx rfl (hb hby at_15) rfl ((if0 _ _).trans (feq hb4).1) ?_
        show Steps p.tables e below (s₁.setTop (mkF m 18 #[.val (.int p1), .val (.int (0 : Int32)), .unset, .unset] [])) _
        refine XS.iconst X0.here hx rfl (hb hby at_18) ?_
        show Steps p.tables e below (s₁.setTop (mkF m 19 #[.val (.int p1), .val (.int (0 : Int32)), .unset, .unset] [(.int (1 : Int32))])) _
        refine XS.goto X0.here hx rfl (pc0 := 19) (pc' := 23) rfl (hb hby at_19) (by decide) (by decide) ?_
        show Steps p.tables e below (s₁.setTop (mkF m 23 #[.val (.int p1), .val (.int (0 : Int32)), .unset, .unset] [(.int (1 : Int32))])) _
        refine XS.istoreN X0.here hx rfl (hb hby at_23) rfl (l' := #[.val (.int p1), .val (.int (0 : Int32)), .val (.int (1 : Int32)), .unset]) rfl ?_
        show Steps p.tables e below (s₁.setTop (mkF m 24 #[.val (.int p1), .val (.int (0 : Int32)), .val (.int (1 : Int32)), .unset] [])) _
        refine XS.iloadN X0.here hx rfl (hb hby at_24) rfl ?_
        show Steps p.tables e below (s₁.setTop (mkF m 25 #[.val (.int p1), .val (.int (0 : Int32)), .val (.int (1 : Int32)), .unset] [(.int (0 : Int32))])) _
        refine XS.iloadN X0.here hx rfl (hb hby at_25) rfl ?_
        exact kt)
      obtain ⟨_, _, ⟨T20, L20, k20, n20⟩, -, X20', ⟨Lc20, hQ20, l20, y20, z20⟩, st20⟩ := Jvm.LawKit.callS X0 hx (y := (⟨"com/example/looseleaf/looseleaf/sql/MatchOperator", "like", "(ZZ)Lcom/example/looseleaf/looseleaf/sql/MatchOperator;"⟩ : MethodName)) hown (mvT hZ (hw _ (List.mem_of_getElem? (i := 0) rfl))) (mvT hZ (hw _ (List.mem_of_getElem? (i := 1) rfl))) (mvT hZ (hw _ (List.mem_of_getElem? (i := 2) rfl))) (mvT hZ (hw _ (List.mem_of_getElem? (i := 3) rfl))) (by decide) (backOf (W := 0) (rmLik l Z a0 hw [] (0 : Int32) (1 : Int32) lk nl il ni h0 n0 (Nat.le_trans Z0 (Keep.refl h0 []).1) pr0 pr1 pr2 pr3) hZ (hw _ (List.mem_of_getElem? (i := 3) rfl)) (hw _ (List.mem_of_getElem? (i := 2) rfl)) (by decide) (by decide)) (g := (mkF m 26 #[.val (.int p1), .val (.int (0 : Int32)), .val (.int (1 : Int32)), .unset] [(.int (1 : Int32)), (.int (0 : Int32))])) rfl (by rw [hml]; rfl) (argsL := [(.int (0 : Int32)), (.int (1 : Int32))]) (rest := []) (lenOf pd__ZZ_Lcom_example_looseleaf_looseleaf_sql_MatchOperator_ rfl) rfl (by show 2 * 0 + _ ≤ _; exact Nat.le_of_eq rfl) (hb hby at_26) (fun _ _ => ⟨rfl, e0, (by decide : 0 + 0 ≤ _), (by decide : 0 + 0 ≤ _)⟩)
      dsimp only [Pt.U, Pt.locs, Pt.cells, Pt.slots] at X20' l20 y20 z20 st20 hQ20
      subst l20 y20 z20
      obtain ⟨rfl, N20q, e20⟩ := hQ20
      obtain ⟨lc20, X20, N20⟩ : ∃ lc, Stand p l e room_1 s m #[(.int p1)] below meth c T20 lc 0 0 ∧ Fr n0 lc := ⟨_, X20', Fr.app N0 N20q⟩
      have K21 : Gx p e below s₁ f0 T20 (mkF m 29 #[.val (.int p1), .val (.int (0 : Int32)), .val (.int (1 : Int32)), .unset] [(.ref (likeF lk nl il ni (0 : Int32) (1 : Int32)))]) := fun t kt => K19 t (st20 t kt)
      rw [(show (likeF lk nl il ni (0 : Int32) (1 : Int32)) = nl from by unfold likeF; simp)] at K21
      have K22 : Gx p e below s₁ f0 T20 (mkF m 37 #[.val (.int p1), .val (.int (0 : Int32)), .val (.int (1 : Int32)), .val (.ref nl)] [(.ref nl)]) := fun t kt => K21 t (by
        show Steps p.tables e below (T20.setTop (mkF m 29 #[.val (.int p1), .val (.int (0 : Int32)), .val (.int (1 : Int32)), .unset] [(.ref nl)])) _
        refine XS.astoreN X20.here hx rfl (hb hby at_29) rfl rfl (l' := #[.val (.int p1), .val (.int (0 : Int32)), .val (.int (1 : Int32)), .val (.ref nl)]) rfl ?_
        show Steps p.tables e below (T20.setTop (mkF m 30 #[.val (.int p1), .val (.int (0 : Int32)), .val (.int (1 : Int32)), .val (.ref nl)] [])) _
        refine XS.aloadN X20.here hx rfl (hb hby at_30) rfl rfl ?_
        show Steps p.tables e below (T20.setTop (mkF m 31 #[.val (.int p1), .val (.int (0 : Int32)), .val (.int (1 : Int32)), .val (.ref nl)] [(.ref nl)])) _
        refine XS.ifnonnullYes X20.here hx rfl (pc0 := 31) (pc' := 36) rfl (hb hby at_31) rfl (by decide) (by decide) ?_
        show Steps p.tables e below (T20.setTop (mkF m 36 #[.val (.int p1), .val (.int (0 : Int32)), .val (.int (1 : Int32)), .val (.ref nl)] [])) _
        refine XS.aloadN X20.here hx rfl (hb hby at_36) rfl rfl ?_
        exact kt)
      obtain ⟨cq23, kq23, q23a, q23b, q23c⟩ := isOf hZ e20 pr5
      obtain ⟨_, _, ⟨T23, L23, k23, n23⟩, -, X23', ⟨Lc23, hQ23, l23, y23, z23⟩, st23⟩ := X20.virtualBack hx (y := (⟨"com/example/looseleaf/looseleaf/sql/MatchOperator", "isRegex", "()Z"⟩ : MethodName)) (z := (⟨"com/example/looseleaf/looseleaf/sql/MatchOperator", "isRegex", "()Z"⟩ : MethodName)) hown (mvT hZ (hw _ (List.mem_of_getElem? (i := 6) rfl))) (mvT hZ (hw _ (List.mem_of_getElem? (i := 7) rfl))) (notFace_of_selects (args := #[]) (mvT hZ (hw _ (List.mem_of_getElem? (i := 9) rfl)))) (mvT hZ (hw _ (List.mem_of_getElem? (i := 9) rfl))) (mvT hZ (hw _ (List.mem_of_getElem? (i := 8) rfl))) (by decide) (backOf (W := 0) (rmRx l Z a0 hw [] nl (0 : Int32) h0 n0 (Nat.le_trans Z0 (Keep.refl h0 []).1) pr9) hZ (hw _ (List.mem_of_getElem? (i := 10) rfl)) (hw _ (List.mem_of_getElem? (i := 2) rfl)) (by decide) (by decide)) q23a q23c (g := (mkF m 37 #[.val (.int p1), .val (.int (0 : Int32)), .val (.int (1 : Int32)), .val (.ref nl)] [(.ref nl)])) rfl (by rw [hml]; rfl) (Steps.refl _) (argsL := []) (rest := []) (lenOf pd___Z rfl) rfl (by show 2 * 0 + _ ≤ _; exact Nat.le_of_eq rfl) (hb hby at_37) (fun _ _ => ⟨rfl, e20, (by decide : 0 + 0 ≤ _), (by decide : 0 + 0 ≤ _)⟩)
      dsimp only [Pt.U, Pt.locs, Pt.cells, Pt.slots] at X23' l23 y23 z23 st23 hQ23
      subst l23 y23 z23
      obtain ⟨rfl, N23q, e23⟩ := hQ23
      obtain ⟨lc23, X23, N23⟩ : ∃ lc, Stand p l e room_1 s m #[(.int p1)] below meth c T23 lc 0 0 ∧ Fr n0 lc := ⟨_, X23', Fr.app N20 N23q⟩
      have K24 : Gx p e below s₁ f0 T23 (mkF m 40 #[.val (.int p1), .val (.int (0 : Int32)), .val (.int (1 : Int32)), .val (.ref nl)] [(.int (nar .boolean (0 : Int32)))]) := fun t kt => K22 t (st23.trans kt)
      rw [(show (nar .boolean (0 : Int32)) = (0 : Int32) from by decide)] at K24
      have K25 : Gx p e below s₁ f0 T23 (mkF m 44 #[.val (.int p1), .val (.int (0 : Int32)), .val (.int (1 : Int32)), .val (.ref nl)] [(.ref nl)]) := fun t kt => K24 t (by
        show Steps p.tables e below (T23.setTop (mkF m 40 #[.val (.int p1), .val (.int (0 : Int32)), .val (.int (1 : Int32)), .val (.ref nl)] [(.int (0 : Int32))])) _
        refine XS.ifNo X23.here hx rfl (hb hby at_40) rfl ((if0 _ _).trans (teq (by decide)).2) ?_
        show Steps p.tables e below (T23.setTop (mkF m 43 #[.val (.int p1), .val (.int (0 : Int32)), .val (.int (1 : Int32)), .val (.ref nl)] [])) _
        refine XS.aloadN X23.here hx rfl (hb hby at_43) rfl rfl ?_
        exact kt)
      obtain ⟨cq26, kq26, q26a, q26b, q26c⟩ := isOf hZ e23 pr5
      obtain ⟨_, _, ⟨T26, L26, k26, n26⟩, -, X26', ⟨Lc26, hQ26, l26, y26, z26⟩, st26⟩ := X23.virtualBack hx (y := (⟨"com/example/looseleaf/looseleaf/sql/MatchOperator", "ignoresCase", "()Z"⟩ : MethodName)) (z := (⟨"com/example/looseleaf/looseleaf/sql/MatchOperator", "ignoresCase", "()Z"⟩ : MethodName)) hown (mvT hZ (hw _ (List.mem_of_getElem? (i := 13) rfl))) (mvT hZ (hw _ (List.mem_of_getElem? (i := 14) rfl))) (notFace_of_selects (args := #[]) (mvT hZ (hw _ (List.mem_of_getElem? (i := 16) rfl)))) (mvT hZ (hw _ (List.mem_of_getElem? (i := 16) rfl))) (mvT hZ (hw _ (List.mem_of_getElem? (i := 15) rfl))) (by decide) (backOf (W := 0) (rmIc l Z a0 hw [] nl (0 : Int32) h0 n0 (Nat.le_trans Z0 (Keep.refl h0 []).1) pr13) hZ (hw _ (List.mem_of_getElem? (i := 17) rfl)) (hw _ (List.mem_of_getElem? (i := 2) rfl)) (by decide) (by decide)) q26a q26c (g := (mkF m 44 #[.val (.int p1), .val (.int (0 : Int32)), .val (.int (1 : Int32)), .val (.ref nl)] [(.ref nl)])) rfl (by rw [hml]; rfl) (Steps.refl _) (argsL := []) (rest := []) (lenOf pd___Z rfl) rfl (by show 2 * 0 + _ ≤ _; exact Nat.le_of_eq rfl) (hb hby at_44) (fun _ _ => ⟨rfl, e23, (by decide : 0 + 0 ≤ _), (by decide : 0 + 0 ≤ _)⟩)
      dsimp only [Pt.U, Pt.locs, Pt.cells, Pt.slots] at X26' l26 y26 z26 st26 hQ26
      subst l26 y26 z26
      obtain ⟨rfl, N26q, e26⟩ := hQ26
      obtain ⟨lc26, X26, N26⟩ : ∃ lc, Stand p l e room_1 s m #[(.int p1)] below meth c T26 lc 0 0 ∧ Fr n0 lc := ⟨_, X26', Fr.app N23 N26q⟩
      have K27 : Gx p e below s₁ f0 T26 (mkF m 47 #[.val (.int p1), .val (.int (0 : Int32)), .val (.int (1 : Int32)), .val (.ref nl)] [(.int (nar .boolean (0 : Int32)))]) := fun t kt => K25 t (st26.trans kt)
      rw [(show (nar .boolean (0 : Int32)) = (0 : Int32) from by decide)] at K27
      have K28 : Gx p e below s₁ f0 T26 (mkF m 52 #[.val (.int p1), .val (.int (0 : Int32)), .val (.int (1 : Int32)), .val (.ref nl)] [(.ref nl)]) := fun t kt => K27 t (by
        show Steps p.tables e below (T26.setTop (mkF m 47 #[.val (.int p1), .val (.int (0 : Int32)), .val (.int (1 : Int32)), .val (.ref nl)] [(.int (0 : Int32))])) _
        refine XS.iloadN X26.here hx rfl (hb hby at_47) rfl ?_
        show Steps p.tables e below (T26.setTop (mkF m 48 #[.val (.int p1), .val (.int (0 : Int32)), .val (.int (1 : Int32)), .val (.ref nl)] [(.int (0 : Int32)), (.int (0 : Int32))])) _
        refine XS.icmpNo X26.here hx rfl (hb hby at_48) rfl (teq (by decide)).2 ?_
        show Steps p.tables e below (T26.setTop (mkF m 51 #[.val (.int p1), .val (.int (0 : Int32)), .val (.int (1 : Int32)), .val (.ref nl)] [])) _
        refine XS.aloadN X26.here hx rfl (hb hby at_51) rfl rfl ?_
        exact kt)
      obtain ⟨cq29, kq29, q29a, q29b, q29c⟩ := isOf hZ e26 pr5
      obtain ⟨_, _, ⟨T29, L29, k29, n29⟩, -, X29', ⟨Lc29, hQ29, l29, y29, z29⟩, st29⟩ := X26.virtualBack hx (y := (⟨"com/example/looseleaf/looseleaf/sql/MatchOperator", "isNegated", "()Z"⟩ : MethodName)) (z := (⟨"com/example/looseleaf/looseleaf/sql/MatchOperator", "isNegated", "()Z"⟩ : MethodName)) hown (mvT hZ (hw _ (List.mem_of_getElem? (i := 20) rfl))) (mvT hZ (hw _ (List.mem_of_getElem? (i := 21) rfl))) (notFace_of_selects (args := #[]) (mvT hZ (hw _ (List.mem_of_getElem? (i := 23) rfl)))) (mvT hZ (hw _ (List.mem_of_getElem? (i := 23) rfl))) (mvT hZ (hw _ (List.mem_of_getElem? (i := 22) rfl))) (by decide) (backOf (W := 0) (rmNg l Z a0 hw [] nl (1 : Int32) h0 n0 (Nat.le_trans Z0 (Keep.refl h0 []).1) pr17) hZ (hw _ (List.mem_of_getElem? (i := 24) rfl)) (hw _ (List.mem_of_getElem? (i := 2) rfl)) (by decide) (by decide)) q29a q29c (g := (mkF m 52 #[.val (.int p1), .val (.int (0 : Int32)), .val (.int (1 : Int32)), .val (.ref nl)] [(.ref nl)])) rfl (by rw [hml]; rfl) (Steps.refl _) (argsL := []) (rest := []) (lenOf pd___Z rfl) rfl (by show 2 * 0 + _ ≤ _; exact Nat.le_of_eq rfl) (hb hby at_52) (fun _ _ => ⟨rfl, e26, (by decide : 0 + 0 ≤ _), (by decide : 0 + 0 ≤ _)⟩)
      dsimp only [Pt.U, Pt.locs, Pt.cells, Pt.slots] at X29' l29 y29 z29 st29 hQ29
      subst l29 y29 z29
      obtain ⟨rfl, N29q, e29⟩ := hQ29
      obtain ⟨lc29, X29, N29⟩ : ∃ lc, Stand p l e room_1 s m #[(.int p1)] below meth c T29 lc 0 0 ∧ Fr n0 lc := ⟨_, X29', Fr.app N26 N29q⟩
      have K30 : Gx p e below s₁ f0 T29 (mkF m 55 #[.val (.int p1), .val (.int (0 : Int32)), .val (.int (1 : Int32)), .val (.ref nl)] [(.int (nar .boolean (1 : Int32)))]) := fun t kt => K28 t (st29.trans kt)
      rw [(show (nar .boolean (1 : Int32)) = (1 : Int32) from by decide)] at K30
      have K31 : Gx p e below s₁ f0 T29 (mkF m 64 #[.val (.int p1), .val (.int (0 : Int32)), .val (.int (1 : Int32)), .val (.ref nl)] [(.int (1 : Int32))]) := fun t kt => K30 t (by
        show Steps p.tables e below (T29.setTop (mkF m 55 #[.val (.int p1), .val (.int (0 : Int32)), .val (.int (1 : Int32)), .val (.ref nl)] [(.int (1 : Int32))])) _
        refine XS.iloadN X29.here hx rfl (hb hby at_55) rfl ?_
        show Steps p.tables e below (T29.setTop (mkF m 56 #[.val (.int p1), .val (.int (0 : Int32)), .val (.int (1 : Int32)), .val (.ref nl)] [(.int (1 : Int32)), (.int (1 : Int32))])) _
        refine XS.icmpNo X29.here hx rfl (hb hby at_56) rfl (teq (by decide)).2 ?_
        show Steps p.tables e below (T29.setTop (mkF m 59 #[.val (.int p1), .val (.int (0 : Int32)), .val (.int (1 : Int32)), .val (.ref nl)] [])) _
        refine XS.iconst X29.here hx rfl (hb hby at_59) ?_
        show Steps p.tables e below (T29.setTop (mkF m 60 #[.val (.int p1), .val (.int (0 : Int32)), .val (.int (1 : Int32)), .val (.ref nl)] [(.int (1 : Int32))])) _
        refine XS.goto X29.here hx rfl (pc0 := 60) (pc' := 64) rfl (hb hby at_60) (by decide) (by decide) ?_
        exact kt)
      obtain ⟨fs32, hr32, hrun32, hended32, hW32, hsame32⟩ := X29.leave (v := some (.int (1 : Int32))) (fun h => by rw [Bd.returns] at h; cases h)
      refine ⟨_, _, pre0 _ (K31 _ ?_), hrun32, hended32, _, _, rfl, ?_, ⟨_, rfl⟩, hW32, hsame32.mono (by decide) (by decide)⟩
      · exact retN X29 hx (t := .boolean) Bd.returns (by simp) (hb hby at_64) hr32
      · show Q0 Z p1 lk nl il ni h0 n0 _ T29.heap _
        rw [e29]
        exact ⟨rfl, N29⟩
  · skip
    have K33 : Gx p e below s₁ f0 s₁ (mkF m 15 #[.val (.int p1), .val (.int (1 : Int32)), .unset, .unset] [(.int (p1 &&& (2 : Int32)))]) := fun t kt => K1 t (by
      show Steps p.tables e below (s₁.setTop (mkF m 3 #[.val (.int p1), .unset, .unset, .unset] [(.int (p1 &&& (1 : Int32)))])) _
      refine XS.ifNo X0.here hx rfl (hb hby at_3) rfl ((if0 _ _).trans (feq hb2).1) ?_
      show Steps p.tables e below (s₁.setTop (mkF m 6 #[.val (.int p1), .unset, .unset, .unset] [])) _
      refine XS.iconst X0.here hx rfl (hb hby at_6) ?_
      show Steps p.tables e below (s₁.setTop (mkF m 7 #[.val (.int p1), .unset, .unset, .unset] [(.int (1 : Int32))])) _
      refine XS.goto X0.here hx rfl (pc0 := 7) (pc' := 11) rfl (hb hby at_7) (by decide) (by decide) ?_
      show Steps p.tables e below (s₁.setTop (mkF m 11 #[.val (.int p1), .unset, .unset, .unset] [(.int (1 : Int32))])) _
      refine XS.istoreN X0.here hx rfl (hb hby at_11) rfl (l' := #[.val (.int p1), .val (.int (1 : Int32)), .unset, .unset]) rfl ?_
      show Steps p.tables e below (s₁.setTop (mkF m 12 #[.val (.int p1), .val (.int (1 : Int32)), .unset, .unset] [])) _
      refine XS.iloadN X0.here hx rfl (hb hby at_12) rfl ?_
      show Steps p.tables e below (s₁.setTop (mkF m 13 #[.val (.int p1), .val (.int (1 : Int32)), .unset, .unset] [(.int p1)])) _
      refine XS.iconst X0.here hx rfl (hb hby at_13) ?_
      show Steps p.tables e below (s₁.setTop (mkF m 14 #[.val (.int p1), .val (.int (1 : Int32)), .unset, .unset] [(.int (2 : Int32)), (.int p1)])) _
      refine XS.iand X0.here hx rfl (hb hby at_14) rfl ?_
      exact kt)
    by_cases hb34 : (p1 &&& (2 : Int32)) = (0 : Int32)
    · skip
      have K35 : Gx p e below s₁ f0 s₁ (mkF m 26 #[.val (.int p1), .val (.int (1 : Int32)), .val (.int (0 : Int32)), .unset] [(.int (0 : Int32)), (.int (1 : Int32))]) := fun t kt => K33 t (by
        show Steps p.tables e below (s₁.setTop (mkF m 15 #[.val (.int p1), .val (.int (1 : Int32)), .unset, .unset] [(.int (p1 &&& (2 : Int32)))])) _
        refine XS.ifYes X0.here hx rfl (pc0 := 15) (pc' := 22) rfl (hb hby at_15) rfl ((if0 _ _).trans (teq hb34).1) (by decide) (by decide) ?_
        show Steps p.tables e below (s₁.setTop (mkF m 22 #[.val (.int p1), .val (.int (1 : Int32)), .unset, .unset] [])) _
        refine XS.iconst X0.here hx rfl (hb hby at_22) ?_
        show Steps p.tables e below (s₁.setTop (mkF m 23 #[.val (.int p1), .val (.int (1 : Int32)), .unset, .unset] [(.int (0 : Int32))])) _
        refine XS.istoreN X0.here hx rfl (hb hby at_23) rfl (l' := #[.val (.int p1), .val (.int (1 : Int32)), .val (.int (0 : Int32)), .unset]) rfl ?_
        show Steps p.tables e below (s₁.setTop (mkF m 24 #[.val (.int p1), .val (.int (1 : Int32)), .val (.int (0 : Int32)), .unset] [])) _
        refine XS.iloadN X0.here hx rfl (hb hby at_24) rfl ?_
        show Steps p.tables e below (s₁.setTop (mkF m 25 #[.val (.int p1), .val (.int (1 : Int32)), .val (.int (0 : Int32)), .unset] [(.int (1 : Int32))])) _
        refine XS.iloadN X0.here hx rfl (hb hby at_25) rfl ?_
        exact kt)
      obtain ⟨_, _, ⟨T36, L36, k36, n36⟩, -, X36', ⟨Lc36, hQ36, l36, y36, z36⟩, st36⟩ := Jvm.LawKit.callS X0 hx (y := (⟨"com/example/looseleaf/looseleaf/sql/MatchOperator", "like", "(ZZ)Lcom/example/looseleaf/looseleaf/sql/MatchOperator;"⟩ : MethodName)) hown (mvT hZ (hw _ (List.mem_of_getElem? (i := 0) rfl))) (mvT hZ (hw _ (List.mem_of_getElem? (i := 1) rfl))) (mvT hZ (hw _ (List.mem_of_getElem? (i := 2) rfl))) (mvT hZ (hw _ (List.mem_of_getElem? (i := 3) rfl))) (by decide) (backOf (W := 0) (rmLik l Z a0 hw [] (1 : Int32) (0 : Int32) lk nl il ni h0 n0 (Nat.le_trans Z0 (Keep.refl h0 []).1) pr0 pr1 pr2 pr3) hZ (hw _ (List.mem_of_getElem? (i := 3) rfl)) (hw _ (List.mem_of_getElem? (i := 2) rfl)) (by decide) (by decide)) (g := (mkF m 26 #[.val (.int p1), .val (.int (1 : Int32)), .val (.int (0 : Int32)), .unset] [(.int (0 : Int32)), (.int (1 : Int32))])) rfl (by rw [hml]; rfl) (argsL := [(.int (1 : Int32)), (.int (0 : Int32))]) (rest := []) (lenOf pd__ZZ_Lcom_example_looseleaf_looseleaf_sql_MatchOperator_ rfl) rfl (by show 2 * 0 + _ ≤ _; exact Nat.le_of_eq rfl) (hb hby at_26) (fun _ _ => ⟨rfl, e0, (by decide : 0 + 0 ≤ _), (by decide : 0 + 0 ≤ _)⟩)
      dsimp only [Pt.U, Pt.locs, Pt.cells, Pt.slots] at X36' l36 y36 z36 st36 hQ36
      subst l36 y36 z36
      obtain ⟨rfl, N36q, e36⟩ := hQ36
      obtain ⟨lc36, X36, N36⟩ : ∃ lc, Stand p l e room_1 s m #[(.int p1)] below meth c T36 lc 0 0 ∧ Fr n0 lc := ⟨_, X36', Fr.app N0 N36q⟩
      have K37 : Gx p e below s₁ f0 T36 (mkF m 29 #[.val (.int p1), .val (.int (1 : Int32)), .val (.int (0 : Int32)), .unset] [(.ref (likeF lk nl il ni (1 : Int32) (0 : Int32)))]) := fun t kt => K35 t (st36 t kt)
      rw [(show (likeF lk nl il ni (1 : Int32) (0 : Int32)) = il from by unfold likeF; simp)] at K37
      have K38 : Gx p e below s₁ f0 T36 (mkF m 37 #[.val (.int p1), .val (.int (1 : Int32)), .val (.int (0 : Int32)), .val (.ref il)] [(.ref il)]) := fun t kt => K37 t (by
        show Steps p.tables e below (T36.setTop (mkF m 29 #[.val (.int p1), .val (.int (1 : Int32)), .val (.int (0 : Int32)), .unset] [(.ref il)])) _
        refine XS.astoreN X36.here hx rfl (hb hby at_29) rfl rfl (l' := #[.val (.int p1), .val (.int (1 : Int32)), .val (.int (0 : Int32)), .val (.ref il)]) rfl ?_
        show Steps p.tables e below (T36.setTop (mkF m 30 #[.val (.int p1), .val (.int (1 : Int32)), .val (.int (0 : Int32)), .val (.ref il)] [])) _
        refine XS.aloadN X36.here hx rfl (hb hby at_30) rfl rfl ?_
        show Steps p.tables e below (T36.setTop (mkF m 31 #[.val (.int p1), .val (.int (1 : Int32)), .val (.int (0 : Int32)), .val (.ref il)] [(.ref il)])) _
        refine XS.ifnonnullYes X36.here hx rfl (pc0 := 31) (pc' := 36) rfl (hb hby at_31) rfl (by decide) (by decide) ?_
        show Steps p.tables e below (T36.setTop (mkF m 36 #[.val (.int p1), .val (.int (1 : Int32)), .val (.int (0 : Int32)), .val (.ref il)] [])) _
        refine XS.aloadN X36.here hx rfl (hb hby at_36) rfl rfl ?_
        exact kt)
      obtain ⟨cq39, kq39, q39a, q39b, q39c⟩ := isOf hZ e36 pr6
      obtain ⟨_, _, ⟨T39, L39, k39, n39⟩, -, X39', ⟨Lc39, hQ39, l39, y39, z39⟩, st39⟩ := X36.virtualBack hx (y := (⟨"com/example/looseleaf/looseleaf/sql/MatchOperator", "isRegex", "()Z"⟩ : MethodName)) (z := (⟨"com/example/looseleaf/looseleaf/sql/MatchOperator", "isRegex", "()Z"⟩ : MethodName)) hown (mvT hZ (hw _ (List.mem_of_getElem? (i := 6) rfl))) (mvT hZ (hw _ (List.mem_of_getElem? (i := 7) rfl))) (notFace_of_selects (args := #[]) (mvT hZ (hw _ (List.mem_of_getElem? (i := 9) rfl)))) (mvT hZ (hw _ (List.mem_of_getElem? (i := 9) rfl))) (mvT hZ (hw _ (List.mem_of_getElem? (i := 8) rfl))) (by decide) (backOf (W := 0) (rmRx l Z a0 hw [] il (0 : Int32) h0 n0 (Nat.le_trans Z0 (Keep.refl h0 []).1) pr10) hZ (hw _ (List.mem_of_getElem? (i := 10) rfl)) (hw _ (List.mem_of_getElem? (i := 2) rfl)) (by decide) (by decide)) q39a q39c (g := (mkF m 37 #[.val (.int p1), .val (.int (1 : Int32)), .val (.int (0 : Int32)), .val (.ref il)] [(.ref il)])) rfl (by rw [hml]; rfl) (Steps.refl _) (argsL := []) (rest := []) (lenOf pd___Z rfl) rfl (by show 2 * 0 + _ ≤ _; exact Nat.le_of_eq rfl) (hb hby at_37) (fun _ _ => ⟨rfl, e36, (by decide : 0 + 0 ≤ _), (by decide : 0 + 0 ≤ _)⟩)
      dsimp only [Pt.U, Pt.locs, Pt.cells, Pt.slots] at X39' l39 y39 z39 st39 hQ39
      subst l39 y39 z39
      obtain ⟨rfl, N39q, e39⟩ := hQ39
      obtain ⟨lc39, X39, N39⟩ : ∃ lc, Stand p l e room_1 s m #[(.int p1)] below meth c T39 lc 0 0 ∧ Fr n0 lc := ⟨_, X39', Fr.app N36 N39q⟩
      have K40 : Gx p e below s₁ f0 T39 (mkF m 40 #[.val (.int p1), .val (.int (1 : Int32)), .val (.int (0 : Int32)), .val (.ref il)] [(.int (nar .boolean (0 : Int32)))]) := fun t kt => K38 t (st39.trans kt)
      rw [(show (nar .boolean (0 : Int32)) = (0 : Int32) from by decide)] at K40
      have K41 : Gx p e below s₁ f0 T39 (mkF m 44 #[.val (.int p1), .val (.int (1 : Int32)), .val (.int (0 : Int32)), .val (.ref il)] [(.ref il)]) := fun t kt => K40 t (by
        show Steps p.tables e below (T39.setTop (mkF m 40 #[.val (.int p1), .val (.int (1 : Int32)), .val (.int (0 : Int32)), .val (.ref il)] [(.int (0 : Int32))])) _
        refine XS.ifNo X39.here hx rfl (hb hby at_40) rfl ((if0 _ _).trans (teq (by decide)).2) ?_
        show Steps p.tables e below (T39.setTop (mkF m 43 #[.val (.int p1), .val (.int (1 : Int32)), .val (.int (0 : Int32)), .val (.ref il)] [])) _
        refine XS.aloadN X39.here hx rfl (hb hby at_43) rfl rfl ?_
        exact kt)
      obtain ⟨cq42, kq42, q42a, q42b, q42c⟩ := isOf hZ e39 pr6
      obtain ⟨_, _, ⟨T42, L42, k42, n42⟩, -, X42', ⟨Lc42, hQ42, l42, y42, z42⟩, st42⟩ := X39.virtualBack hx (y := (⟨"com/example/looseleaf/looseleaf/sql/MatchOperator", "ignoresCase", "()Z"⟩ : MethodName)) (z := (⟨"com/example/looseleaf/looseleaf/sql/MatchOperator", "ignoresCase", "()Z"⟩ : MethodName)) hown (mvT hZ (hw _ (List.mem_of_getElem? (i := 13) rfl))) (mvT hZ (hw _ (List.mem_of_getElem? (i := 14) rfl))) (notFace_of_selects (args := #[]) (mvT hZ (hw _ (List.mem_of_getElem? (i := 16) rfl)))) (mvT hZ (hw _ (List.mem_of_getElem? (i := 16) rfl))) (mvT hZ (hw _ (List.mem_of_getElem? (i := 15) rfl))) (by decide) (backOf (W := 0) (rmIc l Z a0 hw [] il (1 : Int32) h0 n0 (Nat.le_trans Z0 (Keep.refl h0 []).1) pr14) hZ (hw _ (List.mem_of_getElem? (i := 17) rfl)) (hw _ (List.mem_of_getElem? (i := 2) rfl)) (by decide) (by decide)) q42a q42c (g := (mkF m 44 #[.val (.int p1), .val (.int (1 : Int32)), .val (.int (0 : Int32)), .val (.ref il)] [(.ref il)])) rfl (by rw [hml]; rfl) (Steps.refl _) (argsL := []) (rest := []) (lenOf pd___Z rfl) rfl (by show 2 * 0 + _ ≤ _; exact Nat.le_of_eq rfl) (hb hby at_44) (fun _ _ => ⟨rfl, e39, (by decide : 0 + 0 ≤ _), (by decide : 0 + 0 ≤ _)⟩)
      dsimp only [Pt.U, Pt.locs, Pt.cells, Pt.slots] at X42' l42 y42 z42 st42 hQ42
      subst l42 y42 z42
      obtain ⟨rfl, N42q, e42⟩ := hQ42
      obtain ⟨lc42, X42, N42⟩ : ∃ lc, Stand p l e room_1 s m #[(.int p1)] below meth c T42 lc 0 0 ∧ Fr n0 lc := ⟨_, X42', Fr.app N39 N42q⟩
      have K43 : Gx p e below s₁ f0 T42 (mkF m 47 #[.val (.int p1), .val (.int (1 : Int32)), .val (.int (0 : Int32)), .val (.ref il)] [(.int (nar .boolean (1 : Int32)))]) := fun t kt => K41 t (st42.trans kt)
      rw [(show (nar .boolean (1 : Int32)) = (1 : Int32) from by decide)] at K43
      have K44 : Gx p e below s₁ f0 T42 (mkF m 52 #[.val (.int p1), .val (.int (1 : Int32)), .val (.int (0 : Int32)), .val (.ref il)] [(.ref il)]) := fun t kt => K43 t (by
        show Steps p.tables e below (T42.setTop (mkF m 47 #[.val (.int p1), .val (.int (1 : Int32)), .val (.int (0 : Int32)), .val (.ref il)] [(.int (1 : Int32))])) _
        refine XS.iloadN X42.here hx rfl (hb hby at_47) rfl ?_
        show Steps p.tables e below (T42.setTop (mkF m 48 #[.val (.int p1), .val (.int (1 : Int32)), .val (.int (0 : Int32)), .val (.ref il)] [(.int (1 : Int32)), (.int (1 : Int32))])) _
        refine XS.icmpNo X42.here hx rfl (hb hby at_48) rfl (teq (by decide)).2 ?_
        show Steps p.tables e below (T42.setTop (mkF m 51 #[.val (.int p1), .val (.int (1 : Int32)), .val (.int (0 : Int32)), .val (.ref il)] [])) _
        refine XS.aloadN X42.here hx rfl (hb hby at_51) rfl rfl ?_
        exact kt)
      obtain ⟨cq45, kq45, q45a, q45b, q45c⟩ := isOf hZ e42 pr6
      obtain ⟨_, _, ⟨T45, L45, k45, n45⟩, -, X45', ⟨Lc45, hQ45, l45, y45, z45⟩, st45⟩ := X42.virtualBack hx (y := (⟨"com/example/looseleaf/looseleaf/sql/MatchOperator", "isNegated", "()Z"⟩ : MethodName)) (z := (⟨"com/example/looseleaf/looseleaf/sql/MatchOperator", "isNegated", "()Z"⟩ : MethodName)) hown (mvT hZ (hw _ (List.mem_of_getElem? (i := 20) rfl))) (mvT hZ (hw _ (List.mem_of_getElem? (i := 21) rfl))) (notFace_of_selects (args := #[]) (mvT hZ (hw _ (List.mem_of_getElem? (i := 23) rfl)))) (mvT hZ (hw _ (List.mem_of_getElem? (i := 23) rfl))) (mvT hZ (hw _ (List.mem_of_getElem? (i := 22) rfl))) (by decide) (backOf (W := 0) (rmNg l Z a0 hw [] il (0 : Int32) h0 n0 (Nat.le_trans Z0 (Keep.refl h0 []).1) pr18) hZ (hw _ (List.mem_of_getElem? (i := 24) rfl)) (hw _ (List.mem_of_getElem? (i := 2) rfl)) (by decide) (by decide)) q45a q45c (g := (mkF m 52 #[.val (.int p1), .val (.int (1 : Int32)), .val (.int (0 : Int32)), .val (.ref il)] [(.ref il)])) rfl (by rw [hml]; rfl) (Steps.refl _) (argsL := []) (rest := []) (lenOf pd___Z rfl) rfl (by show 2 * 0 + _ ≤ _; exact Nat.le_of_eq rfl) (hb hby at_52) (fun _ _ => ⟨rfl, e42, (by decide : 0 + 0 ≤ _), (by decide : 0 + 0 ≤ _)⟩)
      dsimp only [Pt.U, Pt.locs, Pt.cells, Pt.slots] at X45' l45 y45 z45 st45 hQ45
      subst l45 y45 z45
      obtain ⟨rfl, N45q, e45⟩ := hQ45
      obtain ⟨lc45, X45, N45⟩ : ∃ lc, Stand p l e room_1 s m #[(.int p1)] below meth c T45 lc 0 0 ∧ Fr n0 lc := ⟨_, X45', Fr.app N42 N45q⟩
      have K46 : Gx p e below s₁ f0 T45 (mkF m 55 #[.val (.int p1), .val (.int (1 : Int32)), .val (.int (0 : Int32)), .val (.ref il)] [(.int (nar .boolean (0 : Int32)))]) := fun t kt => K44 t (st45.trans kt)
      rw [(show (nar .boolean (0 : Int32)) = (0 : Int32) from by decide)] at K46
      have K47 : Gx p e below s₁ f0 T45 (mkF m 64 #[.val (.int p1), .val (.int (1 : Int32)), .val (.int (0 : Int32)), .val (.ref il)] [(.int (1 : Int32))]) := fun t kt => K46 t (by
        show Steps p.tables e below (T45.setTop (mkF m 55 #[.val (.int p1), .val (.int (1 : Int32)), .val (.int (0 : Int32)), .val (.ref il)] [(.int (0 : Int32))])) _
        refine XS.iloadN X45.here hx rfl (hb hby at_55) rfl ?_
        show Steps p.tables e below (T45.setTop (mkF m 56 #[.val (.int p1), .val (.int (1 : Int32)), .val (.int (0 : Int32)), .val (.ref il)] [(.int (0 : Int32)), (.int (0 : Int32))])) _
        refine XS.icmpNo X45.here hx rfl (hb hby at_56) rfl (teq (by decide)).2 ?_
        show Steps p.tables e below (T45.setTop (mkF m 59 #[.val (.int p1), .val (.int (1 : Int32)), .val (.int (0 : Int32)), .val (.ref il)] [])) _
        refine XS.iconst X45.here hx rfl (hb hby at_59) ?_
        show Steps p.tables e below (T45.setTop (mkF m 60 #[.val (.int p1), .val (.int (1 : Int32)), .val (.int (0 : Int32)), .val (.ref il)] [(.int (1 : Int32))])) _
        refine XS.goto X45.here hx rfl (pc0 := 60) (pc' := 64) rfl (hb hby at_60) (by decide) (by decide) ?_
        exact kt)
      obtain ⟨fs48, hr48, hrun48, hended48, hW48, hsame48⟩ := X45.leave (v := some (.int (1 : Int32))) (fun h => by rw [Bd.returns] at h; cases h)
      refine ⟨_, _, pre0 _ (K47 _ ?_), hrun48, hended48, _, _, rfl, ?_, ⟨_, rfl⟩, hW48, hsame48.mono (by decide) (by decide)⟩
      · exact retN X45 hx (t := .boolean) Bd.returns (by simp) (hb hby at_64) hr48
      · show Q0 Z p1 lk nl il ni h0 n0 _ T45.heap _
        rw [e45]
        exact ⟨rfl, N45⟩
    · skip
      have K49 : Gx p e below s₁ f0 s₁ (mkF m 26 #[.val (.int p1), .val (.int (1 : Int32)), .val (.int (1 : Int32)), .unset] [(.int (1 : Int32)), (.int (1 : Int32))]) := fun t kt => K33 t (by
        show Steps p.tables e below (s₁.setTop (mkF m 15 #[.val (.int p1), .val (.int (1 : Int32)), .unset, .unset] [(.int (p1 &&& (2 : Int32)))])) _
        refine XS.ifNo X0.here hx rfl (hb hby at_15) rfl ((if0 _ _).trans (feq hb34).1) ?_
        show Steps p.tables e below (s₁.setTop (mkF m 18 #[.val (.int p1), .val (.int (1 : Int32)), .unset, .unset] [])) _
        refine XS.iconst X0.here hx rfl (hb hby at_18) ?_
        show Steps p.tables e below (s₁.setTop (mkF m 19 #[.val (.int p1), .val (.int (1 : Int32)), .unset, .unset] [(.int (1 : Int32))])) _
        refine XS.goto X0.here hx rfl (pc0 := 19) (pc' := 23) rfl (hb hby at_19) (by decide) (by decide) ?_
        show Steps p.tables e below (s₁.setTop (mkF m 23 #[.val (.int p1), .val (.int (1 : Int32)), .unset, .unset] [(.int (1 : Int32))])) _
        refine XS.istoreN X0.here hx rfl (hb hby at_23) rfl (l' := #[.val (.int p1), .val (.int (1 : Int32)), .val (.int (1 : Int32)), .unset]) rfl ?_
        show Steps p.tables e below (s₁.setTop (mkF m 24 #[.val (.int p1), .val (.int (1 : Int32)), .val (.int (1 : Int32)), .unset] [])) _
        refine XS.iloadN X0.here hx rfl (hb hby at_24) rfl ?_
        show Steps p.tables e below (s₁.setTop (mkF m 25 #[.val (.int p1), .val (.int (1 : Int32)), .val (.int (1 : Int32)), .unset] [(.int (1 : Int32))])) _
        refine XS.iloadN X0.here hx rfl (hb hby at_25) rfl ?_
        exact kt)
      obtain ⟨_, _, ⟨T50, L50, k50, n50⟩, -, X50', ⟨Lc50, hQ50, l50, y50, z50⟩, st50⟩ := Jvm.LawKit.callS X0 hx (y := (⟨"com/example/looseleaf/looseleaf/sql/MatchOperator", "like", "(ZZ)Lcom/example/looseleaf/looseleaf/sql/MatchOperator;"⟩ : MethodName)) hown (mvT hZ (hw _ (List.mem_of_getElem? (i := 0) rfl))) (mvT hZ (hw _ (List.mem_of_getElem? (i := 1) rfl))) (mvT hZ (hw _ (List.mem_of_getElem? (i := 2) rfl))) (mvT hZ (hw _ (List.mem_of_getElem? (i := 3) rfl))) (by decide) (backOf (W := 0) (rmLik l Z a0 hw [] (1 : Int32) (1 : Int32) lk nl il ni h0 n0 (Nat.le_trans Z0 (Keep.refl h0 []).1) pr0 pr1 pr2 pr3) hZ (hw _ (List.mem_of_getElem? (i := 3) rfl)) (hw _ (List.mem_of_getElem? (i := 2) rfl)) (by decide) (by decide)) (g := (mkF m 26 #[.val (.int p1), .val (.int (1 : Int32)), .val (.int (1 : Int32)), .unset] [(.int (1 : Int32)), (.int (1 : Int32))])) rfl (by rw [hml]; rfl) (argsL := [(.int (1 : Int32)), (.int (1 : Int32))]) (rest := []) (lenOf pd__ZZ_Lcom_example_looseleaf_looseleaf_sql_MatchOperator_ rfl) rfl (by show 2 * 0 + _ ≤ _; exact Nat.le_of_eq rfl) (hb hby at_26) (fun _ _ => ⟨rfl, e0, (by decide : 0 + 0 ≤ _), (by decide : 0 + 0 ≤ _)⟩)
      dsimp only [Pt.U, Pt.locs, Pt.cells, Pt.slots] at X50' l50 y50 z50 st50 hQ50
      subst l50 y50 z50
      obtain ⟨rfl, N50q, e50⟩ := hQ50
      obtain ⟨lc50, X50, N50⟩ : ∃ lc, Stand p l e room_1 s m #[(.int p1)] below meth c T50 lc 0 0 ∧ Fr n0 lc := ⟨_, X50', Fr.app N0 N50q⟩
      have K51 : Gx p e below s₁ f0 T50 (mkF m 29 #[.val (.int p1), .val (.int (1 : Int32)), .val (.int (1 : Int32)), .unset] [(.ref (likeF lk nl il ni (1 : Int32) (1 : Int32)))]) := fun t kt => K49 t (st50 t kt)
      rw [(show (likeF lk nl il ni (1 : Int32) (1 : Int32)) = ni from by unfold likeF; simp)] at K51
      have K52 : Gx p e below s₁ f0 T50 (mkF m 37 #[.val (.int p1), .val (.int (1 : Int32)), .val (.int (1 : Int32)), .val (.ref ni)] [(.ref ni)]) := fun t kt => K51 t (by
        show Steps p.tables e below (T50.setTop (mkF m 29 #[.val (.int p1), .val (.int (1 : Int32)), .val (.int (1 : Int32)), .unset] [(.ref ni)])) _
        refine XS.astoreN X50.here hx rfl (hb hby at_29) rfl rfl (l' := #[.val (.int p1), .val (.int (1 : Int32)), .val (.int (1 : Int32)), .val (.ref ni)]) rfl ?_
        show Steps p.tables e below (T50.setTop (mkF m 30 #[.val (.int p1), .val (.int (1 : Int32)), .val (.int (1 : Int32)), .val (.ref ni)] [])) _
        refine XS.aloadN X50.here hx rfl (hb hby at_30) rfl rfl ?_
        show Steps p.tables e below (T50.setTop (mkF m 31 #[.val (.int p1), .val (.int (1 : Int32)), .val (.int (1 : Int32)), .val (.ref ni)] [(.ref ni)])) _
        refine XS.ifnonnullYes X50.here hx rfl (pc0 := 31) (pc' := 36) rfl (hb hby at_31) rfl (by decide) (by decide) ?_
        show Steps p.tables e below (T50.setTop (mkF m 36 #[.val (.int p1), .val (.int (1 : Int32)), .val (.int (1 : Int32)), .val (.ref ni)] [])) _
        refine XS.aloadN X50.here hx rfl (hb hby at_36) rfl rfl ?_
        exact kt)
      obtain ⟨cq53, kq53, q53a, q53b, q53c⟩ := isOf hZ e50 pr7
      obtain ⟨_, _, ⟨T53, L53, k53, n53⟩, -, X53', ⟨Lc53, hQ53, l53, y53, z53⟩, st53⟩ := X50.virtualBack hx (y := (⟨"com/example/looseleaf/looseleaf/sql/MatchOperator", "isRegex", "()Z"⟩ : MethodName)) (z := (⟨"com/example/looseleaf/looseleaf/sql/MatchOperator", "isRegex", "()Z"⟩ : MethodName)) hown (mvT hZ (hw _ (List.mem_of_getElem? (i := 6) rfl))) (mvT hZ (hw _ (List.mem_of_getElem? (i := 7) rfl))) (notFace_of_selects (args := #[]) (mvT hZ (hw _ (List.mem_of_getElem? (i := 9) rfl)))) (mvT hZ (hw _ (List.mem_of_getElem? (i := 9) rfl))) (mvT hZ (hw _ (List.mem_of_getElem? (i := 8) rfl))) (by decide) (backOf (W := 0) (rmRx l Z a0 hw [] ni (0 : Int32) h0 n0 (Nat.le_trans Z0 (Keep.refl h0 []).1) pr11) hZ (hw _ (List.mem_of_getElem? (i := 10) rfl)) (hw _ (List.mem_of_getElem? (i := 2) rfl)) (by decide) (by decide)) q53a q53c (g := (mkF m 37 #[.val (.int p1), .val (.int (1 : Int32)), .val (.int (1 : Int32)), .val (.ref ni)] [(.ref ni)])) rfl (by rw [hml]; rfl) (Steps.refl _) (argsL := []) (rest := []) (lenOf pd___Z rfl) rfl (by show 2 * 0 + _ ≤ _; exact Nat.le_of_eq rfl) (hb hby at_37) (fun _ _ => ⟨rfl, e50, (by decide : 0 + 0 ≤ _), (by decide : 0 + 0 ≤ _)⟩)
      dsimp only [Pt.U, Pt.locs, Pt.cells, Pt.slots] at X53' l53 y53 z53 st53 hQ53
      subst l53 y53 z53
      obtain ⟨rfl, N53q, e53⟩ := hQ53
      obtain ⟨lc53, X53, N53⟩ : ∃ lc, Stand p l e room_1 s m #[(.int p1)] below meth c T53 lc 0 0 ∧ Fr n0 lc := ⟨_, X53', Fr.app N50 N53q⟩
      have K54 : Gx p e below s₁ f0 T53 (mkF m 40 #[.val (.int p1), .val (.int (1 : Int32)), .val (.int (1 : Int32)), .val (.ref ni)] [(.int (nar .boolean (0 : Int32)))]) := fun t kt => K52 t (st53.trans kt)
      rw [(show (nar .boolean (0 : Int32)) = (0 : Int32) from by decide)] at K54
      have K55 : Gx p e below s₁ f0 T53 (mkF m 44 #[.val (.int p1), .val (.int (1 : Int32)), .val (.int (1 : Int32)), .val (.ref ni)] [(.ref ni)]) := fun t kt => K54 t (by
        show Steps p.tables e below (T53.setTop (mkF m 40 #[.val (.int p1), .val (.int (1 : Int32)), .val (.int (1 : Int32)), .val (.ref ni)] [(.int (0 : Int32))])) _
        refine XS.ifNo X53.here hx rfl (hb hby at_40) rfl ((if0 _ _).trans (teq (by decide)).2) ?_
        show Steps p.tables e below (T53.setTop (mkF m 43 #[.val (.int p1), .val (.int (1 : Int32)), .val (.int (1 : Int32)), .val (.ref ni)] [])) _
        refine XS.aloadN X53.here hx rfl (hb hby at_43) rfl rfl ?_
        exact kt)
      obtain ⟨cq56, kq56, q56a, q56b, q56c⟩ := isOf hZ e53 pr7
      obtain ⟨_, _, ⟨T56, L56, k56, n56⟩, -, X56', ⟨Lc56, hQ56, l56, y56, z56⟩, st56⟩ := X53.virtualBack hx (y := (⟨"com/example/looseleaf/looseleaf/sql/MatchOperator", "ignoresCase", "()Z"⟩ : MethodName)) (z := (⟨"com/example/looseleaf/looseleaf/sql/MatchOperator", "ignoresCase", "()Z"⟩ : MethodName)) hown (mvT hZ (hw _ (List.mem_of_getElem? (i := 13) rfl))) (mvT hZ (hw _ (List.mem_of_getElem? (i := 14) rfl))) (notFace_of_selects (args := #[]) (mvT hZ (hw _ (List.mem_of_getElem? (i := 16) rfl)))) (mvT hZ (hw _ (List.mem_of_getElem? (i := 16) rfl))) (mvT hZ (hw _ (List.mem_of_getElem? (i := 15) rfl))) (by decide) (backOf (W := 0) (rmIc l Z a0 hw [] ni (1 : Int32) h0 n0 (Nat.le_trans Z0 (Keep.refl h0 []).1) pr15) hZ (hw _ (List.mem_of_getElem? (i := 17) rfl)) (hw _ (List.mem_of_getElem? (i := 2) rfl)) (by decide) (by decide)) q56a q56c (g := (mkF m 44 #[.val (.int p1), .val (.int (1 : Int32)), .val (.int (1 : Int32)), .val (.ref ni)] [(.ref ni)])) rfl (by rw [hml]; rfl) (Steps.refl _) (argsL := []) (rest := []) (lenOf pd___Z rfl) rfl (by show 2 * 0 + _ ≤ _; exact Nat.le_of_eq rfl) (hb hby at_44) (fun _ _ => ⟨rfl, e53, (by decide : 0 + 0 ≤ _), (by decide : 0 + 0 ≤ _)⟩)
      dsimp only [Pt.U, Pt.locs, Pt.cells, Pt.slots] at X56' l56 y56 z56 st56 hQ56
      subst l56 y56 z56
      obtain ⟨rfl, N56q, e56⟩ := hQ56
      obtain ⟨lc56, X56, N56⟩ : ∃ lc, Stand p l e room_1 s m #[(.int p1)] below meth c T56 lc 0 0 ∧ Fr n0 lc := ⟨_, X56', Fr.app N53 N56q⟩
      have K57 : Gx p e below s₁ f0 T56 (mkF m 47 #[.val (.int p1), .val (.int (1 : Int32)), .val (.int (1 : Int32)), .val (.ref ni)] [(.int (nar .boolean (1 : Int32)))]) := fun t kt => K55 t (st56.trans kt)
      rw [(show (nar .boolean (1 : Int32)) = (1 : Int32) from by decide)] at K57
      have K58 : Gx p e below s₁ f0 T56 (mkF m 52 #[.val (.int p1), .val (.int (1 : Int32)), .val (.int (1 : Int32)), .val (.ref ni)] [(.ref ni)]) := fun t kt => K57 t (by
        show Steps p.tables e below (T56.setTop (mkF m 47 #[.val (.int p1), .val (.int (1 : Int32)), .val (.int (1 : Int32)), .val (.ref ni)] [(.int (1 : Int32))])) _
        refine XS.iloadN X56.here hx rfl (hb hby at_47) rfl ?_
        show Steps p.tables e below (T56.setTop (mkF m 48 #[.val (.int p1), .val (.int (1 : Int32)), .val (.int (1 : Int32)), .val (.ref ni)] [(.int (1 : Int32)), (.int (1 : Int32))])) _
        refine XS.icmpNo X56.here hx rfl (hb hby at_48) rfl (teq (by decide)).2 ?_
        show Steps p.tables e below (T56.setTop (mkF m 51 #[.val (.int p1), .val (.int (1 : Int32)), .val (.int (1 : Int32)), .val (.ref ni)] [])) _
        refine XS.aloadN X56.here hx rfl (hb hby at_51) rfl rfl ?_
        exact kt)
      obtain ⟨cq59, kq59, q59a, q59b, q59c⟩ := isOf hZ e56 pr7
      obtain ⟨_, _, ⟨T59, L59, k59, n59⟩, -, X59', ⟨Lc59, hQ59, l59, y59, z59⟩, st59⟩ := X56.virtualBack hx (y := (⟨"com/example/looseleaf/looseleaf/sql/MatchOperator", "isNegated", "()Z"⟩ : MethodName)) (z := (⟨"com/example/looseleaf/looseleaf/sql/MatchOperator", "isNegated", "()Z"⟩ : MethodName)) hown (mvT hZ (hw _ (List.mem_of_getElem? (i := 20) rfl))) (mvT hZ (hw _ (List.mem_of_getElem? (i := 21) rfl))) (notFace_of_selects (args := #[]) (mvT hZ (hw _ (List.mem_of_getElem? (i := 23) rfl)))) (mvT hZ (hw _ (List.mem_of_getElem? (i := 23) rfl))) (mvT hZ (hw _ (List.mem_of_getElem? (i := 22) rfl))) (by decide) (backOf (W := 0) (rmNg l Z a0 hw [] ni (1 : Int32) h0 n0 (Nat.le_trans Z0 (Keep.refl h0 []).1) pr19) hZ (hw _ (List.mem_of_getElem? (i := 24) rfl)) (hw _ (List.mem_of_getElem? (i := 2) rfl)) (by decide) (by decide)) q59a q59c (g := (mkF m 52 #[.val (.int p1), .val (.int (1 : Int32)), .val (.int (1 : Int32)), .val (.ref ni)] [(.ref ni)])) rfl (by rw [hml]; rfl) (Steps.refl _) (argsL := []) (rest := []) (lenOf pd___Z rfl) rfl (by show 2 * 0 + _ ≤ _; exact Nat.le_of_eq rfl) (hb hby at_52) (fun _ _ => ⟨rfl, e56, (by decide : 0 + 0 ≤ _), (by decide : 0 + 0 ≤ _)⟩)
      dsimp only [Pt.U, Pt.locs, Pt.cells, Pt.slots] at X59' l59 y59 z59 st59 hQ59
      subst l59 y59 z59
      obtain ⟨rfl, N59q, e59⟩ := hQ59
      obtain ⟨lc59, X59, N59⟩ : ∃ lc, Stand p l e room_1 s m #[(.int p1)] below meth c T59 lc 0 0 ∧ Fr n0 lc := ⟨_, X59', Fr.app N56 N59q⟩
      have K60 : Gx p e below s₁ f0 T59 (mkF m 55 #[.val (.int p1), .val (.int (1 : Int32)), .val (.int (1 : Int32)), .val (.ref ni)] [(.int (nar .boolean (1 : Int32)))]) := fun t kt => K58 t (st59.trans kt)
      rw [(show (nar .boolean (1 : Int32)) = (1 : Int32) from by decide)] at K60
      have K61 : Gx p e below s₁ f0 T59 (mkF m 64 #[.val (.int p1), .val (.int (1 : Int32)), .val (.int (1 : Int32)), .val (.ref ni)] [(.int (1 : Int32))]) := fun t kt => K60 t (by
        show Steps p.tables e below (T59.setTop (mkF m 55 #[.val (.int p1), .val (.int (1 : Int32)), .val (.int (1 : Int32)), .val (.ref ni)] [(.int (1 : Int32))])) _
        refine XS.iloadN X59.here hx rfl (hb hby at_55) rfl ?_
        show Steps p.tables e below (T59.setTop (mkF m 56 #[.val (.int p1), .val (.int (1 : Int32)), .val (.int (1 : Int32)), .val (.ref ni)] [(.int (1 : Int32)), (.int (1 : Int32))])) _
        refine XS.icmpNo X59.here hx rfl (hb hby at_56) rfl (teq (by decide)).2 ?_
        show Steps p.tables e below (T59.setTop (mkF m 59 #[.val (.int p1), .val (.int (1 : Int32)), .val (.int (1 : Int32)), .val (.ref ni)] [])) _
        refine XS.iconst X59.here hx rfl (hb hby at_59) ?_
        show Steps p.tables e below (T59.setTop (mkF m 60 #[.val (.int p1), .val (.int (1 : Int32)), .val (.int (1 : Int32)), .val (.ref ni)] [(.int (1 : Int32))])) _
        refine XS.goto X59.here hx rfl (pc0 := 60) (pc' := 64) rfl (hb hby at_60) (by decide) (by decide) ?_
        exact kt)
      obtain ⟨fs62, hr62, hrun62, hended62, hW62, hsame62⟩ := X59.leave (v := some (.int (1 : Int32))) (fun h => by rw [Bd.returns] at h; cases h)
      refine ⟨_, _, pre0 _ (K61 _ ?_), hrun62, hended62, _, _, rfl, ?_, ⟨_, rfl⟩, hW62, hsame62.mono (by decide) (by decide)⟩
      · exact retN X59 hx (t := .boolean) Bd.returns (by simp) (hb hby at_64) hr62
      · show Q0 Z p1 lk nl il ni h0 n0 _ T59.heap _
        rw [e59]
        exact ⟨rfl, N59⟩
set_option maxRecDepth 65536 in
set_option maxHeartbeats 40000000 in
theorem comes_1 {Post : Tables → Env → Array Value → State → Outcome → State → Prop} (hpost : ∀ tb e args s v u, (limb_1_1.after args s (.returned v) u = true ∧ limb_1_2.after args s (.returned v) u = true ∧ True) → FrameEnd s (.returned v) u (Jvm.fieldLocs frame_1_writes args s ++ Jvm.arrayLocs frame_1_arrays args s ++ Jvm.staticLocs frame_1_statics s) 0 0 → Post tb e args s (.returned v) u) :
    ArmFor flags0 classFile x code maxLocals ret World_1 tables_1 room_1 Calls_1 rest_1 Pre_1 Post := by
  intro l hfl _ _ p e ha hc hk s m args below hf hA hF happ hP
  obtain ⟨hcalls, hrest, hpre⟩ := hP
  obtain ⟨-, -, -, hnamed, -, -, -, hat⟩ := (Spec.applies_iff hf).mp happ
  obtain ⟨hg, hn⟩ := and_e (Cond.before_iff.mp (show (Jvm.Cond.and given_1 narrow_1).before args s = true from hpre))
  obtain ⟨g1, g2⟩ := and_e hg
  obtain ⟨w0, rfl⟩ : ∃ w0 : Value, args = #[w0] := by
    have hs : args.size = 1 := by simpa [Cond.value, given_1] using g1
    obtain ⟨L⟩ := args
    match L, hs with
    | [w0], _ => exact ⟨w0, rfl⟩
  have hw := fun d (hd : d ∈ tables_1) => atoms_spec (ws := Jvm.Cond.code x code maxLocals ret :: tables_1) hat d (List.mem_cons_of_mem _ hd)
  have hfit : Fit s := fun {y c} hc i hi => by
    obtain ⟨ha, rfl⟩ := Array.getElem?_eq_some_iff.mp hc
    have q := List.all_eq_true.mp ((Array.all_eq_true_iff_forall_mem.mp hF) _ (Array.getElem_mem ha)) i (List.mem_range.mpr hi)
    simpa [Array.getElem?_eq_getElem hi] using q
  obtain ⟨i0, ei0⟩ := is_v g2
  obtain rfl : w0 = (.int i0) := Option.some.inj ei0
  obtain ⟨g3, g4⟩ := and_e hn
  obtain ⟨g5, g6⟩ := and_e g4
  obtain ⟨g7, g8⟩ := and_e g6
  obtain ⟨g9, g10⟩ := and_e g8
  obtain ⟨g11, g12⟩ := and_e g10
  obtain ⟨g13, g14⟩ := and_e g12
  obtain ⟨g15, g16⟩ := and_e g14
  obtain ⟨g17, g18⟩ := and_e g16
  obtain ⟨g19, g20⟩ := and_e g18
  obtain ⟨g21, g22⟩ := and_e g20
  obtain ⟨g23, g24⟩ := and_e g22
  obtain ⟨g25, g26⟩ := and_e g24
  obtain ⟨g27, g28⟩ := and_e g26
  obtain ⟨g29, g30⟩ := and_e g28
  obtain ⟨g31, g32⟩ := and_e g30
  obtain ⟨st33, evst33⟩ := exa_v g3
  have Sst33 := Sta.start evst33 (Or.inr ⟨(hw _ (List.mem_of_getElem? (i := 2) rfl)), (hw _ (List.mem_of_getElem? (i := 5) rfl))⟩)
  have Est33 := Exa.start evst33 g3
  have F34 : Fld s s.heap st33 "com/example/looseleaf/looseleaf/sql/MatchOperator" "regex" "Z" (.int (0 : Int32)) := own_fldI evst33 g5
  have F35 : Fld s s.heap st33 "com/example/looseleaf/looseleaf/sql/MatchOperator" "ignoresCase" "Z" (.int (0 : Int32)) := own_fldI evst33 g7
  have F36 : Fld s s.heap st33 "com/example/looseleaf/looseleaf/sql/MatchOperator" "negated" "Z" (.int (0 : Int32)) := own_fldI evst33 g9
  obtain ⟨st37, evst37⟩ := exa_v g11
  have Sst37 := Sta.start evst37 (Or.inr ⟨(hw _ (List.mem_of_getElem? (i := 2) rfl)), (hw _ (List.mem_of_getElem? (i := 28) rfl))⟩)
  have Est37 := Exa.start evst37 g11
  have F38 : Fld s s.heap st37 "com/example/looseleaf/looseleaf/sql/MatchOperator" "regex" "Z" (.int (0 : Int32)) := own_fldI evst37 g13
  have F39 : Fld s s.heap st37 "com/example/looseleaf/looseleaf/sql/MatchOperator" "ignoresCase" "Z" (.int (1 : Int32)) := own_fldI evst37 g15
  have F40 : Fld s s.heap st37 "com/example/looseleaf/looseleaf/sql/MatchOperator" "negated" "Z" (.int (1 : Int32)) := own_fldI evst37 g17
  obtain ⟨st41, evst41⟩ := exa_v g19
  have Sst41 := Sta.start evst41 (Or.inr ⟨(hw _ (List.mem_of_getElem? (i := 2) rfl)), (hw _ (List.mem_of_getElem? (i := 30) rfl))⟩)
  have Est41 := Exa.start evst41 g19
  have F42 : Fld s s.heap st41 "com/example/looseleaf/looseleaf/sql/MatchOperator" "regex" "Z" (.int (0 : Int32)) := own_fldI evst41 g21
  have F43 : Fld s s.heap st41 "com/example/looseleaf/looseleaf/sql/MatchOperator" "ignoresCase" "Z" (.int (0 : Int32)) := own_fldI evst41 g23
  have F44 : Fld s s.heap st41 "com/example/looseleaf/looseleaf/sql/MatchOperator" "negated" "Z" (.int (1 : Int32)) := own_fldI evst41 g25
  obtain ⟨st45, evst45⟩ := exa_v g27
  have Sst45 := Sta.start evst45 (Or.inr ⟨(hw _ (List.mem_of_getElem? (i := 2) rfl)), (hw _ (List.mem_of_getElem? (i := 32) rfl))⟩)
  have Est45 := Exa.start evst45 g27
  have F46 : Fld s s.heap st45 "com/example/looseleaf/looseleaf/sql/MatchOperator" "regex" "Z" (.int (0 : Int32)) := own_fldI evst45 g29
  have F47 : Fld s s.heap st45 "com/example/looseleaf/looseleaf/sql/MatchOperator" "ignoresCase" "Z" (.int (1 : Int32)) := own_fldI evst45 g31
  have F48 : Fld s s.heap st45 "com/example/looseleaf/looseleaf/sql/MatchOperator" "negated" "Z" (.int (0 : Int32)) := own_fldI evst45 g32
  obtain ⟨n, o, h1, h2, h3, _, L, rfl, ⟨rfl, N⟩, hq⟩ := rm0 l s _ hw tables_1 i0 st33 st41 st45 st37 s.heap s.heap.size (Nat.le_refl _) Sst33 Sst41 Sst45 Sst37 Est33 Est41 Est45 Est37 F34 F42 F46 F38 F35 F43 F47 F39 F36 F44 F48 F40 p e ha hc hk s m _ below hf ((Spec.applies_iff_loose hf).mp happ).1 ⟨rfl, State.Warmed39.refl s, rfl⟩ trivial
  refine ⟨n, _, h1, h2, h3, hpost _ _ _ _ _ _ ⟨Cond.after_iff.mpr rfl, Cond.after_iff.mpr (eq_i res_at (Term.int_eval (1)) rfl), trivial⟩ ⟨hq.1, hq.2.1, (hq.2.2.sift fun y hy => Or.inr (N y hy)).mono (by decide) (by decide)⟩⟩
theorem main_1_1 : Claimed_1_1 := comes_1 fun _ _ _ _ _ _ h hF => ⟨h.1, hF⟩
theorem main_1_2 : Claimed_1_2 := comes_1 fun _ _ _ _ _ _ h hF => ⟨h.2.1, hF⟩
end Jvm.Pilot.@@N@@
namespace Jvm.Pilot.@@N@@
open Jvm Jvm.ClassFile Sem Op Lib Jvm.Free Jvm.Stand Jvm.Pilot.@@N@@.Jvm.D
/-! MADE BY PROGRAM (witnessworld.py) out of the Statement's table words and the real class files: 12 classes; the members and pool entries that the words name. The judged class is class 1, her method 1. -/
namespace start1
open Jvm.ClassFile
def u (s : String) : CpInfo := .utf8 (stringToUtf16 s)
/-- a pool by its gaps: so many unusable entries, then the entry; so many at the end -/
def gap : Nat → List CpInfo → List CpInfo
  | 0, r => r
  | n + 1, r => .unusable :: gap n r
def poolList (es : List (Nat × CpInfo)) (last : Nat) : List CpInfo := es.foldr (fun e r => gap e.1 (e.2 :: r)) (gap last [])
def pool (es : List (Nat × CpInfo)) (last : Nat) : Array CpInfo := ⟨poolList es last⟩
def fileOf (pool : Array CpInfo) (this : Nat) (attrs : Array Attribute := #[]) (ms : Array MethodInfo := #[]) (fl : Nat := 33) (sup : Nat := 0) (ifs : Array Nat := #[]) (fds : Array FieldInfo := #[]) : ClassFile where
  minorVersion := 0
  majorVersion := 65
  constantPool := pool
  accessFlags := fl
  thisClass := this
  superClass := sup
  interfaces := ifs
  fields := fds
  methods := ms
  attributes := attrs
def plain (name : String) (sup : Option ClassId) : Class where
  name := name
  kind := .ordinary
  loader := none
  accessFlags := 33
  super := sup
  interfaces := #[]
  cf := none
  fields := #[]
  methods := #[]
  instanceTypes := #[]
  staticTypes := #[]
  resolved := #[]
  callSites := []
  init := .initialized
  statics := none
  mirror := none

def pool0 : Array CpInfo := pool [(5, u "<init>"), (0, u "()V"), (1, .class_ 10), (1, u "java/lang/Object")] 113

def k0m0 : Method := { name := "<init>", desc := "()V", sig := { parameters := [], returnType := none }, accessFlags := 1, code := none }
/-- java/lang/Object -/
def k0 : Class := { plain "java/lang/Object" none with
  accessFlags := 33
  interfaces := #[]
  cf := some (fileOf pool0 8 #[] #[{ accessFlags := 1, nameIndex := 5, descriptorIndex := 6, attributes := #[] }] 33 0 #[] #[])
  fields := #[]
  methods := #[k0m0]
  instanceTypes := #[]
  staticTypes := #[]
  resolved := Array.replicate 124 none
  statics := none }

def pool1 : Array CpInfo := pool [(2, .class_ 4), (1, u "java/lang/Object"), (0, u "<init>"), (0, u "()V"), (0, .methodref 8 9), (0, .class_ 10), (0, .nameAndType 11 12), (0, u "com/example/looseleaf/looseleaf/sql/MatchOperator"), (0, u "like"), (0, u "(ZZ)Lcom/example/looseleaf/looseleaf/sql/MatchOperator;"), (0, .methodref 8 14), (0, .nameAndType 15 16), (0, u "isRegex"), (0, u "()Z"), (0, .methodref 8 18), (0, .nameAndType 19 16), (0, u "ignoresCase"), (0, .methodref 8 21), (0, .nameAndType 22 16), (0, u "isNegated"), (0, .class_ 24), (0, u "com/example/looseleaf/looseleaf/sql/MatchOperatorLikePinLaw"), (2, u "law"), (0, u "(I)Z")] 3

def k1m0 : Method := { name := "<init>", desc := "()V", sig := { parameters := [], returnType := none }, accessFlags := 1, code := none }
def k1c1 : Code := { maxStack := 2, maxLocals := 4, code := code, exceptionTable := #[], attributes := #[] }
def k1m1 : Method := { name := "law", desc := "(I)Z", sig := { parameters := [.int], returnType := some .boolean }, accessFlags := 9, code := some k1c1 }
/-- com/example/looseleaf/looseleaf/sql/MatchOperatorLikePinLaw -/
def k1 : Class := { plain "com/example/looseleaf/looseleaf/sql/MatchOperatorLikePinLaw" (some 0) with
  accessFlags := 49
  interfaces := #[]
  cf := some (fileOf pool1 23 #[] #[{ accessFlags := 1, nameIndex := 5, descriptorIndex := 6, attributes := #[] }, { accessFlags := 9, nameIndex := 27, descriptorIndex := 28, attributes := #[] }] 49 2 #[] #[])
  fields := #[]
  methods := #[k1m0, k1m1]
  instanceTypes := #[]
  staticTypes := #[]
  resolved := Array.replicate 32 none
  statics := none }

def pool2 : Array CpInfo := pool [(1, .class_ 2), (0, u "java/lang/constant/Constable"), (0, .class_ 4), (0, u "java/lang/Object")] 6

/-- java/lang/constant/Constable -/
def k2 : Class := { plain "java/lang/constant/Constable" (some 0) with
  accessFlags := 1537
  interfaces := #[]
  cf := some (fileOf pool2 1 #[] #[] 1537 3 #[] #[])
  fields := #[]
  methods := #[]
  instanceTypes := #[]
  staticTypes := #[]
  resolved := Array.replicate 11 none
  statics := none }

def pool3 : Array CpInfo := pool [(1, .class_ 2), (0, u "java/lang/Comparable"), (0, .class_ 4), (0, u "java/lang/Object")] 7

/-- java/lang/Comparable -/
def k3 : Class := { plain "java/lang/Comparable" (some 0) with
  accessFlags := 1537
  interfaces := #[]
  cf := some (fileOf pool3 1 #[] #[] 1537 3 #[] #[])
  fields := #[]
  methods := #[]
  instanceTypes := #[]
  staticTypes := #[]
  resolved := Array.replicate 12 none
  statics := none }

def pool4 : Array CpInfo := pool [(1, .class_ 2), (0, u "java/io/Serializable"), (0, .class_ 4), (0, u "java/lang/Object")] 2

/-- java/io/Serializable -/
def k4 : Class := { plain "java/io/Serializable" (some 0) with
  accessFlags := 1537
  interfaces := #[]
  cf := some (fileOf pool4 1 #[] #[] 1537 3 #[] #[])
  fields := #[]
  methods := #[]
  instanceTypes := #[]
  staticTypes := #[]
  resolved := Array.replicate 7 none
  statics := none }

def pool5 : Array CpInfo := pool [(2, .class_ 4), (1, u "java/lang/Enum"), (0, u "name"), (0, u "Ljava/lang/String;"), (2, u "ordinal"), (0, u "I"), (1, .class_ 14), (1, u "java/lang/Object"), (4, u "hash"), (86, .class_ 108), (1, u "java/lang/Enum$EnumDesc"), (2, .class_ 112), (0, u "java/lang/constant/Constable"), (0, .class_ 114), (0, u "java/lang/Comparable"), (0, .class_ 116), (0, u "java/io/Serializable")] 87

/-- java/lang/Enum -/
def k5 : Class := { plain "java/lang/Enum" (some 0) with
  accessFlags := 1057
  interfaces := #[2, 3, 4]
  cf := some (fileOf pool5 2 #[.nestMembers #[106]] #[] 1057 12 #[111, 113, 115] #[{ accessFlags := 18, nameIndex := 5, descriptorIndex := 6, attributes := #[] }, { accessFlags := 18, nameIndex := 9, descriptorIndex := 10, attributes := #[] }, { accessFlags := 2, nameIndex := 19, descriptorIndex := 10, attributes := #[] }])
  fields := #[{ name := "name", type := (.object "java/lang/String"), accessFlags := 18, slot := 0, constantValue := 0 }, { name := "ordinal", type := .int, accessFlags := 18, slot := 1, constantValue := 0 }, { name := "hash", type := .int, accessFlags := 2, slot := 2, constantValue := 0 }]
  methods := #[]
  instanceTypes := #[(.object "java/lang/String"), .int, .int]
  staticTypes := #[]
  resolved := Array.replicate 204 none
  statics := none }

def pool6 : Array CpInfo := pool [(1, .class_ 2), (0, u "com/example/looseleaf/looseleaf/sql/MatchOperator"), (0, .fieldref 1 4), (0, .nameAndType 5 6), (0, u "LIKE"), (0, u "Lcom/example/looseleaf/looseleaf/sql/MatchOperator;"), (0, .fieldref 1 8), (0, .nameAndType 9 6), (0, u "NOT_LIKE"), (0, .fieldref 1 11), (0, .nameAndType 12 6), (0, u "ILIKE"), (0, .fieldref 1 14), (0, .nameAndType 15 6), (0, u "NOT_ILIKE"), (2, u "MATCHES"), (2, u "NOT_MATCHES"), (2, u "MATCHES_IGNORING_CASE"), (2, u "NOT_MATCHES_IGNORING_CASE"), (2, u "$VALUES"), (0, u "[Lcom/example/looseleaf/looseleaf/sql/MatchOperator;"), (6, .class_ 40), (1, u "java/lang/Enum"), (8, u "symbol"), (0, u "Ljava/lang/String;"), (0, .fieldref 1 52), (0, .nameAndType 53 54), (0, u "regex"), (0, u "Z"), (0, .fieldref 1 56), (0, .nameAndType 57 54), (0, u "ignoresCase"), (0, .fieldref 1 59), (0, .nameAndType 60 54), (0, u "negated"), (44, u "like"), (0, u "(ZZ)Lcom/example/looseleaf/looseleaf/sql/MatchOperator;"), (1, u "isRegex"), (0, u "()Z"), (0, u "isNegated")] 5

def k6c0 : Code := { maxStack := 1, maxLocals := 2, code := prog_11_method_5_code, exceptionTable := #[], attributes := #[] }
def k6m0 : Method := { name := "like", desc := "(ZZ)Lcom/example/looseleaf/looseleaf/sql/MatchOperator;", sig := { parameters := [.boolean, .boolean], returnType := some (.object "com/example/looseleaf/looseleaf/sql/MatchOperator") }, accessFlags := 9, code := some k6c0 }
def k6c1 : Code := { maxStack := 1, maxLocals := 1, code := prog_11_method_7_code, exceptionTable := #[], attributes := #[] }
def k6m1 : Method := { name := "isRegex", desc := "()Z", sig := { parameters := [], returnType := some .boolean }, accessFlags := 1, code := some k6c1 }
def k6c2 : Code := { maxStack := 1, maxLocals := 1, code := prog_11_method_8_code, exceptionTable := #[], attributes := #[] }
def k6m2 : Method := { name := "ignoresCase", desc := "()Z", sig := { parameters := [], returnType := some .boolean }, accessFlags := 1, code := some k6c2 }
def k6c3 : Code := { maxStack := 1, maxLocals := 1, code := prog_11_method_9_code, exceptionTable := #[], attributes := #[] }
def k6m3 : Method := { name := "isNegated", desc := "()Z", sig := { parameters := [], returnType := some .boolean }, accessFlags := 1, code := some k6c3 }
/-- com/example/looseleaf/looseleaf/sql/MatchOperator -/
def k6 : Class := { plain "com/example/looseleaf/looseleaf/sql/MatchOperator" (some 5) with
  accessFlags := 16433
  interfaces := #[]
  cf := some (fileOf pool6 1 #[] #[{ accessFlags := 9, nameIndex := 105, descriptorIndex := 106, attributes := #[] }, { accessFlags := 1, nameIndex := 108, descriptorIndex := 109, attributes := #[] }, { accessFlags := 1, nameIndex := 57, descriptorIndex := 109, attributes := #[] }, { accessFlags := 1, nameIndex := 110, descriptorIndex := 109, attributes := #[] }] 16433 38 #[] #[{ accessFlags := 16409, nameIndex := 5, descriptorIndex := 6, attributes := #[] }, { accessFlags := 16409, nameIndex := 9, descriptorIndex := 6, attributes := #[] }, { accessFlags := 16409, nameIndex := 12, descriptorIndex := 6, attributes := #[] }, { accessFlags := 16409, nameIndex := 15, descriptorIndex := 6, attributes := #[] }, { accessFlags := 16409, nameIndex := 18, descriptorIndex := 6, attributes := #[] }, { accessFlags := 16409, nameIndex := 21, descriptorIndex := 6, attributes := #[] }, { accessFlags := 16409, nameIndex := 24, descriptorIndex := 6, attributes := #[] }, { accessFlags := 16409, nameIndex := 27, descriptorIndex := 6, attributes := #[] }, { accessFlags := 18, nameIndex := 49, descriptorIndex := 50, attributes := #[] }, { accessFlags := 18, nameIndex := 53, descriptorIndex := 54, attributes := #[] }, { accessFlags := 18, nameIndex := 57, descriptorIndex := 54, attributes := #[] }, { accessFlags := 18, nameIndex := 60, descriptorIndex := 54, attributes := #[] }, { accessFlags := 4122, nameIndex := 30, descriptorIndex := 31, attributes := #[] }])
  fields := #[{ name := "LIKE", type := (.object "com/example/looseleaf/looseleaf/sql/MatchOperator"), accessFlags := 16409, slot := 0, constantValue := 0 }, { name := "NOT_LIKE", type := (.object "com/example/looseleaf/looseleaf/sql/MatchOperator"), accessFlags := 16409, slot := 1, constantValue := 0 }, { name := "ILIKE", type := (.object "com/example/looseleaf/looseleaf/sql/MatchOperator"), accessFlags := 16409, slot := 2, constantValue := 0 }, { name := "NOT_ILIKE", type := (.object "com/example/looseleaf/looseleaf/sql/MatchOperator"), accessFlags := 16409, slot := 3, constantValue := 0 }, { name := "MATCHES", type := (.object "com/example/looseleaf/looseleaf/sql/MatchOperator"), accessFlags := 16409, slot := 4, constantValue := 0 }, { name := "NOT_MATCHES", type := (.object "com/example/looseleaf/looseleaf/sql/MatchOperator"), accessFlags := 16409, slot := 5, constantValue := 0 }, { name := "MATCHES_IGNORING_CASE", type := (.object "com/example/looseleaf/looseleaf/sql/MatchOperator"), accessFlags := 16409, slot := 6, constantValue := 0 }, { name := "NOT_MATCHES_IGNORING_CASE", type := (.object "com/example/looseleaf/looseleaf/sql/MatchOperator"), accessFlags := 16409, slot := 7, constantValue := 0 }, { name := "symbol", type := (.object "java/lang/String"), accessFlags := 18, slot := 3, constantValue := 0 }, { name := "regex", type := .boolean, accessFlags := 18, slot := 4, constantValue := 0 }, { name := "ignoresCase", type := .boolean, accessFlags := 18, slot := 5, constantValue := 0 }, { name := "negated", type := .boolean, accessFlags := 18, slot := 6, constantValue := 0 }, { name := "$VALUES", type := (.array (.object "com/example/looseleaf/looseleaf/sql/MatchOperator")), accessFlags := 4122, slot := 8, constantValue := 0 }]
  methods := #[k6m0, k6m1, k6m2, k6m3]
  instanceTypes := #[(.object "java/lang/String"), .int, .int, (.object "java/lang/String"), .boolean, .boolean, .boolean]
  staticTypes := #[(.object "com/example/looseleaf/looseleaf/sql/MatchOperator"), (.object "com/example/looseleaf/looseleaf/sql/MatchOperator"), (.object "com/example/looseleaf/looseleaf/sql/MatchOperator"), (.object "com/example/looseleaf/looseleaf/sql/MatchOperator"), (.object "com/example/looseleaf/looseleaf/sql/MatchOperator"), (.object "com/example/looseleaf/looseleaf/sql/MatchOperator"), (.object "com/example/looseleaf/looseleaf/sql/MatchOperator"), (.object "com/example/looseleaf/looseleaf/sql/MatchOperator"), (.array (.object "com/example/looseleaf/looseleaf/sql/MatchOperator"))]
  resolved := Array.replicate 116 none
  statics := some 0 }

def pool7 : Array CpInfo := pool [(1, u "java/lang/Cloneable"), (0, .class_ 1), (0, u "java/lang/Object"), (0, .class_ 3)] 3

/-- java/lang/Cloneable -/
def k7 : Class := { plain "java/lang/Cloneable" (some 0) with
  accessFlags := 1537
  interfaces := #[]
  cf := some (fileOf pool7 2 #[] #[] 1537 4 #[] #[])
  fields := #[]
  methods := #[]
  instanceTypes := #[]
  staticTypes := #[]
  resolved := Array.replicate 8 none
  statics := none }

/-- the primitive byte -/
def k8 : Class := { plain "byte" none with kind := .primitive 'B', accessFlags := 0x411 }
/-- [B -/
def k9 : Class := { plain "[B" (some 0) with kind := .array 8 .byte, interfaces := #[7, 4], accessFlags := 1041 }

/-- the primitive int -/
def k10 : Class := { plain "int" none with kind := .primitive 'I', accessFlags := 0x411 }
/-- [I -/
def k11 : Class := { plain "[I" (some 0) with kind := .array 10 .int, interfaces := #[7, 4], accessFlags := 1041 }

def heap : Heap := #[{ cls := 6, slots := #[.ref 1, .ref 2, .ref 3, .ref 4, .null, .null, .null, .null, .null], vm := .statics 6 },
  { cls := 6, slots := #[.null, .int 0, .int 0, .null, .int 0, .int 0, .int 0], vm := .none },
  { cls := 6, slots := #[.null, .int 1, .int 0, .null, .int 0, .int 0, .int 1], vm := .none },
  { cls := 6, slots := #[.null, .int 2, .int 0, .null, .int 0, .int 1, .int 0], vm := .none },
  { cls := 6, slots := #[.null, .int 3, .int 0, .null, .int 0, .int 1, .int 1], vm := .none }]
def classes : Array Class := #[k0, k1, k2, k3, k4, k5, k6, k7, k8, k9, k10, k11]
def interned : List (Array UInt16 × Addr) := []
def slotsUsed : Nat := 37
def theMethod : MethodId := ⟨1, 1⟩
def args0 : Array Value := #[.int 1]
def aboutOver (below : List Frame) : State where
  vm := { classes := classes, interned := interned.toArray }
  heap := heap
  slotsUsed := slotsUsed
  threads := #[{ frames := .invoking theMethod args0 :: below }]
def below0 : List Frame := [.native { method := ⟨0, 0⟩, args := #[] }]
def about1 : State := aboutOver below0
def p0 : Program := .bare "" "" ""
def e0 : Env := launch0.env 0 0 0
theorem w_frames : about1.frames = Frame.invoking theMethod args0 :: below0 := rfl
set_option maxRecDepth 65536 in
theorem w_args : argsFit about1.vm theMethod args0 = true := by decide +kernel
set_option maxRecDepth 65536 in
theorem w_heap : heapFits about1 = true := by decide +kernel
set_option maxRecDepth 65536 in
theorem w_runnable : about1.curStatus? = some .runnable := by decide +kernel
set_option maxRecDepth 65536 in
theorem w_alone : about1.alone = true := by decide +kernel
set_option maxRecDepth 65536 in
theorem w_named : about1.methodNamed? x = some theMethod := by decide +kernel
set_option maxRecDepth 65536 in
theorem w_hears : about1.hears theMethod below0 = true := by decide +kernel
set_option maxRecDepth 65536 in
theorem w_ripe : about1.ripe theMethod args0 below0 = true := by decide +kernel
theorem w_running : about1.status = .running := rfl
set_option maxRecDepth 65536 in
theorem w_room : about1.hasRoom e0.platform room_1 = true :=
  launch0.hasRoom_least _ room_1 (by decide +kernel) (by decide +kernel) (by decide +kernel) (by decide +kernel) (by decide +kernel) (by decide +kernel)
theorem allAtoms_all (ts : List Jvm.Cond) (a : Array Jvm.Value) (st : Jvm.State) : (allAtoms ts).before a st = ts.all (fun c => c.before a st) := by
  induction ts with
  | nil => rfl
  | cons c t ih =>
    show (Jvm.Cond.and c (allAtoms t)).before a st = _
    rw [Jvm.Cond.before_and, ih, List.all_cons]
def words1 : List Jvm.Cond := Jvm.Cond.code x code maxLocals ret :: tables_1
/-- a 'code' word, met by the world's own term for the bytes: nothing is compared byte by byte -/
theorem code_word {y : MethodName} {bytes : ByteArray} {mx : Nat} {rt : Option FieldType} {a : Array Value} {s : State} {m : MethodId} {meth : Method} {c : Code} (h1 : s.methodNamed? y = some m) (h2 : s.vm.method? m = some meth) (h3 : meth.code = some c) (h4 : c.code = bytes)
    (h5 : (c.maxLocals == mx && c.exceptionTable.isEmpty && decide (c.maxStack ≤ mostOperands) && decide (meth.sig.returnType = rt) && !meth.locks && decide (parseMethodDescriptor y.desc = some meth.sig)) = true) : (Jvm.Cond.code y bytes mx rt).before a s = true := by
  simp only [Bool.and_eq_true, beq_iff_eq, Bool.not_eq_true', decide_eq_true_eq] at h5
  obtain ⟨⟨⟨⟨⟨g1, g2⟩, g3⟩, g4⟩, g5⟩, g6⟩ := h5
  simp [Cond.before, Cond.holds, Cond.value, h1, h2, h3, h4, g1, g2, g3, g4, g5, g6]
def isCode : Jvm.Cond → Bool
  | .code _ _ _ _ => true
  | _ => false
theorem all_split {L : List Jvm.Cond} {P : Jvm.Cond → Bool} (h1 : L.all (fun c => isCode c || P c) = true) (h2 : ∀ c ∈ L.filter isCode, P c = true) : L.all P = true := by
  refine List.all_eq_true.mpr fun c hc => ?_
  have h := List.all_eq_true.mp h1 c hc
  rcases Bool.eq_false_or_eq_true (isCode c) with hi | hi
  · exact h2 c (List.mem_filter.mpr ⟨hc, hi⟩)
  · simpa [hi] using h
set_option maxRecDepth 65536 in
theorem w_c0 : (Jvm.Cond.code x code maxLocals ret).before args0 about1 = true := code_word (m := ⟨1, 1⟩) (meth := k1m1) (c := k1c1) (by decide +kernel) rfl rfl rfl (by decide +kernel)
set_option maxRecDepth 65536 in
theorem w_c1 : (Jvm.Cond.code ({ cls := "com/example/looseleaf/looseleaf/sql/MatchOperator", name := "like", desc := "(ZZ)Lcom/example/looseleaf/looseleaf/sql/MatchOperator;" } : Jvm.MethodName) prog_11_method_5_code (2 : Nat) (Option.some (Jvm.ClassFile.FieldType.object "com/example/looseleaf/looseleaf/sql/MatchOperator"))).before args0 about1 = true := code_word (m := ⟨6, 0⟩) (meth := k6m0) (c := k6c0) (by decide +kernel) rfl rfl rfl (by decide +kernel)
set_option maxRecDepth 65536 in
theorem w_c2 : (Jvm.Cond.code ({ cls := "com/example/looseleaf/looseleaf/sql/MatchOperator", name := "isRegex", desc := "()Z" } : Jvm.MethodName) prog_11_method_7_code (1 : Nat) (Option.some Jvm.ClassFile.FieldType.boolean)).before args0 about1 = true := code_word (m := ⟨6, 1⟩) (meth := k6m1) (c := k6c1) (by decide +kernel) rfl rfl rfl (by decide +kernel)
set_option maxRecDepth 65536 in
theorem w_c3 : (Jvm.Cond.code ({ cls := "com/example/looseleaf/looseleaf/sql/MatchOperator", name := "ignoresCase", desc := "()Z" } : Jvm.MethodName) prog_11_method_8_code (1 : Nat) (Option.some Jvm.ClassFile.FieldType.boolean)).before args0 about1 = true := code_word (m := ⟨6, 2⟩) (meth := k6m2) (c := k6c2) (by decide +kernel) rfl rfl rfl (by decide +kernel)
set_option maxRecDepth 65536 in
theorem w_c4 : (Jvm.Cond.code ({ cls := "com/example/looseleaf/looseleaf/sql/MatchOperator", name := "isNegated", desc := "()Z" } : Jvm.MethodName) prog_11_method_9_code (1 : Nat) (Option.some Jvm.ClassFile.FieldType.boolean)).before args0 about1 = true := code_word (m := ⟨6, 3⟩) (meth := k6m3) (c := k6c3) (by decide +kernel) rfl rfl rfl (by decide +kernel)
def codes1 : List Jvm.Cond := [Jvm.Cond.code x code maxLocals ret, Jvm.Cond.code ({ cls := "com/example/looseleaf/looseleaf/sql/MatchOperator", name := "like", desc := "(ZZ)Lcom/example/looseleaf/looseleaf/sql/MatchOperator;" } : Jvm.MethodName) prog_11_method_5_code (2 : Nat) (Option.some (Jvm.ClassFile.FieldType.object "com/example/looseleaf/looseleaf/sql/MatchOperator")), Jvm.Cond.code ({ cls := "com/example/looseleaf/looseleaf/sql/MatchOperator", name := "isRegex", desc := "()Z" } : Jvm.MethodName) prog_11_method_7_code (1 : Nat) (Option.some Jvm.ClassFile.FieldType.boolean), Jvm.Cond.code ({ cls := "com/example/looseleaf/looseleaf/sql/MatchOperator", name := "ignoresCase", desc := "()Z" } : Jvm.MethodName) prog_11_method_8_code (1 : Nat) (Option.some Jvm.ClassFile.FieldType.boolean), Jvm.Cond.code ({ cls := "com/example/looseleaf/looseleaf/sql/MatchOperator", name := "isNegated", desc := "()Z" } : Jvm.MethodName) prog_11_method_9_code (1 : Nat) (Option.some Jvm.ClassFile.FieldType.boolean)]
set_option maxRecDepth 65536 in
theorem codes_eq : words1.filter isCode = codes1 := rfl
theorem w_codes : ∀ c ∈ words1.filter isCode, c.before args0 about1 = true := by
  rw [codes_eq]
  intro c hc
  simp only [codes1, List.mem_cons, List.not_mem_nil, or_false] at hc
  rcases hc with rfl | rfl | rfl | rfl | rfl
  · exact w_c0
  · exact w_c1
  · exact w_c2
  · exact w_c3
  · exact w_c4
set_option maxRecDepth 65536 in
theorem w_t1 : (words1.take 24).all (fun c => isCode c || c.before args0 about1) = true := by decide +kernel
set_option maxRecDepth 65536 in
theorem w_t2 : (words1.drop 24).all (fun c => isCode c || c.before args0 about1) = true := by decide +kernel
theorem w_tables : (allAtoms (Jvm.Cond.code x code maxLocals ret :: tables_1)).before args0 about1 = true := by
  rw [allAtoms_all]
  show words1.all (fun c => c.before args0 about1) = true
  refine all_split ?_ w_codes
  rw [← List.take_append_drop 24 words1, List.all_append, w_t1, w_t2]
  rfl
set_option maxRecDepth 65536 in
theorem w_case : (Jvm.Cond.and given_1 narrow_1).before args0 about1 = true := by decide +kernel
theorem w_applies : (headSpec (Jvm.Cond.code x code maxLocals ret :: tables_1) room_1).applies x e0.platform about1 = true :=
  (Spec.applies_iff w_frames).mpr ⟨w_running, w_runnable, w_alone, w_named, w_hears, w_ripe, w_room, w_tables⟩
theorem atStart : AtStart classFile x code maxLocals ret World_1 tables_1 room_1 Calls_1 rest_1 Pre_1 launch0 p0 e0 about1 theMethod args0 below0 :=
  ⟨lists_1, trivial, launch0.admits_env _ _ _, launch0.least_env, fairChoices_fair.cas, fairChoices_fair.clock, w_frames, w_args, w_heap, w_applies, trivial, trivial, w_case⟩
end start1
theorem witness_1 : WitnessClaimed_1 := ⟨start1.p0, start1.e0, start1.about1, start1.theMethod, start1.args0, start1.below0, start1.atStart⟩
end Jvm.Pilot.@@N@@
