import JvmDerived
import JvmDerived.Pilot.@@N@@Statement
import JvmDerived.Pilot.@@N@@Code
set_option linter.unusedVariables false
set_option linter.unusedSimpArgs false
@@BLOCK:NumsL.lean.txt@@
namespace Jvm.RoadKit
open Sem ClassFile Op Lib Jvm.Stand Jvm.Free Jvm.LawKit
section New
variable {p : Program} {l : Launch} {e : Env} {R : Room} {s : State} {m : MethodId} {args : Array Value} {below : List Frame} {meth : Method} {c : Code} {T : State} {locs : List Loc} {cells slots : Nat}
theorem retI (X : Stand p l e R s m args below meth c T locs cells slots) (hx : p.tables.exec = Jvm.exec) {pc : Nat} {Ls : Array Slot} {z : Int32} {rest : List Value} (hret : meth.sig.returnType = some .int) (hd : decode c.code pc = .ok (.ireturn, 1)) {fs : List Frame}
    (hl : ∀ (f : JFrame) (acts : List Action), f.method = m → f.locked = none → f.entered = [] → (doReturn e (T.setTop f) acts (some (.int z))).1 = T.setFrames fs) : Steps p.tables e below (T.setTop (mkF m pc Ls (.int z :: rest))) (T.setFrames fs) := by
  have hm' : T.vm.method? m = some meth := X.method'
  have hn : narrow .int (.int z) = .int z := rfl
  show Steps p.tables e below (T.setTop { method := m, pc := pc, locals := Ls, stack := _ :: rest, locked := none }) _
  jvm_step X.here [X.here.top, hx, hd, hm', hret, hn]
  first | (intro acts; rw [hl _ acts rfl rfl rfl]) | rw [hl _ _ rfl rfl rfl]
  exact Steps.refl _
end New
end Jvm.RoadKit
namespace Jvm.Pilot.@@N@@
open Jvm Jvm.ClassFile Sem Op Lib Jvm.Free Jvm.Stand Jvm.LawKit Jvm.RoadKit Bundle Jvm.Pilot.@@N@@.Jvm.D
abbrev Gx (p : Program) (e : Env) (below : List Frame) (T0 : State) (f0 : JFrame) (T : State) (f : JFrame) : Prop := ∀ t, Steps p.tables e below (T.setTop f) t → Steps p.tables e below (T0.setTop f0) t
def minF (a b : Int32) : Int32 := if b < a then b else a
theorem own_fin (v : Int32) (n : Nat) (h0 : 0 ≤ v.toInt) (h1 : v.toInt < n) (hn : n ≤ 100000) : ∃ i : Fin n, v = Int32.ofNat i.1 := by
  refine ⟨⟨v.toInt.toNat, by omega⟩, ?_⟩
  apply Int32.toInt_inj.mp
  show _ = (Int32.ofNat v.toInt.toNat).toInt
  rw [toInt_of (n := Int32.ofNat v.toInt.toNat) rfl (by omega)]
  omega
theorem own_and3 (x : Int32) : x &&& (3 : Int32) = 0 ∨ x &&& (3 : Int32) = 1 ∨ x &&& (3 : Int32) = 2 ∨ x &&& (3 : Int32) = 3 := by
  have h := Jvm.Kit.i32_mask x 3 (k := 2) (by decide) (by decide)
  obtain ⟨i, hi⟩ := own_fin (x &&& (3 : Int32)) 4 (by omega) (by omega) (by decide)
  rw [hi]
  clear hi h
  revert i
  decide
theorem own_after (b : Int32) : (((if b = (1 : Int32) then (-715850751 : Int32) else (715849729 : Int32)).toUInt32 >>> ((16 : Int32) &&& 31).toUInt32).toInt32) = (if b = (1 : Int32) then (54612 : Int32) else (10923 : Int32)) := by
  split <;> decide
theorem own_after2 (b c d : Int32) : (((if c = d then (if b = (1 : Int32) then (-715850751 : Int32) else (715849729 : Int32)) else (-2147483648 : Int32)).toUInt32 >>> ((16 : Int32) &&& 31).toUInt32).toInt32) = (if c = d then (if b = (1 : Int32) then (54612 : Int32) else (10923 : Int32)) else (32768 : Int32)) := by
  by_cases h : c = d
  · rw [if_pos h, if_pos h]; exact own_after b
  · rw [if_neg h, if_neg h]; decide
theorem own_el {args : Array Value} {Z : State} {t : Term} {a : Addr} {c : Cell} {i z : Int32} {ty : FieldType} (ev : t.eval args Z none [] Z = some (.ref a)) (A : Arr Z Z.heap a c ty) (h : (Jvm.Cond.eq (Jvm.Term.elem t (Jvm.Term.int i)) (Jvm.Term.int z)).value args Z none Z [] = some true) (hi : ¬ i < 0 := by decide) : c.slots[i.toNatClampNeg]? = some (.int z) := by
  have h1 := elem_f (a := Jvm.Term.int i) (o := none) (idx := []) (first := Z) ev rfl (A.fin (Vm.Alike.refl _)) hi
  rw [← h1]
  exact Cond.eq_int (show (Jvm.Cond.eq (Jvm.Term.elem t (Jvm.Term.int i)) (Jvm.Term.int z)).holds args Z none Z [] = true from Cond.before_iff.mpr h) rfl
theorem d7_0 : decode jdk_29_method_69_code 0 = .ok (.iload_n 0, 1) := by decide +kernel
theorem d7_1 : decode jdk_29_method_69_code 1 = .ok (.iload_n 1, 1) := by decide +kernel
theorem d7_2 : decode jdk_29_method_69_code 2 = .ok (.if_icmp .gt 7, 3) := by decide +kernel
theorem d7_5 : decode jdk_29_method_69_code 5 = .ok (.iload_n 0, 1) := by decide +kernel
theorem d7_6 : decode jdk_29_method_69_code 6 = .ok (.goto 4, 3) := by decide +kernel
theorem d7_9 : decode jdk_29_method_69_code 9 = .ok (.iload_n 1, 1) := by decide +kernel
theorem d7_10 : decode jdk_29_method_69_code 10 = .ok (.ireturn, 1) := by decide +kernel
theorem ef_Min (m : MethodId) (p1 : Int32) (p2 : Int32) : entryFrame m #[(.int p1), (.int p2)] 2 = mkF m 0 #[.val (.int p1), .val (.int p2)] [] := by first | (simp [entryFrame, mkF, argsToLocals, Value.category]; done) | rfl
def QMin (Z : State) (p1 : Int32) (p2 : Int32) (h0 : Heap) (n0 : Nat) (v : Option Value) (h : Heap) (L : List Loc) : Prop := v = some (.int (minF p1 p2)) ∧ Fr n0 L ∧ h = h0
set_option maxRecDepth 65536 in
set_option maxHeartbeats 40000000 in
theorem rmMin (l : Launch) (Z : State) (a0 : Array Value) (hw : ∀ d ∈ tables_1, d.before a0 Z = true) (ws : List Jvm.Cond) (p1 : Int32) (p2 : Int32) (h0 : Heap) (n0 : Nat) (Z0 : n0 ≤ h0.size) :
    MetFree l (⟨"java/lang/Math", "min", "(II)I"⟩ : MethodName) (head1 (Jvm.Cond.code (⟨"java/lang/Math", "min", "(II)I"⟩ : MethodName) jdk_29_method_69_code 2 (some .int) :: ws) ({ frames := 0, cells := 0, slots := 0, locals := 0 } : Room)) (fun a U => a = #[(.int p1), (.int p2)] ∧ Z.Warmed39 U.vm ∧ U.heap = h0) (fun _ _ _ _ _ => True) (fun _ U o U' => ∃ v L, o = .returned v ∧ QMin Z p1 p2 h0 n0 v U'.heap L ∧ FrameEnd U o U' L ({ frames := 0, cells := 0, slots := 0, locals := 0 } : Room).cells ({ frames := 0, cells := 0, slots := 0, locals := 0 } : Room).slots) := by
  refine MetFree.of_bodySF (Jvm.Free.JP.mathPlain rfl (by decide +kernel)) hisR ?_
  intro p e s m args below meth c s₁ Bd hml0 hP hK
  obtain ⟨rfl, hZ, hh⟩ := hP
  have hx := Bd.exec
  have hby := Bd.bytes
  have hml : c.maxLocals = 2 := hml0
  have hown : s.vm.findClass "java/lang/Math" = some m.cls := findClass_of_methodNamed Bd.named
  have hnm := (name_of_methodNamed Bd.named Bd.method).1
  have X0 : Stand p l e ({ frames := 0, cells := 0, slots := 0, locals := 0 } : Room) s m #[(.int p1), (.int p2)] below meth c s₁ [] 0 0 := Stand.of_body Bd
  have hs0 : h0 = s.heap := hh.symm
  have e0 : s₁.heap = h0 := by rw [← hh, Bd.state]; rfl
  have N0 := Fr.nil n0
  obtain ⟨f0, hf0⟩ : ∃ f, f = entryFrame m #[(.int p1), (.int p2)] 2 := ⟨_, rfl⟩
  have pre0 : ∀ t, Steps p.tables e below (s₁.setTop f0) t → Steps p.tables e below (s₁.setTop (entryFrame m #[(.int p1), (.int p2)] 2)) t := fun t k => hf0 ▸ k
  have K0 : Gx p e below s₁ f0 s₁ (mkF m 0 #[.val (.int p1), .val (.int p2)] []) := fun t kt => by rw [hf0]; exact castTop (ef_Min m p1 p2) kt
  have K3 : Gx p e below s₁ f0 s₁ (mkF m 2 #[.val (.int p1), .val (.int p2)] [(.int p2), (.int p1)]) := fun t kt => K0 t (by
    show Steps p.tables e below (s₁.setTop (mkF m 0 #[.val (.int p1), .val (.int p2)] [])) _
    refine XS.iloadN X0.here hx rfl (hb hby d7_0) rfl ?_
    show Steps p.tables e below (s₁.setTop (mkF m 1 #[.val (.int p1), .val (.int p2)] [(.int p1)])) _
    refine XS.iloadN X0.here hx rfl (hb hby d7_1) rfl ?_
    exact kt)
  obtain ⟨v2, hv2⟩ : ∃ z : Int32, z = (if p2 < p1 then p2 else p1) := ⟨_, rfl⟩
  have K4 : Gx p e below s₁ f0 s₁ (mkF m 10 #[.val (.int p1), .val (.int p2)] [(.int v2)]) := fun t kt => K3 t (by
    by_cases hc2_0 : p2 < p1
    · skip
      show Steps p.tables e below (s₁.setTop (mkF m 2 #[.val (.int p1), .val (.int p2)] [(.int p2), (.int p1)])) _
      refine XS.icmpYes X0.here hx rfl (pc0 := 2) (pc' := 9) rfl (hb hby d7_2) rfl (tlt hc2_0).2.2.1 (by decide) (by decide) ?_
      show Steps p.tables e below (s₁.setTop (mkF m 9 #[.val (.int p1), .val (.int p2)] [])) _
      refine XS.iloadN X0.here hx rfl (hb hby d7_9) rfl ?_
      show Steps p.tables e below (s₁.setTop (mkF m 10 #[.val (.int p1), .val (.int p2)] [(.int p2)])) _
      exact castTop (by simp only [hv2, if_pos hc2_0]) kt
    · skip
      show Steps p.tables e below (s₁.setTop (mkF m 2 #[.val (.int p1), .val (.int p2)] [(.int p2), (.int p1)])) _
      refine XS.icmpNo X0.here hx rfl (hb hby d7_2) rfl (flt hc2_0).2.2.1 ?_
      show Steps p.tables e below (s₁.setTop (mkF m 5 #[.val (.int p1), .val (.int p2)] [])) _
      refine XS.iloadN X0.here hx rfl (hb hby d7_5) rfl ?_
      show Steps p.tables e below (s₁.setTop (mkF m 6 #[.val (.int p1), .val (.int p2)] [(.int p1)])) _
      refine XS.goto X0.here hx rfl (pc0 := 6) (pc' := 10) rfl (hb hby d7_6) (by decide) (by decide) ?_
      show Steps p.tables e below (s₁.setTop (mkF m 10 #[.val (.int p1), .val (.int p2)] [(.int p1)])) _
      exact castTop (by simp only [hv2, if_neg hc2_0]) kt)
  obtain ⟨fs5, hr5, hrun5, hended5, hW5, hsame5⟩ := X0.leave (v := some (.int v2)) (fun h => by rw [Bd.returns] at h; cases h)
  refine ⟨_, _, pre0 _ (K4 _ ?_), hrun5, hended5, _, _, rfl, ?_, ⟨_, rfl⟩, hW5, hsame5.mono (by decide) (by decide)⟩
  · exact retI X0 hx Bd.returns (hb hby d7_10) hr5
  · show QMin Z p1 p2 h0 n0 _ s₁.heap _
    rw [e0]
    exact ⟨(congrArg some (congrArg Value.int (by first | (simp only [minF, hv2]; done) | (rw [hv2]; rfl)))), N0, rfl⟩
theorem d4_0 : decode jdk_65_method_30_code 0 = .ok (.iload_n 1, 1) := by decide +kernel
theorem d4_1 : decode jdk_65_method_30_code 1 = .ok (.iload_n 2, 1) := by decide +kernel
theorem d4_2 : decode jdk_65_method_30_code 2 = .ok (.if_icmp .le 44, 3) := by decide +kernel
theorem d4_46 : decode jdk_65_method_30_code 46 = .ok (.iload_n 1, 1) := by decide +kernel
theorem d4_47 : decode jdk_65_method_30_code 47 = .ok (.ifCond .ge 12, 3) := by decide +kernel
theorem d4_59 : decode jdk_65_method_30_code 59 = .ok (.iload_n 2, 1) := by decide +kernel
theorem d4_60 : decode jdk_65_method_30_code 60 = .ok (.iload_n 0, 1) := by decide +kernel
theorem d4_61 : decode jdk_65_method_30_code 61 = .ok (.if_icmp .le 12, 3) := by decide +kernel
theorem d4_73 : decode jdk_65_method_30_code 73 = .ok (.return_, 1) := by decide +kernel
theorem pn_4 : plainName "java/util/Arrays" = true := by first | (simp [plainName, overriddenIn]; done) | decide +kernel
theorem ef_Rc (m : MethodId) (p1 : Int32) (p2 : Int32) (p3 : Int32) : entryFrame m #[(.int p1), (.int p2), (.int p3)] 3 = mkF m 0 #[.val (.int p1), .val (.int p2), .val (.int p3)] [] := by first | (simp [entryFrame, mkF, argsToLocals, Value.category]; done) | rfl
def QRc (Z : State) (p1 : Int32) (p2 : Int32) (p3 : Int32) (h0 : Heap) (n0 : Nat) (v : Option Value) (h : Heap) (L : List Loc) : Prop := v = none ∧ Fr n0 L ∧ h = h0
set_option maxRecDepth 65536 in
set_option maxHeartbeats 40000000 in
theorem rmRc (l : Launch) (Z : State) (a0 : Array Value) (hw : ∀ d ∈ tables_1, d.before a0 Z = true) (ws : List Jvm.Cond) (p1 : Int32) (p2 : Int32) (p3 : Int32) (h0 : Heap) (n0 : Nat) (Z0 : n0 ≤ h0.size) (h1 : ¬ (p3 < p2)) (h2 : ¬ (p2 < (0 : Int32))) (h3 : ¬ (p1 < p3)) :
    MetFree l (⟨"java/util/Arrays", "rangeCheck", "(III)V"⟩ : MethodName) (head1 (Jvm.Cond.code (⟨"java/util/Arrays", "rangeCheck", "(III)V"⟩ : MethodName) jdk_65_method_30_code 3 none :: ws) ({ frames := 0, cells := 0, slots := 0, locals := 0 } : Room)) (fun a U => a = #[(.int p1), (.int p2), (.int p3)] ∧ Z.Warmed39 U.vm ∧ U.heap = h0) (fun _ _ _ _ _ => True) (fun _ U o U' => ∃ v L, o = .returned v ∧ QRc Z p1 p2 p3 h0 n0 v U'.heap L ∧ FrameEnd U o U' L ({ frames := 0, cells := 0, slots := 0, locals := 0 } : Room).cells ({ frames := 0, cells := 0, slots := 0, locals := 0 } : Room).slots) := by
  refine MetFree.of_bodySF (plainFor_of_name pn_4) hisR ?_
  intro p e s m args below meth c s₁ Bd hml0 hP hK
  obtain ⟨rfl, hZ, hh⟩ := hP
  have hx := Bd.exec
  have hby := Bd.bytes
  have hml : c.maxLocals = 3 := hml0
  have hown : s.vm.findClass "java/util/Arrays" = some m.cls := findClass_of_methodNamed Bd.named
  have hnm := (name_of_methodNamed Bd.named Bd.method).1
  have X0 : Stand p l e ({ frames := 0, cells := 0, slots := 0, locals := 0 } : Room) s m #[(.int p1), (.int p2), (.int p3)] below meth c s₁ [] 0 0 := Stand.of_body Bd
  have hs0 : h0 = s.heap := hh.symm
  have e0 : s₁.heap = h0 := by rw [← hh, Bd.state]; rfl
  have N0 := Fr.nil n0
  obtain ⟨f0, hf0⟩ : ∃ f, f = entryFrame m #[(.int p1), (.int p2), (.int p3)] 3 := ⟨_, rfl⟩
  have pre0 : ∀ t, Steps p.tables e below (s₁.setTop f0) t → Steps p.tables e below (s₁.setTop (entryFrame m #[(.int p1), (.int p2), (.int p3)] 3)) t := fun t k => hf0 ▸ k
  have K0 : Gx p e below s₁ f0 s₁ (mkF m 0 #[.val (.int p1), .val (.int p2), .val (.int p3)] []) := fun t kt => by rw [hf0]; exact castTop (ef_Rc m p1 p2 p3) kt
  have K1 : Gx p e below s₁ f0 s₁ (mkF m 73 #[.val (.int p1), .val (.int p2), .val (.int p3)] []) := fun t kt => K0 t (by
    show Steps p.tables e below (s₁.setTop (mkF m 0 #[.val (.int p1), .val (.int p2), .val (.int p3)] [])) _
    refine XS.iloadN X0.here hx rfl (hb hby d4_0) rfl ?_
    show Steps p.tables e below (s₁.setTop (mkF m 1 #[.val (.int p1), .val (.int p2), .val (.int p3)] [(.int p2)])) _
    refine XS.iloadN X0.here hx rfl (hb hby d4_1) rfl ?_
    show Steps p.tables e below (s₁.setTop (mkF m 2 #[.val (.int p1), .val (.int p2), .val (.int p3)] [(.int p3), (.int p2)])) _
    refine XS.icmpYes X0.here hx rfl (pc0 := 2) (pc' := 46) rfl (hb hby d4_2) rfl (flt h1).2.2.2 (by decide) (by decide) ?_
    show Steps p.tables e below (s₁.setTop (mkF m 46 #[.val (.int p1), .val (.int p2), .val (.int p3)] [])) _
    refine XS.iloadN X0.here hx rfl (hb hby d4_46) rfl ?_
    show Steps p.tables e below (s₁.setTop (mkF m 47 #[.val (.int p1), .val (.int p2), .val (.int p3)] [(.int p2)])) _
    refine XS.ifYes X0.here hx rfl (pc0 := 47) (pc' := 59) rfl (hb hby d4_47) rfl ((if0 _ _).trans (flt h2).2.1) (by decide) (by decide) ?_
    show Steps p.tables e below (s₁.setTop (mkF m 59 #[.val (.int p1), .val (.int p2), .val (.int p3)] [])) _
    refine XS.iloadN X0.here hx rfl (hb hby d4_59) rfl ?_
    show Steps p.tables e below (s₁.setTop (mkF m 60 #[.val (.int p1), .val (.int p2), .val (.int p3)] [(.int p3)])) _
    refine XS.iloadN X0.here hx rfl (hb hby d4_60) rfl ?_
    show Steps p.tables e below (s₁.setTop (mkF m 61 #[.val (.int p1), .val (.int p2), .val (.int p3)] [(.int p1), (.int p3)])) _
    refine XS.icmpYes X0.here hx rfl (pc0 := 61) (pc' := 73) rfl (hb hby d4_61) rfl (flt h3).2.2.2 (by decide) (by decide) ?_
    exact kt)
  obtain ⟨fs2, hr2, hrun2, hended2, hW2, hsame2⟩ := X0.leave (v := none) (fun _ => rfl)
  refine ⟨_, _, pre0 _ (K1 _ ?_), hrun2, hended2, _, _, rfl, ?_, ⟨_, rfl⟩, hW2, hsame2.mono (by decide) (by decide)⟩
  · exact X0.returnOut hx Bd.returns (hb hby d4_73) hr2
  · show QRc Z p1 p2 p3 h0 n0 _ s₁.heap _
    rw [e0]
    exact ⟨rfl, N0, rfl⟩
theorem d3_0 : decode jdk_65_method_104_code 0 = .ok (.aload_n 0, 1) := by decide +kernel
theorem d3_1 : decode jdk_65_method_104_code 1 = .ok (.arraylength, 1) := by decide +kernel
theorem d3_2 : decode jdk_65_method_104_code 2 = .ok (.iload_n 1, 1) := by decide +kernel
theorem d3_3 : decode jdk_65_method_104_code 3 = .ok (.iload_n 2, 1) := by decide +kernel
theorem d3_4 : decode jdk_65_method_104_code 4 = .ok (.invokestatic 13, 3) := by decide +kernel
theorem d3_7 : decode jdk_65_method_104_code 7 = .ok (.iload_n 1, 1) := by decide +kernel
theorem d3_8 : decode jdk_65_method_104_code 8 = .ok (.istore 4, 2) := by decide +kernel
theorem d3_10 : decode jdk_65_method_104_code 10 = .ok (.iload 4, 2) := by decide +kernel
theorem d3_12 : decode jdk_65_method_104_code 12 = .ok (.iload_n 2, 1) := by decide +kernel
theorem d3_13 : decode jdk_65_method_104_code 13 = .ok (.if_icmp .ge 14, 3) := by decide +kernel
theorem d3_16 : decode jdk_65_method_104_code 16 = .ok (.aload_n 0, 1) := by decide +kernel
theorem d3_17 : decode jdk_65_method_104_code 17 = .ok (.iload 4, 2) := by decide +kernel
theorem d3_19 : decode jdk_65_method_104_code 19 = .ok (.iload_n 3, 1) := by decide +kernel
theorem d3_20 : decode jdk_65_method_104_code 20 = .ok (.iastore, 1) := by decide +kernel
theorem d3_21 : decode jdk_65_method_104_code 21 = .ok (.iinc 4 1, 3) := by decide +kernel
theorem d3_24 : decode jdk_65_method_104_code 24 = .ok (.goto (-14), 3) := by decide +kernel
theorem d3_27 : decode jdk_65_method_104_code 27 = .ok (.return_, 1) := by decide +kernel
theorem pn_3 : plainName "java/util/Arrays" = true := by first | (simp [plainName, overriddenIn]; done) | decide +kernel
theorem pd__III_V : parseMethodDescriptor "(III)V" = some ⟨[.int, .int, .int], none⟩ := by decide +kernel
theorem ef_Fill0 (m : MethodId) (a1 : Addr) (p4 : Int32) : entryFrame m #[(.ref a1), (.int (0 : Int32)), (.int (4 : Int32)), (.int p4)] 5 = mkF m 0 #[.val (.ref a1), .val (.int (0 : Int32)), .val (.int (4 : Int32)), .val (.int p4), .unset] [] := by first | (simp [entryFrame, mkF, argsToLocals, Value.category]; done) | rfl
def QFill0 (Z : State) (a1 : Addr) (p4 : Int32) (k : ClassId) (u0 : Int32) (u1 : Int32) (u2 : Int32) (u3 : Int32) (u4 : Int32) (u5 : Int32) (u6 : Int32) (u7 : Int32) (h0 : Heap) (n0 : Nat) (v : Option Value) (h : Heap) (L : List Loc) : Prop := v = none ∧ Fr n0 L ∧ Keep h0 h [a1] ∧ Arv Z h a1 k .int (8 : Int32) [(.int p4), (.int p4), (.int p4), (.int p4), (.int u4), (.int u5), (.int u6), (.int u7)] (.int (0 : Int32))
set_option maxRecDepth 65536 in
set_option maxHeartbeats 40000000 in
theorem rmFill0 (l : Launch) (Z : State) (a0 : Array Value) (hw : ∀ d ∈ tables_1, d.before a0 Z = true) (ws : List Jvm.Cond) (a1 : Addr) (p4 : Int32) (k : ClassId) (u0 : Int32) (u1 : Int32) (u2 : Int32) (u3 : Int32) (u4 : Int32) (u5 : Int32) (u6 : Int32) (u7 : Int32) (h0 : Heap) (n0 : Nat) (Z0 : n0 ≤ h0.size) (pr0 : Arv Z h0 a1 k .int (8 : Int32) [(.int u0), (.int u1), (.int u2), (.int u3), (.int u4), (.int u5), (.int u6), (.int u7)] (.int (0 : Int32))) (pr1 : n0 ≤ a1) :
    MetFree l (⟨"java/util/Arrays", "fill", "([IIII)V"⟩ : MethodName) (head1 (Jvm.Cond.code (⟨"java/util/Arrays", "fill", "([IIII)V"⟩ : MethodName) jdk_65_method_104_code 5 none :: ws) ({ frames := 1, cells := 0, slots := 0, locals := 14 } : Room)) (fun a U => a = #[(.ref a1), (.int (0 : Int32)), (.int (4 : Int32)), (.int p4)] ∧ Z.Warmed39 U.vm ∧ U.heap = h0) (fun _ _ _ _ _ => True) (fun _ U o U' => ∃ v L, o = .returned v ∧ QFill0 Z a1 p4 k u0 u1 u2 u3 u4 u5 u6 u7 h0 n0 v U'.heap L ∧ FrameEnd U o U' L ({ frames := 1, cells := 0, slots := 0, locals := 14 } : Room).cells ({ frames := 1, cells := 0, slots := 0, locals := 14 } : Room).slots) := by
  refine MetFree.of_bodySF (plainFor_of_name pn_3) hisR ?_
  intro p e s m args below meth c s₁ Bd hml0 hP hK
  obtain ⟨rfl, hZ, hh⟩ := hP
  have hx := Bd.exec
  have hby := Bd.bytes
  have hml : c.maxLocals = 5 := hml0
  have hown : s.vm.findClass "java/util/Arrays" = some m.cls := findClass_of_methodNamed Bd.named
  have hnm := (name_of_methodNamed Bd.named Bd.method).1
  have X0 : Stand p l e ({ frames := 1, cells := 0, slots := 0, locals := 14 } : Room) s m #[(.ref a1), (.int (0 : Int32)), (.int (4 : Int32)), (.int p4)] below meth c s₁ [] 0 0 := Stand.of_body Bd
  have hs0 : h0 = s.heap := hh.symm
  have e0 : s₁.heap = h0 := by rw [← hh, Bd.state]; rfl
  have N0 := Fr.nil n0
  obtain ⟨f0, hf0⟩ : ∃ f, f = entryFrame m #[(.ref a1), (.int (0 : Int32)), (.int (4 : Int32)), (.int p4)] 5 := ⟨_, rfl⟩
  have pre0 : ∀ t, Steps p.tables e below (s₁.setTop f0) t → Steps p.tables e below (s₁.setTop (entryFrame m #[(.ref a1), (.int (0 : Int32)), (.int (4 : Int32)), (.int p4)] 5)) t := fun t k => hf0 ▸ k
  have K0 : Gx p e below s₁ f0 s₁ (mkF m 0 #[.val (.ref a1), .val (.int (0 : Int32)), .val (.int (4 : Int32)), .val (.int p4), .unset] []) := fun t kt => by rw [hf0]; exact castTop (ef_Fill0 m a1 p4) kt
  obtain ⟨clq1, Arq1, ckq1, cSq1, cNq1, cHq1, cGq1⟩ := id pr0
  have K2 : Gx p e below s₁ f0 s₁ (mkF m 4 #[.val (.ref a1), .val (.int (0 : Int32)), .val (.int (4 : Int32)), .val (.int p4), .unset] [(.int (4 : Int32)), (.int (0 : Int32)), (.int (8 : Int32))]) := fun t kt => K0 t (by
    show Steps p.tables e below (s₁.setTop (mkF m 0 #[.val (.ref a1), .val (.int (0 : Int32)), .val (.int (4 : Int32)), .val (.int p4), .unset] [])) _
    refine XS.aloadN X0.here hx rfl (hb hby d3_0) rfl rfl ?_
    show Steps p.tables e below (s₁.setTop (mkF m 1 #[.val (.ref a1), .val (.int (0 : Int32)), .val (.int (4 : Int32)), .val (.int p4), .unset] [(.ref a1)])) _
    refine X0.arraylength hx (by rw [e0]; exact Arq1.1) (State.isArrayOf_alike hZ.alike Arq1.2.1) (g := (mkF m 1 #[.val (.ref a1), .val (.int (0 : Int32)), .val (.int (4 : Int32)), .val (.int p4), .unset] [(.ref a1)])) rfl rfl (hb hby d3_1) _ ?_
    rw [len_of cSq1 cNq1]
    show Steps p.tables e below (s₁.setTop (mkF m 2 #[.val (.ref a1), .val (.int (0 : Int32)), .val (.int (4 : Int32)), .val (.int p4), .unset] [(.int (8 : Int32))])) _
    refine XS.iloadN X0.here hx rfl (hb hby d3_2) rfl ?_
    show Steps p.tables e below (s₁.setTop (mkF m 3 #[.val (.ref a1), .val (.int (0 : Int32)), .val (.int (4 : Int32)), .val (.int p4), .unset] [(.int (0 : Int32)), (.int (8 : Int32))])) _
    refine XS.iloadN X0.here hx rfl (hb hby d3_3) rfl ?_
    exact kt)
  obtain ⟨_, _, ⟨T3, L3, k3, n3⟩, -, X3', ⟨Lc3, hQ3, l3, y3, z3⟩, st3⟩ := Jvm.LawKit.callS X0 hx (y := (⟨"java/util/Arrays", "rangeCheck", "(III)V"⟩ : MethodName)) hown (mvT hZ (hw _ (List.mem_of_getElem? (i := 19) rfl))) (mvT hZ (hw _ (List.mem_of_getElem? (i := 20) rfl))) (mvT hZ (hw _ (List.mem_of_getElem? (i := 17) rfl))) (mvT hZ (hw _ (List.mem_of_getElem? (i := 21) rfl))) (by decide) (backOf (W := 0) (rmRc l Z a0 hw [] (8 : Int32) (0 : Int32) (4 : Int32) h0 n0 (Nat.le_trans Z0 (Keep.refl h0 [a1]).1) (by decide) (by decide) (by decide)) hZ (hw _ (List.mem_of_getElem? (i := 21) rfl)) (hw _ (List.mem_of_getElem? (i := 17) rfl)) (by decide) (by decide)) (g := (mkF m 4 #[.val (.ref a1), .val (.int (0 : Int32)), .val (.int (4 : Int32)), .val (.int p4), .unset] [(.int (4 : Int32)), (.int (0 : Int32)), (.int (8 : Int32))])) rfl (by rw [hml]; rfl) (argsL := [(.int (8 : Int32)), (.int (0 : Int32)), (.int (4 : Int32))]) (rest := []) (lenOf pd__III_V rfl) rfl (by show 2 * 0 + _ ≤ _; exact Nat.le_of_eq rfl) (hb hby d3_4) (fun _ _ => ⟨rfl, e0, (by decide : 0 + 0 ≤ _), (by decide : 0 + 0 ≤ _)⟩)
  dsimp only [Pt.U, Pt.locs, Pt.cells, Pt.slots] at X3' l3 y3 z3 st3 hQ3
  subst l3 y3 z3
  obtain ⟨rfl, N3q, e3⟩ := hQ3
  obtain ⟨lc3, X3, N3⟩ : ∃ lc, Stand p l e ({ frames := 1, cells := 0, slots := 0, locals := 14 } : Room) s m #[(.ref a1), (.int (0 : Int32)), (.int (4 : Int32)), (.int p4)] below meth c T3 lc 0 0 ∧ Fr n0 lc := ⟨_, X3', Fr.app N0 N3q⟩
  have K4 : Gx p e below s₁ f0 T3 (mkF m 7 #[.val (.ref a1), .val (.int (0 : Int32)), .val (.int (4 : Int32)), .val (.int p4), .unset] []) := fun t kt => K2 t (st3 t kt)
  have K5 : Gx p e below s₁ f0 T3 (mkF m 20 #[.val (.ref a1), .val (.int (0 : Int32)), .val (.int (4 : Int32)), .val (.int p4), .val (.int (0 : Int32))] [(.int p4), (.int (0 : Int32)), (.ref a1)]) := fun t kt => K4 t (by
    show Steps p.tables e below (T3.setTop (mkF m 7 #[.val (.ref a1), .val (.int (0 : Int32)), .val (.int (4 : Int32)), .val (.int p4), .unset] [])) _
    refine XS.iloadN X3.here hx rfl (hb hby d3_7) rfl ?_
    show Steps p.tables e below (T3.setTop (mkF m 8 #[.val (.ref a1), .val (.int (0 : Int32)), .val (.int (4 : Int32)), .val (.int p4), .unset] [(.int (0 : Int32))])) _
    refine XS.istore X3.here hx rfl (hb hby d3_8) rfl (l' := #[.val (.ref a1), .val (.int (0 : Int32)), .val (.int (4 : Int32)), .val (.int p4), .val (.int (0 : Int32))]) rfl ?_
    show Steps p.tables e below (T3.setTop (mkF m 10 #[.val (.ref a1), .val (.int (0 : Int32)), .val (.int (4 : Int32)), .val (.int p4), .val (.int (0 : Int32))] [])) _
    refine XS.iload X3.here hx rfl (hb hby d3_10) rfl ?_
    show Steps p.tables e below (T3.setTop (mkF m 12 #[.val (.ref a1), .val (.int (0 : Int32)), .val (.int (4 : Int32)), .val (.int p4), .val (.int (0 : Int32))] [(.int (0 : Int32))])) _
    refine XS.iloadN X3.here hx rfl (hb hby d3_12) rfl ?_
    show Steps p.tables e below (T3.setTop (mkF m 13 #[.val (.ref a1), .val (.int (0 : Int32)), .val (.int (4 : Int32)), .val (.int p4), .val (.int (0 : Int32))] [(.int (4 : Int32)), (.int (0 : Int32))])) _
    refine XS.icmpNo X3.here hx rfl (hb hby d3_13) rfl (tlt (by decide)).2.1 ?_
    show Steps p.tables e below (T3.setTop (mkF m 16 #[.val (.ref a1), .val (.int (0 : Int32)), .val (.int (4 : Int32)), .val (.int p4), .val (.int (0 : Int32))] [])) _
    refine XS.aloadN X3.here hx rfl (hb hby d3_16) rfl rfl ?_
    show Steps p.tables e below (T3.setTop (mkF m 17 #[.val (.ref a1), .val (.int (0 : Int32)), .val (.int (4 : Int32)), .val (.int p4), .val (.int (0 : Int32))] [(.ref a1)])) _
    refine XS.iload X3.here hx rfl (hb hby d3_17) rfl ?_
    show Steps p.tables e below (T3.setTop (mkF m 19 #[.val (.ref a1), .val (.int (0 : Int32)), .val (.int (4 : Int32)), .val (.int p4), .val (.int (0 : Int32))] [(.int (0 : Int32)), (.ref a1)])) _
    refine XS.iloadN X3.here hx rfl (hb hby d3_19) rfl ?_
    exact kt)
  obtain ⟨T6, h6, X6', e6, W6, st6⟩ := stI X3 hx hZ e3 Arq1 (j := (0 : Int32)) (inb_of cSq1 ⟨by decide, by decide⟩) (g := (mkF m 20 #[.val (.ref a1), .val (.int (0 : Int32)), .val (.int (4 : Int32)), .val (.int p4), .val (.int (0 : Int32))] [(.int p4), (.int (0 : Int32)), (.ref a1)])) rfl rfl (hb hby d3_20)
  obtain ⟨lc6, X6, N6⟩ : ∃ lc, Stand p l e ({ frames := 1, cells := 0, slots := 0, locals := 14 } : Room) s m #[(.ref a1), (.int (0 : Int32)), (.int (4 : Int32)), (.int p4)] below meth c T6 lc 0 0 ∧ Fr n0 lc := ⟨_, X6', Fr.snoc X6' N3 pr1⟩
  have V6 : Arv Z h6 a1 k .int (8 : Int32) [(.int p4), (.int u1), (.int u2), (.int u3), (.int u4), (.int u5), (.int u6), (.int u7)] (.int (0 : Int32)) := Arv.set Arq1 ckq1 cSq1 cNq1 cHq1 cGq1 rfl W6 0 rfl (Nat.le_of_ble_eq_true rfl)
  have K7 : Gx p e below s₁ f0 T6 (mkF m 21 #[.val (.ref a1), .val (.int (0 : Int32)), .val (.int (4 : Int32)), .val (.int p4), .val (.int (0 : Int32))] []) := fun t kt => K5 t (st6 t kt)
  have K8 : Gx p e below s₁ f0 T6 (mkF m 20 #[.val (.ref a1), .val (.int (0 : Int32)), .val (.int (4 : Int32)), .val (.int p4), .val (.int (1 : Int32))] [(.int p4), (.int (1 : Int32)), (.ref a1)]) := fun t kt => K7 t (by
    show Steps p.tables e below (T6.setTop (mkF m 21 #[.val (.ref a1), .val (.int (0 : Int32)), .val (.int (4 : Int32)), .val (.int p4), .val (.int (0 : Int32))] [])) _
    refine XS.iinc X6.here hx rfl (hb hby d3_21) rfl (l' := #[.val (.ref a1), .val (.int (0 : Int32)), .val (.int (4 : Int32)), .val (.int p4), .val (.int (1 : Int32))]) rfl ?_
    show Steps p.tables e below (T6.setTop (mkF m 24 #[.val (.ref a1), .val (.int (0 : Int32)), .val (.int (4 : Int32)), .val (.int p4), .val (.int (1 : Int32))] [])) _
    refine XS.goto X6.here hx rfl (pc0 := 24) (pc' := 10) rfl (hb hby d3_24) (by decide) (by decide) ?_
    show Steps p.tables e below (T6.setTop (mkF m 10 #[.val (.ref a1), .val (.int (0 : Int32)), .val (.int (4 : Int32)), .val (.int p4), .val (.int (1 : Int32))] [])) _
    refine XS.iload X6.here hx rfl (hb hby d3_10) rfl ?_
    show Steps p.tables e below (T6.setTop (mkF m 12 #[.val (.ref a1), .val (.int (0 : Int32)), .val (.int (4 : Int32)), .val (.int p4), .val (.int (1 : Int32))] [(.int (1 : Int32))])) _
    refine XS.iloadN X6.here hx rfl (hb hby d3_12) rfl ?_
    show Steps p.tables e below (T6.setTop (mkF m 13 #[.val (.ref a1), .val (.int (0 : Int32)), .val (.int (4 : Int32)), .val (.int p4), .val (.int (1 : Int32))] [(.int (4 : Int32)), (.int (1 : Int32))])) _
    refine XS.icmpNo X6.here hx rfl (hb hby d3_13) rfl (tlt (by decide)).2.1 ?_
    show Steps p.tables e below (T6.setTop (mkF m 16 #[.val (.ref a1), .val (.int (0 : Int32)), .val (.int (4 : Int32)), .val (.int p4), .val (.int (1 : Int32))] [])) _
    refine XS.aloadN X6.here hx rfl (hb hby d3_16) rfl rfl ?_
    show Steps p.tables e below (T6.setTop (mkF m 17 #[.val (.ref a1), .val (.int (0 : Int32)), .val (.int (4 : Int32)), .val (.int p4), .val (.int (1 : Int32))] [(.ref a1)])) _
    refine XS.iload X6.here hx rfl (hb hby d3_17) rfl ?_
    show Steps p.tables e below (T6.setTop (mkF m 19 #[.val (.ref a1), .val (.int (0 : Int32)), .val (.int (4 : Int32)), .val (.int p4), .val (.int (1 : Int32))] [(.int (1 : Int32)), (.ref a1)])) _
    refine XS.iloadN X6.here hx rfl (hb hby d3_19) rfl ?_
    exact kt)
  obtain ⟨clq9, Arq9, ckq9, cSq9, cNq9, cHq9, cGq9⟩ := id V6
  obtain ⟨T10, h10, X10', e10, W10, st10⟩ := stI X6 hx hZ e6 Arq9 (j := (1 : Int32)) (inb_of cSq9 ⟨by decide, by decide⟩) (g := (mkF m 20 #[.val (.ref a1), .val (.int (0 : Int32)), .val (.int (4 : Int32)), .val (.int p4), .val (.int (1 : Int32))] [(.int p4), (.int (1 : Int32)), (.ref a1)])) rfl rfl (hb hby d3_20)
  obtain ⟨lc10, X10, N10⟩ : ∃ lc, Stand p l e ({ frames := 1, cells := 0, slots := 0, locals := 14 } : Room) s m #[(.ref a1), (.int (0 : Int32)), (.int (4 : Int32)), (.int p4)] below meth c T10 lc 0 0 ∧ Fr n0 lc := ⟨_, X10', Fr.snoc X10' N6 pr1⟩
  have V10 : Arv Z h10 a1 k .int (8 : Int32) [(.int p4), (.int p4), (.int u2), (.int u3), (.int u4), (.int u5), (.int u6), (.int u7)] (.int (0 : Int32)) := Arv.set Arq9 ckq9 cSq9 cNq9 cHq9 cGq9 rfl W10 1 rfl (Nat.le_of_ble_eq_true rfl)
  have K11 : Gx p e below s₁ f0 T10 (mkF m 21 #[.val (.ref a1), .val (.int (0 : Int32)), .val (.int (4 : Int32)), .val (.int p4), .val (.int (1 : Int32))] []) := fun t kt => K8 t (st10 t kt)
  have K12 : Gx p e below s₁ f0 T10 (mkF m 20 #[.val (.ref a1), .val (.int (0 : Int32)), .val (.int (4 : Int32)), .val (.int p4), .val (.int (2 : Int32))] [(.int p4), (.int (2 : Int32)), (.ref a1)]) := fun t kt => K11 t (by
    show Steps p.tables e below (T10.setTop (mkF m 21 #[.val (.ref a1), .val (.int (0 : Int32)), .val (.int (4 : Int32)), .val (.int p4), .val (.int (1 : Int32))] [])) _
    refine XS.iinc X10.here hx rfl (hb hby d3_21) rfl (l' := #[.val (.ref a1), .val (.int (0 : Int32)), .val (.int (4 : Int32)), .val (.int p4), .val (.int (2 : Int32))]) rfl ?_
    show Steps p.tables e below (T10.setTop (mkF m 24 #[.val (.ref a1), .val (.int (0 : Int32)), .val (.int (4 : Int32)), .val (.int p4), .val (.int (2 : Int32))] [])) _
    refine XS.goto X10.here hx rfl (pc0 := 24) (pc' := 10) rfl (hb hby d3_24) (by decide) (by decide) ?_
    show Steps p.tables e below (T10.setTop (mkF m 10 #[.val (.ref a1), .val (.int (0 : Int32)), .val (.int (4 : Int32)), .val (.int p4), .val (.int (2 : Int32))] [])) _
    refine XS.iload X10.here hx rfl (hb hby d3_10) rfl ?_
    show Steps p.tables e below (T10.setTop (mkF m 12 #[.val (.ref a1), .val (.int (0 : Int32)), .val (.int (4 : Int32)), .val (.int p4), .val (.int (2 : Int32))] [(.int (2 : Int32))])) _
    refine XS.iloadN X10.here hx rfl (hb hby d3_12) rfl ?_
    show Steps p.tables e below (T10.setTop (mkF m 13 #[.val (.ref a1), .val (.int (0 : Int32)), .val (.int (4 : Int32)), .val (.int p4), .val (.int (2 : Int32))] [(.int (4 : Int32)), (.int (2 : Int32))])) _
    refine XS.icmpNo X10.here hx rfl (hb hby d3_13) rfl (tlt (by decide)).2.1 ?_
    show Steps p.tables e below (T10.setTop (mkF m 16 #[.val (.ref a1), .val (.int (0 : Int32)), .val (.int (4 : Int32)), .val (.int p4), .val (.int (2 : Int32))] [])) _
    refine XS.aloadN X10.here hx rfl (hb hby d3_16) rfl rfl ?_
    show Steps p.tables e below (T10.setTop (mkF m 17 #[.val (.ref a1), .val (.int (0 : Int32)), .val (.int (4 : Int32)), .val (.int p4), .val (.int (2 : Int32))] [(.ref a1)])) _
    refine XS.iload X10.here hx rfl (hb hby d3_17) rfl ?_
    show Steps p.tables e below (T10.setTop (mkF m 19 #[.val (.ref a1), .val (.int (0 : Int32)), .val (.int (4 : Int32)), .val (.int p4), .val (.int (2 : Int32))] [(.int (2 : Int32)), (.ref a1)])) _
    refine XS.iloadN X10.here hx rfl (hb hby d3_19) rfl ?_
    exact kt)
  obtain ⟨clq13, Arq13, ckq13, cSq13, cNq13, cHq13, cGq13⟩ := id V10
  obtain ⟨T14, h14, X14', e14, W14, st14⟩ := stI X10 hx hZ e10 Arq13 (j := (2 : Int32)) (inb_of cSq13 ⟨by decide, by decide⟩) (g := (mkF m 20 #[.val (.ref a1), .val (.int (0 : Int32)), .val (.int (4 : Int32)), .val (.int p4), .val (.int (2 : Int32))] [(.int p4), (.int (2 : Int32)), (.ref a1)])) rfl rfl (hb hby d3_20)
  obtain ⟨lc14, X14, N14⟩ : ∃ lc, Stand p l e ({ frames := 1, cells := 0, slots := 0, locals := 14 } : Room) s m #[(.ref a1), (.int (0 : Int32)), (.int (4 : Int32)), (.int p4)] below meth c T14 lc 0 0 ∧ Fr n0 lc := ⟨_, X14', Fr.snoc X14' N10 pr1⟩
  have V14 : Arv Z h14 a1 k .int (8 : Int32) [(.int p4), (.int p4), (.int p4), (.int u3), (.int u4), (.int u5), (.int u6), (.int u7)] (.int (0 : Int32)) := Arv.set Arq13 ckq13 cSq13 cNq13 cHq13 cGq13 rfl W14 2 rfl (Nat.le_of_ble_eq_true rfl)
  have K15 : Gx p e below s₁ f0 T14 (mkF m 21 #[.val (.ref a1), .val (.int (0 : Int32)), .val (.int (4 : Int32)), .val (.int p4), .val (.int (2 : Int32))] []) := fun t kt => K12 t (st14 t kt)
  have K16 : Gx p e below s₁ f0 T14 (mkF m 20 #[.val (.ref a1), .val (.int (0 : Int32)), .val (.int (4 : Int32)), .val (.int p4), .val (.int (3 : Int32))] [(.int p4), (.int (3 : Int32)), (.ref a1)]) := fun t kt => K15 t (by
    show Steps p.tables e below (T14.setTop (mkF m 21 #[.val (.ref a1), .val (.int (0 : Int32)), .val (.int (4 : Int32)), .val (.int p4), .val (.int (2 : Int32))] [])) _
    refine XS.iinc X14.here hx rfl (hb hby d3_21) rfl (l' := #[.val (.ref a1), .val (.int (0 : Int32)), .val (.int (4 : Int32)), .val (.int p4), .val (.int (3 : Int32))]) rfl ?_
    show Steps p.tables e below (T14.setTop (mkF m 24 #[.val (.ref a1), .val (.int (0 : Int32)), .val (.int (4 : Int32)), .val (.int p4), .val (.int (3 : Int32))] [])) _
    refine XS.goto X14.here hx rfl (pc0 := 24) (pc' := 10) rfl (hb hby d3_24) (by decide) (by decide) ?_
    show Steps p.tables e below (T14.setTop (mkF m 10 #[.val (.ref a1), .val (.int (0 : Int32)), .val (.int (4 : Int32)), .val (.int p4), .val (.int (3 : Int32))] [])) _
    refine XS.iload X14.here hx rfl (hb hby d3_10) rfl ?_
    show Steps p.tables e below (T14.setTop (mkF m 12 #[.val (.ref a1), .val (.int (0 : Int32)), .val (.int (4 : Int32)), .val (.int p4), .val (.int (3 : Int32))] [(.int (3 : Int32))])) _
    refine XS.iloadN X14.here hx rfl (hb hby d3_12) rfl ?_
    show Steps p.tables e below (T14.setTop (mkF m 13 #[.val (.ref a1), .val (.int (0 : Int32)), .val (.int (4 : Int32)), .val (.int p4), .val (.int (3 : Int32))] [(.int (4 : Int32)), (.int (3 : Int32))])) _
    refine XS.icmpNo X14.here hx rfl (hb hby d3_13) rfl (tlt (by decide)).2.1 ?_
    show Steps p.tables e below (T14.setTop (mkF m 16 #[.val (.ref a1), .val (.int (0 : Int32)), .val (.int (4 : Int32)), .val (.int p4), .val (.int (3 : Int32))] [])) _
    refine XS.aloadN X14.here hx rfl (hb hby d3_16) rfl rfl ?_
    show Steps p.tables e below (T14.setTop (mkF m 17 #[.val (.ref a1), .val (.int (0 : Int32)), .val (.int (4 : Int32)), .val (.int p4), .val (.int (3 : Int32))] [(.ref a1)])) _
    refine XS.iload X14.here hx rfl (hb hby d3_17) rfl ?_
    show Steps p.tables e below (T14.setTop (mkF m 19 #[.val (.ref a1), .val (.int (0 : Int32)), .val (.int (4 : Int32)), .val (.int p4), .val (.int (3 : Int32))] [(.int (3 : Int32)), (.ref a1)])) _
    refine XS.iloadN X14.here hx rfl (hb hby d3_19) rfl ?_
    exact kt)
  obtain ⟨clq17, Arq17, ckq17, cSq17, cNq17, cHq17, cGq17⟩ := id V14
  obtain ⟨T18, h18, X18', e18, W18, st18⟩ := stI X14 hx hZ e14 Arq17 (j := (3 : Int32)) (inb_of cSq17 ⟨by decide, by decide⟩) (g := (mkF m 20 #[.val (.ref a1), .val (.int (0 : Int32)), .val (.int (4 : Int32)), .val (.int p4), .val (.int (3 : Int32))] [(.int p4), (.int (3 : Int32)), (.ref a1)])) rfl rfl (hb hby d3_20)
  obtain ⟨lc18, X18, N18⟩ : ∃ lc, Stand p l e ({ frames := 1, cells := 0, slots := 0, locals := 14 } : Room) s m #[(.ref a1), (.int (0 : Int32)), (.int (4 : Int32)), (.int p4)] below meth c T18 lc 0 0 ∧ Fr n0 lc := ⟨_, X18', Fr.snoc X18' N14 pr1⟩
  have V18 : Arv Z h18 a1 k .int (8 : Int32) [(.int p4), (.int p4), (.int p4), (.int p4), (.int u4), (.int u5), (.int u6), (.int u7)] (.int (0 : Int32)) := Arv.set Arq17 ckq17 cSq17 cNq17 cHq17 cGq17 rfl W18 3 rfl (Nat.le_of_ble_eq_true rfl)
  have K19 : Gx p e below s₁ f0 T18 (mkF m 21 #[.val (.ref a1), .val (.int (0 : Int32)), .val (.int (4 : Int32)), .val (.int p4), .val (.int (3 : Int32))] []) := fun t kt => K16 t (st18 t kt)
  have K20 : Gx p e below s₁ f0 T18 (mkF m 27 #[.val (.ref a1), .val (.int (0 : Int32)), .val (.int (4 : Int32)), .val (.int p4), .val (.int (4 : Int32))] []) := fun t kt => K19 t (by
    show Steps p.tables e below (T18.setTop (mkF m 21 #[.val (.ref a1), .val (.int (0 : Int32)), .val (.int (4 : Int32)), .val (.int p4), .val (.int (3 : Int32))] [])) _
    refine XS.iinc X18.here hx rfl (hb hby d3_21) rfl (l' := #[.val (.ref a1), .val (.int (0 : Int32)), .val (.int (4 : Int32)), .val (.int p4), .val (.int (4 : Int32))]) rfl ?_
    show Steps p.tables e below (T18.setTop (mkF m 24 #[.val (.ref a1), .val (.int (0 : Int32)), .val (.int (4 : Int32)), .val (.int p4), .val (.int (4 : Int32))] [])) _
    refine XS.goto X18.here hx rfl (pc0 := 24) (pc' := 10) rfl (hb hby d3_24) (by decide) (by decide) ?_
    show Steps p.tables e below (T18.setTop (mkF m 10 #[.val (.ref a1), .val (.int (0 : Int32)), .val (.int (4 : Int32)), .val (.int p4), .val (.int (4 : Int32))] [])) _
    refine XS.iload X18.here hx rfl (hb hby d3_10) rfl ?_
    show Steps p.tables e below (T18.setTop (mkF m 12 #[.val (.ref a1), .val (.int (0 : Int32)), .val (.int (4 : Int32)), .val (.int p4), .val (.int (4 : Int32))] [(.int (4 : Int32))])) _
    refine XS.iloadN X18.here hx rfl (hb hby d3_12) rfl ?_
    show Steps p.tables e below (T18.setTop (mkF m 13 #[.val (.ref a1), .val (.int (0 : Int32)), .val (.int (4 : Int32)), .val (.int p4), .val (.int (4 : Int32))] [(.int (4 : Int32)), (.int (4 : Int32))])) _
    refine XS.icmpYes X18.here hx rfl (pc0 := 13) (pc' := 27) rfl (hb hby d3_13) rfl (flt (by decide)).2.1 (by decide) (by decide) ?_
    exact kt)
  have kp22 : Keep h0 h18 [a1] := (((((Keep.refl h0 [a1]).wr W6 (Or.inl (List.mem_of_getElem? (i := 0) rfl))).wr W10 (Or.inl (List.mem_of_getElem? (i := 0) rfl))).wr W14 (Or.inl (List.mem_of_getElem? (i := 0) rfl))).wr W18 (Or.inl (List.mem_of_getElem? (i := 0) rfl)))
  obtain ⟨fs21, hr21, hrun21, hended21, hW21, hsame21⟩ := X18.leave (v := none) (fun _ => rfl)
  refine ⟨_, _, pre0 _ (K20 _ ?_), hrun21, hended21, _, _, rfl, ?_, ⟨_, rfl⟩, hW21, hsame21.mono (by decide) (by decide)⟩
  · exact X18.returnOut hx Bd.returns (hb hby d3_27) hr21
  · show QFill0 Z a1 p4 k u0 u1 u2 u3 u4 u5 u6 u7 h0 n0 _ T18.heap _
    rw [e18]
    exact ⟨rfl, N18, kp22, V18⟩
theorem d1_0 : decode prog_31_method_1_code 0 = .ok (.aload_n 0, 1) := by decide +kernel
theorem d1_1 : decode prog_31_method_1_code 1 = .ok (.invokespecial 5, 3) := by decide +kernel
theorem d1_4 : decode prog_31_method_1_code 4 = .ok (.aload_n 0, 1) := by decide +kernel
theorem d1_5 : decode prog_31_method_1_code 5 = .ok (.aload_n 1, 1) := by decide +kernel
theorem d1_6 : decode prog_31_method_1_code 6 = .ok (.putfield 11, 3) := by decide +kernel
theorem d1_9 : decode prog_31_method_1_code 9 = .ok (.aload_n 0, 1) := by decide +kernel
theorem d1_10 : decode prog_31_method_1_code 10 = .ok (.iload_n 2, 1) := by decide +kernel
theorem d1_11 : decode prog_31_method_1_code 11 = .ok (.putfield 15, 3) := by decide +kernel
theorem d1_14 : decode prog_31_method_1_code 14 = .ok (.aload_n 1, 1) := by decide +kernel
theorem d1_15 : decode prog_31_method_1_code 15 = .ok (.iload_n 2, 1) := by decide +kernel
theorem d1_16 : decode prog_31_method_1_code 16 = .ok (.iload_n 2, 1) := by decide +kernel
theorem d1_17 : decode prog_31_method_1_code 17 = .ok (.iload_n 3, 1) := by decide +kernel
theorem d1_18 : decode prog_31_method_1_code 18 = .ok (.iadd, 1) := by decide +kernel
theorem d1_19 : decode prog_31_method_1_code 19 = .ok (.ldc 19, 2) := by decide +kernel
theorem d1_21 : decode prog_31_method_1_code 21 = .ok (.invokestatic 20, 3) := by decide +kernel
theorem d1_24 : decode prog_31_method_1_code 24 = .ok (.return_, 1) := by decide +kernel
theorem pn_1 : plainName "lastcolumn/stage/Probabilities" = true := by first | (simp [plainName, overriddenIn]; done) | decide +kernel
theorem pd___IIII_V : parseMethodDescriptor "([IIII)V" = some ⟨[(.array .int), .int, .int, .int], none⟩ := by decide +kernel
theorem ef_Ini0 (m : MethodId) (a1 : Addr) (a2 : Addr) : entryFrame m #[(.ref a1), (.ref a2), (.int (0 : Int32)), (.int (4 : Int32))] 4 = mkF m 0 #[.val (.ref a1), .val (.ref a2), .val (.int (0 : Int32)), .val (.int (4 : Int32))] [] := by first | (simp [entryFrame, mkF, argsToLocals, Value.category]; done) | rfl
def QIni0 (Z : State) (a1 : Addr) (a2 : Addr) (k : ClassId) (u0 : Int32) (u1 : Int32) (u2 : Int32) (u3 : Int32) (u4 : Int32) (u5 : Int32) (u6 : Int32) (u7 : Int32) (h0 : Heap) (n0 : Nat) (v : Option Value) (h : Heap) (L : List Loc) : Prop := v = none ∧ Fr n0 L ∧ Keep h0 h [a1, a2] ∧ Exa Z h a1 "lastcolumn/stage/Probabilities" ∧ Fld Z h a1 "lastcolumn/stage/Probabilities" "states" "[I" (.ref a2) ∧ Fld Z h a1 "lastcolumn/stage/Probabilities" "at" "I" (.int (0 : Int32)) ∧ Arv Z h a2 k .int (8 : Int32) [(.int (-2147483648 : Int32)), (.int (-2147483648 : Int32)), (.int (-2147483648 : Int32)), (.int (-2147483648 : Int32)), (.int u4), (.int u5), (.int u6), (.int u7)] (.int (0 : Int32))
set_option maxRecDepth 65536 in
set_option maxHeartbeats 40000000 in
theorem rmIni0 (l : Launch) (Z : State) (a0 : Array Value) (hw : ∀ d ∈ tables_1, d.before a0 Z = true) (ws : List Jvm.Cond) (a1 : Addr) (a2 : Addr) (k : ClassId) (u0 : Int32) (u1 : Int32) (u2 : Int32) (u3 : Int32) (u4 : Int32) (u5 : Int32) (u6 : Int32) (u7 : Int32) (h0 : Heap) (n0 : Nat) (Z0 : n0 ≤ h0.size) (pr0 : Exa Z h0 a1 "lastcolumn/stage/Probabilities") (pr1 : n0 ≤ a1) (pr2 : n0 ≤ a2) (pr3 : Fld Z h0 a1 "lastcolumn/stage/Probabilities" "states" "[I" .null) (pr4 : Fld Z h0 a1 "lastcolumn/stage/Probabilities" "at" "I" (.int (0 : Int32))) (pr5 : Arv Z h0 a2 k .int (8 : Int32) [(.int u0), (.int u1), (.int u2), (.int u3), (.int u4), (.int u5), (.int u6), (.int u7)] (.int (0 : Int32))) (pr6 : a1 ≠ a2) :
    MetFree l (⟨"lastcolumn/stage/Probabilities", "<init>", "([III)V"⟩ : MethodName) (head1 (Jvm.Cond.code (⟨"lastcolumn/stage/Probabilities", "<init>", "([III)V"⟩ : MethodName) prog_31_method_1_code 4 none :: ws) ({ frames := 2, cells := 0, slots := 0, locals := 30 } : Room)) (fun a U => a = #[(.ref a1), (.ref a2), (.int (0 : Int32)), (.int (4 : Int32))] ∧ Z.Warmed39 U.vm ∧ U.heap = h0) (fun _ _ _ _ _ => True) (fun _ U o U' => ∃ v L, o = .returned v ∧ QIni0 Z a1 a2 k u0 u1 u2 u3 u4 u5 u6 u7 h0 n0 v U'.heap L ∧ FrameEnd U o U' L ({ frames := 2, cells := 0, slots := 0, locals := 30 } : Room).cells ({ frames := 2, cells := 0, slots := 0, locals := 30 } : Room).slots) := by
  refine MetFree.of_bodySF (plainFor_of_name pn_1) hisR ?_
  intro p e s m args below meth c s₁ Bd hml0 hP hK
  obtain ⟨rfl, hZ, hh⟩ := hP
  have hx := Bd.exec
  have hby := Bd.bytes
  have hml : c.maxLocals = 4 := hml0
  have hown : s.vm.findClass "lastcolumn/stage/Probabilities" = some m.cls := findClass_of_methodNamed Bd.named
  have hnm := (name_of_methodNamed Bd.named Bd.method).1
  have X0 : Stand p l e ({ frames := 2, cells := 0, slots := 0, locals := 30 } : Room) s m #[(.ref a1), (.ref a2), (.int (0 : Int32)), (.int (4 : Int32))] below meth c s₁ [] 0 0 := Stand.of_body Bd
  have hs0 : h0 = s.heap := hh.symm
  have e0 : s₁.heap = h0 := by rw [← hh, Bd.state]; rfl
  have N0 := Fr.nil n0
  obtain ⟨f0, hf0⟩ : ∃ f, f = entryFrame m #[(.ref a1), (.ref a2), (.int (0 : Int32)), (.int (4 : Int32))] 4 := ⟨_, rfl⟩
  have pre0 : ∀ t, Steps p.tables e below (s₁.setTop f0) t → Steps p.tables e below (s₁.setTop (entryFrame m #[(.ref a1), (.ref a2), (.int (0 : Int32)), (.int (4 : Int32))] 4)) t := fun t k => hf0 ▸ k
  have K0 : Gx p e below s₁ f0 s₁ (mkF m 0 #[.val (.ref a1), .val (.ref a2), .val (.int (0 : Int32)), .val (.int (4 : Int32))] []) := fun t kt => by rw [hf0]; exact castTop (ef_Ini0 m a1 a2) kt
  have K1 : Gx p e below s₁ f0 s₁ (mkF m 1 #[.val (.ref a1), .val (.ref a2), .val (.int (0 : Int32)), .val (.int (4 : Int32))] [(.ref a1)]) := fun t kt => K0 t (by
    show Steps p.tables e below (s₁.setTop (mkF m 0 #[.val (.ref a1), .val (.ref a2), .val (.int (0 : Int32)), .val (.int (4 : Int32))] [])) _
    refine XS.aloadN X0.here hx rfl (hb hby d1_0) rfl rfl ?_
    exact kt)
  obtain ⟨T2, X2, e2, st2⟩ := initO X0 hx hZ hown (hw _ (List.mem_of_getElem? (i := 7) rfl)) (hw _ (List.mem_of_getElem? (i := 8) rfl)) (hw _ (List.mem_of_getElem? (i := 9) rfl)) e0 (g := (mkF m 1 #[.val (.ref a1), .val (.ref a2), .val (.int (0 : Int32)), .val (.int (4 : Int32))] [(.ref a1)])) rfl (by rw [hml]; rfl) rfl (hb hby d1_1) (by decide) (W := 0) (by show 2 * 0 + _ ≤ _; exact Nat.le_of_eq rfl) (by decide)
  have K3 : Gx p e below s₁ f0 T2 (mkF m 4 #[.val (.ref a1), .val (.ref a2), .val (.int (0 : Int32)), .val (.int (4 : Int32))] []) := fun t kt => K1 t (st2 t kt)
  have K4 : Gx p e below s₁ f0 T2 (mkF m 6 #[.val (.ref a1), .val (.ref a2), .val (.int (0 : Int32)), .val (.int (4 : Int32))] [(.ref a2), (.ref a1)]) := fun t kt => K3 t (by
    show Steps p.tables e below (T2.setTop (mkF m 4 #[.val (.ref a1), .val (.ref a2), .val (.int (0 : Int32)), .val (.int (4 : Int32))] [])) _
    refine XS.aloadN X2.here hx rfl (hb hby d1_4) rfl rfl ?_
    show Steps p.tables e below (T2.setTop (mkF m 5 #[.val (.ref a1), .val (.ref a2), .val (.int (0 : Int32)), .val (.int (4 : Int32))] [(.ref a1)])) _
    refine XS.aloadN X2.here hx rfl (hb hby d1_5) rfl rfl ?_
    exact kt)
  obtain ⟨T5, h5, X5', e5, W5, st5⟩ := putF X2 hx hZ hown (host := "") (Or.inl (hw _ (List.mem_of_getElem? (i := 10) rfl))) Via.refl e2 pr3 pr0 (Or.inr ⟨(hw _ (List.mem_of_getElem? (i := 11) rfl)), rfl, hnm⟩) (hw _ (List.mem_of_getElem? (i := 2) rfl)) (ty := (.array .int)) (by decide) rfl rfl (g := (mkF m 6 #[.val (.ref a1), .val (.ref a2), .val (.int (0 : Int32)), .val (.int (4 : Int32))] [(.ref a2), (.ref a1)])) rfl rfl (hb hby d1_6)
  obtain ⟨lc5, X5, N5⟩ : ∃ lc, Stand p l e ({ frames := 2, cells := 0, slots := 0, locals := 30 } : Room) s m #[(.ref a1), (.ref a2), (.int (0 : Int32)), (.int (4 : Int32))] below meth c T5 lc 0 0 ∧ Fr n0 lc := ⟨_, X5', Fr.snoc X5' N0 pr1⟩
  have f5_ : Fld Z h5 a1 "lastcolumn/stage/Probabilities" "states" "[I" (.ref a2) := pr3.same W5
  have K6 : Gx p e below s₁ f0 T5 (mkF m 9 #[.val (.ref a1), .val (.ref a2), .val (.int (0 : Int32)), .val (.int (4 : Int32))] []) := fun t kt => K4 t (st5 t kt)
  have K7 : Gx p e below s₁ f0 T5 (mkF m 11 #[.val (.ref a1), .val (.ref a2), .val (.int (0 : Int32)), .val (.int (4 : Int32))] [(.int (0 : Int32)), (.ref a1)]) := fun t kt => K6 t (by
    show Steps p.tables e below (T5.setTop (mkF m 9 #[.val (.ref a1), .val (.ref a2), .val (.int (0 : Int32)), .val (.int (4 : Int32))] [])) _
    refine XS.aloadN X5.here hx rfl (hb hby d1_9) rfl rfl ?_
    show Steps p.tables e below (T5.setTop (mkF m 10 #[.val (.ref a1), .val (.ref a2), .val (.int (0 : Int32)), .val (.int (4 : Int32))] [(.ref a1)])) _
    refine XS.iloadN X5.here hx rfl (hb hby d1_10) rfl ?_
    exact kt)
  have f8 : Fld Z h5 a1 "lastcolumn/stage/Probabilities" "at" "I" (.int (0 : Int32)) := (pr4.other W5 (Or.inr (slot_ne (Or.inr (hw _ (List.mem_of_getElem? (i := 13) rfl))) (Or.inr (hw _ (List.mem_of_getElem? (i := 11) rfl))) (by decide) (t := .int) (t' := (.array .int)) (by decide) (by decide))))
  have f9 : Exa Z h5 a1 "lastcolumn/stage/Probabilities" := (pr0.wr W5)
  obtain ⟨T10, h10, X10', e10, W10, st10⟩ := putF X5 hx hZ hown (host := "") (Or.inl (hw _ (List.mem_of_getElem? (i := 12) rfl))) Via.refl e5 f8 f9 (Or.inr ⟨(hw _ (List.mem_of_getElem? (i := 13) rfl)), rfl, hnm⟩) (hw _ (List.mem_of_getElem? (i := 2) rfl)) (ty := .int) (by decide) rfl rfl (g := (mkF m 11 #[.val (.ref a1), .val (.ref a2), .val (.int (0 : Int32)), .val (.int (4 : Int32))] [(.int (0 : Int32)), (.ref a1)])) rfl rfl (hb hby d1_11)
  obtain ⟨lc10, X10, N10⟩ : ∃ lc, Stand p l e ({ frames := 2, cells := 0, slots := 0, locals := 30 } : Room) s m #[(.ref a1), (.ref a2), (.int (0 : Int32)), (.int (4 : Int32))] below meth c T10 lc 0 0 ∧ Fr n0 lc := ⟨_, X10', Fr.snoc X10' N5 pr1⟩
  have f10_ : Fld Z h10 a1 "lastcolumn/stage/Probabilities" "at" "I" (.int (0 : Int32)) := f8.same W10
  have K11 : Gx p e below s₁ f0 T10 (mkF m 14 #[.val (.ref a1), .val (.ref a2), .val (.int (0 : Int32)), .val (.int (4 : Int32))] []) := fun t kt => K7 t (st10 t kt)
  have K12 : Gx p e below s₁ f0 T10 (mkF m 21 #[.val (.ref a1), .val (.ref a2), .val (.int (0 : Int32)), .val (.int (4 : Int32))] [(.int (-2147483648 : Int32)), (.int (4 : Int32)), (.int (0 : Int32)), (.ref a2)]) := fun t kt => K11 t (by
    show Steps p.tables e below (T10.setTop (mkF m 14 #[.val (.ref a1), .val (.ref a2), .val (.int (0 : Int32)), .val (.int (4 : Int32))] [])) _
    refine XS.aloadN X10.here hx rfl (hb hby d1_14) rfl rfl ?_
    show Steps p.tables e below (T10.setTop (mkF m 15 #[.val (.ref a1), .val (.ref a2), .val (.int (0 : Int32)), .val (.int (4 : Int32))] [(.ref a2)])) _
    refine XS.iloadN X10.here hx rfl (hb hby d1_15) rfl ?_
    show Steps p.tables e below (T10.setTop (mkF m 16 #[.val (.ref a1), .val (.ref a2), .val (.int (0 : Int32)), .val (.int (4 : Int32))] [(.int (0 : Int32)), (.ref a2)])) _
    refine XS.iloadN X10.here hx rfl (hb hby d1_16) rfl ?_
    show Steps p.tables e below (T10.setTop (mkF m 17 #[.val (.ref a1), .val (.ref a2), .val (.int (0 : Int32)), .val (.int (4 : Int32))] [(.int (0 : Int32)), (.int (0 : Int32)), (.ref a2)])) _
    refine XS.iloadN X10.here hx rfl (hb hby d1_17) rfl ?_
    show Steps p.tables e below (T10.setTop (mkF m 18 #[.val (.ref a1), .val (.ref a2), .val (.int (0 : Int32)), .val (.int (4 : Int32))] [(.int (4 : Int32)), (.int (0 : Int32)), (.int (0 : Int32)), (.ref a2)])) _
    refine XS.iadd X10.here hx rfl (hb hby d1_18) rfl ?_
    show Steps p.tables e below (T10.setTop (mkF m 19 #[.val (.ref a1), .val (.ref a2), .val (.int (0 : Int32)), .val (.int (4 : Int32))] [(.int (4 : Int32)), (.int (0 : Int32)), (.ref a2)])) _
    refine X10.ldcInt hx hown (mvT hZ (hw _ (List.mem_of_getElem? (i := 14) rfl))) (g := (mkF m 19 #[.val (.ref a1), .val (.ref a2), .val (.int (0 : Int32)), .val (.int (4 : Int32))] [(.int (4 : Int32)), (.int (0 : Int32)), (.ref a2)])) rfl (hb hby d1_19) _ ?_
    exact kt)
  have f13 : Arv Z h10 a2 k .int (8 : Int32) [(.int u0), (.int u1), (.int u2), (.int u3), (.int u4), (.int u5), (.int u6), (.int u7)] (.int (0 : Int32)) := ((pr5.other W5 (Ne.symm pr6)).other W10 (Ne.symm pr6))
  have kp14 : Keep h0 h10 [a1, a2] := (((Keep.refl h0 [a1, a2]).wr W5 (Or.inl (List.mem_of_getElem? (i := 0) rfl))).wr W10 (Or.inl (List.mem_of_getElem? (i := 0) rfl)))
  obtain ⟨_, _, ⟨T15, L15, k15, n15⟩, -, X15', ⟨Lc15, hQ15, l15, y15, z15⟩, st15⟩ := Jvm.LawKit.callS X10 hx (y := (⟨"java/util/Arrays", "fill", "([IIII)V"⟩ : MethodName)) hown (mvT hZ (hw _ (List.mem_of_getElem? (i := 15) rfl))) (mvT hZ (hw _ (List.mem_of_getElem? (i := 16) rfl))) (mvT hZ (hw _ (List.mem_of_getElem? (i := 17) rfl))) (mvT hZ (hw _ (List.mem_of_getElem? (i := 18) rfl))) (by decide) (backOf (W := 0) (rmFill0 l Z a0 hw [] a2 (-2147483648 : Int32) k u0 u1 u2 u3 u4 u5 u6 u7 h10 n0 (Nat.le_trans Z0 kp14.1) f13 pr2) hZ (hw _ (List.mem_of_getElem? (i := 18) rfl)) (hw _ (List.mem_of_getElem? (i := 17) rfl)) (by decide) (by decide)) (g := (mkF m 21 #[.val (.ref a1), .val (.ref a2), .val (.int (0 : Int32)), .val (.int (4 : Int32))] [(.int (-2147483648 : Int32)), (.int (4 : Int32)), (.int (0 : Int32)), (.ref a2)])) rfl (by rw [hml]; rfl) (argsL := [(.ref a2), (.int (0 : Int32)), (.int (4 : Int32)), (.int (-2147483648 : Int32))]) (rest := []) (lenOf pd___IIII_V rfl) rfl (by show 2 * 0 + _ ≤ _; exact Nat.le_of_eq rfl) (hb hby d1_21) (fun _ _ => ⟨rfl, e10, (by decide : 0 + 0 ≤ _), (by decide : 0 + 0 ≤ _)⟩)
  dsimp only [Pt.U, Pt.locs, Pt.cells, Pt.slots] at X15' l15 y15 z15 st15 hQ15
  subst l15 y15 z15
  obtain ⟨h15, e15⟩ : ∃ z, T15.heap = z := ⟨_, rfl⟩
  rw [e15] at hQ15
  obtain ⟨rfl, N15q, Kc15, f16⟩ := hQ15
  obtain ⟨lc15, X15, N15⟩ : ∃ lc, Stand p l e ({ frames := 2, cells := 0, slots := 0, locals := 30 } : Room) s m #[(.ref a1), (.ref a2), (.int (0 : Int32)), (.int (4 : Int32))] below meth c T15 lc 0 0 ∧ Fr n0 lc := ⟨_, X15', Fr.app N10 N15q⟩
  have K17 : Gx p e below s₁ f0 T15 (mkF m 24 #[.val (.ref a1), .val (.ref a2), .val (.int (0 : Int32)), .val (.int (4 : Int32))] []) := fun t kt => K12 t (st15 t kt)
  have kp19 : Keep h0 h15 [a1, a2] := (Keep.trans kp14 Kc15 (allS (Or.inl (List.mem_of_getElem? (i := 1) rfl)) all0))
  have f20 : Exa Z h15 a1 "lastcolumn/stage/Probabilities" := ((f9.wr W10).keep Kc15)
  have f21 : Fld Z h15 a1 "lastcolumn/stage/Probabilities" "states" "[I" (.ref a2) := ((f5_.other W10 (Or.inr (slot_ne (Or.inr (hw _ (List.mem_of_getElem? (i := 11) rfl))) (Or.inr (hw _ (List.mem_of_getElem? (i := 13) rfl))) (by decide) (t := (.array .int)) (t' := .int) (by decide) (by decide)))).keep Kc15 (ninS pr6 nin0))
  have f22 : Fld Z h15 a1 "lastcolumn/stage/Probabilities" "at" "I" (.int (0 : Int32)) := (f10_.keep Kc15 (ninS pr6 nin0))
  obtain ⟨fs18, hr18, hrun18, hended18, hW18, hsame18⟩ := X15.leave (v := none) (fun _ => rfl)
  refine ⟨_, _, pre0 _ (K17 _ ?_), hrun18, hended18, _, _, rfl, ?_, ⟨_, rfl⟩, hW18, hsame18.mono (by decide) (by decide)⟩
  · exact X15.returnOut hx Bd.returns (hb hby d1_24) hr18
  · show QIni0 Z a1 a2 k u0 u1 u2 u3 u4 u5 u6 u7 h0 n0 _ T15.heap _
    rw [e15]
    exact ⟨rfl, N15, kp19, f20, f21, f22, f16⟩
theorem ef_Fill1 (m : MethodId) (a1 : Addr) (p4 : Int32) : entryFrame m #[(.ref a1), (.int (1 : Int32)), (.int (5 : Int32)), (.int p4)] 5 = mkF m 0 #[.val (.ref a1), .val (.int (1 : Int32)), .val (.int (5 : Int32)), .val (.int p4), .unset] [] := by first | (simp [entryFrame, mkF, argsToLocals, Value.category]; done) | rfl
def QFill1 (Z : State) (a1 : Addr) (p4 : Int32) (k : ClassId) (u0 : Int32) (u1 : Int32) (u2 : Int32) (u3 : Int32) (u4 : Int32) (u5 : Int32) (u6 : Int32) (u7 : Int32) (h0 : Heap) (n0 : Nat) (v : Option Value) (h : Heap) (L : List Loc) : Prop := v = none ∧ Fr n0 L ∧ Keep h0 h [a1] ∧ Arv Z h a1 k .int (8 : Int32) [(.int u0), (.int p4), (.int p4), (.int p4), (.int p4), (.int u5), (.int u6), (.int u7)] (.int (0 : Int32))
set_option maxRecDepth 65536 in
set_option maxHeartbeats 40000000 in
theorem rmFill1 (l : Launch) (Z : State) (a0 : Array Value) (hw : ∀ d ∈ tables_1, d.before a0 Z = true) (ws : List Jvm.Cond) (a1 : Addr) (p4 : Int32) (k : ClassId) (u0 : Int32) (u1 : Int32) (u2 : Int32) (u3 : Int32) (u4 : Int32) (u5 : Int32) (u6 : Int32) (u7 : Int32) (h0 : Heap) (n0 : Nat) (Z0 : n0 ≤ h0.size) (pr0 : Arv Z h0 a1 k .int (8 : Int32) [(.int u0), (.int u1), (.int u2), (.int u3), (.int u4), (.int u5), (.int u6), (.int u7)] (.int (0 : Int32))) (pr1 : n0 ≤ a1) :
    MetFree l (⟨"java/util/Arrays", "fill", "([IIII)V"⟩ : MethodName) (head1 (Jvm.Cond.code (⟨"java/util/Arrays", "fill", "([IIII)V"⟩ : MethodName) jdk_65_method_104_code 5 none :: ws) ({ frames := 1, cells := 0, slots := 0, locals := 14 } : Room)) (fun a U => a = #[(.ref a1), (.int (1 : Int32)), (.int (5 : Int32)), (.int p4)] ∧ Z.Warmed39 U.vm ∧ U.heap = h0) (fun _ _ _ _ _ => True) (fun _ U o U' => ∃ v L, o = .returned v ∧ QFill1 Z a1 p4 k u0 u1 u2 u3 u4 u5 u6 u7 h0 n0 v U'.heap L ∧ FrameEnd U o U' L ({ frames := 1, cells := 0, slots := 0, locals := 14 } : Room).cells ({ frames := 1, cells := 0, slots := 0, locals := 14 } : Room).slots) := by
  refine MetFree.of_bodySF (plainFor_of_name pn_3) hisR ?_
  intro p e s m args below meth c s₁ Bd hml0 hP hK
  obtain ⟨rfl, hZ, hh⟩ := hP
  have hx := Bd.exec
  have hby := Bd.bytes
  have hml : c.maxLocals = 5 := hml0
  have hown : s.vm.findClass "java/util/Arrays" = some m.cls := findClass_of_methodNamed Bd.named
  have hnm := (name_of_methodNamed Bd.named Bd.method).1
  have X0 : Stand p l e ({ frames := 1, cells := 0, slots := 0, locals := 14 } : Room) s m #[(.ref a1), (.int (1 : Int32)), (.int (5 : Int32)), (.int p4)] below meth c s₁ [] 0 0 := Stand.of_body Bd
  have hs0 : h0 = s.heap := hh.symm
  have e0 : s₁.heap = h0 := by rw [← hh, Bd.state]; rfl
  have N0 := Fr.nil n0
  obtain ⟨f0, hf0⟩ : ∃ f, f = entryFrame m #[(.ref a1), (.int (1 : Int32)), (.int (5 : Int32)), (.int p4)] 5 := ⟨_, rfl⟩
  have pre0 : ∀ t, Steps p.tables e below (s₁.setTop f0) t → Steps p.tables e below (s₁.setTop (entryFrame m #[(.ref a1), (.int (1 : Int32)), (.int (5 : Int32)), (.int p4)] 5)) t := fun t k => hf0 ▸ k
  have K0 : Gx p e below s₁ f0 s₁ (mkF m 0 #[.val (.ref a1), .val (.int (1 : Int32)), .val (.int (5 : Int32)), .val (.int p4), .unset] []) := fun t kt => by rw [hf0]; exact castTop (ef_Fill1 m a1 p4) kt
  obtain ⟨clq1, Arq1, ckq1, cSq1, cNq1, cHq1, cGq1⟩ := id pr0
  have K2 : Gx p e below s₁ f0 s₁ (mkF m 4 #[.val (.ref a1), .val (.int (1 : Int32)), .val (.int (5 : Int32)), .val (.int p4), .unset] [(.int (5 : Int32)), (.int (1 : Int32)), (.int (8 : Int32))]) := fun t kt => K0 t (by
    show Steps p.tables e below (s₁.setTop (mkF m 0 #[.val (.ref a1), .val (.int (1 : Int32)), .val (.int (5 : Int32)), .val (.int p4), .unset] [])) _
    refine XS.aloadN X0.here hx rfl (hb hby d3_0) rfl rfl ?_
    show Steps p.tables e below (s₁.setTop (mkF m 1 #[.val (.ref a1), .val (.int (1 : Int32)), .val (.int (5 : Int32)), .val (.int p4), .unset] [(.ref a1)])) _
    refine X0.arraylength hx (by rw [e0]; exact Arq1.1) (State.isArrayOf_alike hZ.alike Arq1.2.1) (g := (mkF m 1 #[.val (.ref a1), .val (.int (1 : Int32)), .val (.int (5 : Int32)), .val (.int p4), .unset] [(.ref a1)])) rfl rfl (hb hby d3_1) _ ?_
    rw [len_of cSq1 cNq1]
    show Steps p.tables e below (s₁.setTop (mkF m 2 #[.val (.ref a1), .val (.int (1 : Int32)), .val (.int (5 : Int32)), .val (.int p4), .unset] [(.int (8 : Int32))])) _
    refine XS.iloadN X0.here hx rfl (hb hby d3_2) rfl ?_
    show Steps p.tables e below (s₁.setTop (mkF m 3 #[.val (.ref a1), .val (.int (1 : Int32)), .val (.int (5 : Int32)), .val (.int p4), .unset] [(.int (1 : Int32)), (.int (8 : Int32))])) _
    refine XS.iloadN X0.here hx rfl (hb hby d3_3) rfl ?_
    exact kt)
  obtain ⟨_, _, ⟨T3, L3, k3, n3⟩, -, X3', ⟨Lc3, hQ3, l3, y3, z3⟩, st3⟩ := Jvm.LawKit.callS X0 hx (y := (⟨"java/util/Arrays", "rangeCheck", "(III)V"⟩ : MethodName)) hown (mvT hZ (hw _ (List.mem_of_getElem? (i := 19) rfl))) (mvT hZ (hw _ (List.mem_of_getElem? (i := 20) rfl))) (mvT hZ (hw _ (List.mem_of_getElem? (i := 17) rfl))) (mvT hZ (hw _ (List.mem_of_getElem? (i := 21) rfl))) (by decide) (backOf (W := 0) (rmRc l Z a0 hw [] (8 : Int32) (1 : Int32) (5 : Int32) h0 n0 (Nat.le_trans Z0 (Keep.refl h0 [a1]).1) (by decide) (by decide) (by decide)) hZ (hw _ (List.mem_of_getElem? (i := 21) rfl)) (hw _ (List.mem_of_getElem? (i := 17) rfl)) (by decide) (by decide)) (g := (mkF m 4 #[.val (.ref a1), .val (.int (1 : Int32)), .val (.int (5 : Int32)), .val (.int p4), .unset] [(.int (5 : Int32)), (.int (1 : Int32)), (.int (8 : Int32))])) rfl (by rw [hml]; rfl) (argsL := [(.int (8 : Int32)), (.int (1 : Int32)), (.int (5 : Int32))]) (rest := []) (lenOf pd__III_V rfl) rfl (by show 2 * 0 + _ ≤ _; exact Nat.le_of_eq rfl) (hb hby d3_4) (fun _ _ => ⟨rfl, e0, (by decide : 0 + 0 ≤ _), (by decide : 0 + 0 ≤ _)⟩)
  dsimp only [Pt.U, Pt.locs, Pt.cells, Pt.slots] at X3' l3 y3 z3 st3 hQ3
  subst l3 y3 z3
  obtain ⟨rfl, N3q, e3⟩ := hQ3
  obtain ⟨lc3, X3, N3⟩ : ∃ lc, Stand p l e ({ frames := 1, cells := 0, slots := 0, locals := 14 } : Room) s m #[(.ref a1), (.int (1 : Int32)), (.int (5 : Int32)), (.int p4)] below meth c T3 lc 0 0 ∧ Fr n0 lc := ⟨_, X3', Fr.app N0 N3q⟩
  have K4 : Gx p e below s₁ f0 T3 (mkF m 7 #[.val (.ref a1), .val (.int (1 : Int32)), .val (.int (5 : Int32)), .val (.int p4), .unset] []) := fun t kt => K2 t (st3 t kt)
  have K5 : Gx p e below s₁ f0 T3 (mkF m 20 #[.val (.ref a1), .val (.int (1 : Int32)), .val (.int (5 : Int32)), .val (.int p4), .val (.int (1 : Int32))] [(.int p4), (.int (1 : Int32)), (.ref a1)]) := fun t kt => K4 t (by
    show Steps p.tables e below (T3.setTop (mkF m 7 #[.val (.ref a1), .val (.int (1 : Int32)), .val (.int (5 : Int32)), .val (.int p4), .unset] [])) _
    refine XS.iloadN X3.here hx rfl (hb hby d3_7) rfl ?_
    show Steps p.tables e below (T3.setTop (mkF m 8 #[.val (.ref a1), .val (.int (1 : Int32)), .val (.int (5 : Int32)), .val (.int p4), .unset] [(.int (1 : Int32))])) _
    refine XS.istore X3.here hx rfl (hb hby d3_8) rfl (l' := #[.val (.ref a1), .val (.int (1 : Int32)), .val (.int (5 : Int32)), .val (.int p4), .val (.int (1 : Int32))]) rfl ?_
    show Steps p.tables e below (T3.setTop (mkF m 10 #[.val (.ref a1), .val (.int (1 : Int32)), .val (.int (5 : Int32)), .val (.int p4), .val (.int (1 : Int32))] [])) _
    refine XS.iload X3.here hx rfl (hb hby d3_10) rfl ?_
    show Steps p.tables e below (T3.setTop (mkF m 12 #[.val (.ref a1), .val (.int (1 : Int32)), .val (.int (5 : Int32)), .val (.int p4), .val (.int (1 : Int32))] [(.int (1 : Int32))])) _
    refine XS.iloadN X3.here hx rfl (hb hby d3_12) rfl ?_
    show Steps p.tables e below (T3.setTop (mkF m 13 #[.val (.ref a1), .val (.int (1 : Int32)), .val (.int (5 : Int32)), .val (.int p4), .val (.int (1 : Int32))] [(.int (5 : Int32)), (.int (1 : Int32))])) _
    refine XS.icmpNo X3.here hx rfl (hb hby d3_13) rfl (tlt (by decide)).2.1 ?_
    show Steps p.tables e below (T3.setTop (mkF m 16 #[.val (.ref a1), .val (.int (1 : Int32)), .val (.int (5 : Int32)), .val (.int p4), .val (.int (1 : Int32))] [])) _
    refine XS.aloadN X3.here hx rfl (hb hby d3_16) rfl rfl ?_
    show Steps p.tables e below (T3.setTop (mkF m 17 #[.val (.ref a1), .val (.int (1 : Int32)), .val (.int (5 : Int32)), .val (.int p4), .val (.int (1 : Int32))] [(.ref a1)])) _
    refine XS.iload X3.here hx rfl (hb hby d3_17) rfl ?_
    show Steps p.tables e below (T3.setTop (mkF m 19 #[.val (.ref a1), .val (.int (1 : Int32)), .val (.int (5 : Int32)), .val (.int p4), .val (.int (1 : Int32))] [(.int (1 : Int32)), (.ref a1)])) _
    refine XS.iloadN X3.here hx rfl (hb hby d3_19) rfl ?_
    exact kt)
  obtain ⟨T6, h6, X6', e6, W6, st6⟩ := stI X3 hx hZ e3 Arq1 (j := (1 : Int32)) (inb_of cSq1 ⟨by decide, by decide⟩) (g := (mkF m 20 #[.val (.ref a1), .val (.int (1 : Int32)), .val (.int (5 : Int32)), .val (.int p4), .val (.int (1 : Int32))] [(.int p4), (.int (1 : Int32)), (.ref a1)])) rfl rfl (hb hby d3_20)
  obtain ⟨lc6, X6, N6⟩ : ∃ lc, Stand p l e ({ frames := 1, cells := 0, slots := 0, locals := 14 } : Room) s m #[(.ref a1), (.int (1 : Int32)), (.int (5 : Int32)), (.int p4)] below meth c T6 lc 0 0 ∧ Fr n0 lc := ⟨_, X6', Fr.snoc X6' N3 pr1⟩
  have V6 : Arv Z h6 a1 k .int (8 : Int32) [(.int u0), (.int p4), (.int u2), (.int u3), (.int u4), (.int u5), (.int u6), (.int u7)] (.int (0 : Int32)) := Arv.set Arq1 ckq1 cSq1 cNq1 cHq1 cGq1 rfl W6 1 rfl (Nat.le_of_ble_eq_true rfl)
  have K7 : Gx p e below s₁ f0 T6 (mkF m 21 #[.val (.ref a1), .val (.int (1 : Int32)), .val (.int (5 : Int32)), .val (.int p4), .val (.int (1 : Int32))] []) := fun t kt => K5 t (st6 t kt)
  have K8 : Gx p e below s₁ f0 T6 (mkF m 20 #[.val (.ref a1), .val (.int (1 : Int32)), .val (.int (5 : Int32)), .val (.int p4), .val (.int (2 : Int32))] [(.int p4), (.int (2 : Int32)), (.ref a1)]) := fun t kt => K7 t (by
    show Steps p.tables e below (T6.setTop (mkF m 21 #[.val (.ref a1), .val (.int (1 : Int32)), .val (.int (5 : Int32)), .val (.int p4), .val (.int (1 : Int32))] [])) _
    refine XS.iinc X6.here hx rfl (hb hby d3_21) rfl (l' := #[.val (.ref a1), .val (.int (1 : Int32)), .val (.int (5 : Int32)), .val (.int p4), .val (.int (2 : Int32))]) rfl ?_
    show Steps p.tables e below (T6.setTop (mkF m 24 #[.val (.ref a1), .val (.int (1 : Int32)), .val (.int (5 : Int32)), .val (.int p4), .val (.int (2 : Int32))] [])) _
    refine XS.goto X6.here hx rfl (pc0 := 24) (pc' := 10) rfl (hb hby d3_24) (by decide) (by decide) ?_
    show Steps p.tables e below (T6.setTop (mkF m 10 #[.val (.ref a1), .val (.int (1 : Int32)), .val (.int (5 : Int32)), .val (.int p4), .val (.int (2 : Int32))] [])) _
    refine XS.iload X6.here hx rfl (hb hby d3_10) rfl ?_
    show Steps p.tables e below (T6.setTop (mkF m 12 #[.val (.ref a1), .val (.int (1 : Int32)), .val (.int (5 : Int32)), .val (.int p4), .val (.int (2 : Int32))] [(.int (2 : Int32))])) _
    refine XS.iloadN X6.here hx rfl (hb hby d3_12) rfl ?_
    show Steps p.tables e below (T6.setTop (mkF m 13 #[.val (.ref a1), .val (.int (1 : Int32)), .val (.int (5 : Int32)), .val (.int p4), .val (.int (2 : Int32))] [(.int (5 : Int32)), (.int (2 : Int32))])) _
    refine XS.icmpNo X6.here hx rfl (hb hby d3_13) rfl (tlt (by decide)).2.1 ?_
    show Steps p.tables e below (T6.setTop (mkF m 16 #[.val (.ref a1), .val (.int (1 : Int32)), .val (.int (5 : Int32)), .val (.int p4), .val (.int (2 : Int32))] [])) _
    refine XS.aloadN X6.here hx rfl (hb hby d3_16) rfl rfl ?_
    show Steps p.tables e below (T6.setTop (mkF m 17 #[.val (.ref a1), .val (.int (1 : Int32)), .val (.int (5 : Int32)), .val (.int p4), .val (.int (2 : Int32))] [(.ref a1)])) _
    refine XS.iload X6.here hx rfl (hb hby d3_17) rfl ?_
    show Steps p.tables e below (T6.setTop (mkF m 19 #[.val (.ref a1), .val (.int (1 : Int32)), .val (.int (5 : Int32)), .val (.int p4), .val (.int (2 : Int32))] [(.int (2 : Int32)), (.ref a1)])) _
    refine XS.iloadN X6.here hx rfl (hb hby d3_19) rfl ?_
    exact kt)
  obtain ⟨clq9, Arq9, ckq9, cSq9, cNq9, cHq9, cGq9⟩ := id V6
  obtain ⟨T10, h10, X10', e10, W10, st10⟩ := stI X6 hx hZ e6 Arq9 (j := (2 : Int32)) (inb_of cSq9 ⟨by decide, by decide⟩) (g := (mkF m 20 #[.val (.ref a1), .val (.int (1 : Int32)), .val (.int (5 : Int32)), .val (.int p4), .val (.int (2 : Int32))] [(.int p4), (.int (2 : Int32)), (.ref a1)])) rfl rfl (hb hby d3_20)
  obtain ⟨lc10, X10, N10⟩ : ∃ lc, Stand p l e ({ frames := 1, cells := 0, slots := 0, locals := 14 } : Room) s m #[(.ref a1), (.int (1 : Int32)), (.int (5 : Int32)), (.int p4)] below meth c T10 lc 0 0 ∧ Fr n0 lc := ⟨_, X10', Fr.snoc X10' N6 pr1⟩
  have V10 : Arv Z h10 a1 k .int (8 : Int32) [(.int u0), (.int p4), (.int p4), (.int u3), (.int u4), (.int u5), (.int u6), (.int u7)] (.int (0 : Int32)) := Arv.set Arq9 ckq9 cSq9 cNq9 cHq9 cGq9 rfl W10 2 rfl (Nat.le_of_ble_eq_true rfl)
  have K11 : Gx p e below s₁ f0 T10 (mkF m 21 #[.val (.ref a1), .val (.int (1 : Int32)), .val (.int (5 : Int32)), .val (.int p4), .val (.int (2 : Int32))] []) := fun t kt => K8 t (st10 t kt)
  have K12 : Gx p e below s₁ f0 T10 (mkF m 20 #[.val (.ref a1), .val (.int (1 : Int32)), .val (.int (5 : Int32)), .val (.int p4), .val (.int (3 : Int32))] [(.int p4), (.int (3 : Int32)), (.ref a1)]) := fun t kt => K11 t (by
    show Steps p.tables e below (T10.setTop (mkF m 21 #[.val (.ref a1), .val (.int (1 : Int32)), .val (.int (5 : Int32)), .val (.int p4), .val (.int (2 : Int32))] [])) _
    refine XS.iinc X10.here hx rfl (hb hby d3_21) rfl (l' := #[.val (.ref a1), .val (.int (1 : Int32)), .val (.int (5 : Int32)), .val (.int p4), .val (.int (3 : Int32))]) rfl ?_
    show Steps p.tables e below (T10.setTop (mkF m 24 #[.val (.ref a1), .val (.int (1 : Int32)), .val (.int (5 : Int32)), .val (.int p4), .val (.int (3 : Int32))] [])) _
    refine XS.goto X10.here hx rfl (pc0 := 24) (pc' := 10) rfl (hb hby d3_24) (by decide) (by decide) ?_
    show Steps p.tables e below (T10.setTop (mkF m 10 #[.val (.ref a1), .val (.int (1 : Int32)), .val (.int (5 : Int32)), .val (.int p4), .val (.int (3 : Int32))] [])) _
    refine XS.iload X10.here hx rfl (hb hby d3_10) rfl ?_
    show Steps p.tables e below (T10.setTop (mkF m 12 #[.val (.ref a1), .val (.int (1 : Int32)), .val (.int (5 : Int32)), .val (.int p4), .val (.int (3 : Int32))] [(.int (3 : Int32))])) _
    refine XS.iloadN X10.here hx rfl (hb hby d3_12) rfl ?_
    show Steps p.tables e below (T10.setTop (mkF m 13 #[.val (.ref a1), .val (.int (1 : Int32)), .val (.int (5 : Int32)), .val (.int p4), .val (.int (3 : Int32))] [(.int (5 : Int32)), (.int (3 : Int32))])) _
    refine XS.icmpNo X10.here hx rfl (hb hby d3_13) rfl (tlt (by decide)).2.1 ?_
    show Steps p.tables e below (T10.setTop (mkF m 16 #[.val (.ref a1), .val (.int (1 : Int32)), .val (.int (5 : Int32)), .val (.int p4), .val (.int (3 : Int32))] [])) _
    refine XS.aloadN X10.here hx rfl (hb hby d3_16) rfl rfl ?_
    show Steps p.tables e below (T10.setTop (mkF m 17 #[.val (.ref a1), .val (.int (1 : Int32)), .val (.int (5 : Int32)), .val (.int p4), .val (.int (3 : Int32))] [(.ref a1)])) _
    refine XS.iload X10.here hx rfl (hb hby d3_17) rfl ?_
    show Steps p.tables e below (T10.setTop (mkF m 19 #[.val (.ref a1), .val (.int (1 : Int32)), .val (.int (5 : Int32)), .val (.int p4), .val (.int (3 : Int32))] [(.int (3 : Int32)), (.ref a1)])) _
    refine XS.iloadN X10.here hx rfl (hb hby d3_19) rfl ?_
    exact kt)
  obtain ⟨clq13, Arq13, ckq13, cSq13, cNq13, cHq13, cGq13⟩ := id V10
  obtain ⟨T14, h14, X14', e14, W14, st14⟩ := stI X10 hx hZ e10 Arq13 (j := (3 : Int32)) (inb_of cSq13 ⟨by decide, by decide⟩) (g := (mkF m 20 #[.val (.ref a1), .val (.int (1 : Int32)), .val (.int (5 : Int32)), .val (.int p4), .val (.int (3 : Int32))] [(.int p4), (.int (3 : Int32)), (.ref a1)])) rfl rfl (hb hby d3_20)
  obtain ⟨lc14, X14, N14⟩ : ∃ lc, Stand p l e ({ frames := 1, cells := 0, slots := 0, locals := 14 } : Room) s m #[(.ref a1), (.int (1 : Int32)), (.int (5 : Int32)), (.int p4)] below meth c T14 lc 0 0 ∧ Fr n0 lc := ⟨_, X14', Fr.snoc X14' N10 pr1⟩
  have V14 : Arv Z h14 a1 k .int (8 : Int32) [(.int u0), (.int p4), (.int p4), (.int p4), (.int u4), (.int u5), (.int u6), (.int u7)] (.int (0 : Int32)) := Arv.set Arq13 ckq13 cSq13 cNq13 cHq13 cGq13 rfl W14 3 rfl (Nat.le_of_ble_eq_true rfl)
  have K15 : Gx p e below s₁ f0 T14 (mkF m 21 #[.val (.ref a1), .val (.int (1 : Int32)), .val (.int (5 : Int32)), .val (.int p4), .val (.int (3 : Int32))] []) := fun t kt => K12 t (st14 t kt)
  have K16 : Gx p e below s₁ f0 T14 (mkF m 20 #[.val (.ref a1), .val (.int (1 : Int32)), .val (.int (5 : Int32)), .val (.int p4), .val (.int (4 : Int32))] [(.int p4), (.int (4 : Int32)), (.ref a1)]) := fun t kt => K15 t (by
    show Steps p.tables e below (T14.setTop (mkF m 21 #[.val (.ref a1), .val (.int (1 : Int32)), .val (.int (5 : Int32)), .val (.int p4), .val (.int (3 : Int32))] [])) _
    refine XS.iinc X14.here hx rfl (hb hby d3_21) rfl (l' := #[.val (.ref a1), .val (.int (1 : Int32)), .val (.int (5 : Int32)), .val (.int p4), .val (.int (4 : Int32))]) rfl ?_
    show Steps p.tables e below (T14.setTop (mkF m 24 #[.val (.ref a1), .val (.int (1 : Int32)), .val (.int (5 : Int32)), .val (.int p4), .val (.int (4 : Int32))] [])) _
    refine XS.goto X14.here hx rfl (pc0 := 24) (pc' := 10) rfl (hb hby d3_24) (by decide) (by decide) ?_
    show Steps p.tables e below (T14.setTop (mkF m 10 #[.val (.ref a1), .val (.int (1 : Int32)), .val (.int (5 : Int32)), .val (.int p4), .val (.int (4 : Int32))] [])) _
    refine XS.iload X14.here hx rfl (hb hby d3_10) rfl ?_
    show Steps p.tables e below (T14.setTop (mkF m 12 #[.val (.ref a1), .val (.int (1 : Int32)), .val (.int (5 : Int32)), .val (.int p4), .val (.int (4 : Int32))] [(.int (4 : Int32))])) _
    refine XS.iloadN X14.here hx rfl (hb hby d3_12) rfl ?_
    show Steps p.tables e below (T14.setTop (mkF m 13 #[.val (.ref a1), .val (.int (1 : Int32)), .val (.int (5 : Int32)), .val (.int p4), .val (.int (4 : Int32))] [(.int (5 : Int32)), (.int (4 : Int32))])) _
    refine XS.icmpNo X14.here hx rfl (hb hby d3_13) rfl (tlt (by decide)).2.1 ?_
    show Steps p.tables e below (T14.setTop (mkF m 16 #[.val (.ref a1), .val (.int (1 : Int32)), .val (.int (5 : Int32)), .val (.int p4), .val (.int (4 : Int32))] [])) _
    refine XS.aloadN X14.here hx rfl (hb hby d3_16) rfl rfl ?_
    show Steps p.tables e below (T14.setTop (mkF m 17 #[.val (.ref a1), .val (.int (1 : Int32)), .val (.int (5 : Int32)), .val (.int p4), .val (.int (4 : Int32))] [(.ref a1)])) _
    refine XS.iload X14.here hx rfl (hb hby d3_17) rfl ?_
    show Steps p.tables e below (T14.setTop (mkF m 19 #[.val (.ref a1), .val (.int (1 : Int32)), .val (.int (5 : Int32)), .val (.int p4), .val (.int (4 : Int32))] [(.int (4 : Int32)), (.ref a1)])) _
    refine XS.iloadN X14.here hx rfl (hb hby d3_19) rfl ?_
    exact kt)
  obtain ⟨clq17, Arq17, ckq17, cSq17, cNq17, cHq17, cGq17⟩ := id V14
  obtain ⟨T18, h18, X18', e18, W18, st18⟩ := stI X14 hx hZ e14 Arq17 (j := (4 : Int32)) (inb_of cSq17 ⟨by decide, by decide⟩) (g := (mkF m 20 #[.val (.ref a1), .val (.int (1 : Int32)), .val (.int (5 : Int32)), .val (.int p4), .val (.int (4 : Int32))] [(.int p4), (.int (4 : Int32)), (.ref a1)])) rfl rfl (hb hby d3_20)
  obtain ⟨lc18, X18, N18⟩ : ∃ lc, Stand p l e ({ frames := 1, cells := 0, slots := 0, locals := 14 } : Room) s m #[(.ref a1), (.int (1 : Int32)), (.int (5 : Int32)), (.int p4)] below meth c T18 lc 0 0 ∧ Fr n0 lc := ⟨_, X18', Fr.snoc X18' N14 pr1⟩
  have V18 : Arv Z h18 a1 k .int (8 : Int32) [(.int u0), (.int p4), (.int p4), (.int p4), (.int p4), (.int u5), (.int u6), (.int u7)] (.int (0 : Int32)) := Arv.set Arq17 ckq17 cSq17 cNq17 cHq17 cGq17 rfl W18 4 rfl (Nat.le_of_ble_eq_true rfl)
  have K19 : Gx p e below s₁ f0 T18 (mkF m 21 #[.val (.ref a1), .val (.int (1 : Int32)), .val (.int (5 : Int32)), .val (.int p4), .val (.int (4 : Int32))] []) := fun t kt => K16 t (st18 t kt)
  have K20 : Gx p e below s₁ f0 T18 (mkF m 27 #[.val (.ref a1), .val (.int (1 : Int32)), .val (.int (5 : Int32)), .val (.int p4), .val (.int (5 : Int32))] []) := fun t kt => K19 t (by
    show Steps p.tables e below (T18.setTop (mkF m 21 #[.val (.ref a1), .val (.int (1 : Int32)), .val (.int (5 : Int32)), .val (.int p4), .val (.int (4 : Int32))] [])) _
    refine XS.iinc X18.here hx rfl (hb hby d3_21) rfl (l' := #[.val (.ref a1), .val (.int (1 : Int32)), .val (.int (5 : Int32)), .val (.int p4), .val (.int (5 : Int32))]) rfl ?_
    show Steps p.tables e below (T18.setTop (mkF m 24 #[.val (.ref a1), .val (.int (1 : Int32)), .val (.int (5 : Int32)), .val (.int p4), .val (.int (5 : Int32))] [])) _
    refine XS.goto X18.here hx rfl (pc0 := 24) (pc' := 10) rfl (hb hby d3_24) (by decide) (by decide) ?_
    show Steps p.tables e below (T18.setTop (mkF m 10 #[.val (.ref a1), .val (.int (1 : Int32)), .val (.int (5 : Int32)), .val (.int p4), .val (.int (5 : Int32))] [])) _
    refine XS.iload X18.here hx rfl (hb hby d3_10) rfl ?_
    show Steps p.tables e below (T18.setTop (mkF m 12 #[.val (.ref a1), .val (.int (1 : Int32)), .val (.int (5 : Int32)), .val (.int p4), .val (.int (5 : Int32))] [(.int (5 : Int32))])) _
    refine XS.iloadN X18.here hx rfl (hb hby d3_12) rfl ?_
    show Steps p.tables e below (T18.setTop (mkF m 13 #[.val (.ref a1), .val (.int (1 : Int32)), .val (.int (5 : Int32)), .val (.int p4), .val (.int (5 : Int32))] [(.int (5 : Int32)), (.int (5 : Int32))])) _
    refine XS.icmpYes X18.here hx rfl (pc0 := 13) (pc' := 27) rfl (hb hby d3_13) rfl (flt (by decide)).2.1 (by decide) (by decide) ?_
    exact kt)
  have kp22 : Keep h0 h18 [a1] := (((((Keep.refl h0 [a1]).wr W6 (Or.inl (List.mem_of_getElem? (i := 0) rfl))).wr W10 (Or.inl (List.mem_of_getElem? (i := 0) rfl))).wr W14 (Or.inl (List.mem_of_getElem? (i := 0) rfl))).wr W18 (Or.inl (List.mem_of_getElem? (i := 0) rfl)))
  obtain ⟨fs21, hr21, hrun21, hended21, hW21, hsame21⟩ := X18.leave (v := none) (fun _ => rfl)
  refine ⟨_, _, pre0 _ (K20 _ ?_), hrun21, hended21, _, _, rfl, ?_, ⟨_, rfl⟩, hW21, hsame21.mono (by decide) (by decide)⟩
  · exact X18.returnOut hx Bd.returns (hb hby d3_27) hr21
  · show QFill1 Z a1 p4 k u0 u1 u2 u3 u4 u5 u6 u7 h0 n0 _ T18.heap _
    rw [e18]
    exact ⟨rfl, N18, kp22, V18⟩
theorem ef_Ini1 (m : MethodId) (a1 : Addr) (a2 : Addr) : entryFrame m #[(.ref a1), (.ref a2), (.int (1 : Int32)), (.int (4 : Int32))] 4 = mkF m 0 #[.val (.ref a1), .val (.ref a2), .val (.int (1 : Int32)), .val (.int (4 : Int32))] [] := by first | (simp [entryFrame, mkF, argsToLocals, Value.category]; done) | rfl
def QIni1 (Z : State) (a1 : Addr) (a2 : Addr) (k : ClassId) (u0 : Int32) (u1 : Int32) (u2 : Int32) (u3 : Int32) (u4 : Int32) (u5 : Int32) (u6 : Int32) (u7 : Int32) (h0 : Heap) (n0 : Nat) (v : Option Value) (h : Heap) (L : List Loc) : Prop := v = none ∧ Fr n0 L ∧ Keep h0 h [a1, a2] ∧ Exa Z h a1 "lastcolumn/stage/Probabilities" ∧ Fld Z h a1 "lastcolumn/stage/Probabilities" "states" "[I" (.ref a2) ∧ Fld Z h a1 "lastcolumn/stage/Probabilities" "at" "I" (.int (1 : Int32)) ∧ Arv Z h a2 k .int (8 : Int32) [(.int u0), (.int (-2147483648 : Int32)), (.int (-2147483648 : Int32)), (.int (-2147483648 : Int32)), (.int (-2147483648 : Int32)), (.int u5), (.int u6), (.int u7)] (.int (0 : Int32))
set_option maxRecDepth 65536 in
set_option maxHeartbeats 40000000 in
theorem rmIni1 (l : Launch) (Z : State) (a0 : Array Value) (hw : ∀ d ∈ tables_1, d.before a0 Z = true) (ws : List Jvm.Cond) (a1 : Addr) (a2 : Addr) (k : ClassId) (u0 : Int32) (u1 : Int32) (u2 : Int32) (u3 : Int32) (u4 : Int32) (u5 : Int32) (u6 : Int32) (u7 : Int32) (h0 : Heap) (n0 : Nat) (Z0 : n0 ≤ h0.size) (pr0 : Exa Z h0 a1 "lastcolumn/stage/Probabilities") (pr1 : n0 ≤ a1) (pr2 : n0 ≤ a2) (pr3 : Fld Z h0 a1 "lastcolumn/stage/Probabilities" "states" "[I" .null) (pr4 : Fld Z h0 a1 "lastcolumn/stage/Probabilities" "at" "I" (.int (0 : Int32))) (pr5 : Arv Z h0 a2 k .int (8 : Int32) [(.int u0), (.int u1), (.int u2), (.int u3), (.int u4), (.int u5), (.int u6), (.int u7)] (.int (0 : Int32))) (pr6 : a1 ≠ a2) :
    MetFree l (⟨"lastcolumn/stage/Probabilities", "<init>", "([III)V"⟩ : MethodName) (head1 (Jvm.Cond.code (⟨"lastcolumn/stage/Probabilities", "<init>", "([III)V"⟩ : MethodName) prog_31_method_1_code 4 none :: ws) ({ frames := 2, cells := 0, slots := 0, locals := 30 } : Room)) (fun a U => a = #[(.ref a1), (.ref a2), (.int (1 : Int32)), (.int (4 : Int32))] ∧ Z.Warmed39 U.vm ∧ U.heap = h0) (fun _ _ _ _ _ => True) (fun _ U o U' => ∃ v L, o = .returned v ∧ QIni1 Z a1 a2 k u0 u1 u2 u3 u4 u5 u6 u7 h0 n0 v U'.heap L ∧ FrameEnd U o U' L ({ frames := 2, cells := 0, slots := 0, locals := 30 } : Room).cells ({ frames := 2, cells := 0, slots := 0, locals := 30 } : Room).slots) := by
  refine MetFree.of_bodySF (plainFor_of_name pn_1) hisR ?_
  intro p e s m args below meth c s₁ Bd hml0 hP hK
  obtain ⟨rfl, hZ, hh⟩ := hP
  have hx := Bd.exec
  have hby := Bd.bytes
  have hml : c.maxLocals = 4 := hml0
  have hown : s.vm.findClass "lastcolumn/stage/Probabilities" = some m.cls := findClass_of_methodNamed Bd.named
  have hnm := (name_of_methodNamed Bd.named Bd.method).1
  have X0 : Stand p l e ({ frames := 2, cells := 0, slots := 0, locals := 30 } : Room) s m #[(.ref a1), (.ref a2), (.int (1 : Int32)), (.int (4 : Int32))] below meth c s₁ [] 0 0 := Stand.of_body Bd
  have hs0 : h0 = s.heap := hh.symm
  have e0 : s₁.heap = h0 := by rw [← hh, Bd.state]; rfl
  have N0 := Fr.nil n0
  obtain ⟨f0, hf0⟩ : ∃ f, f = entryFrame m #[(.ref a1), (.ref a2), (.int (1 : Int32)), (.int (4 : Int32))] 4 := ⟨_, rfl⟩
  have pre0 : ∀ t, Steps p.tables e below (s₁.setTop f0) t → Steps p.tables e below (s₁.setTop (entryFrame m #[(.ref a1), (.ref a2), (.int (1 : Int32)), (.int (4 : Int32))] 4)) t := fun t k => hf0 ▸ k
  have K0 : Gx p e below s₁ f0 s₁ (mkF m 0 #[.val (.ref a1), .val (.ref a2), .val (.int (1 : Int32)), .val (.int (4 : Int32))] []) := fun t kt => by rw [hf0]; exact castTop (ef_Ini1 m a1 a2) kt
  have K1 : Gx p e below s₁ f0 s₁ (mkF m 1 #[.val (.ref a1), .val (.ref a2), .val (.int (1 : Int32)), .val (.int (4 : Int32))] [(.ref a1)]) := fun t kt => K0 t (by
    show Steps p.tables e below (s₁.setTop (mkF m 0 #[.val (.ref a1), .val (.ref a2), .val (.int (1 : Int32)), .val (.int (4 : Int32))] [])) _
    refine XS.aloadN X0.here hx rfl (hb hby d1_0) rfl rfl ?_
    exact kt)
  obtain ⟨T2, X2, e2, st2⟩ := initO X0 hx hZ hown (hw _ (List.mem_of_getElem? (i := 7) rfl)) (hw _ (List.mem_of_getElem? (i := 8) rfl)) (hw _ (List.mem_of_getElem? (i := 9) rfl)) e0 (g := (mkF m 1 #[.val (.ref a1), .val (.ref a2), .val (.int (1 : Int32)), .val (.int (4 : Int32))] [(.ref a1)])) rfl (by rw [hml]; rfl) rfl (hb hby d1_1) (by decide) (W := 0) (by show 2 * 0 + _ ≤ _; exact Nat.le_of_eq rfl) (by decide)
  have K3 : Gx p e below s₁ f0 T2 (mkF m 4 #[.val (.ref a1), .val (.ref a2), .val (.int (1 : Int32)), .val (.int (4 : Int32))] []) := fun t kt => K1 t (st2 t kt)
  have K4 : Gx p e below s₁ f0 T2 (mkF m 6 #[.val (.ref a1), .val (.ref a2), .val (.int (1 : Int32)), .val (.int (4 : Int32))] [(.ref a2), (.ref a1)]) := fun t kt => K3 t (by
    show Steps p.tables e below (T2.setTop (mkF m 4 #[.val (.ref a1), .val (.ref a2), .val (.int (1 : Int32)), .val (.int (4 : Int32))] [])) _
    refine XS.aloadN X2.here hx rfl (hb hby d1_4) rfl rfl ?_
    show Steps p.tables e below (T2.setTop (mkF m 5 #[.val (.ref a1), .val (.ref a2), .val (.int (1 : Int32)), .val (.int (4 : Int32))] [(.ref a1)])) _
    refine XS.aloadN X2.here hx rfl (hb hby d1_5) rfl rfl ?_
    exact kt)
  obtain ⟨T5, h5, X5', e5, W5, st5⟩ := putF X2 hx hZ hown (host := "") (Or.inl (hw _ (List.mem_of_getElem? (i := 10) rfl))) Via.refl e2 pr3 pr0 (Or.inr ⟨(hw _ (List.mem_of_getElem? (i := 11) rfl)), rfl, hnm⟩) (hw _ (List.mem_of_getElem? (i := 2) rfl)) (ty := (.array .int)) (by decide) rfl rfl (g := (mkF m 6 #[.val (.ref a1), .val (.ref a2), .val (.int (1 : Int32)), .val (.int (4 : Int32))] [(.ref a2), (.ref a1)])) rfl rfl (hb hby d1_6)
  obtain ⟨lc5, X5, N5⟩ : ∃ lc, Stand p l e ({ frames := 2, cells := 0, slots := 0, locals := 30 } : Room) s m #[(.ref a1), (.ref a2), (.int (1 : Int32)), (.int (4 : Int32))] below meth c T5 lc 0 0 ∧ Fr n0 lc := ⟨_, X5', Fr.snoc X5' N0 pr1⟩
  have f5_ : Fld Z h5 a1 "lastcolumn/stage/Probabilities" "states" "[I" (.ref a2) := pr3.same W5
  have K6 : Gx p e below s₁ f0 T5 (mkF m 9 #[.val (.ref a1), .val (.ref a2), .val (.int (1 : Int32)), .val (.int (4 : Int32))] []) := fun t kt => K4 t (st5 t kt)
  have K7 : Gx p e below s₁ f0 T5 (mkF m 11 #[.val (.ref a1), .val (.ref a2), .val (.int (1 : Int32)), .val (.int (4 : Int32))] [(.int (1 : Int32)), (.ref a1)]) := fun t kt => K6 t (by
    show Steps p.tables e below (T5.setTop (mkF m 9 #[.val (.ref a1), .val (.ref a2), .val (.int (1 : Int32)), .val (.int (4 : Int32))] [])) _
    refine XS.aloadN X5.here hx rfl (hb hby d1_9) rfl rfl ?_
    show Steps p.tables e below (T5.setTop (mkF m 10 #[.val (.ref a1), .val (.ref a2), .val (.int (1 : Int32)), .val (.int (4 : Int32))] [(.ref a1)])) _
    refine XS.iloadN X5.here hx rfl (hb hby d1_10) rfl ?_
    exact kt)
  have f8 : Fld Z h5 a1 "lastcolumn/stage/Probabilities" "at" "I" (.int (0 : Int32)) := (pr4.other W5 (Or.inr (slot_ne (Or.inr (hw _ (List.mem_of_getElem? (i := 13) rfl))) (Or.inr (hw _ (List.mem_of_getElem? (i := 11) rfl))) (by decide) (t := .int) (t' := (.array .int)) (by decide) (by decide))))
  have f9 : Exa Z h5 a1 "lastcolumn/stage/Probabilities" := (pr0.wr W5)
  obtain ⟨T10, h10, X10', e10, W10, st10⟩ := putF X5 hx hZ hown (host := "") (Or.inl (hw _ (List.mem_of_getElem? (i := 12) rfl))) Via.refl e5 f8 f9 (Or.inr ⟨(hw _ (List.mem_of_getElem? (i := 13) rfl)), rfl, hnm⟩) (hw _ (List.mem_of_getElem? (i := 2) rfl)) (ty := .int) (by decide) rfl rfl (g := (mkF m 11 #[.val (.ref a1), .val (.ref a2), .val (.int (1 : Int32)), .val (.int (4 : Int32))] [(.int (1 : Int32)), (.ref a1)])) rfl rfl (hb hby d1_11)
  obtain ⟨lc10, X10, N10⟩ : ∃ lc, Stand p l e ({ frames := 2, cells := 0, slots := 0, locals := 30 } : Room) s m #[(.ref a1), (.ref a2), (.int (1 : Int32)), (.int (4 : Int32))] below meth c T10 lc 0 0 ∧ Fr n0 lc := ⟨_, X10', Fr.snoc X10' N5 pr1⟩
  have f10_ : Fld Z h10 a1 "lastcolumn/stage/Probabilities" "at" "I" (.int (1 : Int32)) := f8.same W10
  have K11 : Gx p e below s₁ f0 T10 (mkF m 14 #[.val (.ref a1), .val (.ref a2), .val (.int (1 : Int32)), .val (.int (4 : Int32))] []) := fun t kt => K7 t (st10 t kt)
  have K12 : Gx p e below s₁ f0 T10 (mkF m 21 #[.val (.ref a1), .val (.ref a2), .val (.int (1 : Int32)), .val (.int (4 : Int32))] [(.int (-2147483648 : Int32)), (.int (5 : Int32)), (.int (1 : Int32)), (.ref a2)]) := fun t kt => K11 t (by
    show Steps p.tables e below (T10.setTop (mkF m 14 #[.val (.ref a1), .val (.ref a2), .val (.int (1 : Int32)), .val (.int (4 : Int32))] [])) _
    refine XS.aloadN X10.here hx rfl (hb hby d1_14) rfl rfl ?_
    show Steps p.tables e below (T10.setTop (mkF m 15 #[.val (.ref a1), .val (.ref a2), .val (.int (1 : Int32)), .val (.int (4 : Int32))] [(.ref a2)])) _
    refine XS.iloadN X10.here hx rfl (hb hby d1_15) rfl ?_
    show Steps p.tables e below (T10.setTop (mkF m 16 #[.val (.ref a1), .val (.ref a2), .val (.int (1 : Int32)), .val (.int (4 : Int32))] [(.int (1 : Int32)), (.ref a2)])) _
    refine XS.iloadN X10.here hx rfl (hb hby d1_16) rfl ?_
    show Steps p.tables e below (T10.setTop (mkF m 17 #[.val (.ref a1), .val (.ref a2), .val (.int (1 : Int32)), .val (.int (4 : Int32))] [(.int (1 : Int32)), (.int (1 : Int32)), (.ref a2)])) _
    refine XS.iloadN X10.here hx rfl (hb hby d1_17) rfl ?_
    show Steps p.tables e below (T10.setTop (mkF m 18 #[.val (.ref a1), .val (.ref a2), .val (.int (1 : Int32)), .val (.int (4 : Int32))] [(.int (4 : Int32)), (.int (1 : Int32)), (.int (1 : Int32)), (.ref a2)])) _
    refine XS.iadd X10.here hx rfl (hb hby d1_18) rfl ?_
    show Steps p.tables e below (T10.setTop (mkF m 19 #[.val (.ref a1), .val (.ref a2), .val (.int (1 : Int32)), .val (.int (4 : Int32))] [(.int (5 : Int32)), (.int (1 : Int32)), (.ref a2)])) _
    refine X10.ldcInt hx hown (mvT hZ (hw _ (List.mem_of_getElem? (i := 14) rfl))) (g := (mkF m 19 #[.val (.ref a1), .val (.ref a2), .val (.int (1 : Int32)), .val (.int (4 : Int32))] [(.int (5 : Int32)), (.int (1 : Int32)), (.ref a2)])) rfl (hb hby d1_19) _ ?_
    exact kt)
  have f13 : Arv Z h10 a2 k .int (8 : Int32) [(.int u0), (.int u1), (.int u2), (.int u3), (.int u4), (.int u5), (.int u6), (.int u7)] (.int (0 : Int32)) := ((pr5.other W5 (Ne.symm pr6)).other W10 (Ne.symm pr6))
  have kp14 : Keep h0 h10 [a1, a2] := (((Keep.refl h0 [a1, a2]).wr W5 (Or.inl (List.mem_of_getElem? (i := 0) rfl))).wr W10 (Or.inl (List.mem_of_getElem? (i := 0) rfl)))
  obtain ⟨_, _, ⟨T15, L15, k15, n15⟩, -, X15', ⟨Lc15, hQ15, l15, y15, z15⟩, st15⟩ := Jvm.LawKit.callS X10 hx (y := (⟨"java/util/Arrays", "fill", "([IIII)V"⟩ : MethodName)) hown (mvT hZ (hw _ (List.mem_of_getElem? (i := 15) rfl))) (mvT hZ (hw _ (List.mem_of_getElem? (i := 16) rfl))) (mvT hZ (hw _ (List.mem_of_getElem? (i := 17) rfl))) (mvT hZ (hw _ (List.mem_of_getElem? (i := 18) rfl))) (by decide) (backOf (W := 0) (rmFill1 l Z a0 hw [] a2 (-2147483648 : Int32) k u0 u1 u2 u3 u4 u5 u6 u7 h10 n0 (Nat.le_trans Z0 kp14.1) f13 pr2) hZ (hw _ (List.mem_of_getElem? (i := 18) rfl)) (hw _ (List.mem_of_getElem? (i := 17) rfl)) (by decide) (by decide)) (g := (mkF m 21 #[.val (.ref a1), .val (.ref a2), .val (.int (1 : Int32)), .val (.int (4 : Int32))] [(.int (-2147483648 : Int32)), (.int (5 : Int32)), (.int (1 : Int32)), (.ref a2)])) rfl (by rw [hml]; rfl) (argsL := [(.ref a2), (.int (1 : Int32)), (.int (5 : Int32)), (.int (-2147483648 : Int32))]) (rest := []) (lenOf pd___IIII_V rfl) rfl (by show 2 * 0 + _ ≤ _; exact Nat.le_of_eq rfl) (hb hby d1_21) (fun _ _ => ⟨rfl, e10, (by decide : 0 + 0 ≤ _), (by decide : 0 + 0 ≤ _)⟩)
  dsimp only [Pt.U, Pt.locs, Pt.cells, Pt.slots] at X15' l15 y15 z15 st15 hQ15
  subst l15 y15 z15
  obtain ⟨h15, e15⟩ : ∃ z, T15.heap = z := ⟨_, rfl⟩
  rw [e15] at hQ15
  obtain ⟨rfl, N15q, Kc15, f16⟩ := hQ15
  obtain ⟨lc15, X15, N15⟩ : ∃ lc, Stand p l e ({ frames := 2, cells := 0, slots := 0, locals := 30 } : Room) s m #[(.ref a1), (.ref a2), (.int (1 : Int32)), (.int (4 : Int32))] below meth c T15 lc 0 0 ∧ Fr n0 lc := ⟨_, X15', Fr.app N10 N15q⟩
  have K17 : Gx p e below s₁ f0 T15 (mkF m 24 #[.val (.ref a1), .val (.ref a2), .val (.int (1 : Int32)), .val (.int (4 : Int32))] []) := fun t kt => K12 t (st15 t kt)
  have kp19 : Keep h0 h15 [a1, a2] := (Keep.trans kp14 Kc15 (allS (Or.inl (List.mem_of_getElem? (i := 1) rfl)) all0))
  have f20 : Exa Z h15 a1 "lastcolumn/stage/Probabilities" := ((f9.wr W10).keep Kc15)
  have f21 : Fld Z h15 a1 "lastcolumn/stage/Probabilities" "states" "[I" (.ref a2) := ((f5_.other W10 (Or.inr (slot_ne (Or.inr (hw _ (List.mem_of_getElem? (i := 11) rfl))) (Or.inr (hw _ (List.mem_of_getElem? (i := 13) rfl))) (by decide) (t := (.array .int)) (t' := .int) (by decide) (by decide)))).keep Kc15 (ninS pr6 nin0))
  have f22 : Fld Z h15 a1 "lastcolumn/stage/Probabilities" "at" "I" (.int (1 : Int32)) := (f10_.keep Kc15 (ninS pr6 nin0))
  obtain ⟨fs18, hr18, hrun18, hended18, hW18, hsame18⟩ := X15.leave (v := none) (fun _ => rfl)
  refine ⟨_, _, pre0 _ (K17 _ ?_), hrun18, hended18, _, _, rfl, ?_, ⟨_, rfl⟩, hW18, hsame18.mono (by decide) (by decide)⟩
  · exact X15.returnOut hx Bd.returns (hb hby d1_24) hr18
  · show QIni1 Z a1 a2 k u0 u1 u2 u3 u4 u5 u6 u7 h0 n0 _ T15.heap _
    rw [e15]
    exact ⟨rfl, N15, kp19, f20, f21, f22, f16⟩
theorem ef_Fill2 (m : MethodId) (a1 : Addr) (p4 : Int32) : entryFrame m #[(.ref a1), (.int (2 : Int32)), (.int (6 : Int32)), (.int p4)] 5 = mkF m 0 #[.val (.ref a1), .val (.int (2 : Int32)), .val (.int (6 : Int32)), .val (.int p4), .unset] [] := by first | (simp [entryFrame, mkF, argsToLocals, Value.category]; done) | rfl
def QFill2 (Z : State) (a1 : Addr) (p4 : Int32) (k : ClassId) (u0 : Int32) (u1 : Int32) (u2 : Int32) (u3 : Int32) (u4 : Int32) (u5 : Int32) (u6 : Int32) (u7 : Int32) (h0 : Heap) (n0 : Nat) (v : Option Value) (h : Heap) (L : List Loc) : Prop := v = none ∧ Fr n0 L ∧ Keep h0 h [a1] ∧ Arv Z h a1 k .int (8 : Int32) [(.int u0), (.int u1), (.int p4), (.int p4), (.int p4), (.int p4), (.int u6), (.int u7)] (.int (0 : Int32))
set_option maxRecDepth 65536 in
set_option maxHeartbeats 40000000 in
theorem rmFill2 (l : Launch) (Z : State) (a0 : Array Value) (hw : ∀ d ∈ tables_1, d.before a0 Z = true) (ws : List Jvm.Cond) (a1 : Addr) (p4 : Int32) (k : ClassId) (u0 : Int32) (u1 : Int32) (u2 : Int32) (u3 : Int32) (u4 : Int32) (u5 : Int32) (u6 : Int32) (u7 : Int32) (h0 : Heap) (n0 : Nat) (Z0 : n0 ≤ h0.size) (pr0 : Arv Z h0 a1 k .int (8 : Int32) [(.int u0), (.int u1), (.int u2), (.int u3), (.int u4), (.int u5), (.int u6), (.int u7)] (.int (0 : Int32))) (pr1 : n0 ≤ a1) :
    MetFree l (⟨"java/util/Arrays", "fill", "([IIII)V"⟩ : MethodName) (head1 (Jvm.Cond.code (⟨"java/util/Arrays", "fill", "([IIII)V"⟩ : MethodName) jdk_65_method_104_code 5 none :: ws) ({ frames := 1, cells := 0, slots := 0, locals := 14 } : Room)) (fun a U => a = #[(.ref a1), (.int (2 : Int32)), (.int (6 : Int32)), (.int p4)] ∧ Z.Warmed39 U.vm ∧ U.heap = h0) (fun _ _ _ _ _ => True) (fun _ U o U' => ∃ v L, o = .returned v ∧ QFill2 Z a1 p4 k u0 u1 u2 u3 u4 u5 u6 u7 h0 n0 v U'.heap L ∧ FrameEnd U o U' L ({ frames := 1, cells := 0, slots := 0, locals := 14 } : Room).cells ({ frames := 1, cells := 0, slots := 0, locals := 14 } : Room).slots) := by
  refine MetFree.of_bodySF (plainFor_of_name pn_3) hisR ?_
  intro p e s m args below meth c s₁ Bd hml0 hP hK
  obtain ⟨rfl, hZ, hh⟩ := hP
  have hx := Bd.exec
  have hby := Bd.bytes
  have hml : c.maxLocals = 5 := hml0
  have hown : s.vm.findClass "java/util/Arrays" = some m.cls := findClass_of_methodNamed Bd.named
  have hnm := (name_of_methodNamed Bd.named Bd.method).1
  have X0 : Stand p l e ({ frames := 1, cells := 0, slots := 0, locals := 14 } : Room) s m #[(.ref a1), (.int (2 : Int32)), (.int (6 : Int32)), (.int p4)] below meth c s₁ [] 0 0 := Stand.of_body Bd
  have hs0 : h0 = s.heap := hh.symm
  have e0 : s₁.heap = h0 := by rw [← hh, Bd.state]; rfl
  have N0 := Fr.nil n0
  obtain ⟨f0, hf0⟩ : ∃ f, f = entryFrame m #[(.ref a1), (.int (2 : Int32)), (.int (6 : Int32)), (.int p4)] 5 := ⟨_, rfl⟩
  have pre0 : ∀ t, Steps p.tables e below (s₁.setTop f0) t → Steps p.tables e below (s₁.setTop (entryFrame m #[(.ref a1), (.int (2 : Int32)), (.int (6 : Int32)), (.int p4)] 5)) t := fun t k => hf0 ▸ k
  have K0 : Gx p e below s₁ f0 s₁ (mkF m 0 #[.val (.ref a1), .val (.int (2 : Int32)), .val (.int (6 : Int32)), .val (.int p4), .unset] []) := fun t kt => by rw [hf0]; exact castTop (ef_Fill2 m a1 p4) kt
  obtain ⟨clq1, Arq1, ckq1, cSq1, cNq1, cHq1, cGq1⟩ := id pr0
  have K2 : Gx p e below s₁ f0 s₁ (mkF m 4 #[.val (.ref a1), .val (.int (2 : Int32)), .val (.int (6 : Int32)), .val (.int p4), .unset] [(.int (6 : Int32)), (.int (2 : Int32)), (.int (8 : Int32))]) := fun t kt => K0 t (by
    show Steps p.tables e below (s₁.setTop (mkF m 0 #[.val (.ref a1), .val (.int (2 : Int32)), .val (.int (6 : Int32)), .val (.int p4), .unset] [])) _
    refine XS.aloadN X0.here hx rfl (hb hby d3_0) rfl rfl ?_
    show Steps p.tables e below (s₁.setTop (mkF m 1 #[.val (.ref a1), .val (.int (2 : Int32)), .val (.int (6 : Int32)), .val (.int p4), .unset] [(.ref a1)])) _
    refine X0.arraylength hx (by rw [e0]; exact Arq1.1) (State.isArrayOf_alike hZ.alike Arq1.2.1) (g := (mkF m 1 #[.val (.ref a1), .val (.int (2 : Int32)), .val (.int (6 : Int32)), .val (.int p4), .unset] [(.ref a1)])) rfl rfl (hb hby d3_1) _ ?_
    rw [len_of cSq1 cNq1]
    show Steps p.tables e below (s₁.setTop (mkF m 2 #[.val (.ref a1), .val (.int (2 : Int32)), .val (.int (6 : Int32)), .val (.int p4), .unset] [(.int (8 : Int32))])) _
    refine XS.iloadN X0.here hx rfl (hb hby d3_2) rfl ?_
    show Steps p.tables e below (s₁.setTop (mkF m 3 #[.val (.ref a1), .val (.int (2 : Int32)), .val (.int (6 : Int32)), .val (.int p4), .unset] [(.int (2 : Int32)), (.int (8 : Int32))])) _
    refine XS.iloadN X0.here hx rfl (hb hby d3_3) rfl ?_
    exact kt)
  obtain ⟨_, _, ⟨T3, L3, k3, n3⟩, -, X3', ⟨Lc3, hQ3, l3, y3, z3⟩, st3⟩ := Jvm.LawKit.callS X0 hx (y := (⟨"java/util/Arrays", "rangeCheck", "(III)V"⟩ : MethodName)) hown (mvT hZ (hw _ (List.mem_of_getElem? (i := 19) rfl))) (mvT hZ (hw _ (List.mem_of_getElem? (i := 20) rfl))) (mvT hZ (hw _ (List.mem_of_getElem? (i := 17) rfl))) (mvT hZ (hw _ (List.mem_of_getElem? (i := 21) rfl))) (by decide) (backOf (W := 0) (rmRc l Z a0 hw [] (8 : Int32) (2 : Int32) (6 : Int32) h0 n0 (Nat.le_trans Z0 (Keep.refl h0 [a1]).1) (by decide) (by decide) (by decide)) hZ (hw _ (List.mem_of_getElem? (i := 21) rfl)) (hw _ (List.mem_of_getElem? (i := 17) rfl)) (by decide) (by decide)) (g := (mkF m 4 #[.val (.ref a1), .val (.int (2 : Int32)), .val (.int (6 : Int32)), .val (.int p4), .unset] [(.int (6 : Int32)), (.int (2 : Int32)), (.int (8 : Int32))])) rfl (by rw [hml]; rfl) (argsL := [(.int (8 : Int32)), (.int (2 : Int32)), (.int (6 : Int32))]) (rest := []) (lenOf pd__III_V rfl) rfl (by show 2 * 0 + _ ≤ _; exact Nat.le_of_eq rfl) (hb hby d3_4) (fun _ _ => ⟨rfl, e0, (by decide : 0 + 0 ≤ _), (by decide : 0 + 0 ≤ _)⟩)
  dsimp only [Pt.U, Pt.locs, Pt.cells, Pt.slots] at X3' l3 y3 z3 st3 hQ3
  subst l3 y3 z3
  obtain ⟨rfl, N3q, e3⟩ := hQ3
  obtain ⟨lc3, X3, N3⟩ : ∃ lc, Stand p l e ({ frames := 1, cells := 0, slots := 0, locals := 14 } : Room) s m #[(.ref a1), (.int (2 : Int32)), (.int (6 : Int32)), (.int p4)] below meth c T3 lc 0 0 ∧ Fr n0 lc := ⟨_, X3', Fr.app N0 N3q⟩
  have K4 : Gx p e below s₁ f0 T3 (mkF m 7 #[.val (.ref a1), .val (.int (2 : Int32)), .val (.int (6 : Int32)), .val (.int p4), .unset] []) := fun t kt => K2 t (st3 t kt)
  have K5 : Gx p e below s₁ f0 T3 (mkF m 20 #[.val (.ref a1), .val (.int (2 : Int32)), .val (.int (6 : Int32)), .val (.int p4), .val (.int (2 : Int32))] [(.int p4), (.int (2 : Int32)), (.ref a1)]) := fun t kt => K4 t (by
    show Steps p.tables e below (T3.setTop (mkF m 7 #[.val (.ref a1), .val (.int (2 : Int32)), .val (.int (6 : Int32)), .val (.int p4), .unset] [])) _
    refine XS.iloadN X3.here hx rfl (hb hby d3_7) rfl ?_
    show Steps p.tables e below (T3.setTop (mkF m 8 #[.val (.ref a1), .val (.int (2 : Int32)), .val (.int (6 : Int32)), .val (.int p4), .unset] [(.int (2 : Int32))])) _
    refine XS.istore X3.here hx rfl (hb hby d3_8) rfl (l' := #[.val (.ref a1), .val (.int (2 : Int32)), .val (.int (6 : Int32)), .val (.int p4), .val (.int (2 : Int32))]) rfl ?_
    show Steps p.tables e below (T3.setTop (mkF m 10 #[.val (.ref a1), .val (.int (2 : Int32)), .val (.int (6 : Int32)), .val (.int p4), .val (.int (2 : Int32))] [])) _
    refine XS.iload X3.here hx rfl (hb hby d3_10) rfl ?_
    show Steps p.tables e below (T3.setTop (mkF m 12 #[.val (.ref a1), .val (.int (2 : Int32)), .val (.int (6 : Int32)), .val (.int p4), .val (.int (2 : Int32))] [(.int (2 : Int32))])) _
    refine XS.iloadN X3.here hx rfl (hb hby d3_12) rfl ?_
    show Steps p.tables e below (T3.setTop (mkF m 13 #[.val (.ref a1), .val (.int (2 : Int32)), .val (.int (6 : Int32)), .val (.int p4), .val (.int (2 : Int32))] [(.int (6 : Int32)), (.int (2 : Int32))])) _
    refine XS.icmpNo X3.here hx rfl (hb hby d3_13) rfl (tlt (by decide)).2.1 ?_
    show Steps p.tables e below (T3.setTop (mkF m 16 #[.val (.ref a1), .val (.int (2 : Int32)), .val (.int (6 : Int32)), .val (.int p4), .val (.int (2 : Int32))] [])) _
    refine XS.aloadN X3.here hx rfl (hb hby d3_16) rfl rfl ?_
    show Steps p.tables e below (T3.setTop (mkF m 17 #[.val (.ref a1), .val (.int (2 : Int32)), .val (.int (6 : Int32)), .val (.int p4), .val (.int (2 : Int32))] [(.ref a1)])) _
    refine XS.iload X3.here hx rfl (hb hby d3_17) rfl ?_
    show Steps p.tables e below (T3.setTop (mkF m 19 #[.val (.ref a1), .val (.int (2 : Int32)), .val (.int (6 : Int32)), .val (.int p4), .val (.int (2 : Int32))] [(.int (2 : Int32)), (.ref a1)])) _
    refine XS.iloadN X3.here hx rfl (hb hby d3_19) rfl ?_
    exact kt)
  obtain ⟨T6, h6, X6', e6, W6, st6⟩ := stI X3 hx hZ e3 Arq1 (j := (2 : Int32)) (inb_of cSq1 ⟨by decide, by decide⟩) (g := (mkF m 20 #[.val (.ref a1), .val (.int (2 : Int32)), .val (.int (6 : Int32)), .val (.int p4), .val (.int (2 : Int32))] [(.int p4), (.int (2 : Int32)), (.ref a1)])) rfl rfl (hb hby d3_20)
  obtain ⟨lc6, X6, N6⟩ : ∃ lc, Stand p l e ({ frames := 1, cells := 0, slots := 0, locals := 14 } : Room) s m #[(.ref a1), (.int (2 : Int32)), (.int (6 : Int32)), (.int p4)] below meth c T6 lc 0 0 ∧ Fr n0 lc := ⟨_, X6', Fr.snoc X6' N3 pr1⟩
  have V6 : Arv Z h6 a1 k .int (8 : Int32) [(.int u0), (.int u1), (.int p4), (.int u3), (.int u4), (.int u5), (.int u6), (.int u7)] (.int (0 : Int32)) := Arv.set Arq1 ckq1 cSq1 cNq1 cHq1 cGq1 rfl W6 2 rfl (Nat.le_of_ble_eq_true rfl)
  have K7 : Gx p e below s₁ f0 T6 (mkF m 21 #[.val (.ref a1), .val (.int (2 : Int32)), .val (.int (6 : Int32)), .val (.int p4), .val (.int (2 : Int32))] []) := fun t kt => K5 t (st6 t kt)
  have K8 : Gx p e below s₁ f0 T6 (mkF m 20 #[.val (.ref a1), .val (.int (2 : Int32)), .val (.int (6 : Int32)), .val (.int p4), .val (.int (3 : Int32))] [(.int p4), (.int (3 : Int32)), (.ref a1)]) := fun t kt => K7 t (by
    show Steps p.tables e below (T6.setTop (mkF m 21 #[.val (.ref a1), .val (.int (2 : Int32)), .val (.int (6 : Int32)), .val (.int p4), .val (.int (2 : Int32))] [])) _
    refine XS.iinc X6.here hx rfl (hb hby d3_21) rfl (l' := #[.val (.ref a1), .val (.int (2 : Int32)), .val (.int (6 : Int32)), .val (.int p4), .val (.int (3 : Int32))]) rfl ?_
    show Steps p.tables e below (T6.setTop (mkF m 24 #[.val (.ref a1), .val (.int (2 : Int32)), .val (.int (6 : Int32)), .val (.int p4), .val (.int (3 : Int32))] [])) _
    refine XS.goto X6.here hx rfl (pc0 := 24) (pc' := 10) rfl (hb hby d3_24) (by decide) (by decide) ?_
    show Steps p.tables e below (T6.setTop (mkF m 10 #[.val (.ref a1), .val (.int (2 : Int32)), .val (.int (6 : Int32)), .val (.int p4), .val (.int (3 : Int32))] [])) _
    refine XS.iload X6.here hx rfl (hb hby d3_10) rfl ?_
    show Steps p.tables e below (T6.setTop (mkF m 12 #[.val (.ref a1), .val (.int (2 : Int32)), .val (.int (6 : Int32)), .val (.int p4), .val (.int (3 : Int32))] [(.int (3 : Int32))])) _
    refine XS.iloadN X6.here hx rfl (hb hby d3_12) rfl ?_
    show Steps p.tables e below (T6.setTop (mkF m 13 #[.val (.ref a1), .val (.int (2 : Int32)), .val (.int (6 : Int32)), .val (.int p4), .val (.int (3 : Int32))] [(.int (6 : Int32)), (.int (3 : Int32))])) _
    refine XS.icmpNo X6.here hx rfl (hb hby d3_13) rfl (tlt (by decide)).2.1 ?_
    show Steps p.tables e below (T6.setTop (mkF m 16 #[.val (.ref a1), .val (.int (2 : Int32)), .val (.int (6 : Int32)), .val (.int p4), .val (.int (3 : Int32))] [])) _
    refine XS.aloadN X6.here hx rfl (hb hby d3_16) rfl rfl ?_
    show Steps p.tables e below (T6.setTop (mkF m 17 #[.val (.ref a1), .val (.int (2 : Int32)), .val (.int (6 : Int32)), .val (.int p4), .val (.int (3 : Int32))] [(.ref a1)])) _
    refine XS.iload X6.here hx rfl (hb hby d3_17) rfl ?_
    show Steps p.tables e below (T6.setTop (mkF m 19 #[.val (.ref a1), .val (.int (2 : Int32)), .val (.int (6 : Int32)), .val (.int p4), .val (.int (3 : Int32))] [(.int (3 : Int32)), (.ref a1)])) _
    refine XS.iloadN X6.here hx rfl (hb hby d3_19) rfl ?_
    exact kt)
  obtain ⟨clq9, Arq9, ckq9, cSq9, cNq9, cHq9, cGq9⟩ := id V6
  obtain ⟨T10, h10, X10', e10, W10, st10⟩ := stI X6 hx hZ e6 Arq9 (j := (3 : Int32)) (inb_of cSq9 ⟨by decide, by decide⟩) (g := (mkF m 20 #[.val (.ref a1), .val (.int (2 : Int32)), .val (.int (6 : Int32)), .val (.int p4), .val (.int (3 : Int32))] [(.int p4), (.int (3 : Int32)), (.ref a1)])) rfl rfl (hb hby d3_20)
  obtain ⟨lc10, X10, N10⟩ : ∃ lc, Stand p l e ({ frames := 1, cells := 0, slots := 0, locals := 14 } : Room) s m #[(.ref a1), (.int (2 : Int32)), (.int (6 : Int32)), (.int p4)] below meth c T10 lc 0 0 ∧ Fr n0 lc := ⟨_, X10', Fr.snoc X10' N6 pr1⟩
  have V10 : Arv Z h10 a1 k .int (8 : Int32) [(.int u0), (.int u1), (.int p4), (.int p4), (.int u4), (.int u5), (.int u6), (.int u7)] (.int (0 : Int32)) := Arv.set Arq9 ckq9 cSq9 cNq9 cHq9 cGq9 rfl W10 3 rfl (Nat.le_of_ble_eq_true rfl)
  have K11 : Gx p e below s₁ f0 T10 (mkF m 21 #[.val (.ref a1), .val (.int (2 : Int32)), .val (.int (6 : Int32)), .val (.int p4), .val (.int (3 : Int32))] []) := fun t kt => K8 t (st10 t kt)
  have K12 : Gx p e below s₁ f0 T10 (mkF m 20 #[.val (.ref a1), .val (.int (2 : Int32)), .val (.int (6 : Int32)), .val (.int p4), .val (.int (4 : Int32))] [(.int p4), (.int (4 : Int32)), (.ref a1)]) := fun t kt => K11 t (by
    show Steps p.tables e below (T10.setTop (mkF m 21 #[.val (.ref a1), .val (.int (2 : Int32)), .val (.int (6 : Int32)), .val (.int p4), .val (.int (3 : Int32))] [])) _
    refine XS.iinc X10.here hx rfl (hb hby d3_21) rfl (l' := #[.val (.ref a1), .val (.int (2 : Int32)), .val (.int (6 : Int32)), .val (.int p4), .val (.int (4 : Int32))]) rfl ?_
    show Steps p.tables e below (T10.setTop (mkF m 24 #[.val (.ref a1), .val (.int (2 : Int32)), .val (.int (6 : Int32)), .val (.int p4), .val (.int (4 : Int32))] [])) _
    refine XS.goto X10.here hx rfl (pc0 := 24) (pc' := 10) rfl (hb hby d3_24) (by decide) (by decide) ?_
    show Steps p.tables e below (T10.setTop (mkF m 10 #[.val (.ref a1), .val (.int (2 : Int32)), .val (.int (6 : Int32)), .val (.int p4), .val (.int (4 : Int32))] [])) _
    refine XS.iload X10.here hx rfl (hb hby d3_10) rfl ?_
    show Steps p.tables e below (T10.setTop (mkF m 12 #[.val (.ref a1), .val (.int (2 : Int32)), .val (.int (6 : Int32)), .val (.int p4), .val (.int (4 : Int32))] [(.int (4 : Int32))])) _
    refine XS.iloadN X10.here hx rfl (hb hby d3_12) rfl ?_
    show Steps p.tables e below (T10.setTop (mkF m 13 #[.val (.ref a1), .val (.int (2 : Int32)), .val (.int (6 : Int32)), .val (.int p4), .val (.int (4 : Int32))] [(.int (6 : Int32)), (.int (4 : Int32))])) _
    refine XS.icmpNo X10.here hx rfl (hb hby d3_13) rfl (tlt (by decide)).2.1 ?_
    show Steps p.tables e below (T10.setTop (mkF m 16 #[.val (.ref a1), .val (.int (2 : Int32)), .val (.int (6 : Int32)), .val (.int p4), .val (.int (4 : Int32))] [])) _
    refine XS.aloadN X10.here hx rfl (hb hby d3_16) rfl rfl ?_
    show Steps p.tables e below (T10.setTop (mkF m 17 #[.val (.ref a1), .val (.int (2 : Int32)), .val (.int (6 : Int32)), .val (.int p4), .val (.int (4 : Int32))] [(.ref a1)])) _
    refine XS.iload X10.here hx rfl (hb hby d3_17) rfl ?_
    show Steps p.tables e below (T10.setTop (mkF m 19 #[.val (.ref a1), .val (.int (2 : Int32)), .val (.int (6 : Int32)), .val (.int p4), .val (.int (4 : Int32))] [(.int (4 : Int32)), (.ref a1)])) _
    refine XS.iloadN X10.here hx rfl (hb hby d3_19) rfl ?_
    exact kt)
  obtain ⟨clq13, Arq13, ckq13, cSq13, cNq13, cHq13, cGq13⟩ := id V10
  obtain ⟨T14, h14, X14', e14, W14, st14⟩ := stI X10 hx hZ e10 Arq13 (j := (4 : Int32)) (inb_of cSq13 ⟨by decide, by decide⟩) (g := (mkF m 20 #[.val (.ref a1), .val (.int (2 : Int32)), .val (.int (6 : Int32)), .val (.int p4), .val (.int (4 : Int32))] [(.int p4), (.int (4 : Int32)), (.ref a1)])) rfl rfl (hb hby d3_20)
  obtain ⟨lc14, X14, N14⟩ : ∃ lc, Stand p l e ({ frames := 1, cells := 0, slots := 0, locals := 14 } : Room) s m #[(.ref a1), (.int (2 : Int32)), (.int (6 : Int32)), (.int p4)] below meth c T14 lc 0 0 ∧ Fr n0 lc := ⟨_, X14', Fr.snoc X14' N10 pr1⟩
  have V14 : Arv Z h14 a1 k .int (8 : Int32) [(.int u0), (.int u1), (.int p4), (.int p4), (.int p4), (.int u5), (.int u6), (.int u7)] (.int (0 : Int32)) := Arv.set Arq13 ckq13 cSq13 cNq13 cHq13 cGq13 rfl W14 4 rfl (Nat.le_of_ble_eq_true rfl)
  have K15 : Gx p e below s₁ f0 T14 (mkF m 21 #[.val (.ref a1), .val (.int (2 : Int32)), .val (.int (6 : Int32)), .val (.int p4), .val (.int (4 : Int32))] []) := fun t kt => K12 t (st14 t kt)
  have K16 : Gx p e below s₁ f0 T14 (mkF m 20 #[.val (.ref a1), .val (.int (2 : Int32)), .val (.int (6 : Int32)), .val (.int p4), .val (.int (5 : Int32))] [(.int p4), (.int (5 : Int32)), (.ref a1)]) := fun t kt => K15 t (by
    show Steps p.tables e below (T14.setTop (mkF m 21 #[.val (.ref a1), .val (.int (2 : Int32)), .val (.int (6 : Int32)), .val (.int p4), .val (.int (4 : Int32))] [])) _
    refine XS.iinc X14.here hx rfl (hb hby d3_21) rfl (l' := #[.val (.ref a1), .val (.int (2 : Int32)), .val (.int (6 : Int32)), .val (.int p4), .val (.int (5 : Int32))]) rfl ?_
    show Steps p.tables e below (T14.setTop (mkF m 24 #[.val (.ref a1), .val (.int (2 : Int32)), .val (.int (6 : Int32)), .val (.int p4), .val (.int (5 : Int32))] [])) _
    refine XS.goto X14.here hx rfl (pc0 := 24) (pc' := 10) rfl (hb hby d3_24) (by decide) (by decide) ?_
    show Steps p.tables e below (T14.setTop (mkF m 10 #[.val (.ref a1), .val (.int (2 : Int32)), .val (.int (6 : Int32)), .val (.int p4), .val (.int (5 : Int32))] [])) _
    refine XS.iload X14.here hx rfl (hb hby d3_10) rfl ?_
    show Steps p.tables e below (T14.setTop (mkF m 12 #[.val (.ref a1), .val (.int (2 : Int32)), .val (.int (6 : Int32)), .val (.int p4), .val (.int (5 : Int32))] [(.int (5 : Int32))])) _
    refine XS.iloadN X14.here hx rfl (hb hby d3_12) rfl ?_
    show Steps p.tables e below (T14.setTop (mkF m 13 #[.val (.ref a1), .val (.int (2 : Int32)), .val (.int (6 : Int32)), .val (.int p4), .val (.int (5 : Int32))] [(.int (6 : Int32)), (.int (5 : Int32))])) _
    refine XS.icmpNo X14.here hx rfl (hb hby d3_13) rfl (tlt (by decide)).2.1 ?_
    show Steps p.tables e below (T14.setTop (mkF m 16 #[.val (.ref a1), .val (.int (2 : Int32)), .val (.int (6 : Int32)), .val (.int p4), .val (.int (5 : Int32))] [])) _
    refine XS.aloadN X14.here hx rfl (hb hby d3_16) rfl rfl ?_
    show Steps p.tables e below (T14.setTop (mkF m 17 #[.val (.ref a1), .val (.int (2 : Int32)), .val (.int (6 : Int32)), .val (.int p4), .val (.int (5 : Int32))] [(.ref a1)])) _
    refine XS.iload X14.here hx rfl (hb hby d3_17) rfl ?_
    show Steps p.tables e below (T14.setTop (mkF m 19 #[.val (.ref a1), .val (.int (2 : Int32)), .val (.int (6 : Int32)), .val (.int p4), .val (.int (5 : Int32))] [(.int (5 : Int32)), (.ref a1)])) _
    refine XS.iloadN X14.here hx rfl (hb hby d3_19) rfl ?_
    exact kt)
  obtain ⟨clq17, Arq17, ckq17, cSq17, cNq17, cHq17, cGq17⟩ := id V14
  obtain ⟨T18, h18, X18', e18, W18, st18⟩ := stI X14 hx hZ e14 Arq17 (j := (5 : Int32)) (inb_of cSq17 ⟨by decide, by decide⟩) (g := (mkF m 20 #[.val (.ref a1), .val (.int (2 : Int32)), .val (.int (6 : Int32)), .val (.int p4), .val (.int (5 : Int32))] [(.int p4), (.int (5 : Int32)), (.ref a1)])) rfl rfl (hb hby d3_20)
  obtain ⟨lc18, X18, N18⟩ : ∃ lc, Stand p l e ({ frames := 1, cells := 0, slots := 0, locals := 14 } : Room) s m #[(.ref a1), (.int (2 : Int32)), (.int (6 : Int32)), (.int p4)] below meth c T18 lc 0 0 ∧ Fr n0 lc := ⟨_, X18', Fr.snoc X18' N14 pr1⟩
  have V18 : Arv Z h18 a1 k .int (8 : Int32) [(.int u0), (.int u1), (.int p4), (.int p4), (.int p4), (.int p4), (.int u6), (.int u7)] (.int (0 : Int32)) := Arv.set Arq17 ckq17 cSq17 cNq17 cHq17 cGq17 rfl W18 5 rfl (Nat.le_of_ble_eq_true rfl)
  have K19 : Gx p e below s₁ f0 T18 (mkF m 21 #[.val (.ref a1), .val (.int (2 : Int32)), .val (.int (6 : Int32)), .val (.int p4), .val (.int (5 : Int32))] []) := fun t kt => K16 t (st18 t kt)
  have K20 : Gx p e below s₁ f0 T18 (mkF m 27 #[.val (.ref a1), .val (.int (2 : Int32)), .val (.int (6 : Int32)), .val (.int p4), .val (.int (6 : Int32))] []) := fun t kt => K19 t (by
    show Steps p.tables e below (T18.setTop (mkF m 21 #[.val (.ref a1), .val (.int (2 : Int32)), .val (.int (6 : Int32)), .val (.int p4), .val (.int (5 : Int32))] [])) _
    refine XS.iinc X18.here hx rfl (hb hby d3_21) rfl (l' := #[.val (.ref a1), .val (.int (2 : Int32)), .val (.int (6 : Int32)), .val (.int p4), .val (.int (6 : Int32))]) rfl ?_
    show Steps p.tables e below (T18.setTop (mkF m 24 #[.val (.ref a1), .val (.int (2 : Int32)), .val (.int (6 : Int32)), .val (.int p4), .val (.int (6 : Int32))] [])) _
    refine XS.goto X18.here hx rfl (pc0 := 24) (pc' := 10) rfl (hb hby d3_24) (by decide) (by decide) ?_
    show Steps p.tables e below (T18.setTop (mkF m 10 #[.val (.ref a1), .val (.int (2 : Int32)), .val (.int (6 : Int32)), .val (.int p4), .val (.int (6 : Int32))] [])) _
    refine XS.iload X18.here hx rfl (hb hby d3_10) rfl ?_
    show Steps p.tables e below (T18.setTop (mkF m 12 #[.val (.ref a1), .val (.int (2 : Int32)), .val (.int (6 : Int32)), .val (.int p4), .val (.int (6 : Int32))] [(.int (6 : Int32))])) _
    refine XS.iloadN X18.here hx rfl (hb hby d3_12) rfl ?_
    show Steps p.tables e below (T18.setTop (mkF m 13 #[.val (.ref a1), .val (.int (2 : Int32)), .val (.int (6 : Int32)), .val (.int p4), .val (.int (6 : Int32))] [(.int (6 : Int32)), (.int (6 : Int32))])) _
    refine XS.icmpYes X18.here hx rfl (pc0 := 13) (pc' := 27) rfl (hb hby d3_13) rfl (flt (by decide)).2.1 (by decide) (by decide) ?_
    exact kt)
  have kp22 : Keep h0 h18 [a1] := (((((Keep.refl h0 [a1]).wr W6 (Or.inl (List.mem_of_getElem? (i := 0) rfl))).wr W10 (Or.inl (List.mem_of_getElem? (i := 0) rfl))).wr W14 (Or.inl (List.mem_of_getElem? (i := 0) rfl))).wr W18 (Or.inl (List.mem_of_getElem? (i := 0) rfl)))
  obtain ⟨fs21, hr21, hrun21, hended21, hW21, hsame21⟩ := X18.leave (v := none) (fun _ => rfl)
  refine ⟨_, _, pre0 _ (K20 _ ?_), hrun21, hended21, _, _, rfl, ?_, ⟨_, rfl⟩, hW21, hsame21.mono (by decide) (by decide)⟩
  · exact X18.returnOut hx Bd.returns (hb hby d3_27) hr21
  · show QFill2 Z a1 p4 k u0 u1 u2 u3 u4 u5 u6 u7 h0 n0 _ T18.heap _
    rw [e18]
    exact ⟨rfl, N18, kp22, V18⟩
theorem ef_Ini2 (m : MethodId) (a1 : Addr) (a2 : Addr) : entryFrame m #[(.ref a1), (.ref a2), (.int (2 : Int32)), (.int (4 : Int32))] 4 = mkF m 0 #[.val (.ref a1), .val (.ref a2), .val (.int (2 : Int32)), .val (.int (4 : Int32))] [] := by first | (simp [entryFrame, mkF, argsToLocals, Value.category]; done) | rfl
def QIni2 (Z : State) (a1 : Addr) (a2 : Addr) (k : ClassId) (u0 : Int32) (u1 : Int32) (u2 : Int32) (u3 : Int32) (u4 : Int32) (u5 : Int32) (u6 : Int32) (u7 : Int32) (h0 : Heap) (n0 : Nat) (v : Option Value) (h : Heap) (L : List Loc) : Prop := v = none ∧ Fr n0 L ∧ Keep h0 h [a1, a2] ∧ Exa Z h a1 "lastcolumn/stage/Probabilities" ∧ Fld Z h a1 "lastcolumn/stage/Probabilities" "states" "[I" (.ref a2) ∧ Fld Z h a1 "lastcolumn/stage/Probabilities" "at" "I" (.int (2 : Int32)) ∧ Arv Z h a2 k .int (8 : Int32) [(.int u0), (.int u1), (.int (-2147483648 : Int32)), (.int (-2147483648 : Int32)), (.int (-2147483648 : Int32)), (.int (-2147483648 : Int32)), (.int u6), (.int u7)] (.int (0 : Int32))
set_option maxRecDepth 65536 in
set_option maxHeartbeats 40000000 in
theorem rmIni2 (l : Launch) (Z : State) (a0 : Array Value) (hw : ∀ d ∈ tables_1, d.before a0 Z = true) (ws : List Jvm.Cond) (a1 : Addr) (a2 : Addr) (k : ClassId) (u0 : Int32) (u1 : Int32) (u2 : Int32) (u3 : Int32) (u4 : Int32) (u5 : Int32) (u6 : Int32) (u7 : Int32) (h0 : Heap) (n0 : Nat) (Z0 : n0 ≤ h0.size) (pr0 : Exa Z h0 a1 "lastcolumn/stage/Probabilities") (pr1 : n0 ≤ a1) (pr2 : n0 ≤ a2) (pr3 : Fld Z h0 a1 "lastcolumn/stage/Probabilities" "states" "[I" .null) (pr4 : Fld Z h0 a1 "lastcolumn/stage/Probabilities" "at" "I" (.int (0 : Int32))) (pr5 : Arv Z h0 a2 k .int (8 : Int32) [(.int u0), (.int u1), (.int u2), (.int u3), (.int u4), (.int u5), (.int u6), (.int u7)] (.int (0 : Int32))) (pr6 : a1 ≠ a2) :
    MetFree l (⟨"lastcolumn/stage/Probabilities", "<init>", "([III)V"⟩ : MethodName) (head1 (Jvm.Cond.code (⟨"lastcolumn/stage/Probabilities", "<init>", "([III)V"⟩ : MethodName) prog_31_method_1_code 4 none :: ws) ({ frames := 2, cells := 0, slots := 0, locals := 30 } : Room)) (fun a U => a = #[(.ref a1), (.ref a2), (.int (2 : Int32)), (.int (4 : Int32))] ∧ Z.Warmed39 U.vm ∧ U.heap = h0) (fun _ _ _ _ _ => True) (fun _ U o U' => ∃ v L, o = .returned v ∧ QIni2 Z a1 a2 k u0 u1 u2 u3 u4 u5 u6 u7 h0 n0 v U'.heap L ∧ FrameEnd U o U' L ({ frames := 2, cells := 0, slots := 0, locals := 30 } : Room).cells ({ frames := 2, cells := 0, slots := 0, locals := 30 } : Room).slots) := by
  refine MetFree.of_bodySF (plainFor_of_name pn_1) hisR ?_
  intro p e s m args below meth c s₁ Bd hml0 hP hK
  obtain ⟨rfl, hZ, hh⟩ := hP
  have hx := Bd.exec
  have hby := Bd.bytes
  have hml : c.maxLocals = 4 := hml0
  have hown : s.vm.findClass "lastcolumn/stage/Probabilities" = some m.cls := findClass_of_methodNamed Bd.named
  have hnm := (name_of_methodNamed Bd.named Bd.method).1
  have X0 : Stand p l e ({ frames := 2, cells := 0, slots := 0, locals := 30 } : Room) s m #[(.ref a1), (.ref a2), (.int (2 : Int32)), (.int (4 : Int32))] below meth c s₁ [] 0 0 := Stand.of_body Bd
  have hs0 : h0 = s.heap := hh.symm
  have e0 : s₁.heap = h0 := by rw [← hh, Bd.state]; rfl
  have N0 := Fr.nil n0
  obtain ⟨f0, hf0⟩ : ∃ f, f = entryFrame m #[(.ref a1), (.ref a2), (.int (2 : Int32)), (.int (4 : Int32))] 4 := ⟨_, rfl⟩
  have pre0 : ∀ t, Steps p.tables e below (s₁.setTop f0) t → Steps p.tables e below (s₁.setTop (entryFrame m #[(.ref a1), (.ref a2), (.int (2 : Int32)), (.int (4 : Int32))] 4)) t := fun t k => hf0 ▸ k
  have K0 : Gx p e below s₁ f0 s₁ (mkF m 0 #[.val (.ref a1), .val (.ref a2), .val (.int (2 : Int32)), .val (.int (4 : Int32))] []) := fun t kt => by rw [hf0]; exact castTop (ef_Ini2 m a1 a2) kt
  have K1 : Gx p e below s₁ f0 s₁ (mkF m 1 #[.val (.ref a1), .val (.ref a2), .val (.int (2 : Int32)), .val (.int (4 : Int32))] [(.ref a1)]) := fun t kt => K0 t (by
    show Steps p.tables e below (s₁.setTop (mkF m 0 #[.val (.ref a1), .val (.ref a2), .val (.int (2 : Int32)), .val (.int (4 : Int32))] [])) _
    refine XS.aloadN X0.here hx rfl (hb hby d1_0) rfl rfl ?_
    exact kt)
  obtain ⟨T2, X2, e2, st2⟩ := initO X0 hx hZ hown (hw _ (List.mem_of_getElem? (i := 7) rfl)) (hw _ (List.mem_of_getElem? (i := 8) rfl)) (hw _ (List.mem_of_getElem? (i := 9) rfl)) e0 (g := (mkF m 1 #[.val (.ref a1), .val (.ref a2), .val (.int (2 : Int32)), .val (.int (4 : Int32))] [(.ref a1)])) rfl (by rw [hml]; rfl) rfl (hb hby d1_1) (by decide) (W := 0) (by show 2 * 0 + _ ≤ _; exact Nat.le_of_eq rfl) (by decide)
  have K3 : Gx p e below s₁ f0 T2 (mkF m 4 #[.val (.ref a1), .val (.ref a2), .val (.int (2 : Int32)), .val (.int (4 : Int32))] []) := fun t kt => K1 t (st2 t kt)
  have K4 : Gx p e below s₁ f0 T2 (mkF m 6 #[.val (.ref a1), .val (.ref a2), .val (.int (2 : Int32)), .val (.int (4 : Int32))] [(.ref a2), (.ref a1)]) := fun t kt => K3 t (by
    show Steps p.tables e below (T2.setTop (mkF m 4 #[.val (.ref a1), .val (.ref a2), .val (.int (2 : Int32)), .val (.int (4 : Int32))] [])) _
    refine XS.aloadN X2.here hx rfl (hb hby d1_4) rfl rfl ?_
    show Steps p.tables e below (T2.setTop (mkF m 5 #[.val (.ref a1), .val (.ref a2), .val (.int (2 : Int32)), .val (.int (4 : Int32))] [(.ref a1)])) _
    refine XS.aloadN X2.here hx rfl (hb hby d1_5) rfl rfl ?_
    exact kt)
  obtain ⟨T5, h5, X5', e5, W5, st5⟩ := putF X2 hx hZ hown (host := "") (Or.inl (hw _ (List.mem_of_getElem? (i := 10) rfl))) Via.refl e2 pr3 pr0 (Or.inr ⟨(hw _ (List.mem_of_getElem? (i := 11) rfl)), rfl, hnm⟩) (hw _ (List.mem_of_getElem? (i := 2) rfl)) (ty := (.array .int)) (by decide) rfl rfl (g := (mkF m 6 #[.val (.ref a1), .val (.ref a2), .val (.int (2 : Int32)), .val (.int (4 : Int32))] [(.ref a2), (.ref a1)])) rfl rfl (hb hby d1_6)
  obtain ⟨lc5, X5, N5⟩ : ∃ lc, Stand p l e ({ frames := 2, cells := 0, slots := 0, locals := 30 } : Room) s m #[(.ref a1), (.ref a2), (.int (2 : Int32)), (.int (4 : Int32))] below meth c T5 lc 0 0 ∧ Fr n0 lc := ⟨_, X5', Fr.snoc X5' N0 pr1⟩
  have f5_ : Fld Z h5 a1 "lastcolumn/stage/Probabilities" "states" "[I" (.ref a2) := pr3.same W5
  have K6 : Gx p e below s₁ f0 T5 (mkF m 9 #[.val (.ref a1), .val (.ref a2), .val (.int (2 : Int32)), .val (.int (4 : Int32))] []) := fun t kt => K4 t (st5 t kt)
  have K7 : Gx p e below s₁ f0 T5 (mkF m 11 #[.val (.ref a1), .val (.ref a2), .val (.int (2 : Int32)), .val (.int (4 : Int32))] [(.int (2 : Int32)), (.ref a1)]) := fun t kt => K6 t (by
    show Steps p.tables e below (T5.setTop (mkF m 9 #[.val (.ref a1), .val (.ref a2), .val (.int (2 : Int32)), .val (.int (4 : Int32))] [])) _
    refine XS.aloadN X5.here hx rfl (hb hby d1_9) rfl rfl ?_
    show Steps p.tables e below (T5.setTop (mkF m 10 #[.val (.ref a1), .val (.ref a2), .val (.int (2 : Int32)), .val (.int (4 : Int32))] [(.ref a1)])) _
    refine XS.iloadN X5.here hx rfl (hb hby d1_10) rfl ?_
    exact kt)
  have f8 : Fld Z h5 a1 "lastcolumn/stage/Probabilities" "at" "I" (.int (0 : Int32)) := (pr4.other W5 (Or.inr (slot_ne (Or.inr (hw _ (List.mem_of_getElem? (i := 13) rfl))) (Or.inr (hw _ (List.mem_of_getElem? (i := 11) rfl))) (by decide) (t := .int) (t' := (.array .int)) (by decide) (by decide))))
  have f9 : Exa Z h5 a1 "lastcolumn/stage/Probabilities" := (pr0.wr W5)
  obtain ⟨T10, h10, X10', e10, W10, st10⟩ := putF X5 hx hZ hown (host := "") (Or.inl (hw _ (List.mem_of_getElem? (i := 12) rfl))) Via.refl e5 f8 f9 (Or.inr ⟨(hw _ (List.mem_of_getElem? (i := 13) rfl)), rfl, hnm⟩) (hw _ (List.mem_of_getElem? (i := 2) rfl)) (ty := .int) (by decide) rfl rfl (g := (mkF m 11 #[.val (.ref a1), .val (.ref a2), .val (.int (2 : Int32)), .val (.int (4 : Int32))] [(.int (2 : Int32)), (.ref a1)])) rfl rfl (hb hby d1_11)
  obtain ⟨lc10, X10, N10⟩ : ∃ lc, Stand p l e ({ frames := 2, cells := 0, slots := 0, locals := 30 } : Room) s m #[(.ref a1), (.ref a2), (.int (2 : Int32)), (.int (4 : Int32))] below meth c T10 lc 0 0 ∧ Fr n0 lc := ⟨_, X10', Fr.snoc X10' N5 pr1⟩
  have f10_ : Fld Z h10 a1 "lastcolumn/stage/Probabilities" "at" "I" (.int (2 : Int32)) := f8.same W10
  have K11 : Gx p e below s₁ f0 T10 (mkF m 14 #[.val (.ref a1), .val (.ref a2), .val (.int (2 : Int32)), .val (.int (4 : Int32))] []) := fun t kt => K7 t (st10 t kt)
  have K12 : Gx p e below s₁ f0 T10 (mkF m 21 #[.val (.ref a1), .val (.ref a2), .val (.int (2 : Int32)), .val (.int (4 : Int32))] [(.int (-2147483648 : Int32)), (.int (6 : Int32)), (.int (2 : Int32)), (.ref a2)]) := fun t kt => K11 t (by
    show Steps p.tables e below (T10.setTop (mkF m 14 #[.val (.ref a1), .val (.ref a2), .val (.int (2 : Int32)), .val (.int (4 : Int32))] [])) _
    refine XS.aloadN X10.here hx rfl (hb hby d1_14) rfl rfl ?_
    show Steps p.tables e below (T10.setTop (mkF m 15 #[.val (.ref a1), .val (.ref a2), .val (.int (2 : Int32)), .val (.int (4 : Int32))] [(.ref a2)])) _
    refine XS.iloadN X10.here hx rfl (hb hby d1_15) rfl ?_
    show Steps p.tables e below (T10.setTop (mkF m 16 #[.val (.ref a1), .val (.ref a2), .val (.int (2 : Int32)), .val (.int (4 : Int32))] [(.int (2 : Int32)), (.ref a2)])) _
    refine XS.iloadN X10.here hx rfl (hb hby d1_16) rfl ?_
    show Steps p.tables e below (T10.setTop (mkF m 17 #[.val (.ref a1), .val (.ref a2), .val (.int (2 : Int32)), .val (.int (4 : Int32))] [(.int (2 : Int32)), (.int (2 : Int32)), (.ref a2)])) _
    refine XS.iloadN X10.here hx rfl (hb hby d1_17) rfl ?_
    show Steps p.tables e below (T10.setTop (mkF m 18 #[.val (.ref a1), .val (.ref a2), .val (.int (2 : Int32)), .val (.int (4 : Int32))] [(.int (4 : Int32)), (.int (2 : Int32)), (.int (2 : Int32)), (.ref a2)])) _
    refine XS.iadd X10.here hx rfl (hb hby d1_18) rfl ?_
    show Steps p.tables e below (T10.setTop (mkF m 19 #[.val (.ref a1), .val (.ref a2), .val (.int (2 : Int32)), .val (.int (4 : Int32))] [(.int (6 : Int32)), (.int (2 : Int32)), (.ref a2)])) _
    refine X10.ldcInt hx hown (mvT hZ (hw _ (List.mem_of_getElem? (i := 14) rfl))) (g := (mkF m 19 #[.val (.ref a1), .val (.ref a2), .val (.int (2 : Int32)), .val (.int (4 : Int32))] [(.int (6 : Int32)), (.int (2 : Int32)), (.ref a2)])) rfl (hb hby d1_19) _ ?_
    exact kt)
  have f13 : Arv Z h10 a2 k .int (8 : Int32) [(.int u0), (.int u1), (.int u2), (.int u3), (.int u4), (.int u5), (.int u6), (.int u7)] (.int (0 : Int32)) := ((pr5.other W5 (Ne.symm pr6)).other W10 (Ne.symm pr6))
  have kp14 : Keep h0 h10 [a1, a2] := (((Keep.refl h0 [a1, a2]).wr W5 (Or.inl (List.mem_of_getElem? (i := 0) rfl))).wr W10 (Or.inl (List.mem_of_getElem? (i := 0) rfl)))
  obtain ⟨_, _, ⟨T15, L15, k15, n15⟩, -, X15', ⟨Lc15, hQ15, l15, y15, z15⟩, st15⟩ := Jvm.LawKit.callS X10 hx (y := (⟨"java/util/Arrays", "fill", "([IIII)V"⟩ : MethodName)) hown (mvT hZ (hw _ (List.mem_of_getElem? (i := 15) rfl))) (mvT hZ (hw _ (List.mem_of_getElem? (i := 16) rfl))) (mvT hZ (hw _ (List.mem_of_getElem? (i := 17) rfl))) (mvT hZ (hw _ (List.mem_of_getElem? (i := 18) rfl))) (by decide) (backOf (W := 0) (rmFill2 l Z a0 hw [] a2 (-2147483648 : Int32) k u0 u1 u2 u3 u4 u5 u6 u7 h10 n0 (Nat.le_trans Z0 kp14.1) f13 pr2) hZ (hw _ (List.mem_of_getElem? (i := 18) rfl)) (hw _ (List.mem_of_getElem? (i := 17) rfl)) (by decide) (by decide)) (g := (mkF m 21 #[.val (.ref a1), .val (.ref a2), .val (.int (2 : Int32)), .val (.int (4 : Int32))] [(.int (-2147483648 : Int32)), (.int (6 : Int32)), (.int (2 : Int32)), (.ref a2)])) rfl (by rw [hml]; rfl) (argsL := [(.ref a2), (.int (2 : Int32)), (.int (6 : Int32)), (.int (-2147483648 : Int32))]) (rest := []) (lenOf pd___IIII_V rfl) rfl (by show 2 * 0 + _ ≤ _; exact Nat.le_of_eq rfl) (hb hby d1_21) (fun _ _ => ⟨rfl, e10, (by decide : 0 + 0 ≤ _), (by decide : 0 + 0 ≤ _)⟩)
  dsimp only [Pt.U, Pt.locs, Pt.cells, Pt.slots] at X15' l15 y15 z15 st15 hQ15
  subst l15 y15 z15
  obtain ⟨h15, e15⟩ : ∃ z, T15.heap = z := ⟨_, rfl⟩
  rw [e15] at hQ15
  obtain ⟨rfl, N15q, Kc15, f16⟩ := hQ15
  obtain ⟨lc15, X15, N15⟩ : ∃ lc, Stand p l e ({ frames := 2, cells := 0, slots := 0, locals := 30 } : Room) s m #[(.ref a1), (.ref a2), (.int (2 : Int32)), (.int (4 : Int32))] below meth c T15 lc 0 0 ∧ Fr n0 lc := ⟨_, X15', Fr.app N10 N15q⟩
  have K17 : Gx p e below s₁ f0 T15 (mkF m 24 #[.val (.ref a1), .val (.ref a2), .val (.int (2 : Int32)), .val (.int (4 : Int32))] []) := fun t kt => K12 t (st15 t kt)
  have kp19 : Keep h0 h15 [a1, a2] := (Keep.trans kp14 Kc15 (allS (Or.inl (List.mem_of_getElem? (i := 1) rfl)) all0))
  have f20 : Exa Z h15 a1 "lastcolumn/stage/Probabilities" := ((f9.wr W10).keep Kc15)
  have f21 : Fld Z h15 a1 "lastcolumn/stage/Probabilities" "states" "[I" (.ref a2) := ((f5_.other W10 (Or.inr (slot_ne (Or.inr (hw _ (List.mem_of_getElem? (i := 11) rfl))) (Or.inr (hw _ (List.mem_of_getElem? (i := 13) rfl))) (by decide) (t := (.array .int)) (t' := .int) (by decide) (by decide)))).keep Kc15 (ninS pr6 nin0))
  have f22 : Fld Z h15 a1 "lastcolumn/stage/Probabilities" "at" "I" (.int (2 : Int32)) := (f10_.keep Kc15 (ninS pr6 nin0))
  obtain ⟨fs18, hr18, hrun18, hended18, hW18, hsame18⟩ := X15.leave (v := none) (fun _ => rfl)
  refine ⟨_, _, pre0 _ (K17 _ ?_), hrun18, hended18, _, _, rfl, ?_, ⟨_, rfl⟩, hW18, hsame18.mono (by decide) (by decide)⟩
  · exact X15.returnOut hx Bd.returns (hb hby d1_24) hr18
  · show QIni2 Z a1 a2 k u0 u1 u2 u3 u4 u5 u6 u7 h0 n0 _ T15.heap _
    rw [e15]
    exact ⟨rfl, N15, kp19, f20, f21, f22, f16⟩
theorem ef_Fill3 (m : MethodId) (a1 : Addr) (p4 : Int32) : entryFrame m #[(.ref a1), (.int (3 : Int32)), (.int (7 : Int32)), (.int p4)] 5 = mkF m 0 #[.val (.ref a1), .val (.int (3 : Int32)), .val (.int (7 : Int32)), .val (.int p4), .unset] [] := by first | (simp [entryFrame, mkF, argsToLocals, Value.category]; done) | rfl
def QFill3 (Z : State) (a1 : Addr) (p4 : Int32) (k : ClassId) (u0 : Int32) (u1 : Int32) (u2 : Int32) (u3 : Int32) (u4 : Int32) (u5 : Int32) (u6 : Int32) (u7 : Int32) (h0 : Heap) (n0 : Nat) (v : Option Value) (h : Heap) (L : List Loc) : Prop := v = none ∧ Fr n0 L ∧ Keep h0 h [a1] ∧ Arv Z h a1 k .int (8 : Int32) [(.int u0), (.int u1), (.int u2), (.int p4), (.int p4), (.int p4), (.int p4), (.int u7)] (.int (0 : Int32))
set_option maxRecDepth 65536 in
set_option maxHeartbeats 40000000 in
theorem rmFill3 (l : Launch) (Z : State) (a0 : Array Value) (hw : ∀ d ∈ tables_1, d.before a0 Z = true) (ws : List Jvm.Cond) (a1 : Addr) (p4 : Int32) (k : ClassId) (u0 : Int32) (u1 : Int32) (u2 : Int32) (u3 : Int32) (u4 : Int32) (u5 : Int32) (u6 : Int32) (u7 : Int32) (h0 : Heap) (n0 : Nat) (Z0 : n0 ≤ h0.size) (pr0 : Arv Z h0 a1 k .int (8 : Int32) [(.int u0), (.int u1), (.int u2), (.int u3), (.int u4), (.int u5), (.int u6), (.int u7)] (.int (0 : Int32))) (pr1 : n0 ≤ a1) :
    MetFree l (⟨"java/util/Arrays", "fill", "([IIII)V"⟩ : MethodName) (head1 (Jvm.Cond.code (⟨"java/util/Arrays", "fill", "([IIII)V"⟩ : MethodName) jdk_65_method_104_code 5 none :: ws) ({ frames := 1, cells := 0, slots := 0, locals := 14 } : Room)) (fun a U => a = #[(.ref a1), (.int (3 : Int32)), (.int (7 : Int32)), (.int p4)] ∧ Z.Warmed39 U.vm ∧ U.heap = h0) (fun _ _ _ _ _ => True) (fun _ U o U' => ∃ v L, o = .returned v ∧ QFill3 Z a1 p4 k u0 u1 u2 u3 u4 u5 u6 u7 h0 n0 v U'.heap L ∧ FrameEnd U o U' L ({ frames := 1, cells := 0, slots := 0, locals := 14 } : Room).cells ({ frames := 1, cells := 0, slots := 0, locals := 14 } : Room).slots) := by
  refine MetFree.of_bodySF (plainFor_of_name pn_3) hisR ?_
  intro p e s m args below meth c s₁ Bd hml0 hP hK
  obtain ⟨rfl, hZ, hh⟩ := hP
  have hx := Bd.exec
  have hby := Bd.bytes
  have hml : c.maxLocals = 5 := hml0
  have hown : s.vm.findClass "java/util/Arrays" = some m.cls := findClass_of_methodNamed Bd.named
  have hnm := (name_of_methodNamed Bd.named Bd.method).1
  have X0 : Stand p l e ({ frames := 1, cells := 0, slots := 0, locals := 14 } : Room) s m #[(.ref a1), (.int (3 : Int32)), (.int (7 : Int32)), (.int p4)] below meth c s₁ [] 0 0 := Stand.of_body Bd
  have hs0 : h0 = s.heap := hh.symm
  have e0 : s₁.heap = h0 := by rw [← hh, Bd.state]; rfl
  have N0 := Fr.nil n0
  obtain ⟨f0, hf0⟩ : ∃ f, f = entryFrame m #[(.ref a1), (.int (3 : Int32)), (.int (7 : Int32)), (.int p4)] 5 := ⟨_, rfl⟩
  have pre0 : ∀ t, Steps p.tables e below (s₁.setTop f0) t → Steps p.tables e below (s₁.setTop (entryFrame m #[(.ref a1), (.int (3 : Int32)), (.int (7 : Int32)), (.int p4)] 5)) t := fun t k => hf0 ▸ k
  have K0 : Gx p e below s₁ f0 s₁ (mkF m 0 #[.val (.ref a1), .val (.int (3 : Int32)), .val (.int (7 : Int32)), .val (.int p4), .unset] []) := fun t kt => by rw [hf0]; exact castTop (ef_Fill3 m a1 p4) kt
  obtain ⟨clq1, Arq1, ckq1, cSq1, cNq1, cHq1, cGq1⟩ := id pr0
  have K2 : Gx p e below s₁ f0 s₁ (mkF m 4 #[.val (.ref a1), .val (.int (3 : Int32)), .val (.int (7 : Int32)), .val (.int p4), .unset] [(.int (7 : Int32)), (.int (3 : Int32)), (.int (8 : Int32))]) := fun t kt => K0 t (by
    show Steps p.tables e below (s₁.setTop (mkF m 0 #[.val (.ref a1), .val (.int (3 : Int32)), .val (.int (7 : Int32)), .val (.int p4), .unset] [])) _
    refine XS.aloadN X0.here hx rfl (hb hby d3_0) rfl rfl ?_
    show Steps p.tables e below (s₁.setTop (mkF m 1 #[.val (.ref a1), .val (.int (3 : Int32)), .val (.int (7 : Int32)), .val (.int p4), .unset] [(.ref a1)])) _
    refine X0.arraylength hx (by rw [e0]; exact Arq1.1) (State.isArrayOf_alike hZ.alike Arq1.2.1) (g := (mkF m 1 #[.val (.ref a1), .val (.int (3 : Int32)), .val (.int (7 : Int32)), .val (.int p4), .unset] [(.ref a1)])) rfl rfl (hb hby d3_1) _ ?_
    rw [len_of cSq1 cNq1]
    show Steps p.tables e below (s₁.setTop (mkF m 2 #[.val (.ref a1), .val (.int (3 : Int32)), .val (.int (7 : Int32)), .val (.int p4), .unset] [(.int (8 : Int32))])) _
    refine XS.iloadN X0.here hx rfl (hb hby d3_2) rfl ?_
    show Steps p.tables e below (s₁.setTop (mkF m 3 #[.val (.ref a1), .val (.int (3 : Int32)), .val (.int (7 : Int32)), .val (.int p4), .unset] [(.int (3 : Int32)), (.int (8 : Int32))])) _
    refine XS.iloadN X0.here hx rfl (hb hby d3_3) rfl ?_
    exact kt)
  obtain ⟨_, _, ⟨T3, L3, k3, n3⟩, -, X3', ⟨Lc3, hQ3, l3, y3, z3⟩, st3⟩ := Jvm.LawKit.callS X0 hx (y := (⟨"java/util/Arrays", "rangeCheck", "(III)V"⟩ : MethodName)) hown (mvT hZ (hw _ (List.mem_of_getElem? (i := 19) rfl))) (mvT hZ (hw _ (List.mem_of_getElem? (i := 20) rfl))) (mvT hZ (hw _ (List.mem_of_getElem? (i := 17) rfl))) (mvT hZ (hw _ (List.mem_of_getElem? (i := 21) rfl))) (by decide) (backOf (W := 0) (rmRc l Z a0 hw [] (8 : Int32) (3 : Int32) (7 : Int32) h0 n0 (Nat.le_trans Z0 (Keep.refl h0 [a1]).1) (by decide) (by decide) (by decide)) hZ (hw _ (List.mem_of_getElem? (i := 21) rfl)) (hw _ (List.mem_of_getElem? (i := 17) rfl)) (by decide) (by decide)) (g := (mkF m 4 #[.val (.ref a1), .val (.int (3 : Int32)), .val (.int (7 : Int32)), .val (.int p4), .unset] [(.int (7 : Int32)), (.int (3 : Int32)), (.int (8 : Int32))])) rfl (by rw [hml]; rfl) (argsL := [(.int (8 : Int32)), (.int (3 : Int32)), (.int (7 : Int32))]) (rest := []) (lenOf pd__III_V rfl) rfl (by show 2 * 0 + _ ≤ _; exact Nat.le_of_eq rfl) (hb hby d3_4) (fun _ _ => ⟨rfl, e0, (by decide : 0 + 0 ≤ _), (by decide : 0 + 0 ≤ _)⟩)
  dsimp only [Pt.U, Pt.locs, Pt.cells, Pt.slots] at X3' l3 y3 z3 st3 hQ3
  subst l3 y3 z3
  obtain ⟨rfl, N3q, e3⟩ := hQ3
  obtain ⟨lc3, X3, N3⟩ : ∃ lc, Stand p l e ({ frames := 1, cells := 0, slots := 0, locals := 14 } : Room) s m #[(.ref a1), (.int (3 : Int32)), (.int (7 : Int32)), (.int p4)] below meth c T3 lc 0 0 ∧ Fr n0 lc := ⟨_, X3', Fr.app N0 N3q⟩
  have K4 : Gx p e below s₁ f0 T3 (mkF m 7 #[.val (.ref a1), .val (.int (3 : Int32)), .val (.int (7 : Int32)), .val (.int p4), .unset] []) := fun t kt => K2 t (st3 t kt)
  have K5 : Gx p e below s₁ f0 T3 (mkF m 20 #[.val (.ref a1), .val (.int (3 : Int32)), .val (.int (7 : Int32)), .val (.int p4), .val (.int (3 : Int32))] [(.int p4), (.int (3 : Int32)), (.ref a1)]) := fun t kt => K4 t (by
    show Steps p.tables e below (T3.setTop (mkF m 7 #[.val (.ref a1), .val (.int (3 : Int32)), .val (.int (7 : Int32)), .val (.int p4), .unset] [])) _
    refine XS.iloadN X3.here hx rfl (hb hby d3_7) rfl ?_
    show Steps p.tables e below (T3.setTop (mkF m 8 #[.val (.ref a1), .val (.int (3 : Int32)), .val (.int (7 : Int32)), .val (.int p4), .unset] [(.int (3 : Int32))])) _
    refine XS.istore X3.here hx rfl (hb hby d3_8) rfl (l' := #[.val (.ref a1), .val (.int (3 : Int32)), .val (.int (7 : Int32)), .val (.int p4), .val (.int (3 : Int32))]) rfl ?_
    show Steps p.tables e below (T3.setTop (mkF m 10 #[.val (.ref a1), .val (.int (3 : Int32)), .val (.int (7 : Int32)), .val (.int p4), .val (.int (3 : Int32))] [])) _
    refine XS.iload X3.here hx rfl (hb hby d3_10) rfl ?_
    show Steps p.tables e below (T3.setTop (mkF m 12 #[.val (.ref a1), .val (.int (3 : Int32)), .val (.int (7 : Int32)), .val (.int p4), .val (.int (3 : Int32))] [(.int (3 : Int32))])) _
    refine XS.iloadN X3.here hx rfl (hb hby d3_12) rfl ?_
    show Steps p.tables e below (T3.setTop (mkF m 13 #[.val (.ref a1), .val (.int (3 : Int32)), .val (.int (7 : Int32)), .val (.int p4), .val (.int (3 : Int32))] [(.int (7 : Int32)), (.int (3 : Int32))])) _
    refine XS.icmpNo X3.here hx rfl (hb hby d3_13) rfl (tlt (by decide)).2.1 ?_
    show Steps p.tables e below (T3.setTop (mkF m 16 #[.val (.ref a1), .val (.int (3 : Int32)), .val (.int (7 : Int32)), .val (.int p4), .val (.int (3 : Int32))] [])) _
    refine XS.aloadN X3.here hx rfl (hb hby d3_16) rfl rfl ?_
    show Steps p.tables e below (T3.setTop (mkF m 17 #[.val (.ref a1), .val (.int (3 : Int32)), .val (.int (7 : Int32)), .val (.int p4), .val (.int (3 : Int32))] [(.ref a1)])) _
    refine XS.iload X3.here hx rfl (hb hby d3_17) rfl ?_
    show Steps p.tables e below (T3.setTop (mkF m 19 #[.val (.ref a1), .val (.int (3 : Int32)), .val (.int (7 : Int32)), .val (.int p4), .val (.int (3 : Int32))] [(.int (3 : Int32)), (.ref a1)])) _
    refine XS.iloadN X3.here hx rfl (hb hby d3_19) rfl ?_
    exact kt)
  obtain ⟨T6, h6, X6', e6, W6, st6⟩ := stI X3 hx hZ e3 Arq1 (j := (3 : Int32)) (inb_of cSq1 ⟨by decide, by decide⟩) (g := (mkF m 20 #[.val (.ref a1), .val (.int (3 : Int32)), .val (.int (7 : Int32)), .val (.int p4), .val (.int (3 : Int32))] [(.int p4), (.int (3 : Int32)), (.ref a1)])) rfl rfl (hb hby d3_20)
  obtain ⟨lc6, X6, N6⟩ : ∃ lc, Stand p l e ({ frames := 1, cells := 0, slots := 0, locals := 14 } : Room) s m #[(.ref a1), (.int (3 : Int32)), (.int (7 : Int32)), (.int p4)] below meth c T6 lc 0 0 ∧ Fr n0 lc := ⟨_, X6', Fr.snoc X6' N3 pr1⟩
  have V6 : Arv Z h6 a1 k .int (8 : Int32) [(.int u0), (.int u1), (.int u2), (.int p4), (.int u4), (.int u5), (.int u6), (.int u7)] (.int (0 : Int32)) := Arv.set Arq1 ckq1 cSq1 cNq1 cHq1 cGq1 rfl W6 3 rfl (Nat.le_of_ble_eq_true rfl)
  have K7 : Gx p e below s₁ f0 T6 (mkF m 21 #[.val (.ref a1), .val (.int (3 : Int32)), .val (.int (7 : Int32)), .val (.int p4), .val (.int (3 : Int32))] []) := fun t kt => K5 t (st6 t kt)
  have K8 : Gx p e below s₁ f0 T6 (mkF m 20 #[.val (.ref a1), .val (.int (3 : Int32)), .val (.int (7 : Int32)), .val (.int p4), .val (.int (4 : Int32))] [(.int p4), (.int (4 : Int32)), (.ref a1)]) := fun t kt => K7 t (by
    show Steps p.tables e below (T6.setTop (mkF m 21 #[.val (.ref a1), .val (.int (3 : Int32)), .val (.int (7 : Int32)), .val (.int p4), .val (.int (3 : Int32))] [])) _
    refine XS.iinc X6.here hx rfl (hb hby d3_21) rfl (l' := #[.val (.ref a1), .val (.int (3 : Int32)), .val (.int (7 : Int32)), .val (.int p4), .val (.int (4 : Int32))]) rfl ?_
    show Steps p.tables e below (T6.setTop (mkF m 24 #[.val (.ref a1), .val (.int (3 : Int32)), .val (.int (7 : Int32)), .val (.int p4), .val (.int (4 : Int32))] [])) _
    refine XS.goto X6.here hx rfl (pc0 := 24) (pc' := 10) rfl (hb hby d3_24) (by decide) (by decide) ?_
    show Steps p.tables e below (T6.setTop (mkF m 10 #[.val (.ref a1), .val (.int (3 : Int32)), .val (.int (7 : Int32)), .val (.int p4), .val (.int (4 : Int32))] [])) _
    refine XS.iload X6.here hx rfl (hb hby d3_10) rfl ?_
    show Steps p.tables e below (T6.setTop (mkF m 12 #[.val (.ref a1), .val (.int (3 : Int32)), .val (.int (7 : Int32)), .val (.int p4), .val (.int (4 : Int32))] [(.int (4 : Int32))])) _
    refine XS.iloadN X6.here hx rfl (hb hby d3_12) rfl ?_
    show Steps p.tables e below (T6.setTop (mkF m 13 #[.val (.ref a1), .val (.int (3 : Int32)), .val (.int (7 : Int32)), .val (.int p4), .val (.int (4 : Int32))] [(.int (7 : Int32)), (.int (4 : Int32))])) _
    refine XS.icmpNo X6.here hx rfl (hb hby d3_13) rfl (tlt (by decide)).2.1 ?_
    show Steps p.tables e below (T6.setTop (mkF m 16 #[.val (.ref a1), .val (.int (3 : Int32)), .val (.int (7 : Int32)), .val (.int p4), .val (.int (4 : Int32))] [])) _
    refine XS.aloadN X6.here hx rfl (hb hby d3_16) rfl rfl ?_
    show Steps p.tables e below (T6.setTop (mkF m 17 #[.val (.ref a1), .val (.int (3 : Int32)), .val (.int (7 : Int32)), .val (.int p4), .val (.int (4 : Int32))] [(.ref a1)])) _
    refine XS.iload X6.here hx rfl (hb hby d3_17) rfl ?_
    show Steps p.tables e below (T6.setTop (mkF m 19 #[.val (.ref a1), .val (.int (3 : Int32)), .val (.int (7 : Int32)), .val (.int p4), .val (.int (4 : Int32))] [(.int (4 : Int32)), (.ref a1)])) _
    refine XS.iloadN X6.here hx rfl (hb hby d3_19) rfl ?_
    exact kt)
  obtain ⟨clq9, Arq9, ckq9, cSq9, cNq9, cHq9, cGq9⟩ := id V6
  obtain ⟨T10, h10, X10', e10, W10, st10⟩ := stI X6 hx hZ e6 Arq9 (j := (4 : Int32)) (inb_of cSq9 ⟨by decide, by decide⟩) (g := (mkF m 20 #[.val (.ref a1), .val (.int (3 : Int32)), .val (.int (7 : Int32)), .val (.int p4), .val (.int (4 : Int32))] [(.int p4), (.int (4 : Int32)), (.ref a1)])) rfl rfl (hb hby d3_20)
  obtain ⟨lc10, X10, N10⟩ : ∃ lc, Stand p l e ({ frames := 1, cells := 0, slots := 0, locals := 14 } : Room) s m #[(.ref a1), (.int (3 : Int32)), (.int (7 : Int32)), (.int p4)] below meth c T10 lc 0 0 ∧ Fr n0 lc := ⟨_, X10', Fr.snoc X10' N6 pr1⟩
  have V10 : Arv Z h10 a1 k .int (8 : Int32) [(.int u0), (.int u1), (.int u2), (.int p4), (.int p4), (.int u5), (.int u6), (.int u7)] (.int (0 : Int32)) := Arv.set Arq9 ckq9 cSq9 cNq9 cHq9 cGq9 rfl W10 4 rfl (Nat.le_of_ble_eq_true rfl)
  have K11 : Gx p e below s₁ f0 T10 (mkF m 21 #[.val (.ref a1), .val (.int (3 : Int32)), .val (.int (7 : Int32)), .val (.int p4), .val (.int (4 : Int32))] []) := fun t kt => K8 t (st10 t kt)
  have K12 : Gx p e below s₁ f0 T10 (mkF m 20 #[.val (.ref a1), .val (.int (3 : Int32)), .val (.int (7 : Int32)), .val (.int p4), .val (.int (5 : Int32))] [(.int p4), (.int (5 : Int32)), (.ref a1)]) := fun t kt => K11 t (by
    show Steps p.tables e below (T10.setTop (mkF m 21 #[.val (.ref a1), .val (.int (3 : Int32)), .val (.int (7 : Int32)), .val (.int p4), .val (.int (4 : Int32))] [])) _
    refine XS.iinc X10.here hx rfl (hb hby d3_21) rfl (l' := #[.val (.ref a1), .val (.int (3 : Int32)), .val (.int (7 : Int32)), .val (.int p4), .val (.int (5 : Int32))]) rfl ?_
    show Steps p.tables e below (T10.setTop (mkF m 24 #[.val (.ref a1), .val (.int (3 : Int32)), .val (.int (7 : Int32)), .val (.int p4), .val (.int (5 : Int32))] [])) _
    refine XS.goto X10.here hx rfl (pc0 := 24) (pc' := 10) rfl (hb hby d3_24) (by decide) (by decide) ?_
    show Steps p.tables e below (T10.setTop (mkF m 10 #[.val (.ref a1), .val (.int (3 : Int32)), .val (.int (7 : Int32)), .val (.int p4), .val (.int (5 : Int32))] [])) _
    refine XS.iload X10.here hx rfl (hb hby d3_10) rfl ?_
    show Steps p.tables e below (T10.setTop (mkF m 12 #[.val (.ref a1), .val (.int (3 : Int32)), .val (.int (7 : Int32)), .val (.int p4), .val (.int (5 : Int32))] [(.int (5 : Int32))])) _
    refine XS.iloadN X10.here hx rfl (hb hby d3_12) rfl ?_
    show Steps p.tables e below (T10.setTop (mkF m 13 #[.val (.ref a1), .val (.int (3 : Int32)), .val (.int (7 : Int32)), .val (.int p4), .val (.int (5 : Int32))] [(.int (7 : Int32)), (.int (5 : Int32))])) _
    refine XS.icmpNo X10.here hx rfl (hb hby d3_13) rfl (tlt (by decide)).2.1 ?_
    show Steps p.tables e below (T10.setTop (mkF m 16 #[.val (.ref a1), .val (.int (3 : Int32)), .val (.int (7 : Int32)), .val (.int p4), .val (.int (5 : Int32))] [])) _
    refine XS.aloadN X10.here hx rfl (hb hby d3_16) rfl rfl ?_
    show Steps p.tables e below (T10.setTop (mkF m 17 #[.val (.ref a1), .val (.int (3 : Int32)), .val (.int (7 : Int32)), .val (.int p4), .val (.int (5 : Int32))] [(.ref a1)])) _
    refine XS.iload X10.here hx rfl (hb hby d3_17) rfl ?_
    show Steps p.tables e below (T10.setTop (mkF m 19 #[.val (.ref a1), .val (.int (3 : Int32)), .val (.int (7 : Int32)), .val (.int p4), .val (.int (5 : Int32))] [(.int (5 : Int32)), (.ref a1)])) _
    refine XS.iloadN X10.here hx rfl (hb hby d3_19) rfl ?_
    exact kt)
  obtain ⟨clq13, Arq13, ckq13, cSq13, cNq13, cHq13, cGq13⟩ := id V10
  obtain ⟨T14, h14, X14', e14, W14, st14⟩ := stI X10 hx hZ e10 Arq13 (j := (5 : Int32)) (inb_of cSq13 ⟨by decide, by decide⟩) (g := (mkF m 20 #[.val (.ref a1), .val (.int (3 : Int32)), .val (.int (7 : Int32)), .val (.int p4), .val (.int (5 : Int32))] [(.int p4), (.int (5 : Int32)), (.ref a1)])) rfl rfl (hb hby d3_20)
  obtain ⟨lc14, X14, N14⟩ : ∃ lc, Stand p l e ({ frames := 1, cells := 0, slots := 0, locals := 14 } : Room) s m #[(.ref a1), (.int (3 : Int32)), (.int (7 : Int32)), (.int p4)] below meth c T14 lc 0 0 ∧ Fr n0 lc := ⟨_, X14', Fr.snoc X14' N10 pr1⟩
  have V14 : Arv Z h14 a1 k .int (8 : Int32) [(.int u0), (.int u1), (.int u2), (.int p4), (.int p4), (.int p4), (.int u6), (.int u7)] (.int (0 : Int32)) := Arv.set Arq13 ckq13 cSq13 cNq13 cHq13 cGq13 rfl W14 5 rfl (Nat.le_of_ble_eq_true rfl)
  have K15 : Gx p e below s₁ f0 T14 (mkF m 21 #[.val (.ref a1), .val (.int (3 : Int32)), .val (.int (7 : Int32)), .val (.int p4), .val (.int (5 : Int32))] []) := fun t kt => K12 t (st14 t kt)
  have K16 : Gx p e below s₁ f0 T14 (mkF m 20 #[.val (.ref a1), .val (.int (3 : Int32)), .val (.int (7 : Int32)), .val (.int p4), .val (.int (6 : Int32))] [(.int p4), (.int (6 : Int32)), (.ref a1)]) := fun t kt => K15 t (by
    show Steps p.tables e below (T14.setTop (mkF m 21 #[.val (.ref a1), .val (.int (3 : Int32)), .val (.int (7 : Int32)), .val (.int p4), .val (.int (5 : Int32))] [])) _
    refine XS.iinc X14.here hx rfl (hb hby d3_21) rfl (l' := #[.val (.ref a1), .val (.int (3 : Int32)), .val (.int (7 : Int32)), .val (.int p4), .val (.int (6 : Int32))]) rfl ?_
    show Steps p.tables e below (T14.setTop (mkF m 24 #[.val (.ref a1), .val (.int (3 : Int32)), .val (.int (7 : Int32)), .val (.int p4), .val (.int (6 : Int32))] [])) _
    refine XS.goto X14.here hx rfl (pc0 := 24) (pc' := 10) rfl (hb hby d3_24) (by decide) (by decide) ?_
    show Steps p.tables e below (T14.setTop (mkF m 10 #[.val (.ref a1), .val (.int (3 : Int32)), .val (.int (7 : Int32)), .val (.int p4), .val (.int (6 : Int32))] [])) _
    refine XS.iload X14.here hx rfl (hb hby d3_10) rfl ?_
    show Steps p.tables e below (T14.setTop (mkF m 12 #[.val (.ref a1), .val (.int (3 : Int32)), .val (.int (7 : Int32)), .val (.int p4), .val (.int (6 : Int32))] [(.int (6 : Int32))])) _
    refine XS.iloadN X14.here hx rfl (hb hby d3_12) rfl ?_
    show Steps p.tables e below (T14.setTop (mkF m 13 #[.val (.ref a1), .val (.int (3 : Int32)), .val (.int (7 : Int32)), .val (.int p4), .val (.int (6 : Int32))] [(.int (7 : Int32)), (.int (6 : Int32))])) _
    refine XS.icmpNo X14.here hx rfl (hb hby d3_13) rfl (tlt (by decide)).2.1 ?_
    show Steps p.tables e below (T14.setTop (mkF m 16 #[.val (.ref a1), .val (.int (3 : Int32)), .val (.int (7 : Int32)), .val (.int p4), .val (.int (6 : Int32))] [])) _
    refine XS.aloadN X14.here hx rfl (hb hby d3_16) rfl rfl ?_
    show Steps p.tables e below (T14.setTop (mkF m 17 #[.val (.ref a1), .val (.int (3 : Int32)), .val (.int (7 : Int32)), .val (.int p4), .val (.int (6 : Int32))] [(.ref a1)])) _
    refine XS.iload X14.here hx rfl (hb hby d3_17) rfl ?_
    show Steps p.tables e below (T14.setTop (mkF m 19 #[.val (.ref a1), .val (.int (3 : Int32)), .val (.int (7 : Int32)), .val (.int p4), .val (.int (6 : Int32))] [(.int (6 : Int32)), (.ref a1)])) _
    refine XS.iloadN X14.here hx rfl (hb hby d3_19) rfl ?_
    exact kt)
  obtain ⟨clq17, Arq17, ckq17, cSq17, cNq17, cHq17, cGq17⟩ := id V14
  obtain ⟨T18, h18, X18', e18, W18, st18⟩ := stI X14 hx hZ e14 Arq17 (j := (6 : Int32)) (inb_of cSq17 ⟨by decide, by decide⟩) (g := (mkF m 20 #[.val (.ref a1), .val (.int (3 : Int32)), .val (.int (7 : Int32)), .val (.int p4), .val (.int (6 : Int32))] [(.int p4), (.int (6 : Int32)), (.ref a1)])) rfl rfl (hb hby d3_20)
  obtain ⟨lc18, X18, N18⟩ : ∃ lc, Stand p l e ({ frames := 1, cells := 0, slots := 0, locals := 14 } : Room) s m #[(.ref a1), (.int (3 : Int32)), (.int (7 : Int32)), (.int p4)] below meth c T18 lc 0 0 ∧ Fr n0 lc := ⟨_, X18', Fr.snoc X18' N14 pr1⟩
  have V18 : Arv Z h18 a1 k .int (8 : Int32) [(.int u0), (.int u1), (.int u2), (.int p4), (.int p4), (.int p4), (.int p4), (.int u7)] (.int (0 : Int32)) := Arv.set Arq17 ckq17 cSq17 cNq17 cHq17 cGq17 rfl W18 6 rfl (Nat.le_of_ble_eq_true rfl)
  have K19 : Gx p e below s₁ f0 T18 (mkF m 21 #[.val (.ref a1), .val (.int (3 : Int32)), .val (.int (7 : Int32)), .val (.int p4), .val (.int (6 : Int32))] []) := fun t kt => K16 t (st18 t kt)
  have K20 : Gx p e below s₁ f0 T18 (mkF m 27 #[.val (.ref a1), .val (.int (3 : Int32)), .val (.int (7 : Int32)), .val (.int p4), .val (.int (7 : Int32))] []) := fun t kt => K19 t (by
    show Steps p.tables e below (T18.setTop (mkF m 21 #[.val (.ref a1), .val (.int (3 : Int32)), .val (.int (7 : Int32)), .val (.int p4), .val (.int (6 : Int32))] [])) _
    refine XS.iinc X18.here hx rfl (hb hby d3_21) rfl (l' := #[.val (.ref a1), .val (.int (3 : Int32)), .val (.int (7 : Int32)), .val (.int p4), .val (.int (7 : Int32))]) rfl ?_
    show Steps p.tables e below (T18.setTop (mkF m 24 #[.val (.ref a1), .val (.int (3 : Int32)), .val (.int (7 : Int32)), .val (.int p4), .val (.int (7 : Int32))] [])) _
    refine XS.goto X18.here hx rfl (pc0 := 24) (pc' := 10) rfl (hb hby d3_24) (by decide) (by decide) ?_
    show Steps p.tables e below (T18.setTop (mkF m 10 #[.val (.ref a1), .val (.int (3 : Int32)), .val (.int (7 : Int32)), .val (.int p4), .val (.int (7 : Int32))] [])) _
    refine XS.iload X18.here hx rfl (hb hby d3_10) rfl ?_
    show Steps p.tables e below (T18.setTop (mkF m 12 #[.val (.ref a1), .val (.int (3 : Int32)), .val (.int (7 : Int32)), .val (.int p4), .val (.int (7 : Int32))] [(.int (7 : Int32))])) _
    refine XS.iloadN X18.here hx rfl (hb hby d3_12) rfl ?_
    show Steps p.tables e below (T18.setTop (mkF m 13 #[.val (.ref a1), .val (.int (3 : Int32)), .val (.int (7 : Int32)), .val (.int p4), .val (.int (7 : Int32))] [(.int (7 : Int32)), (.int (7 : Int32))])) _
    refine XS.icmpYes X18.here hx rfl (pc0 := 13) (pc' := 27) rfl (hb hby d3_13) rfl (flt (by decide)).2.1 (by decide) (by decide) ?_
    exact kt)
  have kp22 : Keep h0 h18 [a1] := (((((Keep.refl h0 [a1]).wr W6 (Or.inl (List.mem_of_getElem? (i := 0) rfl))).wr W10 (Or.inl (List.mem_of_getElem? (i := 0) rfl))).wr W14 (Or.inl (List.mem_of_getElem? (i := 0) rfl))).wr W18 (Or.inl (List.mem_of_getElem? (i := 0) rfl)))
  obtain ⟨fs21, hr21, hrun21, hended21, hW21, hsame21⟩ := X18.leave (v := none) (fun _ => rfl)
  refine ⟨_, _, pre0 _ (K20 _ ?_), hrun21, hended21, _, _, rfl, ?_, ⟨_, rfl⟩, hW21, hsame21.mono (by decide) (by decide)⟩
  · exact X18.returnOut hx Bd.returns (hb hby d3_27) hr21
  · show QFill3 Z a1 p4 k u0 u1 u2 u3 u4 u5 u6 u7 h0 n0 _ T18.heap _
    rw [e18]
    exact ⟨rfl, N18, kp22, V18⟩
theorem ef_Ini3 (m : MethodId) (a1 : Addr) (a2 : Addr) : entryFrame m #[(.ref a1), (.ref a2), (.int (3 : Int32)), (.int (4 : Int32))] 4 = mkF m 0 #[.val (.ref a1), .val (.ref a2), .val (.int (3 : Int32)), .val (.int (4 : Int32))] [] := by first | (simp [entryFrame, mkF, argsToLocals, Value.category]; done) | rfl
def QIni3 (Z : State) (a1 : Addr) (a2 : Addr) (k : ClassId) (u0 : Int32) (u1 : Int32) (u2 : Int32) (u3 : Int32) (u4 : Int32) (u5 : Int32) (u6 : Int32) (u7 : Int32) (h0 : Heap) (n0 : Nat) (v : Option Value) (h : Heap) (L : List Loc) : Prop := v = none ∧ Fr n0 L ∧ Keep h0 h [a1, a2] ∧ Exa Z h a1 "lastcolumn/stage/Probabilities" ∧ Fld Z h a1 "lastcolumn/stage/Probabilities" "states" "[I" (.ref a2) ∧ Fld Z h a1 "lastcolumn/stage/Probabilities" "at" "I" (.int (3 : Int32)) ∧ Arv Z h a2 k .int (8 : Int32) [(.int u0), (.int u1), (.int u2), (.int (-2147483648 : Int32)), (.int (-2147483648 : Int32)), (.int (-2147483648 : Int32)), (.int (-2147483648 : Int32)), (.int u7)] (.int (0 : Int32))
set_option maxRecDepth 65536 in
set_option maxHeartbeats 40000000 in
theorem rmIni3 (l : Launch) (Z : State) (a0 : Array Value) (hw : ∀ d ∈ tables_1, d.before a0 Z = true) (ws : List Jvm.Cond) (a1 : Addr) (a2 : Addr) (k : ClassId) (u0 : Int32) (u1 : Int32) (u2 : Int32) (u3 : Int32) (u4 : Int32) (u5 : Int32) (u6 : Int32) (u7 : Int32) (h0 : Heap) (n0 : Nat) (Z0 : n0 ≤ h0.size) (pr0 : Exa Z h0 a1 "lastcolumn/stage/Probabilities") (pr1 : n0 ≤ a1) (pr2 : n0 ≤ a2) (pr3 : Fld Z h0 a1 "lastcolumn/stage/Probabilities" "states" "[I" .null) (pr4 : Fld Z h0 a1 "lastcolumn/stage/Probabilities" "at" "I" (.int (0 : Int32))) (pr5 : Arv Z h0 a2 k .int (8 : Int32) [(.int u0), (.int u1), (.int u2), (.int u3), (.int u4), (.int u5), (.int u6), (.int u7)] (.int (0 : Int32))) (pr6 : a1 ≠ a2) :
    MetFree l (⟨"lastcolumn/stage/Probabilities", "<init>", "([III)V"⟩ : MethodName) (head1 (Jvm.Cond.code (⟨"lastcolumn/stage/Probabilities", "<init>", "([III)V"⟩ : MethodName) prog_31_method_1_code 4 none :: ws) ({ frames := 2, cells := 0, slots := 0, locals := 30 } : Room)) (fun a U => a = #[(.ref a1), (.ref a2), (.int (3 : Int32)), (.int (4 : Int32))] ∧ Z.Warmed39 U.vm ∧ U.heap = h0) (fun _ _ _ _ _ => True) (fun _ U o U' => ∃ v L, o = .returned v ∧ QIni3 Z a1 a2 k u0 u1 u2 u3 u4 u5 u6 u7 h0 n0 v U'.heap L ∧ FrameEnd U o U' L ({ frames := 2, cells := 0, slots := 0, locals := 30 } : Room).cells ({ frames := 2, cells := 0, slots := 0, locals := 30 } : Room).slots) := by
  refine MetFree.of_bodySF (plainFor_of_name pn_1) hisR ?_
  intro p e s m args below meth c s₁ Bd hml0 hP hK
  obtain ⟨rfl, hZ, hh⟩ := hP
  have hx := Bd.exec
  have hby := Bd.bytes
  have hml : c.maxLocals = 4 := hml0
  have hown : s.vm.findClass "lastcolumn/stage/Probabilities" = some m.cls := findClass_of_methodNamed Bd.named
  have hnm := (name_of_methodNamed Bd.named Bd.method).1
  have X0 : Stand p l e ({ frames := 2, cells := 0, slots := 0, locals := 30 } : Room) s m #[(.ref a1), (.ref a2), (.int (3 : Int32)), (.int (4 : Int32))] below meth c s₁ [] 0 0 := Stand.of_body Bd
  have hs0 : h0 = s.heap := hh.symm
  have e0 : s₁.heap = h0 := by rw [← hh, Bd.state]; rfl
  have N0 := Fr.nil n0
  obtain ⟨f0, hf0⟩ : ∃ f, f = entryFrame m #[(.ref a1), (.ref a2), (.int (3 : Int32)), (.int (4 : Int32))] 4 := ⟨_, rfl⟩
  have pre0 : ∀ t, Steps p.tables e below (s₁.setTop f0) t → Steps p.tables e below (s₁.setTop (entryFrame m #[(.ref a1), (.ref a2), (.int (3 : Int32)), (.int (4 : Int32))] 4)) t := fun t k => hf0 ▸ k
  have K0 : Gx p e below s₁ f0 s₁ (mkF m 0 #[.val (.ref a1), .val (.ref a2), .val (.int (3 : Int32)), .val (.int (4 : Int32))] []) := fun t kt => by rw [hf0]; exact castTop (ef_Ini3 m a1 a2) kt
  have K1 : Gx p e below s₁ f0 s₁ (mkF m 1 #[.val (.ref a1), .val (.ref a2), .val (.int (3 : Int32)), .val (.int (4 : Int32))] [(.ref a1)]) := fun t kt => K0 t (by
    show Steps p.tables e below (s₁.setTop (mkF m 0 #[.val (.ref a1), .val (.ref a2), .val (.int (3 : Int32)), .val (.int (4 : Int32))] [])) _
    refine XS.aloadN X0.here hx rfl (hb hby d1_0) rfl rfl ?_
    exact kt)
  obtain ⟨T2, X2, e2, st2⟩ := initO X0 hx hZ hown (hw _ (List.mem_of_getElem? (i := 7) rfl)) (hw _ (List.mem_of_getElem? (i := 8) rfl)) (hw _ (List.mem_of_getElem? (i := 9) rfl)) e0 (g := (mkF m 1 #[.val (.ref a1), .val (.ref a2), .val (.int (3 : Int32)), .val (.int (4 : Int32))] [(.ref a1)])) rfl (by rw [hml]; rfl) rfl (hb hby d1_1) (by decide) (W := 0) (by show 2 * 0 + _ ≤ _; exact Nat.le_of_eq rfl) (by decide)
  have K3 : Gx p e below s₁ f0 T2 (mkF m 4 #[.val (.ref a1), .val (.ref a2), .val (.int (3 : Int32)), .val (.int (4 : Int32))] []) := fun t kt => K1 t (st2 t kt)
  have K4 : Gx p e below s₁ f0 T2 (mkF m 6 #[.val (.ref a1), .val (.ref a2), .val (.int (3 : Int32)), .val (.int (4 : Int32))] [(.ref a2), (.ref a1)]) := fun t kt => K3 t (by
    show Steps p.tables e below (T2.setTop (mkF m 4 #[.val (.ref a1), .val (.ref a2), .val (.int (3 : Int32)), .val (.int (4 : Int32))] [])) _
    refine XS.aloadN X2.here hx rfl (hb hby d1_4) rfl rfl ?_
    show Steps p.tables e below (T2.setTop (mkF m 5 #[.val (.ref a1), .val (.ref a2), .val (.int (3 : Int32)), .val (.int (4 : Int32))] [(.ref a1)])) _
    refine XS.aloadN X2.here hx rfl (hb hby d1_5) rfl rfl ?_
    exact kt)
  obtain ⟨T5, h5, X5', e5, W5, st5⟩ := putF X2 hx hZ hown (host := "") (Or.inl (hw _ (List.mem_of_getElem? (i := 10) rfl))) Via.refl e2 pr3 pr0 (Or.inr ⟨(hw _ (List.mem_of_getElem? (i := 11) rfl)), rfl, hnm⟩) (hw _ (List.mem_of_getElem? (i := 2) rfl)) (ty := (.array .int)) (by decide) rfl rfl (g := (mkF m 6 #[.val (.ref a1), .val (.ref a2), .val (.int (3 : Int32)), .val (.int (4 : Int32))] [(.ref a2), (.ref a1)])) rfl rfl (hb hby d1_6)
  obtain ⟨lc5, X5, N5⟩ : ∃ lc, Stand p l e ({ frames := 2, cells := 0, slots := 0, locals := 30 } : Room) s m #[(.ref a1), (.ref a2), (.int (3 : Int32)), (.int (4 : Int32))] below meth c T5 lc 0 0 ∧ Fr n0 lc := ⟨_, X5', Fr.snoc X5' N0 pr1⟩
  have f5_ : Fld Z h5 a1 "lastcolumn/stage/Probabilities" "states" "[I" (.ref a2) := pr3.same W5
  have K6 : Gx p e below s₁ f0 T5 (mkF m 9 #[.val (.ref a1), .val (.ref a2), .val (.int (3 : Int32)), .val (.int (4 : Int32))] []) := fun t kt => K4 t (st5 t kt)
  have K7 : Gx p e below s₁ f0 T5 (mkF m 11 #[.val (.ref a1), .val (.ref a2), .val (.int (3 : Int32)), .val (.int (4 : Int32))] [(.int (3 : Int32)), (.ref a1)]) := fun t kt => K6 t (by
    show Steps p.tables e below (T5.setTop (mkF m 9 #[.val (.ref a1), .val (.ref a2), .val (.int (3 : Int32)), .val (.int (4 : Int32))] [])) _
    refine XS.aloadN X5.here hx rfl (hb hby d1_9) rfl rfl ?_
    show Steps p.tables e below (T5.setTop (mkF m 10 #[.val (.ref a1), .val (.ref a2), .val (.int (3 : Int32)), .val (.int (4 : Int32))] [(.ref a1)])) _
    refine XS.iloadN X5.here hx rfl (hb hby d1_10) rfl ?_
    exact kt)
  have f8 : Fld Z h5 a1 "lastcolumn/stage/Probabilities" "at" "I" (.int (0 : Int32)) := (pr4.other W5 (Or.inr (slot_ne (Or.inr (hw _ (List.mem_of_getElem? (i := 13) rfl))) (Or.inr (hw _ (List.mem_of_getElem? (i := 11) rfl))) (by decide) (t := .int) (t' := (.array .int)) (by decide) (by decide))))
  have f9 : Exa Z h5 a1 "lastcolumn/stage/Probabilities" := (pr0.wr W5)
  obtain ⟨T10, h10, X10', e10, W10, st10⟩ := putF X5 hx hZ hown (host := "") (Or.inl (hw _ (List.mem_of_getElem? (i := 12) rfl))) Via.refl e5 f8 f9 (Or.inr ⟨(hw _ (List.mem_of_getElem? (i := 13) rfl)), rfl, hnm⟩) (hw _ (List.mem_of_getElem? (i := 2) rfl)) (ty := .int) (by decide) rfl rfl (g := (mkF m 11 #[.val (.ref a1), .val (.ref a2), .val (.int (3 : Int32)), .val (.int (4 : Int32))] [(.int (3 : Int32)), (.ref a1)])) rfl rfl (hb hby d1_11)
  obtain ⟨lc10, X10, N10⟩ : ∃ lc, Stand p l e ({ frames := 2, cells := 0, slots := 0, locals := 30 } : Room) s m #[(.ref a1), (.ref a2), (.int (3 : Int32)), (.int (4 : Int32))] below meth c T10 lc 0 0 ∧ Fr n0 lc := ⟨_, X10', Fr.snoc X10' N5 pr1⟩
  have f10_ : Fld Z h10 a1 "lastcolumn/stage/Probabilities" "at" "I" (.int (3 : Int32)) := f8.same W10
  have K11 : Gx p e below s₁ f0 T10 (mkF m 14 #[.val (.ref a1), .val (.ref a2), .val (.int (3 : Int32)), .val (.int (4 : Int32))] []) := fun t kt => K7 t (st10 t kt)
  have K12 : Gx p e below s₁ f0 T10 (mkF m 21 #[.val (.ref a1), .val (.ref a2), .val (.int (3 : Int32)), .val (.int (4 : Int32))] [(.int (-2147483648 : Int32)), (.int (7 : Int32)), (.int (3 : Int32)), (.ref a2)]) := fun t kt => K11 t (by
    show Steps p.tables e below (T10.setTop (mkF m 14 #[.val (.ref a1), .val (.ref a2), .val (.int (3 : Int32)), .val (.int (4 : Int32))] [])) _
    refine XS.aloadN X10.here hx rfl (hb hby d1_14) rfl rfl ?_
    show Steps p.tables e below (T10.setTop (mkF m 15 #[.val (.ref a1), .val (.ref a2), .val (.int (3 : Int32)), .val (.int (4 : Int32))] [(.ref a2)])) _
    refine XS.iloadN X10.here hx rfl (hb hby d1_15) rfl ?_
    show Steps p.tables e below (T10.setTop (mkF m 16 #[.val (.ref a1), .val (.ref a2), .val (.int (3 : Int32)), .val (.int (4 : Int32))] [(.int (3 : Int32)), (.ref a2)])) _
    refine XS.iloadN X10.here hx rfl (hb hby d1_16) rfl ?_
    show Steps p.tables e below (T10.setTop (mkF m 17 #[.val (.ref a1), .val (.ref a2), .val (.int (3 : Int32)), .val (.int (4 : Int32))] [(.int (3 : Int32)), (.int (3 : Int32)), (.ref a2)])) _
    refine XS.iloadN X10.here hx rfl (hb hby d1_17) rfl ?_
    show Steps p.tables e below (T10.setTop (mkF m 18 #[.val (.ref a1), .val (.ref a2), .val (.int (3 : Int32)), .val (.int (4 : Int32))] [(.int (4 : Int32)), (.int (3 : Int32)), (.int (3 : Int32)), (.ref a2)])) _
    refine XS.iadd X10.here hx rfl (hb hby d1_18) rfl ?_
    show Steps p.tables e below (T10.setTop (mkF m 19 #[.val (.ref a1), .val (.ref a2), .val (.int (3 : Int32)), .val (.int (4 : Int32))] [(.int (7 : Int32)), (.int (3 : Int32)), (.ref a2)])) _
    refine X10.ldcInt hx hown (mvT hZ (hw _ (List.mem_of_getElem? (i := 14) rfl))) (g := (mkF m 19 #[.val (.ref a1), .val (.ref a2), .val (.int (3 : Int32)), .val (.int (4 : Int32))] [(.int (7 : Int32)), (.int (3 : Int32)), (.ref a2)])) rfl (hb hby d1_19) _ ?_
    exact kt)
  have f13 : Arv Z h10 a2 k .int (8 : Int32) [(.int u0), (.int u1), (.int u2), (.int u3), (.int u4), (.int u5), (.int u6), (.int u7)] (.int (0 : Int32)) := ((pr5.other W5 (Ne.symm pr6)).other W10 (Ne.symm pr6))
  have kp14 : Keep h0 h10 [a1, a2] := (((Keep.refl h0 [a1, a2]).wr W5 (Or.inl (List.mem_of_getElem? (i := 0) rfl))).wr W10 (Or.inl (List.mem_of_getElem? (i := 0) rfl)))
  obtain ⟨_, _, ⟨T15, L15, k15, n15⟩, -, X15', ⟨Lc15, hQ15, l15, y15, z15⟩, st15⟩ := Jvm.LawKit.callS X10 hx (y := (⟨"java/util/Arrays", "fill", "([IIII)V"⟩ : MethodName)) hown (mvT hZ (hw _ (List.mem_of_getElem? (i := 15) rfl))) (mvT hZ (hw _ (List.mem_of_getElem? (i := 16) rfl))) (mvT hZ (hw _ (List.mem_of_getElem? (i := 17) rfl))) (mvT hZ (hw _ (List.mem_of_getElem? (i := 18) rfl))) (by decide) (backOf (W := 0) (rmFill3 l Z a0 hw [] a2 (-2147483648 : Int32) k u0 u1 u2 u3 u4 u5 u6 u7 h10 n0 (Nat.le_trans Z0 kp14.1) f13 pr2) hZ (hw _ (List.mem_of_getElem? (i := 18) rfl)) (hw _ (List.mem_of_getElem? (i := 17) rfl)) (by decide) (by decide)) (g := (mkF m 21 #[.val (.ref a1), .val (.ref a2), .val (.int (3 : Int32)), .val (.int (4 : Int32))] [(.int (-2147483648 : Int32)), (.int (7 : Int32)), (.int (3 : Int32)), (.ref a2)])) rfl (by rw [hml]; rfl) (argsL := [(.ref a2), (.int (3 : Int32)), (.int (7 : Int32)), (.int (-2147483648 : Int32))]) (rest := []) (lenOf pd___IIII_V rfl) rfl (by show 2 * 0 + _ ≤ _; exact Nat.le_of_eq rfl) (hb hby d1_21) (fun _ _ => ⟨rfl, e10, (by decide : 0 + 0 ≤ _), (by decide : 0 + 0 ≤ _)⟩)
  dsimp only [Pt.U, Pt.locs, Pt.cells, Pt.slots] at X15' l15 y15 z15 st15 hQ15
  subst l15 y15 z15
  obtain ⟨h15, e15⟩ : ∃ z, T15.heap = z := ⟨_, rfl⟩
  rw [e15] at hQ15
  obtain ⟨rfl, N15q, Kc15, f16⟩ := hQ15
  obtain ⟨lc15, X15, N15⟩ : ∃ lc, Stand p l e ({ frames := 2, cells := 0, slots := 0, locals := 30 } : Room) s m #[(.ref a1), (.ref a2), (.int (3 : Int32)), (.int (4 : Int32))] below meth c T15 lc 0 0 ∧ Fr n0 lc := ⟨_, X15', Fr.app N10 N15q⟩
  have K17 : Gx p e below s₁ f0 T15 (mkF m 24 #[.val (.ref a1), .val (.ref a2), .val (.int (3 : Int32)), .val (.int (4 : Int32))] []) := fun t kt => K12 t (st15 t kt)
  have kp19 : Keep h0 h15 [a1, a2] := (Keep.trans kp14 Kc15 (allS (Or.inl (List.mem_of_getElem? (i := 1) rfl)) all0))
  have f20 : Exa Z h15 a1 "lastcolumn/stage/Probabilities" := ((f9.wr W10).keep Kc15)
  have f21 : Fld Z h15 a1 "lastcolumn/stage/Probabilities" "states" "[I" (.ref a2) := ((f5_.other W10 (Or.inr (slot_ne (Or.inr (hw _ (List.mem_of_getElem? (i := 11) rfl))) (Or.inr (hw _ (List.mem_of_getElem? (i := 13) rfl))) (by decide) (t := (.array .int)) (t' := .int) (by decide) (by decide)))).keep Kc15 (ninS pr6 nin0))
  have f22 : Fld Z h15 a1 "lastcolumn/stage/Probabilities" "at" "I" (.int (3 : Int32)) := (f10_.keep Kc15 (ninS pr6 nin0))
  obtain ⟨fs18, hr18, hrun18, hended18, hW18, hsame18⟩ := X15.leave (v := none) (fun _ => rfl)
  refine ⟨_, _, pre0 _ (K17 _ ?_), hrun18, hended18, _, _, rfl, ?_, ⟨_, rfl⟩, hW18, hsame18.mono (by decide) (by decide)⟩
  · exact X15.returnOut hx Bd.returns (hb hby d1_24) hr18
  · show QIni3 Z a1 a2 k u0 u1 u2 u3 u4 u5 u6 u7 h0 n0 _ T15.heap _
    rw [e15]
    exact ⟨rfl, N15, kp19, f20, f21, f22, f16⟩
theorem d5_0 : decode prog_31_method_2_code 0 = .ok (.aload_n 0, 1) := by decide +kernel
theorem d5_1 : decode prog_31_method_2_code 1 = .ok (.getfield 11, 3) := by decide +kernel
theorem d5_4 : decode prog_31_method_2_code 4 = .ok (.aload_n 0, 1) := by decide +kernel
theorem d5_5 : decode prog_31_method_2_code 5 = .ok (.getfield 15, 3) := by decide +kernel
theorem d5_8 : decode prog_31_method_2_code 8 = .ok (.iload_n 1, 1) := by decide +kernel
theorem d5_9 : decode prog_31_method_2_code 9 = .ok (.iadd, 1) := by decide +kernel
theorem d5_10 : decode prog_31_method_2_code 10 = .ok (.iaload, 1) := by decide +kernel
theorem d5_11 : decode prog_31_method_2_code 11 = .ok (.bipush 16, 2) := by decide +kernel
theorem d5_13 : decode prog_31_method_2_code 13 = .ok (.iushr, 1) := by decide +kernel
theorem d5_14 : decode prog_31_method_2_code 14 = .ok (.ireturn, 1) := by decide +kernel
theorem pn_5 : plainName "lastcolumn/stage/Probabilities" = true := by first | (simp [plainName, overriddenIn]; done) | decide +kernel
theorem ef_Of1 (m : MethodId) (a1 : Addr) (p1 : Int32) : entryFrame m #[(.ref a1), (.int p1)] 2 = mkF m 0 #[.val (.ref a1), .val (.int p1)] [] := by first | (simp [entryFrame, mkF, argsToLocals, Value.category]; done) | rfl
def QOf1 (Z : State) (a1 : Addr) (p1 : Int32) (a2 : Addr) (w : Int32) (k : ClassId) (vs : List Value) (x : Int32) (h0 : Heap) (n0 : Nat) (v : Option Value) (h : Heap) (L : List Loc) : Prop := v = some (.int ((x.toUInt32 >>> ((16 : Int32) &&& 31).toUInt32).toInt32)) ∧ Fr n0 L ∧ h = h0
set_option maxRecDepth 65536 in
set_option maxHeartbeats 40000000 in
theorem rmOf1 (l : Launch) (Z : State) (a0 : Array Value) (hw : ∀ d ∈ tables_1, d.before a0 Z = true) (ws : List Jvm.Cond) (a1 : Addr) (p1 : Int32) (a2 : Addr) (w : Int32) (k : ClassId) (vs : List Value) (x : Int32) (h0 : Heap) (n0 : Nat) (Z0 : n0 ≤ h0.size) (pr0 : Fld Z h0 a1 "lastcolumn/stage/Probabilities" "states" "[I" (.ref a2)) (pr1 : Fld Z h0 a1 "lastcolumn/stage/Probabilities" "at" "I" (.int w)) (pr2 : Arv Z h0 a2 k .int (8 : Int32) vs (.int (0 : Int32))) (hr_ : ¬ ((w + p1) < (0 : Int32)) ∧ (w + p1) < (8 : Int32)) (hx_ : vs.getD (w + p1).toNatClampNeg (.int (0 : Int32)) = .int x) :
    MetFree l (⟨"lastcolumn/stage/Probabilities", "ofOne", "(I)I"⟩ : MethodName) (head1 (Jvm.Cond.code (⟨"lastcolumn/stage/Probabilities", "ofOne", "(I)I"⟩ : MethodName) prog_31_method_2_code 2 (some .int) :: ws) ({ frames := 0, cells := 0, slots := 0, locals := 0 } : Room)) (fun a U => a = #[(.ref a1), (.int p1)] ∧ Z.Warmed39 U.vm ∧ U.heap = h0) (fun _ _ _ _ _ => True) (fun _ U o U' => ∃ v L, o = .returned v ∧ QOf1 Z a1 p1 a2 w k vs x h0 n0 v U'.heap L ∧ FrameEnd U o U' L ({ frames := 0, cells := 0, slots := 0, locals := 0 } : Room).cells ({ frames := 0, cells := 0, slots := 0, locals := 0 } : Room).slots) := by
  refine MetFree.of_bodySF (plainFor_of_name pn_5) hisR ?_
  intro p e s m args below meth c s₁ Bd hml0 hP hK
  obtain ⟨rfl, hZ, hh⟩ := hP
  have hx := Bd.exec
  have hby := Bd.bytes
  have hml : c.maxLocals = 2 := hml0
  have hown : s.vm.findClass "lastcolumn/stage/Probabilities" = some m.cls := findClass_of_methodNamed Bd.named
  have hnm := (name_of_methodNamed Bd.named Bd.method).1
  have X0 : Stand p l e ({ frames := 0, cells := 0, slots := 0, locals := 0 } : Room) s m #[(.ref a1), (.int p1)] below meth c s₁ [] 0 0 := Stand.of_body Bd
  have hs0 : h0 = s.heap := hh.symm
  have e0 : s₁.heap = h0 := by rw [← hh, Bd.state]; rfl
  have N0 := Fr.nil n0
  obtain ⟨f0, hf0⟩ : ∃ f, f = entryFrame m #[(.ref a1), (.int p1)] 2 := ⟨_, rfl⟩
  have pre0 : ∀ t, Steps p.tables e below (s₁.setTop f0) t → Steps p.tables e below (s₁.setTop (entryFrame m #[(.ref a1), (.int p1)] 2)) t := fun t k => hf0 ▸ k
  have K0 : Gx p e below s₁ f0 s₁ (mkF m 0 #[.val (.ref a1), .val (.int p1)] []) := fun t kt => by rw [hf0]; exact castTop (ef_Of1 m a1 p1) kt
  have K1 : Gx p e below s₁ f0 s₁ (mkF m 1 #[.val (.ref a1), .val (.int p1)] [(.ref a1)]) := fun t kt => K0 t (by
    show Steps p.tables e below (s₁.setTop (mkF m 0 #[.val (.ref a1), .val (.int p1)] [])) _
    refine XS.aloadN X0.here hx rfl (hb hby d5_0) rfl rfl ?_
    exact kt)
  obtain ⟨T2, X2, e2, st2⟩ := getF X0 hx hZ hown (host := "") (Or.inl (hw _ (List.mem_of_getElem? (i := 10) rfl))) Via.refl e0 pr0 (g := (mkF m 1 #[.val (.ref a1), .val (.int p1)] [(.ref a1)])) rfl rfl (hb hby d5_1)
  have K3 : Gx p e below s₁ f0 T2 (mkF m 4 #[.val (.ref a1), .val (.int p1)] [(.ref a2)]) := fun t kt => K1 t (st2 t kt)
  have K4 : Gx p e below s₁ f0 T2 (mkF m 5 #[.val (.ref a1), .val (.int p1)] [(.ref a1), (.ref a2)]) := fun t kt => K3 t (by
    show Steps p.tables e below (T2.setTop (mkF m 4 #[.val (.ref a1), .val (.int p1)] [(.ref a2)])) _
    refine XS.aloadN X2.here hx rfl (hb hby d5_4) rfl rfl ?_
    exact kt)
  obtain ⟨T5, X5, e5, st5⟩ := getF X2 hx hZ hown (host := "") (Or.inl (hw _ (List.mem_of_getElem? (i := 12) rfl))) Via.refl e2 pr1 (g := (mkF m 5 #[.val (.ref a1), .val (.int p1)] [(.ref a1), (.ref a2)])) rfl rfl (hb hby d5_5)
  have K6 : Gx p e below s₁ f0 T5 (mkF m 8 #[.val (.ref a1), .val (.int p1)] [(.int w), (.ref a2)]) := fun t kt => K4 t (st5 t kt)
  obtain ⟨clq7, Arq7, ckq7, cSq7, cNq7, cHq7, cGq7⟩ := id pr2
  have K8 : Gx p e below s₁ f0 T5 (mkF m 14 #[.val (.ref a1), .val (.int p1)] [(.int ((x.toUInt32 >>> ((16 : Int32) &&& 31).toUInt32).toInt32))]) := fun t kt => K6 t (by
    show Steps p.tables e below (T5.setTop (mkF m 8 #[.val (.ref a1), .val (.int p1)] [(.int w), (.ref a2)])) _
    refine XS.iloadN X5.here hx rfl (hb hby d5_8) rfl ?_
    show Steps p.tables e below (T5.setTop (mkF m 9 #[.val (.ref a1), .val (.int p1)] [(.int p1), (.int w), (.ref a2)])) _
    refine XS.iadd X5.here hx rfl (hb hby d5_9) rfl ?_
    show Steps p.tables e below (T5.setTop (mkF m 10 #[.val (.ref a1), .val (.int p1)] [(.int (w + p1)), (.ref a2)])) _
    refine X5.iaload hx (j := (w + p1)) (v := (.int x)) (by rw [e5]; exact Arq7.1) (State.isArrayOf_alike hZ.alike Arq7.2.1) Arq7.2.2 (inb_of cSq7 hr_) (Has.at cHq7 (inb_of cSq7 hr_) hx_) (g := (mkF m 10 #[.val (.ref a1), .val (.int p1)] [(.int (w + p1)), (.ref a2)])) rfl rfl (hb hby d5_10) _ ?_
    show Steps p.tables e below (T5.setTop (mkF m 11 #[.val (.ref a1), .val (.int p1)] [(.int x)])) _
    refine XS.bipush X5.here hx rfl (hb hby d5_11) ?_
    show Steps p.tables e below (T5.setTop (mkF m 13 #[.val (.ref a1), .val (.int p1)] [(.int (16 : Int32)), (.int x)])) _
    refine XS.iushr X5.here hx rfl (hb hby d5_13) rfl ?_
    exact kt)
  obtain ⟨fs9, hr9, hrun9, hended9, hW9, hsame9⟩ := X5.leave (v := some (.int ((x.toUInt32 >>> ((16 : Int32) &&& 31).toUInt32).toInt32))) (fun h => by rw [Bd.returns] at h; cases h)
  refine ⟨_, _, pre0 _ (K8 _ ?_), hrun9, hended9, _, _, rfl, ?_, ⟨_, rfl⟩, hW9, hsame9.mono (by decide) (by decide)⟩
  · exact retI X5 hx Bd.returns (hb hby d5_14) hr9
  · show QOf1 Z a1 p1 a2 w k vs x h0 n0 _ T5.heap _
    rw [e5]
    exact ⟨rfl, N0, rfl⟩
theorem d6_0 : decode prog_31_method_3_code 0 = .ok (.aload_n 0, 1) := by decide +kernel
theorem d6_1 : decode prog_31_method_3_code 1 = .ok (.getfield 11, 3) := by decide +kernel
theorem d6_4 : decode prog_31_method_3_code 4 = .ok (.aload_n 0, 1) := by decide +kernel
theorem d6_5 : decode prog_31_method_3_code 5 = .ok (.getfield 15, 3) := by decide +kernel
theorem d6_8 : decode prog_31_method_3_code 8 = .ok (.iload_n 1, 1) := by decide +kernel
theorem d6_9 : decode prog_31_method_3_code 9 = .ok (.iadd, 1) := by decide +kernel
theorem d6_10 : decode prog_31_method_3_code 10 = .ok (.iaload, 1) := by decide +kernel
theorem d6_11 : decode prog_31_method_3_code 11 = .ok (.istore_n 3, 1) := by decide +kernel
theorem d6_12 : decode prog_31_method_3_code 12 = .ok (.iload_n 3, 1) := by decide +kernel
theorem d6_13 : decode prog_31_method_3_code 13 = .ok (.sipush 1023, 3) := by decide +kernel
theorem d6_16 : decode prog_31_method_3_code 16 = .ok (.iand, 1) := by decide +kernel
theorem d6_17 : decode prog_31_method_3_code 17 = .ok (.istore 4, 2) := by decide +kernel
theorem d6_19 : decode prog_31_method_3_code 19 = .ok (.iload_n 3, 1) := by decide +kernel
theorem d6_20 : decode prog_31_method_3_code 20 = .ok (.bipush 10, 2) := by decide +kernel
theorem d6_22 : decode prog_31_method_3_code 22 = .ok (.iushr, 1) := by decide +kernel
theorem d6_23 : decode prog_31_method_3_code 23 = .ok (.i2l, 1) := by decide +kernel
theorem d6_24 : decode prog_31_method_3_code 24 = .ok (.lstore 5, 2) := by decide +kernel
theorem d6_26 : decode prog_31_method_3_code 26 = .ok (.iload_n 2, 1) := by decide +kernel
theorem d6_27 : decode prog_31_method_3_code 27 = .ok (.iconst 1, 1) := by decide +kernel
theorem d6_28 : decode prog_31_method_3_code 28 = .ok (.if_icmp .ne 9, 3) := by decide +kernel
theorem d6_31 : decode prog_31_method_3_code 31 = .ok (.ldc2_w 28, 3) := by decide +kernel
theorem d6_34 : decode prog_31_method_3_code 34 = .ok (.goto 4, 3) := by decide +kernel
theorem d6_37 : decode prog_31_method_3_code 37 = .ok (.lconst 0, 1) := by decide +kernel
theorem d6_38 : decode prog_31_method_3_code 38 = .ok (.lstore 7, 2) := by decide +kernel
theorem d6_40 : decode prog_31_method_3_code 40 = .ok (.lload 5, 2) := by decide +kernel
theorem d6_42 : decode prog_31_method_3_code 42 = .ok (.lload 7, 2) := by decide +kernel
theorem d6_44 : decode prog_31_method_3_code 44 = .ok (.lload 5, 2) := by decide +kernel
theorem d6_46 : decode prog_31_method_3_code 46 = .ok (.lsub, 1) := by decide +kernel
theorem d6_47 : decode prog_31_method_3_code 47 = .ok (.getstatic 30, 3) := by decide +kernel
theorem d6_50 : decode prog_31_method_3_code 50 = .ok (.iload 4, 2) := by decide +kernel
theorem d6_52 : decode prog_31_method_3_code 52 = .ok (.iaload, 1) := by decide +kernel
theorem d6_53 : decode prog_31_method_3_code 53 = .ok (.i2l, 1) := by decide +kernel
theorem d6_54 : decode prog_31_method_3_code 54 = .ok (.lmul, 1) := by decide +kernel
theorem d6_55 : decode prog_31_method_3_code 55 = .ok (.bipush 16, 2) := by decide +kernel
theorem d6_57 : decode prog_31_method_3_code 57 = .ok (.lshr, 1) := by decide +kernel
theorem d6_58 : decode prog_31_method_3_code 58 = .ok (.ladd, 1) := by decide +kernel
theorem d6_59 : decode prog_31_method_3_code 59 = .ok (.lstore 9, 2) := by decide +kernel
theorem d6_61 : decode prog_31_method_3_code 61 = .ok (.aload_n 0, 1) := by decide +kernel
theorem d6_62 : decode prog_31_method_3_code 62 = .ok (.getfield 11, 3) := by decide +kernel
theorem d6_65 : decode prog_31_method_3_code 65 = .ok (.aload_n 0, 1) := by decide +kernel
theorem d6_66 : decode prog_31_method_3_code 66 = .ok (.getfield 15, 3) := by decide +kernel
theorem d6_69 : decode prog_31_method_3_code 69 = .ok (.iload_n 1, 1) := by decide +kernel
theorem d6_70 : decode prog_31_method_3_code 70 = .ok (.iadd, 1) := by decide +kernel
theorem d6_71 : decode prog_31_method_3_code 71 = .ok (.lload 9, 2) := by decide +kernel
theorem d6_73 : decode prog_31_method_3_code 73 = .ok (.bipush 10, 2) := by decide +kernel
theorem d6_75 : decode prog_31_method_3_code 75 = .ok (.lshl, 1) := by decide +kernel
theorem d6_76 : decode prog_31_method_3_code 76 = .ok (.l2i, 1) := by decide +kernel
theorem d6_77 : decode prog_31_method_3_code 77 = .ok (.iload 4, 2) := by decide +kernel
theorem d6_79 : decode prog_31_method_3_code 79 = .ok (.iconst 1, 1) := by decide +kernel
theorem d6_80 : decode prog_31_method_3_code 80 = .ok (.iadd, 1) := by decide +kernel
theorem d6_81 : decode prog_31_method_3_code 81 = .ok (.bipush 15, 2) := by decide +kernel
theorem d6_83 : decode prog_31_method_3_code 83 = .ok (.invokestatic 33, 3) := by decide +kernel
theorem d6_86 : decode prog_31_method_3_code 86 = .ok (.ior, 1) := by decide +kernel
theorem d6_87 : decode prog_31_method_3_code 87 = .ok (.iastore, 1) := by decide +kernel
theorem d6_88 : decode prog_31_method_3_code 88 = .ok (.return_, 1) := by decide +kernel
theorem pn_6 : plainName "lastcolumn/stage/Probabilities" = true := by first | (simp [plainName, overriddenIn]; done) | decide +kernel
theorem pd__II_I : parseMethodDescriptor "(II)I" = some ⟨[.int, .int], some .int⟩ := by decide +kernel
theorem ef_Lrn (m : MethodId) (a1 : Addr) (p1 : Int32) (p2 : Int32) : entryFrame m #[(.ref a1), (.int p1), (.int p2)] 11 = mkF m 0 #[.val (.ref a1), .val (.int p1), .val (.int p2), .unset, .unset, .unset, .unset, .unset, .unset, .unset, .unset] [] := by first | (simp [entryFrame, mkF, argsToLocals, Value.category]; done) | rfl
def QLrn (Z : State) (a1 : Addr) (p1 : Int32) (p2 : Int32) (a2 : Addr) (w : Int32) (k : ClassId) (vs : List Value) (ra : Addr) (kr : ClassId) (h0 : Heap) (n0 : Nat) (v : Option Value) (h : Heap) (L : List Loc) : Prop := v = none ∧ Fr n0 L ∧ Keep h0 h [a2] ∧ Arv Z h a2 k .int (8 : Int32) (vs.set (w + p1).toNatClampNeg (.int (if p2 = (1 : Int32) then (-715850751 : Int32) else (715849729 : Int32)))) (.int (0 : Int32))
set_option maxRecDepth 65536 in
set_option maxHeartbeats 40000000 in
theorem rmLrn (l : Launch) (Z : State) (a0 : Array Value) (hw : ∀ d ∈ tables_1, d.before a0 Z = true) (ws : List Jvm.Cond) (a1 : Addr) (p1 : Int32) (p2 : Int32) (a2 : Addr) (w : Int32) (k : ClassId) (vs : List Value) (ra : Addr) (kr : ClassId) (h0 : Heap) (n0 : Nat) (Z0 : n0 ≤ h0.size) (pr0 : Exa Z h0 a1 "lastcolumn/stage/Probabilities") (pr1 : n0 ≤ a2) (pr2 : Fld Z h0 a1 "lastcolumn/stage/Probabilities" "states" "[I" (.ref a2)) (pr3 : Fld Z h0 a1 "lastcolumn/stage/Probabilities" "at" "I" (.int w)) (pr4 : Arv Z h0 a2 k .int (8 : Int32) vs (.int (0 : Int32))) (pr5 : a1 ≠ a2) (pr6 : Sta Z Z.heap "lastcolumn/stage/Probabilities" "RATES" "[I" (.ref ra)) (pr7 : Arv Z Z.heap ra kr .int (16 : Int32) [(.int (43690 : Int32)), (.int (26214 : Int32)), (.int (18724 : Int32)), (.int (14563 : Int32)), (.int (11915 : Int32)), (.int (10082 : Int32)), (.int (8738 : Int32)), (.int (7710 : Int32)), (.int (6898 : Int32)), (.int (6241 : Int32)), (.int (5698 : Int32)), (.int (5242 : Int32)), (.int (4854 : Int32)), (.int (4519 : Int32)), (.int (4228 : Int32)), (.int (3971 : Int32))] (.int (0 : Int32))) (pr8 : Old Z n0 h0) (hr_ : ¬ ((w + p1) < (0 : Int32)) ∧ (w + p1) < (8 : Int32)) (hx_ : vs.getD (w + p1).toNatClampNeg (.int (0 : Int32)) = .int (-2147483648 : Int32)) (hl_ : (w + p1).toNatClampNeg < vs.length) :
    MetFree l (⟨"lastcolumn/stage/Probabilities", "learn", "(II)V"⟩ : MethodName) (head1 (Jvm.Cond.code (⟨"lastcolumn/stage/Probabilities", "learn", "(II)V"⟩ : MethodName) prog_31_method_3_code 11 none :: ws) ({ frames := 1, cells := 0, slots := 0, locals := 16 } : Room)) (fun a U => a = #[(.ref a1), (.int p1), (.int p2)] ∧ Z.Warmed39 U.vm ∧ U.heap = h0) (fun _ _ _ _ _ => True) (fun _ U o U' => ∃ v L, o = .returned v ∧ QLrn Z a1 p1 p2 a2 w k vs ra kr h0 n0 v U'.heap L ∧ FrameEnd U o U' L ({ frames := 1, cells := 0, slots := 0, locals := 16 } : Room).cells ({ frames := 1, cells := 0, slots := 0, locals := 16 } : Room).slots) := by
  refine MetFree.of_bodySF (plainFor_of_name pn_6) hisR ?_
  intro p e s m args below meth c s₁ Bd hml0 hP hK
  obtain ⟨rfl, hZ, hh⟩ := hP
  have hx := Bd.exec
  have hby := Bd.bytes
  have hml : c.maxLocals = 11 := hml0
  have hown : s.vm.findClass "lastcolumn/stage/Probabilities" = some m.cls := findClass_of_methodNamed Bd.named
  have hnm := (name_of_methodNamed Bd.named Bd.method).1
  have X0 : Stand p l e ({ frames := 1, cells := 0, slots := 0, locals := 16 } : Room) s m #[(.ref a1), (.int p1), (.int p2)] below meth c s₁ [] 0 0 := Stand.of_body Bd
  have hs0 : h0 = s.heap := hh.symm
  have e0 : s₁.heap = h0 := by rw [← hh, Bd.state]; rfl
  have N0 := Fr.nil n0
  obtain ⟨f0, hf0⟩ : ∃ f, f = entryFrame m #[(.ref a1), (.int p1), (.int p2)] 11 := ⟨_, rfl⟩
  have pre0 : ∀ t, Steps p.tables e below (s₁.setTop f0) t → Steps p.tables e below (s₁.setTop (entryFrame m #[(.ref a1), (.int p1), (.int p2)] 11)) t := fun t k => hf0 ▸ k
  have K0 : Gx p e below s₁ f0 s₁ (mkF m 0 #[.val (.ref a1), .val (.int p1), .val (.int p2), .unset, .unset, .unset, .unset, .unset, .unset, .unset, .unset] []) := fun t kt => by rw [hf0]; exact castTop (ef_Lrn m a1 p1 p2) kt
  have K1 : Gx p e below s₁ f0 s₁ (mkF m 1 #[.val (.ref a1), .val (.int p1), .val (.int p2), .unset, .unset, .unset, .unset, .unset, .unset, .unset, .unset] [(.ref a1)]) := fun t kt => K0 t (by
    show Steps p.tables e below (s₁.setTop (mkF m 0 #[.val (.ref a1), .val (.int p1), .val (.int p2), .unset, .unset, .unset, .unset, .unset, .unset, .unset, .unset] [])) _
    refine XS.aloadN X0.here hx rfl (hb hby d6_0) rfl rfl ?_
    exact kt)
  obtain ⟨T2, X2, e2, st2⟩ := getF X0 hx hZ hown (host := "") (Or.inl (hw _ (List.mem_of_getElem? (i := 10) rfl))) Via.refl e0 pr2 (g := (mkF m 1 #[.val (.ref a1), .val (.int p1), .val (.int p2), .unset, .unset, .unset, .unset, .unset, .unset, .unset, .unset] [(.ref a1)])) rfl rfl (hb hby d6_1)
  have K3 : Gx p e below s₁ f0 T2 (mkF m 4 #[.val (.ref a1), .val (.int p1), .val (.int p2), .unset, .unset, .unset, .unset, .unset, .unset, .unset, .unset] [(.ref a2)]) := fun t kt => K1 t (st2 t kt)
  have K4 : Gx p e below s₁ f0 T2 (mkF m 5 #[.val (.ref a1), .val (.int p1), .val (.int p2), .unset, .unset, .unset, .unset, .unset, .unset, .unset, .unset] [(.ref a1), (.ref a2)]) := fun t kt => K3 t (by
    show Steps p.tables e below (T2.setTop (mkF m 4 #[.val (.ref a1), .val (.int p1), .val (.int p2), .unset, .unset, .unset, .unset, .unset, .unset, .unset, .unset] [(.ref a2)])) _
    refine XS.aloadN X2.here hx rfl (hb hby d6_4) rfl rfl ?_
    exact kt)
  obtain ⟨T5, X5, e5, st5⟩ := getF X2 hx hZ hown (host := "") (Or.inl (hw _ (List.mem_of_getElem? (i := 12) rfl))) Via.refl e2 pr3 (g := (mkF m 5 #[.val (.ref a1), .val (.int p1), .val (.int p2), .unset, .unset, .unset, .unset, .unset, .unset, .unset, .unset] [(.ref a1), (.ref a2)])) rfl rfl (hb hby d6_5)
  have K6 : Gx p e below s₁ f0 T5 (mkF m 8 #[.val (.ref a1), .val (.int p1), .val (.int p2), .unset, .unset, .unset, .unset, .unset, .unset, .unset, .unset] [(.int w), (.ref a2)]) := fun t kt => K4 t (st5 t kt)
  obtain ⟨clq7, Arq7, ckq7, cSq7, cNq7, cHq7, cGq7⟩ := id pr4
  have K8 : Gx p e below s₁ f0 T5 (mkF m 23 #[.val (.ref a1), .val (.int p1), .val (.int p2), .val (.int (-2147483648 : Int32)), .val (.int (0 : Int32)), .unset, .unset, .unset, .unset, .unset, .unset] [(.int (((-2147483648 : Int32).toUInt32 >>> ((10 : Int32) &&& 31).toUInt32).toInt32))]) := fun t kt => K6 t (by
    show Steps p.tables e below (T5.setTop (mkF m 8 #[.val (.ref a1), .val (.int p1), .val (.int p2), .unset, .unset, .unset, .unset, .unset, .unset, .unset, .unset] [(.int w), (.ref a2)])) _
    refine XS.iloadN X5.here hx rfl (hb hby d6_8) rfl ?_
    show Steps p.tables e below (T5.setTop (mkF m 9 #[.val (.ref a1), .val (.int p1), .val (.int p2), .unset, .unset, .unset, .unset, .unset, .unset, .unset, .unset] [(.int p1), (.int w), (.ref a2)])) _
    refine XS.iadd X5.here hx rfl (hb hby d6_9) rfl ?_
    show Steps p.tables e below (T5.setTop (mkF m 10 #[.val (.ref a1), .val (.int p1), .val (.int p2), .unset, .unset, .unset, .unset, .unset, .unset, .unset, .unset] [(.int (w + p1)), (.ref a2)])) _
    refine X5.iaload hx (j := (w + p1)) (v := (.int (-2147483648 : Int32))) (by rw [e5]; exact Arq7.1) (State.isArrayOf_alike hZ.alike Arq7.2.1) Arq7.2.2 (inb_of cSq7 hr_) (Has.at cHq7 (inb_of cSq7 hr_) hx_) (g := (mkF m 10 #[.val (.ref a1), .val (.int p1), .val (.int p2), .unset, .unset, .unset, .unset, .unset, .unset, .unset, .unset] [(.int (w + p1)), (.ref a2)])) rfl rfl (hb hby d6_10) _ ?_
    show Steps p.tables e below (T5.setTop (mkF m 11 #[.val (.ref a1), .val (.int p1), .val (.int p2), .unset, .unset, .unset, .unset, .unset, .unset, .unset, .unset] [(.int (-2147483648 : Int32))])) _
    refine XS.istoreN X5.here hx rfl (hb hby d6_11) rfl (l' := #[.val (.ref a1), .val (.int p1), .val (.int p2), .val (.int (-2147483648 : Int32)), .unset, .unset, .unset, .unset, .unset, .unset, .unset]) rfl ?_
    show Steps p.tables e below (T5.setTop (mkF m 12 #[.val (.ref a1), .val (.int p1), .val (.int p2), .val (.int (-2147483648 : Int32)), .unset, .unset, .unset, .unset, .unset, .unset, .unset] [])) _
    refine XS.iloadN X5.here hx rfl (hb hby d6_12) rfl ?_
    show Steps p.tables e below (T5.setTop (mkF m 13 #[.val (.ref a1), .val (.int p1), .val (.int p2), .val (.int (-2147483648 : Int32)), .unset, .unset, .unset, .unset, .unset, .unset, .unset] [(.int (-2147483648 : Int32))])) _
    refine XS.sipush X5.here hx rfl (hb hby d6_13) ?_
    show Steps p.tables e below (T5.setTop (mkF m 16 #[.val (.ref a1), .val (.int p1), .val (.int p2), .val (.int (-2147483648 : Int32)), .unset, .unset, .unset, .unset, .unset, .unset, .unset] [(.int (1023 : Int32)), (.int (-2147483648 : Int32))])) _
    refine XS.iand X5.here hx rfl (hb hby d6_16) rfl ?_
    show Steps p.tables e below (T5.setTop (mkF m 17 #[.val (.ref a1), .val (.int p1), .val (.int p2), .val (.int (-2147483648 : Int32)), .unset, .unset, .unset, .unset, .unset, .unset, .unset] [(.int (0 : Int32))])) _
    refine XS.istore X5.here hx rfl (hb hby d6_17) rfl (l' := #[.val (.ref a1), .val (.int p1), .val (.int p2), .val (.int (-2147483648 : Int32)), .val (.int (0 : Int32)), .unset, .unset, .unset, .unset, .unset, .unset]) rfl ?_
    show Steps p.tables e below (T5.setTop (mkF m 19 #[.val (.ref a1), .val (.int p1), .val (.int p2), .val (.int (-2147483648 : Int32)), .val (.int (0 : Int32)), .unset, .unset, .unset, .unset, .unset, .unset] [])) _
    refine XS.iloadN X5.here hx rfl (hb hby d6_19) rfl ?_
    show Steps p.tables e below (T5.setTop (mkF m 20 #[.val (.ref a1), .val (.int p1), .val (.int p2), .val (.int (-2147483648 : Int32)), .val (.int (0 : Int32)), .unset, .unset, .unset, .unset, .unset, .unset] [(.int (-2147483648 : Int32))])) _
    refine XS.bipush X5.here hx rfl (hb hby d6_20) ?_
    show Steps p.tables e below (T5.setTop (mkF m 22 #[.val (.ref a1), .val (.int p1), .val (.int p2), .val (.int (-2147483648 : Int32)), .val (.int (0 : Int32)), .unset, .unset, .unset, .unset, .unset, .unset] [(.int (10 : Int32)), (.int (-2147483648 : Int32))])) _
    refine XS.iushr X5.here hx rfl (hb hby d6_22) rfl ?_
    exact kt)
  rw [(show (((-2147483648 : Int32).toUInt32 >>> ((10 : Int32) &&& 31).toUInt32).toInt32) = (2097152 : Int32) from by decide)] at K8
  have K9 : Gx p e below s₁ f0 T5 (mkF m 24 #[.val (.ref a1), .val (.int p1), .val (.int p2), .val (.int (-2147483648 : Int32)), .val (.int (0 : Int32)), .unset, .unset, .unset, .unset, .unset, .unset] [(.long ((2097152 : Int32).toInt64))]) := fun t kt => K8 t (by
    show Steps p.tables e below (T5.setTop (mkF m 23 #[.val (.ref a1), .val (.int p1), .val (.int p2), .val (.int (-2147483648 : Int32)), .val (.int (0 : Int32)), .unset, .unset, .unset, .unset, .unset, .unset] [(.int (2097152 : Int32))])) _
    refine XS.i2l X5.here hx rfl (hb hby d6_23) rfl ?_
    exact kt)
  rw [(show ((2097152 : Int32).toInt64) = (2097152 : Int64) from by decide)] at K9
  have K10 : Gx p e below s₁ f0 T5 (mkF m 28 #[.val (.ref a1), .val (.int p1), .val (.int p2), .val (.int (-2147483648 : Int32)), .val (.int (0 : Int32)), .val (.long (2097152 : Int64)), .second, .unset, .unset, .unset, .unset] [(.int (1 : Int32)), (.int p2)]) := fun t kt => K9 t (by
    show Steps p.tables e below (T5.setTop (mkF m 24 #[.val (.ref a1), .val (.int p1), .val (.int p2), .val (.int (-2147483648 : Int32)), .val (.int (0 : Int32)), .unset, .unset, .unset, .unset, .unset, .unset] [(.long (2097152 : Int64))])) _
    refine XS.lstore X5.here hx rfl (hb hby d6_24) rfl (l' := #[.val (.ref a1), .val (.int p1), .val (.int p2), .val (.int (-2147483648 : Int32)), .val (.int (0 : Int32)), .val (.long (2097152 : Int64)), .second, .unset, .unset, .unset, .unset]) rfl ?_
    show Steps p.tables e below (T5.setTop (mkF m 26 #[.val (.ref a1), .val (.int p1), .val (.int p2), .val (.int (-2147483648 : Int32)), .val (.int (0 : Int32)), .val (.long (2097152 : Int64)), .second, .unset, .unset, .unset, .unset] [])) _
    refine XS.iloadN X5.here hx rfl (hb hby d6_26) rfl ?_
    show Steps p.tables e below (T5.setTop (mkF m 27 #[.val (.ref a1), .val (.int p1), .val (.int p2), .val (.int (-2147483648 : Int32)), .val (.int (0 : Int32)), .val (.long (2097152 : Int64)), .second, .unset, .unset, .unset, .unset] [(.int p2)])) _
    refine XS.iconst X5.here hx rfl (hb hby d6_27) ?_
    exact kt)
  by_cases hb11 : p2 = (1 : Int32)
  · skip
    have K12 : Gx p e below s₁ f0 T5 (mkF m 47 #[.val (.ref a1), .val (.int p1), .val (.int p2), .val (.int (-2147483648 : Int32)), .val (.int (0 : Int32)), .val (.long (2097152 : Int64)), .second, .val (.long (4194303 : Int64)), .second, .unset, .unset] [(.long (2097151 : Int64)), (.long (2097152 : Int64))]) := fun t kt => K10 t (by
      show Steps p.tables e below (T5.setTop (mkF m 28 #[.val (.ref a1), .val (.int p1), .val (.int p2), .val (.int (-2147483648 : Int32)), .val (.int (0 : Int32)), .val (.long (2097152 : Int64)), .second, .unset, .unset, .unset, .unset] [(.int (1 : Int32)), (.int p2)])) _
      refine XS.icmpNo X5.here hx rfl (hb hby d6_28) rfl (teq hb11).2 ?_
      show Steps p.tables e below (T5.setTop (mkF m 31 #[.val (.ref a1), .val (.int p1), .val (.int p2), .val (.int (-2147483648 : Int32)), .val (.int (0 : Int32)), .val (.long (2097152 : Int64)), .second, .unset, .unset, .unset, .unset] [])) _
      refine X5.ldc2Long hx hown (mvT hZ (hw _ (List.mem_of_getElem? (i := 32) rfl))) (g := (mkF m 31 #[.val (.ref a1), .val (.int p1), .val (.int p2), .val (.int (-2147483648 : Int32)), .val (.int (0 : Int32)), .val (.long (2097152 : Int64)), .second, .unset, .unset, .unset, .unset] [])) rfl (hb hby d6_31) _ ?_
      show Steps p.tables e below (T5.setTop (mkF m 34 #[.val (.ref a1), .val (.int p1), .val (.int p2), .val (.int (-2147483648 : Int32)), .val (.int (0 : Int32)), .val (.long (2097152 : Int64)), .second, .unset, .unset, .unset, .unset] [(.long (4194303 : Int64))])) _
      refine XS.goto X5.here hx rfl (pc0 := 34) (pc' := 38) rfl (hb hby d6_34) (by decide) (by decide) ?_
      show Steps p.tables e below (T5.setTop (mkF m 38 #[.val (.ref a1), .val (.int p1), .val (.int p2), .val (.int (-2147483648 : Int32)), .val (.int (0 : Int32)), .val (.long (2097152 : Int64)), .second, .unset, .unset, .unset, .unset] [(.long (4194303 : Int64))])) _
      refine XS.lstore X5.here hx rfl (hb hby d6_38) rfl (l' := #[.val (.ref a1), .val (.int p1), .val (.int p2), .val (.int (-2147483648 : Int32)), .val (.int (0 : Int32)), .val (.long (2097152 : Int64)), .second, .val (.long (4194303 : Int64)), .second, .unset, .unset]) rfl ?_
      show Steps p.tables e below (T5.setTop (mkF m 40 #[.val (.ref a1), .val (.int p1), .val (.int p2), .val (.int (-2147483648 : Int32)), .val (.int (0 : Int32)), .val (.long (2097152 : Int64)), .second, .val (.long (4194303 : Int64)), .second, .unset, .unset] [])) _
      refine XS.lload X5.here hx rfl (hb hby d6_40) rfl ?_
      show Steps p.tables e below (T5.setTop (mkF m 42 #[.val (.ref a1), .val (.int p1), .val (.int p2), .val (.int (-2147483648 : Int32)), .val (.int (0 : Int32)), .val (.long (2097152 : Int64)), .second, .val (.long (4194303 : Int64)), .second, .unset, .unset] [(.long (2097152 : Int64))])) _
      refine XS.lload X5.here hx rfl (hb hby d6_42) rfl ?_
      show Steps p.tables e below (T5.setTop (mkF m 44 #[.val (.ref a1), .val (.int p1), .val (.int p2), .val (.int (-2147483648 : Int32)), .val (.int (0 : Int32)), .val (.long (2097152 : Int64)), .second, .val (.long (4194303 : Int64)), .second, .unset, .unset] [(.long (4194303 : Int64)), (.long (2097152 : Int64))])) _
      refine XS.lload X5.here hx rfl (hb hby d6_44) rfl ?_
      show Steps p.tables e below (T5.setTop (mkF m 46 #[.val (.ref a1), .val (.int p1), .val (.int p2), .val (.int (-2147483648 : Int32)), .val (.int (0 : Int32)), .val (.long (2097152 : Int64)), .second, .val (.long (4194303 : Int64)), .second, .unset, .unset] [(.long (2097152 : Int64)), (.long (4194303 : Int64)), (.long (2097152 : Int64))])) _
      refine XS.lsub X5.here hx rfl (hb hby d6_46) rfl ?_
      exact kt)
    have f13 : Sta Z h0 "lastcolumn/stage/Probabilities" "RATES" "[I" (.ref ra) := Sta.ext pr8.2 pr6
    obtain ⟨T14, X14, e14, st14⟩ := getS2 X5 hx hZ hown (host := "") (Or.inl (hw _ (List.mem_of_getElem? (i := 33) rfl))) Via.refl e5 f13 (g := (mkF m 47 #[.val (.ref a1), .val (.int p1), .val (.int p2), .val (.int (-2147483648 : Int32)), .val (.int (0 : Int32)), .val (.long (2097152 : Int64)), .second, .val (.long (4194303 : Int64)), .second, .unset, .unset] [(.long (2097151 : Int64)), (.long (2097152 : Int64))])) rfl (hb hby d6_47)
    have K15 : Gx p e below s₁ f0 T14 (mkF m 50 #[.val (.ref a1), .val (.int p1), .val (.int p2), .val (.int (-2147483648 : Int32)), .val (.int (0 : Int32)), .val (.long (2097152 : Int64)), .second, .val (.long (4194303 : Int64)), .second, .unset, .unset] [(.ref ra), (.long (2097151 : Int64)), (.long (2097152 : Int64))]) := fun t kt => K12 t (st14 t kt)
    have f16 : Arv Z h0 ra kr .int (16 : Int32) [(.int (43690 : Int32)), (.int (26214 : Int32)), (.int (18724 : Int32)), (.int (14563 : Int32)), (.int (11915 : Int32)), (.int (10082 : Int32)), (.int (8738 : Int32)), (.int (7710 : Int32)), (.int (6898 : Int32)), (.int (6241 : Int32)), (.int (5698 : Int32)), (.int (5242 : Int32)), (.int (4854 : Int32)), (.int (4519 : Int32)), (.int (4228 : Int32)), (.int (3971 : Int32))] (.int (0 : Int32)) := pr7.ext pr8.2
    obtain ⟨clq17, Arq17, ckq17, cSq17, cNq17, cHq17, cGq17⟩ := id f16
    have K18 : Gx p e below s₁ f0 T14 (mkF m 54 #[.val (.ref a1), .val (.int p1), .val (.int p2), .val (.int (-2147483648 : Int32)), .val (.int (0 : Int32)), .val (.long (2097152 : Int64)), .second, .val (.long (4194303 : Int64)), .second, .unset, .unset] [(.long ((43690 : Int32).toInt64)), (.long (2097151 : Int64)), (.long (2097152 : Int64))]) := fun t kt => K15 t (by
      show Steps p.tables e below (T14.setTop (mkF m 50 #[.val (.ref a1), .val (.int p1), .val (.int p2), .val (.int (-2147483648 : Int32)), .val (.int (0 : Int32)), .val (.long (2097152 : Int64)), .second, .val (.long (4194303 : Int64)), .second, .unset, .unset] [(.ref ra), (.long (2097151 : Int64)), (.long (2097152 : Int64))])) _
      refine XS.iload X14.here hx rfl (hb hby d6_50) rfl ?_
      show Steps p.tables e below (T14.setTop (mkF m 52 #[.val (.ref a1), .val (.int p1), .val (.int p2), .val (.int (-2147483648 : Int32)), .val (.int (0 : Int32)), .val (.long (2097152 : Int64)), .second, .val (.long (4194303 : Int64)), .second, .unset, .unset] [(.int (0 : Int32)), (.ref ra), (.long (2097151 : Int64)), (.long (2097152 : Int64))])) _
      refine X14.iaload hx (j := (0 : Int32)) (v := (.int (43690 : Int32))) (by rw [e14]; exact Arq17.1) (State.isArrayOf_alike hZ.alike Arq17.2.1) Arq17.2.2 (inb_of cSq17 ⟨by decide, by decide⟩) (Has.at cHq17 (inb_of cSq17 ⟨by decide, by decide⟩) rfl) (g := (mkF m 52 #[.val (.ref a1), .val (.int p1), .val (.int p2), .val (.int (-2147483648 : Int32)), .val (.int (0 : Int32)), .val (.long (2097152 : Int64)), .second, .val (.long (4194303 : Int64)), .second, .unset, .unset] [(.int (0 : Int32)), (.ref ra), (.long (2097151 : Int64)), (.long (2097152 : Int64))])) rfl rfl (hb hby d6_52) _ ?_
      show Steps p.tables e below (T14.setTop (mkF m 53 #[.val (.ref a1), .val (.int p1), .val (.int p2), .val (.int (-2147483648 : Int32)), .val (.int (0 : Int32)), .val (.long (2097152 : Int64)), .second, .val (.long (4194303 : Int64)), .second, .unset, .unset] [(.int (43690 : Int32)), (.long (2097151 : Int64)), (.long (2097152 : Int64))])) _
      refine XS.i2l X14.here hx rfl (hb hby d6_53) rfl ?_
      exact kt)
    rw [(show ((43690 : Int32).toInt64) = (43690 : Int64) from by decide)] at K18
    have K19 : Gx p e below s₁ f0 T14 (mkF m 58 #[.val (.ref a1), .val (.int p1), .val (.int p2), .val (.int (-2147483648 : Int32)), .val (.int (0 : Int32)), .val (.long (2097152 : Int64)), .second, .val (.long (4194303 : Int64)), .second, .unset, .unset] [(.long ((91624527190 : Int64) >>> ((16 : Int32) &&& 0x3f).toInt64)), (.long (2097152 : Int64))]) := fun t kt => K18 t (by
      show Steps p.tables e below (T14.setTop (mkF m 54 #[.val (.ref a1), .val (.int p1), .val (.int p2), .val (.int (-2147483648 : Int32)), .val (.int (0 : Int32)), .val (.long (2097152 : Int64)), .second, .val (.long (4194303 : Int64)), .second, .unset, .unset] [(.long (43690 : Int64)), (.long (2097151 : Int64)), (.long (2097152 : Int64))])) _
      refine XS.lmul X14.here hx rfl (hb hby d6_54) rfl ?_
      show Steps p.tables e below (T14.setTop (mkF m 55 #[.val (.ref a1), .val (.int p1), .val (.int p2), .val (.int (-2147483648 : Int32)), .val (.int (0 : Int32)), .val (.long (2097152 : Int64)), .second, .val (.long (4194303 : Int64)), .second, .unset, .unset] [(.long (91624527190 : Int64)), (.long (2097152 : Int64))])) _
      refine XS.bipush X14.here hx rfl (hb hby d6_55) ?_
      show Steps p.tables e below (T14.setTop (mkF m 57 #[.val (.ref a1), .val (.int p1), .val (.int p2), .val (.int (-2147483648 : Int32)), .val (.int (0 : Int32)), .val (.long (2097152 : Int64)), .second, .val (.long (4194303 : Int64)), .second, .unset, .unset] [(.int (16 : Int32)), (.long (91624527190 : Int64)), (.long (2097152 : Int64))])) _
      refine XS.lshr X14.here hx rfl (hb hby d6_57) rfl ?_
      exact kt)
    rw [(show ((91624527190 : Int64) >>> ((16 : Int32) &&& 0x3f).toInt64) = (1398079 : Int64) from by decide)] at K19
    have K20 : Gx p e below s₁ f0 T14 (mkF m 62 #[.val (.ref a1), .val (.int p1), .val (.int p2), .val (.int (-2147483648 : Int32)), .val (.int (0 : Int32)), .val (.long (2097152 : Int64)), .second, .val (.long (4194303 : Int64)), .second, .val (.long (3495231 : Int64)), .second] [(.ref a1)]) := fun t kt => K19 t (by
      show Steps p.tables e below (T14.setTop (mkF m 58 #[.val (.ref a1), .val (.int p1), .val (.int p2), .val (.int (-2147483648 : Int32)), .val (.int (0 : Int32)), .val (.long (2097152 : Int64)), .second, .val (.long (4194303 : Int64)), .second, .unset, .unset] [(.long (1398079 : Int64)), (.long (2097152 : Int64))])) _
      refine XS.ladd X14.here hx rfl (hb hby d6_58) rfl ?_
      show Steps p.tables e below (T14.setTop (mkF m 59 #[.val (.ref a1), .val (.int p1), .val (.int p2), .val (.int (-2147483648 : Int32)), .val (.int (0 : Int32)), .val (.long (2097152 : Int64)), .second, .val (.long (4194303 : Int64)), .second, .unset, .unset] [(.long (3495231 : Int64))])) _
      refine XS.lstore X14.here hx rfl (hb hby d6_59) rfl (l' := #[.val (.ref a1), .val (.int p1), .val (.int p2), .val (.int (-2147483648 : Int32)), .val (.int (0 : Int32)), .val (.long (2097152 : Int64)), .second, .val (.long (4194303 : Int64)), .second, .val (.long (3495231 : Int64)), .second]) rfl ?_
      show Steps p.tables e below (T14.setTop (mkF m 61 #[.val (.ref a1), .val (.int p1), .val (.int p2), .val (.int (-2147483648 : Int32)), .val (.int (0 : Int32)), .val (.long (2097152 : Int64)), .second, .val (.long (4194303 : Int64)), .second, .val (.long (3495231 : Int64)), .second] [])) _
      refine XS.aloadN X14.here hx rfl (hb hby d6_61) rfl rfl ?_
      exact kt)
    obtain ⟨T21, X21, e21, st21⟩ := getF X14 hx hZ hown (host := "") (Or.inl (hw _ (List.mem_of_getElem? (i := 10) rfl))) Via.refl e14 pr2 (g := (mkF m 62 #[.val (.ref a1), .val (.int p1), .val (.int p2), .val (.int (-2147483648 : Int32)), .val (.int (0 : Int32)), .val (.long (2097152 : Int64)), .second, .val (.long (4194303 : Int64)), .second, .val (.long (3495231 : Int64)), .second] [(.ref a1)])) rfl rfl (hb hby d6_62)
    have K22 : Gx p e below s₁ f0 T21 (mkF m 65 #[.val (.ref a1), .val (.int p1), .val (.int p2), .val (.int (-2147483648 : Int32)), .val (.int (0 : Int32)), .val (.long (2097152 : Int64)), .second, .val (.long (4194303 : Int64)), .second, .val (.long (3495231 : Int64)), .second] [(.ref a2)]) := fun t kt => K20 t (st21 t kt)
    have K23 : Gx p e below s₁ f0 T21 (mkF m 66 #[.val (.ref a1), .val (.int p1), .val (.int p2), .val (.int (-2147483648 : Int32)), .val (.int (0 : Int32)), .val (.long (2097152 : Int64)), .second, .val (.long (4194303 : Int64)), .second, .val (.long (3495231 : Int64)), .second] [(.ref a1), (.ref a2)]) := fun t kt => K22 t (by
      show Steps p.tables e below (T21.setTop (mkF m 65 #[.val (.ref a1), .val (.int p1), .val (.int p2), .val (.int (-2147483648 : Int32)), .val (.int (0 : Int32)), .val (.long (2097152 : Int64)), .second, .val (.long (4194303 : Int64)), .second, .val (.long (3495231 : Int64)), .second] [(.ref a2)])) _
      refine XS.aloadN X21.here hx rfl (hb hby d6_65) rfl rfl ?_
      exact kt)
    obtain ⟨T24, X24, e24, st24⟩ := getF X21 hx hZ hown (host := "") (Or.inl (hw _ (List.mem_of_getElem? (i := 12) rfl))) Via.refl e21 pr3 (g := (mkF m 66 #[.val (.ref a1), .val (.int p1), .val (.int p2), .val (.int (-2147483648 : Int32)), .val (.int (0 : Int32)), .val (.long (2097152 : Int64)), .second, .val (.long (4194303 : Int64)), .second, .val (.long (3495231 : Int64)), .second] [(.ref a1), (.ref a2)])) rfl rfl (hb hby d6_66)
    have K25 : Gx p e below s₁ f0 T24 (mkF m 69 #[.val (.ref a1), .val (.int p1), .val (.int p2), .val (.int (-2147483648 : Int32)), .val (.int (0 : Int32)), .val (.long (2097152 : Int64)), .second, .val (.long (4194303 : Int64)), .second, .val (.long (3495231 : Int64)), .second] [(.int w), (.ref a2)]) := fun t kt => K23 t (st24 t kt)
    have K26 : Gx p e below s₁ f0 T24 (mkF m 76 #[.val (.ref a1), .val (.int p1), .val (.int p2), .val (.int (-2147483648 : Int32)), .val (.int (0 : Int32)), .val (.long (2097152 : Int64)), .second, .val (.long (4194303 : Int64)), .second, .val (.long (3495231 : Int64)), .second] [(.long ((3495231 : Int64) <<< ((10 : Int32) &&& 0x3f).toInt64)), (.int (w + p1)), (.ref a2)]) := fun t kt => K25 t (by
      show Steps p.tables e below (T24.setTop (mkF m 69 #[.val (.ref a1), .val (.int p1), .val (.int p2), .val (.int (-2147483648 : Int32)), .val (.int (0 : Int32)), .val (.long (2097152 : Int64)), .second, .val (.long (4194303 : Int64)), .second, .val (.long (3495231 : Int64)), .second] [(.int w), (.ref a2)])) _
      refine XS.iloadN X24.here hx rfl (hb hby d6_69) rfl ?_
      show Steps p.tables e below (T24.setTop (mkF m 70 #[.val (.ref a1), .val (.int p1), .val (.int p2), .val (.int (-2147483648 : Int32)), .val (.int (0 : Int32)), .val (.long (2097152 : Int64)), .second, .val (.long (4194303 : Int64)), .second, .val (.long (3495231 : Int64)), .second] [(.int p1), (.int w), (.ref a2)])) _
      refine XS.iadd X24.here hx rfl (hb hby d6_70) rfl ?_
      show Steps p.tables e below (T24.setTop (mkF m 71 #[.val (.ref a1), .val (.int p1), .val (.int p2), .val (.int (-2147483648 : Int32)), .val (.int (0 : Int32)), .val (.long (2097152 : Int64)), .second, .val (.long (4194303 : Int64)), .second, .val (.long (3495231 : Int64)), .second] [(.int (w + p1)), (.ref a2)])) _
      refine XS.lload X24.here hx rfl (hb hby d6_71) rfl ?_
      show Steps p.tables e below (T24.setTop (mkF m 73 #[.val (.ref a1), .val (.int p1), .val (.int p2), .val (.int (-2147483648 : Int32)), .val (.int (0 : Int32)), .val (.long (2097152 : Int64)), .second, .val (.long (4194303 : Int64)), .second, .val (.long (3495231 : Int64)), .second] [(.long (3495231 : Int64)), (.int (w + p1)), (.ref a2)])) _
      refine XS.bipush X24.here hx rfl (hb hby d6_73) ?_
      show Steps p.tables e below (T24.setTop (mkF m 75 #[.val (.ref a1), .val (.int p1), .val (.int p2), .val (.int (-2147483648 : Int32)), .val (.int (0 : Int32)), .val (.long (2097152 : Int64)), .second, .val (.long (4194303 : Int64)), .second, .val (.long (3495231 : Int64)), .second] [(.int (10 : Int32)), (.long (3495231 : Int64)), (.int (w + p1)), (.ref a2)])) _
      refine XS.lshl X24.here hx rfl (hb hby d6_75) rfl ?_
      exact kt)
    rw [(show ((3495231 : Int64) <<< ((10 : Int32) &&& 0x3f).toInt64) = (3579116544 : Int64) from by decide)] at K26
    have K27 : Gx p e below s₁ f0 T24 (mkF m 77 #[.val (.ref a1), .val (.int p1), .val (.int p2), .val (.int (-2147483648 : Int32)), .val (.int (0 : Int32)), .val (.long (2097152 : Int64)), .second, .val (.long (4194303 : Int64)), .second, .val (.long (3495231 : Int64)), .second] [(.int ((3579116544 : Int64).toInt32)), (.int (w + p1)), (.ref a2)]) := fun t kt => K26 t (by
      show Steps p.tables e below (T24.setTop (mkF m 76 #[.val (.ref a1), .val (.int p1), .val (.int p2), .val (.int (-2147483648 : Int32)), .val (.int (0 : Int32)), .val (.long (2097152 : Int64)), .second, .val (.long (4194303 : Int64)), .second, .val (.long (3495231 : Int64)), .second] [(.long (3579116544 : Int64)), (.int (w + p1)), (.ref a2)])) _
      refine XS.l2i X24.here hx rfl (hb hby d6_76) rfl ?_
      exact kt)
    rw [(show ((3579116544 : Int64).toInt32) = (-715850752 : Int32) from by decide)] at K27
    have K28 : Gx p e below s₁ f0 T24 (mkF m 83 #[.val (.ref a1), .val (.int p1), .val (.int p2), .val (.int (-2147483648 : Int32)), .val (.int (0 : Int32)), .val (.long (2097152 : Int64)), .second, .val (.long (4194303 : Int64)), .second, .val (.long (3495231 : Int64)), .second] [(.int (15 : Int32)), (.int (1 : Int32)), (.int (-715850752 : Int32)), (.int (w + p1)), (.ref a2)]) := fun t kt => K27 t (by
      show Steps p.tables e below (T24.setTop (mkF m 77 #[.val (.ref a1), .val (.int p1), .val (.int p2), .val (.int (-2147483648 : Int32)), .val (.int (0 : Int32)), .val (.long (2097152 : Int64)), .second, .val (.long (4194303 : Int64)), .second, .val (.long (3495231 : Int64)), .second] [(.int (-715850752 : Int32)), (.int (w + p1)), (.ref a2)])) _
      refine XS.iload X24.here hx rfl (hb hby d6_77) rfl ?_
      show Steps p.tables e below (T24.setTop (mkF m 79 #[.val (.ref a1), .val (.int p1), .val (.int p2), .val (.int (-2147483648 : Int32)), .val (.int (0 : Int32)), .val (.long (2097152 : Int64)), .second, .val (.long (4194303 : Int64)), .second, .val (.long (3495231 : Int64)), .second] [(.int (0 : Int32)), (.int (-715850752 : Int32)), (.int (w + p1)), (.ref a2)])) _
      refine XS.iconst X24.here hx rfl (hb hby d6_79) ?_
      show Steps p.tables e below (T24.setTop (mkF m 80 #[.val (.ref a1), .val (.int p1), .val (.int p2), .val (.int (-2147483648 : Int32)), .val (.int (0 : Int32)), .val (.long (2097152 : Int64)), .second, .val (.long (4194303 : Int64)), .second, .val (.long (3495231 : Int64)), .second] [(.int (1 : Int32)), (.int (0 : Int32)), (.int (-715850752 : Int32)), (.int (w + p1)), (.ref a2)])) _
      refine XS.iadd X24.here hx rfl (hb hby d6_80) rfl ?_
      show Steps p.tables e below (T24.setTop (mkF m 81 #[.val (.ref a1), .val (.int p1), .val (.int p2), .val (.int (-2147483648 : Int32)), .val (.int (0 : Int32)), .val (.long (2097152 : Int64)), .second, .val (.long (4194303 : Int64)), .second, .val (.long (3495231 : Int64)), .second] [(.int (1 : Int32)), (.int (-715850752 : Int32)), (.int (w + p1)), (.ref a2)])) _
      refine XS.bipush X24.here hx rfl (hb hby d6_81) ?_
      exact kt)
    obtain ⟨_, _, ⟨T29, L29, k29, n29⟩, -, X29', ⟨Lc29, hQ29, l29, y29, z29⟩, st29⟩ := Jvm.LawKit.callS X24 hx (y := (⟨"java/lang/Math", "min", "(II)I"⟩ : MethodName)) hown (mvT hZ (hw _ (List.mem_of_getElem? (i := 35) rfl))) (mvT hZ (hw _ (List.mem_of_getElem? (i := 36) rfl))) (mvT hZ (hw _ (List.mem_of_getElem? (i := 37) rfl))) (mvT hZ (hw _ (List.mem_of_getElem? (i := 38) rfl))) (by decide) (backOf (W := 3) (rmMin l Z a0 hw [] (1 : Int32) (15 : Int32) h0 n0 (Nat.le_trans Z0 (Keep.refl h0 [a2]).1) ) hZ (hw _ (List.mem_of_getElem? (i := 38) rfl)) (hw _ (List.mem_of_getElem? (i := 37) rfl)) (by decide) (by decide)) (g := (mkF m 83 #[.val (.ref a1), .val (.int p1), .val (.int p2), .val (.int (-2147483648 : Int32)), .val (.int (0 : Int32)), .val (.long (2097152 : Int64)), .second, .val (.long (4194303 : Int64)), .second, .val (.long (3495231 : Int64)), .second] [(.int (15 : Int32)), (.int (1 : Int32)), (.int (-715850752 : Int32)), (.int (w + p1)), (.ref a2)])) rfl (by rw [hml]; rfl) (argsL := [(.int (1 : Int32)), (.int (15 : Int32))]) (rest := [(.int (-715850752 : Int32)), (.int (w + p1)), (.ref a2)]) (lenOf pd__II_I rfl) rfl (by show 2 * 0 + _ ≤ _; exact Nat.le_of_eq rfl) (hb hby d6_83) (fun _ _ => ⟨rfl, e24, (by decide : 0 + 0 ≤ _), (by decide : 0 + 0 ≤ _)⟩)
    dsimp only [Pt.U, Pt.locs, Pt.cells, Pt.slots] at X29' l29 y29 z29 st29 hQ29
    subst l29 y29 z29
    obtain ⟨rfl, N29q, e29⟩ := hQ29
    obtain ⟨lc29, X29, N29⟩ : ∃ lc, Stand p l e ({ frames := 1, cells := 0, slots := 0, locals := 16 } : Room) s m #[(.ref a1), (.int p1), (.int p2)] below meth c T29 lc 0 0 ∧ Fr n0 lc := ⟨_, X29', Fr.app N0 N29q⟩
    have K30 : Gx p e below s₁ f0 T29 (mkF m 86 #[.val (.ref a1), .val (.int p1), .val (.int p2), .val (.int (-2147483648 : Int32)), .val (.int (0 : Int32)), .val (.long (2097152 : Int64)), .second, .val (.long (4194303 : Int64)), .second, .val (.long (3495231 : Int64)), .second] [(.int (minF (1 : Int32) (15 : Int32))), (.int (-715850752 : Int32)), (.int (w + p1)), (.ref a2)]) := fun t kt => K28 t (st29 t kt)
    rw [(show (minF (1 : Int32) (15 : Int32)) = (1 : Int32) from by decide)] at K30
    have K31 : Gx p e below s₁ f0 T29 (mkF m 87 #[.val (.ref a1), .val (.int p1), .val (.int p2), .val (.int (-2147483648 : Int32)), .val (.int (0 : Int32)), .val (.long (2097152 : Int64)), .second, .val (.long (4194303 : Int64)), .second, .val (.long (3495231 : Int64)), .second] [(.int (-715850751 : Int32)), (.int (w + p1)), (.ref a2)]) := fun t kt => K30 t (by
      show Steps p.tables e below (T29.setTop (mkF m 86 #[.val (.ref a1), .val (.int p1), .val (.int p2), .val (.int (-2147483648 : Int32)), .val (.int (0 : Int32)), .val (.long (2097152 : Int64)), .second, .val (.long (4194303 : Int64)), .second, .val (.long (3495231 : Int64)), .second] [(.int (1 : Int32)), (.int (-715850752 : Int32)), (.int (w + p1)), (.ref a2)])) _
      refine XS.ior X29.here hx rfl (hb hby d6_86) rfl ?_
      exact kt)
    obtain ⟨T32, h32, X32', e32, W32, st32⟩ := stI X29 hx hZ e29 Arq7 (j := (w + p1)) (inb_of cSq7 hr_) (g := (mkF m 87 #[.val (.ref a1), .val (.int p1), .val (.int p2), .val (.int (-2147483648 : Int32)), .val (.int (0 : Int32)), .val (.long (2097152 : Int64)), .second, .val (.long (4194303 : Int64)), .second, .val (.long (3495231 : Int64)), .second] [(.int (-715850751 : Int32)), (.int (w + p1)), (.ref a2)])) rfl rfl (hb hby d6_87)
    obtain ⟨lc32, X32, N32⟩ : ∃ lc, Stand p l e ({ frames := 1, cells := 0, slots := 0, locals := 16 } : Room) s m #[(.ref a1), (.int p1), (.int p2)] below meth c T32 lc 0 0 ∧ Fr n0 lc := ⟨_, X32', Fr.snoc X32' N29 pr1⟩
    have V32 : Arv Z h32 a2 k .int (8 : Int32) (vs.set (w + p1).toNatClampNeg (.int (-715850751 : Int32))) (.int (0 : Int32)) := Arv.set Arq7 ckq7 cSq7 cNq7 cHq7 cGq7 rfl W32 (w + p1).toNatClampNeg rfl hl_
    have K33 : Gx p e below s₁ f0 T32 (mkF m 88 #[.val (.ref a1), .val (.int p1), .val (.int p2), .val (.int (-2147483648 : Int32)), .val (.int (0 : Int32)), .val (.long (2097152 : Int64)), .second, .val (.long (4194303 : Int64)), .second, .val (.long (3495231 : Int64)), .second] []) := fun t kt => K31 t (st32 t kt)
    have kp35 : Keep h0 h32 [a2] := ((Keep.refl h0 [a2]).wr W32 (Or.inl (List.mem_of_getElem? (i := 0) rfl)))
    obtain ⟨fs34, hr34, hrun34, hended34, hW34, hsame34⟩ := X32.leave (v := none) (fun _ => rfl)
    refine ⟨_, _, pre0 _ (K33 _ ?_), hrun34, hended34, _, _, rfl, ?_, ⟨_, rfl⟩, hW34, hsame34.mono (by decide) (by decide)⟩
    · exact X32.returnOut hx Bd.returns (hb hby d6_88) hr34
    · show QLrn Z a1 p1 p2 a2 w k vs ra kr h0 n0 _ T32.heap _
      rw [e32]
      exact ⟨rfl, N32, kp35, (by rw [if_pos hb11]; exact V32)⟩
  · skip
    have K36 : Gx p e below s₁ f0 T5 (mkF m 47 #[.val (.ref a1), .val (.int p1), .val (.int p2), .val (.int (-2147483648 : Int32)), .val (.int (0 : Int32)), .val (.long (2097152 : Int64)), .second, .val (.long (0 : Int64)), .second, .unset, .unset] [(.long (-2097152 : Int64)), (.long (2097152 : Int64))]) := fun t kt => K10 t (by
      show Steps p.tables e below (T5.setTop (mkF m 28 #[.val (.ref a1), .val (.int p1), .val (.int p2), .val (.int (-2147483648 : Int32)), .val (.int (0 : Int32)), .val (.long (2097152 : Int64)), .second, .unset, .unset, .unset, .unset] [(.int (1 : Int32)), (.int p2)])) _
      refine XS.icmpYes X5.here hx rfl (pc0 := 28) (pc' := 37) rfl (hb hby d6_28) rfl (feq hb11).2 (by decide) (by decide) ?_
      show Steps p.tables e below (T5.setTop (mkF m 37 #[.val (.ref a1), .val (.int p1), .val (.int p2), .val (.int (-2147483648 : Int32)), .val (.int (0 : Int32)), .val (.long (2097152 : Int64)), .second, .unset, .unset, .unset, .unset] [])) _
      refine XS.lconst X5.here hx rfl (hb hby d6_37) ?_
      show Steps p.tables e below (T5.setTop (mkF m 38 #[.val (.ref a1), .val (.int p1), .val (.int p2), .val (.int (-2147483648 : Int32)), .val (.int (0 : Int32)), .val (.long (2097152 : Int64)), .second, .unset, .unset, .unset, .unset] [(.long (0 : Int64))])) _
      refine XS.lstore X5.here hx rfl (hb hby d6_38) rfl (l' := #[.val (.ref a1), .val (.int p1), .val (.int p2), .val (.int (-2147483648 : Int32)), .val (.int (0 : Int32)), .val (.long (2097152 : Int64)), .second, .val (.long (0 : Int64)), .second, .unset, .unset]) rfl ?_
      show Steps p.tables e below (T5.setTop (mkF m 40 #[.val (.ref a1), .val (.int p1), .val (.int p2), .val (.int (-2147483648 : Int32)), .val (.int (0 : Int32)), .val (.long (2097152 : Int64)), .second, .val (.long (0 : Int64)), .second, .unset, .unset] [])) _
      refine XS.lload X5.here hx rfl (hb hby d6_40) rfl ?_
      show Steps p.tables e below (T5.setTop (mkF m 42 #[.val (.ref a1), .val (.int p1), .val (.int p2), .val (.int (-2147483648 : Int32)), .val (.int (0 : Int32)), .val (.long (2097152 : Int64)), .second, .val (.long (0 : Int64)), .second, .unset, .unset] [(.long (2097152 : Int64))])) _
      refine XS.lload X5.here hx rfl (hb hby d6_42) rfl ?_
      show Steps p.tables e below (T5.setTop (mkF m 44 #[.val (.ref a1), .val (.int p1), .val (.int p2), .val (.int (-2147483648 : Int32)), .val (.int (0 : Int32)), .val (.long (2097152 : Int64)), .second, .val (.long (0 : Int64)), .second, .unset, .unset] [(.long (0 : Int64)), (.long (2097152 : Int64))])) _
      refine XS.lload X5.here hx rfl (hb hby d6_44) rfl ?_
      show Steps p.tables e below (T5.setTop (mkF m 46 #[.val (.ref a1), .val (.int p1), .val (.int p2), .val (.int (-2147483648 : Int32)), .val (.int (0 : Int32)), .val (.long (2097152 : Int64)), .second, .val (.long (0 : Int64)), .second, .unset, .unset] [(.long (2097152 : Int64)), (.long (0 : Int64)), (.long (2097152 : Int64))])) _
      refine XS.lsub X5.here hx rfl (hb hby d6_46) rfl ?_
      exact kt)
    have f37 : Sta Z h0 "lastcolumn/stage/Probabilities" "RATES" "[I" (.ref ra) := Sta.ext pr8.2 pr6
    obtain ⟨T38, X38, e38, st38⟩ := getS2 X5 hx hZ hown (host := "") (Or.inl (hw _ (List.mem_of_getElem? (i := 33) rfl))) Via.refl e5 f37 (g := (mkF m 47 #[.val (.ref a1), .val (.int p1), .val (.int p2), .val (.int (-2147483648 : Int32)), .val (.int (0 : Int32)), .val (.long (2097152 : Int64)), .second, .val (.long (0 : Int64)), .second, .unset, .unset] [(.long (-2097152 : Int64)), (.long (2097152 : Int64))])) rfl (hb hby d6_47)
    have K39 : Gx p e below s₁ f0 T38 (mkF m 50 #[.val (.ref a1), .val (.int p1), .val (.int p2), .val (.int (-2147483648 : Int32)), .val (.int (0 : Int32)), .val (.long (2097152 : Int64)), .second, .val (.long (0 : Int64)), .second, .unset, .unset] [(.ref ra), (.long (-2097152 : Int64)), (.long (2097152 : Int64))]) := fun t kt => K36 t (st38 t kt)
    have f40 : Arv Z h0 ra kr .int (16 : Int32) [(.int (43690 : Int32)), (.int (26214 : Int32)), (.int (18724 : Int32)), (.int (14563 : Int32)), (.int (11915 : Int32)), (.int (10082 : Int32)), (.int (8738 : Int32)), (.int (7710 : Int32)), (.int (6898 : Int32)), (.int (6241 : Int32)), (.int (5698 : Int32)), (.int (5242 : Int32)), (.int (4854 : Int32)), (.int (4519 : Int32)), (.int (4228 : Int32)), (.int (3971 : Int32))] (.int (0 : Int32)) := pr7.ext pr8.2
    obtain ⟨clq41, Arq41, ckq41, cSq41, cNq41, cHq41, cGq41⟩ := id f40
    have K42 : Gx p e below s₁ f0 T38 (mkF m 54 #[.val (.ref a1), .val (.int p1), .val (.int p2), .val (.int (-2147483648 : Int32)), .val (.int (0 : Int32)), .val (.long (2097152 : Int64)), .second, .val (.long (0 : Int64)), .second, .unset, .unset] [(.long ((43690 : Int32).toInt64)), (.long (-2097152 : Int64)), (.long (2097152 : Int64))]) := fun t kt => K39 t (by
      show Steps p.tables e below (T38.setTop (mkF m 50 #[.val (.ref a1), .val (.int p1), .val (.int p2), .val (.int (-2147483648 : Int32)), .val (.int (0 : Int32)), .val (.long (2097152 : Int64)), .second, .val (.long (0 : Int64)), .second, .unset, .unset] [(.ref ra), (.long (-2097152 : Int64)), (.long (2097152 : Int64))])) _
      refine XS.iload X38.here hx rfl (hb hby d6_50) rfl ?_
      show Steps p.tables e below (T38.setTop (mkF m 52 #[.val (.ref a1), .val (.int p1), .val (.int p2), .val (.int (-2147483648 : Int32)), .val (.int (0 : Int32)), .val (.long (2097152 : Int64)), .second, .val (.long (0 : Int64)), .second, .unset, .unset] [(.int (0 : Int32)), (.ref ra), (.long (-2097152 : Int64)), (.long (2097152 : Int64))])) _
      refine X38.iaload hx (j := (0 : Int32)) (v := (.int (43690 : Int32))) (by rw [e38]; exact Arq41.1) (State.isArrayOf_alike hZ.alike Arq41.2.1) Arq41.2.2 (inb_of cSq41 ⟨by decide, by decide⟩) (Has.at cHq41 (inb_of cSq41 ⟨by decide, by decide⟩) rfl) (g := (mkF m 52 #[.val (.ref a1), .val (.int p1), .val (.int p2), .val (.int (-2147483648 : Int32)), .val (.int (0 : Int32)), .val (.long (2097152 : Int64)), .second, .val (.long (0 : Int64)), .second, .unset, .unset] [(.int (0 : Int32)), (.ref ra), (.long (-2097152 : Int64)), (.long (2097152 : Int64))])) rfl rfl (hb hby d6_52) _ ?_
      show Steps p.tables e below (T38.setTop (mkF m 53 #[.val (.ref a1), .val (.int p1), .val (.int p2), .val (.int (-2147483648 : Int32)), .val (.int (0 : Int32)), .val (.long (2097152 : Int64)), .second, .val (.long (0 : Int64)), .second, .unset, .unset] [(.int (43690 : Int32)), (.long (-2097152 : Int64)), (.long (2097152 : Int64))])) _
      refine XS.i2l X38.here hx rfl (hb hby d6_53) rfl ?_
      exact kt)
    rw [(show ((43690 : Int32).toInt64) = (43690 : Int64) from by decide)] at K42
    have K43 : Gx p e below s₁ f0 T38 (mkF m 58 #[.val (.ref a1), .val (.int p1), .val (.int p2), .val (.int (-2147483648 : Int32)), .val (.int (0 : Int32)), .val (.long (2097152 : Int64)), .second, .val (.long (0 : Int64)), .second, .unset, .unset] [(.long ((-91624570880 : Int64) >>> ((16 : Int32) &&& 0x3f).toInt64)), (.long (2097152 : Int64))]) := fun t kt => K42 t (by
      show Steps p.tables e below (T38.setTop (mkF m 54 #[.val (.ref a1), .val (.int p1), .val (.int p2), .val (.int (-2147483648 : Int32)), .val (.int (0 : Int32)), .val (.long (2097152 : Int64)), .second, .val (.long (0 : Int64)), .second, .unset, .unset] [(.long (43690 : Int64)), (.long (-2097152 : Int64)), (.long (2097152 : Int64))])) _
      refine XS.lmul X38.here hx rfl (hb hby d6_54) rfl ?_
      show Steps p.tables e below (T38.setTop (mkF m 55 #[.val (.ref a1), .val (.int p1), .val (.int p2), .val (.int (-2147483648 : Int32)), .val (.int (0 : Int32)), .val (.long (2097152 : Int64)), .second, .val (.long (0 : Int64)), .second, .unset, .unset] [(.long (-91624570880 : Int64)), (.long (2097152 : Int64))])) _
      refine XS.bipush X38.here hx rfl (hb hby d6_55) ?_
      show Steps p.tables e below (T38.setTop (mkF m 57 #[.val (.ref a1), .val (.int p1), .val (.int p2), .val (.int (-2147483648 : Int32)), .val (.int (0 : Int32)), .val (.long (2097152 : Int64)), .second, .val (.long (0 : Int64)), .second, .unset, .unset] [(.int (16 : Int32)), (.long (-91624570880 : Int64)), (.long (2097152 : Int64))])) _
      refine XS.lshr X38.here hx rfl (hb hby d6_57) rfl ?_
      exact kt)
    rw [(show ((-91624570880 : Int64) >>> ((16 : Int32) &&& 0x3f).toInt64) = (-1398080 : Int64) from by decide)] at K43
    have K44 : Gx p e below s₁ f0 T38 (mkF m 62 #[.val (.ref a1), .val (.int p1), .val (.int p2), .val (.int (-2147483648 : Int32)), .val (.int (0 : Int32)), .val (.long (2097152 : Int64)), .second, .val (.long (0 : Int64)), .second, .val (.long (699072 : Int64)), .second] [(.ref a1)]) := fun t kt => K43 t (by
      show Steps p.tables e below (T38.setTop (mkF m 58 #[.val (.ref a1), .val (.int p1), .val (.int p2), .val (.int (-2147483648 : Int32)), .val (.int (0 : Int32)), .val (.long (2097152 : Int64)), .second, .val (.long (0 : Int64)), .second, .unset, .unset] [(.long (-1398080 : Int64)), (.long (2097152 : Int64))])) _
      refine XS.ladd X38.here hx rfl (hb hby d6_58) rfl ?_
      show Steps p.tables e below (T38.setTop (mkF m 59 #[.val (.ref a1), .val (.int p1), .val (.int p2), .val (.int (-2147483648 : Int32)), .val (.int (0 : Int32)), .val (.long (2097152 : Int64)), .second, .val (.long (0 : Int64)), .second, .unset, .unset] [(.long (699072 : Int64))])) _
      refine XS.lstore X38.here hx rfl (hb hby d6_59) rfl (l' := #[.val (.ref a1), .val (.int p1), .val (.int p2), .val (.int (-2147483648 : Int32)), .val (.int (0 : Int32)), .val (.long (2097152 : Int64)), .second, .val (.long (0 : Int64)), .second, .val (.long (699072 : Int64)), .second]) rfl ?_
      show Steps p.tables e below (T38.setTop (mkF m 61 #[.val (.ref a1), .val (.int p1), .val (.int p2), .val (.int (-2147483648 : Int32)), .val (.int (0 : Int32)), .val (.long (2097152 : Int64)), .second, .val (.long (0 : Int64)), .second, .val (.long (699072 : Int64)), .second] [])) _
      refine XS.aloadN X38.here hx rfl (hb hby d6_61) rfl rfl ?_
      exact kt)
    obtain ⟨T45, X45, e45, st45⟩ := getF X38 hx hZ hown (host := "") (Or.inl (hw _ (List.mem_of_getElem? (i := 10) rfl))) Via.refl e38 pr2 (g := (mkF m 62 #[.val (.ref a1), .val (.int p1), .val (.int p2), .val (.int (-2147483648 : Int32)), .val (.int (0 : Int32)), .val (.long (2097152 : Int64)), .second, .val (.long (0 : Int64)), .second, .val (.long (699072 : Int64)), .second] [(.ref a1)])) rfl rfl (hb hby d6_62)
    have K46 : Gx p e below s₁ f0 T45 (mkF m 65 #[.val (.ref a1), .val (.int p1), .val (.int p2), .val (.int (-2147483648 : Int32)), .val (.int (0 : Int32)), .val (.long (2097152 : Int64)), .second, .val (.long (0 : Int64)), .second, .val (.long (699072 : Int64)), .second] [(.ref a2)]) := fun t kt => K44 t (st45 t kt)
    have K47 : Gx p e below s₁ f0 T45 (mkF m 66 #[.val (.ref a1), .val (.int p1), .val (.int p2), .val (.int (-2147483648 : Int32)), .val (.int (0 : Int32)), .val (.long (2097152 : Int64)), .second, .val (.long (0 : Int64)), .second, .val (.long (699072 : Int64)), .second] [(.ref a1), (.ref a2)]) := fun t kt => K46 t (by
      show Steps p.tables e below (T45.setTop (mkF m 65 #[.val (.ref a1), .val (.int p1), .val (.int p2), .val (.int (-2147483648 : Int32)), .val (.int (0 : Int32)), .val (.long (2097152 : Int64)), .second, .val (.long (0 : Int64)), .second, .val (.long (699072 : Int64)), .second] [(.ref a2)])) _
      refine XS.aloadN X45.here hx rfl (hb hby d6_65) rfl rfl ?_
      exact kt)
    obtain ⟨T48, X48, e48, st48⟩ := getF X45 hx hZ hown (host := "") (Or.inl (hw _ (List.mem_of_getElem? (i := 12) rfl))) Via.refl e45 pr3 (g := (mkF m 66 #[.val (.ref a1), .val (.int p1), .val (.int p2), .val (.int (-2147483648 : Int32)), .val (.int (0 : Int32)), .val (.long (2097152 : Int64)), .second, .val (.long (0 : Int64)), .second, .val (.long (699072 : Int64)), .second] [(.ref a1), (.ref a2)])) rfl rfl (hb hby d6_66)
    have K49 : Gx p e below s₁ f0 T48 (mkF m 69 #[.val (.ref a1), .val (.int p1), .val (.int p2), .val (.int (-2147483648 : Int32)), .val (.int (0 : Int32)), .val (.long (2097152 : Int64)), .second, .val (.long (0 : Int64)), .second, .val (.long (699072 : Int64)), .second] [(.int w), (.ref a2)]) := fun t kt => K47 t (st48 t kt)
    have K50 : Gx p e below s₁ f0 T48 (mkF m 76 #[.val (.ref a1), .val (.int p1), .val (.int p2), .val (.int (-2147483648 : Int32)), .val (.int (0 : Int32)), .val (.long (2097152 : Int64)), .second, .val (.long (0 : Int64)), .second, .val (.long (699072 : Int64)), .second] [(.long ((699072 : Int64) <<< ((10 : Int32) &&& 0x3f).toInt64)), (.int (w + p1)), (.ref a2)]) := fun t kt => K49 t (by
      show Steps p.tables e below (T48.setTop (mkF m 69 #[.val (.ref a1), .val (.int p1), .val (.int p2), .val (.int (-2147483648 : Int32)), .val (.int (0 : Int32)), .val (.long (2097152 : Int64)), .second, .val (.long (0 : Int64)), .second, .val (.long (699072 : Int64)), .second] [(.int w), (.ref a2)])) _
      refine XS.iloadN X48.here hx rfl (hb hby d6_69) rfl ?_
      show Steps p.tables e below (T48.setTop (mkF m 70 #[.val (.ref a1), .val (.int p1), .val (.int p2), .val (.int (-2147483648 : Int32)), .val (.int (0 : Int32)), .val (.long (2097152 : Int64)), .second, .val (.long (0 : Int64)), .second, .val (.long (699072 : Int64)), .second] [(.int p1), (.int w), (.ref a2)])) _
      refine XS.iadd X48.here hx rfl (hb hby d6_70) rfl ?_
      show Steps p.tables e below (T48.setTop (mkF m 71 #[.val (.ref a1), .val (.int p1), .val (.int p2), .val (.int (-2147483648 : Int32)), .val (.int (0 : Int32)), .val (.long (2097152 : Int64)), .second, .val (.long (0 : Int64)), .second, .val (.long (699072 : Int64)), .second] [(.int (w + p1)), (.ref a2)])) _
      refine XS.lload X48.here hx rfl (hb hby d6_71) rfl ?_
      show Steps p.tables e below (T48.setTop (mkF m 73 #[.val (.ref a1), .val (.int p1), .val (.int p2), .val (.int (-2147483648 : Int32)), .val (.int (0 : Int32)), .val (.long (2097152 : Int64)), .second, .val (.long (0 : Int64)), .second, .val (.long (699072 : Int64)), .second] [(.long (699072 : Int64)), (.int (w + p1)), (.ref a2)])) _
      refine XS.bipush X48.here hx rfl (hb hby d6_73) ?_
      show Steps p.tables e below (T48.setTop (mkF m 75 #[.val (.ref a1), .val (.int p1), .val (.int p2), .val (.int (-2147483648 : Int32)), .val (.int (0 : Int32)), .val (.long (2097152 : Int64)), .second, .val (.long (0 : Int64)), .second, .val (.long (699072 : Int64)), .second] [(.int (10 : Int32)), (.long (699072 : Int64)), (.int (w + p1)), (.ref a2)])) _
      refine XS.lshl X48.here hx rfl (hb hby d6_75) rfl ?_
      exact kt)
    rw [(show ((699072 : Int64) <<< ((10 : Int32) &&& 0x3f).toInt64) = (715849728 : Int64) from by decide)] at K50
    have K51 : Gx p e below s₁ f0 T48 (mkF m 77 #[.val (.ref a1), .val (.int p1), .val (.int p2), .val (.int (-2147483648 : Int32)), .val (.int (0 : Int32)), .val (.long (2097152 : Int64)), .second, .val (.long (0 : Int64)), .second, .val (.long (699072 : Int64)), .second] [(.int ((715849728 : Int64).toInt32)), (.int (w + p1)), (.ref a2)]) := fun t kt => K50 t (by
      show Steps p.tables e below (T48.setTop (mkF m 76 #[.val (.ref a1), .val (.int p1), .val (.int p2), .val (.int (-2147483648 : Int32)), .val (.int (0 : Int32)), .val (.long (2097152 : Int64)), .second, .val (.long (0 : Int64)), .second, .val (.long (699072 : Int64)), .second] [(.long (715849728 : Int64)), (.int (w + p1)), (.ref a2)])) _
      refine XS.l2i X48.here hx rfl (hb hby d6_76) rfl ?_
      exact kt)
    rw [(show ((715849728 : Int64).toInt32) = (715849728 : Int32) from by decide)] at K51
    have K52 : Gx p e below s₁ f0 T48 (mkF m 83 #[.val (.ref a1), .val (.int p1), .val (.int p2), .val (.int (-2147483648 : Int32)), .val (.int (0 : Int32)), .val (.long (2097152 : Int64)), .second, .val (.long (0 : Int64)), .second, .val (.long (699072 : Int64)), .second] [(.int (15 : Int32)), (.int (1 : Int32)), (.int (715849728 : Int32)), (.int (w + p1)), (.ref a2)]) := fun t kt => K51 t (by
      show Steps p.tables e below (T48.setTop (mkF m 77 #[.val (.ref a1), .val (.int p1), .val (.int p2), .val (.int (-2147483648 : Int32)), .val (.int (0 : Int32)), .val (.long (2097152 : Int64)), .second, .val (.long (0 : Int64)), .second, .val (.long (699072 : Int64)), .second] [(.int (715849728 : Int32)), (.int (w + p1)), (.ref a2)])) _
      refine XS.iload X48.here hx rfl (hb hby d6_77) rfl ?_
      show Steps p.tables e below (T48.setTop (mkF m 79 #[.val (.ref a1), .val (.int p1), .val (.int p2), .val (.int (-2147483648 : Int32)), .val (.int (0 : Int32)), .val (.long (2097152 : Int64)), .second, .val (.long (0 : Int64)), .second, .val (.long (699072 : Int64)), .second] [(.int (0 : Int32)), (.int (715849728 : Int32)), (.int (w + p1)), (.ref a2)])) _
      refine XS.iconst X48.here hx rfl (hb hby d6_79) ?_
      show Steps p.tables e below (T48.setTop (mkF m 80 #[.val (.ref a1), .val (.int p1), .val (.int p2), .val (.int (-2147483648 : Int32)), .val (.int (0 : Int32)), .val (.long (2097152 : Int64)), .second, .val (.long (0 : Int64)), .second, .val (.long (699072 : Int64)), .second] [(.int (1 : Int32)), (.int (0 : Int32)), (.int (715849728 : Int32)), (.int (w + p1)), (.ref a2)])) _
      refine XS.iadd X48.here hx rfl (hb hby d6_80) rfl ?_
      show Steps p.tables e below (T48.setTop (mkF m 81 #[.val (.ref a1), .val (.int p1), .val (.int p2), .val (.int (-2147483648 : Int32)), .val (.int (0 : Int32)), .val (.long (2097152 : Int64)), .second, .val (.long (0 : Int64)), .second, .val (.long (699072 : Int64)), .second] [(.int (1 : Int32)), (.int (715849728 : Int32)), (.int (w + p1)), (.ref a2)])) _
      refine XS.bipush X48.here hx rfl (hb hby d6_81) ?_
      exact kt)
    obtain ⟨_, _, ⟨T53, L53, k53, n53⟩, -, X53', ⟨Lc53, hQ53, l53, y53, z53⟩, st53⟩ := Jvm.LawKit.callS X48 hx (y := (⟨"java/lang/Math", "min", "(II)I"⟩ : MethodName)) hown (mvT hZ (hw _ (List.mem_of_getElem? (i := 35) rfl))) (mvT hZ (hw _ (List.mem_of_getElem? (i := 36) rfl))) (mvT hZ (hw _ (List.mem_of_getElem? (i := 37) rfl))) (mvT hZ (hw _ (List.mem_of_getElem? (i := 38) rfl))) (by decide) (backOf (W := 3) (rmMin l Z a0 hw [] (1 : Int32) (15 : Int32) h0 n0 (Nat.le_trans Z0 (Keep.refl h0 [a2]).1) ) hZ (hw _ (List.mem_of_getElem? (i := 38) rfl)) (hw _ (List.mem_of_getElem? (i := 37) rfl)) (by decide) (by decide)) (g := (mkF m 83 #[.val (.ref a1), .val (.int p1), .val (.int p2), .val (.int (-2147483648 : Int32)), .val (.int (0 : Int32)), .val (.long (2097152 : Int64)), .second, .val (.long (0 : Int64)), .second, .val (.long (699072 : Int64)), .second] [(.int (15 : Int32)), (.int (1 : Int32)), (.int (715849728 : Int32)), (.int (w + p1)), (.ref a2)])) rfl (by rw [hml]; rfl) (argsL := [(.int (1 : Int32)), (.int (15 : Int32))]) (rest := [(.int (715849728 : Int32)), (.int (w + p1)), (.ref a2)]) (lenOf pd__II_I rfl) rfl (by show 2 * 0 + _ ≤ _; exact Nat.le_of_eq rfl) (hb hby d6_83) (fun _ _ => ⟨rfl, e48, (by decide : 0 + 0 ≤ _), (by decide : 0 + 0 ≤ _)⟩)
    dsimp only [Pt.U, Pt.locs, Pt.cells, Pt.slots] at X53' l53 y53 z53 st53 hQ53
    subst l53 y53 z53
    obtain ⟨rfl, N53q, e53⟩ := hQ53
    obtain ⟨lc53, X53, N53⟩ : ∃ lc, Stand p l e ({ frames := 1, cells := 0, slots := 0, locals := 16 } : Room) s m #[(.ref a1), (.int p1), (.int p2)] below meth c T53 lc 0 0 ∧ Fr n0 lc := ⟨_, X53', Fr.app N0 N53q⟩
    have K54 : Gx p e below s₁ f0 T53 (mkF m 86 #[.val (.ref a1), .val (.int p1), .val (.int p2), .val (.int (-2147483648 : Int32)), .val (.int (0 : Int32)), .val (.long (2097152 : Int64)), .second, .val (.long (0 : Int64)), .second, .val (.long (699072 : Int64)), .second] [(.int (minF (1 : Int32) (15 : Int32))), (.int (715849728 : Int32)), (.int (w + p1)), (.ref a2)]) := fun t kt => K52 t (st53 t kt)
    rw [(show (minF (1 : Int32) (15 : Int32)) = (1 : Int32) from by decide)] at K54
    have K55 : Gx p e below s₁ f0 T53 (mkF m 87 #[.val (.ref a1), .val (.int p1), .val (.int p2), .val (.int (-2147483648 : Int32)), .val (.int (0 : Int32)), .val (.long (2097152 : Int64)), .second, .val (.long (0 : Int64)), .second, .val (.long (699072 : Int64)), .second] [(.int (715849729 : Int32)), (.int (w + p1)), (.ref a2)]) := fun t kt => K54 t (by
      show Steps p.tables e below (T53.setTop (mkF m 86 #[.val (.ref a1), .val (.int p1), .val (.int p2), .val (.int (-2147483648 : Int32)), .val (.int (0 : Int32)), .val (.long (2097152 : Int64)), .second, .val (.long (0 : Int64)), .second, .val (.long (699072 : Int64)), .second] [(.int (1 : Int32)), (.int (715849728 : Int32)), (.int (w + p1)), (.ref a2)])) _
      refine XS.ior X53.here hx rfl (hb hby d6_86) rfl ?_
      exact kt)
    obtain ⟨T56, h56, X56', e56, W56, st56⟩ := stI X53 hx hZ e53 Arq7 (j := (w + p1)) (inb_of cSq7 hr_) (g := (mkF m 87 #[.val (.ref a1), .val (.int p1), .val (.int p2), .val (.int (-2147483648 : Int32)), .val (.int (0 : Int32)), .val (.long (2097152 : Int64)), .second, .val (.long (0 : Int64)), .second, .val (.long (699072 : Int64)), .second] [(.int (715849729 : Int32)), (.int (w + p1)), (.ref a2)])) rfl rfl (hb hby d6_87)
    obtain ⟨lc56, X56, N56⟩ : ∃ lc, Stand p l e ({ frames := 1, cells := 0, slots := 0, locals := 16 } : Room) s m #[(.ref a1), (.int p1), (.int p2)] below meth c T56 lc 0 0 ∧ Fr n0 lc := ⟨_, X56', Fr.snoc X56' N53 pr1⟩
    have V56 : Arv Z h56 a2 k .int (8 : Int32) (vs.set (w + p1).toNatClampNeg (.int (715849729 : Int32))) (.int (0 : Int32)) := Arv.set Arq7 ckq7 cSq7 cNq7 cHq7 cGq7 rfl W56 (w + p1).toNatClampNeg rfl hl_
    have K57 : Gx p e below s₁ f0 T56 (mkF m 88 #[.val (.ref a1), .val (.int p1), .val (.int p2), .val (.int (-2147483648 : Int32)), .val (.int (0 : Int32)), .val (.long (2097152 : Int64)), .second, .val (.long (0 : Int64)), .second, .val (.long (699072 : Int64)), .second] []) := fun t kt => K55 t (st56 t kt)
    have kp59 : Keep h0 h56 [a2] := ((Keep.refl h0 [a2]).wr W56 (Or.inl (List.mem_of_getElem? (i := 0) rfl)))
    obtain ⟨fs58, hr58, hrun58, hended58, hW58, hsame58⟩ := X56.leave (v := none) (fun _ => rfl)
    refine ⟨_, _, pre0 _ (K57 _ ?_), hrun58, hended58, _, _, rfl, ?_, ⟨_, rfl⟩, hW58, hsame58.mono (by decide) (by decide)⟩
    · exact X56.returnOut hx Bd.returns (hb hby d6_88) hr58
    · show QLrn Z a1 p1 p2 a2 w k vs ra kr h0 n0 _ T56.heap _
      rw [e56]
      exact ⟨rfl, N56, kp59, (by rw [if_neg hb11]; exact V56)⟩
theorem pn_0 : plainName "lastcolumn/stage/ProbabilitiesOfOnePinLaw" = true := by first | (simp [plainName, overriddenIn]; done) | decide +kernel
theorem pd___III_V : parseMethodDescriptor "([III)V" = some ⟨[(.array .int), .int, .int], none⟩ := by decide +kernel
theorem pd__I_I : parseMethodDescriptor "(I)I" = some ⟨[.int], some .int⟩ := by decide +kernel
theorem pd__II_V : parseMethodDescriptor "(II)V" = some ⟨[.int, .int], none⟩ := by decide +kernel
theorem ef_0_0 (m : MethodId) (p1 : Int32) (p2 : Int32) (p3 : Int32) (p4 : Int32) (p5 : Int32) : entryFrame m #[(.int p1), (.int p2), (.int p3), (.int p4), (.int p5)] maxLocals = mkF m 0 #[.val (.int p1), .val (.int p2), .val (.int p3), .val (.int p4), .val (.int p5), .unset, .unset, .unset, .unset, .unset, .unset, .unset, .unset, .unset, .unset, .unset] [] := by first | (simp [entryFrame, mkF, argsToLocals, Value.category, maxLocals]; done) | rfl
def Q0 (Z : State) (p1 : Int32) (p2 : Int32) (p3 : Int32) (p4 : Int32) (p5 : Int32) (ra : Addr) (kr : ClassId) (h0 : Heap) (n0 : Nat) (v : Option Value) (h : Heap) (L : List Loc) : Prop := v = some (.int (1 : Int32)) ∧ Fr n0 L
set_option maxRecDepth 65536 in
set_option maxHeartbeats 40000000 in
theorem rm0_0 (l : Launch) (Z : State) (a0 : Array Value) (hw : ∀ d ∈ tables_1, d.before a0 Z = true) (ws : List Jvm.Cond) (p1 : Int32) (p2 : Int32) (p3 : Int32) (p4 : Int32) (p5 : Int32) (ra : Addr) (kr : ClassId) (h0 : Heap) (n0 : Nat) (Z0 : n0 ≤ h0.size) (pr0 : Sta Z Z.heap "lastcolumn/stage/Probabilities" "RATES" "[I" (.ref ra)) (pr1 : Arv Z Z.heap ra kr .int (16 : Int32) [(.int (43690 : Int32)), (.int (26214 : Int32)), (.int (18724 : Int32)), (.int (14563 : Int32)), (.int (11915 : Int32)), (.int (10082 : Int32)), (.int (8738 : Int32)), (.int (7710 : Int32)), (.int (6898 : Int32)), (.int (6241 : Int32)), (.int (5698 : Int32)), (.int (5242 : Int32)), (.int (4854 : Int32)), (.int (4519 : Int32)), (.int (4228 : Int32)), (.int (3971 : Int32))] (.int (0 : Int32))) (pr2 : Old Z n0 h0) (ha_ : (p1 &&& (3 : Int32)) = (0 : Int32)) :
    MetFree l x (head1 (Jvm.Cond.code x code maxLocals ret :: ws) room_1) (fun a U => a = #[(.int p1), (.int p2), (.int p3), (.int p4), (.int p5)] ∧ Z.Warmed39 U.vm ∧ U.heap = h0) (fun _ _ _ _ _ => True) (fun _ U o U' => ∃ v L, o = .returned v ∧ Q0 Z p1 p2 p3 p4 p5 ra kr h0 n0 v U'.heap L ∧ FrameEnd U o U' L room_1.cells room_1.slots) := by
  refine MetFree.of_bodySF (plainFor_of_name pn_0) hisR ?_
  intro p e s m args below meth c s₁ Bd hml0 hP hK
  obtain ⟨rfl, hZ, hh⟩ := hP
  have hx := Bd.exec
  have hby := Bd.bytes
  have hml : c.maxLocals = 16 := hml0
  have hown : s.vm.findClass "lastcolumn/stage/ProbabilitiesOfOnePinLaw" = some m.cls := findClass_of_methodNamed Bd.named
  have hnm := (name_of_methodNamed Bd.named Bd.method).1
  have X0 : Stand p l e room_1 s m #[(.int p1), (.int p2), (.int p3), (.int p4), (.int p5)] below meth c s₁ [] 0 0 := Stand.of_body Bd
  have hs0 : h0 = s.heap := hh.symm
  have e0 : s₁.heap = h0 := by rw [← hh, Bd.state]; rfl
  have N0 := Fr.nil n0
  obtain ⟨f0, hf0⟩ : ∃ f, f = entryFrame m #[(.int p1), (.int p2), (.int p3), (.int p4), (.int p5)] maxLocals := ⟨_, rfl⟩
  have pre0 : ∀ t, Steps p.tables e below (s₁.setTop f0) t → Steps p.tables e below (s₁.setTop (entryFrame m #[(.int p1), (.int p2), (.int p3), (.int p4), (.int p5)] maxLocals)) t := fun t k => hf0 ▸ k
  have K0 : Gx p e below s₁ f0 s₁ (mkF m 0 #[.val (.int p1), .val (.int p2), .val (.int p3), .val (.int p4), .val (.int p5), .unset, .unset, .unset, .unset, .unset, .unset, .unset, .unset, .unset, .unset, .unset] []) := fun t kt => by rw [hf0]; exact castTop (ef_0_0 m p1 p2 p3 p4 p5) kt
  have K1 : Gx p e below s₁ f0 s₁ (mkF m 5 #[.val (.int p1), .val (.int p2), .val (.int p3), .val (.int p4), .val (.int p5), .val (.int (p1 &&& (3 : Int32))), .unset, .unset, .unset, .unset, .unset, .unset, .unset, .unset, .unset, .unset] []) := fun t kt => K0 t (by
    show Steps p.tables e below (s₁.setTop (mkF m 0 #[.val (.int p1), .val (.int p2), .val (.int p3), .val (.int p4), .val (.int p5), .unset, .unset, .unset, .unset, .unset, .unset, .unset, .unset, .unset, .unset, .unset] [])) _
    refine XS.iloadN X0.here hx rfl (hb hby at_0) rfl ?_
    show Steps p.tables e below (s₁.setTop (mkF m 1 #[.val (.int p1), .val (.int p2), .val (.int p3), .val (.int p4), .val (.int p5), .unset, .unset, .unset, .unset, .unset, .unset, .unset, .unset, .unset, .unset, .unset] [(.int p1)])) _
    refine XS.iconst X0.here hx rfl (hb hby at_1) ?_
    show Steps p.tables e below (s₁.setTop (mkF m 2 #[.val (.int p1), .val (.int p2), .val (.int p3), .val (.int p4), .val (.int p5), .unset, .unset, .unset, .unset, .unset, .unset, .unset, .unset, .unset, .unset, .unset] [(.int (3 : Int32)), (.int p1)])) _
    refine XS.iand X0.here hx rfl (hb hby at_2) rfl ?_
    show Steps p.tables e below (s₁.setTop (mkF m 3 #[.val (.int p1), .val (.int p2), .val (.int p3), .val (.int p4), .val (.int p5), .unset, .unset, .unset, .unset, .unset, .unset, .unset, .unset, .unset, .unset, .unset] [(.int (p1 &&& (3 : Int32)))])) _
    refine XS.istore X0.here hx rfl (hb hby at_3) rfl (l' := #[.val (.int p1), .val (.int p2), .val (.int p3), .val (.int p4), .val (.int p5), .val (.int (p1 &&& (3 : Int32))), .unset, .unset, .unset, .unset, .unset, .unset, .unset, .unset, .unset, .unset]) rfl ?_
    exact kt)
  rw [ha_] at K1
  have K2 : Gx p e below s₁ f0 s₁ (mkF m 10 #[.val (.int p1), .val (.int p2), .val (.int p3), .val (.int p4), .val (.int p5), .val (.int (0 : Int32)), .val (.int (p2 &&& (3 : Int32))), .unset, .unset, .unset, .unset, .unset, .unset, .unset, .unset, .unset] []) := fun t kt => K1 t (by
    show Steps p.tables e below (s₁.setTop (mkF m 5 #[.val (.int p1), .val (.int p2), .val (.int p3), .val (.int p4), .val (.int p5), .val (.int (0 : Int32)), .unset, .unset, .unset, .unset, .unset, .unset, .unset, .unset, .unset, .unset] [])) _
    refine XS.iloadN X0.here hx rfl (hb hby at_5) rfl ?_
    show Steps p.tables e below (s₁.setTop (mkF m 6 #[.val (.int p1), .val (.int p2), .val (.int p3), .val (.int p4), .val (.int p5), .val (.int (0 : Int32)), .unset, .unset, .unset, .unset, .unset, .unset, .unset, .unset, .unset, .unset] [(.int p2)])) _
    refine XS.iconst X0.here hx rfl (hb hby at_6) ?_
    show Steps p.tables e below (s₁.setTop (mkF m 7 #[.val (.int p1), .val (.int p2), .val (.int p3), .val (.int p4), .val (.int p5), .val (.int (0 : Int32)), .unset, .unset, .unset, .unset, .unset, .unset, .unset, .unset, .unset, .unset] [(.int (3 : Int32)), (.int p2)])) _
    refine XS.iand X0.here hx rfl (hb hby at_7) rfl ?_
    show Steps p.tables e below (s₁.setTop (mkF m 8 #[.val (.int p1), .val (.int p2), .val (.int p3), .val (.int p4), .val (.int p5), .val (.int (0 : Int32)), .unset, .unset, .unset, .unset, .unset, .unset, .unset, .unset, .unset, .unset] [(.int (p2 &&& (3 : Int32)))])) _
    refine XS.istore X0.here hx rfl (hb hby at_8) rfl (l' := #[.val (.int p1), .val (.int p2), .val (.int p3), .val (.int p4), .val (.int p5), .val (.int (0 : Int32)), .val (.int (p2 &&& (3 : Int32))), .unset, .unset, .unset, .unset, .unset, .unset, .unset, .unset, .unset]) rfl ?_
    exact kt)
  obtain ⟨v3, hv3⟩ : ∃ z : Int32, z = (p2 &&& (3 : Int32)) := ⟨_, rfl⟩
  rw [← hv3] at K2
  have hc1 := own_and3 p2
  rw [← hv3] at hc1
  have K4 : Gx p e below s₁ f0 s₁ (mkF m 15 #[.val (.int p1), .val (.int p2), .val (.int p3), .val (.int p4), .val (.int p5), .val (.int (0 : Int32)), .val (.int v3), .val (.int (p3 &&& (3 : Int32))), .unset, .unset, .unset, .unset, .unset, .unset, .unset, .unset] []) := fun t kt => K2 t (by
    show Steps p.tables e below (s₁.setTop (mkF m 10 #[.val (.int p1), .val (.int p2), .val (.int p3), .val (.int p4), .val (.int p5), .val (.int (0 : Int32)), .val (.int v3), .unset, .unset, .unset, .unset, .unset, .unset, .unset, .unset, .unset] [])) _
    refine XS.iloadN X0.here hx rfl (hb hby at_10) rfl ?_
    show Steps p.tables e below (s₁.setTop (mkF m 11 #[.val (.int p1), .val (.int p2), .val (.int p3), .val (.int p4), .val (.int p5), .val (.int (0 : Int32)), .val (.int v3), .unset, .unset, .unset, .unset, .unset, .unset, .unset, .unset, .unset] [(.int p3)])) _
    refine XS.iconst X0.here hx rfl (hb hby at_11) ?_
    show Steps p.tables e below (s₁.setTop (mkF m 12 #[.val (.int p1), .val (.int p2), .val (.int p3), .val (.int p4), .val (.int p5), .val (.int (0 : Int32)), .val (.int v3), .unset, .unset, .unset, .unset, .unset, .unset, .unset, .unset, .unset] [(.int (3 : Int32)), (.int p3)])) _
    refine XS.iand X0.here hx rfl (hb hby at_12) rfl ?_
    show Steps p.tables e below (s₁.setTop (mkF m 13 #[.val (.int p1), .val (.int p2), .val (.int p3), .val (.int p4), .val (.int p5), .val (.int (0 : Int32)), .val (.int v3), .unset, .unset, .unset, .unset, .unset, .unset, .unset, .unset, .unset] [(.int (p3 &&& (3 : Int32)))])) _
    refine XS.istore X0.here hx rfl (hb hby at_13) rfl (l' := #[.val (.int p1), .val (.int p2), .val (.int p3), .val (.int p4), .val (.int p5), .val (.int (0 : Int32)), .val (.int v3), .val (.int (p3 &&& (3 : Int32))), .unset, .unset, .unset, .unset, .unset, .unset, .unset, .unset]) rfl ?_
    exact kt)
  obtain ⟨v5, hv5⟩ : ∃ z : Int32, z = (p3 &&& (3 : Int32)) := ⟨_, rfl⟩
  rw [← hv5] at K4
  have hc2 := own_and3 p3
  rw [← hv5] at hc2
  have K6 : Gx p e below s₁ f0 s₁ (mkF m 20 #[.val (.int p1), .val (.int p2), .val (.int p3), .val (.int p4), .val (.int p5), .val (.int (0 : Int32)), .val (.int v3), .val (.int v5), .val (.int (p4 &&& (1 : Int32))), .unset, .unset, .unset, .unset, .unset, .unset, .unset] []) := fun t kt => K4 t (by
    show Steps p.tables e below (s₁.setTop (mkF m 15 #[.val (.int p1), .val (.int p2), .val (.int p3), .val (.int p4), .val (.int p5), .val (.int (0 : Int32)), .val (.int v3), .val (.int v5), .unset, .unset, .unset, .unset, .unset, .unset, .unset, .unset] [])) _
    refine XS.iloadN X0.here hx rfl (hb hby at_15) rfl ?_
    show Steps p.tables e below (s₁.setTop (mkF m 16 #[.val (.int p1), .val (.int p2), .val (.int p3), .val (.int p4), .val (.int p5), .val (.int (0 : Int32)), .val (.int v3), .val (.int v5), .unset, .unset, .unset, .unset, .unset, .unset, .unset, .unset] [(.int p4)])) _
    refine XS.iconst X0.here hx rfl (hb hby at_16) ?_
    show Steps p.tables e below (s₁.setTop (mkF m 17 #[.val (.int p1), .val (.int p2), .val (.int p3), .val (.int p4), .val (.int p5), .val (.int (0 : Int32)), .val (.int v3), .val (.int v5), .unset, .unset, .unset, .unset, .unset, .unset, .unset, .unset] [(.int (1 : Int32)), (.int p4)])) _
    refine XS.iand X0.here hx rfl (hb hby at_17) rfl ?_
    show Steps p.tables e below (s₁.setTop (mkF m 18 #[.val (.int p1), .val (.int p2), .val (.int p3), .val (.int p4), .val (.int p5), .val (.int (0 : Int32)), .val (.int v3), .val (.int v5), .unset, .unset, .unset, .unset, .unset, .unset, .unset, .unset] [(.int (p4 &&& (1 : Int32)))])) _
    refine XS.istore X0.here hx rfl (hb hby at_18) rfl (l' := #[.val (.int p1), .val (.int p2), .val (.int p3), .val (.int p4), .val (.int p5), .val (.int (0 : Int32)), .val (.int v3), .val (.int v5), .val (.int (p4 &&& (1 : Int32))), .unset, .unset, .unset, .unset, .unset, .unset, .unset]) rfl ?_
    exact kt)
  obtain ⟨v7, hv7⟩ : ∃ z : Int32, z = (p4 &&& (1 : Int32)) := ⟨_, rfl⟩
  rw [← hv7] at K6
  have K8 : Gx p e below s₁ f0 s₁ (mkF m 22 #[.val (.int p1), .val (.int p2), .val (.int p3), .val (.int p4), .val (.int p5), .val (.int (0 : Int32)), .val (.int v3), .val (.int v5), .val (.int v7), .unset, .unset, .unset, .unset, .unset, .unset, .unset] [(.int (8 : Int32))]) := fun t kt => K6 t (by
    show Steps p.tables e below (s₁.setTop (mkF m 20 #[.val (.int p1), .val (.int p2), .val (.int p3), .val (.int p4), .val (.int p5), .val (.int (0 : Int32)), .val (.int v3), .val (.int v5), .val (.int v7), .unset, .unset, .unset, .unset, .unset, .unset, .unset] [])) _
    refine XS.bipush X0.here hx rfl (hb hby at_20) ?_
    exact kt)
  obtain ⟨T9, h9, k9, X9, e9, E9, A9, st9⟩ := newP X0 hx hZ (hw _ (List.mem_of_getElem? (i := 0) rfl)) e0 (g := (mkF m 22 #[.val (.int p1), .val (.int p2), .val (.int p3), .val (.int p4), .val (.int p5), .val (.int (0 : Int32)), .val (.int v3), .val (.int v5), .val (.int v7), .unset, .unset, .unset, .unset, .unset, .unset, .unset] [(.int (8 : Int32))])) rfl (hb hby at_22) rfl (by decide) (cap := 8) (by decide) (by decide) (by decide) (by decide)
  obtain ⟨b9, g9⟩ : ∃ z, z = h0.size := ⟨_, rfl⟩
  rw [← g9] at A9 st9
  have V9 : Arv Z h9 b9 k9 .int (8 : Int32) [(.int (0 : Int32)), (.int (0 : Int32)), (.int (0 : Int32)), (.int (0 : Int32)), (.int (0 : Int32)), (.int (0 : Int32)), (.int (0 : Int32)), (.int (0 : Int32))] (.int (0 : Int32)) := (Arv.new A9 (by decide)).pad (pad_rep [] (.int (0 : Int32)) 8)
  have K10 : Gx p e below s₁ f0 T9 (mkF m 24 #[.val (.int p1), .val (.int p2), .val (.int p3), .val (.int p4), .val (.int p5), .val (.int (0 : Int32)), .val (.int v3), .val (.int v5), .val (.int v7), .unset, .unset, .unset, .unset, .unset, .unset, .unset] [(.ref b9)]) := fun t kt => K8 t (st9 t kt)
  have K11 : Gx p e below s₁ f0 T9 (mkF m 31 #[.val (.int p1), .val (.int p2), .val (.int p3), .val (.int p4), .val (.int p5), .val (.int (0 : Int32)), .val (.int v3), .val (.int v5), .val (.int v7), .val (.ref b9), .unset, .unset, .unset, .unset, .unset, .unset] [(.int p5), (.int (0 : Int32)), (.ref b9)]) := fun t kt => K10 t (by
    show Steps p.tables e below (T9.setTop (mkF m 24 #[.val (.int p1), .val (.int p2), .val (.int p3), .val (.int p4), .val (.int p5), .val (.int (0 : Int32)), .val (.int v3), .val (.int v5), .val (.int v7), .unset, .unset, .unset, .unset, .unset, .unset, .unset] [(.ref b9)])) _
    refine XS.astore X9.here hx rfl (hb hby at_24) rfl rfl (l' := #[.val (.int p1), .val (.int p2), .val (.int p3), .val (.int p4), .val (.int p5), .val (.int (0 : Int32)), .val (.int v3), .val (.int v5), .val (.int v7), .val (.ref b9), .unset, .unset, .unset, .unset, .unset, .unset]) rfl ?_
    show Steps p.tables e below (T9.setTop (mkF m 26 #[.val (.int p1), .val (.int p2), .val (.int p3), .val (.int p4), .val (.int p5), .val (.int (0 : Int32)), .val (.int v3), .val (.int v5), .val (.int v7), .val (.ref b9), .unset, .unset, .unset, .unset, .unset, .unset] [])) _
    refine XS.aload X9.here hx rfl (hb hby at_26) rfl rfl ?_
    show Steps p.tables e below (T9.setTop (mkF m 28 #[.val (.int p1), .val (.int p2), .val (.int p3), .val (.int p4), .val (.int p5), .val (.int (0 : Int32)), .val (.int v3), .val (.int v5), .val (.int v7), .val (.ref b9), .unset, .unset, .unset, .unset, .unset, .unset] [(.ref b9)])) _
    refine XS.iconst X9.here hx rfl (hb hby at_28) ?_
    show Steps p.tables e below (T9.setTop (mkF m 29 #[.val (.int p1), .val (.int p2), .val (.int p3), .val (.int p4), .val (.int p5), .val (.int (0 : Int32)), .val (.int v3), .val (.int v5), .val (.int v7), .val (.ref b9), .unset, .unset, .unset, .unset, .unset, .unset] [(.int (0 : Int32)), (.ref b9)])) _
    refine XS.iload X9.here hx rfl (hb hby at_29) rfl ?_
    exact kt)
  obtain ⟨clq12, Arq12, ckq12, cSq12, cNq12, cHq12, cGq12⟩ := id V9
  obtain ⟨T13, h13, X13', e13, W13, st13⟩ := stI X9 hx hZ e9 Arq12 (j := (0 : Int32)) (inb_of cSq12 ⟨by decide, by decide⟩) (g := (mkF m 31 #[.val (.int p1), .val (.int p2), .val (.int p3), .val (.int p4), .val (.int p5), .val (.int (0 : Int32)), .val (.int v3), .val (.int v5), .val (.int v7), .val (.ref b9), .unset, .unset, .unset, .unset, .unset, .unset] [(.int p5), (.int (0 : Int32)), (.ref b9)])) rfl rfl (hb hby at_31)
  obtain ⟨lc13, X13, N13⟩ : ∃ lc, Stand p l e room_1 s m #[(.int p1), (.int p2), (.int p3), (.int p4), (.int p5)] below meth c T13 lc 1 8 ∧ Fr n0 lc := ⟨_, X13', Fr.snoc X13' N0 (Nat.le_trans Z0 (Nat.le_trans (Keep.refl h0 []).1 (Nat.le_of_eq g9.symm)))⟩
  have V13 : Arv Z h13 b9 k9 .int (8 : Int32) [(.int p5), (.int (0 : Int32)), (.int (0 : Int32)), (.int (0 : Int32)), (.int (0 : Int32)), (.int (0 : Int32)), (.int (0 : Int32)), (.int (0 : Int32))] (.int (0 : Int32)) := Arv.set Arq12 ckq12 cSq12 cNq12 cHq12 cGq12 rfl W13 0 rfl (Nat.le_of_ble_eq_true rfl)
  have K14 : Gx p e below s₁ f0 T13 (mkF m 32 #[.val (.int p1), .val (.int p2), .val (.int p3), .val (.int p4), .val (.int p5), .val (.int (0 : Int32)), .val (.int v3), .val (.int v5), .val (.int v7), .val (.ref b9), .unset, .unset, .unset, .unset, .unset, .unset] []) := fun t kt => K11 t (st13 t kt)
  have K15 : Gx p e below s₁ f0 T13 (mkF m 39 #[.val (.int p1), .val (.int p2), .val (.int p3), .val (.int p4), .val (.int p5), .val (.int (0 : Int32)), .val (.int v3), .val (.int v5), .val (.int v7), .val (.ref b9), .unset, .unset, .unset, .unset, .unset, .unset] [(.int (p5 + (1 : Int32))), (.int (1 : Int32)), (.ref b9)]) := fun t kt => K14 t (by
    show Steps p.tables e below (T13.setTop (mkF m 32 #[.val (.int p1), .val (.int p2), .val (.int p3), .val (.int p4), .val (.int p5), .val (.int (0 : Int32)), .val (.int v3), .val (.int v5), .val (.int v7), .val (.ref b9), .unset, .unset, .unset, .unset, .unset, .unset] [])) _
    refine XS.aload X13.here hx rfl (hb hby at_32) rfl rfl ?_
    show Steps p.tables e below (T13.setTop (mkF m 34 #[.val (.int p1), .val (.int p2), .val (.int p3), .val (.int p4), .val (.int p5), .val (.int (0 : Int32)), .val (.int v3), .val (.int v5), .val (.int v7), .val (.ref b9), .unset, .unset, .unset, .unset, .unset, .unset] [(.ref b9)])) _
    refine XS.iconst X13.here hx rfl (hb hby at_34) ?_
    show Steps p.tables e below (T13.setTop (mkF m 35 #[.val (.int p1), .val (.int p2), .val (.int p3), .val (.int p4), .val (.int p5), .val (.int (0 : Int32)), .val (.int v3), .val (.int v5), .val (.int v7), .val (.ref b9), .unset, .unset, .unset, .unset, .unset, .unset] [(.int (1 : Int32)), (.ref b9)])) _
    refine XS.iload X13.here hx rfl (hb hby at_35) rfl ?_
    show Steps p.tables e below (T13.setTop (mkF m 37 #[.val (.int p1), .val (.int p2), .val (.int p3), .val (.int p4), .val (.int p5), .val (.int (0 : Int32)), .val (.int v3), .val (.int v5), .val (.int v7), .val (.ref b9), .unset, .unset, .unset, .unset, .unset, .unset] [(.int p5), (.int (1 : Int32)), (.ref b9)])) _
    refine XS.iconst X13.here hx rfl (hb hby at_37) ?_
    show Steps p.tables e below (T13.setTop (mkF m 38 #[.val (.int p1), .val (.int p2), .val (.int p3), .val (.int p4), .val (.int p5), .val (.int (0 : Int32)), .val (.int v3), .val (.int v5), .val (.int v7), .val (.ref b9), .unset, .unset, .unset, .unset, .unset, .unset] [(.int (1 : Int32)), (.int p5), (.int (1 : Int32)), (.ref b9)])) _
    refine XS.iadd X13.here hx rfl (hb hby at_38) rfl ?_
    exact kt)
  obtain ⟨clq16, Arq16, ckq16, cSq16, cNq16, cHq16, cGq16⟩ := id V13
  obtain ⟨T17, h17, X17', e17, W17, st17⟩ := stI X13 hx hZ e13 Arq16 (j := (1 : Int32)) (inb_of cSq16 ⟨by decide, by decide⟩) (g := (mkF m 39 #[.val (.int p1), .val (.int p2), .val (.int p3), .val (.int p4), .val (.int p5), .val (.int (0 : Int32)), .val (.int v3), .val (.int v5), .val (.int v7), .val (.ref b9), .unset, .unset, .unset, .unset, .unset, .unset] [(.int (p5 + (1 : Int32))), (.int (1 : Int32)), (.ref b9)])) rfl rfl (hb hby at_39)
  obtain ⟨lc17, X17, N17⟩ : ∃ lc, Stand p l e room_1 s m #[(.int p1), (.int p2), (.int p3), (.int p4), (.int p5)] below meth c T17 lc 1 8 ∧ Fr n0 lc := ⟨_, X17', Fr.snoc X17' N13 (Nat.le_trans Z0 (Nat.le_trans (Keep.refl h0 []).1 (Nat.le_of_eq g9.symm)))⟩
  have V17 : Arv Z h17 b9 k9 .int (8 : Int32) [(.int p5), (.int (p5 + (1 : Int32))), (.int (0 : Int32)), (.int (0 : Int32)), (.int (0 : Int32)), (.int (0 : Int32)), (.int (0 : Int32)), (.int (0 : Int32))] (.int (0 : Int32)) := Arv.set Arq16 ckq16 cSq16 cNq16 cHq16 cGq16 rfl W17 1 rfl (Nat.le_of_ble_eq_true rfl)
  have K18 : Gx p e below s₁ f0 T17 (mkF m 40 #[.val (.int p1), .val (.int p2), .val (.int p3), .val (.int p4), .val (.int p5), .val (.int (0 : Int32)), .val (.int v3), .val (.int v5), .val (.int v7), .val (.ref b9), .unset, .unset, .unset, .unset, .unset, .unset] []) := fun t kt => K15 t (st17 t kt)
  have K19 : Gx p e below s₁ f0 T17 (mkF m 47 #[.val (.int p1), .val (.int p2), .val (.int p3), .val (.int p4), .val (.int p5), .val (.int (0 : Int32)), .val (.int v3), .val (.int v5), .val (.int v7), .val (.ref b9), .unset, .unset, .unset, .unset, .unset, .unset] [(.int (p5 + (2 : Int32))), (.int (2 : Int32)), (.ref b9)]) := fun t kt => K18 t (by
    show Steps p.tables e below (T17.setTop (mkF m 40 #[.val (.int p1), .val (.int p2), .val (.int p3), .val (.int p4), .val (.int p5), .val (.int (0 : Int32)), .val (.int v3), .val (.int v5), .val (.int v7), .val (.ref b9), .unset, .unset, .unset, .unset, .unset, .unset] [])) _
    refine XS.aload X17.here hx rfl (hb hby at_40) rfl rfl ?_
    show Steps p.tables e below (T17.setTop (mkF m 42 #[.val (.int p1), .val (.int p2), .val (.int p3), .val (.int p4), .val (.int p5), .val (.int (0 : Int32)), .val (.int v3), .val (.int v5), .val (.int v7), .val (.ref b9), .unset, .unset, .unset, .unset, .unset, .unset] [(.ref b9)])) _
    refine XS.iconst X17.here hx rfl (hb hby at_42) ?_
    show Steps p.tables e below (T17.setTop (mkF m 43 #[.val (.int p1), .val (.int p2), .val (.int p3), .val (.int p4), .val (.int p5), .val (.int (0 : Int32)), .val (.int v3), .val (.int v5), .val (.int v7), .val (.ref b9), .unset, .unset, .unset, .unset, .unset, .unset] [(.int (2 : Int32)), (.ref b9)])) _
    refine XS.iload X17.here hx rfl (hb hby at_43) rfl ?_
    show Steps p.tables e below (T17.setTop (mkF m 45 #[.val (.int p1), .val (.int p2), .val (.int p3), .val (.int p4), .val (.int p5), .val (.int (0 : Int32)), .val (.int v3), .val (.int v5), .val (.int v7), .val (.ref b9), .unset, .unset, .unset, .unset, .unset, .unset] [(.int p5), (.int (2 : Int32)), (.ref b9)])) _
    refine XS.iconst X17.here hx rfl (hb hby at_45) ?_
    show Steps p.tables e below (T17.setTop (mkF m 46 #[.val (.int p1), .val (.int p2), .val (.int p3), .val (.int p4), .val (.int p5), .val (.int (0 : Int32)), .val (.int v3), .val (.int v5), .val (.int v7), .val (.ref b9), .unset, .unset, .unset, .unset, .unset, .unset] [(.int (2 : Int32)), (.int p5), (.int (2 : Int32)), (.ref b9)])) _
    refine XS.iadd X17.here hx rfl (hb hby at_46) rfl ?_
    exact kt)
  obtain ⟨clq20, Arq20, ckq20, cSq20, cNq20, cHq20, cGq20⟩ := id V17
  obtain ⟨T21, h21, X21', e21, W21, st21⟩ := stI X17 hx hZ e17 Arq20 (j := (2 : Int32)) (inb_of cSq20 ⟨by decide, by decide⟩) (g := (mkF m 47 #[.val (.int p1), .val (.int p2), .val (.int p3), .val (.int p4), .val (.int p5), .val (.int (0 : Int32)), .val (.int v3), .val (.int v5), .val (.int v7), .val (.ref b9), .unset, .unset, .unset, .unset, .unset, .unset] [(.int (p5 + (2 : Int32))), (.int (2 : Int32)), (.ref b9)])) rfl rfl (hb hby at_47)
  obtain ⟨lc21, X21, N21⟩ : ∃ lc, Stand p l e room_1 s m #[(.int p1), (.int p2), (.int p3), (.int p4), (.int p5)] below meth c T21 lc 1 8 ∧ Fr n0 lc := ⟨_, X21', Fr.snoc X21' N17 (Nat.le_trans Z0 (Nat.le_trans (Keep.refl h0 []).1 (Nat.le_of_eq g9.symm)))⟩
  have V21 : Arv Z h21 b9 k9 .int (8 : Int32) [(.int p5), (.int (p5 + (1 : Int32))), (.int (p5 + (2 : Int32))), (.int (0 : Int32)), (.int (0 : Int32)), (.int (0 : Int32)), (.int (0 : Int32)), (.int (0 : Int32))] (.int (0 : Int32)) := Arv.set Arq20 ckq20 cSq20 cNq20 cHq20 cGq20 rfl W21 2 rfl (Nat.le_of_ble_eq_true rfl)
  have K22 : Gx p e below s₁ f0 T21 (mkF m 48 #[.val (.int p1), .val (.int p2), .val (.int p3), .val (.int p4), .val (.int p5), .val (.int (0 : Int32)), .val (.int v3), .val (.int v5), .val (.int v7), .val (.ref b9), .unset, .unset, .unset, .unset, .unset, .unset] []) := fun t kt => K19 t (st21 t kt)
  have K23 : Gx p e below s₁ f0 T21 (mkF m 55 #[.val (.int p1), .val (.int p2), .val (.int p3), .val (.int p4), .val (.int p5), .val (.int (0 : Int32)), .val (.int v3), .val (.int v5), .val (.int v7), .val (.ref b9), .unset, .unset, .unset, .unset, .unset, .unset] [(.int (p5 + (3 : Int32))), (.int (3 : Int32)), (.ref b9)]) := fun t kt => K22 t (by
    show Steps p.tables e below (T21.setTop (mkF m 48 #[.val (.int p1), .val (.int p2), .val (.int p3), .val (.int p4), .val (.int p5), .val (.int (0 : Int32)), .val (.int v3), .val (.int v5), .val (.int v7), .val (.ref b9), .unset, .unset, .unset, .unset, .unset, .unset] [])) _
    refine XS.aload X21.here hx rfl (hb hby at_48) rfl rfl ?_
    show Steps p.tables e below (T21.setTop (mkF m 50 #[.val (.int p1), .val (.int p2), .val (.int p3), .val (.int p4), .val (.int p5), .val (.int (0 : Int32)), .val (.int v3), .val (.int v5), .val (.int v7), .val (.ref b9), .unset, .unset, .unset, .unset, .unset, .unset] [(.ref b9)])) _
    refine XS.iconst X21.here hx rfl (hb hby at_50) ?_
    show Steps p.tables e below (T21.setTop (mkF m 51 #[.val (.int p1), .val (.int p2), .val (.int p3), .val (.int p4), .val (.int p5), .val (.int (0 : Int32)), .val (.int v3), .val (.int v5), .val (.int v7), .val (.ref b9), .unset, .unset, .unset, .unset, .unset, .unset] [(.int (3 : Int32)), (.ref b9)])) _
    refine XS.iload X21.here hx rfl (hb hby at_51) rfl ?_
    show Steps p.tables e below (T21.setTop (mkF m 53 #[.val (.int p1), .val (.int p2), .val (.int p3), .val (.int p4), .val (.int p5), .val (.int (0 : Int32)), .val (.int v3), .val (.int v5), .val (.int v7), .val (.ref b9), .unset, .unset, .unset, .unset, .unset, .unset] [(.int p5), (.int (3 : Int32)), (.ref b9)])) _
    refine XS.iconst X21.here hx rfl (hb hby at_53) ?_
    show Steps p.tables e below (T21.setTop (mkF m 54 #[.val (.int p1), .val (.int p2), .val (.int p3), .val (.int p4), .val (.int p5), .val (.int (0 : Int32)), .val (.int v3), .val (.int v5), .val (.int v7), .val (.ref b9), .unset, .unset, .unset, .unset, .unset, .unset] [(.int (3 : Int32)), (.int p5), (.int (3 : Int32)), (.ref b9)])) _
    refine XS.iadd X21.here hx rfl (hb hby at_54) rfl ?_
    exact kt)
  obtain ⟨clq24, Arq24, ckq24, cSq24, cNq24, cHq24, cGq24⟩ := id V21
  obtain ⟨T25, h25, X25', e25, W25, st25⟩ := stI X21 hx hZ e21 Arq24 (j := (3 : Int32)) (inb_of cSq24 ⟨by decide, by decide⟩) (g := (mkF m 55 #[.val (.int p1), .val (.int p2), .val (.int p3), .val (.int p4), .val (.int p5), .val (.int (0 : Int32)), .val (.int v3), .val (.int v5), .val (.int v7), .val (.ref b9), .unset, .unset, .unset, .unset, .unset, .unset] [(.int (p5 + (3 : Int32))), (.int (3 : Int32)), (.ref b9)])) rfl rfl (hb hby at_55)
  obtain ⟨lc25, X25, N25⟩ : ∃ lc, Stand p l e room_1 s m #[(.int p1), (.int p2), (.int p3), (.int p4), (.int p5)] below meth c T25 lc 1 8 ∧ Fr n0 lc := ⟨_, X25', Fr.snoc X25' N21 (Nat.le_trans Z0 (Nat.le_trans (Keep.refl h0 []).1 (Nat.le_of_eq g9.symm)))⟩
  have V25 : Arv Z h25 b9 k9 .int (8 : Int32) [(.int p5), (.int (p5 + (1 : Int32))), (.int (p5 + (2 : Int32))), (.int (p5 + (3 : Int32))), (.int (0 : Int32)), (.int (0 : Int32)), (.int (0 : Int32)), (.int (0 : Int32))] (.int (0 : Int32)) := Arv.set Arq24 ckq24 cSq24 cNq24 cHq24 cGq24 rfl W25 3 rfl (Nat.le_of_ble_eq_true rfl)
  have K26 : Gx p e below s₁ f0 T25 (mkF m 56 #[.val (.int p1), .val (.int p2), .val (.int p3), .val (.int p4), .val (.int p5), .val (.int (0 : Int32)), .val (.int v3), .val (.int v5), .val (.int v7), .val (.ref b9), .unset, .unset, .unset, .unset, .unset, .unset] []) := fun t kt => K23 t (st25 t kt)
  have K27 : Gx p e below s₁ f0 T25 (mkF m 63 #[.val (.int p1), .val (.int p2), .val (.int p3), .val (.int p4), .val (.int p5), .val (.int (0 : Int32)), .val (.int v3), .val (.int v5), .val (.int v7), .val (.ref b9), .unset, .unset, .unset, .unset, .unset, .unset] [(.int (p5 + (4 : Int32))), (.int (4 : Int32)), (.ref b9)]) := fun t kt => K26 t (by
    show Steps p.tables e below (T25.setTop (mkF m 56 #[.val (.int p1), .val (.int p2), .val (.int p3), .val (.int p4), .val (.int p5), .val (.int (0 : Int32)), .val (.int v3), .val (.int v5), .val (.int v7), .val (.ref b9), .unset, .unset, .unset, .unset, .unset, .unset] [])) _
    refine XS.aload X25.here hx rfl (hb hby at_56) rfl rfl ?_
    show Steps p.tables e below (T25.setTop (mkF m 58 #[.val (.int p1), .val (.int p2), .val (.int p3), .val (.int p4), .val (.int p5), .val (.int (0 : Int32)), .val (.int v3), .val (.int v5), .val (.int v7), .val (.ref b9), .unset, .unset, .unset, .unset, .unset, .unset] [(.ref b9)])) _
    refine XS.iconst X25.here hx rfl (hb hby at_58) ?_
    show Steps p.tables e below (T25.setTop (mkF m 59 #[.val (.int p1), .val (.int p2), .val (.int p3), .val (.int p4), .val (.int p5), .val (.int (0 : Int32)), .val (.int v3), .val (.int v5), .val (.int v7), .val (.ref b9), .unset, .unset, .unset, .unset, .unset, .unset] [(.int (4 : Int32)), (.ref b9)])) _
    refine XS.iload X25.here hx rfl (hb hby at_59) rfl ?_
    show Steps p.tables e below (T25.setTop (mkF m 61 #[.val (.int p1), .val (.int p2), .val (.int p3), .val (.int p4), .val (.int p5), .val (.int (0 : Int32)), .val (.int v3), .val (.int v5), .val (.int v7), .val (.ref b9), .unset, .unset, .unset, .unset, .unset, .unset] [(.int p5), (.int (4 : Int32)), (.ref b9)])) _
    refine XS.iconst X25.here hx rfl (hb hby at_61) ?_
    show Steps p.tables e below (T25.setTop (mkF m 62 #[.val (.int p1), .val (.int p2), .val (.int p3), .val (.int p4), .val (.int p5), .val (.int (0 : Int32)), .val (.int v3), .val (.int v5), .val (.int v7), .val (.ref b9), .unset, .unset, .unset, .unset, .unset, .unset] [(.int (4 : Int32)), (.int p5), (.int (4 : Int32)), (.ref b9)])) _
    refine XS.iadd X25.here hx rfl (hb hby at_62) rfl ?_
    exact kt)
  obtain ⟨clq28, Arq28, ckq28, cSq28, cNq28, cHq28, cGq28⟩ := id V25
  obtain ⟨T29, h29, X29', e29, W29, st29⟩ := stI X25 hx hZ e25 Arq28 (j := (4 : Int32)) (inb_of cSq28 ⟨by decide, by decide⟩) (g := (mkF m 63 #[.val (.int p1), .val (.int p2), .val (.int p3), .val (.int p4), .val (.int p5), .val (.int (0 : Int32)), .val (.int v3), .val (.int v5), .val (.int v7), .val (.ref b9), .unset, .unset, .unset, .unset, .unset, .unset] [(.int (p5 + (4 : Int32))), (.int (4 : Int32)), (.ref b9)])) rfl rfl (hb hby at_63)
  obtain ⟨lc29, X29, N29⟩ : ∃ lc, Stand p l e room_1 s m #[(.int p1), (.int p2), (.int p3), (.int p4), (.int p5)] below meth c T29 lc 1 8 ∧ Fr n0 lc := ⟨_, X29', Fr.snoc X29' N25 (Nat.le_trans Z0 (Nat.le_trans (Keep.refl h0 []).1 (Nat.le_of_eq g9.symm)))⟩
  have V29 : Arv Z h29 b9 k9 .int (8 : Int32) [(.int p5), (.int (p5 + (1 : Int32))), (.int (p5 + (2 : Int32))), (.int (p5 + (3 : Int32))), (.int (p5 + (4 : Int32))), (.int (0 : Int32)), (.int (0 : Int32)), (.int (0 : Int32))] (.int (0 : Int32)) := Arv.set Arq28 ckq28 cSq28 cNq28 cHq28 cGq28 rfl W29 4 rfl (Nat.le_of_ble_eq_true rfl)
  have K30 : Gx p e below s₁ f0 T29 (mkF m 64 #[.val (.int p1), .val (.int p2), .val (.int p3), .val (.int p4), .val (.int p5), .val (.int (0 : Int32)), .val (.int v3), .val (.int v5), .val (.int v7), .val (.ref b9), .unset, .unset, .unset, .unset, .unset, .unset] []) := fun t kt => K27 t (st29 t kt)
  have K31 : Gx p e below s₁ f0 T29 (mkF m 71 #[.val (.int p1), .val (.int p2), .val (.int p3), .val (.int p4), .val (.int p5), .val (.int (0 : Int32)), .val (.int v3), .val (.int v5), .val (.int v7), .val (.ref b9), .unset, .unset, .unset, .unset, .unset, .unset] [(.int (p5 + (5 : Int32))), (.int (5 : Int32)), (.ref b9)]) := fun t kt => K30 t (by
    show Steps p.tables e below (T29.setTop (mkF m 64 #[.val (.int p1), .val (.int p2), .val (.int p3), .val (.int p4), .val (.int p5), .val (.int (0 : Int32)), .val (.int v3), .val (.int v5), .val (.int v7), .val (.ref b9), .unset, .unset, .unset, .unset, .unset, .unset] [])) _
    refine XS.aload X29.here hx rfl (hb hby at_64) rfl rfl ?_
    show Steps p.tables e below (T29.setTop (mkF m 66 #[.val (.int p1), .val (.int p2), .val (.int p3), .val (.int p4), .val (.int p5), .val (.int (0 : Int32)), .val (.int v3), .val (.int v5), .val (.int v7), .val (.ref b9), .unset, .unset, .unset, .unset, .unset, .unset] [(.ref b9)])) _
    refine XS.iconst X29.here hx rfl (hb hby at_66) ?_
    show Steps p.tables e below (T29.setTop (mkF m 67 #[.val (.int p1), .val (.int p2), .val (.int p3), .val (.int p4), .val (.int p5), .val (.int (0 : Int32)), .val (.int v3), .val (.int v5), .val (.int v7), .val (.ref b9), .unset, .unset, .unset, .unset, .unset, .unset] [(.int (5 : Int32)), (.ref b9)])) _
    refine XS.iload X29.here hx rfl (hb hby at_67) rfl ?_
    show Steps p.tables e below (T29.setTop (mkF m 69 #[.val (.int p1), .val (.int p2), .val (.int p3), .val (.int p4), .val (.int p5), .val (.int (0 : Int32)), .val (.int v3), .val (.int v5), .val (.int v7), .val (.ref b9), .unset, .unset, .unset, .unset, .unset, .unset] [(.int p5), (.int (5 : Int32)), (.ref b9)])) _
    refine XS.iconst X29.here hx rfl (hb hby at_69) ?_
    show Steps p.tables e below (T29.setTop (mkF m 70 #[.val (.int p1), .val (.int p2), .val (.int p3), .val (.int p4), .val (.int p5), .val (.int (0 : Int32)), .val (.int v3), .val (.int v5), .val (.int v7), .val (.ref b9), .unset, .unset, .unset, .unset, .unset, .unset] [(.int (5 : Int32)), (.int p5), (.int (5 : Int32)), (.ref b9)])) _
    refine XS.iadd X29.here hx rfl (hb hby at_70) rfl ?_
    exact kt)
  obtain ⟨clq32, Arq32, ckq32, cSq32, cNq32, cHq32, cGq32⟩ := id V29
  obtain ⟨T33, h33, X33', e33, W33, st33⟩ := stI X29 hx hZ e29 Arq32 (j := (5 : Int32)) (inb_of cSq32 ⟨by decide, by decide⟩) (g := (mkF m 71 #[.val (.int p1), .val (.int p2), .val (.int p3), .val (.int p4), .val (.int p5), .val (.int (0 : Int32)), .val (.int v3), .val (.int v5), .val (.int v7), .val (.ref b9), .unset, .unset, .unset, .unset, .unset, .unset] [(.int (p5 + (5 : Int32))), (.int (5 : Int32)), (.ref b9)])) rfl rfl (hb hby at_71)
  obtain ⟨lc33, X33, N33⟩ : ∃ lc, Stand p l e room_1 s m #[(.int p1), (.int p2), (.int p3), (.int p4), (.int p5)] below meth c T33 lc 1 8 ∧ Fr n0 lc := ⟨_, X33', Fr.snoc X33' N29 (Nat.le_trans Z0 (Nat.le_trans (Keep.refl h0 []).1 (Nat.le_of_eq g9.symm)))⟩
  have V33 : Arv Z h33 b9 k9 .int (8 : Int32) [(.int p5), (.int (p5 + (1 : Int32))), (.int (p5 + (2 : Int32))), (.int (p5 + (3 : Int32))), (.int (p5 + (4 : Int32))), (.int (p5 + (5 : Int32))), (.int (0 : Int32)), (.int (0 : Int32))] (.int (0 : Int32)) := Arv.set Arq32 ckq32 cSq32 cNq32 cHq32 cGq32 rfl W33 5 rfl (Nat.le_of_ble_eq_true rfl)
  have K34 : Gx p e below s₁ f0 T33 (mkF m 72 #[.val (.int p1), .val (.int p2), .val (.int p3), .val (.int p4), .val (.int p5), .val (.int (0 : Int32)), .val (.int v3), .val (.int v5), .val (.int v7), .val (.ref b9), .unset, .unset, .unset, .unset, .unset, .unset] []) := fun t kt => K31 t (st33 t kt)
  have K35 : Gx p e below s₁ f0 T33 (mkF m 81 #[.val (.int p1), .val (.int p2), .val (.int p3), .val (.int p4), .val (.int p5), .val (.int (0 : Int32)), .val (.int v3), .val (.int v5), .val (.int v7), .val (.ref b9), .unset, .unset, .unset, .unset, .unset, .unset] [(.int (p5 + (6 : Int32))), (.int (6 : Int32)), (.ref b9)]) := fun t kt => K34 t (by
    show Steps p.tables e below (T33.setTop (mkF m 72 #[.val (.int p1), .val (.int p2), .val (.int p3), .val (.int p4), .val (.int p5), .val (.int (0 : Int32)), .val (.int v3), .val (.int v5), .val (.int v7), .val (.ref b9), .unset, .unset, .unset, .unset, .unset, .unset] [])) _
    refine XS.aload X33.here hx rfl (hb hby at_72) rfl rfl ?_
    show Steps p.tables e below (T33.setTop (mkF m 74 #[.val (.int p1), .val (.int p2), .val (.int p3), .val (.int p4), .val (.int p5), .val (.int (0 : Int32)), .val (.int v3), .val (.int v5), .val (.int v7), .val (.ref b9), .unset, .unset, .unset, .unset, .unset, .unset] [(.ref b9)])) _
    refine XS.bipush X33.here hx rfl (hb hby at_74) ?_
    show Steps p.tables e below (T33.setTop (mkF m 76 #[.val (.int p1), .val (.int p2), .val (.int p3), .val (.int p4), .val (.int p5), .val (.int (0 : Int32)), .val (.int v3), .val (.int v5), .val (.int v7), .val (.ref b9), .unset, .unset, .unset, .unset, .unset, .unset] [(.int (6 : Int32)), (.ref b9)])) _
    refine XS.iload X33.here hx rfl (hb hby at_76) rfl ?_
    show Steps p.tables e below (T33.setTop (mkF m 78 #[.val (.int p1), .val (.int p2), .val (.int p3), .val (.int p4), .val (.int p5), .val (.int (0 : Int32)), .val (.int v3), .val (.int v5), .val (.int v7), .val (.ref b9), .unset, .unset, .unset, .unset, .unset, .unset] [(.int p5), (.int (6 : Int32)), (.ref b9)])) _
    refine XS.bipush X33.here hx rfl (hb hby at_78) ?_
    show Steps p.tables e below (T33.setTop (mkF m 80 #[.val (.int p1), .val (.int p2), .val (.int p3), .val (.int p4), .val (.int p5), .val (.int (0 : Int32)), .val (.int v3), .val (.int v5), .val (.int v7), .val (.ref b9), .unset, .unset, .unset, .unset, .unset, .unset] [(.int (6 : Int32)), (.int p5), (.int (6 : Int32)), (.ref b9)])) _
    refine XS.iadd X33.here hx rfl (hb hby at_80) rfl ?_
    exact kt)
  obtain ⟨clq36, Arq36, ckq36, cSq36, cNq36, cHq36, cGq36⟩ := id V33
  obtain ⟨T37, h37, X37', e37, W37, st37⟩ := stI X33 hx hZ e33 Arq36 (j := (6 : Int32)) (inb_of cSq36 ⟨by decide, by decide⟩) (g := (mkF m 81 #[.val (.int p1), .val (.int p2), .val (.int p3), .val (.int p4), .val (.int p5), .val (.int (0 : Int32)), .val (.int v3), .val (.int v5), .val (.int v7), .val (.ref b9), .unset, .unset, .unset, .unset, .unset, .unset] [(.int (p5 + (6 : Int32))), (.int (6 : Int32)), (.ref b9)])) rfl rfl (hb hby at_81)
  obtain ⟨lc37, X37, N37⟩ : ∃ lc, Stand p l e room_1 s m #[(.int p1), (.int p2), (.int p3), (.int p4), (.int p5)] below meth c T37 lc 1 8 ∧ Fr n0 lc := ⟨_, X37', Fr.snoc X37' N33 (Nat.le_trans Z0 (Nat.le_trans (Keep.refl h0 []).1 (Nat.le_of_eq g9.symm)))⟩
  have V37 : Arv Z h37 b9 k9 .int (8 : Int32) [(.int p5), (.int (p5 + (1 : Int32))), (.int (p5 + (2 : Int32))), (.int (p5 + (3 : Int32))), (.int (p5 + (4 : Int32))), (.int (p5 + (5 : Int32))), (.int (p5 + (6 : Int32))), (.int (0 : Int32))] (.int (0 : Int32)) := Arv.set Arq36 ckq36 cSq36 cNq36 cHq36 cGq36 rfl W37 6 rfl (Nat.le_of_ble_eq_true rfl)
  have K38 : Gx p e below s₁ f0 T37 (mkF m 82 #[.val (.int p1), .val (.int p2), .val (.int p3), .val (.int p4), .val (.int p5), .val (.int (0 : Int32)), .val (.int v3), .val (.int v5), .val (.int v7), .val (.ref b9), .unset, .unset, .unset, .unset, .unset, .unset] []) := fun t kt => K35 t (st37 t kt)
  have K39 : Gx p e below s₁ f0 T37 (mkF m 91 #[.val (.int p1), .val (.int p2), .val (.int p3), .val (.int p4), .val (.int p5), .val (.int (0 : Int32)), .val (.int v3), .val (.int v5), .val (.int v7), .val (.ref b9), .unset, .unset, .unset, .unset, .unset, .unset] [(.int (p5 + (7 : Int32))), (.int (7 : Int32)), (.ref b9)]) := fun t kt => K38 t (by
    show Steps p.tables e below (T37.setTop (mkF m 82 #[.val (.int p1), .val (.int p2), .val (.int p3), .val (.int p4), .val (.int p5), .val (.int (0 : Int32)), .val (.int v3), .val (.int v5), .val (.int v7), .val (.ref b9), .unset, .unset, .unset, .unset, .unset, .unset] [])) _
    refine XS.aload X37.here hx rfl (hb hby at_82) rfl rfl ?_
    show Steps p.tables e below (T37.setTop (mkF m 84 #[.val (.int p1), .val (.int p2), .val (.int p3), .val (.int p4), .val (.int p5), .val (.int (0 : Int32)), .val (.int v3), .val (.int v5), .val (.int v7), .val (.ref b9), .unset, .unset, .unset, .unset, .unset, .unset] [(.ref b9)])) _
    refine XS.bipush X37.here hx rfl (hb hby at_84) ?_
    show Steps p.tables e below (T37.setTop (mkF m 86 #[.val (.int p1), .val (.int p2), .val (.int p3), .val (.int p4), .val (.int p5), .val (.int (0 : Int32)), .val (.int v3), .val (.int v5), .val (.int v7), .val (.ref b9), .unset, .unset, .unset, .unset, .unset, .unset] [(.int (7 : Int32)), (.ref b9)])) _
    refine XS.iload X37.here hx rfl (hb hby at_86) rfl ?_
    show Steps p.tables e below (T37.setTop (mkF m 88 #[.val (.int p1), .val (.int p2), .val (.int p3), .val (.int p4), .val (.int p5), .val (.int (0 : Int32)), .val (.int v3), .val (.int v5), .val (.int v7), .val (.ref b9), .unset, .unset, .unset, .unset, .unset, .unset] [(.int p5), (.int (7 : Int32)), (.ref b9)])) _
    refine XS.bipush X37.here hx rfl (hb hby at_88) ?_
    show Steps p.tables e below (T37.setTop (mkF m 90 #[.val (.int p1), .val (.int p2), .val (.int p3), .val (.int p4), .val (.int p5), .val (.int (0 : Int32)), .val (.int v3), .val (.int v5), .val (.int v7), .val (.ref b9), .unset, .unset, .unset, .unset, .unset, .unset] [(.int (7 : Int32)), (.int p5), (.int (7 : Int32)), (.ref b9)])) _
    refine XS.iadd X37.here hx rfl (hb hby at_90) rfl ?_
    exact kt)
  obtain ⟨clq40, Arq40, ckq40, cSq40, cNq40, cHq40, cGq40⟩ := id V37
  obtain ⟨T41, h41, X41', e41, W41, st41⟩ := stI X37 hx hZ e37 Arq40 (j := (7 : Int32)) (inb_of cSq40 ⟨by decide, by decide⟩) (g := (mkF m 91 #[.val (.int p1), .val (.int p2), .val (.int p3), .val (.int p4), .val (.int p5), .val (.int (0 : Int32)), .val (.int v3), .val (.int v5), .val (.int v7), .val (.ref b9), .unset, .unset, .unset, .unset, .unset, .unset] [(.int (p5 + (7 : Int32))), (.int (7 : Int32)), (.ref b9)])) rfl rfl (hb hby at_91)
  obtain ⟨lc41, X41, N41⟩ : ∃ lc, Stand p l e room_1 s m #[(.int p1), (.int p2), (.int p3), (.int p4), (.int p5)] below meth c T41 lc 1 8 ∧ Fr n0 lc := ⟨_, X41', Fr.snoc X41' N37 (Nat.le_trans Z0 (Nat.le_trans (Keep.refl h0 []).1 (Nat.le_of_eq g9.symm)))⟩
  have V41 : Arv Z h41 b9 k9 .int (8 : Int32) [(.int p5), (.int (p5 + (1 : Int32))), (.int (p5 + (2 : Int32))), (.int (p5 + (3 : Int32))), (.int (p5 + (4 : Int32))), (.int (p5 + (5 : Int32))), (.int (p5 + (6 : Int32))), (.int (p5 + (7 : Int32)))] (.int (0 : Int32)) := Arv.set Arq40 ckq40 cSq40 cNq40 cHq40 cGq40 rfl W41 7 rfl (Nat.le_of_ble_eq_true rfl)
  have K42 : Gx p e below s₁ f0 T41 (mkF m 92 #[.val (.int p1), .val (.int p2), .val (.int p3), .val (.int p4), .val (.int p5), .val (.int (0 : Int32)), .val (.int v3), .val (.int v5), .val (.int v7), .val (.ref b9), .unset, .unset, .unset, .unset, .unset, .unset] []) := fun t kt => K39 t (st41 t kt)
  obtain ⟨T43, h43, X43, e43, E43, A43, D43, -, st43⟩ := newO X41 hx hZ hown (hw _ (List.mem_of_getElem? (i := 1) rfl)) (hw _ (List.mem_of_getElem? (i := 2) rfl)) (hw _ (List.mem_of_getElem? (i := 3) rfl)) e41 (g := (mkF m 92 #[.val (.int p1), .val (.int p2), .val (.int p3), .val (.int p4), .val (.int p5), .val (.int (0 : Int32)), .val (.int v3), .val (.int v5), .val (.int v7), .val (.ref b9), .unset, .unset, .unset, .unset, .unset, .unset] [])) rfl (hb hby at_92) (by decide) (by decide)
  obtain ⟨b43, g43⟩ : ∃ z, z = h41.size := ⟨_, rfl⟩
  rw [← g43] at A43 D43 st43
  have f44 : Fld Z h43 b43 "lastcolumn/stage/Probabilities" "states" "[I" .null := D43 (Or.inr (hw _ (List.mem_of_getElem? (i := 11) rfl))) (ty := (.array .int)) (by decide)
  have f45 : Fld Z h43 b43 "lastcolumn/stage/Probabilities" "at" "I" (.int (0 : Int32)) := D43 (Or.inr (hw _ (List.mem_of_getElem? (i := 13) rfl))) (ty := .int) (by decide)
  have K46 : Gx p e below s₁ f0 T43 (mkF m 95 #[.val (.int p1), .val (.int p2), .val (.int p3), .val (.int p4), .val (.int p5), .val (.int (0 : Int32)), .val (.int v3), .val (.int v5), .val (.int v7), .val (.ref b9), .unset, .unset, .unset, .unset, .unset, .unset] [(.ref b43)]) := fun t kt => K42 t (st43 t kt)
  have K47 : Gx p e below s₁ f0 T43 (mkF m 101 #[.val (.int p1), .val (.int p2), .val (.int p3), .val (.int p4), .val (.int p5), .val (.int (0 : Int32)), .val (.int v3), .val (.int v5), .val (.int v7), .val (.ref b9), .unset, .unset, .unset, .unset, .unset, .unset] [(.int (4 : Int32)), (.int (0 : Int32)), (.ref b9), (.ref b43), (.ref b43)]) := fun t kt => K46 t (by
    show Steps p.tables e below (T43.setTop (mkF m 95 #[.val (.int p1), .val (.int p2), .val (.int p3), .val (.int p4), .val (.int p5), .val (.int (0 : Int32)), .val (.int v3), .val (.int v5), .val (.int v7), .val (.ref b9), .unset, .unset, .unset, .unset, .unset, .unset] [(.ref b43)])) _
    refine XS.dup X43.here hx rfl (hb hby at_95) rfl rfl ?_
    show Steps p.tables e below (T43.setTop (mkF m 96 #[.val (.int p1), .val (.int p2), .val (.int p3), .val (.int p4), .val (.int p5), .val (.int (0 : Int32)), .val (.int v3), .val (.int v5), .val (.int v7), .val (.ref b9), .unset, .unset, .unset, .unset, .unset, .unset] [(.ref b43), (.ref b43)])) _
    refine XS.aload X43.here hx rfl (hb hby at_96) rfl rfl ?_
    show Steps p.tables e below (T43.setTop (mkF m 98 #[.val (.int p1), .val (.int p2), .val (.int p3), .val (.int p4), .val (.int p5), .val (.int (0 : Int32)), .val (.int v3), .val (.int v5), .val (.int v7), .val (.ref b9), .unset, .unset, .unset, .unset, .unset, .unset] [(.ref b9), (.ref b43), (.ref b43)])) _
    refine XS.iload X43.here hx rfl (hb hby at_98) rfl ?_
    show Steps p.tables e below (T43.setTop (mkF m 100 #[.val (.int p1), .val (.int p2), .val (.int p3), .val (.int p4), .val (.int p5), .val (.int (0 : Int32)), .val (.int v3), .val (.int v5), .val (.int v7), .val (.ref b9), .unset, .unset, .unset, .unset, .unset, .unset] [(.int (0 : Int32)), (.ref b9), (.ref b43), (.ref b43)])) _
    refine XS.iconst X43.here hx rfl (hb hby at_100) ?_
    exact kt)
  have f48 : Arv Z h43 b9 k9 .int (8 : Int32) [(.int p5), (.int (p5 + (1 : Int32))), (.int (p5 + (2 : Int32))), (.int (p5 + (3 : Int32))), (.int (p5 + (4 : Int32))), (.int (p5 + (5 : Int32))), (.int (p5 + (6 : Int32))), (.int (p5 + (7 : Int32)))] (.int (0 : Int32)) := (V41.ext E43)
  have kp49 : Keep h0 h43 [] := (((((((((((Keep.refl h0 []).ext E9).wr W13 (Or.inr (Nat.le_trans (Keep.refl h0 []).1 (Nat.le_of_eq g9.symm)))).wr W17 (Or.inr (Nat.le_trans (Keep.refl h0 []).1 (Nat.le_of_eq g9.symm)))).wr W21 (Or.inr (Nat.le_trans (Keep.refl h0 []).1 (Nat.le_of_eq g9.symm)))).wr W25 (Or.inr (Nat.le_trans (Keep.refl h0 []).1 (Nat.le_of_eq g9.symm)))).wr W29 (Or.inr (Nat.le_trans (Keep.refl h0 []).1 (Nat.le_of_eq g9.symm)))).wr W33 (Or.inr (Nat.le_trans (Keep.refl h0 []).1 (Nat.le_of_eq g9.symm)))).wr W37 (Or.inr (Nat.le_trans (Keep.refl h0 []).1 (Nat.le_of_eq g9.symm)))).wr W41 (Or.inr (Nat.le_trans (Keep.refl h0 []).1 (Nat.le_of_eq g9.symm)))).ext E43)
  obtain ⟨_, _, ⟨T50, L50, k50, n50⟩, -, X50', ⟨Lc50, hQ50, l50, y50, z50⟩, st50⟩ := X43.specialBack hx (y := (⟨"lastcolumn/stage/Probabilities", "<init>", "([III)V"⟩ : MethodName)) rfl hown (mvT hZ (hw _ (List.mem_of_getElem? (i := 4) rfl))) (mvT hZ (hw _ (List.mem_of_getElem? (i := 5) rfl))) (mvT hZ (hw _ (List.mem_of_getElem? (i := 6) rfl))) (by decide) (backOf (W := 1) (rmIni0 l Z a0 hw [] b43 b9 k9 p5 (p5 + (1 : Int32)) (p5 + (2 : Int32)) (p5 + (3 : Int32)) (p5 + (4 : Int32)) (p5 + (5 : Int32)) (p5 + (6 : Int32)) (p5 + (7 : Int32)) h43 n0 (Nat.le_trans Z0 kp49.1) A43 (Nat.le_trans Z0 (Nat.le_trans ((((((((((Keep.refl h0 []).ext E9).wr W13 (Or.inr (Nat.le_trans (Keep.refl h0 []).1 (Nat.le_of_eq g9.symm)))).wr W17 (Or.inr (Nat.le_trans (Keep.refl h0 []).1 (Nat.le_of_eq g9.symm)))).wr W21 (Or.inr (Nat.le_trans (Keep.refl h0 []).1 (Nat.le_of_eq g9.symm)))).wr W25 (Or.inr (Nat.le_trans (Keep.refl h0 []).1 (Nat.le_of_eq g9.symm)))).wr W29 (Or.inr (Nat.le_trans (Keep.refl h0 []).1 (Nat.le_of_eq g9.symm)))).wr W33 (Or.inr (Nat.le_trans (Keep.refl h0 []).1 (Nat.le_of_eq g9.symm)))).wr W37 (Or.inr (Nat.le_trans (Keep.refl h0 []).1 (Nat.le_of_eq g9.symm)))).wr W41 (Or.inr (Nat.le_trans (Keep.refl h0 []).1 (Nat.le_of_eq g9.symm)))).1 (Nat.le_of_eq g43.symm))) (Nat.le_trans Z0 (Nat.le_trans (Keep.refl h0 []).1 (Nat.le_of_eq g9.symm))) f44 f45 f48 (Ne.symm (Nat.ne_of_lt (Nat.lt_of_lt_of_le V41.lt (Nat.le_of_eq g43.symm))))) hZ (hw _ (List.mem_of_getElem? (i := 6) rfl)) (hw _ (List.mem_of_getElem? (i := 3) rfl)) (by decide) (by decide)) (g := (mkF m 101 #[.val (.int p1), .val (.int p2), .val (.int p3), .val (.int p4), .val (.int p5), .val (.int (0 : Int32)), .val (.int v3), .val (.int v5), .val (.int v7), .val (.ref b9), .unset, .unset, .unset, .unset, .unset, .unset] [(.int (4 : Int32)), (.int (0 : Int32)), (.ref b9), (.ref b43), (.ref b43)])) rfl (by rw [hml]; rfl) (Steps.refl _) (a := b43) (argsL := [(.ref b9), (.int (0 : Int32)), (.int (4 : Int32))]) (rest := [(.ref b43)]) (lenOf pd___III_V rfl) rfl (by show 2 * 0 + _ ≤ _; exact Nat.le_of_eq rfl) (hb hby at_101) (fun _ _ => ⟨rfl, e43, (by decide : 2 + 0 ≤ _), (by decide : 10 + 0 ≤ _)⟩)
  dsimp only [Pt.U, Pt.locs, Pt.cells, Pt.slots] at X50' l50 y50 z50 st50 hQ50
  subst l50 y50 z50
  obtain ⟨h50, e50⟩ : ∃ z, T50.heap = z := ⟨_, rfl⟩
  rw [e50] at hQ50
  obtain ⟨rfl, N50q, Kc50, f51, f52, f53, f54⟩ := hQ50
  obtain ⟨lc50, X50, N50⟩ : ∃ lc, Stand p l e room_1 s m #[(.int p1), (.int p2), (.int p3), (.int p4), (.int p5)] below meth c T50 lc 2 10 ∧ Fr n0 lc := ⟨_, X50', Fr.app N41 N50q⟩
  have K55 : Gx p e below s₁ f0 T50 (mkF m 104 #[.val (.int p1), .val (.int p2), .val (.int p3), .val (.int p4), .val (.int p5), .val (.int (0 : Int32)), .val (.int v3), .val (.int v5), .val (.int v7), .val (.ref b9), .unset, .unset, .unset, .unset, .unset, .unset] [(.ref b43)]) := fun t kt => K47 t (st50.trans kt)
  have K56 : Gx p e below s₁ f0 T50 (mkF m 110 #[.val (.int p1), .val (.int p2), .val (.int p3), .val (.int p4), .val (.int p5), .val (.int (0 : Int32)), .val (.int v3), .val (.int v5), .val (.int v7), .val (.ref b9), .val (.ref b43), .unset, .unset, .unset, .unset, .unset] [(.int v5), (.ref b43)]) := fun t kt => K55 t (by
    show Steps p.tables e below (T50.setTop (mkF m 104 #[.val (.int p1), .val (.int p2), .val (.int p3), .val (.int p4), .val (.int p5), .val (.int (0 : Int32)), .val (.int v3), .val (.int v5), .val (.int v7), .val (.ref b9), .unset, .unset, .unset, .unset, .unset, .unset] [(.ref b43)])) _
    refine XS.astore X50.here hx rfl (hb hby at_104) rfl rfl (l' := #[.val (.int p1), .val (.int p2), .val (.int p3), .val (.int p4), .val (.int p5), .val (.int (0 : Int32)), .val (.int v3), .val (.int v5), .val (.int v7), .val (.ref b9), .val (.ref b43), .unset, .unset, .unset, .unset, .unset]) rfl ?_
    show Steps p.tables e below (T50.setTop (mkF m 106 #[.val (.int p1), .val (.int p2), .val (.int p3), .val (.int p4), .val (.int p5), .val (.int (0 : Int32)), .val (.int v3), .val (.int v5), .val (.int v7), .val (.ref b9), .val (.ref b43), .unset, .unset, .unset, .unset, .unset] [])) _
    refine XS.aload X50.here hx rfl (hb hby at_106) rfl rfl ?_
    show Steps p.tables e below (T50.setTop (mkF m 108 #[.val (.int p1), .val (.int p2), .val (.int p3), .val (.int p4), .val (.int p5), .val (.int (0 : Int32)), .val (.int v3), .val (.int v5), .val (.int v7), .val (.ref b9), .val (.ref b43), .unset, .unset, .unset, .unset, .unset] [(.ref b43)])) _
    refine XS.iload X50.here hx rfl (hb hby at_108) rfl ?_
    exact kt)
  have kp57 : Keep h0 h50 [] := (Keep.trans kp49 Kc50 (allS (Or.inr (Nat.le_trans ((((((((((Keep.refl h0 []).ext E9).wr W13 (Or.inr (Nat.le_trans (Keep.refl h0 []).1 (Nat.le_of_eq g9.symm)))).wr W17 (Or.inr (Nat.le_trans (Keep.refl h0 []).1 (Nat.le_of_eq g9.symm)))).wr W21 (Or.inr (Nat.le_trans (Keep.refl h0 []).1 (Nat.le_of_eq g9.symm)))).wr W25 (Or.inr (Nat.le_trans (Keep.refl h0 []).1 (Nat.le_of_eq g9.symm)))).wr W29 (Or.inr (Nat.le_trans (Keep.refl h0 []).1 (Nat.le_of_eq g9.symm)))).wr W33 (Or.inr (Nat.le_trans (Keep.refl h0 []).1 (Nat.le_of_eq g9.symm)))).wr W37 (Or.inr (Nat.le_trans (Keep.refl h0 []).1 (Nat.le_of_eq g9.symm)))).wr W41 (Or.inr (Nat.le_trans (Keep.refl h0 []).1 (Nat.le_of_eq g9.symm)))).1 (Nat.le_of_eq g43.symm))) (allS (Or.inr (Nat.le_trans (Keep.refl h0 []).1 (Nat.le_of_eq g9.symm))) all0)))
  obtain ⟨cq58, kq58, q58a, q58b, q58c⟩ := isOf hZ e50 f51
  obtain ⟨_, _, ⟨T58, L58, k58, n58⟩, -, X58', ⟨Lc58, hQ58, l58, y58, z58⟩, st58⟩ := X50.virtualBack hx (y := (⟨"lastcolumn/stage/Probabilities", "ofOne", "(I)I"⟩ : MethodName)) (z := (⟨"lastcolumn/stage/Probabilities", "ofOne", "(I)I"⟩ : MethodName)) hown (mvT hZ (hw _ (List.mem_of_getElem? (i := 22) rfl))) (mvT hZ (hw _ (List.mem_of_getElem? (i := 23) rfl))) (notFace_of_selects (args := #[]) (mvT hZ (hw _ (List.mem_of_getElem? (i := 25) rfl)))) (mvT hZ (hw _ (List.mem_of_getElem? (i := 25) rfl))) (mvT hZ (hw _ (List.mem_of_getElem? (i := 24) rfl))) (by decide) (backOf (W := 0) (rmOf1 l Z a0 hw [] b43 v5 b9 (0 : Int32) k9 [(.int (-2147483648 : Int32)), (.int (-2147483648 : Int32)), (.int (-2147483648 : Int32)), (.int (-2147483648 : Int32)), (.int (p5 + (4 : Int32))), (.int (p5 + (5 : Int32))), (.int (p5 + (6 : Int32))), (.int (p5 + (7 : Int32)))] (-2147483648 : Int32) h50 n0 (Nat.le_trans Z0 kp57.1) f52 f53 f54 (by rcases hc2 with q | q | q | q <;> rw [q] <;> decide) (by rcases hc2 with q | q | q | q <;> rw [q] <;> rfl)) hZ (hw _ (List.mem_of_getElem? (i := 26) rfl)) (hw _ (List.mem_of_getElem? (i := 3) rfl)) (by decide) (by decide)) q58a q58c (g := (mkF m 110 #[.val (.int p1), .val (.int p2), .val (.int p3), .val (.int p4), .val (.int p5), .val (.int (0 : Int32)), .val (.int v3), .val (.int v5), .val (.int v7), .val (.ref b9), .val (.ref b43), .unset, .unset, .unset, .unset, .unset] [(.int v5), (.ref b43)])) rfl (by rw [hml]; rfl) (Steps.refl _) (argsL := [(.int v5)]) (rest := []) (lenOf pd__I_I rfl) rfl (by show 2 * 0 + _ ≤ _; exact Nat.le_of_eq rfl) (hb hby at_110) (fun _ _ => ⟨rfl, e50, (by decide : 2 + 0 ≤ _), (by decide : 10 + 0 ≤ _)⟩)
  dsimp only [Pt.U, Pt.locs, Pt.cells, Pt.slots] at X58' l58 y58 z58 st58 hQ58
  subst l58 y58 z58
  obtain ⟨rfl, N58q, e58⟩ := hQ58
  obtain ⟨lc58, X58, N58⟩ : ∃ lc, Stand p l e room_1 s m #[(.int p1), (.int p2), (.int p3), (.int p4), (.int p5)] below meth c T58 lc 2 10 ∧ Fr n0 lc := ⟨_, X58', Fr.app N50 N58q⟩
  have K59 : Gx p e below s₁ f0 T58 (mkF m 113 #[.val (.int p1), .val (.int p2), .val (.int p3), .val (.int p4), .val (.int p5), .val (.int (0 : Int32)), .val (.int v3), .val (.int v5), .val (.int v7), .val (.ref b9), .val (.ref b43), .unset, .unset, .unset, .unset, .unset] [(.int (((-2147483648 : Int32).toUInt32 >>> ((16 : Int32) &&& 31).toUInt32).toInt32))]) := fun t kt => K56 t (st58.trans kt)
  obtain ⟨v60, hv60⟩ : ∃ z : Int32, z = (((-2147483648 : Int32).toUInt32 >>> ((16 : Int32) &&& 31).toUInt32).toInt32) := ⟨_, rfl⟩
  rw [← hv60] at K59
  have K61 : Gx p e below s₁ f0 T58 (mkF m 121 #[.val (.int p1), .val (.int p2), .val (.int p3), .val (.int p4), .val (.int p5), .val (.int (0 : Int32)), .val (.int v3), .val (.int v5), .val (.int v7), .val (.ref b9), .val (.ref b43), .val (.int v60), .unset, .unset, .unset, .unset] [(.int v7), (.int v3), (.ref b43)]) := fun t kt => K59 t (by
    show Steps p.tables e below (T58.setTop (mkF m 113 #[.val (.int p1), .val (.int p2), .val (.int p3), .val (.int p4), .val (.int p5), .val (.int (0 : Int32)), .val (.int v3), .val (.int v5), .val (.int v7), .val (.ref b9), .val (.ref b43), .unset, .unset, .unset, .unset, .unset] [(.int v60)])) _
    refine XS.istore X58.here hx rfl (hb hby at_113) rfl (l' := #[.val (.int p1), .val (.int p2), .val (.int p3), .val (.int p4), .val (.int p5), .val (.int (0 : Int32)), .val (.int v3), .val (.int v5), .val (.int v7), .val (.ref b9), .val (.ref b43), .val (.int v60), .unset, .unset, .unset, .unset]) rfl ?_
    show Steps p.tables e below (T58.setTop (mkF m 115 #[.val (.int p1), .val (.int p2), .val (.int p3), .val (.int p4), .val (.int p5), .val (.int (0 : Int32)), .val (.int v3), .val (.int v5), .val (.int v7), .val (.ref b9), .val (.ref b43), .val (.int v60), .unset, .unset, .unset, .unset] [])) _
    refine XS.aload X58.here hx rfl (hb hby at_115) rfl rfl ?_
    show Steps p.tables e below (T58.setTop (mkF m 117 #[.val (.int p1), .val (.int p2), .val (.int p3), .val (.int p4), .val (.int p5), .val (.int (0 : Int32)), .val (.int v3), .val (.int v5), .val (.int v7), .val (.ref b9), .val (.ref b43), .val (.int v60), .unset, .unset, .unset, .unset] [(.ref b43)])) _
    refine XS.iload X58.here hx rfl (hb hby at_117) rfl ?_
    show Steps p.tables e below (T58.setTop (mkF m 119 #[.val (.int p1), .val (.int p2), .val (.int p3), .val (.int p4), .val (.int p5), .val (.int (0 : Int32)), .val (.int v3), .val (.int v5), .val (.int v7), .val (.ref b9), .val (.ref b43), .val (.int v60), .unset, .unset, .unset, .unset] [(.int v3), (.ref b43)])) _
    refine XS.iload X58.here hx rfl (hb hby at_119) rfl ?_
    exact kt)
  have f62 : Old Z n0 h50 := (((((((((((pr2.ext E9).wr W13 (Nat.le_trans Z0 (Nat.le_trans (Keep.refl h0 []).1 (Nat.le_of_eq g9.symm)))).wr W17 (Nat.le_trans Z0 (Nat.le_trans (Keep.refl h0 []).1 (Nat.le_of_eq g9.symm)))).wr W21 (Nat.le_trans Z0 (Nat.le_trans (Keep.refl h0 []).1 (Nat.le_of_eq g9.symm)))).wr W25 (Nat.le_trans Z0 (Nat.le_trans (Keep.refl h0 []).1 (Nat.le_of_eq g9.symm)))).wr W29 (Nat.le_trans Z0 (Nat.le_trans (Keep.refl h0 []).1 (Nat.le_of_eq g9.symm)))).wr W33 (Nat.le_trans Z0 (Nat.le_trans (Keep.refl h0 []).1 (Nat.le_of_eq g9.symm)))).wr W37 (Nat.le_trans Z0 (Nat.le_trans (Keep.refl h0 []).1 (Nat.le_of_eq g9.symm)))).wr W41 (Nat.le_trans Z0 (Nat.le_trans (Keep.refl h0 []).1 (Nat.le_of_eq g9.symm)))).ext E43).keep Kc50 (allS (Nat.le_trans Z0 (Nat.le_trans ((((((((((Keep.refl h0 []).ext E9).wr W13 (Or.inr (Nat.le_trans (Keep.refl h0 []).1 (Nat.le_of_eq g9.symm)))).wr W17 (Or.inr (Nat.le_trans (Keep.refl h0 []).1 (Nat.le_of_eq g9.symm)))).wr W21 (Or.inr (Nat.le_trans (Keep.refl h0 []).1 (Nat.le_of_eq g9.symm)))).wr W25 (Or.inr (Nat.le_trans (Keep.refl h0 []).1 (Nat.le_of_eq g9.symm)))).wr W29 (Or.inr (Nat.le_trans (Keep.refl h0 []).1 (Nat.le_of_eq g9.symm)))).wr W33 (Or.inr (Nat.le_trans (Keep.refl h0 []).1 (Nat.le_of_eq g9.symm)))).wr W37 (Or.inr (Nat.le_trans (Keep.refl h0 []).1 (Nat.le_of_eq g9.symm)))).wr W41 (Or.inr (Nat.le_trans (Keep.refl h0 []).1 (Nat.le_of_eq g9.symm)))).1 (Nat.le_of_eq g43.symm))) (allS (Nat.le_trans Z0 (Nat.le_trans (Keep.refl h0 []).1 (Nat.le_of_eq g9.symm))) all0)))
  obtain ⟨cq63, kq63, q63a, q63b, q63c⟩ := isOf hZ e58 f51
  obtain ⟨_, _, ⟨T63, L63, k63, n63⟩, -, X63', ⟨Lc63, hQ63, l63, y63, z63⟩, st63⟩ := X58.virtualBack hx (y := (⟨"lastcolumn/stage/Probabilities", "learn", "(II)V"⟩ : MethodName)) (z := (⟨"lastcolumn/stage/Probabilities", "learn", "(II)V"⟩ : MethodName)) hown (mvT hZ (hw _ (List.mem_of_getElem? (i := 27) rfl))) (mvT hZ (hw _ (List.mem_of_getElem? (i := 28) rfl))) (notFace_of_selects (args := #[]) (mvT hZ (hw _ (List.mem_of_getElem? (i := 30) rfl)))) (mvT hZ (hw _ (List.mem_of_getElem? (i := 30) rfl))) (mvT hZ (hw _ (List.mem_of_getElem? (i := 29) rfl))) (by decide) (backOf (W := 0) (rmLrn l Z a0 hw [] b43 v3 v7 b9 (0 : Int32) k9 [(.int (-2147483648 : Int32)), (.int (-2147483648 : Int32)), (.int (-2147483648 : Int32)), (.int (-2147483648 : Int32)), (.int (p5 + (4 : Int32))), (.int (p5 + (5 : Int32))), (.int (p5 + (6 : Int32))), (.int (p5 + (7 : Int32)))] ra kr h50 n0 (Nat.le_trans Z0 kp57.1) f51 (Nat.le_trans Z0 (Nat.le_trans (Keep.refl h0 []).1 (Nat.le_of_eq g9.symm))) f52 f53 f54 (Ne.symm (Nat.ne_of_lt (Nat.lt_of_lt_of_le V41.lt (Nat.le_of_eq g43.symm)))) pr0 pr1 f62 (by rcases hc1 with q | q | q | q <;> rw [q] <;> decide) (by rcases hc1 with q | q | q | q <;> rw [q] <;> rfl) (by rcases hc1 with q | q | q | q <;> rw [q] <;> exact Nat.le_of_ble_eq_true rfl)) hZ (hw _ (List.mem_of_getElem? (i := 31) rfl)) (hw _ (List.mem_of_getElem? (i := 3) rfl)) (by decide) (by decide)) q63a q63c (g := (mkF m 121 #[.val (.int p1), .val (.int p2), .val (.int p3), .val (.int p4), .val (.int p5), .val (.int (0 : Int32)), .val (.int v3), .val (.int v5), .val (.int v7), .val (.ref b9), .val (.ref b43), .val (.int v60), .unset, .unset, .unset, .unset] [(.int v7), (.int v3), (.ref b43)])) rfl (by rw [hml]; rfl) (Steps.refl _) (argsL := [(.int v3), (.int v7)]) (rest := []) (lenOf pd__II_V rfl) rfl (by show 2 * 0 + _ ≤ _; exact Nat.le_of_eq rfl) (hb hby at_121) (fun _ _ => ⟨rfl, e58, (by decide : 2 + 0 ≤ _), (by decide : 10 + 0 ≤ _)⟩)
  dsimp only [Pt.U, Pt.locs, Pt.cells, Pt.slots] at X63' l63 y63 z63 st63 hQ63
  subst l63 y63 z63
  obtain ⟨h63, e63⟩ : ∃ z, T63.heap = z := ⟨_, rfl⟩
  rw [e63] at hQ63
  obtain ⟨rfl, N63q, Kc63, f64⟩ := hQ63
  obtain ⟨lc63, X63, N63⟩ : ∃ lc, Stand p l e room_1 s m #[(.int p1), (.int p2), (.int p3), (.int p4), (.int p5)] below meth c T63 lc 2 10 ∧ Fr n0 lc := ⟨_, X63', Fr.app N58 N63q⟩
  have K65 : Gx p e below s₁ f0 T63 (mkF m 124 #[.val (.int p1), .val (.int p2), .val (.int p3), .val (.int p4), .val (.int p5), .val (.int (0 : Int32)), .val (.int v3), .val (.int v5), .val (.int v7), .val (.ref b9), .val (.ref b43), .val (.int v60), .unset, .unset, .unset, .unset] []) := fun t kt => K61 t (st63.trans kt)
  have K66 : Gx p e below s₁ f0 T63 (mkF m 128 #[.val (.int p1), .val (.int p2), .val (.int p3), .val (.int p4), .val (.int p5), .val (.int (0 : Int32)), .val (.int v3), .val (.int v5), .val (.int v7), .val (.ref b9), .val (.ref b43), .val (.int v60), .unset, .unset, .unset, .unset] [(.int v3), (.ref b43)]) := fun t kt => K65 t (by
    show Steps p.tables e below (T63.setTop (mkF m 124 #[.val (.int p1), .val (.int p2), .val (.int p3), .val (.int p4), .val (.int p5), .val (.int (0 : Int32)), .val (.int v3), .val (.int v5), .val (.int v7), .val (.ref b9), .val (.ref b43), .val (.int v60), .unset, .unset, .unset, .unset] [])) _
    refine XS.aload X63.here hx rfl (hb hby at_124) rfl rfl ?_
    show Steps p.tables e below (T63.setTop (mkF m 126 #[.val (.int p1), .val (.int p2), .val (.int p3), .val (.int p4), .val (.int p5), .val (.int (0 : Int32)), .val (.int v3), .val (.int v5), .val (.int v7), .val (.ref b9), .val (.ref b43), .val (.int v60), .unset, .unset, .unset, .unset] [(.ref b43)])) _
    refine XS.iload X63.here hx rfl (hb hby at_126) rfl ?_
    exact kt)
  have f67 : Fld Z h63 b43 "lastcolumn/stage/Probabilities" "states" "[I" (.ref b9) := (f52.keep Kc63 (ninS (Ne.symm (Nat.ne_of_lt (Nat.lt_of_lt_of_le V41.lt (Nat.le_of_eq g43.symm)))) nin0))
  have f68 : Fld Z h63 b43 "lastcolumn/stage/Probabilities" "at" "I" (.int (0 : Int32)) := (f53.keep Kc63 (ninS (Ne.symm (Nat.ne_of_lt (Nat.lt_of_lt_of_le V41.lt (Nat.le_of_eq g43.symm)))) nin0))
  have kp69 : Keep h0 h63 [] := (Keep.trans kp57 Kc63 (allS (Or.inr (Nat.le_trans (Keep.refl h0 []).1 (Nat.le_of_eq g9.symm))) all0))
  have f71 : Exa Z h63 b43 "lastcolumn/stage/Probabilities" := (f51.keep Kc63)
  obtain ⟨cq70, kq70, q70a, q70b, q70c⟩ := isOf hZ e63 f71
  obtain ⟨_, _, ⟨T70, L70, k70, n70⟩, -, X70', ⟨Lc70, hQ70, l70, y70, z70⟩, st70⟩ := X63.virtualBack hx (y := (⟨"lastcolumn/stage/Probabilities", "ofOne", "(I)I"⟩ : MethodName)) (z := (⟨"lastcolumn/stage/Probabilities", "ofOne", "(I)I"⟩ : MethodName)) hown (mvT hZ (hw _ (List.mem_of_getElem? (i := 22) rfl))) (mvT hZ (hw _ (List.mem_of_getElem? (i := 23) rfl))) (notFace_of_selects (args := #[]) (mvT hZ (hw _ (List.mem_of_getElem? (i := 25) rfl)))) (mvT hZ (hw _ (List.mem_of_getElem? (i := 25) rfl))) (mvT hZ (hw _ (List.mem_of_getElem? (i := 24) rfl))) (by decide) (backOf (W := 0) (rmOf1 l Z a0 hw [] b43 v3 b9 (0 : Int32) k9 ([(.int (-2147483648 : Int32)), (.int (-2147483648 : Int32)), (.int (-2147483648 : Int32)), (.int (-2147483648 : Int32)), (.int (p5 + (4 : Int32))), (.int (p5 + (5 : Int32))), (.int (p5 + (6 : Int32))), (.int (p5 + (7 : Int32)))].set ((0 : Int32) + v3).toNatClampNeg (.int (if v7 = (1 : Int32) then (-715850751 : Int32) else (715849729 : Int32)))) (if v7 = (1 : Int32) then (-715850751 : Int32) else (715849729 : Int32)) h63 n0 (Nat.le_trans Z0 kp69.1) f67 f68 f64 (by rcases hc1 with q | q | q | q <;> rw [q] <;> decide) (by rcases hc1 with q | q | q | q <;> rw [q] <;> rfl)) hZ (hw _ (List.mem_of_getElem? (i := 26) rfl)) (hw _ (List.mem_of_getElem? (i := 3) rfl)) (by decide) (by decide)) q70a q70c (g := (mkF m 128 #[.val (.int p1), .val (.int p2), .val (.int p3), .val (.int p4), .val (.int p5), .val (.int (0 : Int32)), .val (.int v3), .val (.int v5), .val (.int v7), .val (.ref b9), .val (.ref b43), .val (.int v60), .unset, .unset, .unset, .unset] [(.int v3), (.ref b43)])) rfl (by rw [hml]; rfl) (Steps.refl _) (argsL := [(.int v3)]) (rest := []) (lenOf pd__I_I rfl) rfl (by show 2 * 0 + _ ≤ _; exact Nat.le_of_eq rfl) (hb hby at_128) (fun _ _ => ⟨rfl, e63, (by decide : 2 + 0 ≤ _), (by decide : 10 + 0 ≤ _)⟩)
  dsimp only [Pt.U, Pt.locs, Pt.cells, Pt.slots] at X70' l70 y70 z70 st70 hQ70
  subst l70 y70 z70
  obtain ⟨rfl, N70q, e70⟩ := hQ70
  obtain ⟨lc70, X70, N70⟩ : ∃ lc, Stand p l e room_1 s m #[(.int p1), (.int p2), (.int p3), (.int p4), (.int p5)] below meth c T70 lc 2 10 ∧ Fr n0 lc := ⟨_, X70', Fr.app N63 N70q⟩
  have K72 : Gx p e below s₁ f0 T70 (mkF m 131 #[.val (.int p1), .val (.int p2), .val (.int p3), .val (.int p4), .val (.int p5), .val (.int (0 : Int32)), .val (.int v3), .val (.int v5), .val (.int v7), .val (.ref b9), .val (.ref b43), .val (.int v60), .unset, .unset, .unset, .unset] [(.int (((if v7 = (1 : Int32) then (-715850751 : Int32) else (715849729 : Int32)).toUInt32 >>> ((16 : Int32) &&& 31).toUInt32).toInt32))]) := fun t kt => K66 t (st70.trans kt)
  obtain ⟨v73, hv73⟩ : ∃ z : Int32, z = (((if v7 = (1 : Int32) then (-715850751 : Int32) else (715849729 : Int32)).toUInt32 >>> ((16 : Int32) &&& 31).toUInt32).toInt32) := ⟨_, rfl⟩
  rw [← hv73] at K72
  have K74 : Gx p e below s₁ f0 T70 (mkF m 137 #[.val (.int p1), .val (.int p2), .val (.int p3), .val (.int p4), .val (.int p5), .val (.int (0 : Int32)), .val (.int v3), .val (.int v5), .val (.int v7), .val (.ref b9), .val (.ref b43), .val (.int v60), .val (.int v73), .unset, .unset, .unset] [(.int v5), (.ref b43)]) := fun t kt => K72 t (by
    show Steps p.tables e below (T70.setTop (mkF m 131 #[.val (.int p1), .val (.int p2), .val (.int p3), .val (.int p4), .val (.int p5), .val (.int (0 : Int32)), .val (.int v3), .val (.int v5), .val (.int v7), .val (.ref b9), .val (.ref b43), .val (.int v60), .unset, .unset, .unset, .unset] [(.int v73)])) _
    refine XS.istore X70.here hx rfl (hb hby at_131) rfl (l' := #[.val (.int p1), .val (.int p2), .val (.int p3), .val (.int p4), .val (.int p5), .val (.int (0 : Int32)), .val (.int v3), .val (.int v5), .val (.int v7), .val (.ref b9), .val (.ref b43), .val (.int v60), .val (.int v73), .unset, .unset, .unset]) rfl ?_
    show Steps p.tables e below (T70.setTop (mkF m 133 #[.val (.int p1), .val (.int p2), .val (.int p3), .val (.int p4), .val (.int p5), .val (.int (0 : Int32)), .val (.int v3), .val (.int v5), .val (.int v7), .val (.ref b9), .val (.ref b43), .val (.int v60), .val (.int v73), .unset, .unset, .unset] [])) _
    refine XS.aload X70.here hx rfl (hb hby at_133) rfl rfl ?_
    show Steps p.tables e below (T70.setTop (mkF m 135 #[.val (.int p1), .val (.int p2), .val (.int p3), .val (.int p4), .val (.int p5), .val (.int (0 : Int32)), .val (.int v3), .val (.int v5), .val (.int v7), .val (.ref b9), .val (.ref b43), .val (.int v60), .val (.int v73), .unset, .unset, .unset] [(.ref b43)])) _
    refine XS.iload X70.here hx rfl (hb hby at_135) rfl ?_
    exact kt)
  obtain ⟨cq75, kq75, q75a, q75b, q75c⟩ := isOf hZ e70 f71
  obtain ⟨_, _, ⟨T75, L75, k75, n75⟩, -, X75', ⟨Lc75, hQ75, l75, y75, z75⟩, st75⟩ := X70.virtualBack hx (y := (⟨"lastcolumn/stage/Probabilities", "ofOne", "(I)I"⟩ : MethodName)) (z := (⟨"lastcolumn/stage/Probabilities", "ofOne", "(I)I"⟩ : MethodName)) hown (mvT hZ (hw _ (List.mem_of_getElem? (i := 22) rfl))) (mvT hZ (hw _ (List.mem_of_getElem? (i := 23) rfl))) (notFace_of_selects (args := #[]) (mvT hZ (hw _ (List.mem_of_getElem? (i := 25) rfl)))) (mvT hZ (hw _ (List.mem_of_getElem? (i := 25) rfl))) (mvT hZ (hw _ (List.mem_of_getElem? (i := 24) rfl))) (by decide) (backOf (W := 0) (rmOf1 l Z a0 hw [] b43 v5 b9 (0 : Int32) k9 ([(.int (-2147483648 : Int32)), (.int (-2147483648 : Int32)), (.int (-2147483648 : Int32)), (.int (-2147483648 : Int32)), (.int (p5 + (4 : Int32))), (.int (p5 + (5 : Int32))), (.int (p5 + (6 : Int32))), (.int (p5 + (7 : Int32)))].set ((0 : Int32) + v3).toNatClampNeg (.int (if v7 = (1 : Int32) then (-715850751 : Int32) else (715849729 : Int32)))) (if v5 = v3 then (if v7 = (1 : Int32) then (-715850751 : Int32) else (715849729 : Int32)) else (-2147483648 : Int32)) h63 n0 (Nat.le_trans Z0 kp69.1) f67 f68 f64 (by rcases hc2 with q | q | q | q <;> rw [q] <;> decide) (by rcases hc1 with q | q | q | q <;> rcases hc2 with r | r | r | r <;> rw [q, r] <;> rfl)) hZ (hw _ (List.mem_of_getElem? (i := 26) rfl)) (hw _ (List.mem_of_getElem? (i := 3) rfl)) (by decide) (by decide)) q75a q75c (g := (mkF m 137 #[.val (.int p1), .val (.int p2), .val (.int p3), .val (.int p4), .val (.int p5), .val (.int (0 : Int32)), .val (.int v3), .val (.int v5), .val (.int v7), .val (.ref b9), .val (.ref b43), .val (.int v60), .val (.int v73), .unset, .unset, .unset] [(.int v5), (.ref b43)])) rfl (by rw [hml]; rfl) (Steps.refl _) (argsL := [(.int v5)]) (rest := []) (lenOf pd__I_I rfl) rfl (by show 2 * 0 + _ ≤ _; exact Nat.le_of_eq rfl) (hb hby at_137) (fun _ _ => ⟨rfl, e70, (by decide : 2 + 0 ≤ _), (by decide : 10 + 0 ≤ _)⟩)
  dsimp only [Pt.U, Pt.locs, Pt.cells, Pt.slots] at X75' l75 y75 z75 st75 hQ75
  subst l75 y75 z75
  obtain ⟨rfl, N75q, e75⟩ := hQ75
  obtain ⟨lc75, X75, N75⟩ : ∃ lc, Stand p l e room_1 s m #[(.int p1), (.int p2), (.int p3), (.int p4), (.int p5)] below meth c T75 lc 2 10 ∧ Fr n0 lc := ⟨_, X75', Fr.app N70 N75q⟩
  have K76 : Gx p e below s₁ f0 T75 (mkF m 140 #[.val (.int p1), .val (.int p2), .val (.int p3), .val (.int p4), .val (.int p5), .val (.int (0 : Int32)), .val (.int v3), .val (.int v5), .val (.int v7), .val (.ref b9), .val (.ref b43), .val (.int v60), .val (.int v73), .unset, .unset, .unset] [(.int (((if v5 = v3 then (if v7 = (1 : Int32) then (-715850751 : Int32) else (715849729 : Int32)) else (-2147483648 : Int32)).toUInt32 >>> ((16 : Int32) &&& 31).toUInt32).toInt32))]) := fun t kt => K74 t (st75.trans kt)
  obtain ⟨v77, hv77⟩ : ∃ z : Int32, z = (((if v5 = v3 then (if v7 = (1 : Int32) then (-715850751 : Int32) else (715849729 : Int32)) else (-2147483648 : Int32)).toUInt32 >>> ((16 : Int32) &&& 31).toUInt32).toInt32) := ⟨_, rfl⟩
  rw [← hv77] at K76
  have K80 : Gx p e below s₁ f0 T75 (mkF m 145 #[.val (.int p1), .val (.int p2), .val (.int p3), .val (.int p4), .val (.int p5), .val (.int (0 : Int32)), .val (.int v3), .val (.int v5), .val (.int v7), .val (.ref b9), .val (.ref b43), .val (.int v60), .val (.int v73), .val (.int v77), .unset, .unset] [(.int (1 : Int32)), (.int v7)]) := fun t kt => K76 t (by
    show Steps p.tables e below (T75.setTop (mkF m 140 #[.val (.int p1), .val (.int p2), .val (.int p3), .val (.int p4), .val (.int p5), .val (.int (0 : Int32)), .val (.int v3), .val (.int v5), .val (.int v7), .val (.ref b9), .val (.ref b43), .val (.int v60), .val (.int v73), .unset, .unset, .unset] [(.int v77)])) _
    refine XS.istore X75.here hx rfl (hb hby at_140) rfl (l' := #[.val (.int p1), .val (.int p2), .val (.int p3), .val (.int p4), .val (.int p5), .val (.int (0 : Int32)), .val (.int v3), .val (.int v5), .val (.int v7), .val (.ref b9), .val (.ref b43), .val (.int v60), .val (.int v73), .val (.int v77), .unset, .unset]) rfl ?_
    show Steps p.tables e below (T75.setTop (mkF m 142 #[.val (.int p1), .val (.int p2), .val (.int p3), .val (.int p4), .val (.int p5), .val (.int (0 : Int32)), .val (.int v3), .val (.int v5), .val (.int v7), .val (.ref b9), .val (.ref b43), .val (.int v60), .val (.int v73), .val (.int v77), .unset, .unset] [])) _
    refine XS.iload X75.here hx rfl (hb hby at_142) rfl ?_
    show Steps p.tables e below (T75.setTop (mkF m 144 #[.val (.int p1), .val (.int p2), .val (.int p3), .val (.int p4), .val (.int p5), .val (.int (0 : Int32)), .val (.int v3), .val (.int v5), .val (.int v7), .val (.ref b9), .val (.ref b43), .val (.int v60), .val (.int v73), .val (.int v77), .unset, .unset] [(.int v7)])) _
    refine XS.iconst X75.here hx rfl (hb hby at_144) ?_
    exact kt)
  obtain ⟨v79, hv79⟩ : ∃ z : Int32, z = (if v7 = (1 : Int32) then (54612 : Int32) else (10923 : Int32)) := ⟨_, rfl⟩
  have K81 : Gx p e below s₁ f0 T75 (mkF m 156 #[.val (.int p1), .val (.int p2), .val (.int p3), .val (.int p4), .val (.int p5), .val (.int (0 : Int32)), .val (.int v3), .val (.int v5), .val (.int v7), .val (.ref b9), .val (.ref b43), .val (.int v60), .val (.int v73), .val (.int v77), .unset, .unset] [(.int v79)]) := fun t kt => K80 t (by
    by_cases hc145_77 : v7 = (1 : Int32)
    · skip
      show Steps p.tables e below (T75.setTop (mkF m 145 #[.val (.int p1), .val (.int p2), .val (.int p3), .val (.int p4), .val (.int p5), .val (.int (0 : Int32)), .val (.int v3), .val (.int v5), .val (.int v7), .val (.ref b9), .val (.ref b43), .val (.int v60), .val (.int v73), .val (.int v77), .unset, .unset] [(.int (1 : Int32)), (.int v7)])) _
      refine XS.icmpNo X75.here hx rfl (hb hby at_145) rfl (teq hc145_77).2 ?_
      show Steps p.tables e below (T75.setTop (mkF m 148 #[.val (.int p1), .val (.int p2), .val (.int p3), .val (.int p4), .val (.int p5), .val (.int (0 : Int32)), .val (.int v3), .val (.int v5), .val (.int v7), .val (.ref b9), .val (.ref b43), .val (.int v60), .val (.int v73), .val (.int v77), .unset, .unset] [])) _
      refine X75.ldcInt hx hown (mvT hZ (hw _ (List.mem_of_getElem? (i := 39) rfl))) (g := (mkF m 148 #[.val (.int p1), .val (.int p2), .val (.int p3), .val (.int p4), .val (.int p5), .val (.int (0 : Int32)), .val (.int v3), .val (.int v5), .val (.int v7), .val (.ref b9), .val (.ref b43), .val (.int v60), .val (.int v73), .val (.int v77), .unset, .unset] [])) rfl (hb hby at_148) _ ?_
      show Steps p.tables e below (T75.setTop (mkF m 150 #[.val (.int p1), .val (.int p2), .val (.int p3), .val (.int p4), .val (.int p5), .val (.int (0 : Int32)), .val (.int v3), .val (.int v5), .val (.int v7), .val (.ref b9), .val (.ref b43), .val (.int v60), .val (.int v73), .val (.int v77), .unset, .unset] [(.int (54612 : Int32))])) _
      refine XS.goto X75.here hx rfl (pc0 := 150) (pc' := 156) rfl (hb hby at_150) (by decide) (by decide) ?_
      show Steps p.tables e below (T75.setTop (mkF m 156 #[.val (.int p1), .val (.int p2), .val (.int p3), .val (.int p4), .val (.int p5), .val (.int (0 : Int32)), .val (.int v3), .val (.int v5), .val (.int v7), .val (.ref b9), .val (.ref b43), .val (.int v60), .val (.int v73), .val (.int v77), .unset, .unset] [(.int (54612 : Int32))])) _
      exact castTop (by simp only [hv79, if_pos hc145_77]) kt
    · skip
      show Steps p.tables e below (T75.setTop (mkF m 145 #[.val (.int p1), .val (.int p2), .val (.int p3), .val (.int p4), .val (.int p5), .val (.int (0 : Int32)), .val (.int v3), .val (.int v5), .val (.int v7), .val (.ref b9), .val (.ref b43), .val (.int v60), .val (.int v73), .val (.int v77), .unset, .unset] [(.int (1 : Int32)), (.int v7)])) _
      refine XS.icmpYes X75.here hx rfl (pc0 := 145) (pc' := 153) rfl (hb hby at_145) rfl (feq hc145_77).2 (by decide) (by decide) ?_
      show Steps p.tables e below (T75.setTop (mkF m 153 #[.val (.int p1), .val (.int p2), .val (.int p3), .val (.int p4), .val (.int p5), .val (.int (0 : Int32)), .val (.int v3), .val (.int v5), .val (.int v7), .val (.ref b9), .val (.ref b43), .val (.int v60), .val (.int v73), .val (.int v77), .unset, .unset] [])) _
      refine XS.sipush X75.here hx rfl (hb hby at_153) ?_
      show Steps p.tables e below (T75.setTop (mkF m 156 #[.val (.int p1), .val (.int p2), .val (.int p3), .val (.int p4), .val (.int p5), .val (.int (0 : Int32)), .val (.int v3), .val (.int v5), .val (.int v7), .val (.ref b9), .val (.ref b43), .val (.int v60), .val (.int v73), .val (.int v77), .unset, .unset] [(.int (10923 : Int32))])) _
      exact castTop (by simp only [hv79, if_neg hc145_77]) kt)
  have K84 : Gx p e below s₁ f0 T75 (mkF m 162 #[.val (.int p1), .val (.int p2), .val (.int p3), .val (.int p4), .val (.int p5), .val (.int (0 : Int32)), .val (.int v3), .val (.int v5), .val (.int v7), .val (.ref b9), .val (.ref b43), .val (.int v60), .val (.int v73), .val (.int v77), .val (.int v79), .unset] [(.int v3), (.int v5)]) := fun t kt => K81 t (by
    show Steps p.tables e below (T75.setTop (mkF m 156 #[.val (.int p1), .val (.int p2), .val (.int p3), .val (.int p4), .val (.int p5), .val (.int (0 : Int32)), .val (.int v3), .val (.int v5), .val (.int v7), .val (.ref b9), .val (.ref b43), .val (.int v60), .val (.int v73), .val (.int v77), .unset, .unset] [(.int v79)])) _
    refine XS.istore X75.here hx rfl (hb hby at_156) rfl (l' := #[.val (.int p1), .val (.int p2), .val (.int p3), .val (.int p4), .val (.int p5), .val (.int (0 : Int32)), .val (.int v3), .val (.int v5), .val (.int v7), .val (.ref b9), .val (.ref b43), .val (.int v60), .val (.int v73), .val (.int v77), .val (.int v79), .unset]) rfl ?_
    show Steps p.tables e below (T75.setTop (mkF m 158 #[.val (.int p1), .val (.int p2), .val (.int p3), .val (.int p4), .val (.int p5), .val (.int (0 : Int32)), .val (.int v3), .val (.int v5), .val (.int v7), .val (.ref b9), .val (.ref b43), .val (.int v60), .val (.int v73), .val (.int v77), .val (.int v79), .unset] [])) _
    refine XS.iload X75.here hx rfl (hb hby at_158) rfl ?_
    show Steps p.tables e below (T75.setTop (mkF m 160 #[.val (.int p1), .val (.int p2), .val (.int p3), .val (.int p4), .val (.int p5), .val (.int (0 : Int32)), .val (.int v3), .val (.int v5), .val (.int v7), .val (.ref b9), .val (.ref b43), .val (.int v60), .val (.int v73), .val (.int v77), .val (.int v79), .unset] [(.int v5)])) _
    refine XS.iload X75.here hx rfl (hb hby at_160) rfl ?_
    exact kt)
  obtain ⟨v83, hv83⟩ : ∃ z : Int32, z = (if v5 = v3 then v79 else (32768 : Int32)) := ⟨_, rfl⟩
  have K85 : Gx p e below s₁ f0 T75 (mkF m 172 #[.val (.int p1), .val (.int p2), .val (.int p3), .val (.int p4), .val (.int p5), .val (.int (0 : Int32)), .val (.int v3), .val (.int v5), .val (.int v7), .val (.ref b9), .val (.ref b43), .val (.int v60), .val (.int v73), .val (.int v77), .val (.int v79), .unset] [(.int v83)]) := fun t kt => K84 t (by
    by_cases hc162_81 : v5 = v3
    · skip
      show Steps p.tables e below (T75.setTop (mkF m 162 #[.val (.int p1), .val (.int p2), .val (.int p3), .val (.int p4), .val (.int p5), .val (.int (0 : Int32)), .val (.int v3), .val (.int v5), .val (.int v7), .val (.ref b9), .val (.ref b43), .val (.int v60), .val (.int v73), .val (.int v77), .val (.int v79), .unset] [(.int v3), (.int v5)])) _
      refine XS.icmpNo X75.here hx rfl (hb hby at_162) rfl (teq hc162_81).2 ?_
      show Steps p.tables e below (T75.setTop (mkF m 165 #[.val (.int p1), .val (.int p2), .val (.int p3), .val (.int p4), .val (.int p5), .val (.int (0 : Int32)), .val (.int v3), .val (.int v5), .val (.int v7), .val (.ref b9), .val (.ref b43), .val (.int v60), .val (.int v73), .val (.int v77), .val (.int v79), .unset] [])) _
      refine XS.iload X75.here hx rfl (hb hby at_165) rfl ?_
      show Steps p.tables e below (T75.setTop (mkF m 167 #[.val (.int p1), .val (.int p2), .val (.int p3), .val (.int p4), .val (.int p5), .val (.int (0 : Int32)), .val (.int v3), .val (.int v5), .val (.int v7), .val (.ref b9), .val (.ref b43), .val (.int v60), .val (.int v73), .val (.int v77), .val (.int v79), .unset] [(.int v79)])) _
      refine XS.goto X75.here hx rfl (pc0 := 167) (pc' := 172) rfl (hb hby at_167) (by decide) (by decide) ?_
      show Steps p.tables e below (T75.setTop (mkF m 172 #[.val (.int p1), .val (.int p2), .val (.int p3), .val (.int p4), .val (.int p5), .val (.int (0 : Int32)), .val (.int v3), .val (.int v5), .val (.int v7), .val (.ref b9), .val (.ref b43), .val (.int v60), .val (.int v73), .val (.int v77), .val (.int v79), .unset] [(.int v79)])) _
      exact castTop (by simp only [hv83, if_pos hc162_81]) kt
    · skip
      show Steps p.tables e below (T75.setTop (mkF m 162 #[.val (.int p1), .val (.int p2), .val (.int p3), .val (.int p4), .val (.int p5), .val (.int (0 : Int32)), .val (.int v3), .val (.int v5), .val (.int v7), .val (.ref b9), .val (.ref b43), .val (.int v60), .val (.int v73), .val (.int v77), .val (.int v79), .unset] [(.int v3), (.int v5)])) _
      refine XS.icmpYes X75.here hx rfl (pc0 := 162) (pc' := 170) rfl (hb hby at_162) rfl (feq hc162_81).2 (by decide) (by decide) ?_
      show Steps p.tables e below (T75.setTop (mkF m 170 #[.val (.int p1), .val (.int p2), .val (.int p3), .val (.int p4), .val (.int p5), .val (.int (0 : Int32)), .val (.int v3), .val (.int v5), .val (.int v7), .val (.ref b9), .val (.ref b43), .val (.int v60), .val (.int v73), .val (.int v77), .val (.int v79), .unset] [])) _
      refine X75.ldcInt hx hown (mvT hZ (hw _ (List.mem_of_getElem? (i := 40) rfl))) (g := (mkF m 170 #[.val (.int p1), .val (.int p2), .val (.int p3), .val (.int p4), .val (.int p5), .val (.int (0 : Int32)), .val (.int v3), .val (.int v5), .val (.int v7), .val (.ref b9), .val (.ref b43), .val (.int v60), .val (.int v73), .val (.int v77), .val (.int v79), .unset] [])) rfl (hb hby at_170) _ ?_
      show Steps p.tables e below (T75.setTop (mkF m 172 #[.val (.int p1), .val (.int p2), .val (.int p3), .val (.int p4), .val (.int p5), .val (.int (0 : Int32)), .val (.int v3), .val (.int v5), .val (.int v7), .val (.ref b9), .val (.ref b43), .val (.int v60), .val (.int v73), .val (.int v77), .val (.int v79), .unset] [(.int (32768 : Int32))])) _
      exact castTop (by simp only [hv83, if_neg hc162_81]) kt)
  have K86 : Gx p e below s₁ f0 T75 (mkF m 200 #[.val (.int p1), .val (.int p2), .val (.int p3), .val (.int p4), .val (.int p5), .val (.int (0 : Int32)), .val (.int v3), .val (.int v5), .val (.int v7), .val (.ref b9), .val (.ref b43), .val (.int v60), .val (.int v73), .val (.int v77), .val (.int v79), .val (.int v83)] [(.int (1 : Int32))]) := fun t kt => K85 t (by
    show Steps p.tables e below (T75.setTop (mkF m 172 #[.val (.int p1), .val (.int p2), .val (.int p3), .val (.int p4), .val (.int p5), .val (.int (0 : Int32)), .val (.int v3), .val (.int v5), .val (.int v7), .val (.ref b9), .val (.ref b43), .val (.int v60), .val (.int v73), .val (.int v77), .val (.int v79), .unset] [(.int v83)])) _
    refine XS.istore X75.here hx rfl (hb hby at_172) rfl (l' := #[.val (.int p1), .val (.int p2), .val (.int p3), .val (.int p4), .val (.int p5), .val (.int (0 : Int32)), .val (.int v3), .val (.int v5), .val (.int v7), .val (.ref b9), .val (.ref b43), .val (.int v60), .val (.int v73), .val (.int v77), .val (.int v79), .val (.int v83)]) rfl ?_
    show Steps p.tables e below (T75.setTop (mkF m 174 #[.val (.int p1), .val (.int p2), .val (.int p3), .val (.int p4), .val (.int p5), .val (.int (0 : Int32)), .val (.int v3), .val (.int v5), .val (.int v7), .val (.ref b9), .val (.ref b43), .val (.int v60), .val (.int v73), .val (.int v77), .val (.int v79), .val (.int v83)] [])) _
    refine XS.iload X75.here hx rfl (hb hby at_174) rfl ?_
    show Steps p.tables e below (T75.setTop (mkF m 176 #[.val (.int p1), .val (.int p2), .val (.int p3), .val (.int p4), .val (.int p5), .val (.int (0 : Int32)), .val (.int v3), .val (.int v5), .val (.int v7), .val (.ref b9), .val (.ref b43), .val (.int v60), .val (.int v73), .val (.int v77), .val (.int v79), .val (.int v83)] [(.int v60)])) _
    refine X75.ldcInt hx hown (mvT hZ (hw _ (List.mem_of_getElem? (i := 40) rfl))) (g := (mkF m 176 #[.val (.int p1), .val (.int p2), .val (.int p3), .val (.int p4), .val (.int p5), .val (.int (0 : Int32)), .val (.int v3), .val (.int v5), .val (.int v7), .val (.ref b9), .val (.ref b43), .val (.int v60), .val (.int v73), .val (.int v77), .val (.int v79), .val (.int v83)] [(.int v60)])) rfl (hb hby at_176) _ ?_
    show Steps p.tables e below (T75.setTop (mkF m 178 #[.val (.int p1), .val (.int p2), .val (.int p3), .val (.int p4), .val (.int p5), .val (.int (0 : Int32)), .val (.int v3), .val (.int v5), .val (.int v7), .val (.ref b9), .val (.ref b43), .val (.int v60), .val (.int v73), .val (.int v77), .val (.int v79), .val (.int v83)] [(.int (32768 : Int32)), (.int v60)])) _
    refine XS.icmpNo X75.here hx rfl (hb hby at_178) rfl (teq (by rw [hv60]; decide)).2 ?_
    show Steps p.tables e below (T75.setTop (mkF m 181 #[.val (.int p1), .val (.int p2), .val (.int p3), .val (.int p4), .val (.int p5), .val (.int (0 : Int32)), .val (.int v3), .val (.int v5), .val (.int v7), .val (.ref b9), .val (.ref b43), .val (.int v60), .val (.int v73), .val (.int v77), .val (.int v79), .val (.int v83)] [])) _
    refine XS.iload X75.here hx rfl (hb hby at_181) rfl ?_
    show Steps p.tables e below (T75.setTop (mkF m 183 #[.val (.int p1), .val (.int p2), .val (.int p3), .val (.int p4), .val (.int p5), .val (.int (0 : Int32)), .val (.int v3), .val (.int v5), .val (.int v7), .val (.ref b9), .val (.ref b43), .val (.int v60), .val (.int v73), .val (.int v77), .val (.int v79), .val (.int v83)] [(.int v73)])) _
    refine XS.iload X75.here hx rfl (hb hby at_183) rfl ?_
    show Steps p.tables e below (T75.setTop (mkF m 185 #[.val (.int p1), .val (.int p2), .val (.int p3), .val (.int p4), .val (.int p5), .val (.int (0 : Int32)), .val (.int v3), .val (.int v5), .val (.int v7), .val (.ref b9), .val (.ref b43), .val (.int v60), .val (.int v73), .val (.int v77), .val (.int v79), .val (.int v83)] [(.int v79), (.int v73)])) _
    refine XS.icmpNo X75.here hx rfl (hb hby at_185) rfl (teq (by rw [hv73, hv79]; exact own_after _)).2 ?_
    show Steps p.tables e below (T75.setTop (mkF m 188 #[.val (.int p1), .val (.int p2), .val (.int p3), .val (.int p4), .val (.int p5), .val (.int (0 : Int32)), .val (.int v3), .val (.int v5), .val (.int v7), .val (.ref b9), .val (.ref b43), .val (.int v60), .val (.int v73), .val (.int v77), .val (.int v79), .val (.int v83)] [])) _
    refine XS.iload X75.here hx rfl (hb hby at_188) rfl ?_
    show Steps p.tables e below (T75.setTop (mkF m 190 #[.val (.int p1), .val (.int p2), .val (.int p3), .val (.int p4), .val (.int p5), .val (.int (0 : Int32)), .val (.int v3), .val (.int v5), .val (.int v7), .val (.ref b9), .val (.ref b43), .val (.int v60), .val (.int v73), .val (.int v77), .val (.int v79), .val (.int v83)] [(.int v77)])) _
    refine XS.iload X75.here hx rfl (hb hby at_190) rfl ?_
    show Steps p.tables e below (T75.setTop (mkF m 192 #[.val (.int p1), .val (.int p2), .val (.int p3), .val (.int p4), .val (.int p5), .val (.int (0 : Int32)), .val (.int v3), .val (.int v5), .val (.int v7), .val (.ref b9), .val (.ref b43), .val (.int v60), .val (.int v73), .val (.int v77), .val (.int v79), .val (.int v83)] [(.int v83), (.int v77)])) _
    refine XS.icmpNo X75.here hx rfl (hb hby at_192) rfl (teq (by rw [hv77, hv83, hv79]; exact own_after2 _ _ _)).2 ?_
    show Steps p.tables e below (T75.setTop (mkF m 195 #[.val (.int p1), .val (.int p2), .val (.int p3), .val (.int p4), .val (.int p5), .val (.int (0 : Int32)), .val (.int v3), .val (.int v5), .val (.int v7), .val (.ref b9), .val (.ref b43), .val (.int v60), .val (.int v73), .val (.int v77), .val (.int v79), .val (.int v83)] [])) _
    refine XS.iconst X75.here hx rfl (hb hby at_195) ?_
    show Steps p.tables e below (T75.setTop (mkF m 196 #[.val (.int p1), .val (.int p2), .val (.int p3), .val (.int p4), .val (.int p5), .val (.int (0 : Int32)), .val (.int v3), .val (.int v5), .val (.int v7), .val (.ref b9), .val (.ref b43), .val (.int v60), .val (.int v73), .val (.int v77), .val (.int v79), .val (.int v83)] [(.int (1 : Int32))])) _
    refine XS.goto X75.here hx rfl (pc0 := 196) (pc' := 200) rfl (hb hby at_196) (by decide) (by decide) ?_
    exact kt)
  obtain ⟨fs87, hr87, hrun87, hended87, hW87, hsame87⟩ := X75.leave (v := some (.int (1 : Int32))) (fun h => by rw [Bd.returns] at h; cases h)
  refine ⟨_, _, pre0 _ (K86 _ ?_), hrun87, hended87, _, _, rfl, ?_, ⟨_, rfl⟩, hW87, hsame87.mono (by decide) (by decide)⟩
  · exact retN X75 hx (t := .boolean) Bd.returns (by simp) (hb hby at_200) hr87
  · show Q0 Z p1 p2 p3 p4 p5 ra kr h0 n0 _ T75.heap _
    rw [e75]
    exact ⟨rfl, N75⟩
theorem ef_0_1 (m : MethodId) (p1 : Int32) (p2 : Int32) (p3 : Int32) (p4 : Int32) (p5 : Int32) : entryFrame m #[(.int p1), (.int p2), (.int p3), (.int p4), (.int p5)] maxLocals = mkF m 0 #[.val (.int p1), .val (.int p2), .val (.int p3), .val (.int p4), .val (.int p5), .unset, .unset, .unset, .unset, .unset, .unset, .unset, .unset, .unset, .unset, .unset] [] := by first | (simp [entryFrame, mkF, argsToLocals, Value.category, maxLocals]; done) | rfl
set_option maxRecDepth 65536 in
set_option maxHeartbeats 40000000 in
theorem rm0_1 (l : Launch) (Z : State) (a0 : Array Value) (hw : ∀ d ∈ tables_1, d.before a0 Z = true) (ws : List Jvm.Cond) (p1 : Int32) (p2 : Int32) (p3 : Int32) (p4 : Int32) (p5 : Int32) (ra : Addr) (kr : ClassId) (h0 : Heap) (n0 : Nat) (Z0 : n0 ≤ h0.size) (pr0 : Sta Z Z.heap "lastcolumn/stage/Probabilities" "RATES" "[I" (.ref ra)) (pr1 : Arv Z Z.heap ra kr .int (16 : Int32) [(.int (43690 : Int32)), (.int (26214 : Int32)), (.int (18724 : Int32)), (.int (14563 : Int32)), (.int (11915 : Int32)), (.int (10082 : Int32)), (.int (8738 : Int32)), (.int (7710 : Int32)), (.int (6898 : Int32)), (.int (6241 : Int32)), (.int (5698 : Int32)), (.int (5242 : Int32)), (.int (4854 : Int32)), (.int (4519 : Int32)), (.int (4228 : Int32)), (.int (3971 : Int32))] (.int (0 : Int32))) (pr2 : Old Z n0 h0) (ha_ : (p1 &&& (3 : Int32)) = (1 : Int32)) :
    MetFree l x (head1 (Jvm.Cond.code x code maxLocals ret :: ws) room_1) (fun a U => a = #[(.int p1), (.int p2), (.int p3), (.int p4), (.int p5)] ∧ Z.Warmed39 U.vm ∧ U.heap = h0) (fun _ _ _ _ _ => True) (fun _ U o U' => ∃ v L, o = .returned v ∧ Q0 Z p1 p2 p3 p4 p5 ra kr h0 n0 v U'.heap L ∧ FrameEnd U o U' L room_1.cells room_1.slots) := by
  refine MetFree.of_bodySF (plainFor_of_name pn_0) hisR ?_
  intro p e s m args below meth c s₁ Bd hml0 hP hK
  obtain ⟨rfl, hZ, hh⟩ := hP
  have hx := Bd.exec
  have hby := Bd.bytes
  have hml : c.maxLocals = 16 := hml0
  have hown : s.vm.findClass "lastcolumn/stage/ProbabilitiesOfOnePinLaw" = some m.cls := findClass_of_methodNamed Bd.named
  have hnm := (name_of_methodNamed Bd.named Bd.method).1
  have X0 : Stand p l e room_1 s m #[(.int p1), (.int p2), (.int p3), (.int p4), (.int p5)] below meth c s₁ [] 0 0 := Stand.of_body Bd
  have hs0 : h0 = s.heap := hh.symm
  have e0 : s₁.heap = h0 := by rw [← hh, Bd.state]; rfl
  have N0 := Fr.nil n0
  obtain ⟨f0, hf0⟩ : ∃ f, f = entryFrame m #[(.int p1), (.int p2), (.int p3), (.int p4), (.int p5)] maxLocals := ⟨_, rfl⟩
  have pre0 : ∀ t, Steps p.tables e below (s₁.setTop f0) t → Steps p.tables e below (s₁.setTop (entryFrame m #[(.int p1), (.int p2), (.int p3), (.int p4), (.int p5)] maxLocals)) t := fun t k => hf0 ▸ k
  have K0 : Gx p e below s₁ f0 s₁ (mkF m 0 #[.val (.int p1), .val (.int p2), .val (.int p3), .val (.int p4), .val (.int p5), .unset, .unset, .unset, .unset, .unset, .unset, .unset, .unset, .unset, .unset, .unset] []) := fun t kt => by rw [hf0]; exact castTop (ef_0_1 m p1 p2 p3 p4 p5) kt
  have K1 : Gx p e below s₁ f0 s₁ (mkF m 5 #[.val (.int p1), .val (.int p2), .val (.int p3), .val (.int p4), .val (.int p5), .val (.int (p1 &&& (3 : Int32))), .unset, .unset, .unset, .unset, .unset, .unset, .unset, .unset, .unset, .unset] []) := fun t kt => K0 t (by
    show Steps p.tables e below (s₁.setTop (mkF m 0 #[.val (.int p1), .val (.int p2), .val (.int p3), .val (.int p4), .val (.int p5), .unset, .unset, .unset, .unset, .unset, .unset, .unset, .unset, .unset, .unset, .unset] [])) _
    refine XS.iloadN X0.here hx rfl (hb hby at_0) rfl ?_
    show Steps p.tables e below (s₁.setTop (mkF m 1 #[.val (.int p1), .val (.int p2), .val (.int p3), .val (.int p4), .val (.int p5), .unset, .unset, .unset, .unset, .unset, .unset, .unset, .unset, .unset, .unset, .unset] [(.int p1)])) _
    refine XS.iconst X0.here hx rfl (hb hby at_1) ?_
    show Steps p.tables e below (s₁.setTop (mkF m 2 #[.val (.int p1), .val (.int p2), .val (.int p3), .val (.int p4), .val (.int p5), .unset, .unset, .unset, .unset, .unset, .unset, .unset, .unset, .unset, .unset, .unset] [(.int (3 : Int32)), (.int p1)])) _
    refine XS.iand X0.here hx rfl (hb hby at_2) rfl ?_
    show Steps p.tables e below (s₁.setTop (mkF m 3 #[.val (.int p1), .val (.int p2), .val (.int p3), .val (.int p4), .val (.int p5), .unset, .unset, .unset, .unset, .unset, .unset, .unset, .unset, .unset, .unset, .unset] [(.int (p1 &&& (3 : Int32)))])) _
    refine XS.istore X0.here hx rfl (hb hby at_3) rfl (l' := #[.val (.int p1), .val (.int p2), .val (.int p3), .val (.int p4), .val (.int p5), .val (.int (p1 &&& (3 : Int32))), .unset, .unset, .unset, .unset, .unset, .unset, .unset, .unset, .unset, .unset]) rfl ?_
    exact kt)
  rw [ha_] at K1
  have K2 : Gx p e below s₁ f0 s₁ (mkF m 10 #[.val (.int p1), .val (.int p2), .val (.int p3), .val (.int p4), .val (.int p5), .val (.int (1 : Int32)), .val (.int (p2 &&& (3 : Int32))), .unset, .unset, .unset, .unset, .unset, .unset, .unset, .unset, .unset] []) := fun t kt => K1 t (by
    show Steps p.tables e below (s₁.setTop (mkF m 5 #[.val (.int p1), .val (.int p2), .val (.int p3), .val (.int p4), .val (.int p5), .val (.int (1 : Int32)), .unset, .unset, .unset, .unset, .unset, .unset, .unset, .unset, .unset, .unset] [])) _
    refine XS.iloadN X0.here hx rfl (hb hby at_5) rfl ?_
    show Steps p.tables e below (s₁.setTop (mkF m 6 #[.val (.int p1), .val (.int p2), .val (.int p3), .val (.int p4), .val (.int p5), .val (.int (1 : Int32)), .unset, .unset, .unset, .unset, .unset, .unset, .unset, .unset, .unset, .unset] [(.int p2)])) _
    refine XS.iconst X0.here hx rfl (hb hby at_6) ?_
    show Steps p.tables e below (s₁.setTop (mkF m 7 #[.val (.int p1), .val (.int p2), .val (.int p3), .val (.int p4), .val (.int p5), .val (.int (1 : Int32)), .unset, .unset, .unset, .unset, .unset, .unset, .unset, .unset, .unset, .unset] [(.int (3 : Int32)), (.int p2)])) _
    refine XS.iand X0.here hx rfl (hb hby at_7) rfl ?_
    show Steps p.tables e below (s₁.setTop (mkF m 8 #[.val (.int p1), .val (.int p2), .val (.int p3), .val (.int p4), .val (.int p5), .val (.int (1 : Int32)), .unset, .unset, .unset, .unset, .unset, .unset, .unset, .unset, .unset, .unset] [(.int (p2 &&& (3 : Int32)))])) _
    refine XS.istore X0.here hx rfl (hb hby at_8) rfl (l' := #[.val (.int p1), .val (.int p2), .val (.int p3), .val (.int p4), .val (.int p5), .val (.int (1 : Int32)), .val (.int (p2 &&& (3 : Int32))), .unset, .unset, .unset, .unset, .unset, .unset, .unset, .unset, .unset]) rfl ?_
    exact kt)
  obtain ⟨v3, hv3⟩ : ∃ z : Int32, z = (p2 &&& (3 : Int32)) := ⟨_, rfl⟩
  rw [← hv3] at K2
  have hc1 := own_and3 p2
  rw [← hv3] at hc1
  have K4 : Gx p e below s₁ f0 s₁ (mkF m 15 #[.val (.int p1), .val (.int p2), .val (.int p3), .val (.int p4), .val (.int p5), .val (.int (1 : Int32)), .val (.int v3), .val (.int (p3 &&& (3 : Int32))), .unset, .unset, .unset, .unset, .unset, .unset, .unset, .unset] []) := fun t kt => K2 t (by
    show Steps p.tables e below (s₁.setTop (mkF m 10 #[.val (.int p1), .val (.int p2), .val (.int p3), .val (.int p4), .val (.int p5), .val (.int (1 : Int32)), .val (.int v3), .unset, .unset, .unset, .unset, .unset, .unset, .unset, .unset, .unset] [])) _
    refine XS.iloadN X0.here hx rfl (hb hby at_10) rfl ?_
    show Steps p.tables e below (s₁.setTop (mkF m 11 #[.val (.int p1), .val (.int p2), .val (.int p3), .val (.int p4), .val (.int p5), .val (.int (1 : Int32)), .val (.int v3), .unset, .unset, .unset, .unset, .unset, .unset, .unset, .unset, .unset] [(.int p3)])) _
    refine XS.iconst X0.here hx rfl (hb hby at_11) ?_
    show Steps p.tables e below (s₁.setTop (mkF m 12 #[.val (.int p1), .val (.int p2), .val (.int p3), .val (.int p4), .val (.int p5), .val (.int (1 : Int32)), .val (.int v3), .unset, .unset, .unset, .unset, .unset, .unset, .unset, .unset, .unset] [(.int (3 : Int32)), (.int p3)])) _
    refine XS.iand X0.here hx rfl (hb hby at_12) rfl ?_
    show Steps p.tables e below (s₁.setTop (mkF m 13 #[.val (.int p1), .val (.int p2), .val (.int p3), .val (.int p4), .val (.int p5), .val (.int (1 : Int32)), .val (.int v3), .unset, .unset, .unset, .unset, .unset, .unset, .unset, .unset, .unset] [(.int (p3 &&& (3 : Int32)))])) _
    refine XS.istore X0.here hx rfl (hb hby at_13) rfl (l' := #[.val (.int p1), .val (.int p2), .val (.int p3), .val (.int p4), .val (.int p5), .val (.int (1 : Int32)), .val (.int v3), .val (.int (p3 &&& (3 : Int32))), .unset, .unset, .unset, .unset, .unset, .unset, .unset, .unset]) rfl ?_
    exact kt)
  obtain ⟨v5, hv5⟩ : ∃ z : Int32, z = (p3 &&& (3 : Int32)) := ⟨_, rfl⟩
  rw [← hv5] at K4
  have hc2 := own_and3 p3
  rw [← hv5] at hc2
  have K6 : Gx p e below s₁ f0 s₁ (mkF m 20 #[.val (.int p1), .val (.int p2), .val (.int p3), .val (.int p4), .val (.int p5), .val (.int (1 : Int32)), .val (.int v3), .val (.int v5), .val (.int (p4 &&& (1 : Int32))), .unset, .unset, .unset, .unset, .unset, .unset, .unset] []) := fun t kt => K4 t (by
    show Steps p.tables e below (s₁.setTop (mkF m 15 #[.val (.int p1), .val (.int p2), .val (.int p3), .val (.int p4), .val (.int p5), .val (.int (1 : Int32)), .val (.int v3), .val (.int v5), .unset, .unset, .unset, .unset, .unset, .unset, .unset, .unset] [])) _
    refine XS.iloadN X0.here hx rfl (hb hby at_15) rfl ?_
    show Steps p.tables e below (s₁.setTop (mkF m 16 #[.val (.int p1), .val (.int p2), .val (.int p3), .val (.int p4), .val (.int p5), .val (.int (1 : Int32)), .val (.int v3), .val (.int v5), .unset, .unset, .unset, .unset, .unset, .unset, .unset, .unset] [(.int p4)])) _
    refine XS.iconst X0.here hx rfl (hb hby at_16) ?_
    show Steps p.tables e below (s₁.setTop (mkF m 17 #[.val (.int p1), .val (.int p2), .val (.int p3), .val (.int p4), .val (.int p5), .val (.int (1 : Int32)), .val (.int v3), .val (.int v5), .unset, .unset, .unset, .unset, .unset, .unset, .unset, .unset] [(.int (1 : Int32)), (.int p4)])) _
    refine XS.iand X0.here hx rfl (hb hby at_17) rfl ?_
    show Steps p.tables e below (s₁.setTop (mkF m 18 #[.val (.int p1), .val (.int p2), .val (.int p3), .val (.int p4), .val (.int p5), .val (.int (1 : Int32)), .val (.int v3), .val (.int v5), .unset, .unset, .unset, .unset, .unset, .unset, .unset, .unset] [(.int (p4 &&& (1 : Int32)))])) _
    refine XS.istore X0.here hx rfl (hb hby at_18) rfl (l' := #[.val (.int p1), .val (.int p2), .val (.int p3), .val (.int p4), .val (.int p5), .val (.int (1 : Int32)), .val (.int v3), .val (.int v5), .val (.int (p4 &&& (1 : Int32))), .unset, .unset, .unset, .unset, .unset, .unset, .unset]) rfl ?_
    exact kt)
  obtain ⟨v7, hv7⟩ : ∃ z : Int32, z = (p4 &&& (1 : Int32)) := ⟨_, rfl⟩
  rw [← hv7] at K6
  have K8 : Gx p e below s₁ f0 s₁ (mkF m 22 #[.val (.int p1), .val (.int p2), .val (.int p3), .val (.int p4), .val (.int p5), .val (.int (1 : Int32)), .val (.int v3), .val (.int v5), .val (.int v7), .unset, .unset, .unset, .unset, .unset, .unset, .unset] [(.int (8 : Int32))]) := fun t kt => K6 t (by
    show Steps p.tables e below (s₁.setTop (mkF m 20 #[.val (.int p1), .val (.int p2), .val (.int p3), .val (.int p4), .val (.int p5), .val (.int (1 : Int32)), .val (.int v3), .val (.int v5), .val (.int v7), .unset, .unset, .unset, .unset, .unset, .unset, .unset] [])) _
    refine XS.bipush X0.here hx rfl (hb hby at_20) ?_
    exact kt)
  obtain ⟨T9, h9, k9, X9, e9, E9, A9, st9⟩ := newP X0 hx hZ (hw _ (List.mem_of_getElem? (i := 0) rfl)) e0 (g := (mkF m 22 #[.val (.int p1), .val (.int p2), .val (.int p3), .val (.int p4), .val (.int p5), .val (.int (1 : Int32)), .val (.int v3), .val (.int v5), .val (.int v7), .unset, .unset, .unset, .unset, .unset, .unset, .unset] [(.int (8 : Int32))])) rfl (hb hby at_22) rfl (by decide) (cap := 8) (by decide) (by decide) (by decide) (by decide)
  obtain ⟨b9, g9⟩ : ∃ z, z = h0.size := ⟨_, rfl⟩
  rw [← g9] at A9 st9
  have V9 : Arv Z h9 b9 k9 .int (8 : Int32) [(.int (0 : Int32)), (.int (0 : Int32)), (.int (0 : Int32)), (.int (0 : Int32)), (.int (0 : Int32)), (.int (0 : Int32)), (.int (0 : Int32)), (.int (0 : Int32))] (.int (0 : Int32)) := (Arv.new A9 (by decide)).pad (pad_rep [] (.int (0 : Int32)) 8)
  have K10 : Gx p e below s₁ f0 T9 (mkF m 24 #[.val (.int p1), .val (.int p2), .val (.int p3), .val (.int p4), .val (.int p5), .val (.int (1 : Int32)), .val (.int v3), .val (.int v5), .val (.int v7), .unset, .unset, .unset, .unset, .unset, .unset, .unset] [(.ref b9)]) := fun t kt => K8 t (st9 t kt)
  have K11 : Gx p e below s₁ f0 T9 (mkF m 31 #[.val (.int p1), .val (.int p2), .val (.int p3), .val (.int p4), .val (.int p5), .val (.int (1 : Int32)), .val (.int v3), .val (.int v5), .val (.int v7), .val (.ref b9), .unset, .unset, .unset, .unset, .unset, .unset] [(.int p5), (.int (0 : Int32)), (.ref b9)]) := fun t kt => K10 t (by
    show Steps p.tables e below (T9.setTop (mkF m 24 #[.val (.int p1), .val (.int p2), .val (.int p3), .val (.int p4), .val (.int p5), .val (.int (1 : Int32)), .val (.int v3), .val (.int v5), .val (.int v7), .unset, .unset, .unset, .unset, .unset, .unset, .unset] [(.ref b9)])) _
    refine XS.astore X9.here hx rfl (hb hby at_24) rfl rfl (l' := #[.val (.int p1), .val (.int p2), .val (.int p3), .val (.int p4), .val (.int p5), .val (.int (1 : Int32)), .val (.int v3), .val (.int v5), .val (.int v7), .val (.ref b9), .unset, .unset, .unset, .unset, .unset, .unset]) rfl ?_
    show Steps p.tables e below (T9.setTop (mkF m 26 #[.val (.int p1), .val (.int p2), .val (.int p3), .val (.int p4), .val (.int p5), .val (.int (1 : Int32)), .val (.int v3), .val (.int v5), .val (.int v7), .val (.ref b9), .unset, .unset, .unset, .unset, .unset, .unset] [])) _
    refine XS.aload X9.here hx rfl (hb hby at_26) rfl rfl ?_
    show Steps p.tables e below (T9.setTop (mkF m 28 #[.val (.int p1), .val (.int p2), .val (.int p3), .val (.int p4), .val (.int p5), .val (.int (1 : Int32)), .val (.int v3), .val (.int v5), .val (.int v7), .val (.ref b9), .unset, .unset, .unset, .unset, .unset, .unset] [(.ref b9)])) _
    refine XS.iconst X9.here hx rfl (hb hby at_28) ?_
    show Steps p.tables e below (T9.setTop (mkF m 29 #[.val (.int p1), .val (.int p2), .val (.int p3), .val (.int p4), .val (.int p5), .val (.int (1 : Int32)), .val (.int v3), .val (.int v5), .val (.int v7), .val (.ref b9), .unset, .unset, .unset, .unset, .unset, .unset] [(.int (0 : Int32)), (.ref b9)])) _
    refine XS.iload X9.here hx rfl (hb hby at_29) rfl ?_
    exact kt)
  obtain ⟨clq12, Arq12, ckq12, cSq12, cNq12, cHq12, cGq12⟩ := id V9
  obtain ⟨T13, h13, X13', e13, W13, st13⟩ := stI X9 hx hZ e9 Arq12 (j := (0 : Int32)) (inb_of cSq12 ⟨by decide, by decide⟩) (g := (mkF m 31 #[.val (.int p1), .val (.int p2), .val (.int p3), .val (.int p4), .val (.int p5), .val (.int (1 : Int32)), .val (.int v3), .val (.int v5), .val (.int v7), .val (.ref b9), .unset, .unset, .unset, .unset, .unset, .unset] [(.int p5), (.int (0 : Int32)), (.ref b9)])) rfl rfl (hb hby at_31)
  obtain ⟨lc13, X13, N13⟩ : ∃ lc, Stand p l e room_1 s m #[(.int p1), (.int p2), (.int p3), (.int p4), (.int p5)] below meth c T13 lc 1 8 ∧ Fr n0 lc := ⟨_, X13', Fr.snoc X13' N0 (Nat.le_trans Z0 (Nat.le_trans (Keep.refl h0 []).1 (Nat.le_of_eq g9.symm)))⟩
  have V13 : Arv Z h13 b9 k9 .int (8 : Int32) [(.int p5), (.int (0 : Int32)), (.int (0 : Int32)), (.int (0 : Int32)), (.int (0 : Int32)), (.int (0 : Int32)), (.int (0 : Int32)), (.int (0 : Int32))] (.int (0 : Int32)) := Arv.set Arq12 ckq12 cSq12 cNq12 cHq12 cGq12 rfl W13 0 rfl (Nat.le_of_ble_eq_true rfl)
  have K14 : Gx p e below s₁ f0 T13 (mkF m 32 #[.val (.int p1), .val (.int p2), .val (.int p3), .val (.int p4), .val (.int p5), .val (.int (1 : Int32)), .val (.int v3), .val (.int v5), .val (.int v7), .val (.ref b9), .unset, .unset, .unset, .unset, .unset, .unset] []) := fun t kt => K11 t (st13 t kt)
  have K15 : Gx p e below s₁ f0 T13 (mkF m 39 #[.val (.int p1), .val (.int p2), .val (.int p3), .val (.int p4), .val (.int p5), .val (.int (1 : Int32)), .val (.int v3), .val (.int v5), .val (.int v7), .val (.ref b9), .unset, .unset, .unset, .unset, .unset, .unset] [(.int (p5 + (1 : Int32))), (.int (1 : Int32)), (.ref b9)]) := fun t kt => K14 t (by
    show Steps p.tables e below (T13.setTop (mkF m 32 #[.val (.int p1), .val (.int p2), .val (.int p3), .val (.int p4), .val (.int p5), .val (.int (1 : Int32)), .val (.int v3), .val (.int v5), .val (.int v7), .val (.ref b9), .unset, .unset, .unset, .unset, .unset, .unset] [])) _
    refine XS.aload X13.here hx rfl (hb hby at_32) rfl rfl ?_
    show Steps p.tables e below (T13.setTop (mkF m 34 #[.val (.int p1), .val (.int p2), .val (.int p3), .val (.int p4), .val (.int p5), .val (.int (1 : Int32)), .val (.int v3), .val (.int v5), .val (.int v7), .val (.ref b9), .unset, .unset, .unset, .unset, .unset, .unset] [(.ref b9)])) _
    refine XS.iconst X13.here hx rfl (hb hby at_34) ?_
    show Steps p.tables e below (T13.setTop (mkF m 35 #[.val (.int p1), .val (.int p2), .val (.int p3), .val (.int p4), .val (.int p5), .val (.int (1 : Int32)), .val (.int v3), .val (.int v5), .val (.int v7), .val (.ref b9), .unset, .unset, .unset, .unset, .unset, .unset] [(.int (1 : Int32)), (.ref b9)])) _
    refine XS.iload X13.here hx rfl (hb hby at_35) rfl ?_
    show Steps p.tables e below (T13.setTop (mkF m 37 #[.val (.int p1), .val (.int p2), .val (.int p3), .val (.int p4), .val (.int p5), .val (.int (1 : Int32)), .val (.int v3), .val (.int v5), .val (.int v7), .val (.ref b9), .unset, .unset, .unset, .unset, .unset, .unset] [(.int p5), (.int (1 : Int32)), (.ref b9)])) _
    refine XS.iconst X13.here hx rfl (hb hby at_37) ?_
    show Steps p.tables e below (T13.setTop (mkF m 38 #[.val (.int p1), .val (.int p2), .val (.int p3), .val (.int p4), .val (.int p5), .val (.int (1 : Int32)), .val (.int v3), .val (.int v5), .val (.int v7), .val (.ref b9), .unset, .unset, .unset, .unset, .unset, .unset] [(.int (1 : Int32)), (.int p5), (.int (1 : Int32)), (.ref b9)])) _
    refine XS.iadd X13.here hx rfl (hb hby at_38) rfl ?_
    exact kt)
  obtain ⟨clq16, Arq16, ckq16, cSq16, cNq16, cHq16, cGq16⟩ := id V13
  obtain ⟨T17, h17, X17', e17, W17, st17⟩ := stI X13 hx hZ e13 Arq16 (j := (1 : Int32)) (inb_of cSq16 ⟨by decide, by decide⟩) (g := (mkF m 39 #[.val (.int p1), .val (.int p2), .val (.int p3), .val (.int p4), .val (.int p5), .val (.int (1 : Int32)), .val (.int v3), .val (.int v5), .val (.int v7), .val (.ref b9), .unset, .unset, .unset, .unset, .unset, .unset] [(.int (p5 + (1 : Int32))), (.int (1 : Int32)), (.ref b9)])) rfl rfl (hb hby at_39)
  obtain ⟨lc17, X17, N17⟩ : ∃ lc, Stand p l e room_1 s m #[(.int p1), (.int p2), (.int p3), (.int p4), (.int p5)] below meth c T17 lc 1 8 ∧ Fr n0 lc := ⟨_, X17', Fr.snoc X17' N13 (Nat.le_trans Z0 (Nat.le_trans (Keep.refl h0 []).1 (Nat.le_of_eq g9.symm)))⟩
  have V17 : Arv Z h17 b9 k9 .int (8 : Int32) [(.int p5), (.int (p5 + (1 : Int32))), (.int (0 : Int32)), (.int (0 : Int32)), (.int (0 : Int32)), (.int (0 : Int32)), (.int (0 : Int32)), (.int (0 : Int32))] (.int (0 : Int32)) := Arv.set Arq16 ckq16 cSq16 cNq16 cHq16 cGq16 rfl W17 1 rfl (Nat.le_of_ble_eq_true rfl)
  have K18 : Gx p e below s₁ f0 T17 (mkF m 40 #[.val (.int p1), .val (.int p2), .val (.int p3), .val (.int p4), .val (.int p5), .val (.int (1 : Int32)), .val (.int v3), .val (.int v5), .val (.int v7), .val (.ref b9), .unset, .unset, .unset, .unset, .unset, .unset] []) := fun t kt => K15 t (st17 t kt)
  have K19 : Gx p e below s₁ f0 T17 (mkF m 47 #[.val (.int p1), .val (.int p2), .val (.int p3), .val (.int p4), .val (.int p5), .val (.int (1 : Int32)), .val (.int v3), .val (.int v5), .val (.int v7), .val (.ref b9), .unset, .unset, .unset, .unset, .unset, .unset] [(.int (p5 + (2 : Int32))), (.int (2 : Int32)), (.ref b9)]) := fun t kt => K18 t (by
    show Steps p.tables e below (T17.setTop (mkF m 40 #[.val (.int p1), .val (.int p2), .val (.int p3), .val (.int p4), .val (.int p5), .val (.int (1 : Int32)), .val (.int v3), .val (.int v5), .val (.int v7), .val (.ref b9), .unset, .unset, .unset, .unset, .unset, .unset] [])) _
    refine XS.aload X17.here hx rfl (hb hby at_40) rfl rfl ?_
    show Steps p.tables e below (T17.setTop (mkF m 42 #[.val (.int p1), .val (.int p2), .val (.int p3), .val (.int p4), .val (.int p5), .val (.int (1 : Int32)), .val (.int v3), .val (.int v5), .val (.int v7), .val (.ref b9), .unset, .unset, .unset, .unset, .unset, .unset] [(.ref b9)])) _
    refine XS.iconst X17.here hx rfl (hb hby at_42) ?_
    show Steps p.tables e below (T17.setTop (mkF m 43 #[.val (.int p1), .val (.int p2), .val (.int p3), .val (.int p4), .val (.int p5), .val (.int (1 : Int32)), .val (.int v3), .val (.int v5), .val (.int v7), .val (.ref b9), .unset, .unset, .unset, .unset, .unset, .unset] [(.int (2 : Int32)), (.ref b9)])) _
    refine XS.iload X17.here hx rfl (hb hby at_43) rfl ?_
    show Steps p.tables e below (T17.setTop (mkF m 45 #[.val (.int p1), .val (.int p2), .val (.int p3), .val (.int p4), .val (.int p5), .val (.int (1 : Int32)), .val (.int v3), .val (.int v5), .val (.int v7), .val (.ref b9), .unset, .unset, .unset, .unset, .unset, .unset] [(.int p5), (.int (2 : Int32)), (.ref b9)])) _
    refine XS.iconst X17.here hx rfl (hb hby at_45) ?_
    show Steps p.tables e below (T17.setTop (mkF m 46 #[.val (.int p1), .val (.int p2), .val (.int p3), .val (.int p4), .val (.int p5), .val (.int (1 : Int32)), .val (.int v3), .val (.int v5), .val (.int v7), .val (.ref b9), .unset, .unset, .unset, .unset, .unset, .unset] [(.int (2 : Int32)), (.int p5), (.int (2 : Int32)), (.ref b9)])) _
    refine XS.iadd X17.here hx rfl (hb hby at_46) rfl ?_
    exact kt)
  obtain ⟨clq20, Arq20, ckq20, cSq20, cNq20, cHq20, cGq20⟩ := id V17
  obtain ⟨T21, h21, X21', e21, W21, st21⟩ := stI X17 hx hZ e17 Arq20 (j := (2 : Int32)) (inb_of cSq20 ⟨by decide, by decide⟩) (g := (mkF m 47 #[.val (.int p1), .val (.int p2), .val (.int p3), .val (.int p4), .val (.int p5), .val (.int (1 : Int32)), .val (.int v3), .val (.int v5), .val (.int v7), .val (.ref b9), .unset, .unset, .unset, .unset, .unset, .unset] [(.int (p5 + (2 : Int32))), (.int (2 : Int32)), (.ref b9)])) rfl rfl (hb hby at_47)
  obtain ⟨lc21, X21, N21⟩ : ∃ lc, Stand p l e room_1 s m #[(.int p1), (.int p2), (.int p3), (.int p4), (.int p5)] below meth c T21 lc 1 8 ∧ Fr n0 lc := ⟨_, X21', Fr.snoc X21' N17 (Nat.le_trans Z0 (Nat.le_trans (Keep.refl h0 []).1 (Nat.le_of_eq g9.symm)))⟩
  have V21 : Arv Z h21 b9 k9 .int (8 : Int32) [(.int p5), (.int (p5 + (1 : Int32))), (.int (p5 + (2 : Int32))), (.int (0 : Int32)), (.int (0 : Int32)), (.int (0 : Int32)), (.int (0 : Int32)), (.int (0 : Int32))] (.int (0 : Int32)) := Arv.set Arq20 ckq20 cSq20 cNq20 cHq20 cGq20 rfl W21 2 rfl (Nat.le_of_ble_eq_true rfl)
  have K22 : Gx p e below s₁ f0 T21 (mkF m 48 #[.val (.int p1), .val (.int p2), .val (.int p3), .val (.int p4), .val (.int p5), .val (.int (1 : Int32)), .val (.int v3), .val (.int v5), .val (.int v7), .val (.ref b9), .unset, .unset, .unset, .unset, .unset, .unset] []) := fun t kt => K19 t (st21 t kt)
  have K23 : Gx p e below s₁ f0 T21 (mkF m 55 #[.val (.int p1), .val (.int p2), .val (.int p3), .val (.int p4), .val (.int p5), .val (.int (1 : Int32)), .val (.int v3), .val (.int v5), .val (.int v7), .val (.ref b9), .unset, .unset, .unset, .unset, .unset, .unset] [(.int (p5 + (3 : Int32))), (.int (3 : Int32)), (.ref b9)]) := fun t kt => K22 t (by
    show Steps p.tables e below (T21.setTop (mkF m 48 #[.val (.int p1), .val (.int p2), .val (.int p3), .val (.int p4), .val (.int p5), .val (.int (1 : Int32)), .val (.int v3), .val (.int v5), .val (.int v7), .val (.ref b9), .unset, .unset, .unset, .unset, .unset, .unset] [])) _
    refine XS.aload X21.here hx rfl (hb hby at_48) rfl rfl ?_
    show Steps p.tables e below (T21.setTop (mkF m 50 #[.val (.int p1), .val (.int p2), .val (.int p3), .val (.int p4), .val (.int p5), .val (.int (1 : Int32)), .val (.int v3), .val (.int v5), .val (.int v7), .val (.ref b9), .unset, .unset, .unset, .unset, .unset, .unset] [(.ref b9)])) _
    refine XS.iconst X21.here hx rfl (hb hby at_50) ?_
    show Steps p.tables e below (T21.setTop (mkF m 51 #[.val (.int p1), .val (.int p2), .val (.int p3), .val (.int p4), .val (.int p5), .val (.int (1 : Int32)), .val (.int v3), .val (.int v5), .val (.int v7), .val (.ref b9), .unset, .unset, .unset, .unset, .unset, .unset] [(.int (3 : Int32)), (.ref b9)])) _
    refine XS.iload X21.here hx rfl (hb hby at_51) rfl ?_
    show Steps p.tables e below (T21.setTop (mkF m 53 #[.val (.int p1), .val (.int p2), .val (.int p3), .val (.int p4), .val (.int p5), .val (.int (1 : Int32)), .val (.int v3), .val (.int v5), .val (.int v7), .val (.ref b9), .unset, .unset, .unset, .unset, .unset, .unset] [(.int p5), (.int (3 : Int32)), (.ref b9)])) _
    refine XS.iconst X21.here hx rfl (hb hby at_53) ?_
    show Steps p.tables e below (T21.setTop (mkF m 54 #[.val (.int p1), .val (.int p2), .val (.int p3), .val (.int p4), .val (.int p5), .val (.int (1 : Int32)), .val (.int v3), .val (.int v5), .val (.int v7), .val (.ref b9), .unset, .unset, .unset, .unset, .unset, .unset] [(.int (3 : Int32)), (.int p5), (.int (3 : Int32)), (.ref b9)])) _
    refine XS.iadd X21.here hx rfl (hb hby at_54) rfl ?_
    exact kt)
  obtain ⟨clq24, Arq24, ckq24, cSq24, cNq24, cHq24, cGq24⟩ := id V21
  obtain ⟨T25, h25, X25', e25, W25, st25⟩ := stI X21 hx hZ e21 Arq24 (j := (3 : Int32)) (inb_of cSq24 ⟨by decide, by decide⟩) (g := (mkF m 55 #[.val (.int p1), .val (.int p2), .val (.int p3), .val (.int p4), .val (.int p5), .val (.int (1 : Int32)), .val (.int v3), .val (.int v5), .val (.int v7), .val (.ref b9), .unset, .unset, .unset, .unset, .unset, .unset] [(.int (p5 + (3 : Int32))), (.int (3 : Int32)), (.ref b9)])) rfl rfl (hb hby at_55)
  obtain ⟨lc25, X25, N25⟩ : ∃ lc, Stand p l e room_1 s m #[(.int p1), (.int p2), (.int p3), (.int p4), (.int p5)] below meth c T25 lc 1 8 ∧ Fr n0 lc := ⟨_, X25', Fr.snoc X25' N21 (Nat.le_trans Z0 (Nat.le_trans (Keep.refl h0 []).1 (Nat.le_of_eq g9.symm)))⟩
  have V25 : Arv Z h25 b9 k9 .int (8 : Int32) [(.int p5), (.int (p5 + (1 : Int32))), (.int (p5 + (2 : Int32))), (.int (p5 + (3 : Int32))), (.int (0 : Int32)), (.int (0 : Int32)), (.int (0 : Int32)), (.int (0 : Int32))] (.int (0 : Int32)) := Arv.set Arq24 ckq24 cSq24 cNq24 cHq24 cGq24 rfl W25 3 rfl (Nat.le_of_ble_eq_true rfl)
  have K26 : Gx p e below s₁ f0 T25 (mkF m 56 #[.val (.int p1), .val (.int p2), .val (.int p3), .val (.int p4), .val (.int p5), .val (.int (1 : Int32)), .val (.int v3), .val (.int v5), .val (.int v7), .val (.ref b9), .unset, .unset, .unset, .unset, .unset, .unset] []) := fun t kt => K23 t (st25 t kt)
  have K27 : Gx p e below s₁ f0 T25 (mkF m 63 #[.val (.int p1), .val (.int p2), .val (.int p3), .val (.int p4), .val (.int p5), .val (.int (1 : Int32)), .val (.int v3), .val (.int v5), .val (.int v7), .val (.ref b9), .unset, .unset, .unset, .unset, .unset, .unset] [(.int (p5 + (4 : Int32))), (.int (4 : Int32)), (.ref b9)]) := fun t kt => K26 t (by
    show Steps p.tables e below (T25.setTop (mkF m 56 #[.val (.int p1), .val (.int p2), .val (.int p3), .val (.int p4), .val (.int p5), .val (.int (1 : Int32)), .val (.int v3), .val (.int v5), .val (.int v7), .val (.ref b9), .unset, .unset, .unset, .unset, .unset, .unset] [])) _
    refine XS.aload X25.here hx rfl (hb hby at_56) rfl rfl ?_
    show Steps p.tables e below (T25.setTop (mkF m 58 #[.val (.int p1), .val (.int p2), .val (.int p3), .val (.int p4), .val (.int p5), .val (.int (1 : Int32)), .val (.int v3), .val (.int v5), .val (.int v7), .val (.ref b9), .unset, .unset, .unset, .unset, .unset, .unset] [(.ref b9)])) _
    refine XS.iconst X25.here hx rfl (hb hby at_58) ?_
    show Steps p.tables e below (T25.setTop (mkF m 59 #[.val (.int p1), .val (.int p2), .val (.int p3), .val (.int p4), .val (.int p5), .val (.int (1 : Int32)), .val (.int v3), .val (.int v5), .val (.int v7), .val (.ref b9), .unset, .unset, .unset, .unset, .unset, .unset] [(.int (4 : Int32)), (.ref b9)])) _
    refine XS.iload X25.here hx rfl (hb hby at_59) rfl ?_
    show Steps p.tables e below (T25.setTop (mkF m 61 #[.val (.int p1), .val (.int p2), .val (.int p3), .val (.int p4), .val (.int p5), .val (.int (1 : Int32)), .val (.int v3), .val (.int v5), .val (.int v7), .val (.ref b9), .unset, .unset, .unset, .unset, .unset, .unset] [(.int p5), (.int (4 : Int32)), (.ref b9)])) _
    refine XS.iconst X25.here hx rfl (hb hby at_61) ?_
    show Steps p.tables e below (T25.setTop (mkF m 62 #[.val (.int p1), .val (.int p2), .val (.int p3), .val (.int p4), .val (.int p5), .val (.int (1 : Int32)), .val (.int v3), .val (.int v5), .val (.int v7), .val (.ref b9), .unset, .unset, .unset, .unset, .unset, .unset] [(.int (4 : Int32)), (.int p5), (.int (4 : Int32)), (.ref b9)])) _
    refine XS.iadd X25.here hx rfl (hb hby at_62) rfl ?_
    exact kt)
  obtain ⟨clq28, Arq28, ckq28, cSq28, cNq28, cHq28, cGq28⟩ := id V25
  obtain ⟨T29, h29, X29', e29, W29, st29⟩ := stI X25 hx hZ e25 Arq28 (j := (4 : Int32)) (inb_of cSq28 ⟨by decide, by decide⟩) (g := (mkF m 63 #[.val (.int p1), .val (.int p2), .val (.int p3), .val (.int p4), .val (.int p5), .val (.int (1 : Int32)), .val (.int v3), .val (.int v5), .val (.int v7), .val (.ref b9), .unset, .unset, .unset, .unset, .unset, .unset] [(.int (p5 + (4 : Int32))), (.int (4 : Int32)), (.ref b9)])) rfl rfl (hb hby at_63)
  obtain ⟨lc29, X29, N29⟩ : ∃ lc, Stand p l e room_1 s m #[(.int p1), (.int p2), (.int p3), (.int p4), (.int p5)] below meth c T29 lc 1 8 ∧ Fr n0 lc := ⟨_, X29', Fr.snoc X29' N25 (Nat.le_trans Z0 (Nat.le_trans (Keep.refl h0 []).1 (Nat.le_of_eq g9.symm)))⟩
  have V29 : Arv Z h29 b9 k9 .int (8 : Int32) [(.int p5), (.int (p5 + (1 : Int32))), (.int (p5 + (2 : Int32))), (.int (p5 + (3 : Int32))), (.int (p5 + (4 : Int32))), (.int (0 : Int32)), (.int (0 : Int32)), (.int (0 : Int32))] (.int (0 : Int32)) := Arv.set Arq28 ckq28 cSq28 cNq28 cHq28 cGq28 rfl W29 4 rfl (Nat.le_of_ble_eq_true rfl)
  have K30 : Gx p e below s₁ f0 T29 (mkF m 64 #[.val (.int p1), .val (.int p2), .val (.int p3), .val (.int p4), .val (.int p5), .val (.int (1 : Int32)), .val (.int v3), .val (.int v5), .val (.int v7), .val (.ref b9), .unset, .unset, .unset, .unset, .unset, .unset] []) := fun t kt => K27 t (st29 t kt)
  have K31 : Gx p e below s₁ f0 T29 (mkF m 71 #[.val (.int p1), .val (.int p2), .val (.int p3), .val (.int p4), .val (.int p5), .val (.int (1 : Int32)), .val (.int v3), .val (.int v5), .val (.int v7), .val (.ref b9), .unset, .unset, .unset, .unset, .unset, .unset] [(.int (p5 + (5 : Int32))), (.int (5 : Int32)), (.ref b9)]) := fun t kt => K30 t (by
    show Steps p.tables e below (T29.setTop (mkF m 64 #[.val (.int p1), .val (.int p2), .val (.int p3), .val (.int p4), .val (.int p5), .val (.int (1 : Int32)), .val (.int v3), .val (.int v5), .val (.int v7), .val (.ref b9), .unset, .unset, .unset, .unset, .unset, .unset] [])) _
    refine XS.aload X29.here hx rfl (hb hby at_64) rfl rfl ?_
    show Steps p.tables e below (T29.setTop (mkF m 66 #[.val (.int p1), .val (.int p2), .val (.int p3), .val (.int p4), .val (.int p5), .val (.int (1 : Int32)), .val (.int v3), .val (.int v5), .val (.int v7), .val (.ref b9), .unset, .unset, .unset, .unset, .unset, .unset] [(.ref b9)])) _
    refine XS.iconst X29.here hx rfl (hb hby at_66) ?_
    show Steps p.tables e below (T29.setTop (mkF m 67 #[.val (.int p1), .val (.int p2), .val (.int p3), .val (.int p4), .val (.int p5), .val (.int (1 : Int32)), .val (.int v3), .val (.int v5), .val (.int v7), .val (.ref b9), .unset, .unset, .unset, .unset, .unset, .unset] [(.int (5 : Int32)), (.ref b9)])) _
    refine XS.iload X29.here hx rfl (hb hby at_67) rfl ?_
    show Steps p.tables e below (T29.setTop (mkF m 69 #[.val (.int p1), .val (.int p2), .val (.int p3), .val (.int p4), .val (.int p5), .val (.int (1 : Int32)), .val (.int v3), .val (.int v5), .val (.int v7), .val (.ref b9), .unset, .unset, .unset, .unset, .unset, .unset] [(.int p5), (.int (5 : Int32)), (.ref b9)])) _
    refine XS.iconst X29.here hx rfl (hb hby at_69) ?_
    show Steps p.tables e below (T29.setTop (mkF m 70 #[.val (.int p1), .val (.int p2), .val (.int p3), .val (.int p4), .val (.int p5), .val (.int (1 : Int32)), .val (.int v3), .val (.int v5), .val (.int v7), .val (.ref b9), .unset, .unset, .unset, .unset, .unset, .unset] [(.int (5 : Int32)), (.int p5), (.int (5 : Int32)), (.ref b9)])) _
    refine XS.iadd X29.here hx rfl (hb hby at_70) rfl ?_
    exact kt)
  obtain ⟨clq32, Arq32, ckq32, cSq32, cNq32, cHq32, cGq32⟩ := id V29
  obtain ⟨T33, h33, X33', e33, W33, st33⟩ := stI X29 hx hZ e29 Arq32 (j := (5 : Int32)) (inb_of cSq32 ⟨by decide, by decide⟩) (g := (mkF m 71 #[.val (.int p1), .val (.int p2), .val (.int p3), .val (.int p4), .val (.int p5), .val (.int (1 : Int32)), .val (.int v3), .val (.int v5), .val (.int v7), .val (.ref b9), .unset, .unset, .unset, .unset, .unset, .unset] [(.int (p5 + (5 : Int32))), (.int (5 : Int32)), (.ref b9)])) rfl rfl (hb hby at_71)
  obtain ⟨lc33, X33, N33⟩ : ∃ lc, Stand p l e room_1 s m #[(.int p1), (.int p2), (.int p3), (.int p4), (.int p5)] below meth c T33 lc 1 8 ∧ Fr n0 lc := ⟨_, X33', Fr.snoc X33' N29 (Nat.le_trans Z0 (Nat.le_trans (Keep.refl h0 []).1 (Nat.le_of_eq g9.symm)))⟩
  have V33 : Arv Z h33 b9 k9 .int (8 : Int32) [(.int p5), (.int (p5 + (1 : Int32))), (.int (p5 + (2 : Int32))), (.int (p5 + (3 : Int32))), (.int (p5 + (4 : Int32))), (.int (p5 + (5 : Int32))), (.int (0 : Int32)), (.int (0 : Int32))] (.int (0 : Int32)) := Arv.set Arq32 ckq32 cSq32 cNq32 cHq32 cGq32 rfl W33 5 rfl (Nat.le_of_ble_eq_true rfl)
  have K34 : Gx p e below s₁ f0 T33 (mkF m 72 #[.val (.int p1), .val (.int p2), .val (.int p3), .val (.int p4), .val (.int p5), .val (.int (1 : Int32)), .val (.int v3), .val (.int v5), .val (.int v7), .val (.ref b9), .unset, .unset, .unset, .unset, .unset, .unset] []) := fun t kt => K31 t (st33 t kt)
  have K35 : Gx p e below s₁ f0 T33 (mkF m 81 #[.val (.int p1), .val (.int p2), .val (.int p3), .val (.int p4), .val (.int p5), .val (.int (1 : Int32)), .val (.int v3), .val (.int v5), .val (.int v7), .val (.ref b9), .unset, .unset, .unset, .unset, .unset, .unset] [(.int (p5 + (6 : Int32))), (.int (6 : Int32)), (.ref b9)]) := fun t kt => K34 t (by
    show Steps p.tables e below (T33.setTop (mkF m 72 #[.val (.int p1), .val (.int p2), .val (.int p3), .val (.int p4), .val (.int p5), .val (.int (1 : Int32)), .val (.int v3), .val (.int v5), .val (.int v7), .val (.ref b9), .unset, .unset, .unset, .unset, .unset, .unset] [])) _
    refine XS.aload X33.here hx rfl (hb hby at_72) rfl rfl ?_
    show Steps p.tables e below (T33.setTop (mkF m 74 #[.val (.int p1), .val (.int p2), .val (.int p3), .val (.int p4), .val (.int p5), .val (.int (1 : Int32)), .val (.int v3), .val (.int v5), .val (.int v7), .val (.ref b9), .unset, .unset, .unset, .unset, .unset, .unset] [(.ref b9)])) _
    refine XS.bipush X33.here hx rfl (hb hby at_74) ?_
    show Steps p.tables e below (T33.setTop (mkF m 76 #[.val (.int p1), .val (.int p2), .val (.int p3), .val (.int p4), .val (.int p5), .val (.int (1 : Int32)), .val (.int v3), .val (.int v5), .val (.int v7), .val (.ref b9), .unset, .unset, .unset, .unset, .unset, .unset] [(.int (6 : Int32)), (.ref b9)])) _
    refine XS.iload X33.here hx rfl (hb hby at_76) rfl ?_
    show Steps p.tables e below (T33.setTop (mkF m 78 #[.val (.int p1), .val (.int p2), .val (.int p3), .val (.int p4), .val (.int p5), .val (.int (1 : Int32)), .val (.int v3), .val (.int v5), .val (.int v7), .val (.ref b9), .unset, .unset, .unset, .unset, .unset, .unset] [(.int p5), (.int (6 : Int32)), (.ref b9)])) _
    refine XS.bipush X33.here hx rfl (hb hby at_78) ?_
    show Steps p.tables e below (T33.setTop (mkF m 80 #[.val (.int p1), .val (.int p2), .val (.int p3), .val (.int p4), .val (.int p5), .val (.int (1 : Int32)), .val (.int v3), .val (.int v5), .val (.int v7), .val (.ref b9), .unset, .unset, .unset, .unset, .unset, .unset] [(.int (6 : Int32)), (.int p5), (.int (6 : Int32)), (.ref b9)])) _
    refine XS.iadd X33.here hx rfl (hb hby at_80) rfl ?_
    exact kt)
  obtain ⟨clq36, Arq36, ckq36, cSq36, cNq36, cHq36, cGq36⟩ := id V33
  obtain ⟨T37, h37, X37', e37, W37, st37⟩ := stI X33 hx hZ e33 Arq36 (j := (6 : Int32)) (inb_of cSq36 ⟨by decide, by decide⟩) (g := (mkF m 81 #[.val (.int p1), .val (.int p2), .val (.int p3), .val (.int p4), .val (.int p5), .val (.int (1 : Int32)), .val (.int v3), .val (.int v5), .val (.int v7), .val (.ref b9), .unset, .unset, .unset, .unset, .unset, .unset] [(.int (p5 + (6 : Int32))), (.int (6 : Int32)), (.ref b9)])) rfl rfl (hb hby at_81)
  obtain ⟨lc37, X37, N37⟩ : ∃ lc, Stand p l e room_1 s m #[(.int p1), (.int p2), (.int p3), (.int p4), (.int p5)] below meth c T37 lc 1 8 ∧ Fr n0 lc := ⟨_, X37', Fr.snoc X37' N33 (Nat.le_trans Z0 (Nat.le_trans (Keep.refl h0 []).1 (Nat.le_of_eq g9.symm)))⟩
  have V37 : Arv Z h37 b9 k9 .int (8 : Int32) [(.int p5), (.int (p5 + (1 : Int32))), (.int (p5 + (2 : Int32))), (.int (p5 + (3 : Int32))), (.int (p5 + (4 : Int32))), (.int (p5 + (5 : Int32))), (.int (p5 + (6 : Int32))), (.int (0 : Int32))] (.int (0 : Int32)) := Arv.set Arq36 ckq36 cSq36 cNq36 cHq36 cGq36 rfl W37 6 rfl (Nat.le_of_ble_eq_true rfl)
  have K38 : Gx p e below s₁ f0 T37 (mkF m 82 #[.val (.int p1), .val (.int p2), .val (.int p3), .val (.int p4), .val (.int p5), .val (.int (1 : Int32)), .val (.int v3), .val (.int v5), .val (.int v7), .val (.ref b9), .unset, .unset, .unset, .unset, .unset, .unset] []) := fun t kt => K35 t (st37 t kt)
  have K39 : Gx p e below s₁ f0 T37 (mkF m 91 #[.val (.int p1), .val (.int p2), .val (.int p3), .val (.int p4), .val (.int p5), .val (.int (1 : Int32)), .val (.int v3), .val (.int v5), .val (.int v7), .val (.ref b9), .unset, .unset, .unset, .unset, .unset, .unset] [(.int (p5 + (7 : Int32))), (.int (7 : Int32)), (.ref b9)]) := fun t kt => K38 t (by
    show Steps p.tables e below (T37.setTop (mkF m 82 #[.val (.int p1), .val (.int p2), .val (.int p3), .val (.int p4), .val (.int p5), .val (.int (1 : Int32)), .val (.int v3), .val (.int v5), .val (.int v7), .val (.ref b9), .unset, .unset, .unset, .unset, .unset, .unset] [])) _
    refine XS.aload X37.here hx rfl (hb hby at_82) rfl rfl ?_
    show Steps p.tables e below (T37.setTop (mkF m 84 #[.val (.int p1), .val (.int p2), .val (.int p3), .val (.int p4), .val (.int p5), .val (.int (1 : Int32)), .val (.int v3), .val (.int v5), .val (.int v7), .val (.ref b9), .unset, .unset, .unset, .unset, .unset, .unset] [(.ref b9)])) _
    refine XS.bipush X37.here hx rfl (hb hby at_84) ?_
    show Steps p.tables e below (T37.setTop (mkF m 86 #[.val (.int p1), .val (.int p2), .val (.int p3), .val (.int p4), .val (.int p5), .val (.int (1 : Int32)), .val (.int v3), .val (.int v5), .val (.int v7), .val (.ref b9), .unset, .unset, .unset, .unset, .unset, .unset] [(.int (7 : Int32)), (.ref b9)])) _
    refine XS.iload X37.here hx rfl (hb hby at_86) rfl ?_
    show Steps p.tables e below (T37.setTop (mkF m 88 #[.val (.int p1), .val (.int p2), .val (.int p3), .val (.int p4), .val (.int p5), .val (.int (1 : Int32)), .val (.int v3), .val (.int v5), .val (.int v7), .val (.ref b9), .unset, .unset, .unset, .unset, .unset, .unset] [(.int p5), (.int (7 : Int32)), (.ref b9)])) _
    refine XS.bipush X37.here hx rfl (hb hby at_88) ?_
    show Steps p.tables e below (T37.setTop (mkF m 90 #[.val (.int p1), .val (.int p2), .val (.int p3), .val (.int p4), .val (.int p5), .val (.int (1 : Int32)), .val (.int v3), .val (.int v5), .val (.int v7), .val (.ref b9), .unset, .unset, .unset, .unset, .unset, .unset] [(.int (7 : Int32)), (.int p5), (.int (7 : Int32)), (.ref b9)])) _
    refine XS.iadd X37.here hx rfl (hb hby at_90) rfl ?_
    exact kt)
  obtain ⟨clq40, Arq40, ckq40, cSq40, cNq40, cHq40, cGq40⟩ := id V37
  obtain ⟨T41, h41, X41', e41, W41, st41⟩ := stI X37 hx hZ e37 Arq40 (j := (7 : Int32)) (inb_of cSq40 ⟨by decide, by decide⟩) (g := (mkF m 91 #[.val (.int p1), .val (.int p2), .val (.int p3), .val (.int p4), .val (.int p5), .val (.int (1 : Int32)), .val (.int v3), .val (.int v5), .val (.int v7), .val (.ref b9), .unset, .unset, .unset, .unset, .unset, .unset] [(.int (p5 + (7 : Int32))), (.int (7 : Int32)), (.ref b9)])) rfl rfl (hb hby at_91)
  obtain ⟨lc41, X41, N41⟩ : ∃ lc, Stand p l e room_1 s m #[(.int p1), (.int p2), (.int p3), (.int p4), (.int p5)] below meth c T41 lc 1 8 ∧ Fr n0 lc := ⟨_, X41', Fr.snoc X41' N37 (Nat.le_trans Z0 (Nat.le_trans (Keep.refl h0 []).1 (Nat.le_of_eq g9.symm)))⟩
  have V41 : Arv Z h41 b9 k9 .int (8 : Int32) [(.int p5), (.int (p5 + (1 : Int32))), (.int (p5 + (2 : Int32))), (.int (p5 + (3 : Int32))), (.int (p5 + (4 : Int32))), (.int (p5 + (5 : Int32))), (.int (p5 + (6 : Int32))), (.int (p5 + (7 : Int32)))] (.int (0 : Int32)) := Arv.set Arq40 ckq40 cSq40 cNq40 cHq40 cGq40 rfl W41 7 rfl (Nat.le_of_ble_eq_true rfl)
  have K42 : Gx p e below s₁ f0 T41 (mkF m 92 #[.val (.int p1), .val (.int p2), .val (.int p3), .val (.int p4), .val (.int p5), .val (.int (1 : Int32)), .val (.int v3), .val (.int v5), .val (.int v7), .val (.ref b9), .unset, .unset, .unset, .unset, .unset, .unset] []) := fun t kt => K39 t (st41 t kt)
  obtain ⟨T43, h43, X43, e43, E43, A43, D43, -, st43⟩ := newO X41 hx hZ hown (hw _ (List.mem_of_getElem? (i := 1) rfl)) (hw _ (List.mem_of_getElem? (i := 2) rfl)) (hw _ (List.mem_of_getElem? (i := 3) rfl)) e41 (g := (mkF m 92 #[.val (.int p1), .val (.int p2), .val (.int p3), .val (.int p4), .val (.int p5), .val (.int (1 : Int32)), .val (.int v3), .val (.int v5), .val (.int v7), .val (.ref b9), .unset, .unset, .unset, .unset, .unset, .unset] [])) rfl (hb hby at_92) (by decide) (by decide)
  obtain ⟨b43, g43⟩ : ∃ z, z = h41.size := ⟨_, rfl⟩
  rw [← g43] at A43 D43 st43
  have f44 : Fld Z h43 b43 "lastcolumn/stage/Probabilities" "states" "[I" .null := D43 (Or.inr (hw _ (List.mem_of_getElem? (i := 11) rfl))) (ty := (.array .int)) (by decide)
  have f45 : Fld Z h43 b43 "lastcolumn/stage/Probabilities" "at" "I" (.int (0 : Int32)) := D43 (Or.inr (hw _ (List.mem_of_getElem? (i := 13) rfl))) (ty := .int) (by decide)
  have K46 : Gx p e below s₁ f0 T43 (mkF m 95 #[.val (.int p1), .val (.int p2), .val (.int p3), .val (.int p4), .val (.int p5), .val (.int (1 : Int32)), .val (.int v3), .val (.int v5), .val (.int v7), .val (.ref b9), .unset, .unset, .unset, .unset, .unset, .unset] [(.ref b43)]) := fun t kt => K42 t (st43 t kt)
  have K47 : Gx p e below s₁ f0 T43 (mkF m 101 #[.val (.int p1), .val (.int p2), .val (.int p3), .val (.int p4), .val (.int p5), .val (.int (1 : Int32)), .val (.int v3), .val (.int v5), .val (.int v7), .val (.ref b9), .unset, .unset, .unset, .unset, .unset, .unset] [(.int (4 : Int32)), (.int (1 : Int32)), (.ref b9), (.ref b43), (.ref b43)]) := fun t kt => K46 t (by
    show Steps p.tables e below (T43.setTop (mkF m 95 #[.val (.int p1), .val (.int p2), .val (.int p3), .val (.int p4), .val (.int p5), .val (.int (1 : Int32)), .val (.int v3), .val (.int v5), .val (.int v7), .val (.ref b9), .unset, .unset, .unset, .unset, .unset, .unset] [(.ref b43)])) _
    refine XS.dup X43.here hx rfl (hb hby at_95) rfl rfl ?_
    show Steps p.tables e below (T43.setTop (mkF m 96 #[.val (.int p1), .val (.int p2), .val (.int p3), .val (.int p4), .val (.int p5), .val (.int (1 : Int32)), .val (.int v3), .val (.int v5), .val (.int v7), .val (.ref b9), .unset, .unset, .unset, .unset, .unset, .unset] [(.ref b43), (.ref b43)])) _
    refine XS.aload X43.here hx rfl (hb hby at_96) rfl rfl ?_
    show Steps p.tables e below (T43.setTop (mkF m 98 #[.val (.int p1), .val (.int p2), .val (.int p3), .val (.int p4), .val (.int p5), .val (.int (1 : Int32)), .val (.int v3), .val (.int v5), .val (.int v7), .val (.ref b9), .unset, .unset, .unset, .unset, .unset, .unset] [(.ref b9), (.ref b43), (.ref b43)])) _
    refine XS.iload X43.here hx rfl (hb hby at_98) rfl ?_
    show Steps p.tables e below (T43.setTop (mkF m 100 #[.val (.int p1), .val (.int p2), .val (.int p3), .val (.int p4), .val (.int p5), .val (.int (1 : Int32)), .val (.int v3), .val (.int v5), .val (.int v7), .val (.ref b9), .unset, .unset, .unset, .unset, .unset, .unset] [(.int (1 : Int32)), (.ref b9), (.ref b43), (.ref b43)])) _
    refine XS.iconst X43.here hx rfl (hb hby at_100) ?_
    exact kt)
  have f48 : Arv Z h43 b9 k9 .int (8 : Int32) [(.int p5), (.int (p5 + (1 : Int32))), (.int (p5 + (2 : Int32))), (.int (p5 + (3 : Int32))), (.int (p5 + (4 : Int32))), (.int (p5 + (5 : Int32))), (.int (p5 + (6 : Int32))), (.int (p5 + (7 : Int32)))] (.int (0 : Int32)) := (V41.ext E43)
  have kp49 : Keep h0 h43 [] := (((((((((((Keep.refl h0 []).ext E9).wr W13 (Or.inr (Nat.le_trans (Keep.refl h0 []).1 (Nat.le_of_eq g9.symm)))).wr W17 (Or.inr (Nat.le_trans (Keep.refl h0 []).1 (Nat.le_of_eq g9.symm)))).wr W21 (Or.inr (Nat.le_trans (Keep.refl h0 []).1 (Nat.le_of_eq g9.symm)))).wr W25 (Or.inr (Nat.le_trans (Keep.refl h0 []).1 (Nat.le_of_eq g9.symm)))).wr W29 (Or.inr (Nat.le_trans (Keep.refl h0 []).1 (Nat.le_of_eq g9.symm)))).wr W33 (Or.inr (Nat.le_trans (Keep.refl h0 []).1 (Nat.le_of_eq g9.symm)))).wr W37 (Or.inr (Nat.le_trans (Keep.refl h0 []).1 (Nat.le_of_eq g9.symm)))).wr W41 (Or.inr (Nat.le_trans (Keep.refl h0 []).1 (Nat.le_of_eq g9.symm)))).ext E43)
  obtain ⟨_, _, ⟨T50, L50, k50, n50⟩, -, X50', ⟨Lc50, hQ50, l50, y50, z50⟩, st50⟩ := X43.specialBack hx (y := (⟨"lastcolumn/stage/Probabilities", "<init>", "([III)V"⟩ : MethodName)) rfl hown (mvT hZ (hw _ (List.mem_of_getElem? (i := 4) rfl))) (mvT hZ (hw _ (List.mem_of_getElem? (i := 5) rfl))) (mvT hZ (hw _ (List.mem_of_getElem? (i := 6) rfl))) (by decide) (backOf (W := 1) (rmIni1 l Z a0 hw [] b43 b9 k9 p5 (p5 + (1 : Int32)) (p5 + (2 : Int32)) (p5 + (3 : Int32)) (p5 + (4 : Int32)) (p5 + (5 : Int32)) (p5 + (6 : Int32)) (p5 + (7 : Int32)) h43 n0 (Nat.le_trans Z0 kp49.1) A43 (Nat.le_trans Z0 (Nat.le_trans ((((((((((Keep.refl h0 []).ext E9).wr W13 (Or.inr (Nat.le_trans (Keep.refl h0 []).1 (Nat.le_of_eq g9.symm)))).wr W17 (Or.inr (Nat.le_trans (Keep.refl h0 []).1 (Nat.le_of_eq g9.symm)))).wr W21 (Or.inr (Nat.le_trans (Keep.refl h0 []).1 (Nat.le_of_eq g9.symm)))).wr W25 (Or.inr (Nat.le_trans (Keep.refl h0 []).1 (Nat.le_of_eq g9.symm)))).wr W29 (Or.inr (Nat.le_trans (Keep.refl h0 []).1 (Nat.le_of_eq g9.symm)))).wr W33 (Or.inr (Nat.le_trans (Keep.refl h0 []).1 (Nat.le_of_eq g9.symm)))).wr W37 (Or.inr (Nat.le_trans (Keep.refl h0 []).1 (Nat.le_of_eq g9.symm)))).wr W41 (Or.inr (Nat.le_trans (Keep.refl h0 []).1 (Nat.le_of_eq g9.symm)))).1 (Nat.le_of_eq g43.symm))) (Nat.le_trans Z0 (Nat.le_trans (Keep.refl h0 []).1 (Nat.le_of_eq g9.symm))) f44 f45 f48 (Ne.symm (Nat.ne_of_lt (Nat.lt_of_lt_of_le V41.lt (Nat.le_of_eq g43.symm))))) hZ (hw _ (List.mem_of_getElem? (i := 6) rfl)) (hw _ (List.mem_of_getElem? (i := 3) rfl)) (by decide) (by decide)) (g := (mkF m 101 #[.val (.int p1), .val (.int p2), .val (.int p3), .val (.int p4), .val (.int p5), .val (.int (1 : Int32)), .val (.int v3), .val (.int v5), .val (.int v7), .val (.ref b9), .unset, .unset, .unset, .unset, .unset, .unset] [(.int (4 : Int32)), (.int (1 : Int32)), (.ref b9), (.ref b43), (.ref b43)])) rfl (by rw [hml]; rfl) (Steps.refl _) (a := b43) (argsL := [(.ref b9), (.int (1 : Int32)), (.int (4 : Int32))]) (rest := [(.ref b43)]) (lenOf pd___III_V rfl) rfl (by show 2 * 0 + _ ≤ _; exact Nat.le_of_eq rfl) (hb hby at_101) (fun _ _ => ⟨rfl, e43, (by decide : 2 + 0 ≤ _), (by decide : 10 + 0 ≤ _)⟩)
  dsimp only [Pt.U, Pt.locs, Pt.cells, Pt.slots] at X50' l50 y50 z50 st50 hQ50
  subst l50 y50 z50
  obtain ⟨h50, e50⟩ : ∃ z, T50.heap = z := ⟨_, rfl⟩
  rw [e50] at hQ50
  obtain ⟨rfl, N50q, Kc50, f51, f52, f53, f54⟩ := hQ50
  obtain ⟨lc50, X50, N50⟩ : ∃ lc, Stand p l e room_1 s m #[(.int p1), (.int p2), (.int p3), (.int p4), (.int p5)] below meth c T50 lc 2 10 ∧ Fr n0 lc := ⟨_, X50', Fr.app N41 N50q⟩
  have K55 : Gx p e below s₁ f0 T50 (mkF m 104 #[.val (.int p1), .val (.int p2), .val (.int p3), .val (.int p4), .val (.int p5), .val (.int (1 : Int32)), .val (.int v3), .val (.int v5), .val (.int v7), .val (.ref b9), .unset, .unset, .unset, .unset, .unset, .unset] [(.ref b43)]) := fun t kt => K47 t (st50.trans kt)
  have K56 : Gx p e below s₁ f0 T50 (mkF m 110 #[.val (.int p1), .val (.int p2), .val (.int p3), .val (.int p4), .val (.int p5), .val (.int (1 : Int32)), .val (.int v3), .val (.int v5), .val (.int v7), .val (.ref b9), .val (.ref b43), .unset, .unset, .unset, .unset, .unset] [(.int v5), (.ref b43)]) := fun t kt => K55 t (by
    show Steps p.tables e below (T50.setTop (mkF m 104 #[.val (.int p1), .val (.int p2), .val (.int p3), .val (.int p4), .val (.int p5), .val (.int (1 : Int32)), .val (.int v3), .val (.int v5), .val (.int v7), .val (.ref b9), .unset, .unset, .unset, .unset, .unset, .unset] [(.ref b43)])) _
    refine XS.astore X50.here hx rfl (hb hby at_104) rfl rfl (l' := #[.val (.int p1), .val (.int p2), .val (.int p3), .val (.int p4), .val (.int p5), .val (.int (1 : Int32)), .val (.int v3), .val (.int v5), .val (.int v7), .val (.ref b9), .val (.ref b43), .unset, .unset, .unset, .unset, .unset]) rfl ?_
    show Steps p.tables e below (T50.setTop (mkF m 106 #[.val (.int p1), .val (.int p2), .val (.int p3), .val (.int p4), .val (.int p5), .val (.int (1 : Int32)), .val (.int v3), .val (.int v5), .val (.int v7), .val (.ref b9), .val (.ref b43), .unset, .unset, .unset, .unset, .unset] [])) _
    refine XS.aload X50.here hx rfl (hb hby at_106) rfl rfl ?_
    show Steps p.tables e below (T50.setTop (mkF m 108 #[.val (.int p1), .val (.int p2), .val (.int p3), .val (.int p4), .val (.int p5), .val (.int (1 : Int32)), .val (.int v3), .val (.int v5), .val (.int v7), .val (.ref b9), .val (.ref b43), .unset, .unset, .unset, .unset, .unset] [(.ref b43)])) _
    refine XS.iload X50.here hx rfl (hb hby at_108) rfl ?_
    exact kt)
  have kp57 : Keep h0 h50 [] := (Keep.trans kp49 Kc50 (allS (Or.inr (Nat.le_trans ((((((((((Keep.refl h0 []).ext E9).wr W13 (Or.inr (Nat.le_trans (Keep.refl h0 []).1 (Nat.le_of_eq g9.symm)))).wr W17 (Or.inr (Nat.le_trans (Keep.refl h0 []).1 (Nat.le_of_eq g9.symm)))).wr W21 (Or.inr (Nat.le_trans (Keep.refl h0 []).1 (Nat.le_of_eq g9.symm)))).wr W25 (Or.inr (Nat.le_trans (Keep.refl h0 []).1 (Nat.le_of_eq g9.symm)))).wr W29 (Or.inr (Nat.le_trans (Keep.refl h0 []).1 (Nat.le_of_eq g9.symm)))).wr W33 (Or.inr (Nat.le_trans (Keep.refl h0 []).1 (Nat.le_of_eq g9.symm)))).wr W37 (Or.inr (Nat.le_trans (Keep.refl h0 []).1 (Nat.le_of_eq g9.symm)))).wr W41 (Or.inr (Nat.le_trans (Keep.refl h0 []).1 (Nat.le_of_eq g9.symm)))).1 (Nat.le_of_eq g43.symm))) (allS (Or.inr (Nat.le_trans (Keep.refl h0 []).1 (Nat.le_of_eq g9.symm))) all0)))
  obtain ⟨cq58, kq58, q58a, q58b, q58c⟩ := isOf hZ e50 f51
  obtain ⟨_, _, ⟨T58, L58, k58, n58⟩, -, X58', ⟨Lc58, hQ58, l58, y58, z58⟩, st58⟩ := X50.virtualBack hx (y := (⟨"lastcolumn/stage/Probabilities", "ofOne", "(I)I"⟩ : MethodName)) (z := (⟨"lastcolumn/stage/Probabilities", "ofOne", "(I)I"⟩ : MethodName)) hown (mvT hZ (hw _ (List.mem_of_getElem? (i := 22) rfl))) (mvT hZ (hw _ (List.mem_of_getElem? (i := 23) rfl))) (notFace_of_selects (args := #[]) (mvT hZ (hw _ (List.mem_of_getElem? (i := 25) rfl)))) (mvT hZ (hw _ (List.mem_of_getElem? (i := 25) rfl))) (mvT hZ (hw _ (List.mem_of_getElem? (i := 24) rfl))) (by decide) (backOf (W := 0) (rmOf1 l Z a0 hw [] b43 v5 b9 (1 : Int32) k9 [(.int p5), (.int (-2147483648 : Int32)), (.int (-2147483648 : Int32)), (.int (-2147483648 : Int32)), (.int (-2147483648 : Int32)), (.int (p5 + (5 : Int32))), (.int (p5 + (6 : Int32))), (.int (p5 + (7 : Int32)))] (-2147483648 : Int32) h50 n0 (Nat.le_trans Z0 kp57.1) f52 f53 f54 (by rcases hc2 with q | q | q | q <;> rw [q] <;> decide) (by rcases hc2 with q | q | q | q <;> rw [q] <;> rfl)) hZ (hw _ (List.mem_of_getElem? (i := 26) rfl)) (hw _ (List.mem_of_getElem? (i := 3) rfl)) (by decide) (by decide)) q58a q58c (g := (mkF m 110 #[.val (.int p1), .val (.int p2), .val (.int p3), .val (.int p4), .val (.int p5), .val (.int (1 : Int32)), .val (.int v3), .val (.int v5), .val (.int v7), .val (.ref b9), .val (.ref b43), .unset, .unset, .unset, .unset, .unset] [(.int v5), (.ref b43)])) rfl (by rw [hml]; rfl) (Steps.refl _) (argsL := [(.int v5)]) (rest := []) (lenOf pd__I_I rfl) rfl (by show 2 * 0 + _ ≤ _; exact Nat.le_of_eq rfl) (hb hby at_110) (fun _ _ => ⟨rfl, e50, (by decide : 2 + 0 ≤ _), (by decide : 10 + 0 ≤ _)⟩)
  dsimp only [Pt.U, Pt.locs, Pt.cells, Pt.slots] at X58' l58 y58 z58 st58 hQ58
  subst l58 y58 z58
  obtain ⟨rfl, N58q, e58⟩ := hQ58
  obtain ⟨lc58, X58, N58⟩ : ∃ lc, Stand p l e room_1 s m #[(.int p1), (.int p2), (.int p3), (.int p4), (.int p5)] below meth c T58 lc 2 10 ∧ Fr n0 lc := ⟨_, X58', Fr.app N50 N58q⟩
  have K59 : Gx p e below s₁ f0 T58 (mkF m 113 #[.val (.int p1), .val (.int p2), .val (.int p3), .val (.int p4), .val (.int p5), .val (.int (1 : Int32)), .val (.int v3), .val (.int v5), .val (.int v7), .val (.ref b9), .val (.ref b43), .unset, .unset, .unset, .unset, .unset] [(.int (((-2147483648 : Int32).toUInt32 >>> ((16 : Int32) &&& 31).toUInt32).toInt32))]) := fun t kt => K56 t (st58.trans kt)
  obtain ⟨v60, hv60⟩ : ∃ z : Int32, z = (((-2147483648 : Int32).toUInt32 >>> ((16 : Int32) &&& 31).toUInt32).toInt32) := ⟨_, rfl⟩
  rw [← hv60] at K59
  have K61 : Gx p e below s₁ f0 T58 (mkF m 121 #[.val (.int p1), .val (.int p2), .val (.int p3), .val (.int p4), .val (.int p5), .val (.int (1 : Int32)), .val (.int v3), .val (.int v5), .val (.int v7), .val (.ref b9), .val (.ref b43), .val (.int v60), .unset, .unset, .unset, .unset] [(.int v7), (.int v3), (.ref b43)]) := fun t kt => K59 t (by
    show Steps p.tables e below (T58.setTop (mkF m 113 #[.val (.int p1), .val (.int p2), .val (.int p3), .val (.int p4), .val (.int p5), .val (.int (1 : Int32)), .val (.int v3), .val (.int v5), .val (.int v7), .val (.ref b9), .val (.ref b43), .unset, .unset, .unset, .unset, .unset] [(.int v60)])) _
    refine XS.istore X58.here hx rfl (hb hby at_113) rfl (l' := #[.val (.int p1), .val (.int p2), .val (.int p3), .val (.int p4), .val (.int p5), .val (.int (1 : Int32)), .val (.int v3), .val (.int v5), .val (.int v7), .val (.ref b9), .val (.ref b43), .val (.int v60), .unset, .unset, .unset, .unset]) rfl ?_
    show Steps p.tables e below (T58.setTop (mkF m 115 #[.val (.int p1), .val (.int p2), .val (.int p3), .val (.int p4), .val (.int p5), .val (.int (1 : Int32)), .val (.int v3), .val (.int v5), .val (.int v7), .val (.ref b9), .val (.ref b43), .val (.int v60), .unset, .unset, .unset, .unset] [])) _
    refine XS.aload X58.here hx rfl (hb hby at_115) rfl rfl ?_
    show Steps p.tables e below (T58.setTop (mkF m 117 #[.val (.int p1), .val (.int p2), .val (.int p3), .val (.int p4), .val (.int p5), .val (.int (1 : Int32)), .val (.int v3), .val (.int v5), .val (.int v7), .val (.ref b9), .val (.ref b43), .val (.int v60), .unset, .unset, .unset, .unset] [(.ref b43)])) _
    refine XS.iload X58.here hx rfl (hb hby at_117) rfl ?_
    show Steps p.tables e below (T58.setTop (mkF m 119 #[.val (.int p1), .val (.int p2), .val (.int p3), .val (.int p4), .val (.int p5), .val (.int (1 : Int32)), .val (.int v3), .val (.int v5), .val (.int v7), .val (.ref b9), .val (.ref b43), .val (.int v60), .unset, .unset, .unset, .unset] [(.int v3), (.ref b43)])) _
    refine XS.iload X58.here hx rfl (hb hby at_119) rfl ?_
    exact kt)
  have f62 : Old Z n0 h50 := (((((((((((pr2.ext E9).wr W13 (Nat.le_trans Z0 (Nat.le_trans (Keep.refl h0 []).1 (Nat.le_of_eq g9.symm)))).wr W17 (Nat.le_trans Z0 (Nat.le_trans (Keep.refl h0 []).1 (Nat.le_of_eq g9.symm)))).wr W21 (Nat.le_trans Z0 (Nat.le_trans (Keep.refl h0 []).1 (Nat.le_of_eq g9.symm)))).wr W25 (Nat.le_trans Z0 (Nat.le_trans (Keep.refl h0 []).1 (Nat.le_of_eq g9.symm)))).wr W29 (Nat.le_trans Z0 (Nat.le_trans (Keep.refl h0 []).1 (Nat.le_of_eq g9.symm)))).wr W33 (Nat.le_trans Z0 (Nat.le_trans (Keep.refl h0 []).1 (Nat.le_of_eq g9.symm)))).wr W37 (Nat.le_trans Z0 (Nat.le_trans (Keep.refl h0 []).1 (Nat.le_of_eq g9.symm)))).wr W41 (Nat.le_trans Z0 (Nat.le_trans (Keep.refl h0 []).1 (Nat.le_of_eq g9.symm)))).ext E43).keep Kc50 (allS (Nat.le_trans Z0 (Nat.le_trans ((((((((((Keep.refl h0 []).ext E9).wr W13 (Or.inr (Nat.le_trans (Keep.refl h0 []).1 (Nat.le_of_eq g9.symm)))).wr W17 (Or.inr (Nat.le_trans (Keep.refl h0 []).1 (Nat.le_of_eq g9.symm)))).wr W21 (Or.inr (Nat.le_trans (Keep.refl h0 []).1 (Nat.le_of_eq g9.symm)))).wr W25 (Or.inr (Nat.le_trans (Keep.refl h0 []).1 (Nat.le_of_eq g9.symm)))).wr W29 (Or.inr (Nat.le_trans (Keep.refl h0 []).1 (Nat.le_of_eq g9.symm)))).wr W33 (Or.inr (Nat.le_trans (Keep.refl h0 []).1 (Nat.le_of_eq g9.symm)))).wr W37 (Or.inr (Nat.le_trans (Keep.refl h0 []).1 (Nat.le_of_eq g9.symm)))).wr W41 (Or.inr (Nat.le_trans (Keep.refl h0 []).1 (Nat.le_of_eq g9.symm)))).1 (Nat.le_of_eq g43.symm))) (allS (Nat.le_trans Z0 (Nat.le_trans (Keep.refl h0 []).1 (Nat.le_of_eq g9.symm))) all0)))
  obtain ⟨cq63, kq63, q63a, q63b, q63c⟩ := isOf hZ e58 f51
  obtain ⟨_, _, ⟨T63, L63, k63, n63⟩, -, X63', ⟨Lc63, hQ63, l63, y63, z63⟩, st63⟩ := X58.virtualBack hx (y := (⟨"lastcolumn/stage/Probabilities", "learn", "(II)V"⟩ : MethodName)) (z := (⟨"lastcolumn/stage/Probabilities", "learn", "(II)V"⟩ : MethodName)) hown (mvT hZ (hw _ (List.mem_of_getElem? (i := 27) rfl))) (mvT hZ (hw _ (List.mem_of_getElem? (i := 28) rfl))) (notFace_of_selects (args := #[]) (mvT hZ (hw _ (List.mem_of_getElem? (i := 30) rfl)))) (mvT hZ (hw _ (List.mem_of_getElem? (i := 30) rfl))) (mvT hZ (hw _ (List.mem_of_getElem? (i := 29) rfl))) (by decide) (backOf (W := 0) (rmLrn l Z a0 hw [] b43 v3 v7 b9 (1 : Int32) k9 [(.int p5), (.int (-2147483648 : Int32)), (.int (-2147483648 : Int32)), (.int (-2147483648 : Int32)), (.int (-2147483648 : Int32)), (.int (p5 + (5 : Int32))), (.int (p5 + (6 : Int32))), (.int (p5 + (7 : Int32)))] ra kr h50 n0 (Nat.le_trans Z0 kp57.1) f51 (Nat.le_trans Z0 (Nat.le_trans (Keep.refl h0 []).1 (Nat.le_of_eq g9.symm))) f52 f53 f54 (Ne.symm (Nat.ne_of_lt (Nat.lt_of_lt_of_le V41.lt (Nat.le_of_eq g43.symm)))) pr0 pr1 f62 (by rcases hc1 with q | q | q | q <;> rw [q] <;> decide) (by rcases hc1 with q | q | q | q <;> rw [q] <;> rfl) (by rcases hc1 with q | q | q | q <;> rw [q] <;> exact Nat.le_of_ble_eq_true rfl)) hZ (hw _ (List.mem_of_getElem? (i := 31) rfl)) (hw _ (List.mem_of_getElem? (i := 3) rfl)) (by decide) (by decide)) q63a q63c (g := (mkF m 121 #[.val (.int p1), .val (.int p2), .val (.int p3), .val (.int p4), .val (.int p5), .val (.int (1 : Int32)), .val (.int v3), .val (.int v5), .val (.int v7), .val (.ref b9), .val (.ref b43), .val (.int v60), .unset, .unset, .unset, .unset] [(.int v7), (.int v3), (.ref b43)])) rfl (by rw [hml]; rfl) (Steps.refl _) (argsL := [(.int v3), (.int v7)]) (rest := []) (lenOf pd__II_V rfl) rfl (by show 2 * 0 + _ ≤ _; exact Nat.le_of_eq rfl) (hb hby at_121) (fun _ _ => ⟨rfl, e58, (by decide : 2 + 0 ≤ _), (by decide : 10 + 0 ≤ _)⟩)
  dsimp only [Pt.U, Pt.locs, Pt.cells, Pt.slots] at X63' l63 y63 z63 st63 hQ63
  subst l63 y63 z63
  obtain ⟨h63, e63⟩ : ∃ z, T63.heap = z := ⟨_, rfl⟩
  rw [e63] at hQ63
  obtain ⟨rfl, N63q, Kc63, f64⟩ := hQ63
  obtain ⟨lc63, X63, N63⟩ : ∃ lc, Stand p l e room_1 s m #[(.int p1), (.int p2), (.int p3), (.int p4), (.int p5)] below meth c T63 lc 2 10 ∧ Fr n0 lc := ⟨_, X63', Fr.app N58 N63q⟩
  have K65 : Gx p e below s₁ f0 T63 (mkF m 124 #[.val (.int p1), .val (.int p2), .val (.int p3), .val (.int p4), .val (.int p5), .val (.int (1 : Int32)), .val (.int v3), .val (.int v5), .val (.int v7), .val (.ref b9), .val (.ref b43), .val (.int v60), .unset, .unset, .unset, .unset] []) := fun t kt => K61 t (st63.trans kt)
  have K66 : Gx p e below s₁ f0 T63 (mkF m 128 #[.val (.int p1), .val (.int p2), .val (.int p3), .val (.int p4), .val (.int p5), .val (.int (1 : Int32)), .val (.int v3), .val (.int v5), .val (.int v7), .val (.ref b9), .val (.ref b43), .val (.int v60), .unset, .unset, .unset, .unset] [(.int v3), (.ref b43)]) := fun t kt => K65 t (by
    show Steps p.tables e below (T63.setTop (mkF m 124 #[.val (.int p1), .val (.int p2), .val (.int p3), .val (.int p4), .val (.int p5), .val (.int (1 : Int32)), .val (.int v3), .val (.int v5), .val (.int v7), .val (.ref b9), .val (.ref b43), .val (.int v60), .unset, .unset, .unset, .unset] [])) _
    refine XS.aload X63.here hx rfl (hb hby at_124) rfl rfl ?_
    show Steps p.tables e below (T63.setTop (mkF m 126 #[.val (.int p1), .val (.int p2), .val (.int p3), .val (.int p4), .val (.int p5), .val (.int (1 : Int32)), .val (.int v3), .val (.int v5), .val (.int v7), .val (.ref b9), .val (.ref b43), .val (.int v60), .unset, .unset, .unset, .unset] [(.ref b43)])) _
    refine XS.iload X63.here hx rfl (hb hby at_126) rfl ?_
    exact kt)
  have f67 : Fld Z h63 b43 "lastcolumn/stage/Probabilities" "states" "[I" (.ref b9) := (f52.keep Kc63 (ninS (Ne.symm (Nat.ne_of_lt (Nat.lt_of_lt_of_le V41.lt (Nat.le_of_eq g43.symm)))) nin0))
  have f68 : Fld Z h63 b43 "lastcolumn/stage/Probabilities" "at" "I" (.int (1 : Int32)) := (f53.keep Kc63 (ninS (Ne.symm (Nat.ne_of_lt (Nat.lt_of_lt_of_le V41.lt (Nat.le_of_eq g43.symm)))) nin0))
  have kp69 : Keep h0 h63 [] := (Keep.trans kp57 Kc63 (allS (Or.inr (Nat.le_trans (Keep.refl h0 []).1 (Nat.le_of_eq g9.symm))) all0))
  have f71 : Exa Z h63 b43 "lastcolumn/stage/Probabilities" := (f51.keep Kc63)
  obtain ⟨cq70, kq70, q70a, q70b, q70c⟩ := isOf hZ e63 f71
  obtain ⟨_, _, ⟨T70, L70, k70, n70⟩, -, X70', ⟨Lc70, hQ70, l70, y70, z70⟩, st70⟩ := X63.virtualBack hx (y := (⟨"lastcolumn/stage/Probabilities", "ofOne", "(I)I"⟩ : MethodName)) (z := (⟨"lastcolumn/stage/Probabilities", "ofOne", "(I)I"⟩ : MethodName)) hown (mvT hZ (hw _ (List.mem_of_getElem? (i := 22) rfl))) (mvT hZ (hw _ (List.mem_of_getElem? (i := 23) rfl))) (notFace_of_selects (args := #[]) (mvT hZ (hw _ (List.mem_of_getElem? (i := 25) rfl)))) (mvT hZ (hw _ (List.mem_of_getElem? (i := 25) rfl))) (mvT hZ (hw _ (List.mem_of_getElem? (i := 24) rfl))) (by decide) (backOf (W := 0) (rmOf1 l Z a0 hw [] b43 v3 b9 (1 : Int32) k9 ([(.int p5), (.int (-2147483648 : Int32)), (.int (-2147483648 : Int32)), (.int (-2147483648 : Int32)), (.int (-2147483648 : Int32)), (.int (p5 + (5 : Int32))), (.int (p5 + (6 : Int32))), (.int (p5 + (7 : Int32)))].set ((1 : Int32) + v3).toNatClampNeg (.int (if v7 = (1 : Int32) then (-715850751 : Int32) else (715849729 : Int32)))) (if v7 = (1 : Int32) then (-715850751 : Int32) else (715849729 : Int32)) h63 n0 (Nat.le_trans Z0 kp69.1) f67 f68 f64 (by rcases hc1 with q | q | q | q <;> rw [q] <;> decide) (by rcases hc1 with q | q | q | q <;> rw [q] <;> rfl)) hZ (hw _ (List.mem_of_getElem? (i := 26) rfl)) (hw _ (List.mem_of_getElem? (i := 3) rfl)) (by decide) (by decide)) q70a q70c (g := (mkF m 128 #[.val (.int p1), .val (.int p2), .val (.int p3), .val (.int p4), .val (.int p5), .val (.int (1 : Int32)), .val (.int v3), .val (.int v5), .val (.int v7), .val (.ref b9), .val (.ref b43), .val (.int v60), .unset, .unset, .unset, .unset] [(.int v3), (.ref b43)])) rfl (by rw [hml]; rfl) (Steps.refl _) (argsL := [(.int v3)]) (rest := []) (lenOf pd__I_I rfl) rfl (by show 2 * 0 + _ ≤ _; exact Nat.le_of_eq rfl) (hb hby at_128) (fun _ _ => ⟨rfl, e63, (by decide : 2 + 0 ≤ _), (by decide : 10 + 0 ≤ _)⟩)
  dsimp only [Pt.U, Pt.locs, Pt.cells, Pt.slots] at X70' l70 y70 z70 st70 hQ70
  subst l70 y70 z70
  obtain ⟨rfl, N70q, e70⟩ := hQ70
  obtain ⟨lc70, X70, N70⟩ : ∃ lc, Stand p l e room_1 s m #[(.int p1), (.int p2), (.int p3), (.int p4), (.int p5)] below meth c T70 lc 2 10 ∧ Fr n0 lc := ⟨_, X70', Fr.app N63 N70q⟩
  have K72 : Gx p e below s₁ f0 T70 (mkF m 131 #[.val (.int p1), .val (.int p2), .val (.int p3), .val (.int p4), .val (.int p5), .val (.int (1 : Int32)), .val (.int v3), .val (.int v5), .val (.int v7), .val (.ref b9), .val (.ref b43), .val (.int v60), .unset, .unset, .unset, .unset] [(.int (((if v7 = (1 : Int32) then (-715850751 : Int32) else (715849729 : Int32)).toUInt32 >>> ((16 : Int32) &&& 31).toUInt32).toInt32))]) := fun t kt => K66 t (st70.trans kt)
  obtain ⟨v73, hv73⟩ : ∃ z : Int32, z = (((if v7 = (1 : Int32) then (-715850751 : Int32) else (715849729 : Int32)).toUInt32 >>> ((16 : Int32) &&& 31).toUInt32).toInt32) := ⟨_, rfl⟩
  rw [← hv73] at K72
  have K74 : Gx p e below s₁ f0 T70 (mkF m 137 #[.val (.int p1), .val (.int p2), .val (.int p3), .val (.int p4), .val (.int p5), .val (.int (1 : Int32)), .val (.int v3), .val (.int v5), .val (.int v7), .val (.ref b9), .val (.ref b43), .val (.int v60), .val (.int v73), .unset, .unset, .unset] [(.int v5), (.ref b43)]) := fun t kt => K72 t (by
    show Steps p.tables e below (T70.setTop (mkF m 131 #[.val (.int p1), .val (.int p2), .val (.int p3), .val (.int p4), .val (.int p5), .val (.int (1 : Int32)), .val (.int v3), .val (.int v5), .val (.int v7), .val (.ref b9), .val (.ref b43), .val (.int v60), .unset, .unset, .unset, .unset] [(.int v73)])) _
    refine XS.istore X70.here hx rfl (hb hby at_131) rfl (l' := #[.val (.int p1), .val (.int p2), .val (.int p3), .val (.int p4), .val (.int p5), .val (.int (1 : Int32)), .val (.int v3), .val (.int v5), .val (.int v7), .val (.ref b9), .val (.ref b43), .val (.int v60), .val (.int v73), .unset, .unset, .unset]) rfl ?_
    show Steps p.tables e below (T70.setTop (mkF m 133 #[.val (.int p1), .val (.int p2), .val (.int p3), .val (.int p4), .val (.int p5), .val (.int (1 : Int32)), .val (.int v3), .val (.int v5), .val (.int v7), .val (.ref b9), .val (.ref b43), .val (.int v60), .val (.int v73), .unset, .unset, .unset] [])) _
    refine XS.aload X70.here hx rfl (hb hby at_133) rfl rfl ?_
    show Steps p.tables e below (T70.setTop (mkF m 135 #[.val (.int p1), .val (.int p2), .val (.int p3), .val (.int p4), .val (.int p5), .val (.int (1 : Int32)), .val (.int v3), .val (.int v5), .val (.int v7), .val (.ref b9), .val (.ref b43), .val (.int v60), .val (.int v73), .unset, .unset, .unset] [(.ref b43)])) _
    refine XS.iload X70.here hx rfl (hb hby at_135) rfl ?_
    exact kt)
  obtain ⟨cq75, kq75, q75a, q75b, q75c⟩ := isOf hZ e70 f71
  obtain ⟨_, _, ⟨T75, L75, k75, n75⟩, -, X75', ⟨Lc75, hQ75, l75, y75, z75⟩, st75⟩ := X70.virtualBack hx (y := (⟨"lastcolumn/stage/Probabilities", "ofOne", "(I)I"⟩ : MethodName)) (z := (⟨"lastcolumn/stage/Probabilities", "ofOne", "(I)I"⟩ : MethodName)) hown (mvT hZ (hw _ (List.mem_of_getElem? (i := 22) rfl))) (mvT hZ (hw _ (List.mem_of_getElem? (i := 23) rfl))) (notFace_of_selects (args := #[]) (mvT hZ (hw _ (List.mem_of_getElem? (i := 25) rfl)))) (mvT hZ (hw _ (List.mem_of_getElem? (i := 25) rfl))) (mvT hZ (hw _ (List.mem_of_getElem? (i := 24) rfl))) (by decide) (backOf (W := 0) (rmOf1 l Z a0 hw [] b43 v5 b9 (1 : Int32) k9 ([(.int p5), (.int (-2147483648 : Int32)), (.int (-2147483648 : Int32)), (.int (-2147483648 : Int32)), (.int (-2147483648 : Int32)), (.int (p5 + (5 : Int32))), (.int (p5 + (6 : Int32))), (.int (p5 + (7 : Int32)))].set ((1 : Int32) + v3).toNatClampNeg (.int (if v7 = (1 : Int32) then (-715850751 : Int32) else (715849729 : Int32)))) (if v5 = v3 then (if v7 = (1 : Int32) then (-715850751 : Int32) else (715849729 : Int32)) else (-2147483648 : Int32)) h63 n0 (Nat.le_trans Z0 kp69.1) f67 f68 f64 (by rcases hc2 with q | q | q | q <;> rw [q] <;> decide) (by rcases hc1 with q | q | q | q <;> rcases hc2 with r | r | r | r <;> rw [q, r] <;> rfl)) hZ (hw _ (List.mem_of_getElem? (i := 26) rfl)) (hw _ (List.mem_of_getElem? (i := 3) rfl)) (by decide) (by decide)) q75a q75c (g := (mkF m 137 #[.val (.int p1), .val (.int p2), .val (.int p3), .val (.int p4), .val (.int p5), .val (.int (1 : Int32)), .val (.int v3), .val (.int v5), .val (.int v7), .val (.ref b9), .val (.ref b43), .val (.int v60), .val (.int v73), .unset, .unset, .unset] [(.int v5), (.ref b43)])) rfl (by rw [hml]; rfl) (Steps.refl _) (argsL := [(.int v5)]) (rest := []) (lenOf pd__I_I rfl) rfl (by show 2 * 0 + _ ≤ _; exact Nat.le_of_eq rfl) (hb hby at_137) (fun _ _ => ⟨rfl, e70, (by decide : 2 + 0 ≤ _), (by decide : 10 + 0 ≤ _)⟩)
  dsimp only [Pt.U, Pt.locs, Pt.cells, Pt.slots] at X75' l75 y75 z75 st75 hQ75
  subst l75 y75 z75
  obtain ⟨rfl, N75q, e75⟩ := hQ75
  obtain ⟨lc75, X75, N75⟩ : ∃ lc, Stand p l e room_1 s m #[(.int p1), (.int p2), (.int p3), (.int p4), (.int p5)] below meth c T75 lc 2 10 ∧ Fr n0 lc := ⟨_, X75', Fr.app N70 N75q⟩
  have K76 : Gx p e below s₁ f0 T75 (mkF m 140 #[.val (.int p1), .val (.int p2), .val (.int p3), .val (.int p4), .val (.int p5), .val (.int (1 : Int32)), .val (.int v3), .val (.int v5), .val (.int v7), .val (.ref b9), .val (.ref b43), .val (.int v60), .val (.int v73), .unset, .unset, .unset] [(.int (((if v5 = v3 then (if v7 = (1 : Int32) then (-715850751 : Int32) else (715849729 : Int32)) else (-2147483648 : Int32)).toUInt32 >>> ((16 : Int32) &&& 31).toUInt32).toInt32))]) := fun t kt => K74 t (st75.trans kt)
  obtain ⟨v77, hv77⟩ : ∃ z : Int32, z = (((if v5 = v3 then (if v7 = (1 : Int32) then (-715850751 : Int32) else (715849729 : Int32)) else (-2147483648 : Int32)).toUInt32 >>> ((16 : Int32) &&& 31).toUInt32).toInt32) := ⟨_, rfl⟩
  rw [← hv77] at K76
  have K80 : Gx p e below s₁ f0 T75 (mkF m 145 #[.val (.int p1), .val (.int p2), .val (.int p3), .val (.int p4), .val (.int p5), .val (.int (1 : Int32)), .val (.int v3), .val (.int v5), .val (.int v7), .val (.ref b9), .val (.ref b43), .val (.int v60), .val (.int v73), .val (.int v77), .unset, .unset] [(.int (1 : Int32)), (.int v7)]) := fun t kt => K76 t (by
    show Steps p.tables e below (T75.setTop (mkF m 140 #[.val (.int p1), .val (.int p2), .val (.int p3), .val (.int p4), .val (.int p5), .val (.int (1 : Int32)), .val (.int v3), .val (.int v5), .val (.int v7), .val (.ref b9), .val (.ref b43), .val (.int v60), .val (.int v73), .unset, .unset, .unset] [(.int v77)])) _
    refine XS.istore X75.here hx rfl (hb hby at_140) rfl (l' := #[.val (.int p1), .val (.int p2), .val (.int p3), .val (.int p4), .val (.int p5), .val (.int (1 : Int32)), .val (.int v3), .val (.int v5), .val (.int v7), .val (.ref b9), .val (.ref b43), .val (.int v60), .val (.int v73), .val (.int v77), .unset, .unset]) rfl ?_
    show Steps p.tables e below (T75.setTop (mkF m 142 #[.val (.int p1), .val (.int p2), .val (.int p3), .val (.int p4), .val (.int p5), .val (.int (1 : Int32)), .val (.int v3), .val (.int v5), .val (.int v7), .val (.ref b9), .val (.ref b43), .val (.int v60), .val (.int v73), .val (.int v77), .unset, .unset] [])) _
    refine XS.iload X75.here hx rfl (hb hby at_142) rfl ?_
    show Steps p.tables e below (T75.setTop (mkF m 144 #[.val (.int p1), .val (.int p2), .val (.int p3), .val (.int p4), .val (.int p5), .val (.int (1 : Int32)), .val (.int v3), .val (.int v5), .val (.int v7), .val (.ref b9), .val (.ref b43), .val (.int v60), .val (.int v73), .val (.int v77), .unset, .unset] [(.int v7)])) _
    refine XS.iconst X75.here hx rfl (hb hby at_144) ?_
    exact kt)
  obtain ⟨v79, hv79⟩ : ∃ z : Int32, z = (if v7 = (1 : Int32) then (54612 : Int32) else (10923 : Int32)) := ⟨_, rfl⟩
  have K81 : Gx p e below s₁ f0 T75 (mkF m 156 #[.val (.int p1), .val (.int p2), .val (.int p3), .val (.int p4), .val (.int p5), .val (.int (1 : Int32)), .val (.int v3), .val (.int v5), .val (.int v7), .val (.ref b9), .val (.ref b43), .val (.int v60), .val (.int v73), .val (.int v77), .unset, .unset] [(.int v79)]) := fun t kt => K80 t (by
    by_cases hc145_77 : v7 = (1 : Int32)
    · skip
      show Steps p.tables e below (T75.setTop (mkF m 145 #[.val (.int p1), .val (.int p2), .val (.int p3), .val (.int p4), .val (.int p5), .val (.int (1 : Int32)), .val (.int v3), .val (.int v5), .val (.int v7), .val (.ref b9), .val (.ref b43), .val (.int v60), .val (.int v73), .val (.int v77), .unset, .unset] [(.int (1 : Int32)), (.int v7)])) _
      refine XS.icmpNo X75.here hx rfl (hb hby at_145) rfl (teq hc145_77).2 ?_
      show Steps p.tables e below (T75.setTop (mkF m 148 #[.val (.int p1), .val (.int p2), .val (.int p3), .val (.int p4), .val (.int p5), .val (.int (1 : Int32)), .val (.int v3), .val (.int v5), .val (.int v7), .val (.ref b9), .val (.ref b43), .val (.int v60), .val (.int v73), .val (.int v77), .unset, .unset] [])) _
      refine X75.ldcInt hx hown (mvT hZ (hw _ (List.mem_of_getElem? (i := 39) rfl))) (g := (mkF m 148 #[.val (.int p1), .val (.int p2), .val (.int p3), .val (.int p4), .val (.int p5), .val (.int (1 : Int32)), .val (.int v3), .val (.int v5), .val (.int v7), .val (.ref b9), .val (.ref b43), .val (.int v60), .val (.int v73), .val (.int v77), .unset, .unset] [])) rfl (hb hby at_148) _ ?_
      show Steps p.tables e below (T75.setTop (mkF m 150 #[.val (.int p1), .val (.int p2), .val (.int p3), .val (.int p4), .val (.int p5), .val (.int (1 : Int32)), .val (.int v3), .val (.int v5), .val (.int v7), .val (.ref b9), .val (.ref b43), .val (.int v60), .val (.int v73), .val (.int v77), .unset, .unset] [(.int (54612 : Int32))])) _
      refine XS.goto X75.here hx rfl (pc0 := 150) (pc' := 156) rfl (hb hby at_150) (by decide) (by decide) ?_
      show Steps p.tables e below (T75.setTop (mkF m 156 #[.val (.int p1), .val (.int p2), .val (.int p3), .val (.int p4), .val (.int p5), .val (.int (1 : Int32)), .val (.int v3), .val (.int v5), .val (.int v7), .val (.ref b9), .val (.ref b43), .val (.int v60), .val (.int v73), .val (.int v77), .unset, .unset] [(.int (54612 : Int32))])) _
      exact castTop (by simp only [hv79, if_pos hc145_77]) kt
    · skip
      show Steps p.tables e below (T75.setTop (mkF m 145 #[.val (.int p1), .val (.int p2), .val (.int p3), .val (.int p4), .val (.int p5), .val (.int (1 : Int32)), .val (.int v3), .val (.int v5), .val (.int v7), .val (.ref b9), .val (.ref b43), .val (.int v60), .val (.int v73), .val (.int v77), .unset, .unset] [(.int (1 : Int32)), (.int v7)])) _
      refine XS.icmpYes X75.here hx rfl (pc0 := 145) (pc' := 153) rfl (hb hby at_145) rfl (feq hc145_77).2 (by decide) (by decide) ?_
      show Steps p.tables e below (T75.setTop (mkF m 153 #[.val (.int p1), .val (.int p2), .val (.int p3), .val (.int p4), .val (.int p5), .val (.int (1 : Int32)), .val (.int v3), .val (.int v5), .val (.int v7), .val (.ref b9), .val (.ref b43), .val (.int v60), .val (.int v73), .val (.int v77), .unset, .unset] [])) _
      refine XS.sipush X75.here hx rfl (hb hby at_153) ?_
      show Steps p.tables e below (T75.setTop (mkF m 156 #[.val (.int p1), .val (.int p2), .val (.int p3), .val (.int p4), .val (.int p5), .val (.int (1 : Int32)), .val (.int v3), .val (.int v5), .val (.int v7), .val (.ref b9), .val (.ref b43), .val (.int v60), .val (.int v73), .val (.int v77), .unset, .unset] [(.int (10923 : Int32))])) _
      exact castTop (by simp only [hv79, if_neg hc145_77]) kt)
  have K84 : Gx p e below s₁ f0 T75 (mkF m 162 #[.val (.int p1), .val (.int p2), .val (.int p3), .val (.int p4), .val (.int p5), .val (.int (1 : Int32)), .val (.int v3), .val (.int v5), .val (.int v7), .val (.ref b9), .val (.ref b43), .val (.int v60), .val (.int v73), .val (.int v77), .val (.int v79), .unset] [(.int v3), (.int v5)]) := fun t kt => K81 t (by
    show Steps p.tables e below (T75.setTop (mkF m 156 #[.val (.int p1), .val (.int p2), .val (.int p3), .val (.int p4), .val (.int p5), .val (.int (1 : Int32)), .val (.int v3), .val (.int v5), .val (.int v7), .val (.ref b9), .val (.ref b43), .val (.int v60), .val (.int v73), .val (.int v77), .unset, .unset] [(.int v79)])) _
    refine XS.istore X75.here hx rfl (hb hby at_156) rfl (l' := #[.val (.int p1), .val (.int p2), .val (.int p3), .val (.int p4), .val (.int p5), .val (.int (1 : Int32)), .val (.int v3), .val (.int v5), .val (.int v7), .val (.ref b9), .val (.ref b43), .val (.int v60), .val (.int v73), .val (.int v77), .val (.int v79), .unset]) rfl ?_
    show Steps p.tables e below (T75.setTop (mkF m 158 #[.val (.int p1), .val (.int p2), .val (.int p3), .val (.int p4), .val (.int p5), .val (.int (1 : Int32)), .val (.int v3), .val (.int v5), .val (.int v7), .val (.ref b9), .val (.ref b43), .val (.int v60), .val (.int v73), .val (.int v77), .val (.int v79), .unset] [])) _
    refine XS.iload X75.here hx rfl (hb hby at_158) rfl ?_
    show Steps p.tables e below (T75.setTop (mkF m 160 #[.val (.int p1), .val (.int p2), .val (.int p3), .val (.int p4), .val (.int p5), .val (.int (1 : Int32)), .val (.int v3), .val (.int v5), .val (.int v7), .val (.ref b9), .val (.ref b43), .val (.int v60), .val (.int v73), .val (.int v77), .val (.int v79), .unset] [(.int v5)])) _
    refine XS.iload X75.here hx rfl (hb hby at_160) rfl ?_
    exact kt)
  obtain ⟨v83, hv83⟩ : ∃ z : Int32, z = (if v5 = v3 then v79 else (32768 : Int32)) := ⟨_, rfl⟩
  have K85 : Gx p e below s₁ f0 T75 (mkF m 172 #[.val (.int p1), .val (.int p2), .val (.int p3), .val (.int p4), .val (.int p5), .val (.int (1 : Int32)), .val (.int v3), .val (.int v5), .val (.int v7), .val (.ref b9), .val (.ref b43), .val (.int v60), .val (.int v73), .val (.int v77), .val (.int v79), .unset] [(.int v83)]) := fun t kt => K84 t (by
    by_cases hc162_81 : v5 = v3
    · skip
      show Steps p.tables e below (T75.setTop (mkF m 162 #[.val (.int p1), .val (.int p2), .val (.int p3), .val (.int p4), .val (.int p5), .val (.int (1 : Int32)), .val (.int v3), .val (.int v5), .val (.int v7), .val (.ref b9), .val (.ref b43), .val (.int v60), .val (.int v73), .val (.int v77), .val (.int v79), .unset] [(.int v3), (.int v5)])) _
      refine XS.icmpNo X75.here hx rfl (hb hby at_162) rfl (teq hc162_81).2 ?_
      show Steps p.tables e below (T75.setTop (mkF m 165 #[.val (.int p1), .val (.int p2), .val (.int p3), .val (.int p4), .val (.int p5), .val (.int (1 : Int32)), .val (.int v3), .val (.int v5), .val (.int v7), .val (.ref b9), .val (.ref b43), .val (.int v60), .val (.int v73), .val (.int v77), .val (.int v79), .unset] [])) _
      refine XS.iload X75.here hx rfl (hb hby at_165) rfl ?_
      show Steps p.tables e below (T75.setTop (mkF m 167 #[.val (.int p1), .val (.int p2), .val (.int p3), .val (.int p4), .val (.int p5), .val (.int (1 : Int32)), .val (.int v3), .val (.int v5), .val (.int v7), .val (.ref b9), .val (.ref b43), .val (.int v60), .val (.int v73), .val (.int v77), .val (.int v79), .unset] [(.int v79)])) _
      refine XS.goto X75.here hx rfl (pc0 := 167) (pc' := 172) rfl (hb hby at_167) (by decide) (by decide) ?_
      show Steps p.tables e below (T75.setTop (mkF m 172 #[.val (.int p1), .val (.int p2), .val (.int p3), .val (.int p4), .val (.int p5), .val (.int (1 : Int32)), .val (.int v3), .val (.int v5), .val (.int v7), .val (.ref b9), .val (.ref b43), .val (.int v60), .val (.int v73), .val (.int v77), .val (.int v79), .unset] [(.int v79)])) _
      exact castTop (by simp only [hv83, if_pos hc162_81]) kt
    · skip
      show Steps p.tables e below (T75.setTop (mkF m 162 #[.val (.int p1), .val (.int p2), .val (.int p3), .val (.int p4), .val (.int p5), .val (.int (1 : Int32)), .val (.int v3), .val (.int v5), .val (.int v7), .val (.ref b9), .val (.ref b43), .val (.int v60), .val (.int v73), .val (.int v77), .val (.int v79), .unset] [(.int v3), (.int v5)])) _
      refine XS.icmpYes X75.here hx rfl (pc0 := 162) (pc' := 170) rfl (hb hby at_162) rfl (feq hc162_81).2 (by decide) (by decide) ?_
      show Steps p.tables e below (T75.setTop (mkF m 170 #[.val (.int p1), .val (.int p2), .val (.int p3), .val (.int p4), .val (.int p5), .val (.int (1 : Int32)), .val (.int v3), .val (.int v5), .val (.int v7), .val (.ref b9), .val (.ref b43), .val (.int v60), .val (.int v73), .val (.int v77), .val (.int v79), .unset] [])) _
      refine X75.ldcInt hx hown (mvT hZ (hw _ (List.mem_of_getElem? (i := 40) rfl))) (g := (mkF m 170 #[.val (.int p1), .val (.int p2), .val (.int p3), .val (.int p4), .val (.int p5), .val (.int (1 : Int32)), .val (.int v3), .val (.int v5), .val (.int v7), .val (.ref b9), .val (.ref b43), .val (.int v60), .val (.int v73), .val (.int v77), .val (.int v79), .unset] [])) rfl (hb hby at_170) _ ?_
      show Steps p.tables e below (T75.setTop (mkF m 172 #[.val (.int p1), .val (.int p2), .val (.int p3), .val (.int p4), .val (.int p5), .val (.int (1 : Int32)), .val (.int v3), .val (.int v5), .val (.int v7), .val (.ref b9), .val (.ref b43), .val (.int v60), .val (.int v73), .val (.int v77), .val (.int v79), .unset] [(.int (32768 : Int32))])) _
      exact castTop (by simp only [hv83, if_neg hc162_81]) kt)
  have K86 : Gx p e below s₁ f0 T75 (mkF m 200 #[.val (.int p1), .val (.int p2), .val (.int p3), .val (.int p4), .val (.int p5), .val (.int (1 : Int32)), .val (.int v3), .val (.int v5), .val (.int v7), .val (.ref b9), .val (.ref b43), .val (.int v60), .val (.int v73), .val (.int v77), .val (.int v79), .val (.int v83)] [(.int (1 : Int32))]) := fun t kt => K85 t (by
    show Steps p.tables e below (T75.setTop (mkF m 172 #[.val (.int p1), .val (.int p2), .val (.int p3), .val (.int p4), .val (.int p5), .val (.int (1 : Int32)), .val (.int v3), .val (.int v5), .val (.int v7), .val (.ref b9), .val (.ref b43), .val (.int v60), .val (.int v73), .val (.int v77), .val (.int v79), .unset] [(.int v83)])) _
    refine XS.istore X75.here hx rfl (hb hby at_172) rfl (l' := #[.val (.int p1), .val (.int p2), .val (.int p3), .val (.int p4), .val (.int p5), .val (.int (1 : Int32)), .val (.int v3), .val (.int v5), .val (.int v7), .val (.ref b9), .val (.ref b43), .val (.int v60), .val (.int v73), .val (.int v77), .val (.int v79), .val (.int v83)]) rfl ?_
    show Steps p.tables e below (T75.setTop (mkF m 174 #[.val (.int p1), .val (.int p2), .val (.int p3), .val (.int p4), .val (.int p5), .val (.int (1 : Int32)), .val (.int v3), .val (.int v5), .val (.int v7), .val (.ref b9), .val (.ref b43), .val (.int v60), .val (.int v73), .val (.int v77), .val (.int v79), .val (.int v83)] [])) _
    refine XS.iload X75.here hx rfl (hb hby at_174) rfl ?_
    show Steps p.tables e below (T75.setTop (mkF m 176 #[.val (.int p1), .val (.int p2), .val (.int p3), .val (.int p4), .val (.int p5), .val (.int (1 : Int32)), .val (.int v3), .val (.int v5), .val (.int v7), .val (.ref b9), .val (.ref b43), .val (.int v60), .val (.int v73), .val (.int v77), .val (.int v79), .val (.int v83)] [(.int v60)])) _
    refine X75.ldcInt hx hown (mvT hZ (hw _ (List.mem_of_getElem? (i := 40) rfl))) (g := (mkF m 176 #[.val (.int p1), .val (.int p2), .val (.int p3), .val (.int p4), .val (.int p5), .val (.int (1 : Int32)), .val (.int v3), .val (.int v5), .val (.int v7), .val (.ref b9), .val (.ref b43), .val (.int v60), .val (.int v73), .val (.int v77), .val (.int v79), .val (.int v83)] [(.int v60)])) rfl (hb hby at_176) _ ?_
    show Steps p.tables e below (T75.setTop (mkF m 178 #[.val (.int p1), .val (.int p2), .val (.int p3), .val (.int p4), .val (.int p5), .val (.int (1 : Int32)), .val (.int v3), .val (.int v5), .val (.int v7), .val (.ref b9), .val (.ref b43), .val (.int v60), .val (.int v73), .val (.int v77), .val (.int v79), .val (.int v83)] [(.int (32768 : Int32)), (.int v60)])) _
    refine XS.icmpNo X75.here hx rfl (hb hby at_178) rfl (teq (by rw [hv60]; decide)).2 ?_
    show Steps p.tables e below (T75.setTop (mkF m 181 #[.val (.int p1), .val (.int p2), .val (.int p3), .val (.int p4), .val (.int p5), .val (.int (1 : Int32)), .val (.int v3), .val (.int v5), .val (.int v7), .val (.ref b9), .val (.ref b43), .val (.int v60), .val (.int v73), .val (.int v77), .val (.int v79), .val (.int v83)] [])) _
    refine XS.iload X75.here hx rfl (hb hby at_181) rfl ?_
    show Steps p.tables e below (T75.setTop (mkF m 183 #[.val (.int p1), .val (.int p2), .val (.int p3), .val (.int p4), .val (.int p5), .val (.int (1 : Int32)), .val (.int v3), .val (.int v5), .val (.int v7), .val (.ref b9), .val (.ref b43), .val (.int v60), .val (.int v73), .val (.int v77), .val (.int v79), .val (.int v83)] [(.int v73)])) _
    refine XS.iload X75.here hx rfl (hb hby at_183) rfl ?_
    show Steps p.tables e below (T75.setTop (mkF m 185 #[.val (.int p1), .val (.int p2), .val (.int p3), .val (.int p4), .val (.int p5), .val (.int (1 : Int32)), .val (.int v3), .val (.int v5), .val (.int v7), .val (.ref b9), .val (.ref b43), .val (.int v60), .val (.int v73), .val (.int v77), .val (.int v79), .val (.int v83)] [(.int v79), (.int v73)])) _
    refine XS.icmpNo X75.here hx rfl (hb hby at_185) rfl (teq (by rw [hv73, hv79]; exact own_after _)).2 ?_
    show Steps p.tables e below (T75.setTop (mkF m 188 #[.val (.int p1), .val (.int p2), .val (.int p3), .val (.int p4), .val (.int p5), .val (.int (1 : Int32)), .val (.int v3), .val (.int v5), .val (.int v7), .val (.ref b9), .val (.ref b43), .val (.int v60), .val (.int v73), .val (.int v77), .val (.int v79), .val (.int v83)] [])) _
    refine XS.iload X75.here hx rfl (hb hby at_188) rfl ?_
    show Steps p.tables e below (T75.setTop (mkF m 190 #[.val (.int p1), .val (.int p2), .val (.int p3), .val (.int p4), .val (.int p5), .val (.int (1 : Int32)), .val (.int v3), .val (.int v5), .val (.int v7), .val (.ref b9), .val (.ref b43), .val (.int v60), .val (.int v73), .val (.int v77), .val (.int v79), .val (.int v83)] [(.int v77)])) _
    refine XS.iload X75.here hx rfl (hb hby at_190) rfl ?_
    show Steps p.tables e below (T75.setTop (mkF m 192 #[.val (.int p1), .val (.int p2), .val (.int p3), .val (.int p4), .val (.int p5), .val (.int (1 : Int32)), .val (.int v3), .val (.int v5), .val (.int v7), .val (.ref b9), .val (.ref b43), .val (.int v60), .val (.int v73), .val (.int v77), .val (.int v79), .val (.int v83)] [(.int v83), (.int v77)])) _
    refine XS.icmpNo X75.here hx rfl (hb hby at_192) rfl (teq (by rw [hv77, hv83, hv79]; exact own_after2 _ _ _)).2 ?_
    show Steps p.tables e below (T75.setTop (mkF m 195 #[.val (.int p1), .val (.int p2), .val (.int p3), .val (.int p4), .val (.int p5), .val (.int (1 : Int32)), .val (.int v3), .val (.int v5), .val (.int v7), .val (.ref b9), .val (.ref b43), .val (.int v60), .val (.int v73), .val (.int v77), .val (.int v79), .val (.int v83)] [])) _
    refine XS.iconst X75.here hx rfl (hb hby at_195) ?_
    show Steps p.tables e below (T75.setTop (mkF m 196 #[.val (.int p1), .val (.int p2), .val (.int p3), .val (.int p4), .val (.int p5), .val (.int (1 : Int32)), .val (.int v3), .val (.int v5), .val (.int v7), .val (.ref b9), .val (.ref b43), .val (.int v60), .val (.int v73), .val (.int v77), .val (.int v79), .val (.int v83)] [(.int (1 : Int32))])) _
    refine XS.goto X75.here hx rfl (pc0 := 196) (pc' := 200) rfl (hb hby at_196) (by decide) (by decide) ?_
    exact kt)
  obtain ⟨fs87, hr87, hrun87, hended87, hW87, hsame87⟩ := X75.leave (v := some (.int (1 : Int32))) (fun h => by rw [Bd.returns] at h; cases h)
  refine ⟨_, _, pre0 _ (K86 _ ?_), hrun87, hended87, _, _, rfl, ?_, ⟨_, rfl⟩, hW87, hsame87.mono (by decide) (by decide)⟩
  · exact retN X75 hx (t := .boolean) Bd.returns (by simp) (hb hby at_200) hr87
  · show Q0 Z p1 p2 p3 p4 p5 ra kr h0 n0 _ T75.heap _
    rw [e75]
    exact ⟨rfl, N75⟩
theorem ef_0_2 (m : MethodId) (p1 : Int32) (p2 : Int32) (p3 : Int32) (p4 : Int32) (p5 : Int32) : entryFrame m #[(.int p1), (.int p2), (.int p3), (.int p4), (.int p5)] maxLocals = mkF m 0 #[.val (.int p1), .val (.int p2), .val (.int p3), .val (.int p4), .val (.int p5), .unset, .unset, .unset, .unset, .unset, .unset, .unset, .unset, .unset, .unset, .unset] [] := by first | (simp [entryFrame, mkF, argsToLocals, Value.category, maxLocals]; done) | rfl
set_option maxRecDepth 65536 in
set_option maxHeartbeats 40000000 in
theorem rm0_2 (l : Launch) (Z : State) (a0 : Array Value) (hw : ∀ d ∈ tables_1, d.before a0 Z = true) (ws : List Jvm.Cond) (p1 : Int32) (p2 : Int32) (p3 : Int32) (p4 : Int32) (p5 : Int32) (ra : Addr) (kr : ClassId) (h0 : Heap) (n0 : Nat) (Z0 : n0 ≤ h0.size) (pr0 : Sta Z Z.heap "lastcolumn/stage/Probabilities" "RATES" "[I" (.ref ra)) (pr1 : Arv Z Z.heap ra kr .int (16 : Int32) [(.int (43690 : Int32)), (.int (26214 : Int32)), (.int (18724 : Int32)), (.int (14563 : Int32)), (.int (11915 : Int32)), (.int (10082 : Int32)), (.int (8738 : Int32)), (.int (7710 : Int32)), (.int (6898 : Int32)), (.int (6241 : Int32)), (.int (5698 : Int32)), (.int (5242 : Int32)), (.int (4854 : Int32)), (.int (4519 : Int32)), (.int (4228 : Int32)), (.int (3971 : Int32))] (.int (0 : Int32))) (pr2 : Old Z n0 h0) (ha_ : (p1 &&& (3 : Int32)) = (2 : Int32)) :
    MetFree l x (head1 (Jvm.Cond.code x code maxLocals ret :: ws) room_1) (fun a U => a = #[(.int p1), (.int p2), (.int p3), (.int p4), (.int p5)] ∧ Z.Warmed39 U.vm ∧ U.heap = h0) (fun _ _ _ _ _ => True) (fun _ U o U' => ∃ v L, o = .returned v ∧ Q0 Z p1 p2 p3 p4 p5 ra kr h0 n0 v U'.heap L ∧ FrameEnd U o U' L room_1.cells room_1.slots) := by
  refine MetFree.of_bodySF (plainFor_of_name pn_0) hisR ?_
  intro p e s m args below meth c s₁ Bd hml0 hP hK
  obtain ⟨rfl, hZ, hh⟩ := hP
  have hx := Bd.exec
  have hby := Bd.bytes
  have hml : c.maxLocals = 16 := hml0
  have hown : s.vm.findClass "lastcolumn/stage/ProbabilitiesOfOnePinLaw" = some m.cls := findClass_of_methodNamed Bd.named
  have hnm := (name_of_methodNamed Bd.named Bd.method).1
  have X0 : Stand p l e room_1 s m #[(.int p1), (.int p2), (.int p3), (.int p4), (.int p5)] below meth c s₁ [] 0 0 := Stand.of_body Bd
  have hs0 : h0 = s.heap := hh.symm
  have e0 : s₁.heap = h0 := by rw [← hh, Bd.state]; rfl
  have N0 := Fr.nil n0
  obtain ⟨f0, hf0⟩ : ∃ f, f = entryFrame m #[(.int p1), (.int p2), (.int p3), (.int p4), (.int p5)] maxLocals := ⟨_, rfl⟩
  have pre0 : ∀ t, Steps p.tables e below (s₁.setTop f0) t → Steps p.tables e below (s₁.setTop (entryFrame m #[(.int p1), (.int p2), (.int p3), (.int p4), (.int p5)] maxLocals)) t := fun t k => hf0 ▸ k
  have K0 : Gx p e below s₁ f0 s₁ (mkF m 0 #[.val (.int p1), .val (.int p2), .val (.int p3), .val (.int p4), .val (.int p5), .unset, .unset, .unset, .unset, .unset, .unset, .unset, .unset, .unset, .unset, .unset] []) := fun t kt => by rw [hf0]; exact castTop (ef_0_2 m p1 p2 p3 p4 p5) kt
  have K1 : Gx p e below s₁ f0 s₁ (mkF m 5 #[.val (.int p1), .val (.int p2), .val (.int p3), .val (.int p4), .val (.int p5), .val (.int (p1 &&& (3 : Int32))), .unset, .unset, .unset, .unset, .unset, .unset, .unset, .unset, .unset, .unset] []) := fun t kt => K0 t (by
    show Steps p.tables e below (s₁.setTop (mkF m 0 #[.val (.int p1), .val (.int p2), .val (.int p3), .val (.int p4), .val (.int p5), .unset, .unset, .unset, .unset, .unset, .unset, .unset, .unset, .unset, .unset, .unset] [])) _
    refine XS.iloadN X0.here hx rfl (hb hby at_0) rfl ?_
    show Steps p.tables e below (s₁.setTop (mkF m 1 #[.val (.int p1), .val (.int p2), .val (.int p3), .val (.int p4), .val (.int p5), .unset, .unset, .unset, .unset, .unset, .unset, .unset, .unset, .unset, .unset, .unset] [(.int p1)])) _
    refine XS.iconst X0.here hx rfl (hb hby at_1) ?_
    show Steps p.tables e below (s₁.setTop (mkF m 2 #[.val (.int p1), .val (.int p2), .val (.int p3), .val (.int p4), .val (.int p5), .unset, .unset, .unset, .unset, .unset, .unset, .unset, .unset, .unset, .unset, .unset] [(.int (3 : Int32)), (.int p1)])) _
    refine XS.iand X0.here hx rfl (hb hby at_2) rfl ?_
    show Steps p.tables e below (s₁.setTop (mkF m 3 #[.val (.int p1), .val (.int p2), .val (.int p3), .val (.int p4), .val (.int p5), .unset, .unset, .unset, .unset, .unset, .unset, .unset, .unset, .unset, .unset, .unset] [(.int (p1 &&& (3 : Int32)))])) _
    refine XS.istore X0.here hx rfl (hb hby at_3) rfl (l' := #[.val (.int p1), .val (.int p2), .val (.int p3), .val (.int p4), .val (.int p5), .val (.int (p1 &&& (3 : Int32))), .unset, .unset, .unset, .unset, .unset, .unset, .unset, .unset, .unset, .unset]) rfl ?_
    exact kt)
  rw [ha_] at K1
  have K2 : Gx p e below s₁ f0 s₁ (mkF m 10 #[.val (.int p1), .val (.int p2), .val (.int p3), .val (.int p4), .val (.int p5), .val (.int (2 : Int32)), .val (.int (p2 &&& (3 : Int32))), .unset, .unset, .unset, .unset, .unset, .unset, .unset, .unset, .unset] []) := fun t kt => K1 t (by
    show Steps p.tables e below (s₁.setTop (mkF m 5 #[.val (.int p1), .val (.int p2), .val (.int p3), .val (.int p4), .val (.int p5), .val (.int (2 : Int32)), .unset, .unset, .unset, .unset, .unset, .unset, .unset, .unset, .unset, .unset] [])) _
    refine XS.iloadN X0.here hx rfl (hb hby at_5) rfl ?_
    show Steps p.tables e below (s₁.setTop (mkF m 6 #[.val (.int p1), .val (.int p2), .val (.int p3), .val (.int p4), .val (.int p5), .val (.int (2 : Int32)), .unset, .unset, .unset, .unset, .unset, .unset, .unset, .unset, .unset, .unset] [(.int p2)])) _
    refine XS.iconst X0.here hx rfl (hb hby at_6) ?_
    show Steps p.tables e below (s₁.setTop (mkF m 7 #[.val (.int p1), .val (.int p2), .val (.int p3), .val (.int p4), .val (.int p5), .val (.int (2 : Int32)), .unset, .unset, .unset, .unset, .unset, .unset, .unset, .unset, .unset, .unset] [(.int (3 : Int32)), (.int p2)])) _
    refine XS.iand X0.here hx rfl (hb hby at_7) rfl ?_
    show Steps p.tables e below (s₁.setTop (mkF m 8 #[.val (.int p1), .val (.int p2), .val (.int p3), .val (.int p4), .val (.int p5), .val (.int (2 : Int32)), .unset, .unset, .unset, .unset, .unset, .unset, .unset, .unset, .unset, .unset] [(.int (p2 &&& (3 : Int32)))])) _
    refine XS.istore X0.here hx rfl (hb hby at_8) rfl (l' := #[.val (.int p1), .val (.int p2), .val (.int p3), .val (.int p4), .val (.int p5), .val (.int (2 : Int32)), .val (.int (p2 &&& (3 : Int32))), .unset, .unset, .unset, .unset, .unset, .unset, .unset, .unset, .unset]) rfl ?_
    exact kt)
  obtain ⟨v3, hv3⟩ : ∃ z : Int32, z = (p2 &&& (3 : Int32)) := ⟨_, rfl⟩
  rw [← hv3] at K2
  have hc1 := own_and3 p2
  rw [← hv3] at hc1
  have K4 : Gx p e below s₁ f0 s₁ (mkF m 15 #[.val (.int p1), .val (.int p2), .val (.int p3), .val (.int p4), .val (.int p5), .val (.int (2 : Int32)), .val (.int v3), .val (.int (p3 &&& (3 : Int32))), .unset, .unset, .unset, .unset, .unset, .unset, .unset, .unset] []) := fun t kt => K2 t (by
    show Steps p.tables e below (s₁.setTop (mkF m 10 #[.val (.int p1), .val (.int p2), .val (.int p3), .val (.int p4), .val (.int p5), .val (.int (2 : Int32)), .val (.int v3), .unset, .unset, .unset, .unset, .unset, .unset, .unset, .unset, .unset] [])) _
    refine XS.iloadN X0.here hx rfl (hb hby at_10) rfl ?_
    show Steps p.tables e below (s₁.setTop (mkF m 11 #[.val (.int p1), .val (.int p2), .val (.int p3), .val (.int p4), .val (.int p5), .val (.int (2 : Int32)), .val (.int v3), .unset, .unset, .unset, .unset, .unset, .unset, .unset, .unset, .unset] [(.int p3)])) _
    refine XS.iconst X0.here hx rfl (hb hby at_11) ?_
    show Steps p.tables e below (s₁.setTop (mkF m 12 #[.val (.int p1), .val (.int p2), .val (.int p3), .val (.int p4), .val (.int p5), .val (.int (2 : Int32)), .val (.int v3), .unset, .unset, .unset, .unset, .unset, .unset, .unset, .unset, .unset] [(.int (3 : Int32)), (.int p3)])) _
    refine XS.iand X0.here hx rfl (hb hby at_12) rfl ?_
    show Steps p.tables e below (s₁.setTop (mkF m 13 #[.val (.int p1), .val (.int p2), .val (.int p3), .val (.int p4), .val (.int p5), .val (.int (2 : Int32)), .val (.int v3), .unset, .unset, .unset, .unset, .unset, .unset, .unset, .unset, .unset] [(.int (p3 &&& (3 : Int32)))])) _
    refine XS.istore X0.here hx rfl (hb hby at_13) rfl (l' := #[.val (.int p1), .val (.int p2), .val (.int p3), .val (.int p4), .val (.int p5), .val (.int (2 : Int32)), .val (.int v3), .val (.int (p3 &&& (3 : Int32))), .unset, .unset, .unset, .unset, .unset, .unset, .unset, .unset]) rfl ?_
    exact kt)
  obtain ⟨v5, hv5⟩ : ∃ z : Int32, z = (p3 &&& (3 : Int32)) := ⟨_, rfl⟩
  rw [← hv5] at K4
  have hc2 := own_and3 p3
  rw [← hv5] at hc2
  have K6 : Gx p e below s₁ f0 s₁ (mkF m 20 #[.val (.int p1), .val (.int p2), .val (.int p3), .val (.int p4), .val (.int p5), .val (.int (2 : Int32)), .val (.int v3), .val (.int v5), .val (.int (p4 &&& (1 : Int32))), .unset, .unset, .unset, .unset, .unset, .unset, .unset] []) := fun t kt => K4 t (by
    show Steps p.tables e below (s₁.setTop (mkF m 15 #[.val (.int p1), .val (.int p2), .val (.int p3), .val (.int p4), .val (.int p5), .val (.int (2 : Int32)), .val (.int v3), .val (.int v5), .unset, .unset, .unset, .unset, .unset, .unset, .unset, .unset] [])) _
    refine XS.iloadN X0.here hx rfl (hb hby at_15) rfl ?_
    show Steps p.tables e below (s₁.setTop (mkF m 16 #[.val (.int p1), .val (.int p2), .val (.int p3), .val (.int p4), .val (.int p5), .val (.int (2 : Int32)), .val (.int v3), .val (.int v5), .unset, .unset, .unset, .unset, .unset, .unset, .unset, .unset] [(.int p4)])) _
    refine XS.iconst X0.here hx rfl (hb hby at_16) ?_
    show Steps p.tables e below (s₁.setTop (mkF m 17 #[.val (.int p1), .val (.int p2), .val (.int p3), .val (.int p4), .val (.int p5), .val (.int (2 : Int32)), .val (.int v3), .val (.int v5), .unset, .unset, .unset, .unset, .unset, .unset, .unset, .unset] [(.int (1 : Int32)), (.int p4)])) _
    refine XS.iand X0.here hx rfl (hb hby at_17) rfl ?_
    show Steps p.tables e below (s₁.setTop (mkF m 18 #[.val (.int p1), .val (.int p2), .val (.int p3), .val (.int p4), .val (.int p5), .val (.int (2 : Int32)), .val (.int v3), .val (.int v5), .unset, .unset, .unset, .unset, .unset, .unset, .unset, .unset] [(.int (p4 &&& (1 : Int32)))])) _
    refine XS.istore X0.here hx rfl (hb hby at_18) rfl (l' := #[.val (.int p1), .val (.int p2), .val (.int p3), .val (.int p4), .val (.int p5), .val (.int (2 : Int32)), .val (.int v3), .val (.int v5), .val (.int (p4 &&& (1 : Int32))), .unset, .unset, .unset, .unset, .unset, .unset, .unset]) rfl ?_
    exact kt)
  obtain ⟨v7, hv7⟩ : ∃ z : Int32, z = (p4 &&& (1 : Int32)) := ⟨_, rfl⟩
  rw [← hv7] at K6
  have K8 : Gx p e below s₁ f0 s₁ (mkF m 22 #[.val (.int p1), .val (.int p2), .val (.int p3), .val (.int p4), .val (.int p5), .val (.int (2 : Int32)), .val (.int v3), .val (.int v5), .val (.int v7), .unset, .unset, .unset, .unset, .unset, .unset, .unset] [(.int (8 : Int32))]) := fun t kt => K6 t (by
    show Steps p.tables e below (s₁.setTop (mkF m 20 #[.val (.int p1), .val (.int p2), .val (.int p3), .val (.int p4), .val (.int p5), .val (.int (2 : Int32)), .val (.int v3), .val (.int v5), .val (.int v7), .unset, .unset, .unset, .unset, .unset, .unset, .unset] [])) _
    refine XS.bipush X0.here hx rfl (hb hby at_20) ?_
    exact kt)
  obtain ⟨T9, h9, k9, X9, e9, E9, A9, st9⟩ := newP X0 hx hZ (hw _ (List.mem_of_getElem? (i := 0) rfl)) e0 (g := (mkF m 22 #[.val (.int p1), .val (.int p2), .val (.int p3), .val (.int p4), .val (.int p5), .val (.int (2 : Int32)), .val (.int v3), .val (.int v5), .val (.int v7), .unset, .unset, .unset, .unset, .unset, .unset, .unset] [(.int (8 : Int32))])) rfl (hb hby at_22) rfl (by decide) (cap := 8) (by decide) (by decide) (by decide) (by decide)
  obtain ⟨b9, g9⟩ : ∃ z, z = h0.size := ⟨_, rfl⟩
  rw [← g9] at A9 st9
  have V9 : Arv Z h9 b9 k9 .int (8 : Int32) [(.int (0 : Int32)), (.int (0 : Int32)), (.int (0 : Int32)), (.int (0 : Int32)), (.int (0 : Int32)), (.int (0 : Int32)), (.int (0 : Int32)), (.int (0 : Int32))] (.int (0 : Int32)) := (Arv.new A9 (by decide)).pad (pad_rep [] (.int (0 : Int32)) 8)
  have K10 : Gx p e below s₁ f0 T9 (mkF m 24 #[.val (.int p1), .val (.int p2), .val (.int p3), .val (.int p4), .val (.int p5), .val (.int (2 : Int32)), .val (.int v3), .val (.int v5), .val (.int v7), .unset, .unset, .unset, .unset, .unset, .unset, .unset] [(.ref b9)]) := fun t kt => K8 t (st9 t kt)
  have K11 : Gx p e below s₁ f0 T9 (mkF m 31 #[.val (.int p1), .val (.int p2), .val (.int p3), .val (.int p4), .val (.int p5), .val (.int (2 : Int32)), .val (.int v3), .val (.int v5), .val (.int v7), .val (.ref b9), .unset, .unset, .unset, .unset, .unset, .unset] [(.int p5), (.int (0 : Int32)), (.ref b9)]) := fun t kt => K10 t (by
    show Steps p.tables e below (T9.setTop (mkF m 24 #[.val (.int p1), .val (.int p2), .val (.int p3), .val (.int p4), .val (.int p5), .val (.int (2 : Int32)), .val (.int v3), .val (.int v5), .val (.int v7), .unset, .unset, .unset, .unset, .unset, .unset, .unset] [(.ref b9)])) _
    refine XS.astore X9.here hx rfl (hb hby at_24) rfl rfl (l' := #[.val (.int p1), .val (.int p2), .val (.int p3), .val (.int p4), .val (.int p5), .val (.int (2 : Int32)), .val (.int v3), .val (.int v5), .val (.int v7), .val (.ref b9), .unset, .unset, .unset, .unset, .unset, .unset]) rfl ?_
    show Steps p.tables e below (T9.setTop (mkF m 26 #[.val (.int p1), .val (.int p2), .val (.int p3), .val (.int p4), .val (.int p5), .val (.int (2 : Int32)), .val (.int v3), .val (.int v5), .val (.int v7), .val (.ref b9), .unset, .unset, .unset, .unset, .unset, .unset] [])) _
    refine XS.aload X9.here hx rfl (hb hby at_26) rfl rfl ?_
    show Steps p.tables e below (T9.setTop (mkF m 28 #[.val (.int p1), .val (.int p2), .val (.int p3), .val (.int p4), .val (.int p5), .val (.int (2 : Int32)), .val (.int v3), .val (.int v5), .val (.int v7), .val (.ref b9), .unset, .unset, .unset, .unset, .unset, .unset] [(.ref b9)])) _
    refine XS.iconst X9.here hx rfl (hb hby at_28) ?_
    show Steps p.tables e below (T9.setTop (mkF m 29 #[.val (.int p1), .val (.int p2), .val (.int p3), .val (.int p4), .val (.int p5), .val (.int (2 : Int32)), .val (.int v3), .val (.int v5), .val (.int v7), .val (.ref b9), .unset, .unset, .unset, .unset, .unset, .unset] [(.int (0 : Int32)), (.ref b9)])) _
    refine XS.iload X9.here hx rfl (hb hby at_29) rfl ?_
    exact kt)
  obtain ⟨clq12, Arq12, ckq12, cSq12, cNq12, cHq12, cGq12⟩ := id V9
  obtain ⟨T13, h13, X13', e13, W13, st13⟩ := stI X9 hx hZ e9 Arq12 (j := (0 : Int32)) (inb_of cSq12 ⟨by decide, by decide⟩) (g := (mkF m 31 #[.val (.int p1), .val (.int p2), .val (.int p3), .val (.int p4), .val (.int p5), .val (.int (2 : Int32)), .val (.int v3), .val (.int v5), .val (.int v7), .val (.ref b9), .unset, .unset, .unset, .unset, .unset, .unset] [(.int p5), (.int (0 : Int32)), (.ref b9)])) rfl rfl (hb hby at_31)
  obtain ⟨lc13, X13, N13⟩ : ∃ lc, Stand p l e room_1 s m #[(.int p1), (.int p2), (.int p3), (.int p4), (.int p5)] below meth c T13 lc 1 8 ∧ Fr n0 lc := ⟨_, X13', Fr.snoc X13' N0 (Nat.le_trans Z0 (Nat.le_trans (Keep.refl h0 []).1 (Nat.le_of_eq g9.symm)))⟩
  have V13 : Arv Z h13 b9 k9 .int (8 : Int32) [(.int p5), (.int (0 : Int32)), (.int (0 : Int32)), (.int (0 : Int32)), (.int (0 : Int32)), (.int (0 : Int32)), (.int (0 : Int32)), (.int (0 : Int32))] (.int (0 : Int32)) := Arv.set Arq12 ckq12 cSq12 cNq12 cHq12 cGq12 rfl W13 0 rfl (Nat.le_of_ble_eq_true rfl)
  have K14 : Gx p e below s₁ f0 T13 (mkF m 32 #[.val (.int p1), .val (.int p2), .val (.int p3), .val (.int p4), .val (.int p5), .val (.int (2 : Int32)), .val (.int v3), .val (.int v5), .val (.int v7), .val (.ref b9), .unset, .unset, .unset, .unset, .unset, .unset] []) := fun t kt => K11 t (st13 t kt)
  have K15 : Gx p e below s₁ f0 T13 (mkF m 39 #[.val (.int p1), .val (.int p2), .val (.int p3), .val (.int p4), .val (.int p5), .val (.int (2 : Int32)), .val (.int v3), .val (.int v5), .val (.int v7), .val (.ref b9), .unset, .unset, .unset, .unset, .unset, .unset] [(.int (p5 + (1 : Int32))), (.int (1 : Int32)), (.ref b9)]) := fun t kt => K14 t (by
    show Steps p.tables e below (T13.setTop (mkF m 32 #[.val (.int p1), .val (.int p2), .val (.int p3), .val (.int p4), .val (.int p5), .val (.int (2 : Int32)), .val (.int v3), .val (.int v5), .val (.int v7), .val (.ref b9), .unset, .unset, .unset, .unset, .unset, .unset] [])) _
    refine XS.aload X13.here hx rfl (hb hby at_32) rfl rfl ?_
    show Steps p.tables e below (T13.setTop (mkF m 34 #[.val (.int p1), .val (.int p2), .val (.int p3), .val (.int p4), .val (.int p5), .val (.int (2 : Int32)), .val (.int v3), .val (.int v5), .val (.int v7), .val (.ref b9), .unset, .unset, .unset, .unset, .unset, .unset] [(.ref b9)])) _
    refine XS.iconst X13.here hx rfl (hb hby at_34) ?_
    show Steps p.tables e below (T13.setTop (mkF m 35 #[.val (.int p1), .val (.int p2), .val (.int p3), .val (.int p4), .val (.int p5), .val (.int (2 : Int32)), .val (.int v3), .val (.int v5), .val (.int v7), .val (.ref b9), .unset, .unset, .unset, .unset, .unset, .unset] [(.int (1 : Int32)), (.ref b9)])) _
    refine XS.iload X13.here hx rfl (hb hby at_35) rfl ?_
    show Steps p.tables e below (T13.setTop (mkF m 37 #[.val (.int p1), .val (.int p2), .val (.int p3), .val (.int p4), .val (.int p5), .val (.int (2 : Int32)), .val (.int v3), .val (.int v5), .val (.int v7), .val (.ref b9), .unset, .unset, .unset, .unset, .unset, .unset] [(.int p5), (.int (1 : Int32)), (.ref b9)])) _
    refine XS.iconst X13.here hx rfl (hb hby at_37) ?_
    show Steps p.tables e below (T13.setTop (mkF m 38 #[.val (.int p1), .val (.int p2), .val (.int p3), .val (.int p4), .val (.int p5), .val (.int (2 : Int32)), .val (.int v3), .val (.int v5), .val (.int v7), .val (.ref b9), .unset, .unset, .unset, .unset, .unset, .unset] [(.int (1 : Int32)), (.int p5), (.int (1 : Int32)), (.ref b9)])) _
    refine XS.iadd X13.here hx rfl (hb hby at_38) rfl ?_
    exact kt)
  obtain ⟨clq16, Arq16, ckq16, cSq16, cNq16, cHq16, cGq16⟩ := id V13
  obtain ⟨T17, h17, X17', e17, W17, st17⟩ := stI X13 hx hZ e13 Arq16 (j := (1 : Int32)) (inb_of cSq16 ⟨by decide, by decide⟩) (g := (mkF m 39 #[.val (.int p1), .val (.int p2), .val (.int p3), .val (.int p4), .val (.int p5), .val (.int (2 : Int32)), .val (.int v3), .val (.int v5), .val (.int v7), .val (.ref b9), .unset, .unset, .unset, .unset, .unset, .unset] [(.int (p5 + (1 : Int32))), (.int (1 : Int32)), (.ref b9)])) rfl rfl (hb hby at_39)
  obtain ⟨lc17, X17, N17⟩ : ∃ lc, Stand p l e room_1 s m #[(.int p1), (.int p2), (.int p3), (.int p4), (.int p5)] below meth c T17 lc 1 8 ∧ Fr n0 lc := ⟨_, X17', Fr.snoc X17' N13 (Nat.le_trans Z0 (Nat.le_trans (Keep.refl h0 []).1 (Nat.le_of_eq g9.symm)))⟩
  have V17 : Arv Z h17 b9 k9 .int (8 : Int32) [(.int p5), (.int (p5 + (1 : Int32))), (.int (0 : Int32)), (.int (0 : Int32)), (.int (0 : Int32)), (.int (0 : Int32)), (.int (0 : Int32)), (.int (0 : Int32))] (.int (0 : Int32)) := Arv.set Arq16 ckq16 cSq16 cNq16 cHq16 cGq16 rfl W17 1 rfl (Nat.le_of_ble_eq_true rfl)
  have K18 : Gx p e below s₁ f0 T17 (mkF m 40 #[.val (.int p1), .val (.int p2), .val (.int p3), .val (.int p4), .val (.int p5), .val (.int (2 : Int32)), .val (.int v3), .val (.int v5), .val (.int v7), .val (.ref b9), .unset, .unset, .unset, .unset, .unset, .unset] []) := fun t kt => K15 t (st17 t kt)
  have K19 : Gx p e below s₁ f0 T17 (mkF m 47 #[.val (.int p1), .val (.int p2), .val (.int p3), .val (.int p4), .val (.int p5), .val (.int (2 : Int32)), .val (.int v3), .val (.int v5), .val (.int v7), .val (.ref b9), .unset, .unset, .unset, .unset, .unset, .unset] [(.int (p5 + (2 : Int32))), (.int (2 : Int32)), (.ref b9)]) := fun t kt => K18 t (by
    show Steps p.tables e below (T17.setTop (mkF m 40 #[.val (.int p1), .val (.int p2), .val (.int p3), .val (.int p4), .val (.int p5), .val (.int (2 : Int32)), .val (.int v3), .val (.int v5), .val (.int v7), .val (.ref b9), .unset, .unset, .unset, .unset, .unset, .unset] [])) _
    refine XS.aload X17.here hx rfl (hb hby at_40) rfl rfl ?_
    show Steps p.tables e below (T17.setTop (mkF m 42 #[.val (.int p1), .val (.int p2), .val (.int p3), .val (.int p4), .val (.int p5), .val (.int (2 : Int32)), .val (.int v3), .val (.int v5), .val (.int v7), .val (.ref b9), .unset, .unset, .unset, .unset, .unset, .unset] [(.ref b9)])) _
    refine XS.iconst X17.here hx rfl (hb hby at_42) ?_
    show Steps p.tables e below (T17.setTop (mkF m 43 #[.val (.int p1), .val (.int p2), .val (.int p3), .val (.int p4), .val (.int p5), .val (.int (2 : Int32)), .val (.int v3), .val (.int v5), .val (.int v7), .val (.ref b9), .unset, .unset, .unset, .unset, .unset, .unset] [(.int (2 : Int32)), (.ref b9)])) _
    refine XS.iload X17.here hx rfl (hb hby at_43) rfl ?_
    show Steps p.tables e below (T17.setTop (mkF m 45 #[.val (.int p1), .val (.int p2), .val (.int p3), .val (.int p4), .val (.int p5), .val (.int (2 : Int32)), .val (.int v3), .val (.int v5), .val (.int v7), .val (.ref b9), .unset, .unset, .unset, .unset, .unset, .unset] [(.int p5), (.int (2 : Int32)), (.ref b9)])) _
    refine XS.iconst X17.here hx rfl (hb hby at_45) ?_
    show Steps p.tables e below (T17.setTop (mkF m 46 #[.val (.int p1), .val (.int p2), .val (.int p3), .val (.int p4), .val (.int p5), .val (.int (2 : Int32)), .val (.int v3), .val (.int v5), .val (.int v7), .val (.ref b9), .unset, .unset, .unset, .unset, .unset, .unset] [(.int (2 : Int32)), (.int p5), (.int (2 : Int32)), (.ref b9)])) _
    refine XS.iadd X17.here hx rfl (hb hby at_46) rfl ?_
    exact kt)
  obtain ⟨clq20, Arq20, ckq20, cSq20, cNq20, cHq20, cGq20⟩ := id V17
  obtain ⟨T21, h21, X21', e21, W21, st21⟩ := stI X17 hx hZ e17 Arq20 (j := (2 : Int32)) (inb_of cSq20 ⟨by decide, by decide⟩) (g := (mkF m 47 #[.val (.int p1), .val (.int p2), .val (.int p3), .val (.int p4), .val (.int p5), .val (.int (2 : Int32)), .val (.int v3), .val (.int v5), .val (.int v7), .val (.ref b9), .unset, .unset, .unset, .unset, .unset, .unset] [(.int (p5 + (2 : Int32))), (.int (2 : Int32)), (.ref b9)])) rfl rfl (hb hby at_47)
  obtain ⟨lc21, X21, N21⟩ : ∃ lc, Stand p l e room_1 s m #[(.int p1), (.int p2), (.int p3), (.int p4), (.int p5)] below meth c T21 lc 1 8 ∧ Fr n0 lc := ⟨_, X21', Fr.snoc X21' N17 (Nat.le_trans Z0 (Nat.le_trans (Keep.refl h0 []).1 (Nat.le_of_eq g9.symm)))⟩
  have V21 : Arv Z h21 b9 k9 .int (8 : Int32) [(.int p5), (.int (p5 + (1 : Int32))), (.int (p5 + (2 : Int32))), (.int (0 : Int32)), (.int (0 : Int32)), (.int (0 : Int32)), (.int (0 : Int32)), (.int (0 : Int32))] (.int (0 : Int32)) := Arv.set Arq20 ckq20 cSq20 cNq20 cHq20 cGq20 rfl W21 2 rfl (Nat.le_of_ble_eq_true rfl)
  have K22 : Gx p e below s₁ f0 T21 (mkF m 48 #[.val (.int p1), .val (.int p2), .val (.int p3), .val (.int p4), .val (.int p5), .val (.int (2 : Int32)), .val (.int v3), .val (.int v5), .val (.int v7), .val (.ref b9), .unset, .unset, .unset, .unset, .unset, .unset] []) := fun t kt => K19 t (st21 t kt)
  have K23 : Gx p e below s₁ f0 T21 (mkF m 55 #[.val (.int p1), .val (.int p2), .val (.int p3), .val (.int p4), .val (.int p5), .val (.int (2 : Int32)), .val (.int v3), .val (.int v5), .val (.int v7), .val (.ref b9), .unset, .unset, .unset, .unset, .unset, .unset] [(.int (p5 + (3 : Int32))), (.int (3 : Int32)), (.ref b9)]) := fun t kt => K22 t (by
    show Steps p.tables e below (T21.setTop (mkF m 48 #[.val (.int p1), .val (.int p2), .val (.int p3), .val (.int p4), .val (.int p5), .val (.int (2 : Int32)), .val (.int v3), .val (.int v5), .val (.int v7), .val (.ref b9), .unset, .unset, .unset, .unset, .unset, .unset] [])) _
    refine XS.aload X21.here hx rfl (hb hby at_48) rfl rfl ?_
    show Steps p.tables e below (T21.setTop (mkF m 50 #[.val (.int p1), .val (.int p2), .val (.int p3), .val (.int p4), .val (.int p5), .val (.int (2 : Int32)), .val (.int v3), .val (.int v5), .val (.int v7), .val (.ref b9), .unset, .unset, .unset, .unset, .unset, .unset] [(.ref b9)])) _
    refine XS.iconst X21.here hx rfl (hb hby at_50) ?_
    show Steps p.tables e below (T21.setTop (mkF m 51 #[.val (.int p1), .val (.int p2), .val (.int p3), .val (.int p4), .val (.int p5), .val (.int (2 : Int32)), .val (.int v3), .val (.int v5), .val (.int v7), .val (.ref b9), .unset, .unset, .unset, .unset, .unset, .unset] [(.int (3 : Int32)), (.ref b9)])) _
    refine XS.iload X21.here hx rfl (hb hby at_51) rfl ?_
    show Steps p.tables e below (T21.setTop (mkF m 53 #[.val (.int p1), .val (.int p2), .val (.int p3), .val (.int p4), .val (.int p5), .val (.int (2 : Int32)), .val (.int v3), .val (.int v5), .val (.int v7), .val (.ref b9), .unset, .unset, .unset, .unset, .unset, .unset] [(.int p5), (.int (3 : Int32)), (.ref b9)])) _
    refine XS.iconst X21.here hx rfl (hb hby at_53) ?_
    show Steps p.tables e below (T21.setTop (mkF m 54 #[.val (.int p1), .val (.int p2), .val (.int p3), .val (.int p4), .val (.int p5), .val (.int (2 : Int32)), .val (.int v3), .val (.int v5), .val (.int v7), .val (.ref b9), .unset, .unset, .unset, .unset, .unset, .unset] [(.int (3 : Int32)), (.int p5), (.int (3 : Int32)), (.ref b9)])) _
    refine XS.iadd X21.here hx rfl (hb hby at_54) rfl ?_
    exact kt)
  obtain ⟨clq24, Arq24, ckq24, cSq24, cNq24, cHq24, cGq24⟩ := id V21
  obtain ⟨T25, h25, X25', e25, W25, st25⟩ := stI X21 hx hZ e21 Arq24 (j := (3 : Int32)) (inb_of cSq24 ⟨by decide, by decide⟩) (g := (mkF m 55 #[.val (.int p1), .val (.int p2), .val (.int p3), .val (.int p4), .val (.int p5), .val (.int (2 : Int32)), .val (.int v3), .val (.int v5), .val (.int v7), .val (.ref b9), .unset, .unset, .unset, .unset, .unset, .unset] [(.int (p5 + (3 : Int32))), (.int (3 : Int32)), (.ref b9)])) rfl rfl (hb hby at_55)
  obtain ⟨lc25, X25, N25⟩ : ∃ lc, Stand p l e room_1 s m #[(.int p1), (.int p2), (.int p3), (.int p4), (.int p5)] below meth c T25 lc 1 8 ∧ Fr n0 lc := ⟨_, X25', Fr.snoc X25' N21 (Nat.le_trans Z0 (Nat.le_trans (Keep.refl h0 []).1 (Nat.le_of_eq g9.symm)))⟩
  have V25 : Arv Z h25 b9 k9 .int (8 : Int32) [(.int p5), (.int (p5 + (1 : Int32))), (.int (p5 + (2 : Int32))), (.int (p5 + (3 : Int32))), (.int (0 : Int32)), (.int (0 : Int32)), (.int (0 : Int32)), (.int (0 : Int32))] (.int (0 : Int32)) := Arv.set Arq24 ckq24 cSq24 cNq24 cHq24 cGq24 rfl W25 3 rfl (Nat.le_of_ble_eq_true rfl)
  have K26 : Gx p e below s₁ f0 T25 (mkF m 56 #[.val (.int p1), .val (.int p2), .val (.int p3), .val (.int p4), .val (.int p5), .val (.int (2 : Int32)), .val (.int v3), .val (.int v5), .val (.int v7), .val (.ref b9), .unset, .unset, .unset, .unset, .unset, .unset] []) := fun t kt => K23 t (st25 t kt)
  have K27 : Gx p e below s₁ f0 T25 (mkF m 63 #[.val (.int p1), .val (.int p2), .val (.int p3), .val (.int p4), .val (.int p5), .val (.int (2 : Int32)), .val (.int v3), .val (.int v5), .val (.int v7), .val (.ref b9), .unset, .unset, .unset, .unset, .unset, .unset] [(.int (p5 + (4 : Int32))), (.int (4 : Int32)), (.ref b9)]) := fun t kt => K26 t (by
    show Steps p.tables e below (T25.setTop (mkF m 56 #[.val (.int p1), .val (.int p2), .val (.int p3), .val (.int p4), .val (.int p5), .val (.int (2 : Int32)), .val (.int v3), .val (.int v5), .val (.int v7), .val (.ref b9), .unset, .unset, .unset, .unset, .unset, .unset] [])) _
    refine XS.aload X25.here hx rfl (hb hby at_56) rfl rfl ?_
    show Steps p.tables e below (T25.setTop (mkF m 58 #[.val (.int p1), .val (.int p2), .val (.int p3), .val (.int p4), .val (.int p5), .val (.int (2 : Int32)), .val (.int v3), .val (.int v5), .val (.int v7), .val (.ref b9), .unset, .unset, .unset, .unset, .unset, .unset] [(.ref b9)])) _
    refine XS.iconst X25.here hx rfl (hb hby at_58) ?_
    show Steps p.tables e below (T25.setTop (mkF m 59 #[.val (.int p1), .val (.int p2), .val (.int p3), .val (.int p4), .val (.int p5), .val (.int (2 : Int32)), .val (.int v3), .val (.int v5), .val (.int v7), .val (.ref b9), .unset, .unset, .unset, .unset, .unset, .unset] [(.int (4 : Int32)), (.ref b9)])) _
    refine XS.iload X25.here hx rfl (hb hby at_59) rfl ?_
    show Steps p.tables e below (T25.setTop (mkF m 61 #[.val (.int p1), .val (.int p2), .val (.int p3), .val (.int p4), .val (.int p5), .val (.int (2 : Int32)), .val (.int v3), .val (.int v5), .val (.int v7), .val (.ref b9), .unset, .unset, .unset, .unset, .unset, .unset] [(.int p5), (.int (4 : Int32)), (.ref b9)])) _
    refine XS.iconst X25.here hx rfl (hb hby at_61) ?_
    show Steps p.tables e below (T25.setTop (mkF m 62 #[.val (.int p1), .val (.int p2), .val (.int p3), .val (.int p4), .val (.int p5), .val (.int (2 : Int32)), .val (.int v3), .val (.int v5), .val (.int v7), .val (.ref b9), .unset, .unset, .unset, .unset, .unset, .unset] [(.int (4 : Int32)), (.int p5), (.int (4 : Int32)), (.ref b9)])) _
    refine XS.iadd X25.here hx rfl (hb hby at_62) rfl ?_
    exact kt)
  obtain ⟨clq28, Arq28, ckq28, cSq28, cNq28, cHq28, cGq28⟩ := id V25
  obtain ⟨T29, h29, X29', e29, W29, st29⟩ := stI X25 hx hZ e25 Arq28 (j := (4 : Int32)) (inb_of cSq28 ⟨by decide, by decide⟩) (g := (mkF m 63 #[.val (.int p1), .val (.int p2), .val (.int p3), .val (.int p4), .val (.int p5), .val (.int (2 : Int32)), .val (.int v3), .val (.int v5), .val (.int v7), .val (.ref b9), .unset, .unset, .unset, .unset, .unset, .unset] [(.int (p5 + (4 : Int32))), (.int (4 : Int32)), (.ref b9)])) rfl rfl (hb hby at_63)
  obtain ⟨lc29, X29, N29⟩ : ∃ lc, Stand p l e room_1 s m #[(.int p1), (.int p2), (.int p3), (.int p4), (.int p5)] below meth c T29 lc 1 8 ∧ Fr n0 lc := ⟨_, X29', Fr.snoc X29' N25 (Nat.le_trans Z0 (Nat.le_trans (Keep.refl h0 []).1 (Nat.le_of_eq g9.symm)))⟩
  have V29 : Arv Z h29 b9 k9 .int (8 : Int32) [(.int p5), (.int (p5 + (1 : Int32))), (.int (p5 + (2 : Int32))), (.int (p5 + (3 : Int32))), (.int (p5 + (4 : Int32))), (.int (0 : Int32)), (.int (0 : Int32)), (.int (0 : Int32))] (.int (0 : Int32)) := Arv.set Arq28 ckq28 cSq28 cNq28 cHq28 cGq28 rfl W29 4 rfl (Nat.le_of_ble_eq_true rfl)
  have K30 : Gx p e below s₁ f0 T29 (mkF m 64 #[.val (.int p1), .val (.int p2), .val (.int p3), .val (.int p4), .val (.int p5), .val (.int (2 : Int32)), .val (.int v3), .val (.int v5), .val (.int v7), .val (.ref b9), .unset, .unset, .unset, .unset, .unset, .unset] []) := fun t kt => K27 t (st29 t kt)
  have K31 : Gx p e below s₁ f0 T29 (mkF m 71 #[.val (.int p1), .val (.int p2), .val (.int p3), .val (.int p4), .val (.int p5), .val (.int (2 : Int32)), .val (.int v3), .val (.int v5), .val (.int v7), .val (.ref b9), .unset, .unset, .unset, .unset, .unset, .unset] [(.int (p5 + (5 : Int32))), (.int (5 : Int32)), (.ref b9)]) := fun t kt => K30 t (by
    show Steps p.tables e below (T29.setTop (mkF m 64 #[.val (.int p1), .val (.int p2), .val (.int p3), .val (.int p4), .val (.int p5), .val (.int (2 : Int32)), .val (.int v3), .val (.int v5), .val (.int v7), .val (.ref b9), .unset, .unset, .unset, .unset, .unset, .unset] [])) _
    refine XS.aload X29.here hx rfl (hb hby at_64) rfl rfl ?_
    show Steps p.tables e below (T29.setTop (mkF m 66 #[.val (.int p1), .val (.int p2), .val (.int p3), .val (.int p4), .val (.int p5), .val (.int (2 : Int32)), .val (.int v3), .val (.int v5), .val (.int v7), .val (.ref b9), .unset, .unset, .unset, .unset, .unset, .unset] [(.ref b9)])) _
    refine XS.iconst X29.here hx rfl (hb hby at_66) ?_
    show Steps p.tables e below (T29.setTop (mkF m 67 #[.val (.int p1), .val (.int p2), .val (.int p3), .val (.int p4), .val (.int p5), .val (.int (2 : Int32)), .val (.int v3), .val (.int v5), .val (.int v7), .val (.ref b9), .unset, .unset, .unset, .unset, .unset, .unset] [(.int (5 : Int32)), (.ref b9)])) _
    refine XS.iload X29.here hx rfl (hb hby at_67) rfl ?_
    show Steps p.tables e below (T29.setTop (mkF m 69 #[.val (.int p1), .val (.int p2), .val (.int p3), .val (.int p4), .val (.int p5), .val (.int (2 : Int32)), .val (.int v3), .val (.int v5), .val (.int v7), .val (.ref b9), .unset, .unset, .unset, .unset, .unset, .unset] [(.int p5), (.int (5 : Int32)), (.ref b9)])) _
    refine XS.iconst X29.here hx rfl (hb hby at_69) ?_
    show Steps p.tables e below (T29.setTop (mkF m 70 #[.val (.int p1), .val (.int p2), .val (.int p3), .val (.int p4), .val (.int p5), .val (.int (2 : Int32)), .val (.int v3), .val (.int v5), .val (.int v7), .val (.ref b9), .unset, .unset, .unset, .unset, .unset, .unset] [(.int (5 : Int32)), (.int p5), (.int (5 : Int32)), (.ref b9)])) _
    refine XS.iadd X29.here hx rfl (hb hby at_70) rfl ?_
    exact kt)
  obtain ⟨clq32, Arq32, ckq32, cSq32, cNq32, cHq32, cGq32⟩ := id V29
  obtain ⟨T33, h33, X33', e33, W33, st33⟩ := stI X29 hx hZ e29 Arq32 (j := (5 : Int32)) (inb_of cSq32 ⟨by decide, by decide⟩) (g := (mkF m 71 #[.val (.int p1), .val (.int p2), .val (.int p3), .val (.int p4), .val (.int p5), .val (.int (2 : Int32)), .val (.int v3), .val (.int v5), .val (.int v7), .val (.ref b9), .unset, .unset, .unset, .unset, .unset, .unset] [(.int (p5 + (5 : Int32))), (.int (5 : Int32)), (.ref b9)])) rfl rfl (hb hby at_71)
  obtain ⟨lc33, X33, N33⟩ : ∃ lc, Stand p l e room_1 s m #[(.int p1), (.int p2), (.int p3), (.int p4), (.int p5)] below meth c T33 lc 1 8 ∧ Fr n0 lc := ⟨_, X33', Fr.snoc X33' N29 (Nat.le_trans Z0 (Nat.le_trans (Keep.refl h0 []).1 (Nat.le_of_eq g9.symm)))⟩
  have V33 : Arv Z h33 b9 k9 .int (8 : Int32) [(.int p5), (.int (p5 + (1 : Int32))), (.int (p5 + (2 : Int32))), (.int (p5 + (3 : Int32))), (.int (p5 + (4 : Int32))), (.int (p5 + (5 : Int32))), (.int (0 : Int32)), (.int (0 : Int32))] (.int (0 : Int32)) := Arv.set Arq32 ckq32 cSq32 cNq32 cHq32 cGq32 rfl W33 5 rfl (Nat.le_of_ble_eq_true rfl)
  have K34 : Gx p e below s₁ f0 T33 (mkF m 72 #[.val (.int p1), .val (.int p2), .val (.int p3), .val (.int p4), .val (.int p5), .val (.int (2 : Int32)), .val (.int v3), .val (.int v5), .val (.int v7), .val (.ref b9), .unset, .unset, .unset, .unset, .unset, .unset] []) := fun t kt => K31 t (st33 t kt)
  have K35 : Gx p e below s₁ f0 T33 (mkF m 81 #[.val (.int p1), .val (.int p2), .val (.int p3), .val (.int p4), .val (.int p5), .val (.int (2 : Int32)), .val (.int v3), .val (.int v5), .val (.int v7), .val (.ref b9), .unset, .unset, .unset, .unset, .unset, .unset] [(.int (p5 + (6 : Int32))), (.int (6 : Int32)), (.ref b9)]) := fun t kt => K34 t (by
    show Steps p.tables e below (T33.setTop (mkF m 72 #[.val (.int p1), .val (.int p2), .val (.int p3), .val (.int p4), .val (.int p5), .val (.int (2 : Int32)), .val (.int v3), .val (.int v5), .val (.int v7), .val (.ref b9), .unset, .unset, .unset, .unset, .unset, .unset] [])) _
    refine XS.aload X33.here hx rfl (hb hby at_72) rfl rfl ?_
    show Steps p.tables e below (T33.setTop (mkF m 74 #[.val (.int p1), .val (.int p2), .val (.int p3), .val (.int p4), .val (.int p5), .val (.int (2 : Int32)), .val (.int v3), .val (.int v5), .val (.int v7), .val (.ref b9), .unset, .unset, .unset, .unset, .unset, .unset] [(.ref b9)])) _
    refine XS.bipush X33.here hx rfl (hb hby at_74) ?_
    show Steps p.tables e below (T33.setTop (mkF m 76 #[.val (.int p1), .val (.int p2), .val (.int p3), .val (.int p4), .val (.int p5), .val (.int (2 : Int32)), .val (.int v3), .val (.int v5), .val (.int v7), .val (.ref b9), .unset, .unset, .unset, .unset, .unset, .unset] [(.int (6 : Int32)), (.ref b9)])) _
    refine XS.iload X33.here hx rfl (hb hby at_76) rfl ?_
    show Steps p.tables e below (T33.setTop (mkF m 78 #[.val (.int p1), .val (.int p2), .val (.int p3), .val (.int p4), .val (.int p5), .val (.int (2 : Int32)), .val (.int v3), .val (.int v5), .val (.int v7), .val (.ref b9), .unset, .unset, .unset, .unset, .unset, .unset] [(.int p5), (.int (6 : Int32)), (.ref b9)])) _
    refine XS.bipush X33.here hx rfl (hb hby at_78) ?_
    show Steps p.tables e below (T33.setTop (mkF m 80 #[.val (.int p1), .val (.int p2), .val (.int p3), .val (.int p4), .val (.int p5), .val (.int (2 : Int32)), .val (.int v3), .val (.int v5), .val (.int v7), .val (.ref b9), .unset, .unset, .unset, .unset, .unset, .unset] [(.int (6 : Int32)), (.int p5), (.int (6 : Int32)), (.ref b9)])) _
    refine XS.iadd X33.here hx rfl (hb hby at_80) rfl ?_
    exact kt)
  obtain ⟨clq36, Arq36, ckq36, cSq36, cNq36, cHq36, cGq36⟩ := id V33
  obtain ⟨T37, h37, X37', e37, W37, st37⟩ := stI X33 hx hZ e33 Arq36 (j := (6 : Int32)) (inb_of cSq36 ⟨by decide, by decide⟩) (g := (mkF m 81 #[.val (.int p1), .val (.int p2), .val (.int p3), .val (.int p4), .val (.int p5), .val (.int (2 : Int32)), .val (.int v3), .val (.int v5), .val (.int v7), .val (.ref b9), .unset, .unset, .unset, .unset, .unset, .unset] [(.int (p5 + (6 : Int32))), (.int (6 : Int32)), (.ref b9)])) rfl rfl (hb hby at_81)
  obtain ⟨lc37, X37, N37⟩ : ∃ lc, Stand p l e room_1 s m #[(.int p1), (.int p2), (.int p3), (.int p4), (.int p5)] below meth c T37 lc 1 8 ∧ Fr n0 lc := ⟨_, X37', Fr.snoc X37' N33 (Nat.le_trans Z0 (Nat.le_trans (Keep.refl h0 []).1 (Nat.le_of_eq g9.symm)))⟩
  have V37 : Arv Z h37 b9 k9 .int (8 : Int32) [(.int p5), (.int (p5 + (1 : Int32))), (.int (p5 + (2 : Int32))), (.int (p5 + (3 : Int32))), (.int (p5 + (4 : Int32))), (.int (p5 + (5 : Int32))), (.int (p5 + (6 : Int32))), (.int (0 : Int32))] (.int (0 : Int32)) := Arv.set Arq36 ckq36 cSq36 cNq36 cHq36 cGq36 rfl W37 6 rfl (Nat.le_of_ble_eq_true rfl)
  have K38 : Gx p e below s₁ f0 T37 (mkF m 82 #[.val (.int p1), .val (.int p2), .val (.int p3), .val (.int p4), .val (.int p5), .val (.int (2 : Int32)), .val (.int v3), .val (.int v5), .val (.int v7), .val (.ref b9), .unset, .unset, .unset, .unset, .unset, .unset] []) := fun t kt => K35 t (st37 t kt)
  have K39 : Gx p e below s₁ f0 T37 (mkF m 91 #[.val (.int p1), .val (.int p2), .val (.int p3), .val (.int p4), .val (.int p5), .val (.int (2 : Int32)), .val (.int v3), .val (.int v5), .val (.int v7), .val (.ref b9), .unset, .unset, .unset, .unset, .unset, .unset] [(.int (p5 + (7 : Int32))), (.int (7 : Int32)), (.ref b9)]) := fun t kt => K38 t (by
    show Steps p.tables e below (T37.setTop (mkF m 82 #[.val (.int p1), .val (.int p2), .val (.int p3), .val (.int p4), .val (.int p5), .val (.int (2 : Int32)), .val (.int v3), .val (.int v5), .val (.int v7), .val (.ref b9), .unset, .unset, .unset, .unset, .unset, .unset] [])) _
    refine XS.aload X37.here hx rfl (hb hby at_82) rfl rfl ?_
    show Steps p.tables e below (T37.setTop (mkF m 84 #[.val (.int p1), .val (.int p2), .val (.int p3), .val (.int p4), .val (.int p5), .val (.int (2 : Int32)), .val (.int v3), .val (.int v5), .val (.int v7), .val (.ref b9), .unset, .unset, .unset, .unset, .unset, .unset] [(.ref b9)])) _
    refine XS.bipush X37.here hx rfl (hb hby at_84) ?_
    show Steps p.tables e below (T37.setTop (mkF m 86 #[.val (.int p1), .val (.int p2), .val (.int p3), .val (.int p4), .val (.int p5), .val (.int (2 : Int32)), .val (.int v3), .val (.int v5), .val (.int v7), .val (.ref b9), .unset, .unset, .unset, .unset, .unset, .unset] [(.int (7 : Int32)), (.ref b9)])) _
    refine XS.iload X37.here hx rfl (hb hby at_86) rfl ?_
    show Steps p.tables e below (T37.setTop (mkF m 88 #[.val (.int p1), .val (.int p2), .val (.int p3), .val (.int p4), .val (.int p5), .val (.int (2 : Int32)), .val (.int v3), .val (.int v5), .val (.int v7), .val (.ref b9), .unset, .unset, .unset, .unset, .unset, .unset] [(.int p5), (.int (7 : Int32)), (.ref b9)])) _
    refine XS.bipush X37.here hx rfl (hb hby at_88) ?_
    show Steps p.tables e below (T37.setTop (mkF m 90 #[.val (.int p1), .val (.int p2), .val (.int p3), .val (.int p4), .val (.int p5), .val (.int (2 : Int32)), .val (.int v3), .val (.int v5), .val (.int v7), .val (.ref b9), .unset, .unset, .unset, .unset, .unset, .unset] [(.int (7 : Int32)), (.int p5), (.int (7 : Int32)), (.ref b9)])) _
    refine XS.iadd X37.here hx rfl (hb hby at_90) rfl ?_
    exact kt)
  obtain ⟨clq40, Arq40, ckq40, cSq40, cNq40, cHq40, cGq40⟩ := id V37
  obtain ⟨T41, h41, X41', e41, W41, st41⟩ := stI X37 hx hZ e37 Arq40 (j := (7 : Int32)) (inb_of cSq40 ⟨by decide, by decide⟩) (g := (mkF m 91 #[.val (.int p1), .val (.int p2), .val (.int p3), .val (.int p4), .val (.int p5), .val (.int (2 : Int32)), .val (.int v3), .val (.int v5), .val (.int v7), .val (.ref b9), .unset, .unset, .unset, .unset, .unset, .unset] [(.int (p5 + (7 : Int32))), (.int (7 : Int32)), (.ref b9)])) rfl rfl (hb hby at_91)
  obtain ⟨lc41, X41, N41⟩ : ∃ lc, Stand p l e room_1 s m #[(.int p1), (.int p2), (.int p3), (.int p4), (.int p5)] below meth c T41 lc 1 8 ∧ Fr n0 lc := ⟨_, X41', Fr.snoc X41' N37 (Nat.le_trans Z0 (Nat.le_trans (Keep.refl h0 []).1 (Nat.le_of_eq g9.symm)))⟩
  have V41 : Arv Z h41 b9 k9 .int (8 : Int32) [(.int p5), (.int (p5 + (1 : Int32))), (.int (p5 + (2 : Int32))), (.int (p5 + (3 : Int32))), (.int (p5 + (4 : Int32))), (.int (p5 + (5 : Int32))), (.int (p5 + (6 : Int32))), (.int (p5 + (7 : Int32)))] (.int (0 : Int32)) := Arv.set Arq40 ckq40 cSq40 cNq40 cHq40 cGq40 rfl W41 7 rfl (Nat.le_of_ble_eq_true rfl)
  have K42 : Gx p e below s₁ f0 T41 (mkF m 92 #[.val (.int p1), .val (.int p2), .val (.int p3), .val (.int p4), .val (.int p5), .val (.int (2 : Int32)), .val (.int v3), .val (.int v5), .val (.int v7), .val (.ref b9), .unset, .unset, .unset, .unset, .unset, .unset] []) := fun t kt => K39 t (st41 t kt)
  obtain ⟨T43, h43, X43, e43, E43, A43, D43, -, st43⟩ := newO X41 hx hZ hown (hw _ (List.mem_of_getElem? (i := 1) rfl)) (hw _ (List.mem_of_getElem? (i := 2) rfl)) (hw _ (List.mem_of_getElem? (i := 3) rfl)) e41 (g := (mkF m 92 #[.val (.int p1), .val (.int p2), .val (.int p3), .val (.int p4), .val (.int p5), .val (.int (2 : Int32)), .val (.int v3), .val (.int v5), .val (.int v7), .val (.ref b9), .unset, .unset, .unset, .unset, .unset, .unset] [])) rfl (hb hby at_92) (by decide) (by decide)
  obtain ⟨b43, g43⟩ : ∃ z, z = h41.size := ⟨_, rfl⟩
  rw [← g43] at A43 D43 st43
  have f44 : Fld Z h43 b43 "lastcolumn/stage/Probabilities" "states" "[I" .null := D43 (Or.inr (hw _ (List.mem_of_getElem? (i := 11) rfl))) (ty := (.array .int)) (by decide)
  have f45 : Fld Z h43 b43 "lastcolumn/stage/Probabilities" "at" "I" (.int (0 : Int32)) := D43 (Or.inr (hw _ (List.mem_of_getElem? (i := 13) rfl))) (ty := .int) (by decide)
  have K46 : Gx p e below s₁ f0 T43 (mkF m 95 #[.val (.int p1), .val (.int p2), .val (.int p3), .val (.int p4), .val (.int p5), .val (.int (2 : Int32)), .val (.int v3), .val (.int v5), .val (.int v7), .val (.ref b9), .unset, .unset, .unset, .unset, .unset, .unset] [(.ref b43)]) := fun t kt => K42 t (st43 t kt)
  have K47 : Gx p e below s₁ f0 T43 (mkF m 101 #[.val (.int p1), .val (.int p2), .val (.int p3), .val (.int p4), .val (.int p5), .val (.int (2 : Int32)), .val (.int v3), .val (.int v5), .val (.int v7), .val (.ref b9), .unset, .unset, .unset, .unset, .unset, .unset] [(.int (4 : Int32)), (.int (2 : Int32)), (.ref b9), (.ref b43), (.ref b43)]) := fun t kt => K46 t (by
    show Steps p.tables e below (T43.setTop (mkF m 95 #[.val (.int p1), .val (.int p2), .val (.int p3), .val (.int p4), .val (.int p5), .val (.int (2 : Int32)), .val (.int v3), .val (.int v5), .val (.int v7), .val (.ref b9), .unset, .unset, .unset, .unset, .unset, .unset] [(.ref b43)])) _
    refine XS.dup X43.here hx rfl (hb hby at_95) rfl rfl ?_
    show Steps p.tables e below (T43.setTop (mkF m 96 #[.val (.int p1), .val (.int p2), .val (.int p3), .val (.int p4), .val (.int p5), .val (.int (2 : Int32)), .val (.int v3), .val (.int v5), .val (.int v7), .val (.ref b9), .unset, .unset, .unset, .unset, .unset, .unset] [(.ref b43), (.ref b43)])) _
    refine XS.aload X43.here hx rfl (hb hby at_96) rfl rfl ?_
    show Steps p.tables e below (T43.setTop (mkF m 98 #[.val (.int p1), .val (.int p2), .val (.int p3), .val (.int p4), .val (.int p5), .val (.int (2 : Int32)), .val (.int v3), .val (.int v5), .val (.int v7), .val (.ref b9), .unset, .unset, .unset, .unset, .unset, .unset] [(.ref b9), (.ref b43), (.ref b43)])) _
    refine XS.iload X43.here hx rfl (hb hby at_98) rfl ?_
    show Steps p.tables e below (T43.setTop (mkF m 100 #[.val (.int p1), .val (.int p2), .val (.int p3), .val (.int p4), .val (.int p5), .val (.int (2 : Int32)), .val (.int v3), .val (.int v5), .val (.int v7), .val (.ref b9), .unset, .unset, .unset, .unset, .unset, .unset] [(.int (2 : Int32)), (.ref b9), (.ref b43), (.ref b43)])) _
    refine XS.iconst X43.here hx rfl (hb hby at_100) ?_
    exact kt)
  have f48 : Arv Z h43 b9 k9 .int (8 : Int32) [(.int p5), (.int (p5 + (1 : Int32))), (.int (p5 + (2 : Int32))), (.int (p5 + (3 : Int32))), (.int (p5 + (4 : Int32))), (.int (p5 + (5 : Int32))), (.int (p5 + (6 : Int32))), (.int (p5 + (7 : Int32)))] (.int (0 : Int32)) := (V41.ext E43)
  have kp49 : Keep h0 h43 [] := (((((((((((Keep.refl h0 []).ext E9).wr W13 (Or.inr (Nat.le_trans (Keep.refl h0 []).1 (Nat.le_of_eq g9.symm)))).wr W17 (Or.inr (Nat.le_trans (Keep.refl h0 []).1 (Nat.le_of_eq g9.symm)))).wr W21 (Or.inr (Nat.le_trans (Keep.refl h0 []).1 (Nat.le_of_eq g9.symm)))).wr W25 (Or.inr (Nat.le_trans (Keep.refl h0 []).1 (Nat.le_of_eq g9.symm)))).wr W29 (Or.inr (Nat.le_trans (Keep.refl h0 []).1 (Nat.le_of_eq g9.symm)))).wr W33 (Or.inr (Nat.le_trans (Keep.refl h0 []).1 (Nat.le_of_eq g9.symm)))).wr W37 (Or.inr (Nat.le_trans (Keep.refl h0 []).1 (Nat.le_of_eq g9.symm)))).wr W41 (Or.inr (Nat.le_trans (Keep.refl h0 []).1 (Nat.le_of_eq g9.symm)))).ext E43)
  obtain ⟨_, _, ⟨T50, L50, k50, n50⟩, -, X50', ⟨Lc50, hQ50, l50, y50, z50⟩, st50⟩ := X43.specialBack hx (y := (⟨"lastcolumn/stage/Probabilities", "<init>", "([III)V"⟩ : MethodName)) rfl hown (mvT hZ (hw _ (List.mem_of_getElem? (i := 4) rfl))) (mvT hZ (hw _ (List.mem_of_getElem? (i := 5) rfl))) (mvT hZ (hw _ (List.mem_of_getElem? (i := 6) rfl))) (by decide) (backOf (W := 1) (rmIni2 l Z a0 hw [] b43 b9 k9 p5 (p5 + (1 : Int32)) (p5 + (2 : Int32)) (p5 + (3 : Int32)) (p5 + (4 : Int32)) (p5 + (5 : Int32)) (p5 + (6 : Int32)) (p5 + (7 : Int32)) h43 n0 (Nat.le_trans Z0 kp49.1) A43 (Nat.le_trans Z0 (Nat.le_trans ((((((((((Keep.refl h0 []).ext E9).wr W13 (Or.inr (Nat.le_trans (Keep.refl h0 []).1 (Nat.le_of_eq g9.symm)))).wr W17 (Or.inr (Nat.le_trans (Keep.refl h0 []).1 (Nat.le_of_eq g9.symm)))).wr W21 (Or.inr (Nat.le_trans (Keep.refl h0 []).1 (Nat.le_of_eq g9.symm)))).wr W25 (Or.inr (Nat.le_trans (Keep.refl h0 []).1 (Nat.le_of_eq g9.symm)))).wr W29 (Or.inr (Nat.le_trans (Keep.refl h0 []).1 (Nat.le_of_eq g9.symm)))).wr W33 (Or.inr (Nat.le_trans (Keep.refl h0 []).1 (Nat.le_of_eq g9.symm)))).wr W37 (Or.inr (Nat.le_trans (Keep.refl h0 []).1 (Nat.le_of_eq g9.symm)))).wr W41 (Or.inr (Nat.le_trans (Keep.refl h0 []).1 (Nat.le_of_eq g9.symm)))).1 (Nat.le_of_eq g43.symm))) (Nat.le_trans Z0 (Nat.le_trans (Keep.refl h0 []).1 (Nat.le_of_eq g9.symm))) f44 f45 f48 (Ne.symm (Nat.ne_of_lt (Nat.lt_of_lt_of_le V41.lt (Nat.le_of_eq g43.symm))))) hZ (hw _ (List.mem_of_getElem? (i := 6) rfl)) (hw _ (List.mem_of_getElem? (i := 3) rfl)) (by decide) (by decide)) (g := (mkF m 101 #[.val (.int p1), .val (.int p2), .val (.int p3), .val (.int p4), .val (.int p5), .val (.int (2 : Int32)), .val (.int v3), .val (.int v5), .val (.int v7), .val (.ref b9), .unset, .unset, .unset, .unset, .unset, .unset] [(.int (4 : Int32)), (.int (2 : Int32)), (.ref b9), (.ref b43), (.ref b43)])) rfl (by rw [hml]; rfl) (Steps.refl _) (a := b43) (argsL := [(.ref b9), (.int (2 : Int32)), (.int (4 : Int32))]) (rest := [(.ref b43)]) (lenOf pd___III_V rfl) rfl (by show 2 * 0 + _ ≤ _; exact Nat.le_of_eq rfl) (hb hby at_101) (fun _ _ => ⟨rfl, e43, (by decide : 2 + 0 ≤ _), (by decide : 10 + 0 ≤ _)⟩)
  dsimp only [Pt.U, Pt.locs, Pt.cells, Pt.slots] at X50' l50 y50 z50 st50 hQ50
  subst l50 y50 z50
  obtain ⟨h50, e50⟩ : ∃ z, T50.heap = z := ⟨_, rfl⟩
  rw [e50] at hQ50
  obtain ⟨rfl, N50q, Kc50, f51, f52, f53, f54⟩ := hQ50
  obtain ⟨lc50, X50, N50⟩ : ∃ lc, Stand p l e room_1 s m #[(.int p1), (.int p2), (.int p3), (.int p4), (.int p5)] below meth c T50 lc 2 10 ∧ Fr n0 lc := ⟨_, X50', Fr.app N41 N50q⟩
  have K55 : Gx p e below s₁ f0 T50 (mkF m 104 #[.val (.int p1), .val (.int p2), .val (.int p3), .val (.int p4), .val (.int p5), .val (.int (2 : Int32)), .val (.int v3), .val (.int v5), .val (.int v7), .val (.ref b9), .unset, .unset, .unset, .unset, .unset, .unset] [(.ref b43)]) := fun t kt => K47 t (st50.trans kt)
  have K56 : Gx p e below s₁ f0 T50 (mkF m 110 #[.val (.int p1), .val (.int p2), .val (.int p3), .val (.int p4), .val (.int p5), .val (.int (2 : Int32)), .val (.int v3), .val (.int v5), .val (.int v7), .val (.ref b9), .val (.ref b43), .unset, .unset, .unset, .unset, .unset] [(.int v5), (.ref b43)]) := fun t kt => K55 t (by
    show Steps p.tables e below (T50.setTop (mkF m 104 #[.val (.int p1), .val (.int p2), .val (.int p3), .val (.int p4), .val (.int p5), .val (.int (2 : Int32)), .val (.int v3), .val (.int v5), .val (.int v7), .val (.ref b9), .unset, .unset, .unset, .unset, .unset, .unset] [(.ref b43)])) _
    refine XS.astore X50.here hx rfl (hb hby at_104) rfl rfl (l' := #[.val (.int p1), .val (.int p2), .val (.int p3), .val (.int p4), .val (.int p5), .val (.int (2 : Int32)), .val (.int v3), .val (.int v5), .val (.int v7), .val (.ref b9), .val (.ref b43), .unset, .unset, .unset, .unset, .unset]) rfl ?_
    show Steps p.tables e below (T50.setTop (mkF m 106 #[.val (.int p1), .val (.int p2), .val (.int p3), .val (.int p4), .val (.int p5), .val (.int (2 : Int32)), .val (.int v3), .val (.int v5), .val (.int v7), .val (.ref b9), .val (.ref b43), .unset, .unset, .unset, .unset, .unset] [])) _
    refine XS.aload X50.here hx rfl (hb hby at_106) rfl rfl ?_
    show Steps p.tables e below (T50.setTop (mkF m 108 #[.val (.int p1), .val (.int p2), .val (.int p3), .val (.int p4), .val (.int p5), .val (.int (2 : Int32)), .val (.int v3), .val (.int v5), .val (.int v7), .val (.ref b9), .val (.ref b43), .unset, .unset, .unset, .unset, .unset] [(.ref b43)])) _
    refine XS.iload X50.here hx rfl (hb hby at_108) rfl ?_
    exact kt)
  have kp57 : Keep h0 h50 [] := (Keep.trans kp49 Kc50 (allS (Or.inr (Nat.le_trans ((((((((((Keep.refl h0 []).ext E9).wr W13 (Or.inr (Nat.le_trans (Keep.refl h0 []).1 (Nat.le_of_eq g9.symm)))).wr W17 (Or.inr (Nat.le_trans (Keep.refl h0 []).1 (Nat.le_of_eq g9.symm)))).wr W21 (Or.inr (Nat.le_trans (Keep.refl h0 []).1 (Nat.le_of_eq g9.symm)))).wr W25 (Or.inr (Nat.le_trans (Keep.refl h0 []).1 (Nat.le_of_eq g9.symm)))).wr W29 (Or.inr (Nat.le_trans (Keep.refl h0 []).1 (Nat.le_of_eq g9.symm)))).wr W33 (Or.inr (Nat.le_trans (Keep.refl h0 []).1 (Nat.le_of_eq g9.symm)))).wr W37 (Or.inr (Nat.le_trans (Keep.refl h0 []).1 (Nat.le_of_eq g9.symm)))).wr W41 (Or.inr (Nat.le_trans (Keep.refl h0 []).1 (Nat.le_of_eq g9.symm)))).1 (Nat.le_of_eq g43.symm))) (allS (Or.inr (Nat.le_trans (Keep.refl h0 []).1 (Nat.le_of_eq g9.symm))) all0)))
  obtain ⟨cq58, kq58, q58a, q58b, q58c⟩ := isOf hZ e50 f51
  obtain ⟨_, _, ⟨T58, L58, k58, n58⟩, -, X58', ⟨Lc58, hQ58, l58, y58, z58⟩, st58⟩ := X50.virtualBack hx (y := (⟨"lastcolumn/stage/Probabilities", "ofOne", "(I)I"⟩ : MethodName)) (z := (⟨"lastcolumn/stage/Probabilities", "ofOne", "(I)I"⟩ : MethodName)) hown (mvT hZ (hw _ (List.mem_of_getElem? (i := 22) rfl))) (mvT hZ (hw _ (List.mem_of_getElem? (i := 23) rfl))) (notFace_of_selects (args := #[]) (mvT hZ (hw _ (List.mem_of_getElem? (i := 25) rfl)))) (mvT hZ (hw _ (List.mem_of_getElem? (i := 25) rfl))) (mvT hZ (hw _ (List.mem_of_getElem? (i := 24) rfl))) (by decide) (backOf (W := 0) (rmOf1 l Z a0 hw [] b43 v5 b9 (2 : Int32) k9 [(.int p5), (.int (p5 + (1 : Int32))), (.int (-2147483648 : Int32)), (.int (-2147483648 : Int32)), (.int (-2147483648 : Int32)), (.int (-2147483648 : Int32)), (.int (p5 + (6 : Int32))), (.int (p5 + (7 : Int32)))] (-2147483648 : Int32) h50 n0 (Nat.le_trans Z0 kp57.1) f52 f53 f54 (by rcases hc2 with q | q | q | q <;> rw [q] <;> decide) (by rcases hc2 with q | q | q | q <;> rw [q] <;> rfl)) hZ (hw _ (List.mem_of_getElem? (i := 26) rfl)) (hw _ (List.mem_of_getElem? (i := 3) rfl)) (by decide) (by decide)) q58a q58c (g := (mkF m 110 #[.val (.int p1), .val (.int p2), .val (.int p3), .val (.int p4), .val (.int p5), .val (.int (2 : Int32)), .val (.int v3), .val (.int v5), .val (.int v7), .val (.ref b9), .val (.ref b43), .unset, .unset, .unset, .unset, .unset] [(.int v5), (.ref b43)])) rfl (by rw [hml]; rfl) (Steps.refl _) (argsL := [(.int v5)]) (rest := []) (lenOf pd__I_I rfl) rfl (by show 2 * 0 + _ ≤ _; exact Nat.le_of_eq rfl) (hb hby at_110) (fun _ _ => ⟨rfl, e50, (by decide : 2 + 0 ≤ _), (by decide : 10 + 0 ≤ _)⟩)
  dsimp only [Pt.U, Pt.locs, Pt.cells, Pt.slots] at X58' l58 y58 z58 st58 hQ58
  subst l58 y58 z58
  obtain ⟨rfl, N58q, e58⟩ := hQ58
  obtain ⟨lc58, X58, N58⟩ : ∃ lc, Stand p l e room_1 s m #[(.int p1), (.int p2), (.int p3), (.int p4), (.int p5)] below meth c T58 lc 2 10 ∧ Fr n0 lc := ⟨_, X58', Fr.app N50 N58q⟩
  have K59 : Gx p e below s₁ f0 T58 (mkF m 113 #[.val (.int p1), .val (.int p2), .val (.int p3), .val (.int p4), .val (.int p5), .val (.int (2 : Int32)), .val (.int v3), .val (.int v5), .val (.int v7), .val (.ref b9), .val (.ref b43), .unset, .unset, .unset, .unset, .unset] [(.int (((-2147483648 : Int32).toUInt32 >>> ((16 : Int32) &&& 31).toUInt32).toInt32))]) := fun t kt => K56 t (st58.trans kt)
  obtain ⟨v60, hv60⟩ : ∃ z : Int32, z = (((-2147483648 : Int32).toUInt32 >>> ((16 : Int32) &&& 31).toUInt32).toInt32) := ⟨_, rfl⟩
  rw [← hv60] at K59
  have K61 : Gx p e below s₁ f0 T58 (mkF m 121 #[.val (.int p1), .val (.int p2), .val (.int p3), .val (.int p4), .val (.int p5), .val (.int (2 : Int32)), .val (.int v3), .val (.int v5), .val (.int v7), .val (.ref b9), .val (.ref b43), .val (.int v60), .unset, .unset, .unset, .unset] [(.int v7), (.int v3), (.ref b43)]) := fun t kt => K59 t (by
    show Steps p.tables e below (T58.setTop (mkF m 113 #[.val (.int p1), .val (.int p2), .val (.int p3), .val (.int p4), .val (.int p5), .val (.int (2 : Int32)), .val (.int v3), .val (.int v5), .val (.int v7), .val (.ref b9), .val (.ref b43), .unset, .unset, .unset, .unset, .unset] [(.int v60)])) _
    refine XS.istore X58.here hx rfl (hb hby at_113) rfl (l' := #[.val (.int p1), .val (.int p2), .val (.int p3), .val (.int p4), .val (.int p5), .val (.int (2 : Int32)), .val (.int v3), .val (.int v5), .val (.int v7), .val (.ref b9), .val (.ref b43), .val (.int v60), .unset, .unset, .unset, .unset]) rfl ?_
    show Steps p.tables e below (T58.setTop (mkF m 115 #[.val (.int p1), .val (.int p2), .val (.int p3), .val (.int p4), .val (.int p5), .val (.int (2 : Int32)), .val (.int v3), .val (.int v5), .val (.int v7), .val (.ref b9), .val (.ref b43), .val (.int v60), .unset, .unset, .unset, .unset] [])) _
    refine XS.aload X58.here hx rfl (hb hby at_115) rfl rfl ?_
    show Steps p.tables e below (T58.setTop (mkF m 117 #[.val (.int p1), .val (.int p2), .val (.int p3), .val (.int p4), .val (.int p5), .val (.int (2 : Int32)), .val (.int v3), .val (.int v5), .val (.int v7), .val (.ref b9), .val (.ref b43), .val (.int v60), .unset, .unset, .unset, .unset] [(.ref b43)])) _
    refine XS.iload X58.here hx rfl (hb hby at_117) rfl ?_
    show Steps p.tables e below (T58.setTop (mkF m 119 #[.val (.int p1), .val (.int p2), .val (.int p3), .val (.int p4), .val (.int p5), .val (.int (2 : Int32)), .val (.int v3), .val (.int v5), .val (.int v7), .val (.ref b9), .val (.ref b43), .val (.int v60), .unset, .unset, .unset, .unset] [(.int v3), (.ref b43)])) _
    refine XS.iload X58.here hx rfl (hb hby at_119) rfl ?_
    exact kt)
  have f62 : Old Z n0 h50 := (((((((((((pr2.ext E9).wr W13 (Nat.le_trans Z0 (Nat.le_trans (Keep.refl h0 []).1 (Nat.le_of_eq g9.symm)))).wr W17 (Nat.le_trans Z0 (Nat.le_trans (Keep.refl h0 []).1 (Nat.le_of_eq g9.symm)))).wr W21 (Nat.le_trans Z0 (Nat.le_trans (Keep.refl h0 []).1 (Nat.le_of_eq g9.symm)))).wr W25 (Nat.le_trans Z0 (Nat.le_trans (Keep.refl h0 []).1 (Nat.le_of_eq g9.symm)))).wr W29 (Nat.le_trans Z0 (Nat.le_trans (Keep.refl h0 []).1 (Nat.le_of_eq g9.symm)))).wr W33 (Nat.le_trans Z0 (Nat.le_trans (Keep.refl h0 []).1 (Nat.le_of_eq g9.symm)))).wr W37 (Nat.le_trans Z0 (Nat.le_trans (Keep.refl h0 []).1 (Nat.le_of_eq g9.symm)))).wr W41 (Nat.le_trans Z0 (Nat.le_trans (Keep.refl h0 []).1 (Nat.le_of_eq g9.symm)))).ext E43).keep Kc50 (allS (Nat.le_trans Z0 (Nat.le_trans ((((((((((Keep.refl h0 []).ext E9).wr W13 (Or.inr (Nat.le_trans (Keep.refl h0 []).1 (Nat.le_of_eq g9.symm)))).wr W17 (Or.inr (Nat.le_trans (Keep.refl h0 []).1 (Nat.le_of_eq g9.symm)))).wr W21 (Or.inr (Nat.le_trans (Keep.refl h0 []).1 (Nat.le_of_eq g9.symm)))).wr W25 (Or.inr (Nat.le_trans (Keep.refl h0 []).1 (Nat.le_of_eq g9.symm)))).wr W29 (Or.inr (Nat.le_trans (Keep.refl h0 []).1 (Nat.le_of_eq g9.symm)))).wr W33 (Or.inr (Nat.le_trans (Keep.refl h0 []).1 (Nat.le_of_eq g9.symm)))).wr W37 (Or.inr (Nat.le_trans (Keep.refl h0 []).1 (Nat.le_of_eq g9.symm)))).wr W41 (Or.inr (Nat.le_trans (Keep.refl h0 []).1 (Nat.le_of_eq g9.symm)))).1 (Nat.le_of_eq g43.symm))) (allS (Nat.le_trans Z0 (Nat.le_trans (Keep.refl h0 []).1 (Nat.le_of_eq g9.symm))) all0)))
  obtain ⟨cq63, kq63, q63a, q63b, q63c⟩ := isOf hZ e58 f51
  obtain ⟨_, _, ⟨T63, L63, k63, n63⟩, -, X63', ⟨Lc63, hQ63, l63, y63, z63⟩, st63⟩ := X58.virtualBack hx (y := (⟨"lastcolumn/stage/Probabilities", "learn", "(II)V"⟩ : MethodName)) (z := (⟨"lastcolumn/stage/Probabilities", "learn", "(II)V"⟩ : MethodName)) hown (mvT hZ (hw _ (List.mem_of_getElem? (i := 27) rfl))) (mvT hZ (hw _ (List.mem_of_getElem? (i := 28) rfl))) (notFace_of_selects (args := #[]) (mvT hZ (hw _ (List.mem_of_getElem? (i := 30) rfl)))) (mvT hZ (hw _ (List.mem_of_getElem? (i := 30) rfl))) (mvT hZ (hw _ (List.mem_of_getElem? (i := 29) rfl))) (by decide) (backOf (W := 0) (rmLrn l Z a0 hw [] b43 v3 v7 b9 (2 : Int32) k9 [(.int p5), (.int (p5 + (1 : Int32))), (.int (-2147483648 : Int32)), (.int (-2147483648 : Int32)), (.int (-2147483648 : Int32)), (.int (-2147483648 : Int32)), (.int (p5 + (6 : Int32))), (.int (p5 + (7 : Int32)))] ra kr h50 n0 (Nat.le_trans Z0 kp57.1) f51 (Nat.le_trans Z0 (Nat.le_trans (Keep.refl h0 []).1 (Nat.le_of_eq g9.symm))) f52 f53 f54 (Ne.symm (Nat.ne_of_lt (Nat.lt_of_lt_of_le V41.lt (Nat.le_of_eq g43.symm)))) pr0 pr1 f62 (by rcases hc1 with q | q | q | q <;> rw [q] <;> decide) (by rcases hc1 with q | q | q | q <;> rw [q] <;> rfl) (by rcases hc1 with q | q | q | q <;> rw [q] <;> exact Nat.le_of_ble_eq_true rfl)) hZ (hw _ (List.mem_of_getElem? (i := 31) rfl)) (hw _ (List.mem_of_getElem? (i := 3) rfl)) (by decide) (by decide)) q63a q63c (g := (mkF m 121 #[.val (.int p1), .val (.int p2), .val (.int p3), .val (.int p4), .val (.int p5), .val (.int (2 : Int32)), .val (.int v3), .val (.int v5), .val (.int v7), .val (.ref b9), .val (.ref b43), .val (.int v60), .unset, .unset, .unset, .unset] [(.int v7), (.int v3), (.ref b43)])) rfl (by rw [hml]; rfl) (Steps.refl _) (argsL := [(.int v3), (.int v7)]) (rest := []) (lenOf pd__II_V rfl) rfl (by show 2 * 0 + _ ≤ _; exact Nat.le_of_eq rfl) (hb hby at_121) (fun _ _ => ⟨rfl, e58, (by decide : 2 + 0 ≤ _), (by decide : 10 + 0 ≤ _)⟩)
  dsimp only [Pt.U, Pt.locs, Pt.cells, Pt.slots] at X63' l63 y63 z63 st63 hQ63
  subst l63 y63 z63
  obtain ⟨h63, e63⟩ : ∃ z, T63.heap = z := ⟨_, rfl⟩
  rw [e63] at hQ63
  obtain ⟨rfl, N63q, Kc63, f64⟩ := hQ63
  obtain ⟨lc63, X63, N63⟩ : ∃ lc, Stand p l e room_1 s m #[(.int p1), (.int p2), (.int p3), (.int p4), (.int p5)] below meth c T63 lc 2 10 ∧ Fr n0 lc := ⟨_, X63', Fr.app N58 N63q⟩
  have K65 : Gx p e below s₁ f0 T63 (mkF m 124 #[.val (.int p1), .val (.int p2), .val (.int p3), .val (.int p4), .val (.int p5), .val (.int (2 : Int32)), .val (.int v3), .val (.int v5), .val (.int v7), .val (.ref b9), .val (.ref b43), .val (.int v60), .unset, .unset, .unset, .unset] []) := fun t kt => K61 t (st63.trans kt)
  have K66 : Gx p e below s₁ f0 T63 (mkF m 128 #[.val (.int p1), .val (.int p2), .val (.int p3), .val (.int p4), .val (.int p5), .val (.int (2 : Int32)), .val (.int v3), .val (.int v5), .val (.int v7), .val (.ref b9), .val (.ref b43), .val (.int v60), .unset, .unset, .unset, .unset] [(.int v3), (.ref b43)]) := fun t kt => K65 t (by
    show Steps p.tables e below (T63.setTop (mkF m 124 #[.val (.int p1), .val (.int p2), .val (.int p3), .val (.int p4), .val (.int p5), .val (.int (2 : Int32)), .val (.int v3), .val (.int v5), .val (.int v7), .val (.ref b9), .val (.ref b43), .val (.int v60), .unset, .unset, .unset, .unset] [])) _
    refine XS.aload X63.here hx rfl (hb hby at_124) rfl rfl ?_
    show Steps p.tables e below (T63.setTop (mkF m 126 #[.val (.int p1), .val (.int p2), .val (.int p3), .val (.int p4), .val (.int p5), .val (.int (2 : Int32)), .val (.int v3), .val (.int v5), .val (.int v7), .val (.ref b9), .val (.ref b43), .val (.int v60), .unset, .unset, .unset, .unset] [(.ref b43)])) _
    refine XS.iload X63.here hx rfl (hb hby at_126) rfl ?_
    exact kt)
  have f67 : Fld Z h63 b43 "lastcolumn/stage/Probabilities" "states" "[I" (.ref b9) := (f52.keep Kc63 (ninS (Ne.symm (Nat.ne_of_lt (Nat.lt_of_lt_of_le V41.lt (Nat.le_of_eq g43.symm)))) nin0))
  have f68 : Fld Z h63 b43 "lastcolumn/stage/Probabilities" "at" "I" (.int (2 : Int32)) := (f53.keep Kc63 (ninS (Ne.symm (Nat.ne_of_lt (Nat.lt_of_lt_of_le V41.lt (Nat.le_of_eq g43.symm)))) nin0))
  have kp69 : Keep h0 h63 [] := (Keep.trans kp57 Kc63 (allS (Or.inr (Nat.le_trans (Keep.refl h0 []).1 (Nat.le_of_eq g9.symm))) all0))
  have f71 : Exa Z h63 b43 "lastcolumn/stage/Probabilities" := (f51.keep Kc63)
  obtain ⟨cq70, kq70, q70a, q70b, q70c⟩ := isOf hZ e63 f71
  obtain ⟨_, _, ⟨T70, L70, k70, n70⟩, -, X70', ⟨Lc70, hQ70, l70, y70, z70⟩, st70⟩ := X63.virtualBack hx (y := (⟨"lastcolumn/stage/Probabilities", "ofOne", "(I)I"⟩ : MethodName)) (z := (⟨"lastcolumn/stage/Probabilities", "ofOne", "(I)I"⟩ : MethodName)) hown (mvT hZ (hw _ (List.mem_of_getElem? (i := 22) rfl))) (mvT hZ (hw _ (List.mem_of_getElem? (i := 23) rfl))) (notFace_of_selects (args := #[]) (mvT hZ (hw _ (List.mem_of_getElem? (i := 25) rfl)))) (mvT hZ (hw _ (List.mem_of_getElem? (i := 25) rfl))) (mvT hZ (hw _ (List.mem_of_getElem? (i := 24) rfl))) (by decide) (backOf (W := 0) (rmOf1 l Z a0 hw [] b43 v3 b9 (2 : Int32) k9 ([(.int p5), (.int (p5 + (1 : Int32))), (.int (-2147483648 : Int32)), (.int (-2147483648 : Int32)), (.int (-2147483648 : Int32)), (.int (-2147483648 : Int32)), (.int (p5 + (6 : Int32))), (.int (p5 + (7 : Int32)))].set ((2 : Int32) + v3).toNatClampNeg (.int (if v7 = (1 : Int32) then (-715850751 : Int32) else (715849729 : Int32)))) (if v7 = (1 : Int32) then (-715850751 : Int32) else (715849729 : Int32)) h63 n0 (Nat.le_trans Z0 kp69.1) f67 f68 f64 (by rcases hc1 with q | q | q | q <;> rw [q] <;> decide) (by rcases hc1 with q | q | q | q <;> rw [q] <;> rfl)) hZ (hw _ (List.mem_of_getElem? (i := 26) rfl)) (hw _ (List.mem_of_getElem? (i := 3) rfl)) (by decide) (by decide)) q70a q70c (g := (mkF m 128 #[.val (.int p1), .val (.int p2), .val (.int p3), .val (.int p4), .val (.int p5), .val (.int (2 : Int32)), .val (.int v3), .val (.int v5), .val (.int v7), .val (.ref b9), .val (.ref b43), .val (.int v60), .unset, .unset, .unset, .unset] [(.int v3), (.ref b43)])) rfl (by rw [hml]; rfl) (Steps.refl _) (argsL := [(.int v3)]) (rest := []) (lenOf pd__I_I rfl) rfl (by show 2 * 0 + _ ≤ _; exact Nat.le_of_eq rfl) (hb hby at_128) (fun _ _ => ⟨rfl, e63, (by decide : 2 + 0 ≤ _), (by decide : 10 + 0 ≤ _)⟩)
  dsimp only [Pt.U, Pt.locs, Pt.cells, Pt.slots] at X70' l70 y70 z70 st70 hQ70
  subst l70 y70 z70
  obtain ⟨rfl, N70q, e70⟩ := hQ70
  obtain ⟨lc70, X70, N70⟩ : ∃ lc, Stand p l e room_1 s m #[(.int p1), (.int p2), (.int p3), (.int p4), (.int p5)] below meth c T70 lc 2 10 ∧ Fr n0 lc := ⟨_, X70', Fr.app N63 N70q⟩
  have K72 : Gx p e below s₁ f0 T70 (mkF m 131 #[.val (.int p1), .val (.int p2), .val (.int p3), .val (.int p4), .val (.int p5), .val (.int (2 : Int32)), .val (.int v3), .val (.int v5), .val (.int v7), .val (.ref b9), .val (.ref b43), .val (.int v60), .unset, .unset, .unset, .unset] [(.int (((if v7 = (1 : Int32) then (-715850751 : Int32) else (715849729 : Int32)).toUInt32 >>> ((16 : Int32) &&& 31).toUInt32).toInt32))]) := fun t kt => K66 t (st70.trans kt)
  obtain ⟨v73, hv73⟩ : ∃ z : Int32, z = (((if v7 = (1 : Int32) then (-715850751 : Int32) else (715849729 : Int32)).toUInt32 >>> ((16 : Int32) &&& 31).toUInt32).toInt32) := ⟨_, rfl⟩
  rw [← hv73] at K72
  have K74 : Gx p e below s₁ f0 T70 (mkF m 137 #[.val (.int p1), .val (.int p2), .val (.int p3), .val (.int p4), .val (.int p5), .val (.int (2 : Int32)), .val (.int v3), .val (.int v5), .val (.int v7), .val (.ref b9), .val (.ref b43), .val (.int v60), .val (.int v73), .unset, .unset, .unset] [(.int v5), (.ref b43)]) := fun t kt => K72 t (by
    show Steps p.tables e below (T70.setTop (mkF m 131 #[.val (.int p1), .val (.int p2), .val (.int p3), .val (.int p4), .val (.int p5), .val (.int (2 : Int32)), .val (.int v3), .val (.int v5), .val (.int v7), .val (.ref b9), .val (.ref b43), .val (.int v60), .unset, .unset, .unset, .unset] [(.int v73)])) _
    refine XS.istore X70.here hx rfl (hb hby at_131) rfl (l' := #[.val (.int p1), .val (.int p2), .val (.int p3), .val (.int p4), .val (.int p5), .val (.int (2 : Int32)), .val (.int v3), .val (.int v5), .val (.int v7), .val (.ref b9), .val (.ref b43), .val (.int v60), .val (.int v73), .unset, .unset, .unset]) rfl ?_
    show Steps p.tables e below (T70.setTop (mkF m 133 #[.val (.int p1), .val (.int p2), .val (.int p3), .val (.int p4), .val (.int p5), .val (.int (2 : Int32)), .val (.int v3), .val (.int v5), .val (.int v7), .val (.ref b9), .val (.ref b43), .val (.int v60), .val (.int v73), .unset, .unset, .unset] [])) _
    refine XS.aload X70.here hx rfl (hb hby at_133) rfl rfl ?_
    show Steps p.tables e below (T70.setTop (mkF m 135 #[.val (.int p1), .val (.int p2), .val (.int p3), .val (.int p4), .val (.int p5), .val (.int (2 : Int32)), .val (.int v3), .val (.int v5), .val (.int v7), .val (.ref b9), .val (.ref b43), .val (.int v60), .val (.int v73), .unset, .unset, .unset] [(.ref b43)])) _
    refine XS.iload X70.here hx rfl (hb hby at_135) rfl ?_
    exact kt)
  obtain ⟨cq75, kq75, q75a, q75b, q75c⟩ := isOf hZ e70 f71
  obtain ⟨_, _, ⟨T75, L75, k75, n75⟩, -, X75', ⟨Lc75, hQ75, l75, y75, z75⟩, st75⟩ := X70.virtualBack hx (y := (⟨"lastcolumn/stage/Probabilities", "ofOne", "(I)I"⟩ : MethodName)) (z := (⟨"lastcolumn/stage/Probabilities", "ofOne", "(I)I"⟩ : MethodName)) hown (mvT hZ (hw _ (List.mem_of_getElem? (i := 22) rfl))) (mvT hZ (hw _ (List.mem_of_getElem? (i := 23) rfl))) (notFace_of_selects (args := #[]) (mvT hZ (hw _ (List.mem_of_getElem? (i := 25) rfl)))) (mvT hZ (hw _ (List.mem_of_getElem? (i := 25) rfl))) (mvT hZ (hw _ (List.mem_of_getElem? (i := 24) rfl))) (by decide) (backOf (W := 0) (rmOf1 l Z a0 hw [] b43 v5 b9 (2 : Int32) k9 ([(.int p5), (.int (p5 + (1 : Int32))), (.int (-2147483648 : Int32)), (.int (-2147483648 : Int32)), (.int (-2147483648 : Int32)), (.int (-2147483648 : Int32)), (.int (p5 + (6 : Int32))), (.int (p5 + (7 : Int32)))].set ((2 : Int32) + v3).toNatClampNeg (.int (if v7 = (1 : Int32) then (-715850751 : Int32) else (715849729 : Int32)))) (if v5 = v3 then (if v7 = (1 : Int32) then (-715850751 : Int32) else (715849729 : Int32)) else (-2147483648 : Int32)) h63 n0 (Nat.le_trans Z0 kp69.1) f67 f68 f64 (by rcases hc2 with q | q | q | q <;> rw [q] <;> decide) (by rcases hc1 with q | q | q | q <;> rcases hc2 with r | r | r | r <;> rw [q, r] <;> rfl)) hZ (hw _ (List.mem_of_getElem? (i := 26) rfl)) (hw _ (List.mem_of_getElem? (i := 3) rfl)) (by decide) (by decide)) q75a q75c (g := (mkF m 137 #[.val (.int p1), .val (.int p2), .val (.int p3), .val (.int p4), .val (.int p5), .val (.int (2 : Int32)), .val (.int v3), .val (.int v5), .val (.int v7), .val (.ref b9), .val (.ref b43), .val (.int v60), .val (.int v73), .unset, .unset, .unset] [(.int v5), (.ref b43)])) rfl (by rw [hml]; rfl) (Steps.refl _) (argsL := [(.int v5)]) (rest := []) (lenOf pd__I_I rfl) rfl (by show 2 * 0 + _ ≤ _; exact Nat.le_of_eq rfl) (hb hby at_137) (fun _ _ => ⟨rfl, e70, (by decide : 2 + 0 ≤ _), (by decide : 10 + 0 ≤ _)⟩)
  dsimp only [Pt.U, Pt.locs, Pt.cells, Pt.slots] at X75' l75 y75 z75 st75 hQ75
  subst l75 y75 z75
  obtain ⟨rfl, N75q, e75⟩ := hQ75
  obtain ⟨lc75, X75, N75⟩ : ∃ lc, Stand p l e room_1 s m #[(.int p1), (.int p2), (.int p3), (.int p4), (.int p5)] below meth c T75 lc 2 10 ∧ Fr n0 lc := ⟨_, X75', Fr.app N70 N75q⟩
  have K76 : Gx p e below s₁ f0 T75 (mkF m 140 #[.val (.int p1), .val (.int p2), .val (.int p3), .val (.int p4), .val (.int p5), .val (.int (2 : Int32)), .val (.int v3), .val (.int v5), .val (.int v7), .val (.ref b9), .val (.ref b43), .val (.int v60), .val (.int v73), .unset, .unset, .unset] [(.int (((if v5 = v3 then (if v7 = (1 : Int32) then (-715850751 : Int32) else (715849729 : Int32)) else (-2147483648 : Int32)).toUInt32 >>> ((16 : Int32) &&& 31).toUInt32).toInt32))]) := fun t kt => K74 t (st75.trans kt)
  obtain ⟨v77, hv77⟩ : ∃ z : Int32, z = (((if v5 = v3 then (if v7 = (1 : Int32) then (-715850751 : Int32) else (715849729 : Int32)) else (-2147483648 : Int32)).toUInt32 >>> ((16 : Int32) &&& 31).toUInt32).toInt32) := ⟨_, rfl⟩
  rw [← hv77] at K76
  have K80 : Gx p e below s₁ f0 T75 (mkF m 145 #[.val (.int p1), .val (.int p2), .val (.int p3), .val (.int p4), .val (.int p5), .val (.int (2 : Int32)), .val (.int v3), .val (.int v5), .val (.int v7), .val (.ref b9), .val (.ref b43), .val (.int v60), .val (.int v73), .val (.int v77), .unset, .unset] [(.int (1 : Int32)), (.int v7)]) := fun t kt => K76 t (by
    show Steps p.tables e below (T75.setTop (mkF m 140 #[.val (.int p1), .val (.int p2), .val (.int p3), .val (.int p4), .val (.int p5), .val (.int (2 : Int32)), .val (.int v3), .val (.int v5), .val (.int v7), .val (.ref b9), .val (.ref b43), .val (.int v60), .val (.int v73), .unset, .unset, .unset] [(.int v77)])) _
    refine XS.istore X75.here hx rfl (hb hby at_140) rfl (l' := #[.val (.int p1), .val (.int p2), .val (.int p3), .val (.int p4), .val (.int p5), .val (.int (2 : Int32)), .val (.int v3), .val (.int v5), .val (.int v7), .val (.ref b9), .val (.ref b43), .val (.int v60), .val (.int v73), .val (.int v77), .unset, .unset]) rfl ?_
    show Steps p.tables e below (T75.setTop (mkF m 142 #[.val (.int p1), .val (.int p2), .val (.int p3), .val (.int p4), .val (.int p5), .val (.int (2 : Int32)), .val (.int v3), .val (.int v5), .val (.int v7), .val (.ref b9), .val (.ref b43), .val (.int v60), .val (.int v73), .val (.int v77), .unset, .unset] [])) _
    refine XS.iload X75.here hx rfl (hb hby at_142) rfl ?_
    show Steps p.tables e below (T75.setTop (mkF m 144 #[.val (.int p1), .val (.int p2), .val (.int p3), .val (.int p4), .val (.int p5), .val (.int (2 : Int32)), .val (.int v3), .val (.int v5), .val (.int v7), .val (.ref b9), .val (.ref b43), .val (.int v60), .val (.int v73), .val (.int v77), .unset, .unset] [(.int v7)])) _
    refine XS.iconst X75.here hx rfl (hb hby at_144) ?_
    exact kt)
  obtain ⟨v79, hv79⟩ : ∃ z : Int32, z = (if v7 = (1 : Int32) then (54612 : Int32) else (10923 : Int32)) := ⟨_, rfl⟩
  have K81 : Gx p e below s₁ f0 T75 (mkF m 156 #[.val (.int p1), .val (.int p2), .val (.int p3), .val (.int p4), .val (.int p5), .val (.int (2 : Int32)), .val (.int v3), .val (.int v5), .val (.int v7), .val (.ref b9), .val (.ref b43), .val (.int v60), .val (.int v73), .val (.int v77), .unset, .unset] [(.int v79)]) := fun t kt => K80 t (by
    by_cases hc145_77 : v7 = (1 : Int32)
    · skip
      show Steps p.tables e below (T75.setTop (mkF m 145 #[.val (.int p1), .val (.int p2), .val (.int p3), .val (.int p4), .val (.int p5), .val (.int (2 : Int32)), .val (.int v3), .val (.int v5), .val (.int v7), .val (.ref b9), .val (.ref b43), .val (.int v60), .val (.int v73), .val (.int v77), .unset, .unset] [(.int (1 : Int32)), (.int v7)])) _
      refine XS.icmpNo X75.here hx rfl (hb hby at_145) rfl (teq hc145_77).2 ?_
      show Steps p.tables e below (T75.setTop (mkF m 148 #[.val (.int p1), .val (.int p2), .val (.int p3), .val (.int p4), .val (.int p5), .val (.int (2 : Int32)), .val (.int v3), .val (.int v5), .val (.int v7), .val (.ref b9), .val (.ref b43), .val (.int v60), .val (.int v73), .val (.int v77), .unset, .unset] [])) _
      refine X75.ldcInt hx hown (mvT hZ (hw _ (List.mem_of_getElem? (i := 39) rfl))) (g := (mkF m 148 #[.val (.int p1), .val (.int p2), .val (.int p3), .val (.int p4), .val (.int p5), .val (.int (2 : Int32)), .val (.int v3), .val (.int v5), .val (.int v7), .val (.ref b9), .val (.ref b43), .val (.int v60), .val (.int v73), .val (.int v77), .unset, .unset] [])) rfl (hb hby at_148) _ ?_
      show Steps p.tables e below (T75.setTop (mkF m 150 #[.val (.int p1), .val (.int p2), .val (.int p3), .val (.int p4), .val (.int p5), .val (.int (2 : Int32)), .val (.int v3), .val (.int v5), .val (.int v7), .val (.ref b9), .val (.ref b43), .val (.int v60), .val (.int v73), .val (.int v77), .unset, .unset] [(.int (54612 : Int32))])) _
      refine XS.goto X75.here hx rfl (pc0 := 150) (pc' := 156) rfl (hb hby at_150) (by decide) (by decide) ?_
      show Steps p.tables e below (T75.setTop (mkF m 156 #[.val (.int p1), .val (.int p2), .val (.int p3), .val (.int p4), .val (.int p5), .val (.int (2 : Int32)), .val (.int v3), .val (.int v5), .val (.int v7), .val (.ref b9), .val (.ref b43), .val (.int v60), .val (.int v73), .val (.int v77), .unset, .unset] [(.int (54612 : Int32))])) _
      exact castTop (by simp only [hv79, if_pos hc145_77]) kt
    · skip
      show Steps p.tables e below (T75.setTop (mkF m 145 #[.val (.int p1), .val (.int p2), .val (.int p3), .val (.int p4), .val (.int p5), .val (.int (2 : Int32)), .val (.int v3), .val (.int v5), .val (.int v7), .val (.ref b9), .val (.ref b43), .val (.int v60), .val (.int v73), .val (.int v77), .unset, .unset] [(.int (1 : Int32)), (.int v7)])) _
      refine XS.icmpYes X75.here hx rfl (pc0 := 145) (pc' := 153) rfl (hb hby at_145) rfl (feq hc145_77).2 (by decide) (by decide) ?_
      show Steps p.tables e below (T75.setTop (mkF m 153 #[.val (.int p1), .val (.int p2), .val (.int p3), .val (.int p4), .val (.int p5), .val (.int (2 : Int32)), .val (.int v3), .val (.int v5), .val (.int v7), .val (.ref b9), .val (.ref b43), .val (.int v60), .val (.int v73), .val (.int v77), .unset, .unset] [])) _
      refine XS.sipush X75.here hx rfl (hb hby at_153) ?_
      show Steps p.tables e below (T75.setTop (mkF m 156 #[.val (.int p1), .val (.int p2), .val (.int p3), .val (.int p4), .val (.int p5), .val (.int (2 : Int32)), .val (.int v3), .val (.int v5), .val (.int v7), .val (.ref b9), .val (.ref b43), .val (.int v60), .val (.int v73), .val (.int v77), .unset, .unset] [(.int (10923 : Int32))])) _
      exact castTop (by simp only [hv79, if_neg hc145_77]) kt)
  have K84 : Gx p e below s₁ f0 T75 (mkF m 162 #[.val (.int p1), .val (.int p2), .val (.int p3), .val (.int p4), .val (.int p5), .val (.int (2 : Int32)), .val (.int v3), .val (.int v5), .val (.int v7), .val (.ref b9), .val (.ref b43), .val (.int v60), .val (.int v73), .val (.int v77), .val (.int v79), .unset] [(.int v3), (.int v5)]) := fun t kt => K81 t (by
    show Steps p.tables e below (T75.setTop (mkF m 156 #[.val (.int p1), .val (.int p2), .val (.int p3), .val (.int p4), .val (.int p5), .val (.int (2 : Int32)), .val (.int v3), .val (.int v5), .val (.int v7), .val (.ref b9), .val (.ref b43), .val (.int v60), .val (.int v73), .val (.int v77), .unset, .unset] [(.int v79)])) _
    refine XS.istore X75.here hx rfl (hb hby at_156) rfl (l' := #[.val (.int p1), .val (.int p2), .val (.int p3), .val (.int p4), .val (.int p5), .val (.int (2 : Int32)), .val (.int v3), .val (.int v5), .val (.int v7), .val (.ref b9), .val (.ref b43), .val (.int v60), .val (.int v73), .val (.int v77), .val (.int v79), .unset]) rfl ?_
    show Steps p.tables e below (T75.setTop (mkF m 158 #[.val (.int p1), .val (.int p2), .val (.int p3), .val (.int p4), .val (.int p5), .val (.int (2 : Int32)), .val (.int v3), .val (.int v5), .val (.int v7), .val (.ref b9), .val (.ref b43), .val (.int v60), .val (.int v73), .val (.int v77), .val (.int v79), .unset] [])) _
    refine XS.iload X75.here hx rfl (hb hby at_158) rfl ?_
    show Steps p.tables e below (T75.setTop (mkF m 160 #[.val (.int p1), .val (.int p2), .val (.int p3), .val (.int p4), .val (.int p5), .val (.int (2 : Int32)), .val (.int v3), .val (.int v5), .val (.int v7), .val (.ref b9), .val (.ref b43), .val (.int v60), .val (.int v73), .val (.int v77), .val (.int v79), .unset] [(.int v5)])) _
    refine XS.iload X75.here hx rfl (hb hby at_160) rfl ?_
    exact kt)
  obtain ⟨v83, hv83⟩ : ∃ z : Int32, z = (if v5 = v3 then v79 else (32768 : Int32)) := ⟨_, rfl⟩
  have K85 : Gx p e below s₁ f0 T75 (mkF m 172 #[.val (.int p1), .val (.int p2), .val (.int p3), .val (.int p4), .val (.int p5), .val (.int (2 : Int32)), .val (.int v3), .val (.int v5), .val (.int v7), .val (.ref b9), .val (.ref b43), .val (.int v60), .val (.int v73), .val (.int v77), .val (.int v79), .unset] [(.int v83)]) := fun t kt => K84 t (by
    by_cases hc162_81 : v5 = v3
    · skip
      show Steps p.tables e below (T75.setTop (mkF m 162 #[.val (.int p1), .val (.int p2), .val (.int p3), .val (.int p4), .val (.int p5), .val (.int (2 : Int32)), .val (.int v3), .val (.int v5), .val (.int v7), .val (.ref b9), .val (.ref b43), .val (.int v60), .val (.int v73), .val (.int v77), .val (.int v79), .unset] [(.int v3), (.int v5)])) _
      refine XS.icmpNo X75.here hx rfl (hb hby at_162) rfl (teq hc162_81).2 ?_
      show Steps p.tables e below (T75.setTop (mkF m 165 #[.val (.int p1), .val (.int p2), .val (.int p3), .val (.int p4), .val (.int p5), .val (.int (2 : Int32)), .val (.int v3), .val (.int v5), .val (.int v7), .val (.ref b9), .val (.ref b43), .val (.int v60), .val (.int v73), .val (.int v77), .val (.int v79), .unset] [])) _
      refine XS.iload X75.here hx rfl (hb hby at_165) rfl ?_
      show Steps p.tables e below (T75.setTop (mkF m 167 #[.val (.int p1), .val (.int p2), .val (.int p3), .val (.int p4), .val (.int p5), .val (.int (2 : Int32)), .val (.int v3), .val (.int v5), .val (.int v7), .val (.ref b9), .val (.ref b43), .val (.int v60), .val (.int v73), .val (.int v77), .val (.int v79), .unset] [(.int v79)])) _
      refine XS.goto X75.here hx rfl (pc0 := 167) (pc' := 172) rfl (hb hby at_167) (by decide) (by decide) ?_
      show Steps p.tables e below (T75.setTop (mkF m 172 #[.val (.int p1), .val (.int p2), .val (.int p3), .val (.int p4), .val (.int p5), .val (.int (2 : Int32)), .val (.int v3), .val (.int v5), .val (.int v7), .val (.ref b9), .val (.ref b43), .val (.int v60), .val (.int v73), .val (.int v77), .val (.int v79), .unset] [(.int v79)])) _
      exact castTop (by simp only [hv83, if_pos hc162_81]) kt
    · skip
      show Steps p.tables e below (T75.setTop (mkF m 162 #[.val (.int p1), .val (.int p2), .val (.int p3), .val (.int p4), .val (.int p5), .val (.int (2 : Int32)), .val (.int v3), .val (.int v5), .val (.int v7), .val (.ref b9), .val (.ref b43), .val (.int v60), .val (.int v73), .val (.int v77), .val (.int v79), .unset] [(.int v3), (.int v5)])) _
      refine XS.icmpYes X75.here hx rfl (pc0 := 162) (pc' := 170) rfl (hb hby at_162) rfl (feq hc162_81).2 (by decide) (by decide) ?_
      show Steps p.tables e below (T75.setTop (mkF m 170 #[.val (.int p1), .val (.int p2), .val (.int p3), .val (.int p4), .val (.int p5), .val (.int (2 : Int32)), .val (.int v3), .val (.int v5), .val (.int v7), .val (.ref b9), .val (.ref b43), .val (.int v60), .val (.int v73), .val (.int v77), .val (.int v79), .unset] [])) _
      refine X75.ldcInt hx hown (mvT hZ (hw _ (List.mem_of_getElem? (i := 40) rfl))) (g := (mkF m 170 #[.val (.int p1), .val (.int p2), .val (.int p3), .val (.int p4), .val (.int p5), .val (.int (2 : Int32)), .val (.int v3), .val (.int v5), .val (.int v7), .val (.ref b9), .val (.ref b43), .val (.int v60), .val (.int v73), .val (.int v77), .val (.int v79), .unset] [])) rfl (hb hby at_170) _ ?_
      show Steps p.tables e below (T75.setTop (mkF m 172 #[.val (.int p1), .val (.int p2), .val (.int p3), .val (.int p4), .val (.int p5), .val (.int (2 : Int32)), .val (.int v3), .val (.int v5), .val (.int v7), .val (.ref b9), .val (.ref b43), .val (.int v60), .val (.int v73), .val (.int v77), .val (.int v79), .unset] [(.int (32768 : Int32))])) _
      exact castTop (by simp only [hv83, if_neg hc162_81]) kt)
  have K86 : Gx p e below s₁ f0 T75 (mkF m 200 #[.val (.int p1), .val (.int p2), .val (.int p3), .val (.int p4), .val (.int p5), .val (.int (2 : Int32)), .val (.int v3), .val (.int v5), .val (.int v7), .val (.ref b9), .val (.ref b43), .val (.int v60), .val (.int v73), .val (.int v77), .val (.int v79), .val (.int v83)] [(.int (1 : Int32))]) := fun t kt => K85 t (by
    show Steps p.tables e below (T75.setTop (mkF m 172 #[.val (.int p1), .val (.int p2), .val (.int p3), .val (.int p4), .val (.int p5), .val (.int (2 : Int32)), .val (.int v3), .val (.int v5), .val (.int v7), .val (.ref b9), .val (.ref b43), .val (.int v60), .val (.int v73), .val (.int v77), .val (.int v79), .unset] [(.int v83)])) _
    refine XS.istore X75.here hx rfl (hb hby at_172) rfl (l' := #[.val (.int p1), .val (.int p2), .val (.int p3), .val (.int p4), .val (.int p5), .val (.int (2 : Int32)), .val (.int v3), .val (.int v5), .val (.int v7), .val (.ref b9), .val (.ref b43), .val (.int v60), .val (.int v73), .val (.int v77), .val (.int v79), .val (.int v83)]) rfl ?_
    show Steps p.tables e below (T75.setTop (mkF m 174 #[.val (.int p1), .val (.int p2), .val (.int p3), .val (.int p4), .val (.int p5), .val (.int (2 : Int32)), .val (.int v3), .val (.int v5), .val (.int v7), .val (.ref b9), .val (.ref b43), .val (.int v60), .val (.int v73), .val (.int v77), .val (.int v79), .val (.int v83)] [])) _
    refine XS.iload X75.here hx rfl (hb hby at_174) rfl ?_
    show Steps p.tables e below (T75.setTop (mkF m 176 #[.val (.int p1), .val (.int p2), .val (.int p3), .val (.int p4), .val (.int p5), .val (.int (2 : Int32)), .val (.int v3), .val (.int v5), .val (.int v7), .val (.ref b9), .val (.ref b43), .val (.int v60), .val (.int v73), .val (.int v77), .val (.int v79), .val (.int v83)] [(.int v60)])) _
    refine X75.ldcInt hx hown (mvT hZ (hw _ (List.mem_of_getElem? (i := 40) rfl))) (g := (mkF m 176 #[.val (.int p1), .val (.int p2), .val (.int p3), .val (.int p4), .val (.int p5), .val (.int (2 : Int32)), .val (.int v3), .val (.int v5), .val (.int v7), .val (.ref b9), .val (.ref b43), .val (.int v60), .val (.int v73), .val (.int v77), .val (.int v79), .val (.int v83)] [(.int v60)])) rfl (hb hby at_176) _ ?_
    show Steps p.tables e below (T75.setTop (mkF m 178 #[.val (.int p1), .val (.int p2), .val (.int p3), .val (.int p4), .val (.int p5), .val (.int (2 : Int32)), .val (.int v3), .val (.int v5), .val (.int v7), .val (.ref b9), .val (.ref b43), .val (.int v60), .val (.int v73), .val (.int v77), .val (.int v79), .val (.int v83)] [(.int (32768 : Int32)), (.int v60)])) _
    refine XS.icmpNo X75.here hx rfl (hb hby at_178) rfl (teq (by rw [hv60]; decide)).2 ?_
    show Steps p.tables e below (T75.setTop (mkF m 181 #[.val (.int p1), .val (.int p2), .val (.int p3), .val (.int p4), .val (.int p5), .val (.int (2 : Int32)), .val (.int v3), .val (.int v5), .val (.int v7), .val (.ref b9), .val (.ref b43), .val (.int v60), .val (.int v73), .val (.int v77), .val (.int v79), .val (.int v83)] [])) _
    refine XS.iload X75.here hx rfl (hb hby at_181) rfl ?_
    show Steps p.tables e below (T75.setTop (mkF m 183 #[.val (.int p1), .val (.int p2), .val (.int p3), .val (.int p4), .val (.int p5), .val (.int (2 : Int32)), .val (.int v3), .val (.int v5), .val (.int v7), .val (.ref b9), .val (.ref b43), .val (.int v60), .val (.int v73), .val (.int v77), .val (.int v79), .val (.int v83)] [(.int v73)])) _
    refine XS.iload X75.here hx rfl (hb hby at_183) rfl ?_
    show Steps p.tables e below (T75.setTop (mkF m 185 #[.val (.int p1), .val (.int p2), .val (.int p3), .val (.int p4), .val (.int p5), .val (.int (2 : Int32)), .val (.int v3), .val (.int v5), .val (.int v7), .val (.ref b9), .val (.ref b43), .val (.int v60), .val (.int v73), .val (.int v77), .val (.int v79), .val (.int v83)] [(.int v79), (.int v73)])) _
    refine XS.icmpNo X75.here hx rfl (hb hby at_185) rfl (teq (by rw [hv73, hv79]; exact own_after _)).2 ?_
    show Steps p.tables e below (T75.setTop (mkF m 188 #[.val (.int p1), .val (.int p2), .val (.int p3), .val (.int p4), .val (.int p5), .val (.int (2 : Int32)), .val (.int v3), .val (.int v5), .val (.int v7), .val (.ref b9), .val (.ref b43), .val (.int v60), .val (.int v73), .val (.int v77), .val (.int v79), .val (.int v83)] [])) _
    refine XS.iload X75.here hx rfl (hb hby at_188) rfl ?_
    show Steps p.tables e below (T75.setTop (mkF m 190 #[.val (.int p1), .val (.int p2), .val (.int p3), .val (.int p4), .val (.int p5), .val (.int (2 : Int32)), .val (.int v3), .val (.int v5), .val (.int v7), .val (.ref b9), .val (.ref b43), .val (.int v60), .val (.int v73), .val (.int v77), .val (.int v79), .val (.int v83)] [(.int v77)])) _
    refine XS.iload X75.here hx rfl (hb hby at_190) rfl ?_
    show Steps p.tables e below (T75.setTop (mkF m 192 #[.val (.int p1), .val (.int p2), .val (.int p3), .val (.int p4), .val (.int p5), .val (.int (2 : Int32)), .val (.int v3), .val (.int v5), .val (.int v7), .val (.ref b9), .val (.ref b43), .val (.int v60), .val (.int v73), .val (.int v77), .val (.int v79), .val (.int v83)] [(.int v83), (.int v77)])) _
    refine XS.icmpNo X75.here hx rfl (hb hby at_192) rfl (teq (by rw [hv77, hv83, hv79]; exact own_after2 _ _ _)).2 ?_
    show Steps p.tables e below (T75.setTop (mkF m 195 #[.val (.int p1), .val (.int p2), .val (.int p3), .val (.int p4), .val (.int p5), .val (.int (2 : Int32)), .val (.int v3), .val (.int v5), .val (.int v7), .val (.ref b9), .val (.ref b43), .val (.int v60), .val (.int v73), .val (.int v77), .val (.int v79), .val (.int v83)] [])) _
    refine XS.iconst X75.here hx rfl (hb hby at_195) ?_
    show Steps p.tables e below (T75.setTop (mkF m 196 #[.val (.int p1), .val (.int p2), .val (.int p3), .val (.int p4), .val (.int p5), .val (.int (2 : Int32)), .val (.int v3), .val (.int v5), .val (.int v7), .val (.ref b9), .val (.ref b43), .val (.int v60), .val (.int v73), .val (.int v77), .val (.int v79), .val (.int v83)] [(.int (1 : Int32))])) _
    refine XS.goto X75.here hx rfl (pc0 := 196) (pc' := 200) rfl (hb hby at_196) (by decide) (by decide) ?_
    exact kt)
  obtain ⟨fs87, hr87, hrun87, hended87, hW87, hsame87⟩ := X75.leave (v := some (.int (1 : Int32))) (fun h => by rw [Bd.returns] at h; cases h)
  refine ⟨_, _, pre0 _ (K86 _ ?_), hrun87, hended87, _, _, rfl, ?_, ⟨_, rfl⟩, hW87, hsame87.mono (by decide) (by decide)⟩
  · exact retN X75 hx (t := .boolean) Bd.returns (by simp) (hb hby at_200) hr87
  · show Q0 Z p1 p2 p3 p4 p5 ra kr h0 n0 _ T75.heap _
    rw [e75]
    exact ⟨rfl, N75⟩
theorem ef_0_3 (m : MethodId) (p1 : Int32) (p2 : Int32) (p3 : Int32) (p4 : Int32) (p5 : Int32) : entryFrame m #[(.int p1), (.int p2), (.int p3), (.int p4), (.int p5)] maxLocals = mkF m 0 #[.val (.int p1), .val (.int p2), .val (.int p3), .val (.int p4), .val (.int p5), .unset, .unset, .unset, .unset, .unset, .unset, .unset, .unset, .unset, .unset, .unset] [] := by first | (simp [entryFrame, mkF, argsToLocals, Value.category, maxLocals]; done) | rfl
set_option maxRecDepth 65536 in
set_option maxHeartbeats 40000000 in
theorem rm0_3 (l : Launch) (Z : State) (a0 : Array Value) (hw : ∀ d ∈ tables_1, d.before a0 Z = true) (ws : List Jvm.Cond) (p1 : Int32) (p2 : Int32) (p3 : Int32) (p4 : Int32) (p5 : Int32) (ra : Addr) (kr : ClassId) (h0 : Heap) (n0 : Nat) (Z0 : n0 ≤ h0.size) (pr0 : Sta Z Z.heap "lastcolumn/stage/Probabilities" "RATES" "[I" (.ref ra)) (pr1 : Arv Z Z.heap ra kr .int (16 : Int32) [(.int (43690 : Int32)), (.int (26214 : Int32)), (.int (18724 : Int32)), (.int (14563 : Int32)), (.int (11915 : Int32)), (.int (10082 : Int32)), (.int (8738 : Int32)), (.int (7710 : Int32)), (.int (6898 : Int32)), (.int (6241 : Int32)), (.int (5698 : Int32)), (.int (5242 : Int32)), (.int (4854 : Int32)), (.int (4519 : Int32)), (.int (4228 : Int32)), (.int (3971 : Int32))] (.int (0 : Int32))) (pr2 : Old Z n0 h0) (ha_ : (p1 &&& (3 : Int32)) = (3 : Int32)) :
    MetFree l x (head1 (Jvm.Cond.code x code maxLocals ret :: ws) room_1) (fun a U => a = #[(.int p1), (.int p2), (.int p3), (.int p4), (.int p5)] ∧ Z.Warmed39 U.vm ∧ U.heap = h0) (fun _ _ _ _ _ => True) (fun _ U o U' => ∃ v L, o = .returned v ∧ Q0 Z p1 p2 p3 p4 p5 ra kr h0 n0 v U'.heap L ∧ FrameEnd U o U' L room_1.cells room_1.slots) := by
  refine MetFree.of_bodySF (plainFor_of_name pn_0) hisR ?_
  intro p e s m args below meth c s₁ Bd hml0 hP hK
  obtain ⟨rfl, hZ, hh⟩ := hP
  have hx := Bd.exec
  have hby := Bd.bytes
  have hml : c.maxLocals = 16 := hml0
  have hown : s.vm.findClass "lastcolumn/stage/ProbabilitiesOfOnePinLaw" = some m.cls := findClass_of_methodNamed Bd.named
  have hnm := (name_of_methodNamed Bd.named Bd.method).1
  have X0 : Stand p l e room_1 s m #[(.int p1), (.int p2), (.int p3), (.int p4), (.int p5)] below meth c s₁ [] 0 0 := Stand.of_body Bd
  have hs0 : h0 = s.heap := hh.symm
  have e0 : s₁.heap = h0 := by rw [← hh, Bd.state]; rfl
  have N0 := Fr.nil n0
  obtain ⟨f0, hf0⟩ : ∃ f, f = entryFrame m #[(.int p1), (.int p2), (.int p3), (.int p4), (.int p5)] maxLocals := ⟨_, rfl⟩
  have pre0 : ∀ t, Steps p.tables e below (s₁.setTop f0) t → Steps p.tables e below (s₁.setTop (entryFrame m #[(.int p1), (.int p2), (.int p3), (.int p4), (.int p5)] maxLocals)) t := fun t k => hf0 ▸ k
  have K0 : Gx p e below s₁ f0 s₁ (mkF m 0 #[.val (.int p1), .val (.int p2), .val (.int p3), .val (.int p4), .val (.int p5), .unset, .unset, .unset, .unset, .unset, .unset, .unset, .unset, .unset, .unset, .unset] []) := fun t kt => by rw [hf0]; exact castTop (ef_0_3 m p1 p2 p3 p4 p5) kt
  have K1 : Gx p e below s₁ f0 s₁ (mkF m 5 #[.val (.int p1), .val (.int p2), .val (.int p3), .val (.int p4), .val (.int p5), .val (.int (p1 &&& (3 : Int32))), .unset, .unset, .unset, .unset, .unset, .unset, .unset, .unset, .unset, .unset] []) := fun t kt => K0 t (by
    show Steps p.tables e below (s₁.setTop (mkF m 0 #[.val (.int p1), .val (.int p2), .val (.int p3), .val (.int p4), .val (.int p5), .unset, .unset, .unset, .unset, .unset, .unset, .unset, .unset, .unset, .unset, .unset] [])) _
    refine XS.iloadN X0.here hx rfl (hb hby at_0) rfl ?_
    show Steps p.tables e below (s₁.setTop (mkF m 1 #[.val (.int p1), .val (.int p2), .val (.int p3), .val (.int p4), .val (.int p5), .unset, .unset, .unset, .unset, .unset, .unset, .unset, .unset, .unset, .unset, .unset] [(.int p1)])) _
    refine XS.iconst X0.here hx rfl (hb hby at_1) ?_
    show Steps p.tables e below (s₁.setTop (mkF m 2 #[.val (.int p1), .val (.int p2), .val (.int p3), .val (.int p4), .val (.int p5), .unset, .unset, .unset, .unset, .unset, .unset, .unset, .unset, .unset, .unset, .unset] [(.int (3 : Int32)), (.int p1)])) _
    refine XS.iand X0.here hx rfl (hb hby at_2) rfl ?_
    show Steps p.tables e below (s₁.setTop (mkF m 3 #[.val (.int p1), .val (.int p2), .val (.int p3), .val (.int p4), .val (.int p5), .unset, .unset, .unset, .unset, .unset, .unset, .unset, .unset, .unset, .unset, .unset] [(.int (p1 &&& (3 : Int32)))])) _
    refine XS.istore X0.here hx rfl (hb hby at_3) rfl (l' := #[.val (.int p1), .val (.int p2), .val (.int p3), .val (.int p4), .val (.int p5), .val (.int (p1 &&& (3 : Int32))), .unset, .unset, .unset, .unset, .unset, .unset, .unset, .unset, .unset, .unset]) rfl ?_
    exact kt)
  rw [ha_] at K1
  have K2 : Gx p e below s₁ f0 s₁ (mkF m 10 #[.val (.int p1), .val (.int p2), .val (.int p3), .val (.int p4), .val (.int p5), .val (.int (3 : Int32)), .val (.int (p2 &&& (3 : Int32))), .unset, .unset, .unset, .unset, .unset, .unset, .unset, .unset, .unset] []) := fun t kt => K1 t (by
    show Steps p.tables e below (s₁.setTop (mkF m 5 #[.val (.int p1), .val (.int p2), .val (.int p3), .val (.int p4), .val (.int p5), .val (.int (3 : Int32)), .unset, .unset, .unset, .unset, .unset, .unset, .unset, .unset, .unset, .unset] [])) _
    refine XS.iloadN X0.here hx rfl (hb hby at_5) rfl ?_
    show Steps p.tables e below (s₁.setTop (mkF m 6 #[.val (.int p1), .val (.int p2), .val (.int p3), .val (.int p4), .val (.int p5), .val (.int (3 : Int32)), .unset, .unset, .unset, .unset, .unset, .unset, .unset, .unset, .unset, .unset] [(.int p2)])) _
    refine XS.iconst X0.here hx rfl (hb hby at_6) ?_
    show Steps p.tables e below (s₁.setTop (mkF m 7 #[.val (.int p1), .val (.int p2), .val (.int p3), .val (.int p4), .val (.int p5), .val (.int (3 : Int32)), .unset, .unset, .unset, .unset, .unset, .unset, .unset, .unset, .unset, .unset] [(.int (3 : Int32)), (.int p2)])) _
    refine XS.iand X0.here hx rfl (hb hby at_7) rfl ?_
    show Steps p.tables e below (s₁.setTop (mkF m 8 #[.val (.int p1), .val (.int p2), .val (.int p3), .val (.int p4), .val (.int p5), .val (.int (3 : Int32)), .unset, .unset, .unset, .unset, .unset, .unset, .unset, .unset, .unset, .unset] [(.int (p2 &&& (3 : Int32)))])) _
    refine XS.istore X0.here hx rfl (hb hby at_8) rfl (l' := #[.val (.int p1), .val (.int p2), .val (.int p3), .val (.int p4), .val (.int p5), .val (.int (3 : Int32)), .val (.int (p2 &&& (3 : Int32))), .unset, .unset, .unset, .unset, .unset, .unset, .unset, .unset, .unset]) rfl ?_
    exact kt)
  obtain ⟨v3, hv3⟩ : ∃ z : Int32, z = (p2 &&& (3 : Int32)) := ⟨_, rfl⟩
  rw [← hv3] at K2
  have hc1 := own_and3 p2
  rw [← hv3] at hc1
  have K4 : Gx p e below s₁ f0 s₁ (mkF m 15 #[.val (.int p1), .val (.int p2), .val (.int p3), .val (.int p4), .val (.int p5), .val (.int (3 : Int32)), .val (.int v3), .val (.int (p3 &&& (3 : Int32))), .unset, .unset, .unset, .unset, .unset, .unset, .unset, .unset] []) := fun t kt => K2 t (by
    show Steps p.tables e below (s₁.setTop (mkF m 10 #[.val (.int p1), .val (.int p2), .val (.int p3), .val (.int p4), .val (.int p5), .val (.int (3 : Int32)), .val (.int v3), .unset, .unset, .unset, .unset, .unset, .unset, .unset, .unset, .unset] [])) _
    refine XS.iloadN X0.here hx rfl (hb hby at_10) rfl ?_
    show Steps p.tables e below (s₁.setTop (mkF m 11 #[.val (.int p1), .val (.int p2), .val (.int p3), .val (.int p4), .val (.int p5), .val (.int (3 : Int32)), .val (.int v3), .unset, .unset, .unset, .unset, .unset, .unset, .unset, .unset, .unset] [(.int p3)])) _
    refine XS.iconst X0.here hx rfl (hb hby at_11) ?_
    show Steps p.tables e below (s₁.setTop (mkF m 12 #[.val (.int p1), .val (.int p2), .val (.int p3), .val (.int p4), .val (.int p5), .val (.int (3 : Int32)), .val (.int v3), .unset, .unset, .unset, .unset, .unset, .unset, .unset, .unset, .unset] [(.int (3 : Int32)), (.int p3)])) _
    refine XS.iand X0.here hx rfl (hb hby at_12) rfl ?_
    show Steps p.tables e below (s₁.setTop (mkF m 13 #[.val (.int p1), .val (.int p2), .val (.int p3), .val (.int p4), .val (.int p5), .val (.int (3 : Int32)), .val (.int v3), .unset, .unset, .unset, .unset, .unset, .unset, .unset, .unset, .unset] [(.int (p3 &&& (3 : Int32)))])) _
    refine XS.istore X0.here hx rfl (hb hby at_13) rfl (l' := #[.val (.int p1), .val (.int p2), .val (.int p3), .val (.int p4), .val (.int p5), .val (.int (3 : Int32)), .val (.int v3), .val (.int (p3 &&& (3 : Int32))), .unset, .unset, .unset, .unset, .unset, .unset, .unset, .unset]) rfl ?_
    exact kt)
  obtain ⟨v5, hv5⟩ : ∃ z : Int32, z = (p3 &&& (3 : Int32)) := ⟨_, rfl⟩
  rw [← hv5] at K4
  have hc2 := own_and3 p3
  rw [← hv5] at hc2
  have K6 : Gx p e below s₁ f0 s₁ (mkF m 20 #[.val (.int p1), .val (.int p2), .val (.int p3), .val (.int p4), .val (.int p5), .val (.int (3 : Int32)), .val (.int v3), .val (.int v5), .val (.int (p4 &&& (1 : Int32))), .unset, .unset, .unset, .unset, .unset, .unset, .unset] []) := fun t kt => K4 t (by
    show Steps p.tables e below (s₁.setTop (mkF m 15 #[.val (.int p1), .val (.int p2), .val (.int p3), .val (.int p4), .val (.int p5), .val (.int (3 : Int32)), .val (.int v3), .val (.int v5), .unset, .unset, .unset, .unset, .unset, .unset, .unset, .unset] [])) _
    refine XS.iloadN X0.here hx rfl (hb hby at_15) rfl ?_
    show Steps p.tables e below (s₁.setTop (mkF m 16 #[.val (.int p1), .val (.int p2), .val (.int p3), .val (.int p4), .val (.int p5), .val (.int (3 : Int32)), .val (.int v3), .val (.int v5), .unset, .unset, .unset, .unset, .unset, .unset, .unset, .unset] [(.int p4)])) _
    refine XS.iconst X0.here hx rfl (hb hby at_16) ?_
    show Steps p.tables e below (s₁.setTop (mkF m 17 #[.val (.int p1), .val (.int p2), .val (.int p3), .val (.int p4), .val (.int p5), .val (.int (3 : Int32)), .val (.int v3), .val (.int v5), .unset, .unset, .unset, .unset, .unset, .unset, .unset, .unset] [(.int (1 : Int32)), (.int p4)])) _
    refine XS.iand X0.here hx rfl (hb hby at_17) rfl ?_
    show Steps p.tables e below (s₁.setTop (mkF m 18 #[.val (.int p1), .val (.int p2), .val (.int p3), .val (.int p4), .val (.int p5), .val (.int (3 : Int32)), .val (.int v3), .val (.int v5), .unset, .unset, .unset, .unset, .unset, .unset, .unset, .unset] [(.int (p4 &&& (1 : Int32)))])) _
    refine XS.istore X0.here hx rfl (hb hby at_18) rfl (l' := #[.val (.int p1), .val (.int p2), .val (.int p3), .val (.int p4), .val (.int p5), .val (.int (3 : Int32)), .val (.int v3), .val (.int v5), .val (.int (p4 &&& (1 : Int32))), .unset, .unset, .unset, .unset, .unset, .unset, .unset]) rfl ?_
    exact kt)
  obtain ⟨v7, hv7⟩ : ∃ z : Int32, z = (p4 &&& (1 : Int32)) := ⟨_, rfl⟩
  rw [← hv7] at K6
  have K8 : Gx p e below s₁ f0 s₁ (mkF m 22 #[.val (.int p1), .val (.int p2), .val (.int p3), .val (.int p4), .val (.int p5), .val (.int (3 : Int32)), .val (.int v3), .val (.int v5), .val (.int v7), .unset, .unset, .unset, .unset, .unset, .unset, .unset] [(.int (8 : Int32))]) := fun t kt => K6 t (by
    show Steps p.tables e below (s₁.setTop (mkF m 20 #[.val (.int p1), .val (.int p2), .val (.int p3), .val (.int p4), .val (.int p5), .val (.int (3 : Int32)), .val (.int v3), .val (.int v5), .val (.int v7), .unset, .unset, .unset, .unset, .unset, .unset, .unset] [])) _
    refine XS.bipush X0.here hx rfl (hb hby at_20) ?_
    exact kt)
  obtain ⟨T9, h9, k9, X9, e9, E9, A9, st9⟩ := newP X0 hx hZ (hw _ (List.mem_of_getElem? (i := 0) rfl)) e0 (g := (mkF m 22 #[.val (.int p1), .val (.int p2), .val (.int p3), .val (.int p4), .val (.int p5), .val (.int (3 : Int32)), .val (.int v3), .val (.int v5), .val (.int v7), .unset, .unset, .unset, .unset, .unset, .unset, .unset] [(.int (8 : Int32))])) rfl (hb hby at_22) rfl (by decide) (cap := 8) (by decide) (by decide) (by decide) (by decide)
  obtain ⟨b9, g9⟩ : ∃ z, z = h0.size := ⟨_, rfl⟩
  rw [← g9] at A9 st9
  have V9 : Arv Z h9 b9 k9 .int (8 : Int32) [(.int (0 : Int32)), (.int (0 : Int32)), (.int (0 : Int32)), (.int (0 : Int32)), (.int (0 : Int32)), (.int (0 : Int32)), (.int (0 : Int32)), (.int (0 : Int32))] (.int (0 : Int32)) := (Arv.new A9 (by decide)).pad (pad_rep [] (.int (0 : Int32)) 8)
  have K10 : Gx p e below s₁ f0 T9 (mkF m 24 #[.val (.int p1), .val (.int p2), .val (.int p3), .val (.int p4), .val (.int p5), .val (.int (3 : Int32)), .val (.int v3), .val (.int v5), .val (.int v7), .unset, .unset, .unset, .unset, .unset, .unset, .unset] [(.ref b9)]) := fun t kt => K8 t (st9 t kt)
  have K11 : Gx p e below s₁ f0 T9 (mkF m 31 #[.val (.int p1), .val (.int p2), .val (.int p3), .val (.int p4), .val (.int p5), .val (.int (3 : Int32)), .val (.int v3), .val (.int v5), .val (.int v7), .val (.ref b9), .unset, .unset, .unset, .unset, .unset, .unset] [(.int p5), (.int (0 : Int32)), (.ref b9)]) := fun t kt => K10 t (by
    show Steps p.tables e below (T9.setTop (mkF m 24 #[.val (.int p1), .val (.int p2), .val (.int p3), .val (.int p4), .val (.int p5), .val (.int (3 : Int32)), .val (.int v3), .val (.int v5), .val (.int v7), .unset, .unset, .unset, .unset, .unset, .unset, .unset] [(.ref b9)])) _
    refine XS.astore X9.here hx rfl (hb hby at_24) rfl rfl (l' := #[.val (.int p1), .val (.int p2), .val (.int p3), .val (.int p4), .val (.int p5), .val (.int (3 : Int32)), .val (.int v3), .val (.int v5), .val (.int v7), .val (.ref b9), .unset, .unset, .unset, .unset, .unset, .unset]) rfl ?_
    show Steps p.tables e below (T9.setTop (mkF m 26 #[.val (.int p1), .val (.int p2), .val (.int p3), .val (.int p4), .val (.int p5), .val (.int (3 : Int32)), .val (.int v3), .val (.int v5), .val (.int v7), .val (.ref b9), .unset, .unset, .unset, .unset, .unset, .unset] [])) _
    refine XS.aload X9.here hx rfl (hb hby at_26) rfl rfl ?_
    show Steps p.tables e below (T9.setTop (mkF m 28 #[.val (.int p1), .val (.int p2), .val (.int p3), .val (.int p4), .val (.int p5), .val (.int (3 : Int32)), .val (.int v3), .val (.int v5), .val (.int v7), .val (.ref b9), .unset, .unset, .unset, .unset, .unset, .unset] [(.ref b9)])) _
    refine XS.iconst X9.here hx rfl (hb hby at_28) ?_
    show Steps p.tables e below (T9.setTop (mkF m 29 #[.val (.int p1), .val (.int p2), .val (.int p3), .val (.int p4), .val (.int p5), .val (.int (3 : Int32)), .val (.int v3), .val (.int v5), .val (.int v7), .val (.ref b9), .unset, .unset, .unset, .unset, .unset, .unset] [(.int (0 : Int32)), (.ref b9)])) _
    refine XS.iload X9.here hx rfl (hb hby at_29) rfl ?_
    exact kt)
  obtain ⟨clq12, Arq12, ckq12, cSq12, cNq12, cHq12, cGq12⟩ := id V9
  obtain ⟨T13, h13, X13', e13, W13, st13⟩ := stI X9 hx hZ e9 Arq12 (j := (0 : Int32)) (inb_of cSq12 ⟨by decide, by decide⟩) (g := (mkF m 31 #[.val (.int p1), .val (.int p2), .val (.int p3), .val (.int p4), .val (.int p5), .val (.int (3 : Int32)), .val (.int v3), .val (.int v5), .val (.int v7), .val (.ref b9), .unset, .unset, .unset, .unset, .unset, .unset] [(.int p5), (.int (0 : Int32)), (.ref b9)])) rfl rfl (hb hby at_31)
  obtain ⟨lc13, X13, N13⟩ : ∃ lc, Stand p l e room_1 s m #[(.int p1), (.int p2), (.int p3), (.int p4), (.int p5)] below meth c T13 lc 1 8 ∧ Fr n0 lc := ⟨_, X13', Fr.snoc X13' N0 (Nat.le_trans Z0 (Nat.le_trans (Keep.refl h0 []).1 (Nat.le_of_eq g9.symm)))⟩
  have V13 : Arv Z h13 b9 k9 .int (8 : Int32) [(.int p5), (.int (0 : Int32)), (.int (0 : Int32)), (.int (0 : Int32)), (.int (0 : Int32)), (.int (0 : Int32)), (.int (0 : Int32)), (.int (0 : Int32))] (.int (0 : Int32)) := Arv.set Arq12 ckq12 cSq12 cNq12 cHq12 cGq12 rfl W13 0 rfl (Nat.le_of_ble_eq_true rfl)
  have K14 : Gx p e below s₁ f0 T13 (mkF m 32 #[.val (.int p1), .val (.int p2), .val (.int p3), .val (.int p4), .val (.int p5), .val (.int (3 : Int32)), .val (.int v3), .val (.int v5), .val (.int v7), .val (.ref b9), .unset, .unset, .unset, .unset, .unset, .unset] []) := fun t kt => K11 t (st13 t kt)
  have K15 : Gx p e below s₁ f0 T13 (mkF m 39 #[.val (.int p1), .val (.int p2), .val (.int p3), .val (.int p4), .val (.int p5), .val (.int (3 : Int32)), .val (.int v3), .val (.int v5), .val (.int v7), .val (.ref b9), .unset, .unset, .unset, .unset, .unset, .unset] [(.int (p5 + (1 : Int32))), (.int (1 : Int32)), (.ref b9)]) := fun t kt => K14 t (by
    show Steps p.tables e below (T13.setTop (mkF m 32 #[.val (.int p1), .val (.int p2), .val (.int p3), .val (.int p4), .val (.int p5), .val (.int (3 : Int32)), .val (.int v3), .val (.int v5), .val (.int v7), .val (.ref b9), .unset, .unset, .unset, .unset, .unset, .unset] [])) _
    refine XS.aload X13.here hx rfl (hb hby at_32) rfl rfl ?_
    show Steps p.tables e below (T13.setTop (mkF m 34 #[.val (.int p1), .val (.int p2), .val (.int p3), .val (.int p4), .val (.int p5), .val (.int (3 : Int32)), .val (.int v3), .val (.int v5), .val (.int v7), .val (.ref b9), .unset, .unset, .unset, .unset, .unset, .unset] [(.ref b9)])) _
    refine XS.iconst X13.here hx rfl (hb hby at_34) ?_
    show Steps p.tables e below (T13.setTop (mkF m 35 #[.val (.int p1), .val (.int p2), .val (.int p3), .val (.int p4), .val (.int p5), .val (.int (3 : Int32)), .val (.int v3), .val (.int v5), .val (.int v7), .val (.ref b9), .unset, .unset, .unset, .unset, .unset, .unset] [(.int (1 : Int32)), (.ref b9)])) _
    refine XS.iload X13.here hx rfl (hb hby at_35) rfl ?_
    show Steps p.tables e below (T13.setTop (mkF m 37 #[.val (.int p1), .val (.int p2), .val (.int p3), .val (.int p4), .val (.int p5), .val (.int (3 : Int32)), .val (.int v3), .val (.int v5), .val (.int v7), .val (.ref b9), .unset, .unset, .unset, .unset, .unset, .unset] [(.int p5), (.int (1 : Int32)), (.ref b9)])) _
    refine XS.iconst X13.here hx rfl (hb hby at_37) ?_
    show Steps p.tables e below (T13.setTop (mkF m 38 #[.val (.int p1), .val (.int p2), .val (.int p3), .val (.int p4), .val (.int p5), .val (.int (3 : Int32)), .val (.int v3), .val (.int v5), .val (.int v7), .val (.ref b9), .unset, .unset, .unset, .unset, .unset, .unset] [(.int (1 : Int32)), (.int p5), (.int (1 : Int32)), (.ref b9)])) _
    refine XS.iadd X13.here hx rfl (hb hby at_38) rfl ?_
    exact kt)
  obtain ⟨clq16, Arq16, ckq16, cSq16, cNq16, cHq16, cGq16⟩ := id V13
  obtain ⟨T17, h17, X17', e17, W17, st17⟩ := stI X13 hx hZ e13 Arq16 (j := (1 : Int32)) (inb_of cSq16 ⟨by decide, by decide⟩) (g := (mkF m 39 #[.val (.int p1), .val (.int p2), .val (.int p3), .val (.int p4), .val (.int p5), .val (.int (3 : Int32)), .val (.int v3), .val (.int v5), .val (.int v7), .val (.ref b9), .unset, .unset, .unset, .unset, .unset, .unset] [(.int (p5 + (1 : Int32))), (.int (1 : Int32)), (.ref b9)])) rfl rfl (hb hby at_39)
  obtain ⟨lc17, X17, N17⟩ : ∃ lc, Stand p l e room_1 s m #[(.int p1), (.int p2), (.int p3), (.int p4), (.int p5)] below meth c T17 lc 1 8 ∧ Fr n0 lc := ⟨_, X17', Fr.snoc X17' N13 (Nat.le_trans Z0 (Nat.le_trans (Keep.refl h0 []).1 (Nat.le_of_eq g9.symm)))⟩
  have V17 : Arv Z h17 b9 k9 .int (8 : Int32) [(.int p5), (.int (p5 + (1 : Int32))), (.int (0 : Int32)), (.int (0 : Int32)), (.int (0 : Int32)), (.int (0 : Int32)), (.int (0 : Int32)), (.int (0 : Int32))] (.int (0 : Int32)) := Arv.set Arq16 ckq16 cSq16 cNq16 cHq16 cGq16 rfl W17 1 rfl (Nat.le_of_ble_eq_true rfl)
  have K18 : Gx p e below s₁ f0 T17 (mkF m 40 #[.val (.int p1), .val (.int p2), .val (.int p3), .val (.int p4), .val (.int p5), .val (.int (3 : Int32)), .val (.int v3), .val (.int v5), .val (.int v7), .val (.ref b9), .unset, .unset, .unset, .unset, .unset, .unset] []) := fun t kt => K15 t (st17 t kt)
  have K19 : Gx p e below s₁ f0 T17 (mkF m 47 #[.val (.int p1), .val (.int p2), .val (.int p3), .val (.int p4), .val (.int p5), .val (.int (3 : Int32)), .val (.int v3), .val (.int v5), .val (.int v7), .val (.ref b9), .unset, .unset, .unset, .unset, .unset, .unset] [(.int (p5 + (2 : Int32))), (.int (2 : Int32)), (.ref b9)]) := fun t kt => K18 t (by
    show Steps p.tables e below (T17.setTop (mkF m 40 #[.val (.int p1), .val (.int p2), .val (.int p3), .val (.int p4), .val (.int p5), .val (.int (3 : Int32)), .val (.int v3), .val (.int v5), .val (.int v7), .val (.ref b9), .unset, .unset, .unset, .unset, .unset, .unset] [])) _
    refine XS.aload X17.here hx rfl (hb hby at_40) rfl rfl ?_
    show Steps p.tables e below (T17.setTop (mkF m 42 #[.val (.int p1), .val (.int p2), .val (.int p3), .val (.int p4), .val (.int p5), .val (.int (3 : Int32)), .val (.int v3), .val (.int v5), .val (.int v7), .val (.ref b9), .unset, .unset, .unset, .unset, .unset, .unset] [(.ref b9)])) _
    refine XS.iconst X17.here hx rfl (hb hby at_42) ?_
    show Steps p.tables e below (T17.setTop (mkF m 43 #[.val (.int p1), .val (.int p2), .val (.int p3), .val (.int p4), .val (.int p5), .val (.int (3 : Int32)), .val (.int v3), .val (.int v5), .val (.int v7), .val (.ref b9), .unset, .unset, .unset, .unset, .unset, .unset] [(.int (2 : Int32)), (.ref b9)])) _
    refine XS.iload X17.here hx rfl (hb hby at_43) rfl ?_
    show Steps p.tables e below (T17.setTop (mkF m 45 #[.val (.int p1), .val (.int p2), .val (.int p3), .val (.int p4), .val (.int p5), .val (.int (3 : Int32)), .val (.int v3), .val (.int v5), .val (.int v7), .val (.ref b9), .unset, .unset, .unset, .unset, .unset, .unset] [(.int p5), (.int (2 : Int32)), (.ref b9)])) _
    refine XS.iconst X17.here hx rfl (hb hby at_45) ?_
    show Steps p.tables e below (T17.setTop (mkF m 46 #[.val (.int p1), .val (.int p2), .val (.int p3), .val (.int p4), .val (.int p5), .val (.int (3 : Int32)), .val (.int v3), .val (.int v5), .val (.int v7), .val (.ref b9), .unset, .unset, .unset, .unset, .unset, .unset] [(.int (2 : Int32)), (.int p5), (.int (2 : Int32)), (.ref b9)])) _
    refine XS.iadd X17.here hx rfl (hb hby at_46) rfl ?_
    exact kt)
  obtain ⟨clq20, Arq20, ckq20, cSq20, cNq20, cHq20, cGq20⟩ := id V17
  obtain ⟨T21, h21, X21', e21, W21, st21⟩ := stI X17 hx hZ e17 Arq20 (j := (2 : Int32)) (inb_of cSq20 ⟨by decide, by decide⟩) (g := (mkF m 47 #[.val (.int p1), .val (.int p2), .val (.int p3), .val (.int p4), .val (.int p5), .val (.int (3 : Int32)), .val (.int v3), .val (.int v5), .val (.int v7), .val (.ref b9), .unset, .unset, .unset, .unset, .unset, .unset] [(.int (p5 + (2 : Int32))), (.int (2 : Int32)), (.ref b9)])) rfl rfl (hb hby at_47)
  obtain ⟨lc21, X21, N21⟩ : ∃ lc, Stand p l e room_1 s m #[(.int p1), (.int p2), (.int p3), (.int p4), (.int p5)] below meth c T21 lc 1 8 ∧ Fr n0 lc := ⟨_, X21', Fr.snoc X21' N17 (Nat.le_trans Z0 (Nat.le_trans (Keep.refl h0 []).1 (Nat.le_of_eq g9.symm)))⟩
  have V21 : Arv Z h21 b9 k9 .int (8 : Int32) [(.int p5), (.int (p5 + (1 : Int32))), (.int (p5 + (2 : Int32))), (.int (0 : Int32)), (.int (0 : Int32)), (.int (0 : Int32)), (.int (0 : Int32)), (.int (0 : Int32))] (.int (0 : Int32)) := Arv.set Arq20 ckq20 cSq20 cNq20 cHq20 cGq20 rfl W21 2 rfl (Nat.le_of_ble_eq_true rfl)
  have K22 : Gx p e below s₁ f0 T21 (mkF m 48 #[.val (.int p1), .val (.int p2), .val (.int p3), .val (.int p4), .val (.int p5), .val (.int (3 : Int32)), .val (.int v3), .val (.int v5), .val (.int v7), .val (.ref b9), .unset, .unset, .unset, .unset, .unset, .unset] []) := fun t kt => K19 t (st21 t kt)
  have K23 : Gx p e below s₁ f0 T21 (mkF m 55 #[.val (.int p1), .val (.int p2), .val (.int p3), .val (.int p4), .val (.int p5), .val (.int (3 : Int32)), .val (.int v3), .val (.int v5), .val (.int v7), .val (.ref b9), .unset, .unset, .unset, .unset, .unset, .unset] [(.int (p5 + (3 : Int32))), (.int (3 : Int32)), (.ref b9)]) := fun t kt => K22 t (by
    show Steps p.tables e below (T21.setTop (mkF m 48 #[.val (.int p1), .val (.int p2), .val (.int p3), .val (.int p4), .val (.int p5), .val (.int (3 : Int32)), .val (.int v3), .val (.int v5), .val (.int v7), .val (.ref b9), .unset, .unset, .unset, .unset, .unset, .unset] [])) _
    refine XS.aload X21.here hx rfl (hb hby at_48) rfl rfl ?_
    show Steps p.tables e below (T21.setTop (mkF m 50 #[.val (.int p1), .val (.int p2), .val (.int p3), .val (.int p4), .val (.int p5), .val (.int (3 : Int32)), .val (.int v3), .val (.int v5), .val (.int v7), .val (.ref b9), .unset, .unset, .unset, .unset, .unset, .unset] [(.ref b9)])) _
    refine XS.iconst X21.here hx rfl (hb hby at_50) ?_
    show Steps p.tables e below (T21.setTop (mkF m 51 #[.val (.int p1), .val (.int p2), .val (.int p3), .val (.int p4), .val (.int p5), .val (.int (3 : Int32)), .val (.int v3), .val (.int v5), .val (.int v7), .val (.ref b9), .unset, .unset, .unset, .unset, .unset, .unset] [(.int (3 : Int32)), (.ref b9)])) _
    refine XS.iload X21.here hx rfl (hb hby at_51) rfl ?_
    show Steps p.tables e below (T21.setTop (mkF m 53 #[.val (.int p1), .val (.int p2), .val (.int p3), .val (.int p4), .val (.int p5), .val (.int (3 : Int32)), .val (.int v3), .val (.int v5), .val (.int v7), .val (.ref b9), .unset, .unset, .unset, .unset, .unset, .unset] [(.int p5), (.int (3 : Int32)), (.ref b9)])) _
    refine XS.iconst X21.here hx rfl (hb hby at_53) ?_
    show Steps p.tables e below (T21.setTop (mkF m 54 #[.val (.int p1), .val (.int p2), .val (.int p3), .val (.int p4), .val (.int p5), .val (.int (3 : Int32)), .val (.int v3), .val (.int v5), .val (.int v7), .val (.ref b9), .unset, .unset, .unset, .unset, .unset, .unset] [(.int (3 : Int32)), (.int p5), (.int (3 : Int32)), (.ref b9)])) _
    refine XS.iadd X21.here hx rfl (hb hby at_54) rfl ?_
    exact kt)
  obtain ⟨clq24, Arq24, ckq24, cSq24, cNq24, cHq24, cGq24⟩ := id V21
  obtain ⟨T25, h25, X25', e25, W25, st25⟩ := stI X21 hx hZ e21 Arq24 (j := (3 : Int32)) (inb_of cSq24 ⟨by decide, by decide⟩) (g := (mkF m 55 #[.val (.int p1), .val (.int p2), .val (.int p3), .val (.int p4), .val (.int p5), .val (.int (3 : Int32)), .val (.int v3), .val (.int v5), .val (.int v7), .val (.ref b9), .unset, .unset, .unset, .unset, .unset, .unset] [(.int (p5 + (3 : Int32))), (.int (3 : Int32)), (.ref b9)])) rfl rfl (hb hby at_55)
  obtain ⟨lc25, X25, N25⟩ : ∃ lc, Stand p l e room_1 s m #[(.int p1), (.int p2), (.int p3), (.int p4), (.int p5)] below meth c T25 lc 1 8 ∧ Fr n0 lc := ⟨_, X25', Fr.snoc X25' N21 (Nat.le_trans Z0 (Nat.le_trans (Keep.refl h0 []).1 (Nat.le_of_eq g9.symm)))⟩
  have V25 : Arv Z h25 b9 k9 .int (8 : Int32) [(.int p5), (.int (p5 + (1 : Int32))), (.int (p5 + (2 : Int32))), (.int (p5 + (3 : Int32))), (.int (0 : Int32)), (.int (0 : Int32)), (.int (0 : Int32)), (.int (0 : Int32))] (.int (0 : Int32)) := Arv.set Arq24 ckq24 cSq24 cNq24 cHq24 cGq24 rfl W25 3 rfl (Nat.le_of_ble_eq_true rfl)
  have K26 : Gx p e below s₁ f0 T25 (mkF m 56 #[.val (.int p1), .val (.int p2), .val (.int p3), .val (.int p4), .val (.int p5), .val (.int (3 : Int32)), .val (.int v3), .val (.int v5), .val (.int v7), .val (.ref b9), .unset, .unset, .unset, .unset, .unset, .unset] []) := fun t kt => K23 t (st25 t kt)
  have K27 : Gx p e below s₁ f0 T25 (mkF m 63 #[.val (.int p1), .val (.int p2), .val (.int p3), .val (.int p4), .val (.int p5), .val (.int (3 : Int32)), .val (.int v3), .val (.int v5), .val (.int v7), .val (.ref b9), .unset, .unset, .unset, .unset, .unset, .unset] [(.int (p5 + (4 : Int32))), (.int (4 : Int32)), (.ref b9)]) := fun t kt => K26 t (by
    show Steps p.tables e below (T25.setTop (mkF m 56 #[.val (.int p1), .val (.int p2), .val (.int p3), .val (.int p4), .val (.int p5), .val (.int (3 : Int32)), .val (.int v3), .val (.int v5), .val (.int v7), .val (.ref b9), .unset, .unset, .unset, .unset, .unset, .unset] [])) _
    refine XS.aload X25.here hx rfl (hb hby at_56) rfl rfl ?_
    show Steps p.tables e below (T25.setTop (mkF m 58 #[.val (.int p1), .val (.int p2), .val (.int p3), .val (.int p4), .val (.int p5), .val (.int (3 : Int32)), .val (.int v3), .val (.int v5), .val (.int v7), .val (.ref b9), .unset, .unset, .unset, .unset, .unset, .unset] [(.ref b9)])) _
    refine XS.iconst X25.here hx rfl (hb hby at_58) ?_
    show Steps p.tables e below (T25.setTop (mkF m 59 #[.val (.int p1), .val (.int p2), .val (.int p3), .val (.int p4), .val (.int p5), .val (.int (3 : Int32)), .val (.int v3), .val (.int v5), .val (.int v7), .val (.ref b9), .unset, .unset, .unset, .unset, .unset, .unset] [(.int (4 : Int32)), (.ref b9)])) _
    refine XS.iload X25.here hx rfl (hb hby at_59) rfl ?_
    show Steps p.tables e below (T25.setTop (mkF m 61 #[.val (.int p1), .val (.int p2), .val (.int p3), .val (.int p4), .val (.int p5), .val (.int (3 : Int32)), .val (.int v3), .val (.int v5), .val (.int v7), .val (.ref b9), .unset, .unset, .unset, .unset, .unset, .unset] [(.int p5), (.int (4 : Int32)), (.ref b9)])) _
    refine XS.iconst X25.here hx rfl (hb hby at_61) ?_
    show Steps p.tables e below (T25.setTop (mkF m 62 #[.val (.int p1), .val (.int p2), .val (.int p3), .val (.int p4), .val (.int p5), .val (.int (3 : Int32)), .val (.int v3), .val (.int v5), .val (.int v7), .val (.ref b9), .unset, .unset, .unset, .unset, .unset, .unset] [(.int (4 : Int32)), (.int p5), (.int (4 : Int32)), (.ref b9)])) _
    refine XS.iadd X25.here hx rfl (hb hby at_62) rfl ?_
    exact kt)
  obtain ⟨clq28, Arq28, ckq28, cSq28, cNq28, cHq28, cGq28⟩ := id V25
  obtain ⟨T29, h29, X29', e29, W29, st29⟩ := stI X25 hx hZ e25 Arq28 (j := (4 : Int32)) (inb_of cSq28 ⟨by decide, by decide⟩) (g := (mkF m 63 #[.val (.int p1), .val (.int p2), .val (.int p3), .val (.int p4), .val (.int p5), .val (.int (3 : Int32)), .val (.int v3), .val (.int v5), .val (.int v7), .val (.ref b9), .unset, .unset, .unset, .unset, .unset, .unset] [(.int (p5 + (4 : Int32))), (.int (4 : Int32)), (.ref b9)])) rfl rfl (hb hby at_63)
  obtain ⟨lc29, X29, N29⟩ : ∃ lc, Stand p l e room_1 s m #[(.int p1), (.int p2), (.int p3), (.int p4), (.int p5)] below meth c T29 lc 1 8 ∧ Fr n0 lc := ⟨_, X29', Fr.snoc X29' N25 (Nat.le_trans Z0 (Nat.le_trans (Keep.refl h0 []).1 (Nat.le_of_eq g9.symm)))⟩
  have V29 : Arv Z h29 b9 k9 .int (8 : Int32) [(.int p5), (.int (p5 + (1 : Int32))), (.int (p5 + (2 : Int32))), (.int (p5 + (3 : Int32))), (.int (p5 + (4 : Int32))), (.int (0 : Int32)), (.int (0 : Int32)), (.int (0 : Int32))] (.int (0 : Int32)) := Arv.set Arq28 ckq28 cSq28 cNq28 cHq28 cGq28 rfl W29 4 rfl (Nat.le_of_ble_eq_true rfl)
  have K30 : Gx p e below s₁ f0 T29 (mkF m 64 #[.val (.int p1), .val (.int p2), .val (.int p3), .val (.int p4), .val (.int p5), .val (.int (3 : Int32)), .val (.int v3), .val (.int v5), .val (.int v7), .val (.ref b9), .unset, .unset, .unset, .unset, .unset, .unset] []) := fun t kt => K27 t (st29 t kt)
  have K31 : Gx p e below s₁ f0 T29 (mkF m 71 #[.val (.int p1), .val (.int p2), .val (.int p3), .val (.int p4), .val (.int p5), .val (.int (3 : Int32)), .val (.int v3), .val (.int v5), .val (.int v7), .val (.ref b9), .unset, .unset, .unset, .unset, .unset, .unset] [(.int (p5 + (5 : Int32))), (.int (5 : Int32)), (.ref b9)]) := fun t kt => K30 t (by
    show Steps p.tables e below (T29.setTop (mkF m 64 #[.val (.int p1), .val (.int p2), .val (.int p3), .val (.int p4), .val (.int p5), .val (.int (3 : Int32)), .val (.int v3), .val (.int v5), .val (.int v7), .val (.ref b9), .unset, .unset, .unset, .unset, .unset, .unset] [])) _
    refine XS.aload X29.here hx rfl (hb hby at_64) rfl rfl ?_
    show Steps p.tables e below (T29.setTop (mkF m 66 #[.val (.int p1), .val (.int p2), .val (.int p3), .val (.int p4), .val (.int p5), .val (.int (3 : Int32)), .val (.int v3), .val (.int v5), .val (.int v7), .val (.ref b9), .unset, .unset, .unset, .unset, .unset, .unset] [(.ref b9)])) _
    refine XS.iconst X29.here hx rfl (hb hby at_66) ?_
    show Steps p.tables e below (T29.setTop (mkF m 67 #[.val (.int p1), .val (.int p2), .val (.int p3), .val (.int p4), .val (.int p5), .val (.int (3 : Int32)), .val (.int v3), .val (.int v5), .val (.int v7), .val (.ref b9), .unset, .unset, .unset, .unset, .unset, .unset] [(.int (5 : Int32)), (.ref b9)])) _
    refine XS.iload X29.here hx rfl (hb hby at_67) rfl ?_
    show Steps p.tables e below (T29.setTop (mkF m 69 #[.val (.int p1), .val (.int p2), .val (.int p3), .val (.int p4), .val (.int p5), .val (.int (3 : Int32)), .val (.int v3), .val (.int v5), .val (.int v7), .val (.ref b9), .unset, .unset, .unset, .unset, .unset, .unset] [(.int p5), (.int (5 : Int32)), (.ref b9)])) _
    refine XS.iconst X29.here hx rfl (hb hby at_69) ?_
    show Steps p.tables e below (T29.setTop (mkF m 70 #[.val (.int p1), .val (.int p2), .val (.int p3), .val (.int p4), .val (.int p5), .val (.int (3 : Int32)), .val (.int v3), .val (.int v5), .val (.int v7), .val (.ref b9), .unset, .unset, .unset, .unset, .unset, .unset] [(.int (5 : Int32)), (.int p5), (.int (5 : Int32)), (.ref b9)])) _
    refine XS.iadd X29.here hx rfl (hb hby at_70) rfl ?_
    exact kt)
  obtain ⟨clq32, Arq32, ckq32, cSq32, cNq32, cHq32, cGq32⟩ := id V29
  obtain ⟨T33, h33, X33', e33, W33, st33⟩ := stI X29 hx hZ e29 Arq32 (j := (5 : Int32)) (inb_of cSq32 ⟨by decide, by decide⟩) (g := (mkF m 71 #[.val (.int p1), .val (.int p2), .val (.int p3), .val (.int p4), .val (.int p5), .val (.int (3 : Int32)), .val (.int v3), .val (.int v5), .val (.int v7), .val (.ref b9), .unset, .unset, .unset, .unset, .unset, .unset] [(.int (p5 + (5 : Int32))), (.int (5 : Int32)), (.ref b9)])) rfl rfl (hb hby at_71)
  obtain ⟨lc33, X33, N33⟩ : ∃ lc, Stand p l e room_1 s m #[(.int p1), (.int p2), (.int p3), (.int p4), (.int p5)] below meth c T33 lc 1 8 ∧ Fr n0 lc := ⟨_, X33', Fr.snoc X33' N29 (Nat.le_trans Z0 (Nat.le_trans (Keep.refl h0 []).1 (Nat.le_of_eq g9.symm)))⟩
  have V33 : Arv Z h33 b9 k9 .int (8 : Int32) [(.int p5), (.int (p5 + (1 : Int32))), (.int (p5 + (2 : Int32))), (.int (p5 + (3 : Int32))), (.int (p5 + (4 : Int32))), (.int (p5 + (5 : Int32))), (.int (0 : Int32)), (.int (0 : Int32))] (.int (0 : Int32)) := Arv.set Arq32 ckq32 cSq32 cNq32 cHq32 cGq32 rfl W33 5 rfl (Nat.le_of_ble_eq_true rfl)
  have K34 : Gx p e below s₁ f0 T33 (mkF m 72 #[.val (.int p1), .val (.int p2), .val (.int p3), .val (.int p4), .val (.int p5), .val (.int (3 : Int32)), .val (.int v3), .val (.int v5), .val (.int v7), .val (.ref b9), .unset, .unset, .unset, .unset, .unset, .unset] []) := fun t kt => K31 t (st33 t kt)
  have K35 : Gx p e below s₁ f0 T33 (mkF m 81 #[.val (.int p1), .val (.int p2), .val (.int p3), .val (.int p4), .val (.int p5), .val (.int (3 : Int32)), .val (.int v3), .val (.int v5), .val (.int v7), .val (.ref b9), .unset, .unset, .unset, .unset, .unset, .unset] [(.int (p5 + (6 : Int32))), (.int (6 : Int32)), (.ref b9)]) := fun t kt => K34 t (by
    show Steps p.tables e below (T33.setTop (mkF m 72 #[.val (.int p1), .val (.int p2), .val (.int p3), .val (.int p4), .val (.int p5), .val (.int (3 : Int32)), .val (.int v3), .val (.int v5), .val (.int v7), .val (.ref b9), .unset, .unset, .unset, .unset, .unset, .unset] [])) _
    refine XS.aload X33.here hx rfl (hb hby at_72) rfl rfl ?_
    show Steps p.tables e below (T33.setTop (mkF m 74 #[.val (.int p1), .val (.int p2), .val (.int p3), .val (.int p4), .val (.int p5), .val (.int (3 : Int32)), .val (.int v3), .val (.int v5), .val (.int v7), .val (.ref b9), .unset, .unset, .unset, .unset, .unset, .unset] [(.ref b9)])) _
    refine XS.bipush X33.here hx rfl (hb hby at_74) ?_
    show Steps p.tables e below (T33.setTop (mkF m 76 #[.val (.int p1), .val (.int p2), .val (.int p3), .val (.int p4), .val (.int p5), .val (.int (3 : Int32)), .val (.int v3), .val (.int v5), .val (.int v7), .val (.ref b9), .unset, .unset, .unset, .unset, .unset, .unset] [(.int (6 : Int32)), (.ref b9)])) _
    refine XS.iload X33.here hx rfl (hb hby at_76) rfl ?_
    show Steps p.tables e below (T33.setTop (mkF m 78 #[.val (.int p1), .val (.int p2), .val (.int p3), .val (.int p4), .val (.int p5), .val (.int (3 : Int32)), .val (.int v3), .val (.int v5), .val (.int v7), .val (.ref b9), .unset, .unset, .unset, .unset, .unset, .unset] [(.int p5), (.int (6 : Int32)), (.ref b9)])) _
    refine XS.bipush X33.here hx rfl (hb hby at_78) ?_
    show Steps p.tables e below (T33.setTop (mkF m 80 #[.val (.int p1), .val (.int p2), .val (.int p3), .val (.int p4), .val (.int p5), .val (.int (3 : Int32)), .val (.int v3), .val (.int v5), .val (.int v7), .val (.ref b9), .unset, .unset, .unset, .unset, .unset, .unset] [(.int (6 : Int32)), (.int p5), (.int (6 : Int32)), (.ref b9)])) _
    refine XS.iadd X33.here hx rfl (hb hby at_80) rfl ?_
    exact kt)
  obtain ⟨clq36, Arq36, ckq36, cSq36, cNq36, cHq36, cGq36⟩ := id V33
  obtain ⟨T37, h37, X37', e37, W37, st37⟩ := stI X33 hx hZ e33 Arq36 (j := (6 : Int32)) (inb_of cSq36 ⟨by decide, by decide⟩) (g := (mkF m 81 #[.val (.int p1), .val (.int p2), .val (.int p3), .val (.int p4), .val (.int p5), .val (.int (3 : Int32)), .val (.int v3), .val (.int v5), .val (.int v7), .val (.ref b9), .unset, .unset, .unset, .unset, .unset, .unset] [(.int (p5 + (6 : Int32))), (.int (6 : Int32)), (.ref b9)])) rfl rfl (hb hby at_81)
  obtain ⟨lc37, X37, N37⟩ : ∃ lc, Stand p l e room_1 s m #[(.int p1), (.int p2), (.int p3), (.int p4), (.int p5)] below meth c T37 lc 1 8 ∧ Fr n0 lc := ⟨_, X37', Fr.snoc X37' N33 (Nat.le_trans Z0 (Nat.le_trans (Keep.refl h0 []).1 (Nat.le_of_eq g9.symm)))⟩
  have V37 : Arv Z h37 b9 k9 .int (8 : Int32) [(.int p5), (.int (p5 + (1 : Int32))), (.int (p5 + (2 : Int32))), (.int (p5 + (3 : Int32))), (.int (p5 + (4 : Int32))), (.int (p5 + (5 : Int32))), (.int (p5 + (6 : Int32))), (.int (0 : Int32))] (.int (0 : Int32)) := Arv.set Arq36 ckq36 cSq36 cNq36 cHq36 cGq36 rfl W37 6 rfl (Nat.le_of_ble_eq_true rfl)
  have K38 : Gx p e below s₁ f0 T37 (mkF m 82 #[.val (.int p1), .val (.int p2), .val (.int p3), .val (.int p4), .val (.int p5), .val (.int (3 : Int32)), .val (.int v3), .val (.int v5), .val (.int v7), .val (.ref b9), .unset, .unset, .unset, .unset, .unset, .unset] []) := fun t kt => K35 t (st37 t kt)
  have K39 : Gx p e below s₁ f0 T37 (mkF m 91 #[.val (.int p1), .val (.int p2), .val (.int p3), .val (.int p4), .val (.int p5), .val (.int (3 : Int32)), .val (.int v3), .val (.int v5), .val (.int v7), .val (.ref b9), .unset, .unset, .unset, .unset, .unset, .unset] [(.int (p5 + (7 : Int32))), (.int (7 : Int32)), (.ref b9)]) := fun t kt => K38 t (by
    show Steps p.tables e below (T37.setTop (mkF m 82 #[.val (.int p1), .val (.int p2), .val (.int p3), .val (.int p4), .val (.int p5), .val (.int (3 : Int32)), .val (.int v3), .val (.int v5), .val (.int v7), .val (.ref b9), .unset, .unset, .unset, .unset, .unset, .unset] [])) _
    refine XS.aload X37.here hx rfl (hb hby at_82) rfl rfl ?_
    show Steps p.tables e below (T37.setTop (mkF m 84 #[.val (.int p1), .val (.int p2), .val (.int p3), .val (.int p4), .val (.int p5), .val (.int (3 : Int32)), .val (.int v3), .val (.int v5), .val (.int v7), .val (.ref b9), .unset, .unset, .unset, .unset, .unset, .unset] [(.ref b9)])) _
    refine XS.bipush X37.here hx rfl (hb hby at_84) ?_
    show Steps p.tables e below (T37.setTop (mkF m 86 #[.val (.int p1), .val (.int p2), .val (.int p3), .val (.int p4), .val (.int p5), .val (.int (3 : Int32)), .val (.int v3), .val (.int v5), .val (.int v7), .val (.ref b9), .unset, .unset, .unset, .unset, .unset, .unset] [(.int (7 : Int32)), (.ref b9)])) _
    refine XS.iload X37.here hx rfl (hb hby at_86) rfl ?_
    show Steps p.tables e below (T37.setTop (mkF m 88 #[.val (.int p1), .val (.int p2), .val (.int p3), .val (.int p4), .val (.int p5), .val (.int (3 : Int32)), .val (.int v3), .val (.int v5), .val (.int v7), .val (.ref b9), .unset, .unset, .unset, .unset, .unset, .unset] [(.int p5), (.int (7 : Int32)), (.ref b9)])) _
    refine XS.bipush X37.here hx rfl (hb hby at_88) ?_
    show Steps p.tables e below (T37.setTop (mkF m 90 #[.val (.int p1), .val (.int p2), .val (.int p3), .val (.int p4), .val (.int p5), .val (.int (3 : Int32)), .val (.int v3), .val (.int v5), .val (.int v7), .val (.ref b9), .unset, .unset, .unset, .unset, .unset, .unset] [(.int (7 : Int32)), (.int p5), (.int (7 : Int32)), (.ref b9)])) _
    refine XS.iadd X37.here hx rfl (hb hby at_90) rfl ?_
    exact kt)
  obtain ⟨clq40, Arq40, ckq40, cSq40, cNq40, cHq40, cGq40⟩ := id V37
  obtain ⟨T41, h41, X41', e41, W41, st41⟩ := stI X37 hx hZ e37 Arq40 (j := (7 : Int32)) (inb_of cSq40 ⟨by decide, by decide⟩) (g := (mkF m 91 #[.val (.int p1), .val (.int p2), .val (.int p3), .val (.int p4), .val (.int p5), .val (.int (3 : Int32)), .val (.int v3), .val (.int v5), .val (.int v7), .val (.ref b9), .unset, .unset, .unset, .unset, .unset, .unset] [(.int (p5 + (7 : Int32))), (.int (7 : Int32)), (.ref b9)])) rfl rfl (hb hby at_91)
  obtain ⟨lc41, X41, N41⟩ : ∃ lc, Stand p l e room_1 s m #[(.int p1), (.int p2), (.int p3), (.int p4), (.int p5)] below meth c T41 lc 1 8 ∧ Fr n0 lc := ⟨_, X41', Fr.snoc X41' N37 (Nat.le_trans Z0 (Nat.le_trans (Keep.refl h0 []).1 (Nat.le_of_eq g9.symm)))⟩
  have V41 : Arv Z h41 b9 k9 .int (8 : Int32) [(.int p5), (.int (p5 + (1 : Int32))), (.int (p5 + (2 : Int32))), (.int (p5 + (3 : Int32))), (.int (p5 + (4 : Int32))), (.int (p5 + (5 : Int32))), (.int (p5 + (6 : Int32))), (.int (p5 + (7 : Int32)))] (.int (0 : Int32)) := Arv.set Arq40 ckq40 cSq40 cNq40 cHq40 cGq40 rfl W41 7 rfl (Nat.le_of_ble_eq_true rfl)
  have K42 : Gx p e below s₁ f0 T41 (mkF m 92 #[.val (.int p1), .val (.int p2), .val (.int p3), .val (.int p4), .val (.int p5), .val (.int (3 : Int32)), .val (.int v3), .val (.int v5), .val (.int v7), .val (.ref b9), .unset, .unset, .unset, .unset, .unset, .unset] []) := fun t kt => K39 t (st41 t kt)
  obtain ⟨T43, h43, X43, e43, E43, A43, D43, -, st43⟩ := newO X41 hx hZ hown (hw _ (List.mem_of_getElem? (i := 1) rfl)) (hw _ (List.mem_of_getElem? (i := 2) rfl)) (hw _ (List.mem_of_getElem? (i := 3) rfl)) e41 (g := (mkF m 92 #[.val (.int p1), .val (.int p2), .val (.int p3), .val (.int p4), .val (.int p5), .val (.int (3 : Int32)), .val (.int v3), .val (.int v5), .val (.int v7), .val (.ref b9), .unset, .unset, .unset, .unset, .unset, .unset] [])) rfl (hb hby at_92) (by decide) (by decide)
  obtain ⟨b43, g43⟩ : ∃ z, z = h41.size := ⟨_, rfl⟩
  rw [← g43] at A43 D43 st43
  have f44 : Fld Z h43 b43 "lastcolumn/stage/Probabilities" "states" "[I" .null := D43 (Or.inr (hw _ (List.mem_of_getElem? (i := 11) rfl))) (ty := (.array .int)) (by decide)
  have f45 : Fld Z h43 b43 "lastcolumn/stage/Probabilities" "at" "I" (.int (0 : Int32)) := D43 (Or.inr (hw _ (List.mem_of_getElem? (i := 13) rfl))) (ty := .int) (by decide)
  have K46 : Gx p e below s₁ f0 T43 (mkF m 95 #[.val (.int p1), .val (.int p2), .val (.int p3), .val (.int p4), .val (.int p5), .val (.int (3 : Int32)), .val (.int v3), .val (.int v5), .val (.int v7), .val (.ref b9), .unset, .unset, .unset, .unset, .unset, .unset] [(.ref b43)]) := fun t kt => K42 t (st43 t kt)
  have K47 : Gx p e below s₁ f0 T43 (mkF m 101 #[.val (.int p1), .val (.int p2), .val (.int p3), .val (.int p4), .val (.int p5), .val (.int (3 : Int32)), .val (.int v3), .val (.int v5), .val (.int v7), .val (.ref b9), .unset, .unset, .unset, .unset, .unset, .unset] [(.int (4 : Int32)), (.int (3 : Int32)), (.ref b9), (.ref b43), (.ref b43)]) := fun t kt => K46 t (by
    show Steps p.tables e below (T43.setTop (mkF m 95 #[.val (.int p1), .val (.int p2), .val (.int p3), .val (.int p4), .val (.int p5), .val (.int (3 : Int32)), .val (.int v3), .val (.int v5), .val (.int v7), .val (.ref b9), .unset, .unset, .unset, .unset, .unset, .unset] [(.ref b43)])) _
    refine XS.dup X43.here hx rfl (hb hby at_95) rfl rfl ?_
    show Steps p.tables e below (T43.setTop (mkF m 96 #[.val (.int p1), .val (.int p2), .val (.int p3), .val (.int p4), .val (.int p5), .val (.int (3 : Int32)), .val (.int v3), .val (.int v5), .val (.int v7), .val (.ref b9), .unset, .unset, .unset, .unset, .unset, .unset] [(.ref b43), (.ref b43)])) _
    refine XS.aload X43.here hx rfl (hb hby at_96) rfl rfl ?_
    show Steps p.tables e below (T43.setTop (mkF m 98 #[.val (.int p1), .val (.int p2), .val (.int p3), .val (.int p4), .val (.int p5), .val (.int (3 : Int32)), .val (.int v3), .val (.int v5), .val (.int v7), .val (.ref b9), .unset, .unset, .unset, .unset, .unset, .unset] [(.ref b9), (.ref b43), (.ref b43)])) _
    refine XS.iload X43.here hx rfl (hb hby at_98) rfl ?_
    show Steps p.tables e below (T43.setTop (mkF m 100 #[.val (.int p1), .val (.int p2), .val (.int p3), .val (.int p4), .val (.int p5), .val (.int (3 : Int32)), .val (.int v3), .val (.int v5), .val (.int v7), .val (.ref b9), .unset, .unset, .unset, .unset, .unset, .unset] [(.int (3 : Int32)), (.ref b9), (.ref b43), (.ref b43)])) _
    refine XS.iconst X43.here hx rfl (hb hby at_100) ?_
    exact kt)
  have f48 : Arv Z h43 b9 k9 .int (8 : Int32) [(.int p5), (.int (p5 + (1 : Int32))), (.int (p5 + (2 : Int32))), (.int (p5 + (3 : Int32))), (.int (p5 + (4 : Int32))), (.int (p5 + (5 : Int32))), (.int (p5 + (6 : Int32))), (.int (p5 + (7 : Int32)))] (.int (0 : Int32)) := (V41.ext E43)
  have kp49 : Keep h0 h43 [] := (((((((((((Keep.refl h0 []).ext E9).wr W13 (Or.inr (Nat.le_trans (Keep.refl h0 []).1 (Nat.le_of_eq g9.symm)))).wr W17 (Or.inr (Nat.le_trans (Keep.refl h0 []).1 (Nat.le_of_eq g9.symm)))).wr W21 (Or.inr (Nat.le_trans (Keep.refl h0 []).1 (Nat.le_of_eq g9.symm)))).wr W25 (Or.inr (Nat.le_trans (Keep.refl h0 []).1 (Nat.le_of_eq g9.symm)))).wr W29 (Or.inr (Nat.le_trans (Keep.refl h0 []).1 (Nat.le_of_eq g9.symm)))).wr W33 (Or.inr (Nat.le_trans (Keep.refl h0 []).1 (Nat.le_of_eq g9.symm)))).wr W37 (Or.inr (Nat.le_trans (Keep.refl h0 []).1 (Nat.le_of_eq g9.symm)))).wr W41 (Or.inr (Nat.le_trans (Keep.refl h0 []).1 (Nat.le_of_eq g9.symm)))).ext E43)
  obtain ⟨_, _, ⟨T50, L50, k50, n50⟩, -, X50', ⟨Lc50, hQ50, l50, y50, z50⟩, st50⟩ := X43.specialBack hx (y := (⟨"lastcolumn/stage/Probabilities", "<init>", "([III)V"⟩ : MethodName)) rfl hown (mvT hZ (hw _ (List.mem_of_getElem? (i := 4) rfl))) (mvT hZ (hw _ (List.mem_of_getElem? (i := 5) rfl))) (mvT hZ (hw _ (List.mem_of_getElem? (i := 6) rfl))) (by decide) (backOf (W := 1) (rmIni3 l Z a0 hw [] b43 b9 k9 p5 (p5 + (1 : Int32)) (p5 + (2 : Int32)) (p5 + (3 : Int32)) (p5 + (4 : Int32)) (p5 + (5 : Int32)) (p5 + (6 : Int32)) (p5 + (7 : Int32)) h43 n0 (Nat.le_trans Z0 kp49.1) A43 (Nat.le_trans Z0 (Nat.le_trans ((((((((((Keep.refl h0 []).ext E9).wr W13 (Or.inr (Nat.le_trans (Keep.refl h0 []).1 (Nat.le_of_eq g9.symm)))).wr W17 (Or.inr (Nat.le_trans (Keep.refl h0 []).1 (Nat.le_of_eq g9.symm)))).wr W21 (Or.inr (Nat.le_trans (Keep.refl h0 []).1 (Nat.le_of_eq g9.symm)))).wr W25 (Or.inr (Nat.le_trans (Keep.refl h0 []).1 (Nat.le_of_eq g9.symm)))).wr W29 (Or.inr (Nat.le_trans (Keep.refl h0 []).1 (Nat.le_of_eq g9.symm)))).wr W33 (Or.inr (Nat.le_trans (Keep.refl h0 []).1 (Nat.le_of_eq g9.symm)))).wr W37 (Or.inr (Nat.le_trans (Keep.refl h0 []).1 (Nat.le_of_eq g9.symm)))).wr W41 (Or.inr (Nat.le_trans (Keep.refl h0 []).1 (Nat.le_of_eq g9.symm)))).1 (Nat.le_of_eq g43.symm))) (Nat.le_trans Z0 (Nat.le_trans (Keep.refl h0 []).1 (Nat.le_of_eq g9.symm))) f44 f45 f48 (Ne.symm (Nat.ne_of_lt (Nat.lt_of_lt_of_le V41.lt (Nat.le_of_eq g43.symm))))) hZ (hw _ (List.mem_of_getElem? (i := 6) rfl)) (hw _ (List.mem_of_getElem? (i := 3) rfl)) (by decide) (by decide)) (g := (mkF m 101 #[.val (.int p1), .val (.int p2), .val (.int p3), .val (.int p4), .val (.int p5), .val (.int (3 : Int32)), .val (.int v3), .val (.int v5), .val (.int v7), .val (.ref b9), .unset, .unset, .unset, .unset, .unset, .unset] [(.int (4 : Int32)), (.int (3 : Int32)), (.ref b9), (.ref b43), (.ref b43)])) rfl (by rw [hml]; rfl) (Steps.refl _) (a := b43) (argsL := [(.ref b9), (.int (3 : Int32)), (.int (4 : Int32))]) (rest := [(.ref b43)]) (lenOf pd___III_V rfl) rfl (by show 2 * 0 + _ ≤ _; exact Nat.le_of_eq rfl) (hb hby at_101) (fun _ _ => ⟨rfl, e43, (by decide : 2 + 0 ≤ _), (by decide : 10 + 0 ≤ _)⟩)
  dsimp only [Pt.U, Pt.locs, Pt.cells, Pt.slots] at X50' l50 y50 z50 st50 hQ50
  subst l50 y50 z50
  obtain ⟨h50, e50⟩ : ∃ z, T50.heap = z := ⟨_, rfl⟩
  rw [e50] at hQ50
  obtain ⟨rfl, N50q, Kc50, f51, f52, f53, f54⟩ := hQ50
  obtain ⟨lc50, X50, N50⟩ : ∃ lc, Stand p l e room_1 s m #[(.int p1), (.int p2), (.int p3), (.int p4), (.int p5)] below meth c T50 lc 2 10 ∧ Fr n0 lc := ⟨_, X50', Fr.app N41 N50q⟩
  have K55 : Gx p e below s₁ f0 T50 (mkF m 104 #[.val (.int p1), .val (.int p2), .val (.int p3), .val (.int p4), .val (.int p5), .val (.int (3 : Int32)), .val (.int v3), .val (.int v5), .val (.int v7), .val (.ref b9), .unset, .unset, .unset, .unset, .unset, .unset] [(.ref b43)]) := fun t kt => K47 t (st50.trans kt)
  have K56 : Gx p e below s₁ f0 T50 (mkF m 110 #[.val (.int p1), .val (.int p2), .val (.int p3), .val (.int p4), .val (.int p5), .val (.int (3 : Int32)), .val (.int v3), .val (.int v5), .val (.int v7), .val (.ref b9), .val (.ref b43), .unset, .unset, .unset, .unset, .unset] [(.int v5), (.ref b43)]) := fun t kt => K55 t (by
    show Steps p.tables e below (T50.setTop (mkF m 104 #[.val (.int p1), .val (.int p2), .val (.int p3), .val (.int p4), .val (.int p5), .val (.int (3 : Int32)), .val (.int v3), .val (.int v5), .val (.int v7), .val (.ref b9), .unset, .unset, .unset, .unset, .unset, .unset] [(.ref b43)])) _
    refine XS.astore X50.here hx rfl (hb hby at_104) rfl rfl (l' := #[.val (.int p1), .val (.int p2), .val (.int p3), .val (.int p4), .val (.int p5), .val (.int (3 : Int32)), .val (.int v3), .val (.int v5), .val (.int v7), .val (.ref b9), .val (.ref b43), .unset, .unset, .unset, .unset, .unset]) rfl ?_
    show Steps p.tables e below (T50.setTop (mkF m 106 #[.val (.int p1), .val (.int p2), .val (.int p3), .val (.int p4), .val (.int p5), .val (.int (3 : Int32)), .val (.int v3), .val (.int v5), .val (.int v7), .val (.ref b9), .val (.ref b43), .unset, .unset, .unset, .unset, .unset] [])) _
    refine XS.aload X50.here hx rfl (hb hby at_106) rfl rfl ?_
    show Steps p.tables e below (T50.setTop (mkF m 108 #[.val (.int p1), .val (.int p2), .val (.int p3), .val (.int p4), .val (.int p5), .val (.int (3 : Int32)), .val (.int v3), .val (.int v5), .val (.int v7), .val (.ref b9), .val (.ref b43), .unset, .unset, .unset, .unset, .unset] [(.ref b43)])) _
    refine XS.iload X50.here hx rfl (hb hby at_108) rfl ?_
    exact kt)
  have kp57 : Keep h0 h50 [] := (Keep.trans kp49 Kc50 (allS (Or.inr (Nat.le_trans ((((((((((Keep.refl h0 []).ext E9).wr W13 (Or.inr (Nat.le_trans (Keep.refl h0 []).1 (Nat.le_of_eq g9.symm)))).wr W17 (Or.inr (Nat.le_trans (Keep.refl h0 []).1 (Nat.le_of_eq g9.symm)))).wr W21 (Or.inr (Nat.le_trans (Keep.refl h0 []).1 (Nat.le_of_eq g9.symm)))).wr W25 (Or.inr (Nat.le_trans (Keep.refl h0 []).1 (Nat.le_of_eq g9.symm)))).wr W29 (Or.inr (Nat.le_trans (Keep.refl h0 []).1 (Nat.le_of_eq g9.symm)))).wr W33 (Or.inr (Nat.le_trans (Keep.refl h0 []).1 (Nat.le_of_eq g9.symm)))).wr W37 (Or.inr (Nat.le_trans (Keep.refl h0 []).1 (Nat.le_of_eq g9.symm)))).wr W41 (Or.inr (Nat.le_trans (Keep.refl h0 []).1 (Nat.le_of_eq g9.symm)))).1 (Nat.le_of_eq g43.symm))) (allS (Or.inr (Nat.le_trans (Keep.refl h0 []).1 (Nat.le_of_eq g9.symm))) all0)))
  obtain ⟨cq58, kq58, q58a, q58b, q58c⟩ := isOf hZ e50 f51
  obtain ⟨_, _, ⟨T58, L58, k58, n58⟩, -, X58', ⟨Lc58, hQ58, l58, y58, z58⟩, st58⟩ := X50.virtualBack hx (y := (⟨"lastcolumn/stage/Probabilities", "ofOne", "(I)I"⟩ : MethodName)) (z := (⟨"lastcolumn/stage/Probabilities", "ofOne", "(I)I"⟩ : MethodName)) hown (mvT hZ (hw _ (List.mem_of_getElem? (i := 22) rfl))) (mvT hZ (hw _ (List.mem_of_getElem? (i := 23) rfl))) (notFace_of_selects (args := #[]) (mvT hZ (hw _ (List.mem_of_getElem? (i := 25) rfl)))) (mvT hZ (hw _ (List.mem_of_getElem? (i := 25) rfl))) (mvT hZ (hw _ (List.mem_of_getElem? (i := 24) rfl))) (by decide) (backOf (W := 0) (rmOf1 l Z a0 hw [] b43 v5 b9 (3 : Int32) k9 [(.int p5), (.int (p5 + (1 : Int32))), (.int (p5 + (2 : Int32))), (.int (-2147483648 : Int32)), (.int (-2147483648 : Int32)), (.int (-2147483648 : Int32)), (.int (-2147483648 : Int32)), (.int (p5 + (7 : Int32)))] (-2147483648 : Int32) h50 n0 (Nat.le_trans Z0 kp57.1) f52 f53 f54 (by rcases hc2 with q | q | q | q <;> rw [q] <;> decide) (by rcases hc2 with q | q | q | q <;> rw [q] <;> rfl)) hZ (hw _ (List.mem_of_getElem? (i := 26) rfl)) (hw _ (List.mem_of_getElem? (i := 3) rfl)) (by decide) (by decide)) q58a q58c (g := (mkF m 110 #[.val (.int p1), .val (.int p2), .val (.int p3), .val (.int p4), .val (.int p5), .val (.int (3 : Int32)), .val (.int v3), .val (.int v5), .val (.int v7), .val (.ref b9), .val (.ref b43), .unset, .unset, .unset, .unset, .unset] [(.int v5), (.ref b43)])) rfl (by rw [hml]; rfl) (Steps.refl _) (argsL := [(.int v5)]) (rest := []) (lenOf pd__I_I rfl) rfl (by show 2 * 0 + _ ≤ _; exact Nat.le_of_eq rfl) (hb hby at_110) (fun _ _ => ⟨rfl, e50, (by decide : 2 + 0 ≤ _), (by decide : 10 + 0 ≤ _)⟩)
  dsimp only [Pt.U, Pt.locs, Pt.cells, Pt.slots] at X58' l58 y58 z58 st58 hQ58
  subst l58 y58 z58
  obtain ⟨rfl, N58q, e58⟩ := hQ58
  obtain ⟨lc58, X58, N58⟩ : ∃ lc, Stand p l e room_1 s m #[(.int p1), (.int p2), (.int p3), (.int p4), (.int p5)] below meth c T58 lc 2 10 ∧ Fr n0 lc := ⟨_, X58', Fr.app N50 N58q⟩
  have K59 : Gx p e below s₁ f0 T58 (mkF m 113 #[.val (.int p1), .val (.int p2), .val (.int p3), .val (.int p4), .val (.int p5), .val (.int (3 : Int32)), .val (.int v3), .val (.int v5), .val (.int v7), .val (.ref b9), .val (.ref b43), .unset, .unset, .unset, .unset, .unset] [(.int (((-2147483648 : Int32).toUInt32 >>> ((16 : Int32) &&& 31).toUInt32).toInt32))]) := fun t kt => K56 t (st58.trans kt)
  obtain ⟨v60, hv60⟩ : ∃ z : Int32, z = (((-2147483648 : Int32).toUInt32 >>> ((16 : Int32) &&& 31).toUInt32).toInt32) := ⟨_, rfl⟩
  rw [← hv60] at K59
  have K61 : Gx p e below s₁ f0 T58 (mkF m 121 #[.val (.int p1), .val (.int p2), .val (.int p3), .val (.int p4), .val (.int p5), .val (.int (3 : Int32)), .val (.int v3), .val (.int v5), .val (.int v7), .val (.ref b9), .val (.ref b43), .val (.int v60), .unset, .unset, .unset, .unset] [(.int v7), (.int v3), (.ref b43)]) := fun t kt => K59 t (by
    show Steps p.tables e below (T58.setTop (mkF m 113 #[.val (.int p1), .val (.int p2), .val (.int p3), .val (.int p4), .val (.int p5), .val (.int (3 : Int32)), .val (.int v3), .val (.int v5), .val (.int v7), .val (.ref b9), .val (.ref b43), .unset, .unset, .unset, .unset, .unset] [(.int v60)])) _
    refine XS.istore X58.here hx rfl (hb hby at_113) rfl (l' := #[.val (.int p1), .val (.int p2), .val (.int p3), .val (.int p4), .val (.int p5), .val (.int (3 : Int32)), .val (.int v3), .val (.int v5), .val (.int v7), .val (.ref b9), .val (.ref b43), .val (.int v60), .unset, .unset, .unset, .unset]) rfl ?_
    show Steps p.tables e below (T58.setTop (mkF m 115 #[.val (.int p1), .val (.int p2), .val (.int p3), .val (.int p4), .val (.int p5), .val (.int (3 : Int32)), .val (.int v3), .val (.int v5), .val (.int v7), .val (.ref b9), .val (.ref b43), .val (.int v60), .unset, .unset, .unset, .unset] [])) _
    refine XS.aload X58.here hx rfl (hb hby at_115) rfl rfl ?_
    show Steps p.tables e below (T58.setTop (mkF m 117 #[.val (.int p1), .val (.int p2), .val (.int p3), .val (.int p4), .val (.int p5), .val (.int (3 : Int32)), .val (.int v3), .val (.int v5), .val (.int v7), .val (.ref b9), .val (.ref b43), .val (.int v60), .unset, .unset, .unset, .unset] [(.ref b43)])) _
    refine XS.iload X58.here hx rfl (hb hby at_117) rfl ?_
    show Steps p.tables e below (T58.setTop (mkF m 119 #[.val (.int p1), .val (.int p2), .val (.int p3), .val (.int p4), .val (.int p5), .val (.int (3 : Int32)), .val (.int v3), .val (.int v5), .val (.int v7), .val (.ref b9), .val (.ref b43), .val (.int v60), .unset, .unset, .unset, .unset] [(.int v3), (.ref b43)])) _
    refine XS.iload X58.here hx rfl (hb hby at_119) rfl ?_
    exact kt)
  have f62 : Old Z n0 h50 := (((((((((((pr2.ext E9).wr W13 (Nat.le_trans Z0 (Nat.le_trans (Keep.refl h0 []).1 (Nat.le_of_eq g9.symm)))).wr W17 (Nat.le_trans Z0 (Nat.le_trans (Keep.refl h0 []).1 (Nat.le_of_eq g9.symm)))).wr W21 (Nat.le_trans Z0 (Nat.le_trans (Keep.refl h0 []).1 (Nat.le_of_eq g9.symm)))).wr W25 (Nat.le_trans Z0 (Nat.le_trans (Keep.refl h0 []).1 (Nat.le_of_eq g9.symm)))).wr W29 (Nat.le_trans Z0 (Nat.le_trans (Keep.refl h0 []).1 (Nat.le_of_eq g9.symm)))).wr W33 (Nat.le_trans Z0 (Nat.le_trans (Keep.refl h0 []).1 (Nat.le_of_eq g9.symm)))).wr W37 (Nat.le_trans Z0 (Nat.le_trans (Keep.refl h0 []).1 (Nat.le_of_eq g9.symm)))).wr W41 (Nat.le_trans Z0 (Nat.le_trans (Keep.refl h0 []).1 (Nat.le_of_eq g9.symm)))).ext E43).keep Kc50 (allS (Nat.le_trans Z0 (Nat.le_trans ((((((((((Keep.refl h0 []).ext E9).wr W13 (Or.inr (Nat.le_trans (Keep.refl h0 []).1 (Nat.le_of_eq g9.symm)))).wr W17 (Or.inr (Nat.le_trans (Keep.refl h0 []).1 (Nat.le_of_eq g9.symm)))).wr W21 (Or.inr (Nat.le_trans (Keep.refl h0 []).1 (Nat.le_of_eq g9.symm)))).wr W25 (Or.inr (Nat.le_trans (Keep.refl h0 []).1 (Nat.le_of_eq g9.symm)))).wr W29 (Or.inr (Nat.le_trans (Keep.refl h0 []).1 (Nat.le_of_eq g9.symm)))).wr W33 (Or.inr (Nat.le_trans (Keep.refl h0 []).1 (Nat.le_of_eq g9.symm)))).wr W37 (Or.inr (Nat.le_trans (Keep.refl h0 []).1 (Nat.le_of_eq g9.symm)))).wr W41 (Or.inr (Nat.le_trans (Keep.refl h0 []).1 (Nat.le_of_eq g9.symm)))).1 (Nat.le_of_eq g43.symm))) (allS (Nat.le_trans Z0 (Nat.le_trans (Keep.refl h0 []).1 (Nat.le_of_eq g9.symm))) all0)))
  obtain ⟨cq63, kq63, q63a, q63b, q63c⟩ := isOf hZ e58 f51
  obtain ⟨_, _, ⟨T63, L63, k63, n63⟩, -, X63', ⟨Lc63, hQ63, l63, y63, z63⟩, st63⟩ := X58.virtualBack hx (y := (⟨"lastcolumn/stage/Probabilities", "learn", "(II)V"⟩ : MethodName)) (z := (⟨"lastcolumn/stage/Probabilities", "learn", "(II)V"⟩ : MethodName)) hown (mvT hZ (hw _ (List.mem_of_getElem? (i := 27) rfl))) (mvT hZ (hw _ (List.mem_of_getElem? (i := 28) rfl))) (notFace_of_selects (args := #[]) (mvT hZ (hw _ (List.mem_of_getElem? (i := 30) rfl)))) (mvT hZ (hw _ (List.mem_of_getElem? (i := 30) rfl))) (mvT hZ (hw _ (List.mem_of_getElem? (i := 29) rfl))) (by decide) (backOf (W := 0) (rmLrn l Z a0 hw [] b43 v3 v7 b9 (3 : Int32) k9 [(.int p5), (.int (p5 + (1 : Int32))), (.int (p5 + (2 : Int32))), (.int (-2147483648 : Int32)), (.int (-2147483648 : Int32)), (.int (-2147483648 : Int32)), (.int (-2147483648 : Int32)), (.int (p5 + (7 : Int32)))] ra kr h50 n0 (Nat.le_trans Z0 kp57.1) f51 (Nat.le_trans Z0 (Nat.le_trans (Keep.refl h0 []).1 (Nat.le_of_eq g9.symm))) f52 f53 f54 (Ne.symm (Nat.ne_of_lt (Nat.lt_of_lt_of_le V41.lt (Nat.le_of_eq g43.symm)))) pr0 pr1 f62 (by rcases hc1 with q | q | q | q <;> rw [q] <;> decide) (by rcases hc1 with q | q | q | q <;> rw [q] <;> rfl) (by rcases hc1 with q | q | q | q <;> rw [q] <;> exact Nat.le_of_ble_eq_true rfl)) hZ (hw _ (List.mem_of_getElem? (i := 31) rfl)) (hw _ (List.mem_of_getElem? (i := 3) rfl)) (by decide) (by decide)) q63a q63c (g := (mkF m 121 #[.val (.int p1), .val (.int p2), .val (.int p3), .val (.int p4), .val (.int p5), .val (.int (3 : Int32)), .val (.int v3), .val (.int v5), .val (.int v7), .val (.ref b9), .val (.ref b43), .val (.int v60), .unset, .unset, .unset, .unset] [(.int v7), (.int v3), (.ref b43)])) rfl (by rw [hml]; rfl) (Steps.refl _) (argsL := [(.int v3), (.int v7)]) (rest := []) (lenOf pd__II_V rfl) rfl (by show 2 * 0 + _ ≤ _; exact Nat.le_of_eq rfl) (hb hby at_121) (fun _ _ => ⟨rfl, e58, (by decide : 2 + 0 ≤ _), (by decide : 10 + 0 ≤ _)⟩)
  dsimp only [Pt.U, Pt.locs, Pt.cells, Pt.slots] at X63' l63 y63 z63 st63 hQ63
  subst l63 y63 z63
  obtain ⟨h63, e63⟩ : ∃ z, T63.heap = z := ⟨_, rfl⟩
  rw [e63] at hQ63
  obtain ⟨rfl, N63q, Kc63, f64⟩ := hQ63
  obtain ⟨lc63, X63, N63⟩ : ∃ lc, Stand p l e room_1 s m #[(.int p1), (.int p2), (.int p3), (.int p4), (.int p5)] below meth c T63 lc 2 10 ∧ Fr n0 lc := ⟨_, X63', Fr.app N58 N63q⟩
  have K65 : Gx p e below s₁ f0 T63 (mkF m 124 #[.val (.int p1), .val (.int p2), .val (.int p3), .val (.int p4), .val (.int p5), .val (.int (3 : Int32)), .val (.int v3), .val (.int v5), .val (.int v7), .val (.ref b9), .val (.ref b43), .val (.int v60), .unset, .unset, .unset, .unset] []) := fun t kt => K61 t (st63.trans kt)
  have K66 : Gx p e below s₁ f0 T63 (mkF m 128 #[.val (.int p1), .val (.int p2), .val (.int p3), .val (.int p4), .val (.int p5), .val (.int (3 : Int32)), .val (.int v3), .val (.int v5), .val (.int v7), .val (.ref b9), .val (.ref b43), .val (.int v60), .unset, .unset, .unset, .unset] [(.int v3), (.ref b43)]) := fun t kt => K65 t (by
    show Steps p.tables e below (T63.setTop (mkF m 124 #[.val (.int p1), .val (.int p2), .val (.int p3), .val (.int p4), .val (.int p5), .val (.int (3 : Int32)), .val (.int v3), .val (.int v5), .val (.int v7), .val (.ref b9), .val (.ref b43), .val (.int v60), .unset, .unset, .unset, .unset] [])) _
    refine XS.aload X63.here hx rfl (hb hby at_124) rfl rfl ?_
    show Steps p.tables e below (T63.setTop (mkF m 126 #[.val (.int p1), .val (.int p2), .val (.int p3), .val (.int p4), .val (.int p5), .val (.int (3 : Int32)), .val (.int v3), .val (.int v5), .val (.int v7), .val (.ref b9), .val (.ref b43), .val (.int v60), .unset, .unset, .unset, .unset] [(.ref b43)])) _
    refine XS.iload X63.here hx rfl (hb hby at_126) rfl ?_
    exact kt)
  have f67 : Fld Z h63 b43 "lastcolumn/stage/Probabilities" "states" "[I" (.ref b9) := (f52.keep Kc63 (ninS (Ne.symm (Nat.ne_of_lt (Nat.lt_of_lt_of_le V41.lt (Nat.le_of_eq g43.symm)))) nin0))
  have f68 : Fld Z h63 b43 "lastcolumn/stage/Probabilities" "at" "I" (.int (3 : Int32)) := (f53.keep Kc63 (ninS (Ne.symm (Nat.ne_of_lt (Nat.lt_of_lt_of_le V41.lt (Nat.le_of_eq g43.symm)))) nin0))
  have kp69 : Keep h0 h63 [] := (Keep.trans kp57 Kc63 (allS (Or.inr (Nat.le_trans (Keep.refl h0 []).1 (Nat.le_of_eq g9.symm))) all0))
  have f71 : Exa Z h63 b43 "lastcolumn/stage/Probabilities" := (f51.keep Kc63)
  obtain ⟨cq70, kq70, q70a, q70b, q70c⟩ := isOf hZ e63 f71
  obtain ⟨_, _, ⟨T70, L70, k70, n70⟩, -, X70', ⟨Lc70, hQ70, l70, y70, z70⟩, st70⟩ := X63.virtualBack hx (y := (⟨"lastcolumn/stage/Probabilities", "ofOne", "(I)I"⟩ : MethodName)) (z := (⟨"lastcolumn/stage/Probabilities", "ofOne", "(I)I"⟩ : MethodName)) hown (mvT hZ (hw _ (List.mem_of_getElem? (i := 22) rfl))) (mvT hZ (hw _ (List.mem_of_getElem? (i := 23) rfl))) (notFace_of_selects (args := #[]) (mvT hZ (hw _ (List.mem_of_getElem? (i := 25) rfl)))) (mvT hZ (hw _ (List.mem_of_getElem? (i := 25) rfl))) (mvT hZ (hw _ (List.mem_of_getElem? (i := 24) rfl))) (by decide) (backOf (W := 0) (rmOf1 l Z a0 hw [] b43 v3 b9 (3 : Int32) k9 ([(.int p5), (.int (p5 + (1 : Int32))), (.int (p5 + (2 : Int32))), (.int (-2147483648 : Int32)), (.int (-2147483648 : Int32)), (.int (-2147483648 : Int32)), (.int (-2147483648 : Int32)), (.int (p5 + (7 : Int32)))].set ((3 : Int32) + v3).toNatClampNeg (.int (if v7 = (1 : Int32) then (-715850751 : Int32) else (715849729 : Int32)))) (if v7 = (1 : Int32) then (-715850751 : Int32) else (715849729 : Int32)) h63 n0 (Nat.le_trans Z0 kp69.1) f67 f68 f64 (by rcases hc1 with q | q | q | q <;> rw [q] <;> decide) (by rcases hc1 with q | q | q | q <;> rw [q] <;> rfl)) hZ (hw _ (List.mem_of_getElem? (i := 26) rfl)) (hw _ (List.mem_of_getElem? (i := 3) rfl)) (by decide) (by decide)) q70a q70c (g := (mkF m 128 #[.val (.int p1), .val (.int p2), .val (.int p3), .val (.int p4), .val (.int p5), .val (.int (3 : Int32)), .val (.int v3), .val (.int v5), .val (.int v7), .val (.ref b9), .val (.ref b43), .val (.int v60), .unset, .unset, .unset, .unset] [(.int v3), (.ref b43)])) rfl (by rw [hml]; rfl) (Steps.refl _) (argsL := [(.int v3)]) (rest := []) (lenOf pd__I_I rfl) rfl (by show 2 * 0 + _ ≤ _; exact Nat.le_of_eq rfl) (hb hby at_128) (fun _ _ => ⟨rfl, e63, (by decide : 2 + 0 ≤ _), (by decide : 10 + 0 ≤ _)⟩)
  dsimp only [Pt.U, Pt.locs, Pt.cells, Pt.slots] at X70' l70 y70 z70 st70 hQ70
  subst l70 y70 z70
  obtain ⟨rfl, N70q, e70⟩ := hQ70
  obtain ⟨lc70, X70, N70⟩ : ∃ lc, Stand p l e room_1 s m #[(.int p1), (.int p2), (.int p3), (.int p4), (.int p5)] below meth c T70 lc 2 10 ∧ Fr n0 lc := ⟨_, X70', Fr.app N63 N70q⟩
  have K72 : Gx p e below s₁ f0 T70 (mkF m 131 #[.val (.int p1), .val (.int p2), .val (.int p3), .val (.int p4), .val (.int p5), .val (.int (3 : Int32)), .val (.int v3), .val (.int v5), .val (.int v7), .val (.ref b9), .val (.ref b43), .val (.int v60), .unset, .unset, .unset, .unset] [(.int (((if v7 = (1 : Int32) then (-715850751 : Int32) else (715849729 : Int32)).toUInt32 >>> ((16 : Int32) &&& 31).toUInt32).toInt32))]) := fun t kt => K66 t (st70.trans kt)
  obtain ⟨v73, hv73⟩ : ∃ z : Int32, z = (((if v7 = (1 : Int32) then (-715850751 : Int32) else (715849729 : Int32)).toUInt32 >>> ((16 : Int32) &&& 31).toUInt32).toInt32) := ⟨_, rfl⟩
  rw [← hv73] at K72
  have K74 : Gx p e below s₁ f0 T70 (mkF m 137 #[.val (.int p1), .val (.int p2), .val (.int p3), .val (.int p4), .val (.int p5), .val (.int (3 : Int32)), .val (.int v3), .val (.int v5), .val (.int v7), .val (.ref b9), .val (.ref b43), .val (.int v60), .val (.int v73), .unset, .unset, .unset] [(.int v5), (.ref b43)]) := fun t kt => K72 t (by
    show Steps p.tables e below (T70.setTop (mkF m 131 #[.val (.int p1), .val (.int p2), .val (.int p3), .val (.int p4), .val (.int p5), .val (.int (3 : Int32)), .val (.int v3), .val (.int v5), .val (.int v7), .val (.ref b9), .val (.ref b43), .val (.int v60), .unset, .unset, .unset, .unset] [(.int v73)])) _
    refine XS.istore X70.here hx rfl (hb hby at_131) rfl (l' := #[.val (.int p1), .val (.int p2), .val (.int p3), .val (.int p4), .val (.int p5), .val (.int (3 : Int32)), .val (.int v3), .val (.int v5), .val (.int v7), .val (.ref b9), .val (.ref b43), .val (.int v60), .val (.int v73), .unset, .unset, .unset]) rfl ?_
    show Steps p.tables e below (T70.setTop (mkF m 133 #[.val (.int p1), .val (.int p2), .val (.int p3), .val (.int p4), .val (.int p5), .val (.int (3 : Int32)), .val (.int v3), .val (.int v5), .val (.int v7), .val (.ref b9), .val (.ref b43), .val (.int v60), .val (.int v73), .unset, .unset, .unset] [])) _
    refine XS.aload X70.here hx rfl (hb hby at_133) rfl rfl ?_
    show Steps p.tables e below (T70.setTop (mkF m 135 #[.val (.int p1), .val (.int p2), .val (.int p3), .val (.int p4), .val (.int p5), .val (.int (3 : Int32)), .val (.int v3), .val (.int v5), .val (.int v7), .val (.ref b9), .val (.ref b43), .val (.int v60), .val (.int v73), .unset, .unset, .unset] [(.ref b43)])) _
    refine XS.iload X70.here hx rfl (hb hby at_135) rfl ?_
    exact kt)
  obtain ⟨cq75, kq75, q75a, q75b, q75c⟩ := isOf hZ e70 f71
  obtain ⟨_, _, ⟨T75, L75, k75, n75⟩, -, X75', ⟨Lc75, hQ75, l75, y75, z75⟩, st75⟩ := X70.virtualBack hx (y := (⟨"lastcolumn/stage/Probabilities", "ofOne", "(I)I"⟩ : MethodName)) (z := (⟨"lastcolumn/stage/Probabilities", "ofOne", "(I)I"⟩ : MethodName)) hown (mvT hZ (hw _ (List.mem_of_getElem? (i := 22) rfl))) (mvT hZ (hw _ (List.mem_of_getElem? (i := 23) rfl))) (notFace_of_selects (args := #[]) (mvT hZ (hw _ (List.mem_of_getElem? (i := 25) rfl)))) (mvT hZ (hw _ (List.mem_of_getElem? (i := 25) rfl))) (mvT hZ (hw _ (List.mem_of_getElem? (i := 24) rfl))) (by decide) (backOf (W := 0) (rmOf1 l Z a0 hw [] b43 v5 b9 (3 : Int32) k9 ([(.int p5), (.int (p5 + (1 : Int32))), (.int (p5 + (2 : Int32))), (.int (-2147483648 : Int32)), (.int (-2147483648 : Int32)), (.int (-2147483648 : Int32)), (.int (-2147483648 : Int32)), (.int (p5 + (7 : Int32)))].set ((3 : Int32) + v3).toNatClampNeg (.int (if v7 = (1 : Int32) then (-715850751 : Int32) else (715849729 : Int32)))) (if v5 = v3 then (if v7 = (1 : Int32) then (-715850751 : Int32) else (715849729 : Int32)) else (-2147483648 : Int32)) h63 n0 (Nat.le_trans Z0 kp69.1) f67 f68 f64 (by rcases hc2 with q | q | q | q <;> rw [q] <;> decide) (by rcases hc1 with q | q | q | q <;> rcases hc2 with r | r | r | r <;> rw [q, r] <;> rfl)) hZ (hw _ (List.mem_of_getElem? (i := 26) rfl)) (hw _ (List.mem_of_getElem? (i := 3) rfl)) (by decide) (by decide)) q75a q75c (g := (mkF m 137 #[.val (.int p1), .val (.int p2), .val (.int p3), .val (.int p4), .val (.int p5), .val (.int (3 : Int32)), .val (.int v3), .val (.int v5), .val (.int v7), .val (.ref b9), .val (.ref b43), .val (.int v60), .val (.int v73), .unset, .unset, .unset] [(.int v5), (.ref b43)])) rfl (by rw [hml]; rfl) (Steps.refl _) (argsL := [(.int v5)]) (rest := []) (lenOf pd__I_I rfl) rfl (by show 2 * 0 + _ ≤ _; exact Nat.le_of_eq rfl) (hb hby at_137) (fun _ _ => ⟨rfl, e70, (by decide : 2 + 0 ≤ _), (by decide : 10 + 0 ≤ _)⟩)
  dsimp only [Pt.U, Pt.locs, Pt.cells, Pt.slots] at X75' l75 y75 z75 st75 hQ75
  subst l75 y75 z75
  obtain ⟨rfl, N75q, e75⟩ := hQ75
  obtain ⟨lc75, X75, N75⟩ : ∃ lc, Stand p l e room_1 s m #[(.int p1), (.int p2), (.int p3), (.int p4), (.int p5)] below meth c T75 lc 2 10 ∧ Fr n0 lc := ⟨_, X75', Fr.app N70 N75q⟩
  have K76 : Gx p e below s₁ f0 T75 (mkF m 140 #[.val (.int p1), .val (.int p2), .val (.int p3), .val (.int p4), .val (.int p5), .val (.int (3 : Int32)), .val (.int v3), .val (.int v5), .val (.int v7), .val (.ref b9), .val (.ref b43), .val (.int v60), .val (.int v73), .unset, .unset, .unset] [(.int (((if v5 = v3 then (if v7 = (1 : Int32) then (-715850751 : Int32) else (715849729 : Int32)) else (-2147483648 : Int32)).toUInt32 >>> ((16 : Int32) &&& 31).toUInt32).toInt32))]) := fun t kt => K74 t (st75.trans kt)
  obtain ⟨v77, hv77⟩ : ∃ z : Int32, z = (((if v5 = v3 then (if v7 = (1 : Int32) then (-715850751 : Int32) else (715849729 : Int32)) else (-2147483648 : Int32)).toUInt32 >>> ((16 : Int32) &&& 31).toUInt32).toInt32) := ⟨_, rfl⟩
  rw [← hv77] at K76
  have K80 : Gx p e below s₁ f0 T75 (mkF m 145 #[.val (.int p1), .val (.int p2), .val (.int p3), .val (.int p4), .val (.int p5), .val (.int (3 : Int32)), .val (.int v3), .val (.int v5), .val (.int v7), .val (.ref b9), .val (.ref b43), .val (.int v60), .val (.int v73), .val (.int v77), .unset, .unset] [(.int (1 : Int32)), (.int v7)]) := fun t kt => K76 t (by
    show Steps p.tables e below (T75.setTop (mkF m 140 #[.val (.int p1), .val (.int p2), .val (.int p3), .val (.int p4), .val (.int p5), .val (.int (3 : Int32)), .val (.int v3), .val (.int v5), .val (.int v7), .val (.ref b9), .val (.ref b43), .val (.int v60), .val (.int v73), .unset, .unset, .unset] [(.int v77)])) _
    refine XS.istore X75.here hx rfl (hb hby at_140) rfl (l' := #[.val (.int p1), .val (.int p2), .val (.int p3), .val (.int p4), .val (.int p5), .val (.int (3 : Int32)), .val (.int v3), .val (.int v5), .val (.int v7), .val (.ref b9), .val (.ref b43), .val (.int v60), .val (.int v73), .val (.int v77), .unset, .unset]) rfl ?_
    show Steps p.tables e below (T75.setTop (mkF m 142 #[.val (.int p1), .val (.int p2), .val (.int p3), .val (.int p4), .val (.int p5), .val (.int (3 : Int32)), .val (.int v3), .val (.int v5), .val (.int v7), .val (.ref b9), .val (.ref b43), .val (.int v60), .val (.int v73), .val (.int v77), .unset, .unset] [])) _
    refine XS.iload X75.here hx rfl (hb hby at_142) rfl ?_
    show Steps p.tables e below (T75.setTop (mkF m 144 #[.val (.int p1), .val (.int p2), .val (.int p3), .val (.int p4), .val (.int p5), .val (.int (3 : Int32)), .val (.int v3), .val (.int v5), .val (.int v7), .val (.ref b9), .val (.ref b43), .val (.int v60), .val (.int v73), .val (.int v77), .unset, .unset] [(.int v7)])) _
    refine XS.iconst X75.here hx rfl (hb hby at_144) ?_
    exact kt)
  obtain ⟨v79, hv79⟩ : ∃ z : Int32, z = (if v7 = (1 : Int32) then (54612 : Int32) else (10923 : Int32)) := ⟨_, rfl⟩
  have K81 : Gx p e below s₁ f0 T75 (mkF m 156 #[.val (.int p1), .val (.int p2), .val (.int p3), .val (.int p4), .val (.int p5), .val (.int (3 : Int32)), .val (.int v3), .val (.int v5), .val (.int v7), .val (.ref b9), .val (.ref b43), .val (.int v60), .val (.int v73), .val (.int v77), .unset, .unset] [(.int v79)]) := fun t kt => K80 t (by
    by_cases hc145_77 : v7 = (1 : Int32)
    · skip
      show Steps p.tables e below (T75.setTop (mkF m 145 #[.val (.int p1), .val (.int p2), .val (.int p3), .val (.int p4), .val (.int p5), .val (.int (3 : Int32)), .val (.int v3), .val (.int v5), .val (.int v7), .val (.ref b9), .val (.ref b43), .val (.int v60), .val (.int v73), .val (.int v77), .unset, .unset] [(.int (1 : Int32)), (.int v7)])) _
      refine XS.icmpNo X75.here hx rfl (hb hby at_145) rfl (teq hc145_77).2 ?_
      show Steps p.tables e below (T75.setTop (mkF m 148 #[.val (.int p1), .val (.int p2), .val (.int p3), .val (.int p4), .val (.int p5), .val (.int (3 : Int32)), .val (.int v3), .val (.int v5), .val (.int v7), .val (.ref b9), .val (.ref b43), .val (.int v60), .val (.int v73), .val (.int v77), .unset, .unset] [])) _
      refine X75.ldcInt hx hown (mvT hZ (hw _ (List.mem_of_getElem? (i := 39) rfl))) (g := (mkF m 148 #[.val (.int p1), .val (.int p2), .val (.int p3), .val (.int p4), .val (.int p5), .val (.int (3 : Int32)), .val (.int v3), .val (.int v5), .val (.int v7), .val (.ref b9), .val (.ref b43), .val (.int v60), .val (.int v73), .val (.int v77), .unset, .unset] [])) rfl (hb hby at_148) _ ?_
      show Steps p.tables e below (T75.setTop (mkF m 150 #[.val (.int p1), .val (.int p2), .val (.int p3), .val (.int p4), .val (.int p5), .val (.int (3 : Int32)), .val (.int v3), .val (.int v5), .val (.int v7), .val (.ref b9), .val (.ref b43), .val (.int v60), .val (.int v73), .val (.int v77), .unset, .unset] [(.int (54612 : Int32))])) _
      refine XS.goto X75.here hx rfl (pc0 := 150) (pc' := 156) rfl (hb hby at_150) (by decide) (by decide) ?_
      show Steps p.tables e below (T75.setTop (mkF m 156 #[.val (.int p1), .val (.int p2), .val (.int p3), .val (.int p4), .val (.int p5), .val (.int (3 : Int32)), .val (.int v3), .val (.int v5), .val (.int v7), .val (.ref b9), .val (.ref b43), .val (.int v60), .val (.int v73), .val (.int v77), .unset, .unset] [(.int (54612 : Int32))])) _
      exact castTop (by simp only [hv79, if_pos hc145_77]) kt
    · skip
      show Steps p.tables e below (T75.setTop (mkF m 145 #[.val (.int p1), .val (.int p2), .val (.int p3), .val (.int p4), .val (.int p5), .val (.int (3 : Int32)), .val (.int v3), .val (.int v5), .val (.int v7), .val (.ref b9), .val (.ref b43), .val (.int v60), .val (.int v73), .val (.int v77), .unset, .unset] [(.int (1 : Int32)), (.int v7)])) _
      refine XS.icmpYes X75.here hx rfl (pc0 := 145) (pc' := 153) rfl (hb hby at_145) rfl (feq hc145_77).2 (by decide) (by decide) ?_
      show Steps p.tables e below (T75.setTop (mkF m 153 #[.val (.int p1), .val (.int p2), .val (.int p3), .val (.int p4), .val (.int p5), .val (.int (3 : Int32)), .val (.int v3), .val (.int v5), .val (.int v7), .val (.ref b9), .val (.ref b43), .val (.int v60), .val (.int v73), .val (.int v77), .unset, .unset] [])) _
      refine XS.sipush X75.here hx rfl (hb hby at_153) ?_
      show Steps p.tables e below (T75.setTop (mkF m 156 #[.val (.int p1), .val (.int p2), .val (.int p3), .val (.int p4), .val (.int p5), .val (.int (3 : Int32)), .val (.int v3), .val (.int v5), .val (.int v7), .val (.ref b9), .val (.ref b43), .val (.int v60), .val (.int v73), .val (.int v77), .unset, .unset] [(.int (10923 : Int32))])) _
      exact castTop (by simp only [hv79, if_neg hc145_77]) kt)
  have K84 : Gx p e below s₁ f0 T75 (mkF m 162 #[.val (.int p1), .val (.int p2), .val (.int p3), .val (.int p4), .val (.int p5), .val (.int (3 : Int32)), .val (.int v3), .val (.int v5), .val (.int v7), .val (.ref b9), .val (.ref b43), .val (.int v60), .val (.int v73), .val (.int v77), .val (.int v79), .unset] [(.int v3), (.int v5)]) := fun t kt => K81 t (by
    show Steps p.tables e below (T75.setTop (mkF m 156 #[.val (.int p1), .val (.int p2), .val (.int p3), .val (.int p4), .val (.int p5), .val (.int (3 : Int32)), .val (.int v3), .val (.int v5), .val (.int v7), .val (.ref b9), .val (.ref b43), .val (.int v60), .val (.int v73), .val (.int v77), .unset, .unset] [(.int v79)])) _
    refine XS.istore X75.here hx rfl (hb hby at_156) rfl (l' := #[.val (.int p1), .val (.int p2), .val (.int p3), .val (.int p4), .val (.int p5), .val (.int (3 : Int32)), .val (.int v3), .val (.int v5), .val (.int v7), .val (.ref b9), .val (.ref b43), .val (.int v60), .val (.int v73), .val (.int v77), .val (.int v79), .unset]) rfl ?_
    show Steps p.tables e below (T75.setTop (mkF m 158 #[.val (.int p1), .val (.int p2), .val (.int p3), .val (.int p4), .val (.int p5), .val (.int (3 : Int32)), .val (.int v3), .val (.int v5), .val (.int v7), .val (.ref b9), .val (.ref b43), .val (.int v60), .val (.int v73), .val (.int v77), .val (.int v79), .unset] [])) _
    refine XS.iload X75.here hx rfl (hb hby at_158) rfl ?_
    show Steps p.tables e below (T75.setTop (mkF m 160 #[.val (.int p1), .val (.int p2), .val (.int p3), .val (.int p4), .val (.int p5), .val (.int (3 : Int32)), .val (.int v3), .val (.int v5), .val (.int v7), .val (.ref b9), .val (.ref b43), .val (.int v60), .val (.int v73), .val (.int v77), .val (.int v79), .unset] [(.int v5)])) _
    refine XS.iload X75.here hx rfl (hb hby at_160) rfl ?_
    exact kt)
  obtain ⟨v83, hv83⟩ : ∃ z : Int32, z = (if v5 = v3 then v79 else (32768 : Int32)) := ⟨_, rfl⟩
  have K85 : Gx p e below s₁ f0 T75 (mkF m 172 #[.val (.int p1), .val (.int p2), .val (.int p3), .val (.int p4), .val (.int p5), .val (.int (3 : Int32)), .val (.int v3), .val (.int v5), .val (.int v7), .val (.ref b9), .val (.ref b43), .val (.int v60), .val (.int v73), .val (.int v77), .val (.int v79), .unset] [(.int v83)]) := fun t kt => K84 t (by
    by_cases hc162_81 : v5 = v3
    · skip
      show Steps p.tables e below (T75.setTop (mkF m 162 #[.val (.int p1), .val (.int p2), .val (.int p3), .val (.int p4), .val (.int p5), .val (.int (3 : Int32)), .val (.int v3), .val (.int v5), .val (.int v7), .val (.ref b9), .val (.ref b43), .val (.int v60), .val (.int v73), .val (.int v77), .val (.int v79), .unset] [(.int v3), (.int v5)])) _
      refine XS.icmpNo X75.here hx rfl (hb hby at_162) rfl (teq hc162_81).2 ?_
      show Steps p.tables e below (T75.setTop (mkF m 165 #[.val (.int p1), .val (.int p2), .val (.int p3), .val (.int p4), .val (.int p5), .val (.int (3 : Int32)), .val (.int v3), .val (.int v5), .val (.int v7), .val (.ref b9), .val (.ref b43), .val (.int v60), .val (.int v73), .val (.int v77), .val (.int v79), .unset] [])) _
      refine XS.iload X75.here hx rfl (hb hby at_165) rfl ?_
      show Steps p.tables e below (T75.setTop (mkF m 167 #[.val (.int p1), .val (.int p2), .val (.int p3), .val (.int p4), .val (.int p5), .val (.int (3 : Int32)), .val (.int v3), .val (.int v5), .val (.int v7), .val (.ref b9), .val (.ref b43), .val (.int v60), .val (.int v73), .val (.int v77), .val (.int v79), .unset] [(.int v79)])) _
      refine XS.goto X75.here hx rfl (pc0 := 167) (pc' := 172) rfl (hb hby at_167) (by decide) (by decide) ?_
      show Steps p.tables e below (T75.setTop (mkF m 172 #[.val (.int p1), .val (.int p2), .val (.int p3), .val (.int p4), .val (.int p5), .val (.int (3 : Int32)), .val (.int v3), .val (.int v5), .val (.int v7), .val (.ref b9), .val (.ref b43), .val (.int v60), .val (.int v73), .val (.int v77), .val (.int v79), .unset] [(.int v79)])) _
      exact castTop (by simp only [hv83, if_pos hc162_81]) kt
    · skip
      show Steps p.tables e below (T75.setTop (mkF m 162 #[.val (.int p1), .val (.int p2), .val (.int p3), .val (.int p4), .val (.int p5), .val (.int (3 : Int32)), .val (.int v3), .val (.int v5), .val (.int v7), .val (.ref b9), .val (.ref b43), .val (.int v60), .val (.int v73), .val (.int v77), .val (.int v79), .unset] [(.int v3), (.int v5)])) _
      refine XS.icmpYes X75.here hx rfl (pc0 := 162) (pc' := 170) rfl (hb hby at_162) rfl (feq hc162_81).2 (by decide) (by decide) ?_
      show Steps p.tables e below (T75.setTop (mkF m 170 #[.val (.int p1), .val (.int p2), .val (.int p3), .val (.int p4), .val (.int p5), .val (.int (3 : Int32)), .val (.int v3), .val (.int v5), .val (.int v7), .val (.ref b9), .val (.ref b43), .val (.int v60), .val (.int v73), .val (.int v77), .val (.int v79), .unset] [])) _
      refine X75.ldcInt hx hown (mvT hZ (hw _ (List.mem_of_getElem? (i := 40) rfl))) (g := (mkF m 170 #[.val (.int p1), .val (.int p2), .val (.int p3), .val (.int p4), .val (.int p5), .val (.int (3 : Int32)), .val (.int v3), .val (.int v5), .val (.int v7), .val (.ref b9), .val (.ref b43), .val (.int v60), .val (.int v73), .val (.int v77), .val (.int v79), .unset] [])) rfl (hb hby at_170) _ ?_
      show Steps p.tables e below (T75.setTop (mkF m 172 #[.val (.int p1), .val (.int p2), .val (.int p3), .val (.int p4), .val (.int p5), .val (.int (3 : Int32)), .val (.int v3), .val (.int v5), .val (.int v7), .val (.ref b9), .val (.ref b43), .val (.int v60), .val (.int v73), .val (.int v77), .val (.int v79), .unset] [(.int (32768 : Int32))])) _
      exact castTop (by simp only [hv83, if_neg hc162_81]) kt)
  have K86 : Gx p e below s₁ f0 T75 (mkF m 200 #[.val (.int p1), .val (.int p2), .val (.int p3), .val (.int p4), .val (.int p5), .val (.int (3 : Int32)), .val (.int v3), .val (.int v5), .val (.int v7), .val (.ref b9), .val (.ref b43), .val (.int v60), .val (.int v73), .val (.int v77), .val (.int v79), .val (.int v83)] [(.int (1 : Int32))]) := fun t kt => K85 t (by
    show Steps p.tables e below (T75.setTop (mkF m 172 #[.val (.int p1), .val (.int p2), .val (.int p3), .val (.int p4), .val (.int p5), .val (.int (3 : Int32)), .val (.int v3), .val (.int v5), .val (.int v7), .val (.ref b9), .val (.ref b43), .val (.int v60), .val (.int v73), .val (.int v77), .val (.int v79), .unset] [(.int v83)])) _
    refine XS.istore X75.here hx rfl (hb hby at_172) rfl (l' := #[.val (.int p1), .val (.int p2), .val (.int p3), .val (.int p4), .val (.int p5), .val (.int (3 : Int32)), .val (.int v3), .val (.int v5), .val (.int v7), .val (.ref b9), .val (.ref b43), .val (.int v60), .val (.int v73), .val (.int v77), .val (.int v79), .val (.int v83)]) rfl ?_
    show Steps p.tables e below (T75.setTop (mkF m 174 #[.val (.int p1), .val (.int p2), .val (.int p3), .val (.int p4), .val (.int p5), .val (.int (3 : Int32)), .val (.int v3), .val (.int v5), .val (.int v7), .val (.ref b9), .val (.ref b43), .val (.int v60), .val (.int v73), .val (.int v77), .val (.int v79), .val (.int v83)] [])) _
    refine XS.iload X75.here hx rfl (hb hby at_174) rfl ?_
    show Steps p.tables e below (T75.setTop (mkF m 176 #[.val (.int p1), .val (.int p2), .val (.int p3), .val (.int p4), .val (.int p5), .val (.int (3 : Int32)), .val (.int v3), .val (.int v5), .val (.int v7), .val (.ref b9), .val (.ref b43), .val (.int v60), .val (.int v73), .val (.int v77), .val (.int v79), .val (.int v83)] [(.int v60)])) _
    refine X75.ldcInt hx hown (mvT hZ (hw _ (List.mem_of_getElem? (i := 40) rfl))) (g := (mkF m 176 #[.val (.int p1), .val (.int p2), .val (.int p3), .val (.int p4), .val (.int p5), .val (.int (3 : Int32)), .val (.int v3), .val (.int v5), .val (.int v7), .val (.ref b9), .val (.ref b43), .val (.int v60), .val (.int v73), .val (.int v77), .val (.int v79), .val (.int v83)] [(.int v60)])) rfl (hb hby at_176) _ ?_
    show Steps p.tables e below (T75.setTop (mkF m 178 #[.val (.int p1), .val (.int p2), .val (.int p3), .val (.int p4), .val (.int p5), .val (.int (3 : Int32)), .val (.int v3), .val (.int v5), .val (.int v7), .val (.ref b9), .val (.ref b43), .val (.int v60), .val (.int v73), .val (.int v77), .val (.int v79), .val (.int v83)] [(.int (32768 : Int32)), (.int v60)])) _
    refine XS.icmpNo X75.here hx rfl (hb hby at_178) rfl (teq (by rw [hv60]; decide)).2 ?_
    show Steps p.tables e below (T75.setTop (mkF m 181 #[.val (.int p1), .val (.int p2), .val (.int p3), .val (.int p4), .val (.int p5), .val (.int (3 : Int32)), .val (.int v3), .val (.int v5), .val (.int v7), .val (.ref b9), .val (.ref b43), .val (.int v60), .val (.int v73), .val (.int v77), .val (.int v79), .val (.int v83)] [])) _
    refine XS.iload X75.here hx rfl (hb hby at_181) rfl ?_
    show Steps p.tables e below (T75.setTop (mkF m 183 #[.val (.int p1), .val (.int p2), .val (.int p3), .val (.int p4), .val (.int p5), .val (.int (3 : Int32)), .val (.int v3), .val (.int v5), .val (.int v7), .val (.ref b9), .val (.ref b43), .val (.int v60), .val (.int v73), .val (.int v77), .val (.int v79), .val (.int v83)] [(.int v73)])) _
    refine XS.iload X75.here hx rfl (hb hby at_183) rfl ?_
    show Steps p.tables e below (T75.setTop (mkF m 185 #[.val (.int p1), .val (.int p2), .val (.int p3), .val (.int p4), .val (.int p5), .val (.int (3 : Int32)), .val (.int v3), .val (.int v5), .val (.int v7), .val (.ref b9), .val (.ref b43), .val (.int v60), .val (.int v73), .val (.int v77), .val (.int v79), .val (.int v83)] [(.int v79), (.int v73)])) _
    refine XS.icmpNo X75.here hx rfl (hb hby at_185) rfl (teq (by rw [hv73, hv79]; exact own_after _)).2 ?_
    show Steps p.tables e below (T75.setTop (mkF m 188 #[.val (.int p1), .val (.int p2), .val (.int p3), .val (.int p4), .val (.int p5), .val (.int (3 : Int32)), .val (.int v3), .val (.int v5), .val (.int v7), .val (.ref b9), .val (.ref b43), .val (.int v60), .val (.int v73), .val (.int v77), .val (.int v79), .val (.int v83)] [])) _
    refine XS.iload X75.here hx rfl (hb hby at_188) rfl ?_
    show Steps p.tables e below (T75.setTop (mkF m 190 #[.val (.int p1), .val (.int p2), .val (.int p3), .val (.int p4), .val (.int p5), .val (.int (3 : Int32)), .val (.int v3), .val (.int v5), .val (.int v7), .val (.ref b9), .val (.ref b43), .val (.int v60), .val (.int v73), .val (.int v77), .val (.int v79), .val (.int v83)] [(.int v77)])) _
    refine XS.iload X75.here hx rfl (hb hby at_190) rfl ?_
    show Steps p.tables e below (T75.setTop (mkF m 192 #[.val (.int p1), .val (.int p2), .val (.int p3), .val (.int p4), .val (.int p5), .val (.int (3 : Int32)), .val (.int v3), .val (.int v5), .val (.int v7), .val (.ref b9), .val (.ref b43), .val (.int v60), .val (.int v73), .val (.int v77), .val (.int v79), .val (.int v83)] [(.int v83), (.int v77)])) _
    refine XS.icmpNo X75.here hx rfl (hb hby at_192) rfl (teq (by rw [hv77, hv83, hv79]; exact own_after2 _ _ _)).2 ?_
    show Steps p.tables e below (T75.setTop (mkF m 195 #[.val (.int p1), .val (.int p2), .val (.int p3), .val (.int p4), .val (.int p5), .val (.int (3 : Int32)), .val (.int v3), .val (.int v5), .val (.int v7), .val (.ref b9), .val (.ref b43), .val (.int v60), .val (.int v73), .val (.int v77), .val (.int v79), .val (.int v83)] [])) _
    refine XS.iconst X75.here hx rfl (hb hby at_195) ?_
    show Steps p.tables e below (T75.setTop (mkF m 196 #[.val (.int p1), .val (.int p2), .val (.int p3), .val (.int p4), .val (.int p5), .val (.int (3 : Int32)), .val (.int v3), .val (.int v5), .val (.int v7), .val (.ref b9), .val (.ref b43), .val (.int v60), .val (.int v73), .val (.int v77), .val (.int v79), .val (.int v83)] [(.int (1 : Int32))])) _
    refine XS.goto X75.here hx rfl (pc0 := 196) (pc' := 200) rfl (hb hby at_196) (by decide) (by decide) ?_
    exact kt)
  obtain ⟨fs87, hr87, hrun87, hended87, hW87, hsame87⟩ := X75.leave (v := some (.int (1 : Int32))) (fun h => by rw [Bd.returns] at h; cases h)
  refine ⟨_, _, pre0 _ (K86 _ ?_), hrun87, hended87, _, _, rfl, ?_, ⟨_, rfl⟩, hW87, hsame87.mono (by decide) (by decide)⟩
  · exact retN X75 hx (t := .boolean) Bd.returns (by simp) (hb hby at_200) hr87
  · show Q0 Z p1 p2 p3 p4 p5 ra kr h0 n0 _ T75.heap _
    rw [e75]
    exact ⟨rfl, N75⟩
theorem rm0 (l : Launch) (Z : State) (a0 : Array Value) (hw : ∀ d ∈ tables_1, d.before a0 Z = true) (ws : List Jvm.Cond) (p1 : Int32) (p2 : Int32) (p3 : Int32) (p4 : Int32) (p5 : Int32) (ra : Addr) (kr : ClassId) (h0 : Heap) (n0 : Nat) (Z0 : n0 ≤ h0.size) (pr0 : Sta Z Z.heap "lastcolumn/stage/Probabilities" "RATES" "[I" (.ref ra)) (pr1 : Arv Z Z.heap ra kr .int (16 : Int32) [(.int (43690 : Int32)), (.int (26214 : Int32)), (.int (18724 : Int32)), (.int (14563 : Int32)), (.int (11915 : Int32)), (.int (10082 : Int32)), (.int (8738 : Int32)), (.int (7710 : Int32)), (.int (6898 : Int32)), (.int (6241 : Int32)), (.int (5698 : Int32)), (.int (5242 : Int32)), (.int (4854 : Int32)), (.int (4519 : Int32)), (.int (4228 : Int32)), (.int (3971 : Int32))] (.int (0 : Int32))) (pr2 : Old Z n0 h0) :
    MetFree l x (head1 (Jvm.Cond.code x code maxLocals ret :: ws) room_1) (fun a U => a = #[(.int p1), (.int p2), (.int p3), (.int p4), (.int p5)] ∧ Z.Warmed39 U.vm ∧ U.heap = h0) (fun _ _ _ _ _ => True) (fun _ U o U' => ∃ v L, o = .returned v ∧ Q0 Z p1 p2 p3 p4 p5 ra kr h0 n0 v U'.heap L ∧ FrameEnd U o U' L room_1.cells room_1.slots) := by
  rcases own_and3 p1 with h | h | h | h
  · exact rm0_0 l Z a0 hw ws p1 p2 p3 p4 p5 ra kr h0 n0 Z0 pr0 pr1 pr2 h
  · exact rm0_1 l Z a0 hw ws p1 p2 p3 p4 p5 ra kr h0 n0 Z0 pr0 pr1 pr2 h
  · exact rm0_2 l Z a0 hw ws p1 p2 p3 p4 p5 ra kr h0 n0 Z0 pr0 pr1 pr2 h
  · exact rm0_3 l Z a0 hw ws p1 p2 p3 p4 p5 ra kr h0 n0 Z0 pr0 pr1 pr2 h
set_option maxRecDepth 65536 in
set_option maxHeartbeats 40000000 in
theorem comes_1 {Post : Tables → Env → Array Value → State → Outcome → State → Prop} (hpost : ∀ tb e args s v u, (limb_1_1.after args s (.returned v) u = true ∧ limb_1_2.after args s (.returned v) u = true ∧ True) → FrameEnd s (.returned v) u (Jvm.fieldLocs frame_1_writes args s ++ Jvm.arrayLocs frame_1_arrays args s ++ Jvm.staticLocs frame_1_statics s) 16 128 → Post tb e args s (.returned v) u) :
    ArmFor flags0 classFile x code maxLocals ret World_1 tables_1 room_1 Calls_1 rest_1 Pre_1 Post := by
  intro l hfl _ _ p e ha hc hk s m args below hf hA hF happ hP
  obtain ⟨hcalls, hrest, hpre⟩ := hP
  obtain ⟨-, -, -, hnamed, -, -, -, hat⟩ := (Spec.applies_iff hf).mp happ
  obtain ⟨hg, hn⟩ := and_e (Cond.before_iff.mp (show (Jvm.Cond.and given_1 narrow_1).before args s = true from hpre))
  obtain ⟨g1, g2⟩ := and_e hg
  obtain ⟨g3, g4⟩ := and_e g2
  obtain ⟨g5, g6⟩ := and_e g4
  obtain ⟨g7, g8⟩ := and_e g6
  obtain ⟨g9, g10⟩ := and_e g8
  obtain ⟨w0, w1, w2, w3, w4, rfl⟩ : ∃ w0 w1 w2 w3 w4 : Value, args = #[w0, w1, w2, w3, w4] := by
    have hs : args.size = 5 := by simpa [Cond.value, given_1] using g1
    obtain ⟨L⟩ := args
    match L, hs with
    | [w0, w1, w2, w3, w4], _ => exact ⟨w0, w1, w2, w3, w4, rfl⟩
  have hw := fun d (hd : d ∈ tables_1) => atoms_spec (ws := Jvm.Cond.code x code maxLocals ret :: tables_1) hat d (List.mem_cons_of_mem _ hd)
  have hfit : Fit s := fun {y c} hc i hi => by
    obtain ⟨ha, rfl⟩ := Array.getElem?_eq_some_iff.mp hc
    have q := List.all_eq_true.mp ((Array.all_eq_true_iff_forall_mem.mp hF) _ (Array.getElem_mem ha)) i (List.mem_range.mpr hi)
    simpa [Array.getElem?_eq_getElem hi] using q
  obtain ⟨i0, ei0⟩ := is_v g3
  obtain rfl : w0 = (.int i0) := Option.some.inj ei0
  obtain ⟨i1, ei1⟩ := is_v g5
  obtain rfl : w1 = (.int i1) := Option.some.inj ei1
  obtain ⟨i2, ei2⟩ := is_v g7
  obtain rfl : w2 = (.int i2) := Option.some.inj ei2
  obtain ⟨i3, ei3⟩ := is_v g9
  obtain rfl : w3 = (.int i3) := Option.some.inj ei3
  obtain ⟨i4, ei4⟩ := is_v g10
  obtain rfl : w4 = (.int i4) := Option.some.inj ei4
  obtain ⟨g11, g12⟩ := and_e hn
  obtain ⟨g13, g14⟩ := and_e g12
  obtain ⟨g15, g16⟩ := and_e g14
  obtain ⟨g17, g18⟩ := and_e g16
  obtain ⟨g19, g20⟩ := and_e g18
  obtain ⟨g21, g22⟩ := and_e g20
  obtain ⟨g23, g24⟩ := and_e g22
  obtain ⟨g25, g26⟩ := and_e g24
  obtain ⟨g27, g28⟩ := and_e g26
  obtain ⟨g29, g30⟩ := and_e g28
  obtain ⟨g31, g32⟩ := and_e g30
  obtain ⟨g33, g34⟩ := and_e g32
  obtain ⟨g35, g36⟩ := and_e g34
  obtain ⟨g37, g38⟩ := and_e g36
  obtain ⟨g39, g40⟩ := and_e g38
  obtain ⟨g41, g42⟩ := and_e g40
  obtain ⟨g43, g44⟩ := and_e g42
  obtain ⟨st45, evst45⟩ := arr_v g11
  have Sst45 := Sta.start evst45 (Or.inr ⟨(hw _ (List.mem_of_getElem? (i := 3) rfl)), (hw _ (List.mem_of_getElem? (i := 34) rfl))⟩)
  obtain ⟨clst45, Ast45⟩ := Arr.start evst45 g11
  have hlen := IntBox.length_fwd (Cond.before_iff.mpr g13) evst45 Ast45.1 Ast45.2.1 Ast45.2.2
  have VR : Arv s s.heap st45 clst45.cls .int (16 : Int32) [(.int (43690 : Int32)), (.int (26214 : Int32)), (.int (18724 : Int32)), (.int (14563 : Int32)), (.int (11915 : Int32)), (.int (10082 : Int32)), (.int (8738 : Int32)), (.int (7710 : Int32)), (.int (6898 : Int32)), (.int (6241 : Int32)), (.int (5698 : Int32)), (.int (5242 : Int32)), (.int (4854 : Int32)), (.int (4519 : Int32)), (.int (4228 : Int32)), (.int (3971 : Int32))] (.int (0 : Int32)) := Arv.start hfit Ast45 hlen.1 hlen.2 (by decide) rfl ⟨own_el evst45 Ast45 g15, own_el evst45 Ast45 g17, own_el evst45 Ast45 g19, own_el evst45 Ast45 g21, own_el evst45 Ast45 g23, own_el evst45 Ast45 g25, own_el evst45 Ast45 g27, own_el evst45 Ast45 g29, own_el evst45 Ast45 g31, own_el evst45 Ast45 g33, own_el evst45 Ast45 g35, own_el evst45 Ast45 g37, own_el evst45 Ast45 g39, own_el evst45 Ast45 g41, own_el evst45 Ast45 g43, own_el evst45 Ast45 g44, trivial⟩
  obtain ⟨n, o, h1, h2, h3, _, L, rfl, ⟨rfl, N⟩, hq⟩ := rm0 l s _ hw tables_1 i0 i1 i2 i3 i4 st45 clst45.cls s.heap s.heap.size (Nat.le_refl _) Sst45 VR (Old.start s) p e ha hc hk s m _ below hf ((Spec.applies_iff_loose hf).mp happ).1 ⟨rfl, State.Warmed39.refl s, rfl⟩ trivial
  refine ⟨n, _, h1, h2, h3, hpost _ _ _ _ _ _ ⟨Cond.after_iff.mpr rfl, Cond.after_iff.mpr (eq_i res_at (Term.int_eval (1)) rfl), trivial⟩ ⟨hq.1, hq.2.1, (hq.2.2.sift fun y hy => Or.inr (N y hy)).mono (by decide) (by decide)⟩⟩
theorem main_1_1 : Claimed_1_1 := comes_1 fun _ _ _ _ _ _ h hF => ⟨h.1, hF⟩
theorem main_1_2 : Claimed_1_2 := comes_1 fun _ _ _ _ _ _ h hF => ⟨h.2.1, hF⟩
end Jvm.Pilot.@@N@@
namespace Jvm.Pilot.@@N@@
open Jvm Jvm.ClassFile Sem Op Lib Jvm.Free Jvm.Stand Jvm.Pilot.@@N@@.Jvm.D
/-! MADE BY PROGRAM (witnessworld.py) out of the Statement's table words and the real class files: 11 classes; the members and pool entries that the words name. The judged class is class 1, her method 1. -/
namespace start1
open Jvm.ClassFile
def u (s : String) : CpInfo := .utf8 (stringToUtf16 s)
/-- a pool by its gaps: so many unusable entries, then the entry; so many at the end -/
def gap : Nat → List CpInfo → List CpInfo
  | 0, r => r
  | n + 1, r => .unusable :: gap n r
def poolList (es : List (Nat × CpInfo)) (last : Nat) : List CpInfo := es.foldr (fun e r => gap e.1 (e.2 :: r)) (gap last [])
def pool (es : List (Nat × CpInfo)) (last : Nat) : Array CpInfo := ⟨poolList es last⟩
def fileOf (pool : Array CpInfo) (this : Nat) (attrs : Array Attribute := #[]) (ms : Array MethodInfo := #[]) (fl : Nat := 33) (sup : Nat := 0) (ifs : Array Nat := #[]) (fds : Array FieldInfo := #[]) : ClassFile where
  minorVersion := 0
  majorVersion := 65
  constantPool := pool
  accessFlags := fl
  thisClass := this
  superClass := sup
  interfaces := ifs
  fields := fds
  methods := ms
  attributes := attrs
def plain (name : String) (sup : Option ClassId) : Class where
  name := name
  kind := .ordinary
  loader := none
  accessFlags := 33
  super := sup
  interfaces := #[]
  cf := none
  fields := #[]
  methods := #[]
  instanceTypes := #[]
  staticTypes := #[]
  resolved := #[]
  callSites := []
  init := .initialized
  statics := none
  mirror := none

def pool0 : Array CpInfo := pool [(5, u "<init>"), (0, u "()V"), (1, .class_ 10), (1, u "java/lang/Object")] 113

def k0c0 : Code := { maxStack := 0, maxLocals := 1, code := object_method_1_code, exceptionTable := #[], attributes := #[] }
def k0m0 : Method := { name := "<init>", desc := "()V", sig := { parameters := [], returnType := none }, accessFlags := 1, code := some k0c0 }
/-- java/lang/Object -/
def k0 : Class := { plain "java/lang/Object" none with
  accessFlags := 33
  interfaces := #[]
  cf := some (fileOf pool0 8 #[] #[{ accessFlags := 1, nameIndex := 5, descriptorIndex := 6, attributes := #[] }] 33 0 #[] #[])
  fields := #[]
  methods := #[k0m0]
  instanceTypes := #[]
  staticTypes := #[]
  resolved := Array.replicate 124 none
  statics := none }

def pool1 : Array CpInfo := pool [(2, .class_ 4), (1, u "java/lang/Object"), (0, u "<init>"), (0, u "()V"), (0, .class_ 8), (0, u "lastcolumn/stage/Probabilities"), (0, .methodref 7 10), (0, .nameAndType 5 11), (0, u "([III)V"), (0, .methodref 7 13), (0, .nameAndType 14 15), (0, u "ofOne"), (0, u "(I)I"), (0, .methodref 7 17), (0, .nameAndType 18 19), (0, u "learn"), (0, u "(II)V"), (0, .integer 54612), (0, .integer 32768), (0, .class_ 23), (0, u "lastcolumn/stage/ProbabilitiesOfOnePinLaw"), (2, u "law"), (0, u "(IIIII)Z")] 5

def k1m0 : Method := { name := "<init>", desc := "()V", sig := { parameters := [], returnType := none }, accessFlags := 1, code := none }
def k1c1 : Code := { maxStack := 5, maxLocals := 16, code := code, exceptionTable := #[], attributes := #[] }
def k1m1 : Method := { name := "law", desc := "(IIIII)Z", sig := { parameters := [.int, .int, .int, .int, .int], returnType := some .boolean }, accessFlags := 9, code := some k1c1 }
/-- lastcolumn/stage/ProbabilitiesOfOnePinLaw -/
def k1 : Class := { plain "lastcolumn/stage/ProbabilitiesOfOnePinLaw" (some 0) with
  accessFlags := 49
  interfaces := #[]
  cf := some (fileOf pool1 22 #[] #[{ accessFlags := 1, nameIndex := 5, descriptorIndex := 6, attributes := #[] }, { accessFlags := 9, nameIndex := 26, descriptorIndex := 27, attributes := #[] }] 49 2 #[] #[])
  fields := #[]
  methods := #[k1m0, k1m1]
  instanceTypes := #[]
  staticTypes := #[]
  resolved := Array.replicate 33 none
  statics := none }

def pool2 : Array CpInfo := pool [(3, .class_ 4), (0, u "lastcolumn/stage/Probabilities"), (0, .methodref 6 7), (0, .class_ 8), (0, .nameAndType 9 10), (0, u "java/lang/Object"), (0, u "<init>"), (0, u "()V"), (0, .fieldref 3 12), (0, .nameAndType 13 14), (0, u "states"), (0, u "[I"), (0, .fieldref 3 16), (0, .nameAndType 17 18), (0, u "at"), (0, u "I"), (0, .integer 2147483648), (0, .methodref 21 22), (0, .class_ 23), (0, .nameAndType 24 25), (0, u "java/util/Arrays"), (0, u "fill"), (0, u "([IIII)V"), (2, .long 4194303), (1, .fieldref 3 31), (0, .nameAndType 32 14), (0, u "RATES"), (0, .methodref 34 35), (0, .class_ 36), (0, .nameAndType 37 38), (0, u "java/lang/Math"), (0, u "min"), (0, u "(II)I"), (4, u "BITS"), (2, u "COUNT_BITS"), (1, u "COUNT_MASK"), (1, u "LIMIT"), (1, u "([III)V"), (2, u "ofOne"), (0, u "(I)I"), (0, u "learn"), (0, u "(II)V")] 4

def k2c0 : Code := { maxStack := 4, maxLocals := 4, code := prog_31_method_1_code, exceptionTable := #[], attributes := #[] }
def k2m0 : Method := { name := "<init>", desc := "([III)V", sig := { parameters := [(.array .int), .int, .int], returnType := none }, accessFlags := 0, code := some k2c0 }
def k2c1 : Code := { maxStack := 3, maxLocals := 2, code := prog_31_method_2_code, exceptionTable := #[], attributes := #[] }
def k2m1 : Method := { name := "ofOne", desc := "(I)I", sig := { parameters := [.int], returnType := some .int }, accessFlags := 0, code := some k2c1 }
def k2c2 : Code := { maxStack := 6, maxLocals := 11, code := prog_31_method_3_code, exceptionTable := #[], attributes := #[] }
def k2m2 : Method := { name := "learn", desc := "(II)V", sig := { parameters := [.int, .int], returnType := none }, accessFlags := 0, code := some k2c2 }
/-- lastcolumn/stage/Probabilities -/
def k2 : Class := { plain "lastcolumn/stage/Probabilities" (some 0) with
  accessFlags := 48
  interfaces := #[]
  cf := some (fileOf pool2 3 #[] #[{ accessFlags := 0, nameIndex := 9, descriptorIndex := 52, attributes := #[] }, { accessFlags := 0, nameIndex := 55, descriptorIndex := 56, attributes := #[] }, { accessFlags := 0, nameIndex := 57, descriptorIndex := 58, attributes := #[] }] 48 6 #[] #[{ accessFlags := 26, nameIndex := 43, descriptorIndex := 18, attributes := #[] }, { accessFlags := 26, nameIndex := 46, descriptorIndex := 18, attributes := #[] }, { accessFlags := 26, nameIndex := 48, descriptorIndex := 18, attributes := #[] }, { accessFlags := 26, nameIndex := 50, descriptorIndex := 18, attributes := #[] }, { accessFlags := 26, nameIndex := 32, descriptorIndex := 14, attributes := #[] }, { accessFlags := 18, nameIndex := 13, descriptorIndex := 14, attributes := #[] }, { accessFlags := 18, nameIndex := 17, descriptorIndex := 18, attributes := #[] }])
  fields := #[{ name := "BITS", type := .int, accessFlags := 26, slot := 0, constantValue := 0 }, { name := "COUNT_BITS", type := .int, accessFlags := 26, slot := 1, constantValue := 0 }, { name := "COUNT_MASK", type := .int, accessFlags := 26, slot := 2, constantValue := 0 }, { name := "LIMIT", type := .int, accessFlags := 26, slot := 3, constantValue := 0 }, { name := "RATES", type := (.array .int), accessFlags := 26, slot := 4, constantValue := 0 }, { name := "states", type := (.array .int), accessFlags := 18, slot := 0, constantValue := 0 }, { name := "at", type := .int, accessFlags := 18, slot := 1, constantValue := 0 }]
  methods := #[k2m0, k2m1, k2m2]
  instanceTypes := #[(.array .int), .int]
  staticTypes := #[.int, .int, .int, .int, (.array .int)]
  resolved := Array.replicate 63 none
  statics := some 0 }

def pool3 : Array CpInfo := pool [(2, .class_ 4), (1, u "java/lang/Object"), (0, u "<init>"), (0, u "()V"), (5, u "([IIII)V"), (0, .methodref 14 15), (0, .class_ 16), (0, .nameAndType 17 18), (0, u "java/util/Arrays"), (0, u "rangeCheck"), (0, u "(III)V"), (55, .class_ 76), (1, u "java/util/Arrays$NaturalOrder"), (36, .class_ 115), (1, u "java/util/Arrays$LegacyMergeSort"), (1, u "Z"), (257, .class_ 376), (0, u "java/util/Arrays$ArrayList"), (68, u "$assertionsDisabled"), (269, u "MIN_ARRAY_SORT_GRAN"), (0, u "I"), (2, u "INSERTIONSORT_THRESHOLD"), (120, u "fill"), (134, .class_ 976), (0, u "java/util/Arrays$ArrayItr")] 52

def k3m0 : Method := { name := "<init>", desc := "()V", sig := { parameters := [], returnType := none }, accessFlags := 2, code := none }
def k3c1 : Code := { maxStack := 4, maxLocals := 3, code := jdk_65_method_30_code, exceptionTable := #[], attributes := #[] }
def k3m1 : Method := { name := "rangeCheck", desc := "(III)V", sig := { parameters := [.int, .int, .int], returnType := none }, accessFlags := 8, code := some k3c1 }
def k3c2 : Code := { maxStack := 3, maxLocals := 5, code := jdk_65_method_104_code, exceptionTable := #[], attributes := #[] }
def k3m2 : Method := { name := "fill", desc := "([IIII)V", sig := { parameters := [(.array .int), .int, .int, .int], returnType := none }, accessFlags := 9, code := some k3c2 }
/-- java/util/Arrays -/
def k3 : Class := { plain "java/util/Arrays" (some 0) with
  accessFlags := 49
  interfaces := #[]
  cf := some (fileOf pool3 14 #[.nestMembers #[975, 375, 113, 74]] #[{ accessFlags := 2, nameIndex := 5, descriptorIndex := 6, attributes := #[] }, { accessFlags := 8, nameIndex := 17, descriptorIndex := 18, attributes := #[] }, { accessFlags := 9, nameIndex := 840, descriptorIndex := 12, attributes := #[] }] 49 2 #[] #[{ accessFlags := 26, nameIndex := 715, descriptorIndex := 716, attributes := #[] }, { accessFlags := 26, nameIndex := 719, descriptorIndex := 716, attributes := #[] }, { accessFlags := 4120, nameIndex := 445, descriptorIndex := 117, attributes := #[] }])
  fields := #[{ name := "MIN_ARRAY_SORT_GRAN", type := .int, accessFlags := 26, slot := 0, constantValue := 0 }, { name := "INSERTIONSORT_THRESHOLD", type := .int, accessFlags := 26, slot := 1, constantValue := 0 }, { name := "$assertionsDisabled", type := .boolean, accessFlags := 4120, slot := 2, constantValue := 0 }]
  methods := #[k3m0, k3m1, k3m2]
  instanceTypes := #[]
  staticTypes := #[.int, .int, .boolean]
  resolved := Array.replicate 1029 none
  statics := none }

def pool4 : Array CpInfo := pool [(1, .class_ 2), (0, u "java/lang/Math"), (1, .class_ 6), (1, u "java/lang/Object"), (0, u "<init>"), (0, u "()V"), (89, .class_ 100), (1, u "java/lang/Math$RandomNumberGeneratorHolder"), (71, u "negativeZeroFloatBits"), (0, u "J"), (2, u "negativeZeroDoubleBits"), (24, u "min"), (43, u "$assertionsDisabled"), (0, u "Z"), (88, u "(II)I"), (2, u "twoToTheDoubleScaleDown"), (0, u "D"), (4, u "twoToTheDoubleScaleUp"), (9, u "E"), (3, u "PI"), (2, u "TAU"), (2, u "DEGREES_TO_RADIANS"), (0, u "RADIANS_TO_DEGREES")] 94

def k4m0 : Method := { name := "<init>", desc := "()V", sig := { parameters := [], returnType := none }, accessFlags := 2, code := none }
def k4c1 : Code := { maxStack := 2, maxLocals := 2, code := jdk_29_method_69_code, exceptionTable := #[], attributes := #[] }
def k4m1 : Method := { name := "min", desc := "(II)I", sig := { parameters := [.int, .int], returnType := some .int }, accessFlags := 9, code := some k4c1 }
/-- java/lang/Math -/
def k4 : Class := { plain "java/lang/Math" (some 0) with
  accessFlags := 49
  interfaces := #[]
  cf := some (fileOf pool4 1 #[.nestMembers #[98]] #[{ accessFlags := 2, nameIndex := 7, descriptorIndex := 8, attributes := #[] }, { accessFlags := 9, nameIndex := 201, descriptorIndex := 335, attributes := #[] }] 49 4 #[] #[{ accessFlags := 25, nameIndex := 354, descriptorIndex := 339, attributes := #[] }, { accessFlags := 25, nameIndex := 358, descriptorIndex := 339, attributes := #[] }, { accessFlags := 25, nameIndex := 361, descriptorIndex := 339, attributes := #[] }, { accessFlags := 26, nameIndex := 364, descriptorIndex := 339, attributes := #[] }, { accessFlags := 26, nameIndex := 365, descriptorIndex := 339, attributes := #[] }, { accessFlags := 26, nameIndex := 172, descriptorIndex := 173, attributes := #[] }, { accessFlags := 26, nameIndex := 176, descriptorIndex := 173, attributes := #[] }, { accessFlags := 8, nameIndex := 344, descriptorIndex := 339, attributes := #[] }, { accessFlags := 8, nameIndex := 338, descriptorIndex := 339, attributes := #[] }, { accessFlags := 4120, nameIndex := 245, descriptorIndex := 246, attributes := #[] }])
  fields := #[{ name := "E", type := .double, accessFlags := 25, slot := 0, constantValue := 0 }, { name := "PI", type := .double, accessFlags := 25, slot := 1, constantValue := 0 }, { name := "TAU", type := .double, accessFlags := 25, slot := 2, constantValue := 0 }, { name := "DEGREES_TO_RADIANS", type := .double, accessFlags := 26, slot := 3, constantValue := 0 }, { name := "RADIANS_TO_DEGREES", type := .double, accessFlags := 26, slot := 4, constantValue := 0 }, { name := "negativeZeroFloatBits", type := .long, accessFlags := 26, slot := 5, constantValue := 0 }, { name := "negativeZeroDoubleBits", type := .long, accessFlags := 26, slot := 6, constantValue := 0 }, { name := "twoToTheDoubleScaleUp", type := .double, accessFlags := 8, slot := 7, constantValue := 0 }, { name := "twoToTheDoubleScaleDown", type := .double, accessFlags := 8, slot := 8, constantValue := 0 }, { name := "$assertionsDisabled", type := .boolean, accessFlags := 4120, slot := 9, constantValue := 0 }]
  methods := #[k4m0, k4m1]
  instanceTypes := #[]
  staticTypes := #[.double, .double, .double, .double, .double, .long, .long, .double, .double, .boolean]
  resolved := Array.replicate 460 none
  statics := none }

def pool5 : Array CpInfo := pool [(1, u "java/lang/Cloneable"), (0, .class_ 1), (0, u "java/lang/Object"), (0, .class_ 3)] 3

/-- java/lang/Cloneable -/
def k5 : Class := { plain "java/lang/Cloneable" (some 0) with
  accessFlags := 1537
  interfaces := #[]
  cf := some (fileOf pool5 2 #[] #[] 1537 4 #[] #[])
  fields := #[]
  methods := #[]
  instanceTypes := #[]
  staticTypes := #[]
  resolved := Array.replicate 8 none
  statics := none }

def pool6 : Array CpInfo := pool [(1, u "java/io/Serializable"), (0, .class_ 1), (0, u "java/lang/Object"), (0, .class_ 3)] 3

/-- java/io/Serializable -/
def k6 : Class := { plain "java/io/Serializable" (some 0) with
  accessFlags := 1537
  interfaces := #[]
  cf := some (fileOf pool6 2 #[] #[] 1537 4 #[] #[])
  fields := #[]
  methods := #[]
  instanceTypes := #[]
  staticTypes := #[]
  resolved := Array.replicate 8 none
  statics := none }

/-- the primitive byte -/
def k7 : Class := { plain "byte" none with kind := .primitive 'B', accessFlags := 0x411 }
/-- [B -/
def k8 : Class := { plain "[B" (some 0) with kind := .array 7 .byte, interfaces := #[5, 6], accessFlags := 1041 }

/-- the primitive int -/
def k9 : Class := { plain "int" none with kind := .primitive 'I', accessFlags := 0x411 }
/-- [I -/
def k10 : Class := { plain "[I" (some 0) with kind := .array 9 .int, interfaces := #[5, 6], accessFlags := 1041 }

def heap : Heap := #[{ cls := 2, slots := #[.int 0, .int 0, .int 0, .int 0, .ref 1], vm := .statics 2 },
  { cls := 10, slots := #[.int 43690, .int 26214, .int 18724, .int 14563, .int 11915, .int 10082, .int 8738, .int 7710, .int 6898, .int 6241, .int 5698, .int 5242, .int 4854, .int 4519, .int 4228, .int 3971], vm := .none }]
def classes : Array Class := #[k0, k1, k2, k3, k4, k5, k6, k7, k8, k9, k10]
def interned : List (Array UInt16 × Addr) := []
def slotsUsed : Nat := 21
def theMethod : MethodId := ⟨1, 1⟩
def args0 : Array Value := #[.int 5, .int 6, .int 7, .int 8, .int 9]
def aboutOver (below : List Frame) : State where
  vm := { classes := classes, interned := interned.toArray }
  heap := heap
  slotsUsed := slotsUsed
  threads := #[{ frames := .invoking theMethod args0 :: below }]
def below0 : List Frame := [.native { method := ⟨0, 0⟩, args := #[] }]
def about1 : State := aboutOver below0
def p0 : Program := .bare "" "" ""
def e0 : Env := launch0.env 0 0 0
theorem w_frames : about1.frames = Frame.invoking theMethod args0 :: below0 := rfl
set_option maxRecDepth 65536 in
theorem w_args : argsFit about1.vm theMethod args0 = true := by decide +kernel
set_option maxRecDepth 65536 in
theorem w_heap : heapFits about1 = true := by decide +kernel
set_option maxRecDepth 65536 in
theorem w_runnable : about1.curStatus? = some .runnable := by decide +kernel
set_option maxRecDepth 65536 in
theorem w_alone : about1.alone = true := by decide +kernel
set_option maxRecDepth 65536 in
theorem w_named : about1.methodNamed? x = some theMethod := by decide +kernel
set_option maxRecDepth 65536 in
theorem w_hears : about1.hears theMethod below0 = true := by decide +kernel
set_option maxRecDepth 65536 in
theorem w_ripe : about1.ripe theMethod args0 below0 = true := by decide +kernel
theorem w_running : about1.status = .running := rfl
set_option maxRecDepth 65536 in
theorem w_room : about1.hasRoom e0.platform room_1 = true :=
  launch0.hasRoom_least _ room_1 (by decide +kernel) (by decide +kernel) (by decide +kernel) (by decide +kernel) (by decide +kernel) (by decide +kernel)
theorem allAtoms_all (ts : List Jvm.Cond) (a : Array Jvm.Value) (st : Jvm.State) : (allAtoms ts).before a st = ts.all (fun c => c.before a st) := by
  induction ts with
  | nil => rfl
  | cons c t ih =>
    show (Jvm.Cond.and c (allAtoms t)).before a st = _
    rw [Jvm.Cond.before_and, ih, List.all_cons]
def words1 : List Jvm.Cond := Jvm.Cond.code x code maxLocals ret :: tables_1
/-- a 'code' word, met by the world's own term for the bytes: nothing is compared byte by byte -/
theorem code_word {y : MethodName} {bytes : ByteArray} {mx : Nat} {rt : Option FieldType} {a : Array Value} {s : State} {m : MethodId} {meth : Method} {c : Code} (h1 : s.methodNamed? y = some m) (h2 : s.vm.method? m = some meth) (h3 : meth.code = some c) (h4 : c.code = bytes)
    (h5 : (c.maxLocals == mx && c.exceptionTable.isEmpty && decide (c.maxStack ≤ mostOperands) && decide (meth.sig.returnType = rt) && !meth.locks && decide (parseMethodDescriptor y.desc = some meth.sig)) = true) : (Jvm.Cond.code y bytes mx rt).before a s = true := by
  simp only [Bool.and_eq_true, beq_iff_eq, Bool.not_eq_true', decide_eq_true_eq] at h5
  obtain ⟨⟨⟨⟨⟨g1, g2⟩, g3⟩, g4⟩, g5⟩, g6⟩ := h5
  simp [Cond.before, Cond.holds, Cond.value, h1, h2, h3, h4, g1, g2, g3, g4, g5, g6]
def isCode : Jvm.Cond → Bool
  | .code _ _ _ _ => true
  | _ => false
theorem all_split {L : List Jvm.Cond} {P : Jvm.Cond → Bool} (h1 : L.all (fun c => isCode c || P c) = true) (h2 : ∀ c ∈ L.filter isCode, P c = true) : L.all P = true := by
  refine List.all_eq_true.mpr fun c hc => ?_
  have h := List.all_eq_true.mp h1 c hc
  rcases Bool.eq_false_or_eq_true (isCode c) with hi | hi
  · exact h2 c (List.mem_filter.mpr ⟨hc, hi⟩)
  · simpa [hi] using h
set_option maxRecDepth 65536 in
theorem w_c0 : (Jvm.Cond.code x code maxLocals ret).before args0 about1 = true := code_word (m := ⟨1, 1⟩) (meth := k1m1) (c := k1c1) (by decide +kernel) rfl rfl rfl (by decide +kernel)
set_option maxRecDepth 65536 in
theorem w_c1 : (Jvm.Cond.code ({ cls := "lastcolumn/stage/Probabilities", name := "<init>", desc := "([III)V" } : Jvm.MethodName) prog_31_method_1_code (4 : Nat) (Option.none : Option Jvm.ClassFile.FieldType)).before args0 about1 = true := code_word (m := ⟨2, 0⟩) (meth := k2m0) (c := k2c0) (by decide +kernel) rfl rfl rfl (by decide +kernel)
set_option maxRecDepth 65536 in
theorem w_c2 : (Jvm.Cond.code ({ cls := "java/lang/Object", name := "<init>", desc := "()V" } : Jvm.MethodName) object_method_1_code (1 : Nat) (Option.none : Option Jvm.ClassFile.FieldType)).before args0 about1 = true := code_word (m := ⟨0, 0⟩) (meth := k0m0) (c := k0c0) (by decide +kernel) rfl rfl rfl (by decide +kernel)
set_option maxRecDepth 65536 in
theorem w_c3 : (Jvm.Cond.code ({ cls := "java/util/Arrays", name := "fill", desc := "([IIII)V" } : Jvm.MethodName) jdk_65_method_104_code (5 : Nat) (Option.none : Option Jvm.ClassFile.FieldType)).before args0 about1 = true := code_word (m := ⟨3, 2⟩) (meth := k3m2) (c := k3c2) (by decide +kernel) rfl rfl rfl (by decide +kernel)
set_option maxRecDepth 65536 in
theorem w_c4 : (Jvm.Cond.code ({ cls := "java/util/Arrays", name := "rangeCheck", desc := "(III)V" } : Jvm.MethodName) jdk_65_method_30_code (3 : Nat) (Option.none : Option Jvm.ClassFile.FieldType)).before args0 about1 = true := code_word (m := ⟨3, 1⟩) (meth := k3m1) (c := k3c1) (by decide +kernel) rfl rfl rfl (by decide +kernel)
set_option maxRecDepth 65536 in
theorem w_c5 : (Jvm.Cond.code ({ cls := "lastcolumn/stage/Probabilities", name := "ofOne", desc := "(I)I" } : Jvm.MethodName) prog_31_method_2_code (2 : Nat) (Option.some Jvm.ClassFile.FieldType.int)).before args0 about1 = true := code_word (m := ⟨2, 1⟩) (meth := k2m1) (c := k2c1) (by decide +kernel) rfl rfl rfl (by decide +kernel)
set_option maxRecDepth 65536 in
theorem w_c6 : (Jvm.Cond.code ({ cls := "lastcolumn/stage/Probabilities", name := "learn", desc := "(II)V" } : Jvm.MethodName) prog_31_method_3_code (11 : Nat) (Option.none : Option Jvm.ClassFile.FieldType)).before args0 about1 = true := code_word (m := ⟨2, 2⟩) (meth := k2m2) (c := k2c2) (by decide +kernel) rfl rfl rfl (by decide +kernel)
set_option maxRecDepth 65536 in
theorem w_c7 : (Jvm.Cond.code ({ cls := "java/lang/Math", name := "min", desc := "(II)I" } : Jvm.MethodName) jdk_29_method_69_code (2 : Nat) (Option.some Jvm.ClassFile.FieldType.int)).before args0 about1 = true := code_word (m := ⟨4, 1⟩) (meth := k4m1) (c := k4c1) (by decide +kernel) rfl rfl rfl (by decide +kernel)
def codes1 : List Jvm.Cond := [Jvm.Cond.code x code maxLocals ret, Jvm.Cond.code ({ cls := "lastcolumn/stage/Probabilities", name := "<init>", desc := "([III)V" } : Jvm.MethodName) prog_31_method_1_code (4 : Nat) (Option.none : Option Jvm.ClassFile.FieldType), Jvm.Cond.code ({ cls := "java/lang/Object", name := "<init>", desc := "()V" } : Jvm.MethodName) object_method_1_code (1 : Nat) (Option.none : Option Jvm.ClassFile.FieldType), Jvm.Cond.code ({ cls := "java/util/Arrays", name := "fill", desc := "([IIII)V" } : Jvm.MethodName) jdk_65_method_104_code (5 : Nat) (Option.none : Option Jvm.ClassFile.FieldType), Jvm.Cond.code ({ cls := "java/util/Arrays", name := "rangeCheck", desc := "(III)V" } : Jvm.MethodName) jdk_65_method_30_code (3 : Nat) (Option.none : Option Jvm.ClassFile.FieldType), Jvm.Cond.code ({ cls := "lastcolumn/stage/Probabilities", name := "ofOne", desc := "(I)I" } : Jvm.MethodName) prog_31_method_2_code (2 : Nat) (Option.some Jvm.ClassFile.FieldType.int), Jvm.Cond.code ({ cls := "lastcolumn/stage/Probabilities", name := "learn", desc := "(II)V" } : Jvm.MethodName) prog_31_method_3_code (11 : Nat) (Option.none : Option Jvm.ClassFile.FieldType), Jvm.Cond.code ({ cls := "java/lang/Math", name := "min", desc := "(II)I" } : Jvm.MethodName) jdk_29_method_69_code (2 : Nat) (Option.some Jvm.ClassFile.FieldType.int)]
set_option maxRecDepth 65536 in
theorem codes_eq : words1.filter isCode = codes1 := rfl
theorem w_codes : ∀ c ∈ words1.filter isCode, c.before args0 about1 = true := by
  rw [codes_eq]
  intro c hc
  simp only [codes1, List.mem_cons, List.not_mem_nil, or_false] at hc
  rcases hc with rfl | rfl | rfl | rfl | rfl | rfl | rfl | rfl
  · exact w_c0
  · exact w_c1
  · exact w_c2
  · exact w_c3
  · exact w_c4
  · exact w_c5
  · exact w_c6
  · exact w_c7
set_option maxRecDepth 65536 in
theorem w_t1 : (words1.take 24).all (fun c => isCode c || c.before args0 about1) = true := by decide +kernel
set_option maxRecDepth 65536 in
theorem w_t2 : (words1.drop 24).all (fun c => isCode c || c.before args0 about1) = true := by decide +kernel
theorem w_tables : (allAtoms (Jvm.Cond.code x code maxLocals ret :: tables_1)).before args0 about1 = true := by
  rw [allAtoms_all]
  show words1.all (fun c => c.before args0 about1) = true
  refine all_split ?_ w_codes
  rw [← List.take_append_drop 24 words1, List.all_append, w_t1, w_t2]
  rfl
set_option maxRecDepth 65536 in
theorem w_case : (Jvm.Cond.and given_1 narrow_1).before args0 about1 = true := by decide +kernel
theorem w_applies : (headSpec (Jvm.Cond.code x code maxLocals ret :: tables_1) room_1).applies x e0.platform about1 = true :=
  (Spec.applies_iff w_frames).mpr ⟨w_running, w_runnable, w_alone, w_named, w_hears, w_ripe, w_room, w_tables⟩
theorem atStart : AtStart classFile x code maxLocals ret World_1 tables_1 room_1 Calls_1 rest_1 Pre_1 launch0 p0 e0 about1 theMethod args0 below0 :=
  ⟨lists_1, trivial, launch0.admits_env _ _ _, launch0.least_env, fairChoices_fair.cas, fairChoices_fair.clock, w_frames, w_args, w_heap, w_applies, trivial, trivial, w_case⟩
end start1
theorem witness_1 : WitnessClaimed_1 := ⟨start1.p0, start1.e0, start1.about1, start1.theMethod, start1.args0, start1.below0, start1.atStart⟩
end Jvm.Pilot.@@N@@
