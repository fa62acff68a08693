import JvmDerived
import JvmDerived.Pilot.@@N@@Statement
import JvmDerived.Pilot.@@N@@Code
set_option linter.unusedVariables false
set_option linter.unusedSimpArgs false
namespace Jvm.RoadKit
open Sem ClassFile Op Lib Jvm.Stand Jvm.Free Jvm.LawKit
section New
variable {p : Program} {l : Launch} {e : Env} {R : Room} {s : State} {m : MethodId} {args : Array Value} {below : List Frame} {meth : Method} {c : Code} {T : State} {locs : List Loc} {cells slots : Nat}
theorem retI (X : Stand p l e R s m args below meth c T locs cells slots) (hx : p.tables.exec = Jvm.exec) {pc : Nat} {Ls : Array Slot} {z : Int32} {rest : List Value} (hret : meth.sig.returnType = some .int) (hd : decode c.code pc = .ok (.ireturn, 1)) {fs : List Frame}
    (hl : ∀ (f : JFrame) (acts : List Action), f.method = m → f.locked = none → f.entered = [] → (doReturn e (T.setTop f) acts (some (.int z))).1 = T.setFrames fs) : Steps p.tables e below (T.setTop (mkF m pc Ls (.int z :: rest))) (T.setFrames fs) := by
  have hm' : T.vm.method? m = some meth := X.method'
  have hn : narrow .int (.int z) = .int z := rfl
  show Steps p.tables e below (T.setTop { method := m, pc := pc, locals := Ls, stack := _ :: rest, locked := none }) _
  jvm_step X.here [X.here.top, hx, hd, hm', hret, hn]
  first | (intro acts; rw [hl _ acts rfl rfl rfl]) | rw [hl _ _ rfl rfl rfl]
  exact Steps.refl _
end New
end Jvm.RoadKit
namespace Jvm.Pilot.@@N@@
open Jvm Jvm.ClassFile Sem Op Lib Jvm.Free Jvm.Stand Jvm.LawKit Jvm.RoadKit Bundle Jvm.Pilot.@@N@@.Jvm.D
abbrev Gx (p : Program) (e : Env) (below : List Frame) (T0 : State) (f0 : JFrame) (T : State) (f : JFrame) : Prop := ∀ t, Steps p.tables e below (T.setTop f) t → Steps p.tables e below (T0.setTop f0) t
theorem d1_0 : decode prog_41_method_3_code 0 = .ok (.iconst 0, 1) := by decide +kernel
theorem d1_1 : decode prog_41_method_3_code 1 = .ok (.istore_n 1, 1) := by decide +kernel
theorem d1_2 : decode prog_41_method_3_code 2 = .ok (.iconst 0, 1) := by decide +kernel
theorem d1_3 : decode prog_41_method_3_code 3 = .ok (.istore_n 2, 1) := by decide +kernel
theorem d1_4 : decode prog_41_method_3_code 4 = .ok (.iload_n 2, 1) := by decide +kernel
theorem d1_5 : decode prog_41_method_3_code 5 = .ok (.aload_n 0, 1) := by decide +kernel
theorem d1_6 : decode prog_41_method_3_code 6 = .ok (.arraylength, 1) := by decide +kernel
theorem d1_7 : decode prog_41_method_3_code 7 = .ok (.if_icmp .ge 21, 3) := by decide +kernel
theorem d1_10 : decode prog_41_method_3_code 10 = .ok (.aload_n 0, 1) := by decide +kernel
theorem d1_11 : decode prog_41_method_3_code 11 = .ok (.iload_n 2, 1) := by decide +kernel
theorem d1_12 : decode prog_41_method_3_code 12 = .ok (.iaload, 1) := by decide +kernel
theorem d1_13 : decode prog_41_method_3_code 13 = .ok (.istore_n 3, 1) := by decide +kernel
theorem d1_14 : decode prog_41_method_3_code 14 = .ok (.aload_n 0, 1) := by decide +kernel
theorem d1_15 : decode prog_41_method_3_code 15 = .ok (.iload_n 2, 1) := by decide +kernel
theorem d1_16 : decode prog_41_method_3_code 16 = .ok (.iload_n 1, 1) := by decide +kernel
theorem d1_17 : decode prog_41_method_3_code 17 = .ok (.iastore, 1) := by decide +kernel
theorem d1_18 : decode prog_41_method_3_code 18 = .ok (.iload_n 1, 1) := by decide +kernel
theorem d1_19 : decode prog_41_method_3_code 19 = .ok (.iload_n 3, 1) := by decide +kernel
theorem d1_20 : decode prog_41_method_3_code 20 = .ok (.iadd, 1) := by decide +kernel
theorem d1_21 : decode prog_41_method_3_code 21 = .ok (.istore_n 1, 1) := by decide +kernel
theorem d1_22 : decode prog_41_method_3_code 22 = .ok (.iinc 2 1, 3) := by decide +kernel
theorem d1_25 : decode prog_41_method_3_code 25 = .ok (.goto (-21), 3) := by decide +kernel
theorem d1_28 : decode prog_41_method_3_code 28 = .ok (.return_, 1) := by decide +kernel
theorem pn_1 : plainName "lastcolumn/stage/SuffixArray" = true := by first | (simp [plainName, overriddenIn]; done) | decide +kernel
theorem ef_Cts (m : MethodId) (a1 : Addr) : entryFrame m #[(.ref a1)] 4 = mkF m 0 #[.val (.ref a1), .unset, .unset, .unset] [] := by first | (simp [entryFrame, mkF, argsToLocals, Value.category]; done) | rfl
def QCts (Z : State) (a1 : Addr) (kx : ClassId) (p1 : Int32) (p2 : Int32) (p3 : Int32) (p4 : Int32) (p5 : Int32) (h0 : Heap) (n0 : Nat) (v : Option Value) (h : Heap) (L : List Loc) : Prop := v = none ∧ Fr n0 L ∧ Keep h0 h [a1] ∧ Arv Z h a1 kx .int (5 : Int32) [(.int (0 : Int32)), (.int ((0 : Int32) + p1)), (.int (((0 : Int32) + p1) + p2)), (.int ((((0 : Int32) + p1) + p2) + p3)), (.int (((((0 : Int32) + p1) + p2) + p3) + p4))] (.int (0 : Int32))
set_option maxRecDepth 65536 in
set_option maxHeartbeats 40000000 in
theorem rmCts (l : Launch) (Z : State) (a0 : Array Value) (hw : ∀ d ∈ tables_1, d.before a0 Z = true) (ws : List Jvm.Cond) (a1 : Addr) (kx : ClassId) (p1 : Int32) (p2 : Int32) (p3 : Int32) (p4 : Int32) (p5 : Int32) (h0 : Heap) (n0 : Nat) (Z0 : n0 ≤ h0.size) (pr0 : Arv Z h0 a1 kx .int (5 : Int32) [(.int p1), (.int p2), (.int p3), (.int p4), (.int p5)] (.int (0 : Int32))) (pr1 : n0 ≤ a1) :
    MetFree l (⟨"lastcolumn/stage/SuffixArray", "countsToStarts", "([I)V"⟩ : MethodName) (head1 (Jvm.Cond.code (⟨"lastcolumn/stage/SuffixArray", "countsToStarts", "([I)V"⟩ : MethodName) prog_41_method_3_code 4 none :: ws) ({ frames := 0, cells := 0, slots := 0, locals := 0 } : Room)) (fun a U => a = #[(.ref a1)] ∧ Z.Warmed39 U.vm ∧ U.heap = h0) (fun _ _ _ _ _ => True) (fun _ U o U' => ∃ v L, o = .returned v ∧ QCts Z a1 kx p1 p2 p3 p4 p5 h0 n0 v U'.heap L ∧ FrameEnd U o U' L ({ frames := 0, cells := 0, slots := 0, locals := 0 } : Room).cells ({ frames := 0, cells := 0, slots := 0, locals := 0 } : Room).slots) := by
  refine MetFree.of_bodySF (plainFor_of_name pn_1) hisR ?_
  intro p e s m args below meth c s₁ Bd hml0 hP hK
  obtain ⟨rfl, hZ, hh⟩ := hP
  have hx := Bd.exec
  have hby := Bd.bytes
  have hml : c.maxLocals = 4 := hml0
  have hown : s.vm.findClass "lastcolumn/stage/SuffixArray" = some m.cls := findClass_of_methodNamed Bd.named
  have hnm := (name_of_methodNamed Bd.named Bd.method).1
  have X0 : Stand p l e ({ frames := 0, cells := 0, slots := 0, locals := 0 } : Room) s m #[(.ref a1)] below meth c s₁ [] 0 0 := Stand.of_body Bd
  have hs0 : h0 = s.heap := hh.symm
  have e0 : s₁.heap = h0 := by rw [← hh, Bd.state]; rfl
  have N0 := Fr.nil n0
  obtain ⟨f0, hf0⟩ : ∃ f, f = entryFrame m #[(.ref a1)] 4 := ⟨_, rfl⟩
  have pre0 : ∀ t, Steps p.tables e below (s₁.setTop f0) t → Steps p.tables e below (s₁.setTop (entryFrame m #[(.ref a1)] 4)) t := fun t k => hf0 ▸ k
  have K0 : Gx p e below s₁ f0 s₁ (mkF m 0 #[.val (.ref a1), .unset, .unset, .unset] []) := fun t kt => by rw [hf0]; exact castTop (ef_Cts m a1) kt
  obtain ⟨clq1, Arq1, ckq1, cSq1, cNq1, cHq1, cGq1⟩ := id pr0
  have K2 : Gx p e below s₁ f0 s₁ (mkF m 17 #[.val (.ref a1), .val (.int (0 : Int32)), .val (.int (0 : Int32)), .val (.int p1)] [(.int (0 : Int32)), (.int (0 : Int32)), (.ref a1)]) := fun t kt => K0 t (by
    show Steps p.tables e below (s₁.setTop (mkF m 0 #[.val (.ref a1), .unset, .unset, .unset] [])) _
    refine XS.iconst X0.here hx rfl (hb hby d1_0) ?_
    show Steps p.tables e below (s₁.setTop (mkF m 1 #[.val (.ref a1), .unset, .unset, .unset] [(.int (0 : Int32))])) _
    refine XS.istoreN X0.here hx rfl (hb hby d1_1) rfl (l' := #[.val (.ref a1), .val (.int (0 : Int32)), .unset, .unset]) rfl ?_
    show Steps p.tables e below (s₁.setTop (mkF m 2 #[.val (.ref a1), .val (.int (0 : Int32)), .unset, .unset] [])) _
    refine XS.iconst X0.here hx rfl (hb hby d1_2) ?_
    show Steps p.tables e below (s₁.setTop (mkF m 3 #[.val (.ref a1), .val (.int (0 : Int32)), .unset, .unset] [(.int (0 : Int32))])) _
    refine XS.istoreN X0.here hx rfl (hb hby d1_3) rfl (l' := #[.val (.ref a1), .val (.int (0 : Int32)), .val (.int (0 : Int32)), .unset]) rfl ?_
    show Steps p.tables e below (s₁.setTop (mkF m 4 #[.val (.ref a1), .val (.int (0 : Int32)), .val (.int (0 : Int32)), .unset] [])) _
    refine XS.iloadN X0.here hx rfl (hb hby d1_4) rfl ?_
    show Steps p.tables e below (s₁.setTop (mkF m 5 #[.val (.ref a1), .val (.int (0 : Int32)), .val (.int (0 : Int32)), .unset] [(.int (0 : Int32))])) _
    refine XS.aloadN X0.here hx rfl (hb hby d1_5) rfl rfl ?_
    show Steps p.tables e below (s₁.setTop (mkF m 6 #[.val (.ref a1), .val (.int (0 : Int32)), .val (.int (0 : Int32)), .unset] [(.ref a1), (.int (0 : Int32))])) _
    refine X0.arraylength hx (by rw [e0]; exact Arq1.1) (State.isArrayOf_alike hZ.alike Arq1.2.1) (g := (mkF m 6 #[.val (.ref a1), .val (.int (0 : Int32)), .val (.int (0 : Int32)), .unset] [(.ref a1), (.int (0 : Int32))])) rfl rfl (hb hby d1_6) _ ?_
    rw [len_of cSq1 cNq1]
    show Steps p.tables e below (s₁.setTop (mkF m 7 #[.val (.ref a1), .val (.int (0 : Int32)), .val (.int (0 : Int32)), .unset] [(.int (5 : Int32)), (.int (0 : Int32))])) _
    refine XS.icmpNo X0.here hx rfl (hb hby d1_7) rfl (tlt (by decide)).2.1 ?_
    show Steps p.tables e below (s₁.setTop (mkF m 10 #[.val (.ref a1), .val (.int (0 : Int32)), .val (.int (0 : Int32)), .unset] [])) _
    refine XS.aloadN X0.here hx rfl (hb hby d1_10) rfl rfl ?_
    show Steps p.tables e below (s₁.setTop (mkF m 11 #[.val (.ref a1), .val (.int (0 : Int32)), .val (.int (0 : Int32)), .unset] [(.ref a1)])) _
    refine XS.iloadN X0.here hx rfl (hb hby d1_11) rfl ?_
    show Steps p.tables e below (s₁.setTop (mkF m 12 #[.val (.ref a1), .val (.int (0 : Int32)), .val (.int (0 : Int32)), .unset] [(.int (0 : Int32)), (.ref a1)])) _
    refine X0.iaload hx (j := (0 : Int32)) (v := (.int p1)) (by rw [e0]; exact Arq1.1) (State.isArrayOf_alike hZ.alike Arq1.2.1) Arq1.2.2 (inb_of cSq1 ⟨by decide, by decide⟩) (Has.at cHq1 (inb_of cSq1 ⟨by decide, by decide⟩) rfl) (g := (mkF m 12 #[.val (.ref a1), .val (.int (0 : Int32)), .val (.int (0 : Int32)), .unset] [(.int (0 : Int32)), (.ref a1)])) rfl rfl (hb hby d1_12) _ ?_
    show Steps p.tables e below (s₁.setTop (mkF m 13 #[.val (.ref a1), .val (.int (0 : Int32)), .val (.int (0 : Int32)), .unset] [(.int p1)])) _
    refine XS.istoreN X0.here hx rfl (hb hby d1_13) rfl (l' := #[.val (.ref a1), .val (.int (0 : Int32)), .val (.int (0 : Int32)), .val (.int p1)]) rfl ?_
    show Steps p.tables e below (s₁.setTop (mkF m 14 #[.val (.ref a1), .val (.int (0 : Int32)), .val (.int (0 : Int32)), .val (.int p1)] [])) _
    refine XS.aloadN X0.here hx rfl (hb hby d1_14) rfl rfl ?_
    show Steps p.tables e below (s₁.setTop (mkF m 15 #[.val (.ref a1), .val (.int (0 : Int32)), .val (.int (0 : Int32)), .val (.int p1)] [(.ref a1)])) _
    refine XS.iloadN X0.here hx rfl (hb hby d1_15) rfl ?_
    show Steps p.tables e below (s₁.setTop (mkF m 16 #[.val (.ref a1), .val (.int (0 : Int32)), .val (.int (0 : Int32)), .val (.int p1)] [(.int (0 : Int32)), (.ref a1)])) _
    refine XS.iloadN X0.here hx rfl (hb hby d1_16) rfl ?_
    exact kt)
  obtain ⟨T3, h3, X3', e3, W3, st3⟩ := stI X0 hx hZ e0 Arq1 (j := (0 : Int32)) (inb_of cSq1 ⟨by decide, by decide⟩) (g := (mkF m 17 #[.val (.ref a1), .val (.int (0 : Int32)), .val (.int (0 : Int32)), .val (.int p1)] [(.int (0 : Int32)), (.int (0 : Int32)), (.ref a1)])) rfl rfl (hb hby d1_17)
  obtain ⟨lc3, X3, N3⟩ : ∃ lc, Stand p l e ({ frames := 0, cells := 0, slots := 0, locals := 0 } : Room) s m #[(.ref a1)] below meth c T3 lc 0 0 ∧ Fr n0 lc := ⟨_, X3', Fr.snoc X3' N0 pr1⟩
  have V3 : Arv Z h3 a1 kx .int (5 : Int32) [(.int (0 : Int32)), (.int p2), (.int p3), (.int p4), (.int p5)] (.int (0 : Int32)) := Arv.set Arq1 ckq1 cSq1 cNq1 cHq1 cGq1 rfl W3 0 rfl (Nat.le_of_ble_eq_true rfl)
  have K4 : Gx p e below s₁ f0 T3 (mkF m 18 #[.val (.ref a1), .val (.int (0 : Int32)), .val (.int (0 : Int32)), .val (.int p1)] []) := fun t kt => K2 t (st3 t kt)
  obtain ⟨clq5, Arq5, ckq5, cSq5, cNq5, cHq5, cGq5⟩ := id V3
  have K6 : Gx p e below s₁ f0 T3 (mkF m 17 #[.val (.ref a1), .val (.int ((0 : Int32) + p1)), .val (.int (1 : Int32)), .val (.int p2)] [(.int ((0 : Int32) + p1)), (.int (1 : Int32)), (.ref a1)]) := fun t kt => K4 t (by
    show Steps p.tables e below (T3.setTop (mkF m 18 #[.val (.ref a1), .val (.int (0 : Int32)), .val (.int (0 : Int32)), .val (.int p1)] [])) _
    refine XS.iloadN X3.here hx rfl (hb hby d1_18) rfl ?_
    show Steps p.tables e below (T3.setTop (mkF m 19 #[.val (.ref a1), .val (.int (0 : Int32)), .val (.int (0 : Int32)), .val (.int p1)] [(.int (0 : Int32))])) _
    refine XS.iloadN X3.here hx rfl (hb hby d1_19) rfl ?_
    show Steps p.tables e below (T3.setTop (mkF m 20 #[.val (.ref a1), .val (.int (0 : Int32)), .val (.int (0 : Int32)), .val (.int p1)] [(.int p1), (.int (0 : Int32))])) _
    refine XS.iadd X3.here hx rfl (hb hby d1_20) rfl ?_
    show Steps p.tables e below (T3.setTop (mkF m 21 #[.val (.ref a1), .val (.int (0 : Int32)), .val (.int (0 : Int32)), .val (.int p1)] [(.int ((0 : Int32) + p1))])) _
    refine XS.istoreN X3.here hx rfl (hb hby d1_21) rfl (l' := #[.val (.ref a1), .val (.int ((0 : Int32) + p1)), .val (.int (0 : Int32)), .val (.int p1)]) rfl ?_
    show Steps p.tables e below (T3.setTop (mkF m 22 #[.val (.ref a1), .val (.int ((0 : Int32) + p1)), .val (.int (0 : Int32)), .val (.int p1)] [])) _
    refine XS.iinc X3.here hx rfl (hb hby d1_22) rfl (l' := #[.val (.ref a1), .val (.int ((0 : Int32) + p1)), .val (.int (1 : Int32)), .val (.int p1)]) rfl ?_
    show Steps p.tables e below (T3.setTop (mkF m 25 #[.val (.ref a1), .val (.int ((0 : Int32) + p1)), .val (.int (1 : Int32)), .val (.int p1)] [])) _
    refine XS.goto X3.here hx rfl (pc0 := 25) (pc' := 4) rfl (hb hby d1_25) (by decide) (by decide) ?_
    show Steps p.tables e below (T3.setTop (mkF m 4 #[.val (.ref a1), .val (.int ((0 : Int32) + p1)), .val (.int (1 : Int32)), .val (.int p1)] [])) _
    refine XS.iloadN X3.here hx rfl (hb hby d1_4) rfl ?_
    show Steps p.tables e below (T3.setTop (mkF m 5 #[.val (.ref a1), .val (.int ((0 : Int32) + p1)), .val (.int (1 : Int32)), .val (.int p1)] [(.int (1 : Int32))])) _
    refine XS.aloadN X3.here hx rfl (hb hby d1_5) rfl rfl ?_
    show Steps p.tables e below (T3.setTop (mkF m 6 #[.val (.ref a1), .val (.int ((0 : Int32) + p1)), .val (.int (1 : Int32)), .val (.int p1)] [(.ref a1), (.int (1 : Int32))])) _
    refine X3.arraylength hx (by rw [e3]; exact Arq5.1) (State.isArrayOf_alike hZ.alike Arq5.2.1) (g := (mkF m 6 #[.val (.ref a1), .val (.int ((0 : Int32) + p1)), .val (.int (1 : Int32)), .val (.int p1)] [(.ref a1), (.int (1 : Int32))])) rfl rfl (hb hby d1_6) _ ?_
    rw [len_of cSq5 cNq5]
    show Steps p.tables e below (T3.setTop (mkF m 7 #[.val (.ref a1), .val (.int ((0 : Int32) + p1)), .val (.int (1 : Int32)), .val (.int p1)] [(.int (5 : Int32)), (.int (1 : Int32))])) _
    refine XS.icmpNo X3.here hx rfl (hb hby d1_7) rfl (tlt (by decide)).2.1 ?_
    show Steps p.tables e below (T3.setTop (mkF m 10 #[.val (.ref a1), .val (.int ((0 : Int32) + p1)), .val (.int (1 : Int32)), .val (.int p1)] [])) _
    refine XS.aloadN X3.here hx rfl (hb hby d1_10) rfl rfl ?_
    show Steps p.tables e below (T3.setTop (mkF m 11 #[.val (.ref a1), .val (.int ((0 : Int32) + p1)), .val (.int (1 : Int32)), .val (.int p1)] [(.ref a1)])) _
    refine XS.iloadN X3.here hx rfl (hb hby d1_11) rfl ?_
    show Steps p.tables e below (T3.setTop (mkF m 12 #[.val (.ref a1), .val (.int ((0 : Int32) + p1)), .val (.int (1 : Int32)), .val (.int p1)] [(.int (1 : Int32)), (.ref a1)])) _
    refine X3.iaload hx (j := (1 : Int32)) (v := (.int p2)) (by rw [e3]; exact Arq5.1) (State.isArrayOf_alike hZ.alike Arq5.2.1) Arq5.2.2 (inb_of cSq5 ⟨by decide, by decide⟩) (Has.at cHq5 (inb_of cSq5 ⟨by decide, by decide⟩) rfl) (g := (mkF m 12 #[.val (.ref a1), .val (.int ((0 : Int32) + p1)), .val (.int (1 : Int32)), .val (.int p1)] [(.int (1 : Int32)), (.ref a1)])) rfl rfl (hb hby d1_12) _ ?_
    show Steps p.tables e below (T3.setTop (mkF m 13 #[.val (.ref a1), .val (.int ((0 : Int32) + p1)), .val (.int (1 : Int32)), .val (.int p1)] [(.int p2)])) _
    refine XS.istoreN X3.here hx rfl (hb hby d1_13) rfl (l' := #[.val (.ref a1), .val (.int ((0 : Int32) + p1)), .val (.int (1 : Int32)), .val (.int p2)]) rfl ?_
    show Steps p.tables e below (T3.setTop (mkF m 14 #[.val (.ref a1), .val (.int ((0 : Int32) + p1)), .val (.int (1 : Int32)), .val (.int p2)] [])) _
    refine XS.aloadN X3.here hx rfl (hb hby d1_14) rfl rfl ?_
    show Steps p.tables e below (T3.setTop (mkF m 15 #[.val (.ref a1), .val (.int ((0 : Int32) + p1)), .val (.int (1 : Int32)), .val (.int p2)] [(.ref a1)])) _
    refine XS.iloadN X3.here hx rfl (hb hby d1_15) rfl ?_
    show Steps p.tables e below (T3.setTop (mkF m 16 #[.val (.ref a1), .val (.int ((0 : Int32) + p1)), .val (.int (1 : Int32)), .val (.int p2)] [(.int (1 : Int32)), (.ref a1)])) _
    refine XS.iloadN X3.here hx rfl (hb hby d1_16) rfl ?_
    exact kt)
  obtain ⟨T7, h7, X7', e7, W7, st7⟩ := stI X3 hx hZ e3 Arq5 (j := (1 : Int32)) (inb_of cSq5 ⟨by decide, by decide⟩) (g := (mkF m 17 #[.val (.ref a1), .val (.int ((0 : Int32) + p1)), .val (.int (1 : Int32)), .val (.int p2)] [(.int ((0 : Int32) + p1)), (.int (1 : Int32)), (.ref a1)])) rfl rfl (hb hby d1_17)
  obtain ⟨lc7, X7, N7⟩ : ∃ lc, Stand p l e ({ frames := 0, cells := 0, slots := 0, locals := 0 } : Room) s m #[(.ref a1)] below meth c T7 lc 0 0 ∧ Fr n0 lc := ⟨_, X7', Fr.snoc X7' N3 pr1⟩
  have V7 : Arv Z h7 a1 kx .int (5 : Int32) [(.int (0 : Int32)), (.int ((0 : Int32) + p1)), (.int p3), (.int p4), (.int p5)] (.int (0 : Int32)) := Arv.set Arq5 ckq5 cSq5 cNq5 cHq5 cGq5 rfl W7 1 rfl (Nat.le_of_ble_eq_true rfl)
  have K8 : Gx p e below s₁ f0 T7 (mkF m 18 #[.val (.ref a1), .val (.int ((0 : Int32) + p1)), .val (.int (1 : Int32)), .val (.int p2)] []) := fun t kt => K6 t (st7 t kt)
  obtain ⟨clq9, Arq9, ckq9, cSq9, cNq9, cHq9, cGq9⟩ := id V7
  have K10 : Gx p e below s₁ f0 T7 (mkF m 17 #[.val (.ref a1), .val (.int (((0 : Int32) + p1) + p2)), .val (.int (2 : Int32)), .val (.int p3)] [(.int (((0 : Int32) + p1) + p2)), (.int (2 : Int32)), (.ref a1)]) := fun t kt => K8 t (by
    show Steps p.tables e below (T7.setTop (mkF m 18 #[.val (.ref a1), .val (.int ((0 : Int32) + p1)), .val (.int (1 : Int32)), .val (.int p2)] [])) _
    refine XS.iloadN X7.here hx rfl (hb hby d1_18) rfl ?_
    show Steps p.tables e below (T7.setTop (mkF m 19 #[.val (.ref a1), .val (.int ((0 : Int32) + p1)), .val (.int (1 : Int32)), .val (.int p2)] [(.int ((0 : Int32) + p1))])) _
    refine XS.iloadN X7.here hx rfl (hb hby d1_19) rfl ?_
    show Steps p.tables e below (T7.setTop (mkF m 20 #[.val (.ref a1), .val (.int ((0 : Int32) + p1)), .val (.int (1 : Int32)), .val (.int p2)] [(.int p2), (.int ((0 : Int32) + p1))])) _
    refine XS.iadd X7.here hx rfl (hb hby d1_20) rfl ?_
    show Steps p.tables e below (T7.setTop (mkF m 21 #[.val (.ref a1), .val (.int ((0 : Int32) + p1)), .val (.int (1 : Int32)), .val (.int p2)] [(.int (((0 : Int32) + p1) + p2))])) _
    refine XS.istoreN X7.here hx rfl (hb hby d1_21) rfl (l' := #[.val (.ref a1), .val (.int (((0 : Int32) + p1) + p2)), .val (.int (1 : Int32)), .val (.int p2)]) rfl ?_
    show Steps p.tables e below (T7.setTop (mkF m 22 #[.val (.ref a1), .val (.int (((0 : Int32) + p1) + p2)), .val (.int (1 : Int32)), .val (.int p2)] [])) _
    refine XS.iinc X7.here hx rfl (hb hby d1_22) rfl (l' := #[.val (.ref a1), .val (.int (((0 : Int32) + p1) + p2)), .val (.int (2 : Int32)), .val (.int p2)]) rfl ?_
    show Steps p.tables e below (T7.setTop (mkF m 25 #[.val (.ref a1), .val (.int (((0 : Int32) + p1) + p2)), .val (.int (2 : Int32)), .val (.int p2)] [])) _
    refine XS.goto X7.here hx rfl (pc0 := 25) (pc' := 4) rfl (hb hby d1_25) (by decide) (by decide) ?_
    show Steps p.tables e below (T7.setTop (mkF m 4 #[.val (.ref a1), .val (.int (((0 : Int32) + p1) + p2)), .val (.int (2 : Int32)), .val (.int p2)] [])) _
    refine XS.iloadN X7.here hx rfl (hb hby d1_4) rfl ?_
    show Steps p.tables e below (T7.setTop (mkF m 5 #[.val (.ref a1), .val (.int (((0 : Int32) + p1) + p2)), .val (.int (2 : Int32)), .val (.int p2)] [(.int (2 : Int32))])) _
    refine XS.aloadN X7.here hx rfl (hb hby d1_5) rfl rfl ?_
    show Steps p.tables e below (T7.setTop (mkF m 6 #[.val (.ref a1), .val (.int (((0 : Int32) + p1) + p2)), .val (.int (2 : Int32)), .val (.int p2)] [(.ref a1), (.int (2 : Int32))])) _
    refine X7.arraylength hx (by rw [e7]; exact Arq9.1) (State.isArrayOf_alike hZ.alike Arq9.2.1) (g := (mkF m 6 #[.val (.ref a1), .val (.int (((0 : Int32) + p1) + p2)), .val (.int (2 : Int32)), .val (.int p2)] [(.ref a1), (.int (2 : Int32))])) rfl rfl (hb hby d1_6) _ ?_
    rw [len_of cSq9 cNq9]
    show Steps p.tables e below (T7.setTop (mkF m 7 #[.val (.ref a1), .val (.int (((0 : Int32) + p1) + p2)), .val (.int (2 : Int32)), .val (.int p2)] [(.int (5 : Int32)), (.int (2 : Int32))])) _
    refine XS.icmpNo X7.here hx rfl (hb hby d1_7) rfl (tlt (by decide)).2.1 ?_
    show Steps p.tables e below (T7.setTop (mkF m 10 #[.val (.ref a1), .val (.int (((0 : Int32) + p1) + p2)), .val (.int (2 : Int32)), .val (.int p2)] [])) _
    refine XS.aloadN X7.here hx rfl (hb hby d1_10) rfl rfl ?_
    show Steps p.tables e below (T7.setTop (mkF m 11 #[.val (.ref a1), .val (.int (((0 : Int32) + p1) + p2)), .val (.int (2 : Int32)), .val (.int p2)] [(.ref a1)])) _
    refine XS.iloadN X7.here hx rfl (hb hby d1_11) rfl ?_
    show Steps p.tables e below (T7.setTop (mkF m 12 #[.val (.ref a1), .val (.int (((0 : Int32) + p1) + p2)), .val (.int (2 : Int32)), .val (.int p2)] [(.int (2 : Int32)), (.ref a1)])) _
    refine X7.iaload hx (j := (2 : Int32)) (v := (.int p3)) (by rw [e7]; exact Arq9.1) (State.isArrayOf_alike hZ.alike Arq9.2.1) Arq9.2.2 (inb_of cSq9 ⟨by decide, by decide⟩) (Has.at cHq9 (inb_of cSq9 ⟨by decide, by decide⟩) rfl) (g := (mkF m 12 #[.val (.ref a1), .val (.int (((0 : Int32) + p1) + p2)), .val (.int (2 : Int32)), .val (.int p2)] [(.int (2 : Int32)), (.ref a1)])) rfl rfl (hb hby d1_12) _ ?_
    show Steps p.tables e below (T7.setTop (mkF m 13 #[.val (.ref a1), .val (.int (((0 : Int32) + p1) + p2)), .val (.int (2 : Int32)), .val (.int p2)] [(.int p3)])) _
    refine XS.istoreN X7.here hx rfl (hb hby d1_13) rfl (l' := #[.val (.ref a1), .val (.int (((0 : Int32) + p1) + p2)), .val (.int (2 : Int32)), .val (.int p3)]) rfl ?_
    show Steps p.tables e below (T7.setTop (mkF m 14 #[.val (.ref a1), .val (.int (((0 : Int32) + p1) + p2)), .val (.int (2 : Int32)), .val (.int p3)] [])) _
    refine XS.aloadN X7.here hx rfl (hb hby d1_14) rfl rfl ?_
    show Steps p.tables e below (T7.setTop (mkF m 15 #[.val (.ref a1), .val (.int (((0 : Int32) + p1) + p2)), .val (.int (2 : Int32)), .val (.int p3)] [(.ref a1)])) _
    refine XS.iloadN X7.here hx rfl (hb hby d1_15) rfl ?_
    show Steps p.tables e below (T7.setTop (mkF m 16 #[.val (.ref a1), .val (.int (((0 : Int32) + p1) + p2)), .val (.int (2 : Int32)), .val (.int p3)] [(.int (2 : Int32)), (.ref a1)])) _
    refine XS.iloadN X7.here hx rfl (hb hby d1_16) rfl ?_
    exact kt)
  obtain ⟨T11, h11, X11', e11, W11, st11⟩ := stI X7 hx hZ e7 Arq9 (j := (2 : Int32)) (inb_of cSq9 ⟨by decide, by decide⟩) (g := (mkF m 17 #[.val (.ref a1), .val (.int (((0 : Int32) + p1) + p2)), .val (.int (2 : Int32)), .val (.int p3)] [(.int (((0 : Int32) + p1) + p2)), (.int (2 : Int32)), (.ref a1)])) rfl rfl (hb hby d1_17)
  obtain ⟨lc11, X11, N11⟩ : ∃ lc, Stand p l e ({ frames := 0, cells := 0, slots := 0, locals := 0 } : Room) s m #[(.ref a1)] below meth c T11 lc 0 0 ∧ Fr n0 lc := ⟨_, X11', Fr.snoc X11' N7 pr1⟩
  have V11 : Arv Z h11 a1 kx .int (5 : Int32) [(.int (0 : Int32)), (.int ((0 : Int32) + p1)), (.int (((0 : Int32) + p1) + p2)), (.int p4), (.int p5)] (.int (0 : Int32)) := Arv.set Arq9 ckq9 cSq9 cNq9 cHq9 cGq9 rfl W11 2 rfl (Nat.le_of_ble_eq_true rfl)
  have K12 : Gx p e below s₁ f0 T11 (mkF m 18 #[.val (.ref a1), .val (.int (((0 : Int32) + p1) + p2)), .val (.int (2 : Int32)), .val (.int p3)] []) := fun t kt => K10 t (st11 t kt)
  obtain ⟨clq13, Arq13, ckq13, cSq13, cNq13, cHq13, cGq13⟩ := id V11
  have K14 : Gx p e below s₁ f0 T11 (mkF m 17 #[.val (.ref a1), .val (.int ((((0 : Int32) + p1) + p2) + p3)), .val (.int (3 : Int32)), .val (.int p4)] [(.int ((((0 : Int32) + p1) + p2) + p3)), (.int (3 : Int32)), (.ref a1)]) := fun t kt => K12 t (by
    show Steps p.tables e below (T11.setTop (mkF m 18 #[.val (.ref a1), .val (.int (((0 : Int32) + p1) + p2)), .val (.int (2 : Int32)), .val (.int p3)] [])) _
    refine XS.iloadN X11.here hx rfl (hb hby d1_18) rfl ?_
    show Steps p.tables e below (T11.setTop (mkF m 19 #[.val (.ref a1), .val (.int (((0 : Int32) + p1) + p2)), .val (.int (2 : Int32)), .val (.int p3)] [(.int (((0 : Int32) + p1) + p2))])) _
    refine XS.iloadN X11.here hx rfl (hb hby d1_19) rfl ?_
    show Steps p.tables e below (T11.setTop (mkF m 20 #[.val (.ref a1), .val (.int (((0 : Int32) + p1) + p2)), .val (.int (2 : Int32)), .val (.int p3)] [(.int p3), (.int (((0 : Int32) + p1) + p2))])) _
    refine XS.iadd X11.here hx rfl (hb hby d1_20) rfl ?_
    show Steps p.tables e below (T11.setTop (mkF m 21 #[.val (.ref a1), .val (.int (((0 : Int32) + p1) + p2)), .val (.int (2 : Int32)), .val (.int p3)] [(.int ((((0 : Int32) + p1) + p2) + p3))])) _
    refine XS.istoreN X11.here hx rfl (hb hby d1_21) rfl (l' := #[.val (.ref a1), .val (.int ((((0 : Int32) + p1) + p2) + p3)), .val (.int (2 : Int32)), .val (.int p3)]) rfl ?_
    show Steps p.tables e below (T11.setTop (mkF m 22 #[.val (.ref a1), .val (.int ((((0 : Int32) + p1) + p2) + p3)), .val (.int (2 : Int32)), .val (.int p3)] [])) _
    refine XS.iinc X11.here hx rfl (hb hby d1_22) rfl (l' := #[.val (.ref a1), .val (.int ((((0 : Int32) + p1) + p2) + p3)), .val (.int (3 : Int32)), .val (.int p3)]) rfl ?_
    show Steps p.tables e below (T11.setTop (mkF m 25 #[.val (.ref a1), .val (.int ((((0 : Int32) + p1) + p2) + p3)), .val (.int (3 : Int32)), .val (.int p3)] [])) _
    refine XS.goto X11.here hx rfl (pc0 := 25) (pc' := 4) rfl (hb hby d1_25) (by decide) (by decide) ?_
    show Steps p.tables e below (T11.setTop (mkF m 4 #[.val (.ref a1), .val (.int ((((0 : Int32) + p1) + p2) + p3)), .val (.int (3 : Int32)), .val (.int p3)] [])) _
    refine XS.iloadN X11.here hx rfl (hb hby d1_4) rfl ?_
    show Steps p.tables e below (T11.setTop (mkF m 5 #[.val (.ref a1), .val (.int ((((0 : Int32) + p1) + p2) + p3)), .val (.int (3 : Int32)), .val (.int p3)] [(.int (3 : Int32))])) _
    refine XS.aloadN X11.here hx rfl (hb hby d1_5) rfl rfl ?_
    show Steps p.tables e below (T11.setTop (mkF m 6 #[.val (.ref a1), .val (.int ((((0 : Int32) + p1) + p2) + p3)), .val (.int (3 : Int32)), .val (.int p3)] [(.ref a1), (.int (3 : Int32))])) _
    refine X11.arraylength hx (by rw [e11]; exact Arq13.1) (State.isArrayOf_alike hZ.alike Arq13.2.1) (g := (mkF m 6 #[.val (.ref a1), .val (.int ((((0 : Int32) + p1) + p2) + p3)), .val (.int (3 : Int32)), .val (.int p3)] [(.ref a1), (.int (3 : Int32))])) rfl rfl (hb hby d1_6) _ ?_
    rw [len_of cSq13 cNq13]
    show Steps p.tables e below (T11.setTop (mkF m 7 #[.val (.ref a1), .val (.int ((((0 : Int32) + p1) + p2) + p3)), .val (.int (3 : Int32)), .val (.int p3)] [(.int (5 : Int32)), (.int (3 : Int32))])) _
    refine XS.icmpNo X11.here hx rfl (hb hby d1_7) rfl (tlt (by decide)).2.1 ?_
    show Steps p.tables e below (T11.setTop (mkF m 10 #[.val (.ref a1), .val (.int ((((0 : Int32) + p1) + p2) + p3)), .val (.int (3 : Int32)), .val (.int p3)] [])) _
    refine XS.aloadN X11.here hx rfl (hb hby d1_10) rfl rfl ?_
    show Steps p.tables e below (T11.setTop (mkF m 11 #[.val (.ref a1), .val (.int ((((0 : Int32) + p1) + p2) + p3)), .val (.int (3 : Int32)), .val (.int p3)] [(.ref a1)])) _
    refine XS.iloadN X11.here hx rfl (hb hby d1_11) rfl ?_
    show Steps p.tables e below (T11.setTop (mkF m 12 #[.val (.ref a1), .val (.int ((((0 : Int32) + p1) + p2) + p3)), .val (.int (3 : Int32)), .val (.int p3)] [(.int (3 : Int32)), (.ref a1)])) _
    refine X11.iaload hx (j := (3 : Int32)) (v := (.int p4)) (by rw [e11]; exact Arq13.1) (State.isArrayOf_alike hZ.alike Arq13.2.1) Arq13.2.2 (inb_of cSq13 ⟨by decide, by decide⟩) (Has.at cHq13 (inb_of cSq13 ⟨by decide, by decide⟩) rfl) (g := (mkF m 12 #[.val (.ref a1), .val (.int ((((0 : Int32) + p1) + p2) + p3)), .val (.int (3 : Int32)), .val (.int p3)] [(.int (3 : Int32)), (.ref a1)])) rfl rfl (hb hby d1_12) _ ?_
    show Steps p.tables e below (T11.setTop (mkF m 13 #[.val (.ref a1), .val (.int ((((0 : Int32) + p1) + p2) + p3)), .val (.int (3 : Int32)), .val (.int p3)] [(.int p4)])) _
    refine XS.istoreN X11.here hx rfl (hb hby d1_13) rfl (l' := #[.val (.ref a1), .val (.int ((((0 : Int32) + p1) + p2) + p3)), .val (.int (3 : Int32)), .val (.int p4)]) rfl ?_
    show Steps p.tables e below (T11.setTop (mkF m 14 #[.val (.ref a1), .val (.int ((((0 : Int32) + p1) + p2) + p3)), .val (.int (3 : Int32)), .val (.int p4)] [])) _
    refine XS.aloadN X11.here hx rfl (hb hby d1_14) rfl rfl ?_
    show Steps p.tables e below (T11.setTop (mkF m 15 #[.val (.ref a1), .val (.int ((((0 : Int32) + p1) + p2) + p3)), .val (.int (3 : Int32)), .val (.int p4)] [(.ref a1)])) _
    refine XS.iloadN X11.here hx rfl (hb hby d1_15) rfl ?_
    show Steps p.tables e below (T11.setTop (mkF m 16 #[.val (.ref a1), .val (.int ((((0 : Int32) + p1) + p2) + p3)), .val (.int (3 : Int32)), .val (.int p4)] [(.int (3 : Int32)), (.ref a1)])) _
    refine XS.iloadN X11.here hx rfl (hb hby d1_16) rfl ?_
    exact kt)
  obtain ⟨T15, h15, X15', e15, W15, st15⟩ := stI X11 hx hZ e11 Arq13 (j := (3 : Int32)) (inb_of cSq13 ⟨by decide, by decide⟩) (g := (mkF m 17 #[.val (.ref a1), .val (.int ((((0 : Int32) + p1) + p2) + p3)), .val (.int (3 : Int32)), .val (.int p4)] [(.int ((((0 : Int32) + p1) + p2) + p3)), (.int (3 : Int32)), (.ref a1)])) rfl rfl (hb hby d1_17)
  obtain ⟨lc15, X15, N15⟩ : ∃ lc, Stand p l e ({ frames := 0, cells := 0, slots := 0, locals := 0 } : Room) s m #[(.ref a1)] below meth c T15 lc 0 0 ∧ Fr n0 lc := ⟨_, X15', Fr.snoc X15' N11 pr1⟩
  have V15 : Arv Z h15 a1 kx .int (5 : Int32) [(.int (0 : Int32)), (.int ((0 : Int32) + p1)), (.int (((0 : Int32) + p1) + p2)), (.int ((((0 : Int32) + p1) + p2) + p3)), (.int p5)] (.int (0 : Int32)) := Arv.set Arq13 ckq13 cSq13 cNq13 cHq13 cGq13 rfl W15 3 rfl (Nat.le_of_ble_eq_true rfl)
  have K16 : Gx p e below s₁ f0 T15 (mkF m 18 #[.val (.ref a1), .val (.int ((((0 : Int32) + p1) + p2) + p3)), .val (.int (3 : Int32)), .val (.int p4)] []) := fun t kt => K14 t (st15 t kt)
  obtain ⟨clq17, Arq17, ckq17, cSq17, cNq17, cHq17, cGq17⟩ := id V15
  have K18 : Gx p e below s₁ f0 T15 (mkF m 17 #[.val (.ref a1), .val (.int (((((0 : Int32) + p1) + p2) + p3) + p4)), .val (.int (4 : Int32)), .val (.int p5)] [(.int (((((0 : Int32) + p1) + p2) + p3) + p4)), (.int (4 : Int32)), (.ref a1)]) := fun t kt => K16 t (by
    show Steps p.tables e below (T15.setTop (mkF m 18 #[.val (.ref a1), .val (.int ((((0 : Int32) + p1) + p2) + p3)), .val (.int (3 : Int32)), .val (.int p4)] [])) _
    refine XS.iloadN X15.here hx rfl (hb hby d1_18) rfl ?_
    show Steps p.tables e below (T15.setTop (mkF m 19 #[.val (.ref a1), .val (.int ((((0 : Int32) + p1) + p2) + p3)), .val (.int (3 : Int32)), .val (.int p4)] [(.int ((((0 : Int32) + p1) + p2) + p3))])) _
    refine XS.iloadN X15.here hx rfl (hb hby d1_19) rfl ?_
    show Steps p.tables e below (T15.setTop (mkF m 20 #[.val (.ref a1), .val (.int ((((0 : Int32) + p1) + p2) + p3)), .val (.int (3 : Int32)), .val (.int p4)] [(.int p4), (.int ((((0 : Int32) + p1) + p2) + p3))])) _
    refine XS.iadd X15.here hx rfl (hb hby d1_20) rfl ?_
    show Steps p.tables e below (T15.setTop (mkF m 21 #[.val (.ref a1), .val (.int ((((0 : Int32) + p1) + p2) + p3)), .val (.int (3 : Int32)), .val (.int p4)] [(.int (((((0 : Int32) + p1) + p2) + p3) + p4))])) _
    refine XS.istoreN X15.here hx rfl (hb hby d1_21) rfl (l' := #[.val (.ref a1), .val (.int (((((0 : Int32) + p1) + p2) + p3) + p4)), .val (.int (3 : Int32)), .val (.int p4)]) rfl ?_
    show Steps p.tables e below (T15.setTop (mkF m 22 #[.val (.ref a1), .val (.int (((((0 : Int32) + p1) + p2) + p3) + p4)), .val (.int (3 : Int32)), .val (.int p4)] [])) _
    refine XS.iinc X15.here hx rfl (hb hby d1_22) rfl (l' := #[.val (.ref a1), .val (.int (((((0 : Int32) + p1) + p2) + p3) + p4)), .val (.int (4 : Int32)), .val (.int p4)]) rfl ?_
    show Steps p.tables e below (T15.setTop (mkF m 25 #[.val (.ref a1), .val (.int (((((0 : Int32) + p1) + p2) + p3) + p4)), .val (.int (4 : Int32)), .val (.int p4)] [])) _
    refine XS.goto X15.here hx rfl (pc0 := 25) (pc' := 4) rfl (hb hby d1_25) (by decide) (by decide) ?_
    show Steps p.tables e below (T15.setTop (mkF m 4 #[.val (.ref a1), .val (.int (((((0 : Int32) + p1) + p2) + p3) + p4)), .val (.int (4 : Int32)), .val (.int p4)] [])) _
    refine XS.iloadN X15.here hx rfl (hb hby d1_4) rfl ?_
    show Steps p.tables e below (T15.setTop (mkF m 5 #[.val (.ref a1), .val (.int (((((0 : Int32) + p1) + p2) + p3) + p4)), .val (.int (4 : Int32)), .val (.int p4)] [(.int (4 : Int32))])) _
    refine XS.aloadN X15.here hx rfl (hb hby d1_5) rfl rfl ?_
    show Steps p.tables e below (T15.setTop (mkF m 6 #[.val (.ref a1), .val (.int (((((0 : Int32) + p1) + p2) + p3) + p4)), .val (.int (4 : Int32)), .val (.int p4)] [(.ref a1), (.int (4 : Int32))])) _
    refine X15.arraylength hx (by rw [e15]; exact Arq17.1) (State.isArrayOf_alike hZ.alike Arq17.2.1) (g := (mkF m 6 #[.val (.ref a1), .val (.int (((((0 : Int32) + p1) + p2) + p3) + p4)), .val (.int (4 : Int32)), .val (.int p4)] [(.ref a1), (.int (4 : Int32))])) rfl rfl (hb hby d1_6) _ ?_
    rw [len_of cSq17 cNq17]
    show Steps p.tables e below (T15.setTop (mkF m 7 #[.val (.ref a1), .val (.int (((((0 : Int32) + p1) + p2) + p3) + p4)), .val (.int (4 : Int32)), .val (.int p4)] [(.int (5 : Int32)), (.int (4 : Int32))])) _
    refine XS.icmpNo X15.here hx rfl (hb hby d1_7) rfl (tlt (by decide)).2.1 ?_
    show Steps p.tables e below (T15.setTop (mkF m 10 #[.val (.ref a1), .val (.int (((((0 : Int32) + p1) + p2) + p3) + p4)), .val (.int (4 : Int32)), .val (.int p4)] [])) _
    refine XS.aloadN X15.here hx rfl (hb hby d1_10) rfl rfl ?_
    show Steps p.tables e below (T15.setTop (mkF m 11 #[.val (.ref a1), .val (.int (((((0 : Int32) + p1) + p2) + p3) + p4)), .val (.int (4 : Int32)), .val (.int p4)] [(.ref a1)])) _
    refine XS.iloadN X15.here hx rfl (hb hby d1_11) rfl ?_
    show Steps p.tables e below (T15.setTop (mkF m 12 #[.val (.ref a1), .val (.int (((((0 : Int32) + p1) + p2) + p3) + p4)), .val (.int (4 : Int32)), .val (.int p4)] [(.int (4 : Int32)), (.ref a1)])) _
    refine X15.iaload hx (j := (4 : Int32)) (v := (.int p5)) (by rw [e15]; exact Arq17.1) (State.isArrayOf_alike hZ.alike Arq17.2.1) Arq17.2.2 (inb_of cSq17 ⟨by decide, by decide⟩) (Has.at cHq17 (inb_of cSq17 ⟨by decide, by decide⟩) rfl) (g := (mkF m 12 #[.val (.ref a1), .val (.int (((((0 : Int32) + p1) + p2) + p3) + p4)), .val (.int (4 : Int32)), .val (.int p4)] [(.int (4 : Int32)), (.ref a1)])) rfl rfl (hb hby d1_12) _ ?_
    show Steps p.tables e below (T15.setTop (mkF m 13 #[.val (.ref a1), .val (.int (((((0 : Int32) + p1) + p2) + p3) + p4)), .val (.int (4 : Int32)), .val (.int p4)] [(.int p5)])) _
    refine XS.istoreN X15.here hx rfl (hb hby d1_13) rfl (l' := #[.val (.ref a1), .val (.int (((((0 : Int32) + p1) + p2) + p3) + p4)), .val (.int (4 : Int32)), .val (.int p5)]) rfl ?_
    show Steps p.tables e below (T15.setTop (mkF m 14 #[.val (.ref a1), .val (.int (((((0 : Int32) + p1) + p2) + p3) + p4)), .val (.int (4 : Int32)), .val (.int p5)] [])) _
    refine XS.aloadN X15.here hx rfl (hb hby d1_14) rfl rfl ?_
    show Steps p.tables e below (T15.setTop (mkF m 15 #[.val (.ref a1), .val (.int (((((0 : Int32) + p1) + p2) + p3) + p4)), .val (.int (4 : Int32)), .val (.int p5)] [(.ref a1)])) _
    refine XS.iloadN X15.here hx rfl (hb hby d1_15) rfl ?_
    show Steps p.tables e below (T15.setTop (mkF m 16 #[.val (.ref a1), .val (.int (((((0 : Int32) + p1) + p2) + p3) + p4)), .val (.int (4 : Int32)), .val (.int p5)] [(.int (4 : Int32)), (.ref a1)])) _
    refine XS.iloadN X15.here hx rfl (hb hby d1_16) rfl ?_
    exact kt)
  obtain ⟨T19, h19, X19', e19, W19, st19⟩ := stI X15 hx hZ e15 Arq17 (j := (4 : Int32)) (inb_of cSq17 ⟨by decide, by decide⟩) (g := (mkF m 17 #[.val (.ref a1), .val (.int (((((0 : Int32) + p1) + p2) + p3) + p4)), .val (.int (4 : Int32)), .val (.int p5)] [(.int (((((0 : Int32) + p1) + p2) + p3) + p4)), (.int (4 : Int32)), (.ref a1)])) rfl rfl (hb hby d1_17)
  obtain ⟨lc19, X19, N19⟩ : ∃ lc, Stand p l e ({ frames := 0, cells := 0, slots := 0, locals := 0 } : Room) s m #[(.ref a1)] below meth c T19 lc 0 0 ∧ Fr n0 lc := ⟨_, X19', Fr.snoc X19' N15 pr1⟩
  have V19 : Arv Z h19 a1 kx .int (5 : Int32) [(.int (0 : Int32)), (.int ((0 : Int32) + p1)), (.int (((0 : Int32) + p1) + p2)), (.int ((((0 : Int32) + p1) + p2) + p3)), (.int (((((0 : Int32) + p1) + p2) + p3) + p4))] (.int (0 : Int32)) := Arv.set Arq17 ckq17 cSq17 cNq17 cHq17 cGq17 rfl W19 4 rfl (Nat.le_of_ble_eq_true rfl)
  have K20 : Gx p e below s₁ f0 T19 (mkF m 18 #[.val (.ref a1), .val (.int (((((0 : Int32) + p1) + p2) + p3) + p4)), .val (.int (4 : Int32)), .val (.int p5)] []) := fun t kt => K18 t (st19 t kt)
  obtain ⟨clq21, Arq21, ckq21, cSq21, cNq21, cHq21, cGq21⟩ := id V19
  have K22 : Gx p e below s₁ f0 T19 (mkF m 28 #[.val (.ref a1), .val (.int ((((((0 : Int32) + p1) + p2) + p3) + p4) + p5)), .val (.int (5 : Int32)), .val (.int p5)] []) := fun t kt => K20 t (by
    show Steps p.tables e below (T19.setTop (mkF m 18 #[.val (.ref a1), .val (.int (((((0 : Int32) + p1) + p2) + p3) + p4)), .val (.int (4 : Int32)), .val (.int p5)] [])) _
    refine XS.iloadN X19.here hx rfl (hb hby d1_18) rfl ?_
    show Steps p.tables e below (T19.setTop (mkF m 19 #[.val (.ref a1), .val (.int (((((0 : Int32) + p1) + p2) + p3) + p4)), .val (.int (4 : Int32)), .val (.int p5)] [(.int (((((0 : Int32) + p1) + p2) + p3) + p4))])) _
    refine XS.iloadN X19.here hx rfl (hb hby d1_19) rfl ?_
    show Steps p.tables e below (T19.setTop (mkF m 20 #[.val (.ref a1), .val (.int (((((0 : Int32) + p1) + p2) + p3) + p4)), .val (.int (4 : Int32)), .val (.int p5)] [(.int p5), (.int (((((0 : Int32) + p1) + p2) + p3) + p4))])) _
    refine XS.iadd X19.here hx rfl (hb hby d1_20) rfl ?_
    show Steps p.tables e below (T19.setTop (mkF m 21 #[.val (.ref a1), .val (.int (((((0 : Int32) + p1) + p2) + p3) + p4)), .val (.int (4 : Int32)), .val (.int p5)] [(.int ((((((0 : Int32) + p1) + p2) + p3) + p4) + p5))])) _
    refine XS.istoreN X19.here hx rfl (hb hby d1_21) rfl (l' := #[.val (.ref a1), .val (.int ((((((0 : Int32) + p1) + p2) + p3) + p4) + p5)), .val (.int (4 : Int32)), .val (.int p5)]) rfl ?_
    show Steps p.tables e below (T19.setTop (mkF m 22 #[.val (.ref a1), .val (.int ((((((0 : Int32) + p1) + p2) + p3) + p4) + p5)), .val (.int (4 : Int32)), .val (.int p5)] [])) _
    refine XS.iinc X19.here hx rfl (hb hby d1_22) rfl (l' := #[.val (.ref a1), .val (.int ((((((0 : Int32) + p1) + p2) + p3) + p4) + p5)), .val (.int (5 : Int32)), .val (.int p5)]) rfl ?_
    show Steps p.tables e below (T19.setTop (mkF m 25 #[.val (.ref a1), .val (.int ((((((0 : Int32) + p1) + p2) + p3) + p4) + p5)), .val (.int (5 : Int32)), .val (.int p5)] [])) _
    refine XS.goto X19.here hx rfl (pc0 := 25) (pc' := 4) rfl (hb hby d1_25) (by decide) (by decide) ?_
    show Steps p.tables e below (T19.setTop (mkF m 4 #[.val (.ref a1), .val (.int ((((((0 : Int32) + p1) + p2) + p3) + p4) + p5)), .val (.int (5 : Int32)), .val (.int p5)] [])) _
    refine XS.iloadN X19.here hx rfl (hb hby d1_4) rfl ?_
    show Steps p.tables e below (T19.setTop (mkF m 5 #[.val (.ref a1), .val (.int ((((((0 : Int32) + p1) + p2) + p3) + p4) + p5)), .val (.int (5 : Int32)), .val (.int p5)] [(.int (5 : Int32))])) _
    refine XS.aloadN X19.here hx rfl (hb hby d1_5) rfl rfl ?_
    show Steps p.tables e below (T19.setTop (mkF m 6 #[.val (.ref a1), .val (.int ((((((0 : Int32) + p1) + p2) + p3) + p4) + p5)), .val (.int (5 : Int32)), .val (.int p5)] [(.ref a1), (.int (5 : Int32))])) _
    refine X19.arraylength hx (by rw [e19]; exact Arq21.1) (State.isArrayOf_alike hZ.alike Arq21.2.1) (g := (mkF m 6 #[.val (.ref a1), .val (.int ((((((0 : Int32) + p1) + p2) + p3) + p4) + p5)), .val (.int (5 : Int32)), .val (.int p5)] [(.ref a1), (.int (5 : Int32))])) rfl rfl (hb hby d1_6) _ ?_
    rw [len_of cSq21 cNq21]
    show Steps p.tables e below (T19.setTop (mkF m 7 #[.val (.ref a1), .val (.int ((((((0 : Int32) + p1) + p2) + p3) + p4) + p5)), .val (.int (5 : Int32)), .val (.int p5)] [(.int (5 : Int32)), (.int (5 : Int32))])) _
    refine XS.icmpYes X19.here hx rfl (pc0 := 7) (pc' := 28) rfl (hb hby d1_7) rfl (flt (by decide)).2.1 (by decide) (by decide) ?_
    exact kt)
  have kp24 : Keep h0 h19 [a1] := ((((((Keep.refl h0 [a1]).wr W3 (Or.inl (List.mem_of_getElem? (i := 0) rfl))).wr W7 (Or.inl (List.mem_of_getElem? (i := 0) rfl))).wr W11 (Or.inl (List.mem_of_getElem? (i := 0) rfl))).wr W15 (Or.inl (List.mem_of_getElem? (i := 0) rfl))).wr W19 (Or.inl (List.mem_of_getElem? (i := 0) rfl)))
  obtain ⟨fs23, hr23, hrun23, hended23, hW23, hsame23⟩ := X19.leave (v := none) (fun _ => rfl)
  refine ⟨_, _, pre0 _ (K22 _ ?_), hrun23, hended23, _, _, rfl, ?_, ⟨_, rfl⟩, hW23, hsame23.mono (by decide) (by decide)⟩
  · exact X19.returnOut hx Bd.returns (hb hby d1_28) hr23
  · show QCts Z a1 kx p1 p2 p3 p4 p5 h0 n0 _ T19.heap _
    rw [e19]
    exact ⟨rfl, N19, kp24, V19⟩
theorem pn_0 : plainName "lastcolumn/stage/SuffixArrayCountsToStartsPinLaw" = true := by first | (simp [plainName, overriddenIn]; done) | decide +kernel
theorem pd___I_V : parseMethodDescriptor "([I)V" = some ⟨[(.array .int)], none⟩ := by decide +kernel
theorem ef_0 (m : MethodId) (p1 : Int32) (p2 : Int32) (p3 : Int32) (p4 : Int32) (p5 : Int32) : entryFrame m #[(.int p1), (.int p2), (.int p3), (.int p4), (.int p5)] maxLocals = mkF m 0 #[.val (.int p1), .val (.int p2), .val (.int p3), .val (.int p4), .val (.int p5), .unset, .unset, .unset, .unset, .unset] [] := by first | (simp [entryFrame, mkF, argsToLocals, Value.category, maxLocals]; done) | rfl
def Q0 (Z : State) (p1 : Int32) (p2 : Int32) (p3 : Int32) (p4 : Int32) (p5 : Int32) (h0 : Heap) (n0 : Nat) (v : Option Value) (h : Heap) (L : List Loc) : Prop := v = some (.int (1 : Int32)) ∧ Fr n0 L
set_option maxRecDepth 65536 in
set_option maxHeartbeats 40000000 in
theorem rm0 (l : Launch) (Z : State) (a0 : Array Value) (hw : ∀ d ∈ tables_1, d.before a0 Z = true) (ws : List Jvm.Cond) (p1 : Int32) (p2 : Int32) (p3 : Int32) (p4 : Int32) (p5 : Int32) (h0 : Heap) (n0 : Nat) (Z0 : n0 ≤ h0.size) :
    MetFree l x (head1 (Jvm.Cond.code x code maxLocals ret :: ws) room_1) (fun a U => a = #[(.int p1), (.int p2), (.int p3), (.int p4), (.int p5)] ∧ Z.Warmed39 U.vm ∧ U.heap = h0) (fun _ _ _ _ _ => True) (fun _ U o U' => ∃ v L, o = .returned v ∧ Q0 Z p1 p2 p3 p4 p5 h0 n0 v U'.heap L ∧ FrameEnd U o U' L room_1.cells room_1.slots) := by
  refine MetFree.of_bodySF (plainFor_of_name pn_0) hisR ?_
  intro p e s m args below meth c s₁ Bd hml0 hP hK
  obtain ⟨rfl, hZ, hh⟩ := hP
  have hx := Bd.exec
  have hby := Bd.bytes
  have hml : c.maxLocals = 10 := hml0
  have hown : s.vm.findClass "lastcolumn/stage/SuffixArrayCountsToStartsPinLaw" = some m.cls := findClass_of_methodNamed Bd.named
  have hnm := (name_of_methodNamed Bd.named Bd.method).1
  have X0 : Stand p l e room_1 s m #[(.int p1), (.int p2), (.int p3), (.int p4), (.int p5)] below meth c s₁ [] 0 0 := Stand.of_body Bd
  have hs0 : h0 = s.heap := hh.symm
  have e0 : s₁.heap = h0 := by rw [← hh, Bd.state]; rfl
  have N0 := Fr.nil n0
  obtain ⟨f0, hf0⟩ : ∃ f, f = entryFrame m #[(.int p1), (.int p2), (.int p3), (.int p4), (.int p5)] maxLocals := ⟨_, rfl⟩
  have pre0 : ∀ t, Steps p.tables e below (s₁.setTop f0) t → Steps p.tables e below (s₁.setTop (entryFrame m #[(.int p1), (.int p2), (.int p3), (.int p4), (.int p5)] maxLocals)) t := fun t k => hf0 ▸ k
  have K0 : Gx p e below s₁ f0 s₁ (mkF m 0 #[.val (.int p1), .val (.int p2), .val (.int p3), .val (.int p4), .val (.int p5), .unset, .unset, .unset, .unset, .unset] []) := fun t kt => by rw [hf0]; exact castTop (ef_0 m p1 p2 p3 p4 p5) kt
  have K1 : Gx p e below s₁ f0 s₁ (mkF m 1 #[.val (.int p1), .val (.int p2), .val (.int p3), .val (.int p4), .val (.int p5), .unset, .unset, .unset, .unset, .unset] [(.int (5 : Int32))]) := fun t kt => K0 t (by
    show Steps p.tables e below (s₁.setTop (mkF m 0 #[.val (.int p1), .val (.int p2), .val (.int p3), .val (.int p4), .val (.int p5), .unset, .unset, .unset, .unset, .unset] [])) _
    refine XS.iconst X0.here hx rfl (hb hby at_0) ?_
    exact kt)
  obtain ⟨T2, h2, k2, X2, e2, E2, A2, st2⟩ := newP X0 hx hZ (hw _ (List.mem_of_getElem? (i := 0) rfl)) e0 (g := (mkF m 1 #[.val (.int p1), .val (.int p2), .val (.int p3), .val (.int p4), .val (.int p5), .unset, .unset, .unset, .unset, .unset] [(.int (5 : Int32))])) rfl (hb hby at_1) rfl (by decide) (cap := 5) (by decide) (by decide) (by decide) (by decide)
  obtain ⟨b2, g2⟩ : ∃ z, z = h0.size := ⟨_, rfl⟩
  rw [← g2] at A2 st2
  have V2 : Arv Z h2 b2 k2 .int (5 : Int32) [(.int (0 : Int32)), (.int (0 : Int32)), (.int (0 : Int32)), (.int (0 : Int32)), (.int (0 : Int32))] (.int (0 : Int32)) := (Arv.new A2 (by decide)).pad (pad_rep [] (.int (0 : Int32)) 5)
  have K3 : Gx p e below s₁ f0 T2 (mkF m 3 #[.val (.int p1), .val (.int p2), .val (.int p3), .val (.int p4), .val (.int p5), .unset, .unset, .unset, .unset, .unset] [(.ref b2)]) := fun t kt => K1 t (st2 t kt)
  have K4 : Gx p e below s₁ f0 T2 (mkF m 9 #[.val (.int p1), .val (.int p2), .val (.int p3), .val (.int p4), .val (.int p5), .val (.ref b2), .unset, .unset, .unset, .unset] [(.int p1), (.int (0 : Int32)), (.ref b2)]) := fun t kt => K3 t (by
    show Steps p.tables e below (T2.setTop (mkF m 3 #[.val (.int p1), .val (.int p2), .val (.int p3), .val (.int p4), .val (.int p5), .unset, .unset, .unset, .unset, .unset] [(.ref b2)])) _
    refine XS.astore X2.here hx rfl (hb hby at_3) rfl rfl (l' := #[.val (.int p1), .val (.int p2), .val (.int p3), .val (.int p4), .val (.int p5), .val (.ref b2), .unset, .unset, .unset, .unset]) rfl ?_
    show Steps p.tables e below (T2.setTop (mkF m 5 #[.val (.int p1), .val (.int p2), .val (.int p3), .val (.int p4), .val (.int p5), .val (.ref b2), .unset, .unset, .unset, .unset] [])) _
    refine XS.aload X2.here hx rfl (hb hby at_5) rfl rfl ?_
    show Steps p.tables e below (T2.setTop (mkF m 7 #[.val (.int p1), .val (.int p2), .val (.int p3), .val (.int p4), .val (.int p5), .val (.ref b2), .unset, .unset, .unset, .unset] [(.ref b2)])) _
    refine XS.iconst X2.here hx rfl (hb hby at_7) ?_
    show Steps p.tables e below (T2.setTop (mkF m 8 #[.val (.int p1), .val (.int p2), .val (.int p3), .val (.int p4), .val (.int p5), .val (.ref b2), .unset, .unset, .unset, .unset] [(.int (0 : Int32)), (.ref b2)])) _
    refine XS.iloadN X2.here hx rfl (hb hby at_8) rfl ?_
    exact kt)
  obtain ⟨clq5, Arq5, ckq5, cSq5, cNq5, cHq5, cGq5⟩ := id V2
  obtain ⟨T6, h6, X6', e6, W6, st6⟩ := stI X2 hx hZ e2 Arq5 (j := (0 : Int32)) (inb_of cSq5 ⟨by decide, by decide⟩) (g := (mkF m 9 #[.val (.int p1), .val (.int p2), .val (.int p3), .val (.int p4), .val (.int p5), .val (.ref b2), .unset, .unset, .unset, .unset] [(.int p1), (.int (0 : Int32)), (.ref b2)])) rfl rfl (hb hby at_9)
  obtain ⟨lc6, X6, N6⟩ : ∃ lc, Stand p l e room_1 s m #[(.int p1), (.int p2), (.int p3), (.int p4), (.int p5)] below meth c T6 lc 1 5 ∧ Fr n0 lc := ⟨_, X6', Fr.snoc X6' N0 (Nat.le_trans Z0 (Nat.le_trans (Keep.refl h0 []).1 (Nat.le_of_eq g2.symm)))⟩
  have V6 : Arv Z h6 b2 k2 .int (5 : Int32) [(.int p1), (.int (0 : Int32)), (.int (0 : Int32)), (.int (0 : Int32)), (.int (0 : Int32))] (.int (0 : Int32)) := Arv.set Arq5 ckq5 cSq5 cNq5 cHq5 cGq5 rfl W6 0 rfl (Nat.le_of_ble_eq_true rfl)
  have K7 : Gx p e below s₁ f0 T6 (mkF m 10 #[.val (.int p1), .val (.int p2), .val (.int p3), .val (.int p4), .val (.int p5), .val (.ref b2), .unset, .unset, .unset, .unset] []) := fun t kt => K4 t (st6 t kt)
  have K8 : Gx p e below s₁ f0 T6 (mkF m 14 #[.val (.int p1), .val (.int p2), .val (.int p3), .val (.int p4), .val (.int p5), .val (.ref b2), .unset, .unset, .unset, .unset] [(.int p2), (.int (1 : Int32)), (.ref b2)]) := fun t kt => K7 t (by
    show Steps p.tables e below (T6.setTop (mkF m 10 #[.val (.int p1), .val (.int p2), .val (.int p3), .val (.int p4), .val (.int p5), .val (.ref b2), .unset, .unset, .unset, .unset] [])) _
    refine XS.aload X6.here hx rfl (hb hby at_10) rfl rfl ?_
    show Steps p.tables e below (T6.setTop (mkF m 12 #[.val (.int p1), .val (.int p2), .val (.int p3), .val (.int p4), .val (.int p5), .val (.ref b2), .unset, .unset, .unset, .unset] [(.ref b2)])) _
    refine XS.iconst X6.here hx rfl (hb hby at_12) ?_
    show Steps p.tables e below (T6.setTop (mkF m 13 #[.val (.int p1), .val (.int p2), .val (.int p3), .val (.int p4), .val (.int p5), .val (.ref b2), .unset, .unset, .unset, .unset] [(.int (1 : Int32)), (.ref b2)])) _
    refine XS.iloadN X6.here hx rfl (hb hby at_13) rfl ?_
    exact kt)
  obtain ⟨clq9, Arq9, ckq9, cSq9, cNq9, cHq9, cGq9⟩ := id V6
  obtain ⟨T10, h10, X10', e10, W10, st10⟩ := stI X6 hx hZ e6 Arq9 (j := (1 : Int32)) (inb_of cSq9 ⟨by decide, by decide⟩) (g := (mkF m 14 #[.val (.int p1), .val (.int p2), .val (.int p3), .val (.int p4), .val (.int p5), .val (.ref b2), .unset, .unset, .unset, .unset] [(.int p2), (.int (1 : Int32)), (.ref b2)])) rfl rfl (hb hby at_14)
  obtain ⟨lc10, X10, N10⟩ : ∃ lc, Stand p l e room_1 s m #[(.int p1), (.int p2), (.int p3), (.int p4), (.int p5)] below meth c T10 lc 1 5 ∧ Fr n0 lc := ⟨_, X10', Fr.snoc X10' N6 (Nat.le_trans Z0 (Nat.le_trans (Keep.refl h0 []).1 (Nat.le_of_eq g2.symm)))⟩
  have V10 : Arv Z h10 b2 k2 .int (5 : Int32) [(.int p1), (.int p2), (.int (0 : Int32)), (.int (0 : Int32)), (.int (0 : Int32))] (.int (0 : Int32)) := Arv.set Arq9 ckq9 cSq9 cNq9 cHq9 cGq9 rfl W10 1 rfl (Nat.le_of_ble_eq_true rfl)
  have K11 : Gx p e below s₁ f0 T10 (mkF m 15 #[.val (.int p1), .val (.int p2), .val (.int p3), .val (.int p4), .val (.int p5), .val (.ref b2), .unset, .unset, .unset, .unset] []) := fun t kt => K8 t (st10 t kt)
  have K12 : Gx p e below s₁ f0 T10 (mkF m 19 #[.val (.int p1), .val (.int p2), .val (.int p3), .val (.int p4), .val (.int p5), .val (.ref b2), .unset, .unset, .unset, .unset] [(.int p3), (.int (2 : Int32)), (.ref b2)]) := fun t kt => K11 t (by
    show Steps p.tables e below (T10.setTop (mkF m 15 #[.val (.int p1), .val (.int p2), .val (.int p3), .val (.int p4), .val (.int p5), .val (.ref b2), .unset, .unset, .unset, .unset] [])) _
    refine XS.aload X10.here hx rfl (hb hby at_15) rfl rfl ?_
    show Steps p.tables e below (T10.setTop (mkF m 17 #[.val (.int p1), .val (.int p2), .val (.int p3), .val (.int p4), .val (.int p5), .val (.ref b2), .unset, .unset, .unset, .unset] [(.ref b2)])) _
    refine XS.iconst X10.here hx rfl (hb hby at_17) ?_
    show Steps p.tables e below (T10.setTop (mkF m 18 #[.val (.int p1), .val (.int p2), .val (.int p3), .val (.int p4), .val (.int p5), .val (.ref b2), .unset, .unset, .unset, .unset] [(.int (2 : Int32)), (.ref b2)])) _
    refine XS.iloadN X10.here hx rfl (hb hby at_18) rfl ?_
    exact kt)
  obtain ⟨clq13, Arq13, ckq13, cSq13, cNq13, cHq13, cGq13⟩ := id V10
  obtain ⟨T14, h14, X14', e14, W14, st14⟩ := stI X10 hx hZ e10 Arq13 (j := (2 : Int32)) (inb_of cSq13 ⟨by decide, by decide⟩) (g := (mkF m 19 #[.val (.int p1), .val (.int p2), .val (.int p3), .val (.int p4), .val (.int p5), .val (.ref b2), .unset, .unset, .unset, .unset] [(.int p3), (.int (2 : Int32)), (.ref b2)])) rfl rfl (hb hby at_19)
  obtain ⟨lc14, X14, N14⟩ : ∃ lc, Stand p l e room_1 s m #[(.int p1), (.int p2), (.int p3), (.int p4), (.int p5)] below meth c T14 lc 1 5 ∧ Fr n0 lc := ⟨_, X14', Fr.snoc X14' N10 (Nat.le_trans Z0 (Nat.le_trans (Keep.refl h0 []).1 (Nat.le_of_eq g2.symm)))⟩
  have V14 : Arv Z h14 b2 k2 .int (5 : Int32) [(.int p1), (.int p2), (.int p3), (.int (0 : Int32)), (.int (0 : Int32))] (.int (0 : Int32)) := Arv.set Arq13 ckq13 cSq13 cNq13 cHq13 cGq13 rfl W14 2 rfl (Nat.le_of_ble_eq_true rfl)
  have K15 : Gx p e below s₁ f0 T14 (mkF m 20 #[.val (.int p1), .val (.int p2), .val (.int p3), .val (.int p4), .val (.int p5), .val (.ref b2), .unset, .unset, .unset, .unset] []) := fun t kt => K12 t (st14 t kt)
  have K16 : Gx p e below s₁ f0 T14 (mkF m 24 #[.val (.int p1), .val (.int p2), .val (.int p3), .val (.int p4), .val (.int p5), .val (.ref b2), .unset, .unset, .unset, .unset] [(.int p4), (.int (3 : Int32)), (.ref b2)]) := fun t kt => K15 t (by
    show Steps p.tables e below (T14.setTop (mkF m 20 #[.val (.int p1), .val (.int p2), .val (.int p3), .val (.int p4), .val (.int p5), .val (.ref b2), .unset, .unset, .unset, .unset] [])) _
    refine XS.aload X14.here hx rfl (hb hby at_20) rfl rfl ?_
    show Steps p.tables e below (T14.setTop (mkF m 22 #[.val (.int p1), .val (.int p2), .val (.int p3), .val (.int p4), .val (.int p5), .val (.ref b2), .unset, .unset, .unset, .unset] [(.ref b2)])) _
    refine XS.iconst X14.here hx rfl (hb hby at_22) ?_
    show Steps p.tables e below (T14.setTop (mkF m 23 #[.val (.int p1), .val (.int p2), .val (.int p3), .val (.int p4), .val (.int p5), .val (.ref b2), .unset, .unset, .unset, .unset] [(.int (3 : Int32)), (.ref b2)])) _
    refine XS.iloadN X14.here hx rfl (hb hby at_23) rfl ?_
    exact kt)
  obtain ⟨clq17, Arq17, ckq17, cSq17, cNq17, cHq17, cGq17⟩ := id V14
  obtain ⟨T18, h18, X18', e18, W18, st18⟩ := stI X14 hx hZ e14 Arq17 (j := (3 : Int32)) (inb_of cSq17 ⟨by decide, by decide⟩) (g := (mkF m 24 #[.val (.int p1), .val (.int p2), .val (.int p3), .val (.int p4), .val (.int p5), .val (.ref b2), .unset, .unset, .unset, .unset] [(.int p4), (.int (3 : Int32)), (.ref b2)])) rfl rfl (hb hby at_24)
  obtain ⟨lc18, X18, N18⟩ : ∃ lc, Stand p l e room_1 s m #[(.int p1), (.int p2), (.int p3), (.int p4), (.int p5)] below meth c T18 lc 1 5 ∧ Fr n0 lc := ⟨_, X18', Fr.snoc X18' N14 (Nat.le_trans Z0 (Nat.le_trans (Keep.refl h0 []).1 (Nat.le_of_eq g2.symm)))⟩
  have V18 : Arv Z h18 b2 k2 .int (5 : Int32) [(.int p1), (.int p2), (.int p3), (.int p4), (.int (0 : Int32))] (.int (0 : Int32)) := Arv.set Arq17 ckq17 cSq17 cNq17 cHq17 cGq17 rfl W18 3 rfl (Nat.le_of_ble_eq_true rfl)
  have K19 : Gx p e below s₁ f0 T18 (mkF m 25 #[.val (.int p1), .val (.int p2), .val (.int p3), .val (.int p4), .val (.int p5), .val (.ref b2), .unset, .unset, .unset, .unset] []) := fun t kt => K16 t (st18 t kt)
  have K20 : Gx p e below s₁ f0 T18 (mkF m 30 #[.val (.int p1), .val (.int p2), .val (.int p3), .val (.int p4), .val (.int p5), .val (.ref b2), .unset, .unset, .unset, .unset] [(.int p5), (.int (4 : Int32)), (.ref b2)]) := fun t kt => K19 t (by
    show Steps p.tables e below (T18.setTop (mkF m 25 #[.val (.int p1), .val (.int p2), .val (.int p3), .val (.int p4), .val (.int p5), .val (.ref b2), .unset, .unset, .unset, .unset] [])) _
    refine XS.aload X18.here hx rfl (hb hby at_25) rfl rfl ?_
    show Steps p.tables e below (T18.setTop (mkF m 27 #[.val (.int p1), .val (.int p2), .val (.int p3), .val (.int p4), .val (.int p5), .val (.ref b2), .unset, .unset, .unset, .unset] [(.ref b2)])) _
    refine XS.iconst X18.here hx rfl (hb hby at_27) ?_
    show Steps p.tables e below (T18.setTop (mkF m 28 #[.val (.int p1), .val (.int p2), .val (.int p3), .val (.int p4), .val (.int p5), .val (.ref b2), .unset, .unset, .unset, .unset] [(.int (4 : Int32)), (.ref b2)])) _
    refine XS.iload X18.here hx rfl (hb hby at_28) rfl ?_
    exact kt)
  obtain ⟨clq21, Arq21, ckq21, cSq21, cNq21, cHq21, cGq21⟩ := id V18
  obtain ⟨T22, h22, X22', e22, W22, st22⟩ := stI X18 hx hZ e18 Arq21 (j := (4 : Int32)) (inb_of cSq21 ⟨by decide, by decide⟩) (g := (mkF m 30 #[.val (.int p1), .val (.int p2), .val (.int p3), .val (.int p4), .val (.int p5), .val (.ref b2), .unset, .unset, .unset, .unset] [(.int p5), (.int (4 : Int32)), (.ref b2)])) rfl rfl (hb hby at_30)
  obtain ⟨lc22, X22, N22⟩ : ∃ lc, Stand p l e room_1 s m #[(.int p1), (.int p2), (.int p3), (.int p4), (.int p5)] below meth c T22 lc 1 5 ∧ Fr n0 lc := ⟨_, X22', Fr.snoc X22' N18 (Nat.le_trans Z0 (Nat.le_trans (Keep.refl h0 []).1 (Nat.le_of_eq g2.symm)))⟩
  have V22 : Arv Z h22 b2 k2 .int (5 : Int32) [(.int p1), (.int p2), (.int p3), (.int p4), (.int p5)] (.int (0 : Int32)) := Arv.set Arq21 ckq21 cSq21 cNq21 cHq21 cGq21 rfl W22 4 rfl (Nat.le_of_ble_eq_true rfl)
  have K23 : Gx p e below s₁ f0 T22 (mkF m 31 #[.val (.int p1), .val (.int p2), .val (.int p3), .val (.int p4), .val (.int p5), .val (.ref b2), .unset, .unset, .unset, .unset] []) := fun t kt => K20 t (st22 t kt)
  have K24 : Gx p e below s₁ f0 T22 (mkF m 33 #[.val (.int p1), .val (.int p2), .val (.int p3), .val (.int p4), .val (.int p5), .val (.ref b2), .unset, .unset, .unset, .unset] [(.ref b2)]) := fun t kt => K23 t (by
    show Steps p.tables e below (T22.setTop (mkF m 31 #[.val (.int p1), .val (.int p2), .val (.int p3), .val (.int p4), .val (.int p5), .val (.ref b2), .unset, .unset, .unset, .unset] [])) _
    refine XS.aload X22.here hx rfl (hb hby at_31) rfl rfl ?_
    exact kt)
  have kp25 : Keep h0 h22 [] := (((((((Keep.refl h0 []).ext E2).wr W6 (Or.inr (Nat.le_trans (Keep.refl h0 []).1 (Nat.le_of_eq g2.symm)))).wr W10 (Or.inr (Nat.le_trans (Keep.refl h0 []).1 (Nat.le_of_eq g2.symm)))).wr W14 (Or.inr (Nat.le_trans (Keep.refl h0 []).1 (Nat.le_of_eq g2.symm)))).wr W18 (Or.inr (Nat.le_trans (Keep.refl h0 []).1 (Nat.le_of_eq g2.symm)))).wr W22 (Or.inr (Nat.le_trans (Keep.refl h0 []).1 (Nat.le_of_eq g2.symm))))
  obtain ⟨_, _, ⟨T26, L26, k26, n26⟩, -, X26', ⟨Lc26, hQ26, l26, y26, z26⟩, st26⟩ := Jvm.LawKit.callS X22 hx (y := (⟨"lastcolumn/stage/SuffixArray", "countsToStarts", "([I)V"⟩ : MethodName)) hown (mvT hZ (hw _ (List.mem_of_getElem? (i := 1) rfl))) (mvT hZ (hw _ (List.mem_of_getElem? (i := 2) rfl))) (mvT hZ (hw _ (List.mem_of_getElem? (i := 3) rfl))) (mvT hZ (hw _ (List.mem_of_getElem? (i := 4) rfl))) (by decide) (backOf (W := 0) (rmCts l Z a0 hw [] b2 k2 p1 p2 p3 p4 p5 h22 n0 (Nat.le_trans Z0 kp25.1) V22 (Nat.le_trans Z0 (Nat.le_trans (Keep.refl h0 []).1 (Nat.le_of_eq g2.symm)))) hZ (hw _ (List.mem_of_getElem? (i := 4) rfl)) (hw _ (List.mem_of_getElem? (i := 3) rfl)) (by decide) (by decide)) (g := (mkF m 33 #[.val (.int p1), .val (.int p2), .val (.int p3), .val (.int p4), .val (.int p5), .val (.ref b2), .unset, .unset, .unset, .unset] [(.ref b2)])) rfl (by rw [hml]; rfl) (argsL := [(.ref b2)]) (rest := []) (lenOf pd___I_V rfl) rfl (by show 2 * 0 + _ ≤ _; exact Nat.le_of_eq rfl) (hb hby at_33) (fun _ _ => ⟨rfl, e22, (by decide : 1 + 0 ≤ _), (by decide : 5 + 0 ≤ _)⟩)
  dsimp only [Pt.U, Pt.locs, Pt.cells, Pt.slots] at X26' l26 y26 z26 st26 hQ26
  subst l26 y26 z26
  obtain ⟨h26, e26⟩ : ∃ z, T26.heap = z := ⟨_, rfl⟩
  rw [e26] at hQ26
  obtain ⟨rfl, N26q, Kc26, f27⟩ := hQ26
  obtain ⟨lc26, X26, N26⟩ : ∃ lc, Stand p l e room_1 s m #[(.int p1), (.int p2), (.int p3), (.int p4), (.int p5)] below meth c T26 lc 1 5 ∧ Fr n0 lc := ⟨_, X26', Fr.app N22 N26q⟩
  have K28 : Gx p e below s₁ f0 T26 (mkF m 36 #[.val (.int p1), .val (.int p2), .val (.int p3), .val (.int p4), .val (.int p5), .val (.ref b2), .unset, .unset, .unset, .unset] []) := fun t kt => K24 t (st26 t kt)
  obtain ⟨clq29, Arq29, ckq29, cSq29, cNq29, cHq29, cGq29⟩ := id f27
  have K30 : Gx p e below s₁ f0 T26 (mkF m 115 #[.val (.int p1), .val (.int p2), .val (.int p3), .val (.int p4), .val (.int p5), .val (.ref b2), .val (.int p1), .val (.int (p1 + p2)), .val (.int ((p1 + p2) + p3)), .val (.int (((p1 + p2) + p3) + p4))] [(.int (1 : Int32))]) := fun t kt => K28 t (by
    show Steps p.tables e below (T26.setTop (mkF m 36 #[.val (.int p1), .val (.int p2), .val (.int p3), .val (.int p4), .val (.int p5), .val (.ref b2), .unset, .unset, .unset, .unset] [])) _
    refine XS.iloadN X26.here hx rfl (hb hby at_36) rfl ?_
    show Steps p.tables e below (T26.setTop (mkF m 37 #[.val (.int p1), .val (.int p2), .val (.int p3), .val (.int p4), .val (.int p5), .val (.ref b2), .unset, .unset, .unset, .unset] [(.int p1)])) _
    refine XS.istore X26.here hx rfl (hb hby at_37) rfl (l' := #[.val (.int p1), .val (.int p2), .val (.int p3), .val (.int p4), .val (.int p5), .val (.ref b2), .val (.int p1), .unset, .unset, .unset]) rfl ?_
    show Steps p.tables e below (T26.setTop (mkF m 39 #[.val (.int p1), .val (.int p2), .val (.int p3), .val (.int p4), .val (.int p5), .val (.ref b2), .val (.int p1), .unset, .unset, .unset] [])) _
    refine XS.iloadN X26.here hx rfl (hb hby at_39) rfl ?_
    show Steps p.tables e below (T26.setTop (mkF m 40 #[.val (.int p1), .val (.int p2), .val (.int p3), .val (.int p4), .val (.int p5), .val (.ref b2), .val (.int p1), .unset, .unset, .unset] [(.int p1)])) _
    refine XS.iloadN X26.here hx rfl (hb hby at_40) rfl ?_
    show Steps p.tables e below (T26.setTop (mkF m 41 #[.val (.int p1), .val (.int p2), .val (.int p3), .val (.int p4), .val (.int p5), .val (.ref b2), .val (.int p1), .unset, .unset, .unset] [(.int p2), (.int p1)])) _
    refine XS.iadd X26.here hx rfl (hb hby at_41) rfl ?_
    show Steps p.tables e below (T26.setTop (mkF m 42 #[.val (.int p1), .val (.int p2), .val (.int p3), .val (.int p4), .val (.int p5), .val (.ref b2), .val (.int p1), .unset, .unset, .unset] [(.int (p1 + p2))])) _
    refine XS.istore X26.here hx rfl (hb hby at_42) rfl (l' := #[.val (.int p1), .val (.int p2), .val (.int p3), .val (.int p4), .val (.int p5), .val (.ref b2), .val (.int p1), .val (.int (p1 + p2)), .unset, .unset]) rfl ?_
    show Steps p.tables e below (T26.setTop (mkF m 44 #[.val (.int p1), .val (.int p2), .val (.int p3), .val (.int p4), .val (.int p5), .val (.ref b2), .val (.int p1), .val (.int (p1 + p2)), .unset, .unset] [])) _
    refine XS.iloadN X26.here hx rfl (hb hby at_44) rfl ?_
    show Steps p.tables e below (T26.setTop (mkF m 45 #[.val (.int p1), .val (.int p2), .val (.int p3), .val (.int p4), .val (.int p5), .val (.ref b2), .val (.int p1), .val (.int (p1 + p2)), .unset, .unset] [(.int p1)])) _
    refine XS.iloadN X26.here hx rfl (hb hby at_45) rfl ?_
    show Steps p.tables e below (T26.setTop (mkF m 46 #[.val (.int p1), .val (.int p2), .val (.int p3), .val (.int p4), .val (.int p5), .val (.ref b2), .val (.int p1), .val (.int (p1 + p2)), .unset, .unset] [(.int p2), (.int p1)])) _
    refine XS.iadd X26.here hx rfl (hb hby at_46) rfl ?_
    show Steps p.tables e below (T26.setTop (mkF m 47 #[.val (.int p1), .val (.int p2), .val (.int p3), .val (.int p4), .val (.int p5), .val (.ref b2), .val (.int p1), .val (.int (p1 + p2)), .unset, .unset] [(.int (p1 + p2))])) _
    refine XS.iloadN X26.here hx rfl (hb hby at_47) rfl ?_
    show Steps p.tables e below (T26.setTop (mkF m 48 #[.val (.int p1), .val (.int p2), .val (.int p3), .val (.int p4), .val (.int p5), .val (.ref b2), .val (.int p1), .val (.int (p1 + p2)), .unset, .unset] [(.int p3), (.int (p1 + p2))])) _
    refine XS.iadd X26.here hx rfl (hb hby at_48) rfl ?_
    show Steps p.tables e below (T26.setTop (mkF m 49 #[.val (.int p1), .val (.int p2), .val (.int p3), .val (.int p4), .val (.int p5), .val (.ref b2), .val (.int p1), .val (.int (p1 + p2)), .unset, .unset] [(.int ((p1 + p2) + p3))])) _
    refine XS.istore X26.here hx rfl (hb hby at_49) rfl (l' := #[.val (.int p1), .val (.int p2), .val (.int p3), .val (.int p4), .val (.int p5), .val (.ref b2), .val (.int p1), .val (.int (p1 + p2)), .val (.int ((p1 + p2) + p3)), .unset]) rfl ?_
    show Steps p.tables e below (T26.setTop (mkF m 51 #[.val (.int p1), .val (.int p2), .val (.int p3), .val (.int p4), .val (.int p5), .val (.ref b2), .val (.int p1), .val (.int (p1 + p2)), .val (.int ((p1 + p2) + p3)), .unset] [])) _
    refine XS.iloadN X26.here hx rfl (hb hby at_51) rfl ?_
    show Steps p.tables e below (T26.setTop (mkF m 52 #[.val (.int p1), .val (.int p2), .val (.int p3), .val (.int p4), .val (.int p5), .val (.ref b2), .val (.int p1), .val (.int (p1 + p2)), .val (.int ((p1 + p2) + p3)), .unset] [(.int p1)])) _
    refine XS.iloadN X26.here hx rfl (hb hby at_52) rfl ?_
    show Steps p.tables e below (T26.setTop (mkF m 53 #[.val (.int p1), .val (.int p2), .val (.int p3), .val (.int p4), .val (.int p5), .val (.ref b2), .val (.int p1), .val (.int (p1 + p2)), .val (.int ((p1 + p2) + p3)), .unset] [(.int p2), (.int p1)])) _
    refine XS.iadd X26.here hx rfl (hb hby at_53) rfl ?_
    show Steps p.tables e below (T26.setTop (mkF m 54 #[.val (.int p1), .val (.int p2), .val (.int p3), .val (.int p4), .val (.int p5), .val (.ref b2), .val (.int p1), .val (.int (p1 + p2)), .val (.int ((p1 + p2) + p3)), .unset] [(.int (p1 + p2))])) _
    refine XS.iloadN X26.here hx rfl (hb hby at_54) rfl ?_
    show Steps p.tables e below (T26.setTop (mkF m 55 #[.val (.int p1), .val (.int p2), .val (.int p3), .val (.int p4), .val (.int p5), .val (.ref b2), .val (.int p1), .val (.int (p1 + p2)), .val (.int ((p1 + p2) + p3)), .unset] [(.int p3), (.int (p1 + p2))])) _
    refine XS.iadd X26.here hx rfl (hb hby at_55) rfl ?_
    show Steps p.tables e below (T26.setTop (mkF m 56 #[.val (.int p1), .val (.int p2), .val (.int p3), .val (.int p4), .val (.int p5), .val (.ref b2), .val (.int p1), .val (.int (p1 + p2)), .val (.int ((p1 + p2) + p3)), .unset] [(.int ((p1 + p2) + p3))])) _
    refine XS.iloadN X26.here hx rfl (hb hby at_56) rfl ?_
    show Steps p.tables e below (T26.setTop (mkF m 57 #[.val (.int p1), .val (.int p2), .val (.int p3), .val (.int p4), .val (.int p5), .val (.ref b2), .val (.int p1), .val (.int (p1 + p2)), .val (.int ((p1 + p2) + p3)), .unset] [(.int p4), (.int ((p1 + p2) + p3))])) _
    refine XS.iadd X26.here hx rfl (hb hby at_57) rfl ?_
    show Steps p.tables e below (T26.setTop (mkF m 58 #[.val (.int p1), .val (.int p2), .val (.int p3), .val (.int p4), .val (.int p5), .val (.ref b2), .val (.int p1), .val (.int (p1 + p2)), .val (.int ((p1 + p2) + p3)), .unset] [(.int (((p1 + p2) + p3) + p4))])) _
    refine XS.istore X26.here hx rfl (hb hby at_58) rfl (l' := #[.val (.int p1), .val (.int p2), .val (.int p3), .val (.int p4), .val (.int p5), .val (.ref b2), .val (.int p1), .val (.int (p1 + p2)), .val (.int ((p1 + p2) + p3)), .val (.int (((p1 + p2) + p3) + p4))]) rfl ?_
    show Steps p.tables e below (T26.setTop (mkF m 60 #[.val (.int p1), .val (.int p2), .val (.int p3), .val (.int p4), .val (.int p5), .val (.ref b2), .val (.int p1), .val (.int (p1 + p2)), .val (.int ((p1 + p2) + p3)), .val (.int (((p1 + p2) + p3) + p4))] [])) _
    refine XS.aload X26.here hx rfl (hb hby at_60) rfl rfl ?_
    show Steps p.tables e below (T26.setTop (mkF m 62 #[.val (.int p1), .val (.int p2), .val (.int p3), .val (.int p4), .val (.int p5), .val (.ref b2), .val (.int p1), .val (.int (p1 + p2)), .val (.int ((p1 + p2) + p3)), .val (.int (((p1 + p2) + p3) + p4))] [(.ref b2)])) _
    refine X26.arraylength hx (by rw [e26]; exact Arq29.1) (State.isArrayOf_alike hZ.alike Arq29.2.1) (g := (mkF m 62 #[.val (.int p1), .val (.int p2), .val (.int p3), .val (.int p4), .val (.int p5), .val (.ref b2), .val (.int p1), .val (.int (p1 + p2)), .val (.int ((p1 + p2) + p3)), .val (.int (((p1 + p2) + p3) + p4))] [(.ref b2)])) rfl rfl (hb hby at_62) _ ?_
    rw [len_of cSq29 cNq29]
    show Steps p.tables e below (T26.setTop (mkF m 63 #[.val (.int p1), .val (.int p2), .val (.int p3), .val (.int p4), .val (.int p5), .val (.ref b2), .val (.int p1), .val (.int (p1 + p2)), .val (.int ((p1 + p2) + p3)), .val (.int (((p1 + p2) + p3) + p4))] [(.int (5 : Int32))])) _
    refine XS.iconst X26.here hx rfl (hb hby at_63) ?_
    show Steps p.tables e below (T26.setTop (mkF m 64 #[.val (.int p1), .val (.int p2), .val (.int p3), .val (.int p4), .val (.int p5), .val (.ref b2), .val (.int p1), .val (.int (p1 + p2)), .val (.int ((p1 + p2) + p3)), .val (.int (((p1 + p2) + p3) + p4))] [(.int (5 : Int32)), (.int (5 : Int32))])) _
    refine XS.icmpNo X26.here hx rfl (hb hby at_64) rfl (teq (by decide)).2 ?_
    show Steps p.tables e below (T26.setTop (mkF m 67 #[.val (.int p1), .val (.int p2), .val (.int p3), .val (.int p4), .val (.int p5), .val (.ref b2), .val (.int p1), .val (.int (p1 + p2)), .val (.int ((p1 + p2) + p3)), .val (.int (((p1 + p2) + p3) + p4))] [])) _
    refine XS.aload X26.here hx rfl (hb hby at_67) rfl rfl ?_
    show Steps p.tables e below (T26.setTop (mkF m 69 #[.val (.int p1), .val (.int p2), .val (.int p3), .val (.int p4), .val (.int p5), .val (.ref b2), .val (.int p1), .val (.int (p1 + p2)), .val (.int ((p1 + p2) + p3)), .val (.int (((p1 + p2) + p3) + p4))] [(.ref b2)])) _
    refine XS.iconst X26.here hx rfl (hb hby at_69) ?_
    show Steps p.tables e below (T26.setTop (mkF m 70 #[.val (.int p1), .val (.int p2), .val (.int p3), .val (.int p4), .val (.int p5), .val (.ref b2), .val (.int p1), .val (.int (p1 + p2)), .val (.int ((p1 + p2) + p3)), .val (.int (((p1 + p2) + p3) + p4))] [(.int (0 : Int32)), (.ref b2)])) _
    refine X26.iaload hx (j := (0 : Int32)) (v := (.int (0 : Int32))) (by rw [e26]; exact Arq29.1) (State.isArrayOf_alike hZ.alike Arq29.2.1) Arq29.2.2 (inb_of cSq29 ⟨by decide, by decide⟩) (Has.at cHq29 (inb_of cSq29 ⟨by decide, by decide⟩) rfl) (g := (mkF m 70 #[.val (.int p1), .val (.int p2), .val (.int p3), .val (.int p4), .val (.int p5), .val (.ref b2), .val (.int p1), .val (.int (p1 + p2)), .val (.int ((p1 + p2) + p3)), .val (.int (((p1 + p2) + p3) + p4))] [(.int (0 : Int32)), (.ref b2)])) rfl rfl (hb hby at_70) _ ?_
    show Steps p.tables e below (T26.setTop (mkF m 71 #[.val (.int p1), .val (.int p2), .val (.int p3), .val (.int p4), .val (.int p5), .val (.ref b2), .val (.int p1), .val (.int (p1 + p2)), .val (.int ((p1 + p2) + p3)), .val (.int (((p1 + p2) + p3) + p4))] [(.int (0 : Int32))])) _
    refine XS.ifNo X26.here hx rfl (hb hby at_71) rfl ((if0 _ _).trans (teq (by decide)).2) ?_
    show Steps p.tables e below (T26.setTop (mkF m 74 #[.val (.int p1), .val (.int p2), .val (.int p3), .val (.int p4), .val (.int p5), .val (.ref b2), .val (.int p1), .val (.int (p1 + p2)), .val (.int ((p1 + p2) + p3)), .val (.int (((p1 + p2) + p3) + p4))] [])) _
    refine XS.aload X26.here hx rfl (hb hby at_74) rfl rfl ?_
    show Steps p.tables e below (T26.setTop (mkF m 76 #[.val (.int p1), .val (.int p2), .val (.int p3), .val (.int p4), .val (.int p5), .val (.ref b2), .val (.int p1), .val (.int (p1 + p2)), .val (.int ((p1 + p2) + p3)), .val (.int (((p1 + p2) + p3) + p4))] [(.ref b2)])) _
    refine XS.iconst X26.here hx rfl (hb hby at_76) ?_
    show Steps p.tables e below (T26.setTop (mkF m 77 #[.val (.int p1), .val (.int p2), .val (.int p3), .val (.int p4), .val (.int p5), .val (.ref b2), .val (.int p1), .val (.int (p1 + p2)), .val (.int ((p1 + p2) + p3)), .val (.int (((p1 + p2) + p3) + p4))] [(.int (1 : Int32)), (.ref b2)])) _
    refine X26.iaload hx (j := (1 : Int32)) (v := (.int ((0 : Int32) + p1))) (by rw [e26]; exact Arq29.1) (State.isArrayOf_alike hZ.alike Arq29.2.1) Arq29.2.2 (inb_of cSq29 ⟨by decide, by decide⟩) (Has.at cHq29 (inb_of cSq29 ⟨by decide, by decide⟩) rfl) (g := (mkF m 77 #[.val (.int p1), .val (.int p2), .val (.int p3), .val (.int p4), .val (.int p5), .val (.ref b2), .val (.int p1), .val (.int (p1 + p2)), .val (.int ((p1 + p2) + p3)), .val (.int (((p1 + p2) + p3) + p4))] [(.int (1 : Int32)), (.ref b2)])) rfl rfl (hb hby at_77) _ ?_
    show Steps p.tables e below (T26.setTop (mkF m 78 #[.val (.int p1), .val (.int p2), .val (.int p3), .val (.int p4), .val (.int p5), .val (.ref b2), .val (.int p1), .val (.int (p1 + p2)), .val (.int ((p1 + p2) + p3)), .val (.int (((p1 + p2) + p3) + p4))] [(.int ((0 : Int32) + p1))])) _
    refine XS.iload X26.here hx rfl (hb hby at_78) rfl ?_
    show Steps p.tables e below (T26.setTop (mkF m 80 #[.val (.int p1), .val (.int p2), .val (.int p3), .val (.int p4), .val (.int p5), .val (.ref b2), .val (.int p1), .val (.int (p1 + p2)), .val (.int ((p1 + p2) + p3)), .val (.int (((p1 + p2) + p3) + p4))] [(.int p1), (.int ((0 : Int32) + p1))])) _
    refine XS.icmpNo X26.here hx rfl (hb hby at_80) rfl (teq (by rw [Int32.zero_add])).2 ?_
    show Steps p.tables e below (T26.setTop (mkF m 83 #[.val (.int p1), .val (.int p2), .val (.int p3), .val (.int p4), .val (.int p5), .val (.ref b2), .val (.int p1), .val (.int (p1 + p2)), .val (.int ((p1 + p2) + p3)), .val (.int (((p1 + p2) + p3) + p4))] [])) _
    refine XS.aload X26.here hx rfl (hb hby at_83) rfl rfl ?_
    show Steps p.tables e below (T26.setTop (mkF m 85 #[.val (.int p1), .val (.int p2), .val (.int p3), .val (.int p4), .val (.int p5), .val (.ref b2), .val (.int p1), .val (.int (p1 + p2)), .val (.int ((p1 + p2) + p3)), .val (.int (((p1 + p2) + p3) + p4))] [(.ref b2)])) _
    refine XS.iconst X26.here hx rfl (hb hby at_85) ?_
    show Steps p.tables e below (T26.setTop (mkF m 86 #[.val (.int p1), .val (.int p2), .val (.int p3), .val (.int p4), .val (.int p5), .val (.ref b2), .val (.int p1), .val (.int (p1 + p2)), .val (.int ((p1 + p2) + p3)), .val (.int (((p1 + p2) + p3) + p4))] [(.int (2 : Int32)), (.ref b2)])) _
    refine X26.iaload hx (j := (2 : Int32)) (v := (.int (((0 : Int32) + p1) + p2))) (by rw [e26]; exact Arq29.1) (State.isArrayOf_alike hZ.alike Arq29.2.1) Arq29.2.2 (inb_of cSq29 ⟨by decide, by decide⟩) (Has.at cHq29 (inb_of cSq29 ⟨by decide, by decide⟩) rfl) (g := (mkF m 86 #[.val (.int p1), .val (.int p2), .val (.int p3), .val (.int p4), .val (.int p5), .val (.ref b2), .val (.int p1), .val (.int (p1 + p2)), .val (.int ((p1 + p2) + p3)), .val (.int (((p1 + p2) + p3) + p4))] [(.int (2 : Int32)), (.ref b2)])) rfl rfl (hb hby at_86) _ ?_
    show Steps p.tables e below (T26.setTop (mkF m 87 #[.val (.int p1), .val (.int p2), .val (.int p3), .val (.int p4), .val (.int p5), .val (.ref b2), .val (.int p1), .val (.int (p1 + p2)), .val (.int ((p1 + p2) + p3)), .val (.int (((p1 + p2) + p3) + p4))] [(.int (((0 : Int32) + p1) + p2))])) _
    refine XS.iload X26.here hx rfl (hb hby at_87) rfl ?_
    show Steps p.tables e below (T26.setTop (mkF m 89 #[.val (.int p1), .val (.int p2), .val (.int p3), .val (.int p4), .val (.int p5), .val (.ref b2), .val (.int p1), .val (.int (p1 + p2)), .val (.int ((p1 + p2) + p3)), .val (.int (((p1 + p2) + p3) + p4))] [(.int (p1 + p2)), (.int (((0 : Int32) + p1) + p2))])) _
    refine XS.icmpNo X26.here hx rfl (hb hby at_89) rfl (teq (by rw [Int32.zero_add])).2 ?_
    show Steps p.tables e below (T26.setTop (mkF m 92 #[.val (.int p1), .val (.int p2), .val (.int p3), .val (.int p4), .val (.int p5), .val (.ref b2), .val (.int p1), .val (.int (p1 + p2)), .val (.int ((p1 + p2) + p3)), .val (.int (((p1 + p2) + p3) + p4))] [])) _
    refine XS.aload X26.here hx rfl (hb hby at_92) rfl rfl ?_
    show Steps p.tables e below (T26.setTop (mkF m 94 #[.val (.int p1), .val (.int p2), .val (.int p3), .val (.int p4), .val (.int p5), .val (.ref b2), .val (.int p1), .val (.int (p1 + p2)), .val (.int ((p1 + p2) + p3)), .val (.int (((p1 + p2) + p3) + p4))] [(.ref b2)])) _
    refine XS.iconst X26.here hx rfl (hb hby at_94) ?_
    show Steps p.tables e below (T26.setTop (mkF m 95 #[.val (.int p1), .val (.int p2), .val (.int p3), .val (.int p4), .val (.int p5), .val (.ref b2), .val (.int p1), .val (.int (p1 + p2)), .val (.int ((p1 + p2) + p3)), .val (.int (((p1 + p2) + p3) + p4))] [(.int (3 : Int32)), (.ref b2)])) _
    refine X26.iaload hx (j := (3 : Int32)) (v := (.int ((((0 : Int32) + p1) + p2) + p3))) (by rw [e26]; exact Arq29.1) (State.isArrayOf_alike hZ.alike Arq29.2.1) Arq29.2.2 (inb_of cSq29 ⟨by decide, by decide⟩) (Has.at cHq29 (inb_of cSq29 ⟨by decide, by decide⟩) rfl) (g := (mkF m 95 #[.val (.int p1), .val (.int p2), .val (.int p3), .val (.int p4), .val (.int p5), .val (.ref b2), .val (.int p1), .val (.int (p1 + p2)), .val (.int ((p1 + p2) + p3)), .val (.int (((p1 + p2) + p3) + p4))] [(.int (3 : Int32)), (.ref b2)])) rfl rfl (hb hby at_95) _ ?_
    show Steps p.tables e below (T26.setTop (mkF m 96 #[.val (.int p1), .val (.int p2), .val (.int p3), .val (.int p4), .val (.int p5), .val (.ref b2), .val (.int p1), .val (.int (p1 + p2)), .val (.int ((p1 + p2) + p3)), .val (.int (((p1 + p2) + p3) + p4))] [(.int ((((0 : Int32) + p1) + p2) + p3))])) _
    refine XS.iload X26.here hx rfl (hb hby at_96) rfl ?_
    show Steps p.tables e below (T26.setTop (mkF m 98 #[.val (.int p1), .val (.int p2), .val (.int p3), .val (.int p4), .val (.int p5), .val (.ref b2), .val (.int p1), .val (.int (p1 + p2)), .val (.int ((p1 + p2) + p3)), .val (.int (((p1 + p2) + p3) + p4))] [(.int ((p1 + p2) + p3)), (.int ((((0 : Int32) + p1) + p2) + p3))])) _
    refine XS.icmpNo X26.here hx rfl (hb hby at_98) rfl (teq (by rw [Int32.zero_add])).2 ?_
    show Steps p.tables e below (T26.setTop (mkF m 101 #[.val (.int p1), .val (.int p2), .val (.int p3), .val (.int p4), .val (.int p5), .val (.ref b2), .val (.int p1), .val (.int (p1 + p2)), .val (.int ((p1 + p2) + p3)), .val (.int (((p1 + p2) + p3) + p4))] [])) _
    refine XS.aload X26.here hx rfl (hb hby at_101) rfl rfl ?_
    show Steps p.tables e below (T26.setTop (mkF m 103 #[.val (.int p1), .val (.int p2), .val (.int p3), .val (.int p4), .val (.int p5), .val (.ref b2), .val (.int p1), .val (.int (p1 + p2)), .val (.int ((p1 + p2) + p3)), .val (.int (((p1 + p2) + p3) + p4))] [(.ref b2)])) _
    refine XS.iconst X26.here hx rfl (hb hby at_103) ?_
    show Steps p.tables e below (T26.setTop (mkF m 104 #[.val (.int p1), .val (.int p2), .val (.int p3), .val (.int p4), .val (.int p5), .val (.ref b2), .val (.int p1), .val (.int (p1 + p2)), .val (.int ((p1 + p2) + p3)), .val (.int (((p1 + p2) + p3) + p4))] [(.int (4 : Int32)), (.ref b2)])) _
    refine X26.iaload hx (j := (4 : Int32)) (v := (.int (((((0 : Int32) + p1) + p2) + p3) + p4))) (by rw [e26]; exact Arq29.1) (State.isArrayOf_alike hZ.alike Arq29.2.1) Arq29.2.2 (inb_of cSq29 ⟨by decide, by decide⟩) (Has.at cHq29 (inb_of cSq29 ⟨by decide, by decide⟩) rfl) (g := (mkF m 104 #[.val (.int p1), .val (.int p2), .val (.int p3), .val (.int p4), .val (.int p5), .val (.ref b2), .val (.int p1), .val (.int (p1 + p2)), .val (.int ((p1 + p2) + p3)), .val (.int (((p1 + p2) + p3) + p4))] [(.int (4 : Int32)), (.ref b2)])) rfl rfl (hb hby at_104) _ ?_
    show Steps p.tables e below (T26.setTop (mkF m 105 #[.val (.int p1), .val (.int p2), .val (.int p3), .val (.int p4), .val (.int p5), .val (.ref b2), .val (.int p1), .val (.int (p1 + p2)), .val (.int ((p1 + p2) + p3)), .val (.int (((p1 + p2) + p3) + p4))] [(.int (((((0 : Int32) + p1) + p2) + p3) + p4))])) _
    refine XS.iload X26.here hx rfl (hb hby at_105) rfl ?_
    show Steps p.tables e below (T26.setTop (mkF m 107 #[.val (.int p1), .val (.int p2), .val (.int p3), .val (.int p4), .val (.int p5), .val (.ref b2), .val (.int p1), .val (.int (p1 + p2)), .val (.int ((p1 + p2) + p3)), .val (.int (((p1 + p2) + p3) + p4))] [(.int (((p1 + p2) + p3) + p4)), (.int (((((0 : Int32) + p1) + p2) + p3) + p4))])) _
    refine XS.icmpNo X26.here hx rfl (hb hby at_107) rfl (teq (by rw [Int32.zero_add])).2 ?_
    show Steps p.tables e below (T26.setTop (mkF m 110 #[.val (.int p1), .val (.int p2), .val (.int p3), .val (.int p4), .val (.int p5), .val (.ref b2), .val (.int p1), .val (.int (p1 + p2)), .val (.int ((p1 + p2) + p3)), .val (.int (((p1 + p2) + p3) + p4))] [])) _
    refine XS.iconst X26.here hx rfl (hb hby at_110) ?_
    show Steps p.tables e below (T26.setTop (mkF m 111 #[.val (.int p1), .val (.int p2), .val (.int p3), .val (.int p4), .val (.int p5), .val (.ref b2), .val (.int p1), .val (.int (p1 + p2)), .val (.int ((p1 + p2) + p3)), .val (.int (((p1 + p2) + p3) + p4))] [(.int (1 : Int32))])) _
    refine XS.goto X26.here hx rfl (pc0 := 111) (pc' := 115) rfl (hb hby at_111) (by decide) (by decide) ?_
    exact kt)
  obtain ⟨fs31, hr31, hrun31, hended31, hW31, hsame31⟩ := X26.leave (v := some (.int (1 : Int32))) (fun h => by rw [Bd.returns] at h; cases h)
  refine ⟨_, _, pre0 _ (K30 _ ?_), hrun31, hended31, _, _, rfl, ?_, ⟨_, rfl⟩, hW31, hsame31.mono (by decide) (by decide)⟩
  · exact retN X26 hx (t := .boolean) Bd.returns (by simp) (hb hby at_115) hr31
  · show Q0 Z p1 p2 p3 p4 p5 h0 n0 _ T26.heap _
    rw [e26]
    exact ⟨rfl, N26⟩
set_option maxRecDepth 65536 in
set_option maxHeartbeats 40000000 in
theorem comes_1 {Post : Tables → Env → Array Value → State → Outcome → State → Prop} (hpost : ∀ tb e args s v u, (limb_1_1.after args s (.returned v) u = true ∧ limb_1_2.after args s (.returned v) u = true ∧ True) → FrameEnd s (.returned v) u (Jvm.fieldLocs frame_1_writes args s ++ Jvm.arrayLocs frame_1_arrays args s ++ Jvm.staticLocs frame_1_statics s) 16 128 → Post tb e args s (.returned v) u) :
    ArmFor flags0 classFile x code maxLocals ret World_1 tables_1 room_1 Calls_1 rest_1 Pre_1 Post := by
  intro l hfl _ _ p e ha hc hk s m args below hf hA hF happ hP
  obtain ⟨hcalls, hrest, hpre⟩ := hP
  obtain ⟨-, -, -, hnamed, -, -, -, hat⟩ := (Spec.applies_iff hf).mp happ
  obtain ⟨hg, hn⟩ := and_e (Cond.before_iff.mp (show (Jvm.Cond.and given_1 narrow_1).before args s = true from hpre))
  obtain ⟨g1, g2⟩ := and_e hg
  obtain ⟨g3, g4⟩ := and_e g2
  obtain ⟨g5, g6⟩ := and_e g4
  obtain ⟨g7, g8⟩ := and_e g6
  obtain ⟨g9, g10⟩ := and_e g8
  obtain ⟨w0, w1, w2, w3, w4, rfl⟩ : ∃ w0 w1 w2 w3 w4 : Value, args = #[w0, w1, w2, w3, w4] := by
    have hs : args.size = 5 := by simpa [Cond.value, given_1] using g1
    obtain ⟨L⟩ := args
    match L, hs with
    | [w0, w1, w2, w3, w4], _ => exact ⟨w0, w1, w2, w3, w4, rfl⟩
  have hw := fun d (hd : d ∈ tables_1) => atoms_spec (ws := Jvm.Cond.code x code maxLocals ret :: tables_1) hat d (List.mem_cons_of_mem _ hd)
  have hfit : Fit s := fun {y c} hc i hi => by
    obtain ⟨ha, rfl⟩ := Array.getElem?_eq_some_iff.mp hc
    have q := List.all_eq_true.mp ((Array.all_eq_true_iff_forall_mem.mp hF) _ (Array.getElem_mem ha)) i (List.mem_range.mpr hi)
    simpa [Array.getElem?_eq_getElem hi] using q
  obtain ⟨i0, ei0⟩ := is_v g3
  obtain rfl : w0 = (.int i0) := Option.some.inj ei0
  obtain ⟨i1, ei1⟩ := is_v g5
  obtain rfl : w1 = (.int i1) := Option.some.inj ei1
  obtain ⟨i2, ei2⟩ := is_v g7
  obtain rfl : w2 = (.int i2) := Option.some.inj ei2
  obtain ⟨i3, ei3⟩ := is_v g9
  obtain rfl : w3 = (.int i3) := Option.some.inj ei3
  obtain ⟨i4, ei4⟩ := is_v g10
  obtain rfl : w4 = (.int i4) := Option.some.inj ei4
  obtain ⟨n, o, h1, h2, h3, _, L, rfl, ⟨rfl, N⟩, hq⟩ := rm0 l s _ hw tables_1 i0 i1 i2 i3 i4 s.heap s.heap.size (Nat.le_refl _) p e ha hc hk s m _ below hf ((Spec.applies_iff_loose hf).mp happ).1 ⟨rfl, State.Warmed39.refl s, rfl⟩ trivial
  refine ⟨n, _, h1, h2, h3, hpost _ _ _ _ _ _ ⟨Cond.after_iff.mpr rfl, Cond.after_iff.mpr (eq_i res_at (Term.int_eval (1)) rfl), trivial⟩ ⟨hq.1, hq.2.1, (hq.2.2.sift fun y hy => Or.inr (N y hy)).mono (by decide) (by decide)⟩⟩
theorem main_1_1 : Claimed_1_1 := comes_1 fun _ _ _ _ _ _ h hF => ⟨h.1, hF⟩
theorem main_1_2 : Claimed_1_2 := comes_1 fun _ _ _ _ _ _ h hF => ⟨h.2.1, hF⟩
end Jvm.Pilot.@@N@@
namespace Jvm.Pilot.@@N@@
open Jvm Jvm.ClassFile Sem Op Lib Jvm.Free Jvm.Stand Jvm.Pilot.@@N@@.Jvm.D
/-! MADE BY PROGRAM (witnessworld.py) out of the Statement's table words and the real class files: 9 classes; the members and pool entries that the words name. The judged class is class 1, her method 1. -/
namespace start1
open Jvm.ClassFile
def u (s : String) : CpInfo := .utf8 (stringToUtf16 s)
/-- a pool by its gaps: so many unusable entries, then the entry; so many at the end -/
def gap : Nat → List CpInfo → List CpInfo
  | 0, r => r
  | n + 1, r => .unusable :: gap n r
def poolList (es : List (Nat × CpInfo)) (last : Nat) : List CpInfo := es.foldr (fun e r => gap e.1 (e.2 :: r)) (gap last [])
def pool (es : List (Nat × CpInfo)) (last : Nat) : Array CpInfo := ⟨poolList es last⟩
def fileOf (pool : Array CpInfo) (this : Nat) (attrs : Array Attribute := #[]) (ms : Array MethodInfo := #[]) (fl : Nat := 33) (sup : Nat := 0) (ifs : Array Nat := #[]) (fds : Array FieldInfo := #[]) : ClassFile where
  minorVersion := 0
  majorVersion := 65
  constantPool := pool
  accessFlags := fl
  thisClass := this
  superClass := sup
  interfaces := ifs
  fields := fds
  methods := ms
  attributes := attrs
def plain (name : String) (sup : Option ClassId) : Class where
  name := name
  kind := .ordinary
  loader := none
  accessFlags := 33
  super := sup
  interfaces := #[]
  cf := none
  fields := #[]
  methods := #[]
  instanceTypes := #[]
  staticTypes := #[]
  resolved := #[]
  callSites := []
  init := .initialized
  statics := none
  mirror := none

def pool0 : Array CpInfo := pool [(5, u "<init>"), (0, u "()V"), (1, .class_ 10), (1, u "java/lang/Object")] 113

def k0m0 : Method := { name := "<init>", desc := "()V", sig := { parameters := [], returnType := none }, accessFlags := 1, code := none }
/-- java/lang/Object -/
def k0 : Class := { plain "java/lang/Object" none with
  accessFlags := 33
  interfaces := #[]
  cf := some (fileOf pool0 8 #[] #[{ accessFlags := 1, nameIndex := 5, descriptorIndex := 6, attributes := #[] }] 33 0 #[] #[])
  fields := #[]
  methods := #[k0m0]
  instanceTypes := #[]
  staticTypes := #[]
  resolved := Array.replicate 124 none
  statics := none }

def pool1 : Array CpInfo := pool [(2, .class_ 4), (1, u "java/lang/Object"), (0, u "<init>"), (0, u "()V"), (0, .methodref 8 9), (0, .class_ 10), (0, .nameAndType 11 12), (0, u "lastcolumn/stage/SuffixArray"), (0, u "countsToStarts"), (0, u "([I)V"), (0, .class_ 14), (0, u "lastcolumn/stage/SuffixArrayCountsToStartsPinLaw"), (2, u "law"), (0, u "(IIIII)Z")] 5

def k1m0 : Method := { name := "<init>", desc := "()V", sig := { parameters := [], returnType := none }, accessFlags := 2, code := none }
def k1c1 : Code := { maxStack := 3, maxLocals := 10, code := code, exceptionTable := #[], attributes := #[] }
def k1m1 : Method := { name := "law", desc := "(IIIII)Z", sig := { parameters := [.int, .int, .int, .int, .int], returnType := some .boolean }, accessFlags := 9, code := some k1c1 }
/-- lastcolumn/stage/SuffixArrayCountsToStartsPinLaw -/
def k1 : Class := { plain "lastcolumn/stage/SuffixArrayCountsToStartsPinLaw" (some 0) with
  accessFlags := 49
  interfaces := #[]
  cf := some (fileOf pool1 13 #[] #[{ accessFlags := 2, nameIndex := 5, descriptorIndex := 6, attributes := #[] }, { accessFlags := 9, nameIndex := 17, descriptorIndex := 18, attributes := #[] }] 49 2 #[] #[])
  fields := #[]
  methods := #[k1m0, k1m1]
  instanceTypes := #[]
  staticTypes := #[]
  resolved := Array.replicate 24 none
  statics := none }

def pool2 : Array CpInfo := pool [(2, .class_ 4), (1, u "java/lang/Object"), (0, u "<init>"), (0, u "()V"), (0, .class_ 8), (0, u "lastcolumn/stage/SuffixArray$Direct"), (1, .class_ 12), (1, u "lastcolumn/stage/SuffixArray"), (56, u "countsToStarts"), (0, u "([I)V"), (3, u "EMPTY"), (0, u "I")] 15

def k2m0 : Method := { name := "<init>", desc := "()V", sig := { parameters := [], returnType := none }, accessFlags := 2, code := none }
def k2c1 : Code := { maxStack := 3, maxLocals := 4, code := prog_41_method_3_code, exceptionTable := #[], attributes := #[] }
def k2m1 : Method := { name := "countsToStarts", desc := "([I)V", sig := { parameters := [(.array .int)], returnType := none }, accessFlags := 8, code := some k2c1 }
/-- lastcolumn/stage/SuffixArray -/
def k2 : Class := { plain "lastcolumn/stage/SuffixArray" (some 0) with
  accessFlags := 48
  interfaces := #[]
  cf := some (fileOf pool2 10 #[.nestMembers #[7]] #[{ accessFlags := 2, nameIndex := 5, descriptorIndex := 6, attributes := #[] }, { accessFlags := 8, nameIndex := 69, descriptorIndex := 70, attributes := #[] }] 48 2 #[] #[{ accessFlags := 26, nameIndex := 74, descriptorIndex := 75, attributes := #[] }])
  fields := #[{ name := "EMPTY", type := .int, accessFlags := 26, slot := 0, constantValue := 0 }]
  methods := #[k2m0, k2m1]
  instanceTypes := #[]
  staticTypes := #[.int]
  resolved := Array.replicate 91 none
  statics := none }

def pool3 : Array CpInfo := pool [(1, u "java/lang/Cloneable"), (0, .class_ 1), (0, u "java/lang/Object"), (0, .class_ 3)] 3

/-- java/lang/Cloneable -/
def k3 : Class := { plain "java/lang/Cloneable" (some 0) with
  accessFlags := 1537
  interfaces := #[]
  cf := some (fileOf pool3 2 #[] #[] 1537 4 #[] #[])
  fields := #[]
  methods := #[]
  instanceTypes := #[]
  staticTypes := #[]
  resolved := Array.replicate 8 none
  statics := none }

def pool4 : Array CpInfo := pool [(1, u "java/io/Serializable"), (0, .class_ 1), (0, u "java/lang/Object"), (0, .class_ 3)] 3

/-- java/io/Serializable -/
def k4 : Class := { plain "java/io/Serializable" (some 0) with
  accessFlags := 1537
  interfaces := #[]
  cf := some (fileOf pool4 2 #[] #[] 1537 4 #[] #[])
  fields := #[]
  methods := #[]
  instanceTypes := #[]
  staticTypes := #[]
  resolved := Array.replicate 8 none
  statics := none }

/-- the primitive byte -/
def k5 : Class := { plain "byte" none with kind := .primitive 'B', accessFlags := 0x411 }
/-- [B -/
def k6 : Class := { plain "[B" (some 0) with kind := .array 5 .byte, interfaces := #[3, 4], accessFlags := 1041 }

/-- the primitive int -/
def k7 : Class := { plain "int" none with kind := .primitive 'I', accessFlags := 0x411 }
/-- [I -/
def k8 : Class := { plain "[I" (some 0) with kind := .array 7 .int, interfaces := #[3, 4], accessFlags := 1041 }

def heap : Heap := #[]
def classes : Array Class := #[k0, k1, k2, k3, k4, k5, k6, k7, k8]
def interned : List (Array UInt16 × Addr) := []
def slotsUsed : Nat := 0
def theMethod : MethodId := ⟨1, 1⟩
def args0 : Array Value := #[.int 5, .int 6, .int 7, .int 8, .int 9]
def aboutOver (below : List Frame) : State where
  vm := { classes := classes, interned := interned.toArray }
  heap := heap
  slotsUsed := slotsUsed
  threads := #[{ frames := .invoking theMethod args0 :: below }]
def below0 : List Frame := [.native { method := ⟨0, 0⟩, args := #[] }]
def about1 : State := aboutOver below0
def p0 : Program := .bare "" "" ""
def e0 : Env := launch0.env 0 0 0
theorem w_frames : about1.frames = Frame.invoking theMethod args0 :: below0 := rfl
set_option maxRecDepth 65536 in
theorem w_args : argsFit about1.vm theMethod args0 = true := by decide +kernel
set_option maxRecDepth 65536 in
theorem w_heap : heapFits about1 = true := by decide +kernel
set_option maxRecDepth 65536 in
theorem w_runnable : about1.curStatus? = some .runnable := by decide +kernel
set_option maxRecDepth 65536 in
theorem w_alone : about1.alone = true := by decide +kernel
set_option maxRecDepth 65536 in
theorem w_named : about1.methodNamed? x = some theMethod := by decide +kernel
set_option maxRecDepth 65536 in
theorem w_hears : about1.hears theMethod below0 = true := by decide +kernel
set_option maxRecDepth 65536 in
theorem w_ripe : about1.ripe theMethod args0 below0 = true := by decide +kernel
theorem w_running : about1.status = .running := rfl
set_option maxRecDepth 65536 in
theorem w_room : about1.hasRoom e0.platform room_1 = true :=
  launch0.hasRoom_least _ room_1 (by decide +kernel) (by decide +kernel) (by decide +kernel) (by decide +kernel) (by decide +kernel) (by decide +kernel)
theorem allAtoms_all (ts : List Jvm.Cond) (a : Array Jvm.Value) (st : Jvm.State) : (allAtoms ts).before a st = ts.all (fun c => c.before a st) := by
  induction ts with
  | nil => rfl
  | cons c t ih =>
    show (Jvm.Cond.and c (allAtoms t)).before a st = _
    rw [Jvm.Cond.before_and, ih, List.all_cons]
def words1 : List Jvm.Cond := Jvm.Cond.code x code maxLocals ret :: tables_1
/-- a 'code' word, met by the world's own term for the bytes: nothing is compared byte by byte -/
theorem code_word {y : MethodName} {bytes : ByteArray} {mx : Nat} {rt : Option FieldType} {a : Array Value} {s : State} {m : MethodId} {meth : Method} {c : Code} (h1 : s.methodNamed? y = some m) (h2 : s.vm.method? m = some meth) (h3 : meth.code = some c) (h4 : c.code = bytes)
    (h5 : (c.maxLocals == mx && c.exceptionTable.isEmpty && decide (c.maxStack ≤ mostOperands) && decide (meth.sig.returnType = rt) && !meth.locks && decide (parseMethodDescriptor y.desc = some meth.sig)) = true) : (Jvm.Cond.code y bytes mx rt).before a s = true := by
  simp only [Bool.and_eq_true, beq_iff_eq, Bool.not_eq_true', decide_eq_true_eq] at h5
  obtain ⟨⟨⟨⟨⟨g1, g2⟩, g3⟩, g4⟩, g5⟩, g6⟩ := h5
  simp [Cond.before, Cond.holds, Cond.value, h1, h2, h3, h4, g1, g2, g3, g4, g5, g6]
def isCode : Jvm.Cond → Bool
  | .code _ _ _ _ => true
  | _ => false
theorem all_split {L : List Jvm.Cond} {P : Jvm.Cond → Bool} (h1 : L.all (fun c => isCode c || P c) = true) (h2 : ∀ c ∈ L.filter isCode, P c = true) : L.all P = true := by
  refine List.all_eq_true.mpr fun c hc => ?_
  have h := List.all_eq_true.mp h1 c hc
  rcases Bool.eq_false_or_eq_true (isCode c) with hi | hi
  · exact h2 c (List.mem_filter.mpr ⟨hc, hi⟩)
  · simpa [hi] using h
set_option maxRecDepth 65536 in
theorem w_c0 : (Jvm.Cond.code x code maxLocals ret).before args0 about1 = true := code_word (m := ⟨1, 1⟩) (meth := k1m1) (c := k1c1) (by decide +kernel) rfl rfl rfl (by decide +kernel)
set_option maxRecDepth 65536 in
theorem w_c1 : (Jvm.Cond.code ({ cls := "lastcolumn/stage/SuffixArray", name := "countsToStarts", desc := "([I)V" } : Jvm.MethodName) prog_41_method_3_code (4 : Nat) (Option.none : Option Jvm.ClassFile.FieldType)).before args0 about1 = true := code_word (m := ⟨2, 1⟩) (meth := k2m1) (c := k2c1) (by decide +kernel) rfl rfl rfl (by decide +kernel)
def codes1 : List Jvm.Cond := [Jvm.Cond.code x code maxLocals ret, Jvm.Cond.code ({ cls := "lastcolumn/stage/SuffixArray", name := "countsToStarts", desc := "([I)V" } : Jvm.MethodName) prog_41_method_3_code (4 : Nat) (Option.none : Option Jvm.ClassFile.FieldType)]
set_option maxRecDepth 65536 in
theorem codes_eq : words1.filter isCode = codes1 := rfl
theorem w_codes : ∀ c ∈ words1.filter isCode, c.before args0 about1 = true := by
  rw [codes_eq]
  intro c hc
  simp only [codes1, List.mem_cons, List.not_mem_nil, or_false] at hc
  rcases hc with rfl | rfl
  · exact w_c0
  · exact w_c1
set_option maxRecDepth 65536 in
theorem w_t1 : words1.all (fun c => isCode c || c.before args0 about1) = true := by decide +kernel
theorem w_tables : (allAtoms (Jvm.Cond.code x code maxLocals ret :: tables_1)).before args0 about1 = true := by
  rw [allAtoms_all]
  show words1.all (fun c => c.before args0 about1) = true
  refine all_split ?_ w_codes
  rw [w_t1]
set_option maxRecDepth 65536 in
theorem w_case : (Jvm.Cond.and given_1 narrow_1).before args0 about1 = true := by decide +kernel
theorem w_applies : (headSpec (Jvm.Cond.code x code maxLocals ret :: tables_1) room_1).applies x e0.platform about1 = true :=
  (Spec.applies_iff w_frames).mpr ⟨w_running, w_runnable, w_alone, w_named, w_hears, w_ripe, w_room, w_tables⟩
theorem atStart : AtStart classFile x code maxLocals ret World_1 tables_1 room_1 Calls_1 rest_1 Pre_1 launch0 p0 e0 about1 theMethod args0 below0 :=
  ⟨lists_1, trivial, launch0.admits_env _ _ _, launch0.least_env, fairChoices_fair.cas, fairChoices_fair.clock, w_frames, w_args, w_heap, w_applies, trivial, trivial, w_case⟩
end start1
theorem witness_1 : WitnessClaimed_1 := ⟨start1.p0, start1.e0, start1.about1, start1.theMethod, start1.args0, start1.below0, start1.atStart⟩
end Jvm.Pilot.@@N@@
