import JvmDerived
import JvmDerived.Pilot.@@N@@Statement
import JvmDerived.Pilot.@@N@@Code
set_option linter.unusedVariables false
set_option linter.unusedSimpArgs false
@@BLOCK:NumsL.lean.txt@@
namespace Jvm.RoadKit
open Sem ClassFile Op Lib Jvm.Stand Jvm.Free Jvm.LawKit
section New
variable {p : Program} {l : Launch} {e : Env} {R : Room} {s : State} {m : MethodId} {args : Array Value} {below : List Frame} {meth : Method} {c : Code} {T : State} {locs : List Loc} {cells slots : Nat}
theorem retI (X : Stand p l e R s m args below meth c T locs cells slots) (hx : p.tables.exec = Jvm.exec) {pc : Nat} {Ls : Array Slot} {z : Int32} {rest : List Value} (hret : meth.sig.returnType = some .int) (hd : decode c.code pc = .ok (.ireturn, 1)) {fs : List Frame}
    (hl : ∀ (f : JFrame) (acts : List Action), f.method = m → f.locked = none → f.entered = [] → (doReturn e (T.setTop f) acts (some (.int z))).1 = T.setFrames fs) : Steps p.tables e below (T.setTop (mkF m pc Ls (.int z :: rest))) (T.setFrames fs) := by
  have hm' : T.vm.method? m = some meth := X.method'
  have hn : narrow .int (.int z) = .int z := rfl
  show Steps p.tables e below (T.setTop { method := m, pc := pc, locals := Ls, stack := _ :: rest, locked := none }) _
  jvm_step X.here [X.here.top, hx, hd, hm', hret, hn]
  first | (intro acts; rw [hl _ acts rfl rfl rfl]) | rw [hl _ _ rfl rfl rfl]
  exact Steps.refl _
end New
end Jvm.RoadKit
namespace Jvm.Pilot.@@N@@
open Jvm Jvm.ClassFile Sem Op Lib Jvm.Free Jvm.Stand Jvm.LawKit Jvm.RoadKit Bundle Jvm.Pilot.@@N@@.Jvm.D
abbrev Gx (p : Program) (e : Env) (below : List Frame) (T0 : State) (f0 : JFrame) (T : State) (f : JFrame) : Prop := ∀ t, Steps p.tables e below (T.setTop f) t → Steps p.tables e below (T0.setTop f0) t
theorem own_selp {Z s : State} {a0 args : Array Value} {y : MethodName} {n : Nat} (hZ : Z.Warmed39 s.vm) (wi : (Jvm.Cond.instantiable y.cls n).before a0 Z = true) (wp : (Jvm.Cond.privateMethod y).before a0 Z = true) (wm : (Jvm.Cond.instanceMethod y).before a0 Z = true) (hy : y.cls ≠ "java/lang/invoke/MethodHandle" ∧ y.cls ≠ "java/lang/invoke/VarHandle") : (Jvm.Cond.selects y.cls y y).before args s = true := by
  have wi' : (Jvm.Cond.instantiable y.cls n).before args s = true := mvT hZ wi
  obtain ⟨c, k, h1, h2, -, h4, -⟩ := Cond.instantiable_spec wi'
  have h5 : k.isInterface = false := by simp only [Bool.or_eq_false_iff] at h4; exact h4.1
  exact Jvm.Stand.selects_self_of_private h1 h2 h5 (Cond.privateMethod_at (mvP hZ wp (args := args))) (mvT hZ wm) hy
def minF (a b : Int32) : Int32 := if b < a then b else a
def empF (w : Int32) : Int32 := if w = (0 : Int32) then (1 : Int32) else (0 : Int32)
theorem own_cl {a : Nat} (h : a < 4000) : (Int32.ofNat a).toNatClampNeg = a := clamp_of rfl (by omega)
theorem own_ti {a : Nat} (h : a < 4000) : (Int32.ofNat a).toInt = (a : Int) := toInt_of rfl (by omega)
theorem own_in16 {a : Nat} (h : a < 16) : ¬ (Int32.ofNat a < (0 : Int32)) ∧ Int32.ofNat a < (16 : Int32) := by
  have e0 : (0 : Int32).toInt = 0 := by decide
  have e1 : (16 : Int32).toInt = 16 := by decide
  rw [Int32.lt_iff_toInt_lt, Int32.lt_iff_toInt_lt, own_ti (by omega), e0, e1]; omega
theorem own_in1024 {a : Nat} (h : a < 1024) : ¬ (Int32.ofNat a < (0 : Int32)) ∧ Int32.ofNat a < (1024 : Int32) := by
  have e0 : (0 : Int32).toInt = 0 := by decide
  have e1 : (1024 : Int32).toInt = 1024 := by decide
  rw [Int32.lt_iff_toInt_lt, Int32.lt_iff_toInt_lt, own_ti (by omega), e0, e1]; omega
theorem own_nn {a : Nat} (h : a < 4000) : ¬ (Int32.ofNat a < 0) := by
  have e0 : (0 : Int32).toInt = 0 := by decide
  rw [Int32.lt_iff_toInt_lt, own_ti h, e0]; omega
theorem own_add (a b : Nat) : Int32.ofNat a + Int32.ofNat b = Int32.ofNat (a + b) := (Int32.ofNat_add a b).symm
theorem own_sub {a b : Nat} (h : b ≤ a) : Int32.ofNat a - Int32.ofNat b = Int32.ofNat (a - b) := by
  obtain ⟨d, rfl⟩ : ∃ d, a = b + d := ⟨a - b, by omega⟩
  rw [← own_add, Nat.add_sub_cancel_left]
  generalize Int32.ofNat b = x
  generalize Int32.ofNat d = y
  rw [Int32.add_comm, Int32.add_sub_cancel]
theorem own_dec {c : Nat} (h : 0 < c) : (Int32.ofNat c) - (1 : Int32) = Int32.ofNat (c - 1) := own_sub (b := 1) h
theorem own_dec1 (c : Nat) : (Int32.ofNat (c + 1)) - (1 : Int32) = Int32.ofNat c := by rw [own_dec (by omega)]; rfl
theorem own_inc (c : Nat) : (Int32.ofNat c) + (1 : Int32) = Int32.ofNat (c + 1) := own_add c 1
theorem own_inj {a n : Nat} (ha : a < 4000) (hn : n < 4000) (h : Int32.ofNat a = Int32.ofNat n) : a = n := by
  have := congrArg Int32.toNatClampNeg h
  rwa [own_cl ha, own_cl hn] at this
theorem own_n16 {n : Nat} (h : n < 16) : ¬ (Int32.ofNat n = (16 : Int32)) := fun q => by
  have := own_inj (a := n) (n := 16) (by omega) (by omega) q; omega
theorem own_n0 {n : Nat} (h : n < 4000) (q : Int32.ofNat n = (0 : Int32)) : n = 0 := own_inj (n := 0) h (by omega) q
theorem own_room {e d : Nat} (h : e + d ≤ 1024) : ¬ (((1024 : Int32) - Int32.ofNat e) < Int32.ofNat d) := by
  have q : (1024 : Int32) - Int32.ofNat e = Int32.ofNat (1024 - e) := own_sub (a := 1024) (by omega)
  rw [q, Int32.lt_iff_toInt_lt, own_ti (by omega), own_ti (by omega)]; omega
theorem own_gs {l : List Value} {n : Nat} {x d : Value} (h : n < l.length) : (l.set n x).getD n d = x := by
  simp [List.getD_eq_getElem?_getD, h]
theorem own_len {l us : List Value} {a b : Nat} (hu : us.length = b) (h : a + b ≤ l.length) : (l.take a ++ us ++ l.drop (a + b)).length = l.length := by
  simp [hu]; omega
theorem own_fin (v : Int32) (n : Nat) (h0 : 0 ≤ v.toInt) (h1 : v.toInt < n) (hn : n ≤ 100000) : ∃ i : Fin n, v = Int32.ofNat i.1 := by
  refine ⟨⟨v.toInt.toNat, by omega⟩, ?_⟩
  apply Int32.toInt_inj.mp
  show _ = (Int32.ofNat v.toInt.toNat).toInt
  rw [toInt_of (n := Int32.ofNat v.toInt.toNat) rfl (by omega)]
  omega
theorem own_and3 (x : Int32) : x &&& (3 : Int32) = 0 ∨ x &&& (3 : Int32) = 1 ∨ x &&& (3 : Int32) = 2 ∨ x &&& (3 : Int32) = 3 := by
  have h := Jvm.Kit.i32_mask x 3 (k := 2) (by decide) (by decide)
  obtain ⟨i, hi⟩ := own_fin (x &&& (3 : Int32)) 4 (by omega) (by omega) (by decide)
  rw [hi]
  clear hi h
  revert i
  decide
theorem own_ft (x y : Int32) : ∃ f t : Nat, (x &&& (3 : Int32)) = Int32.ofNat f ∧ minF (4 : Int32) ((x &&& (3 : Int32)) + (y &&& (3 : Int32))) = Int32.ofNat t ∧ f ≤ t ∧ t ≤ 4 := by
  rcases own_and3 x with h | h | h | h <;> rcases own_and3 y with q | q | q | q <;> rw [h, q]
  · exact ⟨0, 0, by decide, by decide, by decide, by decide⟩
  · exact ⟨0, 1, by decide, by decide, by decide, by decide⟩
  · exact ⟨0, 2, by decide, by decide, by decide, by decide⟩
  · exact ⟨0, 3, by decide, by decide, by decide, by decide⟩
  · exact ⟨1, 1, by decide, by decide, by decide, by decide⟩
  · exact ⟨1, 2, by decide, by decide, by decide, by decide⟩
  · exact ⟨1, 3, by decide, by decide, by decide, by decide⟩
  · exact ⟨1, 4, by decide, by decide, by decide, by decide⟩
  · exact ⟨2, 2, by decide, by decide, by decide, by decide⟩
  · exact ⟨2, 3, by decide, by decide, by decide, by decide⟩
  · exact ⟨2, 4, by decide, by decide, by decide, by decide⟩
  · exact ⟨2, 4, by decide, by decide, by decide, by decide⟩
  · exact ⟨3, 3, by decide, by decide, by decide, by decide⟩
  · exact ⟨3, 4, by decide, by decide, by decide, by decide⟩
  · exact ⟨3, 4, by decide, by decide, by decide, by decide⟩
  · exact ⟨3, 4, by decide, by decide, by decide, by decide⟩
theorem d1_0 : decode jdk_29_method_69_code 0 = .ok (.iload_n 0, 1) := by decide +kernel
theorem d1_1 : decode jdk_29_method_69_code 1 = .ok (.iload_n 1, 1) := by decide +kernel
theorem d1_2 : decode jdk_29_method_69_code 2 = .ok (.if_icmp .gt 7, 3) := by decide +kernel
theorem d1_5 : decode jdk_29_method_69_code 5 = .ok (.iload_n 0, 1) := by decide +kernel
theorem d1_6 : decode jdk_29_method_69_code 6 = .ok (.goto 4, 3) := by decide +kernel
theorem d1_9 : decode jdk_29_method_69_code 9 = .ok (.iload_n 1, 1) := by decide +kernel
theorem d1_10 : decode jdk_29_method_69_code 10 = .ok (.ireturn, 1) := by decide +kernel
theorem ef_Min (m : MethodId) (p1 : Int32) (p2 : Int32) : entryFrame m #[(.int p1), (.int p2)] 2 = mkF m 0 #[.val (.int p1), .val (.int p2)] [] := by first | (simp [entryFrame, mkF, argsToLocals, Value.category]; done) | rfl
def QMin (Z : State) (p1 : Int32) (p2 : Int32) (h0 : Heap) (n0 : Nat) (v : Option Value) (h : Heap) (L : List Loc) : Prop := v = some (.int (minF p1 p2)) ∧ Fr n0 L ∧ h = h0
set_option maxRecDepth 65536 in
set_option maxHeartbeats 40000000 in
theorem rmMin (l : Launch) (Z : State) (a0 : Array Value) (hw : ∀ d ∈ tables_1, d.before a0 Z = true) (ws : List Jvm.Cond) (p1 : Int32) (p2 : Int32) (h0 : Heap) (n0 : Nat) (Z0 : n0 ≤ h0.size) :
    MetFree l (⟨"java/lang/Math", "min", "(II)I"⟩ : MethodName) (head1 (Jvm.Cond.code (⟨"java/lang/Math", "min", "(II)I"⟩ : MethodName) jdk_29_method_69_code 2 (some .int) :: ws) ({ frames := 0, cells := 0, slots := 0, locals := 0 } : Room)) (fun a U => a = #[(.int p1), (.int p2)] ∧ Z.Warmed39 U.vm ∧ U.heap = h0) (fun _ _ _ _ _ => True) (fun _ U o U' => ∃ v L, o = .returned v ∧ QMin Z p1 p2 h0 n0 v U'.heap L ∧ FrameEnd U o U' L ({ frames := 0, cells := 0, slots := 0, locals := 0 } : Room).cells ({ frames := 0, cells := 0, slots := 0, locals := 0 } : Room).slots) := by
  refine MetFree.of_bodySF (Jvm.Free.JP.mathPlain rfl (by decide +kernel)) hisR ?_
  intro p e s m args below meth c s₁ Bd hml0 hP hK
  obtain ⟨rfl, hZ, hh⟩ := hP
  have hx := Bd.exec
  have hby := Bd.bytes
  have hml : c.maxLocals = 2 := hml0
  have hown : s.vm.findClass "java/lang/Math" = some m.cls := findClass_of_methodNamed Bd.named
  have hnm := (name_of_methodNamed Bd.named Bd.method).1
  have X0 : Stand p l e ({ frames := 0, cells := 0, slots := 0, locals := 0 } : Room) s m #[(.int p1), (.int p2)] below meth c s₁ [] 0 0 := Stand.of_body Bd
  have hs0 : h0 = s.heap := hh.symm
  have e0 : s₁.heap = h0 := by rw [← hh, Bd.state]; rfl
  have N0 := Fr.nil n0
  obtain ⟨f0, hf0⟩ : ∃ f, f = entryFrame m #[(.int p1), (.int p2)] 2 := ⟨_, rfl⟩
  have pre0 : ∀ t, Steps p.tables e below (s₁.setTop f0) t → Steps p.tables e below (s₁.setTop (entryFrame m #[(.int p1), (.int p2)] 2)) t := fun t k => hf0 ▸ k
  have K0 : Gx p e below s₁ f0 s₁ (mkF m 0 #[.val (.int p1), .val (.int p2)] []) := fun t kt => by rw [hf0]; exact castTop (ef_Min m p1 p2) kt
  have K3 : Gx p e below s₁ f0 s₁ (mkF m 2 #[.val (.int p1), .val (.int p2)] [(.int p2), (.int p1)]) := fun t kt => K0 t (by
    show Steps p.tables e below (s₁.setTop (mkF m 0 #[.val (.int p1), .val (.int p2)] [])) _
    refine XS.iloadN X0.here hx rfl (hb hby d1_0) rfl ?_
    show Steps p.tables e below (s₁.setTop (mkF m 1 #[.val (.int p1), .val (.int p2)] [(.int p1)])) _
    refine XS.iloadN X0.here hx rfl (hb hby d1_1) rfl ?_
    exact kt)
  obtain ⟨v2, hv2⟩ : ∃ z : Int32, z = (if p2 < p1 then p2 else p1) := ⟨_, rfl⟩
  have K4 : Gx p e below s₁ f0 s₁ (mkF m 10 #[.val (.int p1), .val (.int p2)] [(.int v2)]) := fun t kt => K3 t (by
    by_cases hc2_0 : p2 < p1
    · skip
      show Steps p.tables e below (s₁.setTop (mkF m 2 #[.val (.int p1), .val (.int p2)] [(.int p2), (.int p1)])) _
      refine XS.icmpYes X0.here hx rfl (pc0 := 2) (pc' := 9) rfl (hb hby d1_2) rfl (tlt hc2_0).2.2.1 (by decide) (by decide) ?_
      show Steps p.tables e below (s₁.setTop (mkF m 9 #[.val (.int p1), .val (.int p2)] [])) _
      refine XS.iloadN X0.here hx rfl (hb hby d1_9) rfl ?_
      show Steps p.tables e below (s₁.setTop (mkF m 10 #[.val (.int p1), .val (.int p2)] [(.int p2)])) _
      exact castTop (by simp only [hv2, if_pos hc2_0]) kt
    · skip
      show Steps p.tables e below (s₁.setTop (mkF m 2 #[.val (.int p1), .val (.int p2)] [(.int p2), (.int p1)])) _
      refine XS.icmpNo X0.here hx rfl (hb hby d1_2) rfl (flt hc2_0).2.2.1 ?_
      show Steps p.tables e below (s₁.setTop (mkF m 5 #[.val (.int p1), .val (.int p2)] [])) _
      refine XS.iloadN X0.here hx rfl (hb hby d1_5) rfl ?_
      show Steps p.tables e below (s₁.setTop (mkF m 6 #[.val (.int p1), .val (.int p2)] [(.int p1)])) _
      refine XS.goto X0.here hx rfl (pc0 := 6) (pc' := 10) rfl (hb hby d1_6) (by decide) (by decide) ?_
      show Steps p.tables e below (s₁.setTop (mkF m 10 #[.val (.int p1), .val (.int p2)] [(.int p1)])) _
      exact castTop (by simp only [hv2, if_neg hc2_0]) kt)
  obtain ⟨fs5, hr5, hrun5, hended5, hW5, hsame5⟩ := X0.leave (v := some (.int v2)) (fun h => by rw [Bd.returns] at h; cases h)
  refine ⟨_, _, pre0 _ (K4 _ ?_), hrun5, hended5, _, _, rfl, ?_, ⟨_, rfl⟩, hW5, hsame5.mono (by decide) (by decide)⟩
  · exact retI X0 hx Bd.returns (hb hby d1_10) hr5
  · show QMin Z p1 p2 h0 n0 _ s₁.heap _
    rw [e0]
    exact ⟨(congrArg some (congrArg Value.int (by first | (simp only [minF, hv2]; done) | (rw [hv2]; rfl) | rfl))), N0, rfl⟩
theorem d2_0 : decode prog_23_method_1_code 0 = .ok (.aload_n 0, 1) := by decide +kernel
theorem d2_1 : decode prog_23_method_1_code 1 = .ok (.invokespecial 1, 3) := by decide +kernel
theorem d2_4 : decode prog_23_method_1_code 4 = .ok (.aload_n 0, 1) := by decide +kernel
theorem d2_5 : decode prog_23_method_1_code 5 = .ok (.bipush 16, 2) := by decide +kernel
theorem d2_7 : decode prog_23_method_1_code 7 = .ok (.anewarray 9, 3) := by decide +kernel
theorem d2_10 : decode prog_23_method_1_code 10 = .ok (.putfield 11, 3) := by decide +kernel
theorem d2_13 : decode prog_23_method_1_code 13 = .ok (.aload_n 0, 1) := by decide +kernel
theorem d2_14 : decode prog_23_method_1_code 14 = .ok (.bipush 16, 2) := by decide +kernel
theorem d2_16 : decode prog_23_method_1_code 16 = .ok (.newarray .long, 2) := by decide +kernel
theorem d2_18 : decode prog_23_method_1_code 18 = .ok (.putfield 15, 3) := by decide +kernel
theorem d2_21 : decode prog_23_method_1_code 21 = .ok (.aload_n 0, 1) := by decide +kernel
theorem d2_22 : decode prog_23_method_1_code 22 = .ok (.bipush 16, 2) := by decide +kernel
theorem d2_24 : decode prog_23_method_1_code 24 = .ok (.newarray .int, 2) := by decide +kernel
theorem d2_26 : decode prog_23_method_1_code 26 = .ok (.putfield 19, 3) := by decide +kernel
theorem d2_29 : decode prog_23_method_1_code 29 = .ok (.aload_n 0, 1) := by decide +kernel
theorem d2_30 : decode prog_23_method_1_code 30 = .ok (.sipush 1024, 3) := by decide +kernel
theorem d2_33 : decode prog_23_method_1_code 33 = .ok (.newarray .byte, 2) := by decide +kernel
theorem d2_35 : decode prog_23_method_1_code 35 = .ok (.putfield 23, 3) := by decide +kernel
theorem d2_38 : decode prog_23_method_1_code 38 = .ok (.return_, 1) := by decide +kernel
theorem pn_2 : plainName "com/example/fourfold/fourfold/Record" = true := by first | (simp [plainName, overriddenIn]; done) | decide +kernel
theorem ef_Ini (m : MethodId) (a1 : Addr) : entryFrame m #[(.ref a1)] 1 = mkF m 0 #[.val (.ref a1)] [] := by first | (simp [entryFrame, mkF, argsToLocals, Value.category]; done) | rfl
def QIni (Z : State) (a1 : Addr) (h0 : Heap) (n0 : Nat) (v : Option Value) (h : Heap) (L : List Loc) : Prop := ∃ la : Addr, ∃ li : Addr, ∃ en : Addr, ∃ tx : Addr, ∃ kA : ClassId, ∃ kB : ClassId, ∃ kC : ClassId, ∃ kD : ClassId, ∃ vl2 : List Value, ∃ vli2 : List Value, ∃ ve2 : List Value, ∃ vt2 : List Value, v = none ∧ Fr n0 L ∧ Keep h0 h [a1] ∧ Exa Z h a1 "com/example/fourfold/fourfold/Record" ∧ Fld Z h a1 "com/example/fourfold/fourfold/Record" "labels" "[Lcom/example/fourfold/fourfold/Label;" (.ref la) ∧ Fld Z h a1 "com/example/fourfold/fourfold/Record" "lines" "[J" (.ref li) ∧ Fld Z h a1 "com/example/fourfold/fourfold/Record" "ends" "[I" (.ref en) ∧ Fld Z h a1 "com/example/fourfold/fourfold/Record" "text" "[B" (.ref tx) ∧ Fld Z h a1 "com/example/fourfold/fourfold/Record" "size" "I" (.int (0 : Int32)) ∧ Arv Z h la kA (.object "com/example/fourfold/fourfold/Label") (16 : Int32) vl2 .null ∧ Arv Z h li kB .long (16 : Int32) vli2 (.long (0 : Int64)) ∧ Arv Z h en kC .int (16 : Int32) ve2 (.int (0 : Int32)) ∧ Arv Z h tx kD .byte (1024 : Int32) vt2 (.int (0 : Int32)) ∧ h0.size ≤ la ∧ h0.size ≤ li ∧ h0.size ≤ en ∧ h0.size ≤ tx ∧ la ≠ li ∧ la ≠ en ∧ la ≠ tx ∧ li ≠ en ∧ li ≠ tx ∧ en ≠ tx ∧ (vl2.length = 16) ∧ (vli2.length = 16) ∧ (ve2.length = 16) ∧ (vt2.length = 1024)
set_option maxRecDepth 65536 in
set_option maxHeartbeats 40000000 in
theorem rmIni (l : Launch) (Z : State) (a0 : Array Value) (hw : ∀ d ∈ tables_1, d.before a0 Z = true) (ws : List Jvm.Cond) (a1 : Addr) (h0 : Heap) (n0 : Nat) (Z0 : n0 ≤ h0.size) (pr0 : Exa Z h0 a1 "com/example/fourfold/fourfold/Record") (pr1 : n0 ≤ a1) (pr2 : Fld Z h0 a1 "com/example/fourfold/fourfold/Record" "labels" "[Lcom/example/fourfold/fourfold/Label;" .null) (pr3 : Fld Z h0 a1 "com/example/fourfold/fourfold/Record" "lines" "[J" .null) (pr4 : Fld Z h0 a1 "com/example/fourfold/fourfold/Record" "ends" "[I" .null) (pr5 : Fld Z h0 a1 "com/example/fourfold/fourfold/Record" "text" "[B" .null) (pr6 : Fld Z h0 a1 "com/example/fourfold/fourfold/Record" "size" "I" (.int (0 : Int32))) :
    MetFree l (⟨"com/example/fourfold/fourfold/Record", "<init>", "()V"⟩ : MethodName) (head1 (Jvm.Cond.code (⟨"com/example/fourfold/fourfold/Record", "<init>", "()V"⟩ : MethodName) prog_23_method_1_code 1 none :: ws) ({ frames := 1, cells := 4, slots := 1072, locals := 12 } : Room)) (fun a U => a = #[(.ref a1)] ∧ Z.Warmed39 U.vm ∧ U.heap = h0) (fun _ _ _ _ _ => True) (fun _ U o U' => ∃ v L, o = .returned v ∧ QIni Z a1 h0 n0 v U'.heap L ∧ FrameEnd U o U' L ({ frames := 1, cells := 4, slots := 1072, locals := 12 } : Room).cells ({ frames := 1, cells := 4, slots := 1072, locals := 12 } : Room).slots) := by
  refine MetFree.of_bodySF (plainFor_of_name pn_2) hisR ?_
  intro p e s m args below meth c s₁ Bd hml0 hP hK
  obtain ⟨rfl, hZ, hh⟩ := hP
  have hx := Bd.exec
  have hby := Bd.bytes
  have hml : c.maxLocals = 1 := hml0
  have hown : s.vm.findClass "com/example/fourfold/fourfold/Record" = some m.cls := findClass_of_methodNamed Bd.named
  have hnm := (name_of_methodNamed Bd.named Bd.method).1
  have X0 : Stand p l e ({ frames := 1, cells := 4, slots := 1072, locals := 12 } : Room) s m #[(.ref a1)] below meth c s₁ [] 0 0 := Stand.of_body Bd
  have hs0 : h0 = s.heap := hh.symm
  have e0 : s₁.heap = h0 := by rw [← hh, Bd.state]; rfl
  have N0 := Fr.nil n0
  obtain ⟨f0, hf0⟩ : ∃ f, f = entryFrame m #[(.ref a1)] 1 := ⟨_, rfl⟩
  have pre0 : ∀ t, Steps p.tables e below (s₁.setTop f0) t → Steps p.tables e below (s₁.setTop (entryFrame m #[(.ref a1)] 1)) t := fun t k => hf0 ▸ k
  have K0 : Gx p e below s₁ f0 s₁ (mkF m 0 #[.val (.ref a1)] []) := fun t kt => by rw [hf0]; exact castTop (ef_Ini m a1) kt
  have K1 : Gx p e below s₁ f0 s₁ (mkF m 1 #[.val (.ref a1)] [(.ref a1)]) := fun t kt => K0 t (by
    show Steps p.tables e below (s₁.setTop (mkF m 0 #[.val (.ref a1)] [])) _
    refine XS.aloadN X0.here hx rfl (hb hby d2_0) rfl rfl ?_
    exact kt)
  obtain ⟨T2, X2, e2, st2⟩ := initO X0 hx hZ hown (hw _ (List.mem_of_getElem? (i := 11) rfl)) (hw _ (List.mem_of_getElem? (i := 12) rfl)) (hw _ (List.mem_of_getElem? (i := 13) rfl)) e0 (g := (mkF m 1 #[.val (.ref a1)] [(.ref a1)])) rfl (by rw [hml]; rfl) rfl (hb hby d2_1) (by decide) (W := 0) (by show 2 * 0 + _ ≤ _; exact Nat.le_of_eq rfl) (by decide)
  have K3 : Gx p e below s₁ f0 T2 (mkF m 4 #[.val (.ref a1)] []) := fun t kt => K1 t (st2 t kt)
  have K4 : Gx p e below s₁ f0 T2 (mkF m 7 #[.val (.ref a1)] [(.int (16 : Int32)), (.ref a1)]) := fun t kt => K3 t (by
    show Steps p.tables e below (T2.setTop (mkF m 4 #[.val (.ref a1)] [])) _
    refine XS.aloadN X2.here hx rfl (hb hby d2_4) rfl rfl ?_
    show Steps p.tables e below (T2.setTop (mkF m 5 #[.val (.ref a1)] [(.ref a1)])) _
    refine XS.bipush X2.here hx rfl (hb hby d2_5) ?_
    exact kt)
  obtain ⟨T5, h5, k5, X5, e5, E5, A5, O5, st5⟩ := newR X2 hx hZ hown (hw _ (List.mem_of_getElem? (i := 14) rfl)) (hw _ (List.mem_of_getElem? (i := 15) rfl)) e2 (g := (mkF m 7 #[.val (.ref a1)] [(.int (16 : Int32)), (.ref a1)])) rfl (hb hby d2_7) rfl (by decide) (cap := 16) (by decide) (by decide) (by decide) (by decide)
  obtain ⟨b5, g5⟩ : ∃ z, z = h0.size := ⟨_, rfl⟩
  rw [← g5] at A5 st5
  have V5 : Arv Z h5 b5 k5 (.object "com/example/fourfold/fourfold/Label") (16 : Int32) [.null, .null, .null, .null, .null, .null, .null, .null, .null, .null, .null, .null, .null, .null, .null, .null] .null := (Arv.new A5 (by decide)).pad (pad_rep [] .null 16)
  have K6 : Gx p e below s₁ f0 T5 (mkF m 10 #[.val (.ref a1)] [(.ref b5), (.ref a1)]) := fun t kt => K4 t (st5 t kt)
  have f7 : Fld Z h5 a1 "com/example/fourfold/fourfold/Record" "labels" "[Lcom/example/fourfold/fourfold/Label;" .null := (pr2.ext E5)
  have f8 : Exa Z h5 a1 "com/example/fourfold/fourfold/Record" := (pr0.ext E5)
  obtain ⟨T9, h9, X9', e9, W9, st9⟩ := putF X5 hx hZ hown (host := "") (Or.inl (hw _ (List.mem_of_getElem? (i := 16) rfl))) Via.refl e5 f7 f8 (Or.inl (hw _ (List.mem_of_getElem? (i := 17) rfl))) (hw _ (List.mem_of_getElem? (i := 6) rfl)) (ty := (.array (.object "com/example/fourfold/fourfold/Label"))) (by decide) rfl rfl (g := (mkF m 10 #[.val (.ref a1)] [(.ref b5), (.ref a1)])) rfl rfl (hb hby d2_10)
  obtain ⟨lc9, X9, N9⟩ : ∃ lc, Stand p l e ({ frames := 1, cells := 4, slots := 1072, locals := 12 } : Room) s m #[(.ref a1)] below meth c T9 lc 1 16 ∧ Fr n0 lc := ⟨_, X9', Fr.snoc X9' N0 pr1⟩
  have f9_ : Fld Z h9 a1 "com/example/fourfold/fourfold/Record" "labels" "[Lcom/example/fourfold/fourfold/Label;" (.ref b5) := f7.same W9
  have K10 : Gx p e below s₁ f0 T9 (mkF m 13 #[.val (.ref a1)] []) := fun t kt => K6 t (st9 t kt)
  have K11 : Gx p e below s₁ f0 T9 (mkF m 16 #[.val (.ref a1)] [(.int (16 : Int32)), (.ref a1)]) := fun t kt => K10 t (by
    show Steps p.tables e below (T9.setTop (mkF m 13 #[.val (.ref a1)] [])) _
    refine XS.aloadN X9.here hx rfl (hb hby d2_13) rfl rfl ?_
    show Steps p.tables e below (T9.setTop (mkF m 14 #[.val (.ref a1)] [(.ref a1)])) _
    refine XS.bipush X9.here hx rfl (hb hby d2_14) ?_
    exact kt)
  obtain ⟨T12, h12, k12, X12, e12, E12, A12, st12⟩ := newP X9 hx hZ (hw _ (List.mem_of_getElem? (i := 18) rfl)) e9 (g := (mkF m 16 #[.val (.ref a1)] [(.int (16 : Int32)), (.ref a1)])) rfl (hb hby d2_16) rfl (by decide) (cap := 16) (by decide) (by decide) (by decide) (by decide)
  obtain ⟨b12, g12⟩ : ∃ z, z = h9.size := ⟨_, rfl⟩
  rw [← g12] at A12 st12
  have V12 : Arv Z h12 b12 k12 .long (16 : Int32) [(.long (0 : Int64)), (.long (0 : Int64)), (.long (0 : Int64)), (.long (0 : Int64)), (.long (0 : Int64)), (.long (0 : Int64)), (.long (0 : Int64)), (.long (0 : Int64)), (.long (0 : Int64)), (.long (0 : Int64)), (.long (0 : Int64)), (.long (0 : Int64)), (.long (0 : Int64)), (.long (0 : Int64)), (.long (0 : Int64)), (.long (0 : Int64))] (.long (0 : Int64)) := (Arv.new A12 (by decide)).pad (pad_rep [] (.long (0 : Int64)) 16)
  have K13 : Gx p e below s₁ f0 T12 (mkF m 18 #[.val (.ref a1)] [(.ref b12), (.ref a1)]) := fun t kt => K11 t (st12 t kt)
  have f14 : Fld Z h12 a1 "com/example/fourfold/fourfold/Record" "lines" "[J" .null := (((pr3.ext E5).other W9 (Or.inr (slot_ne (Or.inl (hw _ (List.mem_of_getElem? (i := 20) rfl))) (Or.inl (hw _ (List.mem_of_getElem? (i := 17) rfl))) (by decide) (t := (.array .long)) (t' := (.array (.object "com/example/fourfold/fourfold/Label"))) (by decide) (by decide)))).ext E12)
  have f15 : Exa Z h12 a1 "com/example/fourfold/fourfold/Record" := ((f8.wr W9).ext E12)
  obtain ⟨T16, h16, X16', e16, W16, st16⟩ := putF X12 hx hZ hown (host := "") (Or.inl (hw _ (List.mem_of_getElem? (i := 19) rfl))) Via.refl e12 f14 f15 (Or.inl (hw _ (List.mem_of_getElem? (i := 20) rfl))) (hw _ (List.mem_of_getElem? (i := 6) rfl)) (ty := (.array .long)) (by decide) rfl rfl (g := (mkF m 18 #[.val (.ref a1)] [(.ref b12), (.ref a1)])) rfl rfl (hb hby d2_18)
  obtain ⟨lc16, X16, N16⟩ : ∃ lc, Stand p l e ({ frames := 1, cells := 4, slots := 1072, locals := 12 } : Room) s m #[(.ref a1)] below meth c T16 lc 2 32 ∧ Fr n0 lc := ⟨_, X16', Fr.snoc X16' N9 pr1⟩
  have f16_ : Fld Z h16 a1 "com/example/fourfold/fourfold/Record" "lines" "[J" (.ref b12) := f14.same W16
  have K17 : Gx p e below s₁ f0 T16 (mkF m 21 #[.val (.ref a1)] []) := fun t kt => K13 t (st16 t kt)
  have K18 : Gx p e below s₁ f0 T16 (mkF m 24 #[.val (.ref a1)] [(.int (16 : Int32)), (.ref a1)]) := fun t kt => K17 t (by
    show Steps p.tables e below (T16.setTop (mkF m 21 #[.val (.ref a1)] [])) _
    refine XS.aloadN X16.here hx rfl (hb hby d2_21) rfl rfl ?_
    show Steps p.tables e below (T16.setTop (mkF m 22 #[.val (.ref a1)] [(.ref a1)])) _
    refine XS.bipush X16.here hx rfl (hb hby d2_22) ?_
    exact kt)
  obtain ⟨T19, h19, k19, X19, e19, E19, A19, st19⟩ := newP X16 hx hZ (hw _ (List.mem_of_getElem? (i := 21) rfl)) e16 (g := (mkF m 24 #[.val (.ref a1)] [(.int (16 : Int32)), (.ref a1)])) rfl (hb hby d2_24) rfl (by decide) (cap := 16) (by decide) (by decide) (by decide) (by decide)
  obtain ⟨b19, g19⟩ : ∃ z, z = h16.size := ⟨_, rfl⟩
  rw [← g19] at A19 st19
  have V19 : Arv Z h19 b19 k19 .int (16 : Int32) [(.int (0 : Int32)), (.int (0 : Int32)), (.int (0 : Int32)), (.int (0 : Int32)), (.int (0 : Int32)), (.int (0 : Int32)), (.int (0 : Int32)), (.int (0 : Int32)), (.int (0 : Int32)), (.int (0 : Int32)), (.int (0 : Int32)), (.int (0 : Int32)), (.int (0 : Int32)), (.int (0 : Int32)), (.int (0 : Int32)), (.int (0 : Int32))] (.int (0 : Int32)) := (Arv.new A19 (by decide)).pad (pad_rep [] (.int (0 : Int32)) 16)
  have K20 : Gx p e below s₁ f0 T19 (mkF m 26 #[.val (.ref a1)] [(.ref b19), (.ref a1)]) := fun t kt => K18 t (st19 t kt)
  have f21 : Fld Z h19 a1 "com/example/fourfold/fourfold/Record" "ends" "[I" .null := (((((pr4.ext E5).other W9 (Or.inr (slot_ne (Or.inl (hw _ (List.mem_of_getElem? (i := 23) rfl))) (Or.inl (hw _ (List.mem_of_getElem? (i := 17) rfl))) (by decide) (t := (.array .int)) (t' := (.array (.object "com/example/fourfold/fourfold/Label"))) (by decide) (by decide)))).ext E12).other W16 (Or.inr (slot_ne (Or.inl (hw _ (List.mem_of_getElem? (i := 23) rfl))) (Or.inl (hw _ (List.mem_of_getElem? (i := 20) rfl))) (by decide) (t := (.array .int)) (t' := (.array .long)) (by decide) (by decide)))).ext E19)
  have f22 : Exa Z h19 a1 "com/example/fourfold/fourfold/Record" := ((f15.wr W16).ext E19)
  obtain ⟨T23, h23, X23', e23, W23, st23⟩ := putF X19 hx hZ hown (host := "") (Or.inl (hw _ (List.mem_of_getElem? (i := 22) rfl))) Via.refl e19 f21 f22 (Or.inl (hw _ (List.mem_of_getElem? (i := 23) rfl))) (hw _ (List.mem_of_getElem? (i := 6) rfl)) (ty := (.array .int)) (by decide) rfl rfl (g := (mkF m 26 #[.val (.ref a1)] [(.ref b19), (.ref a1)])) rfl rfl (hb hby d2_26)
  obtain ⟨lc23, X23, N23⟩ : ∃ lc, Stand p l e ({ frames := 1, cells := 4, slots := 1072, locals := 12 } : Room) s m #[(.ref a1)] below meth c T23 lc 3 48 ∧ Fr n0 lc := ⟨_, X23', Fr.snoc X23' N16 pr1⟩
  have f23_ : Fld Z h23 a1 "com/example/fourfold/fourfold/Record" "ends" "[I" (.ref b19) := f21.same W23
  have K24 : Gx p e below s₁ f0 T23 (mkF m 29 #[.val (.ref a1)] []) := fun t kt => K20 t (st23 t kt)
  have K25 : Gx p e below s₁ f0 T23 (mkF m 33 #[.val (.ref a1)] [(.int (1024 : Int32)), (.ref a1)]) := fun t kt => K24 t (by
    show Steps p.tables e below (T23.setTop (mkF m 29 #[.val (.ref a1)] [])) _
    refine XS.aloadN X23.here hx rfl (hb hby d2_29) rfl rfl ?_
    show Steps p.tables e below (T23.setTop (mkF m 30 #[.val (.ref a1)] [(.ref a1)])) _
    refine XS.sipush X23.here hx rfl (hb hby d2_30) ?_
    exact kt)
  obtain ⟨T26, h26, k26, X26, e26, E26, A26, st26⟩ := newP X23 hx hZ (hw _ (List.mem_of_getElem? (i := 0) rfl)) e23 (g := (mkF m 33 #[.val (.ref a1)] [(.int (1024 : Int32)), (.ref a1)])) rfl (hb hby d2_33) rfl (by decide) (cap := 1024) (by decide) (by decide) (by decide) (by decide)
  obtain ⟨b26, g26⟩ : ∃ z, z = h23.size := ⟨_, rfl⟩
  rw [← g26] at A26 st26
  have V26 : Arv Z h26 b26 k26 .byte (1024 : Int32) (List.replicate 1024 (.int (0 : Int32))) (.int (0 : Int32)) := (Arv.new A26 (by decide)).pad (pad_rep [] (.int (0 : Int32)) 1024)
  have K27 : Gx p e below s₁ f0 T26 (mkF m 35 #[.val (.ref a1)] [(.ref b26), (.ref a1)]) := fun t kt => K25 t (st26 t kt)
  have f28 : Fld Z h26 a1 "com/example/fourfold/fourfold/Record" "text" "[B" .null := (((((((pr5.ext E5).other W9 (Or.inr (slot_ne (Or.inl (hw _ (List.mem_of_getElem? (i := 25) rfl))) (Or.inl (hw _ (List.mem_of_getElem? (i := 17) rfl))) (by decide) (t := (.array .byte)) (t' := (.array (.object "com/example/fourfold/fourfold/Label"))) (by decide) (by decide)))).ext E12).other W16 (Or.inr (slot_ne (Or.inl (hw _ (List.mem_of_getElem? (i := 25) rfl))) (Or.inl (hw _ (List.mem_of_getElem? (i := 20) rfl))) (by decide) (t := (.array .byte)) (t' := (.array .long)) (by decide) (by decide)))).ext E19).other W23 (Or.inr (slot_ne (Or.inl (hw _ (List.mem_of_getElem? (i := 25) rfl))) (Or.inl (hw _ (List.mem_of_getElem? (i := 23) rfl))) (by decide) (t := (.array .byte)) (t' := (.array .int)) (by decide) (by decide)))).ext E26)
  have f29 : Exa Z h26 a1 "com/example/fourfold/fourfold/Record" := ((f22.wr W23).ext E26)
  obtain ⟨T30, h30, X30', e30, W30, st30⟩ := putF X26 hx hZ hown (host := "") (Or.inl (hw _ (List.mem_of_getElem? (i := 24) rfl))) Via.refl e26 f28 f29 (Or.inl (hw _ (List.mem_of_getElem? (i := 25) rfl))) (hw _ (List.mem_of_getElem? (i := 6) rfl)) (ty := (.array .byte)) (by decide) rfl rfl (g := (mkF m 35 #[.val (.ref a1)] [(.ref b26), (.ref a1)])) rfl rfl (hb hby d2_35)
  obtain ⟨lc30, X30, N30⟩ : ∃ lc, Stand p l e ({ frames := 1, cells := 4, slots := 1072, locals := 12 } : Room) s m #[(.ref a1)] below meth c T30 lc 4 1072 ∧ Fr n0 lc := ⟨_, X30', Fr.snoc X30' N23 pr1⟩
  have f30_ : Fld Z h30 a1 "com/example/fourfold/fourfold/Record" "text" "[B" (.ref b26) := f28.same W30
  have K31 : Gx p e below s₁ f0 T30 (mkF m 38 #[.val (.ref a1)] []) := fun t kt => K27 t (st30 t kt)
  have f33 : Fld Z h30 a1 "com/example/fourfold/fourfold/Record" "labels" "[Lcom/example/fourfold/fourfold/Label;" (.ref b5) := ((((((f9_.ext E12).other W16 (Or.inr (slot_ne (Or.inl (hw _ (List.mem_of_getElem? (i := 17) rfl))) (Or.inl (hw _ (List.mem_of_getElem? (i := 20) rfl))) (by decide) (t := (.array (.object "com/example/fourfold/fourfold/Label"))) (t' := (.array .long)) (by decide) (by decide)))).ext E19).other W23 (Or.inr (slot_ne (Or.inl (hw _ (List.mem_of_getElem? (i := 17) rfl))) (Or.inl (hw _ (List.mem_of_getElem? (i := 23) rfl))) (by decide) (t := (.array (.object "com/example/fourfold/fourfold/Label"))) (t' := (.array .int)) (by decide) (by decide)))).ext E26).other W30 (Or.inr (slot_ne (Or.inl (hw _ (List.mem_of_getElem? (i := 17) rfl))) (Or.inl (hw _ (List.mem_of_getElem? (i := 25) rfl))) (by decide) (t := (.array (.object "com/example/fourfold/fourfold/Label"))) (t' := (.array .byte)) (by decide) (by decide))))
  have f34 : Fld Z h30 a1 "com/example/fourfold/fourfold/Record" "lines" "[J" (.ref b12) := ((((f16_.ext E19).other W23 (Or.inr (slot_ne (Or.inl (hw _ (List.mem_of_getElem? (i := 20) rfl))) (Or.inl (hw _ (List.mem_of_getElem? (i := 23) rfl))) (by decide) (t := (.array .long)) (t' := (.array .int)) (by decide) (by decide)))).ext E26).other W30 (Or.inr (slot_ne (Or.inl (hw _ (List.mem_of_getElem? (i := 20) rfl))) (Or.inl (hw _ (List.mem_of_getElem? (i := 25) rfl))) (by decide) (t := (.array .long)) (t' := (.array .byte)) (by decide) (by decide))))
  have f35 : Fld Z h30 a1 "com/example/fourfold/fourfold/Record" "ends" "[I" (.ref b19) := ((f23_.ext E26).other W30 (Or.inr (slot_ne (Or.inl (hw _ (List.mem_of_getElem? (i := 23) rfl))) (Or.inl (hw _ (List.mem_of_getElem? (i := 25) rfl))) (by decide) (t := (.array .int)) (t' := (.array .byte)) (by decide) (by decide))))
  have f36 : Arv Z h30 b5 k5 (.object "com/example/fourfold/fourfold/Label") (16 : Int32) [.null, .null, .null, .null, .null, .null, .null, .null, .null, .null, .null, .null, .null, .null, .null, .null] .null := (((((((V5.other W9 (Ne.symm (Nat.ne_of_lt (Nat.lt_of_lt_of_le pr0.lt (Nat.le_of_eq g5.symm))))).ext E12).other W16 (Ne.symm (Nat.ne_of_lt (Nat.lt_of_lt_of_le pr0.lt (Nat.le_of_eq g5.symm))))).ext E19).other W23 (Ne.symm (Nat.ne_of_lt (Nat.lt_of_lt_of_le pr0.lt (Nat.le_of_eq g5.symm))))).ext E26).other W30 (Ne.symm (Nat.ne_of_lt (Nat.lt_of_lt_of_le pr0.lt (Nat.le_of_eq g5.symm)))))
  have f37 : Arv Z h30 b12 k12 .long (16 : Int32) [(.long (0 : Int64)), (.long (0 : Int64)), (.long (0 : Int64)), (.long (0 : Int64)), (.long (0 : Int64)), (.long (0 : Int64)), (.long (0 : Int64)), (.long (0 : Int64)), (.long (0 : Int64)), (.long (0 : Int64)), (.long (0 : Int64)), (.long (0 : Int64)), (.long (0 : Int64)), (.long (0 : Int64)), (.long (0 : Int64)), (.long (0 : Int64))] (.long (0 : Int64)) := (((((V12.other W16 (Ne.symm (Nat.ne_of_lt (Nat.lt_of_lt_of_le f9_.lt (Nat.le_of_eq g12.symm))))).ext E19).other W23 (Ne.symm (Nat.ne_of_lt (Nat.lt_of_lt_of_le f9_.lt (Nat.le_of_eq g12.symm))))).ext E26).other W30 (Ne.symm (Nat.ne_of_lt (Nat.lt_of_lt_of_le f9_.lt (Nat.le_of_eq g12.symm)))))
  have f38 : Arv Z h30 b19 k19 .int (16 : Int32) [(.int (0 : Int32)), (.int (0 : Int32)), (.int (0 : Int32)), (.int (0 : Int32)), (.int (0 : Int32)), (.int (0 : Int32)), (.int (0 : Int32)), (.int (0 : Int32)), (.int (0 : Int32)), (.int (0 : Int32)), (.int (0 : Int32)), (.int (0 : Int32)), (.int (0 : Int32)), (.int (0 : Int32)), (.int (0 : Int32)), (.int (0 : Int32))] (.int (0 : Int32)) := (((V19.other W23 (Ne.symm (Nat.ne_of_lt (Nat.lt_of_lt_of_le f16_.lt (Nat.le_of_eq g19.symm))))).ext E26).other W30 (Ne.symm (Nat.ne_of_lt (Nat.lt_of_lt_of_le f16_.lt (Nat.le_of_eq g19.symm)))))
  have f39 : Arv Z h30 b26 k26 .byte (1024 : Int32) (List.replicate 1024 (.int (0 : Int32))) (.int (0 : Int32)) := (V26.other W30 (Ne.symm (Nat.ne_of_lt (Nat.lt_of_lt_of_le f23_.lt (Nat.le_of_eq g26.symm)))))
  have kp40 : Keep h0 h30 [a1] := (((((((((Keep.refl h0 [a1]).ext E5).wr W9 (Or.inl (List.mem_of_getElem? (i := 0) rfl))).ext E12).wr W16 (Or.inl (List.mem_of_getElem? (i := 0) rfl))).ext E19).wr W23 (Or.inl (List.mem_of_getElem? (i := 0) rfl))).ext E26).wr W30 (Or.inl (List.mem_of_getElem? (i := 0) rfl)))
  have f41 : Exa Z h30 a1 "com/example/fourfold/fourfold/Record" := (f29.wr W30)
  have f42 : Fld Z h30 a1 "com/example/fourfold/fourfold/Record" "size" "I" (.int (0 : Int32)) := ((((((((pr6.ext E5).other W9 (Or.inr (slot_ne (Or.inl (hw _ (List.mem_of_getElem? (i := 32) rfl))) (Or.inl (hw _ (List.mem_of_getElem? (i := 17) rfl))) (by decide) (t := .int) (t' := (.array (.object "com/example/fourfold/fourfold/Label"))) (by decide) (by decide)))).ext E12).other W16 (Or.inr (slot_ne (Or.inl (hw _ (List.mem_of_getElem? (i := 32) rfl))) (Or.inl (hw _ (List.mem_of_getElem? (i := 20) rfl))) (by decide) (t := .int) (t' := (.array .long)) (by decide) (by decide)))).ext E19).other W23 (Or.inr (slot_ne (Or.inl (hw _ (List.mem_of_getElem? (i := 32) rfl))) (Or.inl (hw _ (List.mem_of_getElem? (i := 23) rfl))) (by decide) (t := .int) (t' := (.array .int)) (by decide) (by decide)))).ext E26).other W30 (Or.inr (slot_ne (Or.inl (hw _ (List.mem_of_getElem? (i := 32) rfl))) (Or.inl (hw _ (List.mem_of_getElem? (i := 25) rfl))) (by decide) (t := .int) (t' := (.array .byte)) (by decide) (by decide))))
  obtain ⟨fs32, hr32, hrun32, hended32, hW32, hsame32⟩ := X30.leave (v := none) (fun _ => rfl)
  refine ⟨_, _, pre0 _ (K31 _ ?_), hrun32, hended32, _, _, rfl, ?_, ⟨_, rfl⟩, hW32, hsame32.mono (by decide) (by decide)⟩
  · exact X30.returnOut hx Bd.returns (hb hby d2_38) hr32
  · show QIni Z a1 h0 n0 _ T30.heap _
    rw [e30]
    exact ⟨b5, b12, b19, b26, k5, k12, k19, k26, [.null, .null, .null, .null, .null, .null, .null, .null, .null, .null, .null, .null, .null, .null, .null, .null], [(.long (0 : Int64)), (.long (0 : Int64)), (.long (0 : Int64)), (.long (0 : Int64)), (.long (0 : Int64)), (.long (0 : Int64)), (.long (0 : Int64)), (.long (0 : Int64)), (.long (0 : Int64)), (.long (0 : Int64)), (.long (0 : Int64)), (.long (0 : Int64)), (.long (0 : Int64)), (.long (0 : Int64)), (.long (0 : Int64)), (.long (0 : Int64))], [(.int (0 : Int32)), (.int (0 : Int32)), (.int (0 : Int32)), (.int (0 : Int32)), (.int (0 : Int32)), (.int (0 : Int32)), (.int (0 : Int32)), (.int (0 : Int32)), (.int (0 : Int32)), (.int (0 : Int32)), (.int (0 : Int32)), (.int (0 : Int32)), (.int (0 : Int32)), (.int (0 : Int32)), (.int (0 : Int32)), (.int (0 : Int32))], (List.replicate 1024 (.int (0 : Int32))), rfl, N30, kp40, f41, f33, f34, f35, f30_, f42, f36, f37, f38, f39, (Nat.le_trans (Keep.refl h0 [a1]).1 (Nat.le_of_eq g5.symm)), (Nat.le_trans (((Keep.refl h0 [a1]).ext E5).wr W9 (Or.inl (List.mem_of_getElem? (i := 0) rfl))).1 (Nat.le_of_eq g12.symm)), (Nat.le_trans (((((Keep.refl h0 [a1]).ext E5).wr W9 (Or.inl (List.mem_of_getElem? (i := 0) rfl))).ext E12).wr W16 (Or.inl (List.mem_of_getElem? (i := 0) rfl))).1 (Nat.le_of_eq g19.symm)), (Nat.le_trans (((((((Keep.refl h0 [a1]).ext E5).wr W9 (Or.inl (List.mem_of_getElem? (i := 0) rfl))).ext E12).wr W16 (Or.inl (List.mem_of_getElem? (i := 0) rfl))).ext E19).wr W23 (Or.inl (List.mem_of_getElem? (i := 0) rfl))).1 (Nat.le_of_eq g26.symm)), (Nat.ne_of_lt (Nat.lt_of_lt_of_le (V5.other W9 (Ne.symm (Nat.ne_of_lt (Nat.lt_of_lt_of_le pr0.lt (Nat.le_of_eq g5.symm))))).lt (Nat.le_of_eq g12.symm))), (Nat.ne_of_lt (Nat.lt_of_lt_of_le (((V5.other W9 (Ne.symm (Nat.ne_of_lt (Nat.lt_of_lt_of_le pr0.lt (Nat.le_of_eq g5.symm))))).ext E12).other W16 (Ne.symm (Nat.ne_of_lt (Nat.lt_of_lt_of_le pr0.lt (Nat.le_of_eq g5.symm))))).lt (Nat.le_of_eq g19.symm))), (Nat.ne_of_lt (Nat.lt_of_lt_of_le (((((V5.other W9 (Ne.symm (Nat.ne_of_lt (Nat.lt_of_lt_of_le pr0.lt (Nat.le_of_eq g5.symm))))).ext E12).other W16 (Ne.symm (Nat.ne_of_lt (Nat.lt_of_lt_of_le pr0.lt (Nat.le_of_eq g5.symm))))).ext E19).other W23 (Ne.symm (Nat.ne_of_lt (Nat.lt_of_lt_of_le pr0.lt (Nat.le_of_eq g5.symm))))).lt (Nat.le_of_eq g26.symm))), (Nat.ne_of_lt (Nat.lt_of_lt_of_le (V12.other W16 (Ne.symm (Nat.ne_of_lt (Nat.lt_of_lt_of_le f9_.lt (Nat.le_of_eq g12.symm))))).lt (Nat.le_of_eq g19.symm))), (Nat.ne_of_lt (Nat.lt_of_lt_of_le (((V12.other W16 (Ne.symm (Nat.ne_of_lt (Nat.lt_of_lt_of_le f9_.lt (Nat.le_of_eq g12.symm))))).ext E19).other W23 (Ne.symm (Nat.ne_of_lt (Nat.lt_of_lt_of_le f9_.lt (Nat.le_of_eq g12.symm))))).lt (Nat.le_of_eq g26.symm))), (Nat.ne_of_lt (Nat.lt_of_lt_of_le (V19.other W23 (Ne.symm (Nat.ne_of_lt (Nat.lt_of_lt_of_le f16_.lt (Nat.le_of_eq g19.symm))))).lt (Nat.le_of_eq g26.symm))), (by simp), (by simp), (by simp), (List.length_replicate ..)⟩
theorem d4_0 : decode prog_23_method_13_code 0 = .ok (.aload_n 0, 1) := by decide +kernel
theorem d4_1 : decode prog_23_method_13_code 1 = .ok (.getfield 31, 3) := by decide +kernel
theorem d4_4 : decode prog_23_method_13_code 4 = .ok (.ifCond .ne 7, 3) := by decide +kernel
theorem d4_7 : decode prog_23_method_13_code 7 = .ok (.iconst 1, 1) := by decide +kernel
theorem d4_8 : decode prog_23_method_13_code 8 = .ok (.goto 4, 3) := by decide +kernel
theorem d4_11 : decode prog_23_method_13_code 11 = .ok (.iconst 0, 1) := by decide +kernel
theorem d4_12 : decode prog_23_method_13_code 12 = .ok (.ireturn, 1) := by decide +kernel
theorem pn_4 : plainName "com/example/fourfold/fourfold/Record" = true := by first | (simp [plainName, overriddenIn]; done) | decide +kernel
theorem ef_Emp (m : MethodId) (a1 : Addr) : entryFrame m #[(.ref a1)] 1 = mkF m 0 #[.val (.ref a1)] [] := by first | (simp [entryFrame, mkF, argsToLocals, Value.category]; done) | rfl
def QEmp (Z : State) (a1 : Addr) (w : Int32) (h0 : Heap) (n0 : Nat) (v : Option Value) (h : Heap) (L : List Loc) : Prop := v = some (.int (empF w)) ∧ Fr n0 L ∧ h = h0
set_option maxRecDepth 65536 in
set_option maxHeartbeats 40000000 in
theorem rmEmp (l : Launch) (Z : State) (a0 : Array Value) (hw : ∀ d ∈ tables_1, d.before a0 Z = true) (ws : List Jvm.Cond) (a1 : Addr) (w : Int32) (h0 : Heap) (n0 : Nat) (Z0 : n0 ≤ h0.size) (pr0 : Fld Z h0 a1 "com/example/fourfold/fourfold/Record" "size" "I" (.int w)) :
    MetFree l (⟨"com/example/fourfold/fourfold/Record", "isEmpty", "()Z"⟩ : MethodName) (head1 (Jvm.Cond.code (⟨"com/example/fourfold/fourfold/Record", "isEmpty", "()Z"⟩ : MethodName) prog_23_method_13_code 1 (some .boolean) :: ws) ({ frames := 0, cells := 0, slots := 0, locals := 0 } : Room)) (fun a U => a = #[(.ref a1)] ∧ Z.Warmed39 U.vm ∧ U.heap = h0) (fun _ _ _ _ _ => True) (fun _ U o U' => ∃ v L, o = .returned v ∧ QEmp Z a1 w h0 n0 v U'.heap L ∧ FrameEnd U o U' L ({ frames := 0, cells := 0, slots := 0, locals := 0 } : Room).cells ({ frames := 0, cells := 0, slots := 0, locals := 0 } : Room).slots) := by
  refine MetFree.of_bodySF (plainFor_of_name pn_4) hisR ?_
  intro p e s m args below meth c s₁ Bd hml0 hP hK
  obtain ⟨rfl, hZ, hh⟩ := hP
  have hx := Bd.exec
  have hby := Bd.bytes
  have hml : c.maxLocals = 1 := hml0
  have hown : s.vm.findClass "com/example/fourfold/fourfold/Record" = some m.cls := findClass_of_methodNamed Bd.named
  have hnm := (name_of_methodNamed Bd.named Bd.method).1
  have X0 : Stand p l e ({ frames := 0, cells := 0, slots := 0, locals := 0 } : Room) s m #[(.ref a1)] below meth c s₁ [] 0 0 := Stand.of_body Bd
  have hs0 : h0 = s.heap := hh.symm
  have e0 : s₁.heap = h0 := by rw [← hh, Bd.state]; rfl
  have N0 := Fr.nil n0
  obtain ⟨f0, hf0⟩ : ∃ f, f = entryFrame m #[(.ref a1)] 1 := ⟨_, rfl⟩
  have pre0 : ∀ t, Steps p.tables e below (s₁.setTop f0) t → Steps p.tables e below (s₁.setTop (entryFrame m #[(.ref a1)] 1)) t := fun t k => hf0 ▸ k
  have K0 : Gx p e below s₁ f0 s₁ (mkF m 0 #[.val (.ref a1)] []) := fun t kt => by rw [hf0]; exact castTop (ef_Emp m a1) kt
  have K1 : Gx p e below s₁ f0 s₁ (mkF m 1 #[.val (.ref a1)] [(.ref a1)]) := fun t kt => K0 t (by
    show Steps p.tables e below (s₁.setTop (mkF m 0 #[.val (.ref a1)] [])) _
    refine XS.aloadN X0.here hx rfl (hb hby d4_0) rfl rfl ?_
    exact kt)
  obtain ⟨T2, X2, e2, st2⟩ := getF X0 hx hZ hown (host := "") (Or.inl (hw _ (List.mem_of_getElem? (i := 31) rfl))) Via.refl e0 pr0 (g := (mkF m 1 #[.val (.ref a1)] [(.ref a1)])) rfl rfl (hb hby d4_1)
  have K3 : Gx p e below s₁ f0 T2 (mkF m 4 #[.val (.ref a1)] [(.int w)]) := fun t kt => K1 t (st2 t kt)
  by_cases hb4 : w = (0 : Int32)
  · skip
    have K5 : Gx p e below s₁ f0 T2 (mkF m 12 #[.val (.ref a1)] [(.int (1 : Int32))]) := fun t kt => K3 t (by
      show Steps p.tables e below (T2.setTop (mkF m 4 #[.val (.ref a1)] [(.int w)])) _
      refine XS.ifNo X2.here hx rfl (hb hby d4_4) rfl ((if0 _ _).trans (teq hb4).2) ?_
      show Steps p.tables e below (T2.setTop (mkF m 7 #[.val (.ref a1)] [])) _
      refine XS.iconst X2.here hx rfl (hb hby d4_7) ?_
      show Steps p.tables e below (T2.setTop (mkF m 8 #[.val (.ref a1)] [(.int (1 : Int32))])) _
      refine XS.goto X2.here hx rfl (pc0 := 8) (pc' := 12) rfl (hb hby d4_8) (by decide) (by decide) ?_
      exact kt)
    obtain ⟨fs6, hr6, hrun6, hended6, hW6, hsame6⟩ := X2.leave (v := some (.int (1 : Int32))) (fun h => by rw [Bd.returns] at h; cases h)
    refine ⟨_, _, pre0 _ (K5 _ ?_), hrun6, hended6, _, _, rfl, ?_, ⟨_, rfl⟩, hW6, hsame6.mono (by decide) (by decide)⟩
    · exact retN X2 hx (t := .boolean) Bd.returns (by simp) (hb hby d4_12) hr6
    · show QEmp Z a1 w h0 n0 _ T2.heap _
      rw [e2]
      exact ⟨(congrArg some (congrArg Value.int (by first | (simp only [empF, if_pos hb4]; done) | rfl))), N0, rfl⟩
  · skip
    have K7 : Gx p e below s₁ f0 T2 (mkF m 12 #[.val (.ref a1)] [(.int (0 : Int32))]) := fun t kt => K3 t (by
      show Steps p.tables e below (T2.setTop (mkF m 4 #[.val (.ref a1)] [(.int w)])) _
      refine XS.ifYes X2.here hx rfl (pc0 := 4) (pc' := 11) rfl (hb hby d4_4) rfl ((if0 _ _).trans (feq hb4).2) (by decide) (by decide) ?_
      show Steps p.tables e below (T2.setTop (mkF m 11 #[.val (.ref a1)] [])) _
      refine XS.iconst X2.here hx rfl (hb hby d4_11) ?_
      exact kt)
    obtain ⟨fs8, hr8, hrun8, hended8, hW8, hsame8⟩ := X2.leave (v := some (.int (0 : Int32))) (fun h => by rw [Bd.returns] at h; cases h)
    refine ⟨_, _, pre0 _ (K7 _ ?_), hrun8, hended8, _, _, rfl, ?_, ⟨_, rfl⟩, hW8, hsame8.mono (by decide) (by decide)⟩
    · exact retN X2 hx (t := .boolean) Bd.returns (by simp) (hb hby d4_12) hr8
    · show QEmp Z a1 w h0 n0 _ T2.heap _
      rw [e2]
      exact ⟨(congrArg some (congrArg Value.int (by first | (simp only [empF, if_neg hb4]; done) | rfl))), N0, rfl⟩
theorem d8_0 : decode prog_23_method_3_code 0 = .ok (.aload_n 0, 1) := by decide +kernel
theorem d8_1 : decode prog_23_method_3_code 1 = .ok (.getfield 31, 3) := by decide +kernel
theorem d8_4 : decode prog_23_method_3_code 4 = .ok (.ireturn, 1) := by decide +kernel
theorem pn_8 : plainName "com/example/fourfold/fourfold/Record" = true := by first | (simp [plainName, overriddenIn]; done) | decide +kernel
theorem ef_Siz (m : MethodId) (a1 : Addr) : entryFrame m #[(.ref a1)] 1 = mkF m 0 #[.val (.ref a1)] [] := by first | (simp [entryFrame, mkF, argsToLocals, Value.category]; done) | rfl
def QSiz (Z : State) (a1 : Addr) (w : Int32) (h0 : Heap) (n0 : Nat) (v : Option Value) (h : Heap) (L : List Loc) : Prop := v = some (.int w) ∧ Fr n0 L ∧ h = h0
set_option maxRecDepth 65536 in
set_option maxHeartbeats 40000000 in
theorem rmSiz (l : Launch) (Z : State) (a0 : Array Value) (hw : ∀ d ∈ tables_1, d.before a0 Z = true) (ws : List Jvm.Cond) (a1 : Addr) (w : Int32) (h0 : Heap) (n0 : Nat) (Z0 : n0 ≤ h0.size) (pr0 : Fld Z h0 a1 "com/example/fourfold/fourfold/Record" "size" "I" (.int w)) :
    MetFree l (⟨"com/example/fourfold/fourfold/Record", "size", "()I"⟩ : MethodName) (head1 (Jvm.Cond.code (⟨"com/example/fourfold/fourfold/Record", "size", "()I"⟩ : MethodName) prog_23_method_3_code 1 (some .int) :: ws) ({ frames := 0, cells := 0, slots := 0, locals := 0 } : Room)) (fun a U => a = #[(.ref a1)] ∧ Z.Warmed39 U.vm ∧ U.heap = h0) (fun _ _ _ _ _ => True) (fun _ U o U' => ∃ v L, o = .returned v ∧ QSiz Z a1 w h0 n0 v U'.heap L ∧ FrameEnd U o U' L ({ frames := 0, cells := 0, slots := 0, locals := 0 } : Room).cells ({ frames := 0, cells := 0, slots := 0, locals := 0 } : Room).slots) := by
  refine MetFree.of_bodySF (plainFor_of_name pn_8) hisR ?_
  intro p e s m args below meth c s₁ Bd hml0 hP hK
  obtain ⟨rfl, hZ, hh⟩ := hP
  have hx := Bd.exec
  have hby := Bd.bytes
  have hml : c.maxLocals = 1 := hml0
  have hown : s.vm.findClass "com/example/fourfold/fourfold/Record" = some m.cls := findClass_of_methodNamed Bd.named
  have hnm := (name_of_methodNamed Bd.named Bd.method).1
  have X0 : Stand p l e ({ frames := 0, cells := 0, slots := 0, locals := 0 } : Room) s m #[(.ref a1)] below meth c s₁ [] 0 0 := Stand.of_body Bd
  have hs0 : h0 = s.heap := hh.symm
  have e0 : s₁.heap = h0 := by rw [← hh, Bd.state]; rfl
  have N0 := Fr.nil n0
  obtain ⟨f0, hf0⟩ : ∃ f, f = entryFrame m #[(.ref a1)] 1 := ⟨_, rfl⟩
  have pre0 : ∀ t, Steps p.tables e below (s₁.setTop f0) t → Steps p.tables e below (s₁.setTop (entryFrame m #[(.ref a1)] 1)) t := fun t k => hf0 ▸ k
  have K0 : Gx p e below s₁ f0 s₁ (mkF m 0 #[.val (.ref a1)] []) := fun t kt => by rw [hf0]; exact castTop (ef_Siz m a1) kt
  have K1 : Gx p e below s₁ f0 s₁ (mkF m 1 #[.val (.ref a1)] [(.ref a1)]) := fun t kt => K0 t (by
    show Steps p.tables e below (s₁.setTop (mkF m 0 #[.val (.ref a1)] [])) _
    refine XS.aloadN X0.here hx rfl (hb hby d8_0) rfl rfl ?_
    exact kt)
  obtain ⟨T2, X2, e2, st2⟩ := getF X0 hx hZ hown (host := "") (Or.inl (hw _ (List.mem_of_getElem? (i := 31) rfl))) Via.refl e0 pr0 (g := (mkF m 1 #[.val (.ref a1)] [(.ref a1)])) rfl rfl (hb hby d8_1)
  have K3 : Gx p e below s₁ f0 T2 (mkF m 4 #[.val (.ref a1)] [(.int w)]) := fun t kt => K1 t (st2 t kt)
  obtain ⟨fs4, hr4, hrun4, hended4, hW4, hsame4⟩ := X2.leave (v := some (.int w)) (fun h => by rw [Bd.returns] at h; cases h)
  refine ⟨_, _, pre0 _ (K3 _ ?_), hrun4, hended4, _, _, rfl, ?_, ⟨_, rfl⟩, hW4, hsame4.mono (by decide) (by decide)⟩
  · exact retI X2 hx Bd.returns (hb hby d8_4) hr4
  · show QSiz Z a1 w h0 n0 _ T2.heap _
    rw [e2]
    exact ⟨rfl, N0, rfl⟩
theorem d9_0 : decode prog_23_method_12_code 0 = .ok (.aload_n 0, 1) := by decide +kernel
theorem d9_1 : decode prog_23_method_12_code 1 = .ok (.iconst 0, 1) := by decide +kernel
theorem d9_2 : decode prog_23_method_12_code 2 = .ok (.putfield 31, 3) := by decide +kernel
theorem d9_5 : decode prog_23_method_12_code 5 = .ok (.return_, 1) := by decide +kernel
theorem pn_9 : plainName "com/example/fourfold/fourfold/Record" = true := by first | (simp [plainName, overriddenIn]; done) | decide +kernel
theorem ef_Clr (m : MethodId) (a1 : Addr) : entryFrame m #[(.ref a1)] 1 = mkF m 0 #[.val (.ref a1)] [] := by first | (simp [entryFrame, mkF, argsToLocals, Value.category]; done) | rfl
def QClr (Z : State) (a1 : Addr) (la : Addr) (li : Addr) (en : Addr) (tx : Addr) (w : Int32) (h0 : Heap) (n0 : Nat) (v : Option Value) (h : Heap) (L : List Loc) : Prop := v = none ∧ Fr n0 L ∧ Keep h0 h [a1] ∧ Exa Z h a1 "com/example/fourfold/fourfold/Record" ∧ Fld Z h a1 "com/example/fourfold/fourfold/Record" "labels" "[Lcom/example/fourfold/fourfold/Label;" (.ref la) ∧ Fld Z h a1 "com/example/fourfold/fourfold/Record" "lines" "[J" (.ref li) ∧ Fld Z h a1 "com/example/fourfold/fourfold/Record" "ends" "[I" (.ref en) ∧ Fld Z h a1 "com/example/fourfold/fourfold/Record" "text" "[B" (.ref tx) ∧ Fld Z h a1 "com/example/fourfold/fourfold/Record" "size" "I" (.int (0 : Int32))
set_option maxRecDepth 65536 in
set_option maxHeartbeats 40000000 in
theorem rmClr (l : Launch) (Z : State) (a0 : Array Value) (hw : ∀ d ∈ tables_1, d.before a0 Z = true) (ws : List Jvm.Cond) (a1 : Addr) (la : Addr) (li : Addr) (en : Addr) (tx : Addr) (w : Int32) (h0 : Heap) (n0 : Nat) (Z0 : n0 ≤ h0.size) (pr0 : Exa Z h0 a1 "com/example/fourfold/fourfold/Record") (pr1 : Fld Z h0 a1 "com/example/fourfold/fourfold/Record" "labels" "[Lcom/example/fourfold/fourfold/Label;" (.ref la)) (pr2 : Fld Z h0 a1 "com/example/fourfold/fourfold/Record" "lines" "[J" (.ref li)) (pr3 : Fld Z h0 a1 "com/example/fourfold/fourfold/Record" "ends" "[I" (.ref en)) (pr4 : Fld Z h0 a1 "com/example/fourfold/fourfold/Record" "text" "[B" (.ref tx)) (pr5 : Fld Z h0 a1 "com/example/fourfold/fourfold/Record" "size" "I" (.int w)) (pr6 : n0 ≤ a1) :
    MetFree l (⟨"com/example/fourfold/fourfold/Record", "clear", "()V"⟩ : MethodName) (head1 (Jvm.Cond.code (⟨"com/example/fourfold/fourfold/Record", "clear", "()V"⟩ : MethodName) prog_23_method_12_code 1 none :: ws) ({ frames := 0, cells := 0, slots := 0, locals := 0 } : Room)) (fun a U => a = #[(.ref a1)] ∧ Z.Warmed39 U.vm ∧ U.heap = h0) (fun _ _ _ _ _ => True) (fun _ U o U' => ∃ v L, o = .returned v ∧ QClr Z a1 la li en tx w h0 n0 v U'.heap L ∧ FrameEnd U o U' L ({ frames := 0, cells := 0, slots := 0, locals := 0 } : Room).cells ({ frames := 0, cells := 0, slots := 0, locals := 0 } : Room).slots) := by
  refine MetFree.of_bodySF (plainFor_of_name pn_9) hisR ?_
  intro p e s m args below meth c s₁ Bd hml0 hP hK
  obtain ⟨rfl, hZ, hh⟩ := hP
  have hx := Bd.exec
  have hby := Bd.bytes
  have hml : c.maxLocals = 1 := hml0
  have hown : s.vm.findClass "com/example/fourfold/fourfold/Record" = some m.cls := findClass_of_methodNamed Bd.named
  have hnm := (name_of_methodNamed Bd.named Bd.method).1
  have X0 : Stand p l e ({ frames := 0, cells := 0, slots := 0, locals := 0 } : Room) s m #[(.ref a1)] below meth c s₁ [] 0 0 := Stand.of_body Bd
  have hs0 : h0 = s.heap := hh.symm
  have e0 : s₁.heap = h0 := by rw [← hh, Bd.state]; rfl
  have N0 := Fr.nil n0
  obtain ⟨f0, hf0⟩ : ∃ f, f = entryFrame m #[(.ref a1)] 1 := ⟨_, rfl⟩
  have pre0 : ∀ t, Steps p.tables e below (s₁.setTop f0) t → Steps p.tables e below (s₁.setTop (entryFrame m #[(.ref a1)] 1)) t := fun t k => hf0 ▸ k
  have K0 : Gx p e below s₁ f0 s₁ (mkF m 0 #[.val (.ref a1)] []) := fun t kt => by rw [hf0]; exact castTop (ef_Clr m a1) kt
  have K1 : Gx p e below s₁ f0 s₁ (mkF m 2 #[.val (.ref a1)] [(.int (0 : Int32)), (.ref a1)]) := fun t kt => K0 t (by
    show Steps p.tables e below (s₁.setTop (mkF m 0 #[.val (.ref a1)] [])) _
    refine XS.aloadN X0.here hx rfl (hb hby d9_0) rfl rfl ?_
    show Steps p.tables e below (s₁.setTop (mkF m 1 #[.val (.ref a1)] [(.ref a1)])) _
    refine XS.iconst X0.here hx rfl (hb hby d9_1) ?_
    exact kt)
  obtain ⟨T2, h2, X2', e2, W2, st2⟩ := putF X0 hx hZ hown (host := "") (Or.inl (hw _ (List.mem_of_getElem? (i := 31) rfl))) Via.refl e0 pr5 pr0 (Or.inl (hw _ (List.mem_of_getElem? (i := 32) rfl))) (hw _ (List.mem_of_getElem? (i := 6) rfl)) (ty := .int) (by decide) rfl rfl (g := (mkF m 2 #[.val (.ref a1)] [(.int (0 : Int32)), (.ref a1)])) rfl rfl (hb hby d9_2)
  obtain ⟨lc2, X2, N2⟩ : ∃ lc, Stand p l e ({ frames := 0, cells := 0, slots := 0, locals := 0 } : Room) s m #[(.ref a1)] below meth c T2 lc 0 0 ∧ Fr n0 lc := ⟨_, X2', Fr.snoc X2' N0 pr6⟩
  have f2_ : Fld Z h2 a1 "com/example/fourfold/fourfold/Record" "size" "I" (.int (0 : Int32)) := pr5.same W2
  have K3 : Gx p e below s₁ f0 T2 (mkF m 5 #[.val (.ref a1)] []) := fun t kt => K1 t (st2 t kt)
  have kp5 : Keep h0 h2 [a1] := ((Keep.refl h0 [a1]).wr W2 (Or.inl (List.mem_of_getElem? (i := 0) rfl)))
  have f6 : Exa Z h2 a1 "com/example/fourfold/fourfold/Record" := (pr0.wr W2)
  have f7 : Fld Z h2 a1 "com/example/fourfold/fourfold/Record" "labels" "[Lcom/example/fourfold/fourfold/Label;" (.ref la) := (pr1.other W2 (Or.inr (slot_ne (Or.inl (hw _ (List.mem_of_getElem? (i := 17) rfl))) (Or.inl (hw _ (List.mem_of_getElem? (i := 32) rfl))) (by decide) (t := (.array (.object "com/example/fourfold/fourfold/Label"))) (t' := .int) (by decide) (by decide))))
  have f8 : Fld Z h2 a1 "com/example/fourfold/fourfold/Record" "lines" "[J" (.ref li) := (pr2.other W2 (Or.inr (slot_ne (Or.inl (hw _ (List.mem_of_getElem? (i := 20) rfl))) (Or.inl (hw _ (List.mem_of_getElem? (i := 32) rfl))) (by decide) (t := (.array .long)) (t' := .int) (by decide) (by decide))))
  have f9 : Fld Z h2 a1 "com/example/fourfold/fourfold/Record" "ends" "[I" (.ref en) := (pr3.other W2 (Or.inr (slot_ne (Or.inl (hw _ (List.mem_of_getElem? (i := 23) rfl))) (Or.inl (hw _ (List.mem_of_getElem? (i := 32) rfl))) (by decide) (t := (.array .int)) (t' := .int) (by decide) (by decide))))
  have f10 : Fld Z h2 a1 "com/example/fourfold/fourfold/Record" "text" "[B" (.ref tx) := (pr4.other W2 (Or.inr (slot_ne (Or.inl (hw _ (List.mem_of_getElem? (i := 25) rfl))) (Or.inl (hw _ (List.mem_of_getElem? (i := 32) rfl))) (by decide) (t := (.array .byte)) (t' := .int) (by decide) (by decide))))
  obtain ⟨fs4, hr4, hrun4, hended4, hW4, hsame4⟩ := X2.leave (v := none) (fun _ => rfl)
  refine ⟨_, _, pre0 _ (K3 _ ?_), hrun4, hended4, _, _, rfl, ?_, ⟨_, rfl⟩, hW4, hsame4.mono (by decide) (by decide)⟩
  · exact X2.returnOut hx Bd.returns (hb hby d9_5) hr4
  · show QClr Z a1 la li en tx w h0 n0 _ T2.heap _
    rw [e2]
    exact ⟨rfl, N2, kp5, f6, f7, f8, f9, f10, f2_⟩
theorem d7_0 : decode prog_23_method_17_code 0 = .ok (.aload_n 0, 1) := by decide +kernel
theorem d7_1 : decode prog_23_method_17_code 1 = .ok (.getfield 19, 3) := by decide +kernel
theorem d7_4 : decode prog_23_method_17_code 4 = .ok (.aload_n 0, 1) := by decide +kernel
theorem d7_5 : decode prog_23_method_17_code 5 = .ok (.getfield 31, 3) := by decide +kernel
theorem d7_8 : decode prog_23_method_17_code 8 = .ok (.iconst 1, 1) := by decide +kernel
theorem d7_9 : decode prog_23_method_17_code 9 = .ok (.isub, 1) := by decide +kernel
theorem d7_10 : decode prog_23_method_17_code 10 = .ok (.iaload, 1) := by decide +kernel
theorem d7_11 : decode prog_23_method_17_code 11 = .ok (.istore_n 2, 1) := by decide +kernel
theorem d7_12 : decode prog_23_method_17_code 12 = .ok (.aload_n 0, 1) := by decide +kernel
theorem d7_13 : decode prog_23_method_17_code 13 = .ok (.getfield 23, 3) := by decide +kernel
theorem d7_16 : decode prog_23_method_17_code 16 = .ok (.arraylength, 1) := by decide +kernel
theorem d7_17 : decode prog_23_method_17_code 17 = .ok (.iload_n 2, 1) := by decide +kernel
theorem d7_18 : decode prog_23_method_17_code 18 = .ok (.isub, 1) := by decide +kernel
theorem d7_19 : decode prog_23_method_17_code 19 = .ok (.iload_n 1, 1) := by decide +kernel
theorem d7_20 : decode prog_23_method_17_code 20 = .ok (.if_icmp .ge 27, 3) := by decide +kernel
theorem d7_47 : decode prog_23_method_17_code 47 = .ok (.iload_n 2, 1) := by decide +kernel
theorem d7_48 : decode prog_23_method_17_code 48 = .ok (.ireturn, 1) := by decide +kernel
theorem pn_7 : plainName "com/example/fourfold/fourfold/Record" = true := by first | (simp [plainName, overriddenIn]; done) | decide +kernel
theorem ef_Res (m : MethodId) (a1 : Addr) (p1 : Int32) : entryFrame m #[(.ref a1), (.int p1)] 3 = mkF m 0 #[.val (.ref a1), .val (.int p1), .unset] [] := by first | (simp [entryFrame, mkF, argsToLocals, Value.category]; done) | rfl
def QRes (Z : State) (a1 : Addr) (p1 : Int32) (en : Addr) (tx : Addr) (kC : ClassId) (kD : ClassId) (ve : List Value) (vt : List Value) (gN : Nat) (gE : Nat) (h0 : Heap) (n0 : Nat) (v : Option Value) (h : Heap) (L : List Loc) : Prop := v = some (.int (Int32.ofNat gE)) ∧ Fr n0 L ∧ h = h0
set_option maxRecDepth 65536 in
set_option maxHeartbeats 40000000 in
theorem rmRes (l : Launch) (Z : State) (a0 : Array Value) (hw : ∀ d ∈ tables_1, d.before a0 Z = true) (ws : List Jvm.Cond) (a1 : Addr) (p1 : Int32) (en : Addr) (tx : Addr) (kC : ClassId) (kD : ClassId) (ve : List Value) (vt : List Value) (gN : Nat) (gE : Nat) (h0 : Heap) (n0 : Nat) (Z0 : n0 ≤ h0.size) (pr0 : Fld Z h0 a1 "com/example/fourfold/fourfold/Record" "ends" "[I" (.ref en)) (pr1 : Fld Z h0 a1 "com/example/fourfold/fourfold/Record" "text" "[B" (.ref tx)) (pr2 : Fld Z h0 a1 "com/example/fourfold/fourfold/Record" "size" "I" (.int (Int32.ofNat gN))) (pr3 : Arv Z h0 en kC .int (16 : Int32) ve (.int (0 : Int32))) (pr4 : Arv Z h0 tx kD .byte (1024 : Int32) vt (.int (0 : Int32))) (hn : 0 < gN ∧ gN ≤ 16) (he : ve.getD (gN - 1) (.int (0 : Int32)) = .int (Int32.ofNat gE)) (hb_ : ¬ (((1024 : Int32) - (Int32.ofNat gE)) < p1)) :
    MetFree l (⟨"com/example/fourfold/fourfold/Record", "reserve", "(I)I"⟩ : MethodName) (head1 (Jvm.Cond.code (⟨"com/example/fourfold/fourfold/Record", "reserve", "(I)I"⟩ : MethodName) prog_23_method_17_code 3 (some .int) :: ws) ({ frames := 0, cells := 0, slots := 0, locals := 0 } : Room)) (fun a U => a = #[(.ref a1), (.int p1)] ∧ Z.Warmed39 U.vm ∧ U.heap = h0) (fun _ _ _ _ _ => True) (fun _ U o U' => ∃ v L, o = .returned v ∧ QRes Z a1 p1 en tx kC kD ve vt gN gE h0 n0 v U'.heap L ∧ FrameEnd U o U' L ({ frames := 0, cells := 0, slots := 0, locals := 0 } : Room).cells ({ frames := 0, cells := 0, slots := 0, locals := 0 } : Room).slots) := by
  refine MetFree.of_bodySF (plainFor_of_name pn_7) hisR ?_
  intro p e s m args below meth c s₁ Bd hml0 hP hK
  obtain ⟨rfl, hZ, hh⟩ := hP
  have hx := Bd.exec
  have hby := Bd.bytes
  have hml : c.maxLocals = 3 := hml0
  have hown : s.vm.findClass "com/example/fourfold/fourfold/Record" = some m.cls := findClass_of_methodNamed Bd.named
  have hnm := (name_of_methodNamed Bd.named Bd.method).1
  have X0 : Stand p l e ({ frames := 0, cells := 0, slots := 0, locals := 0 } : Room) s m #[(.ref a1), (.int p1)] below meth c s₁ [] 0 0 := Stand.of_body Bd
  have hs0 : h0 = s.heap := hh.symm
  have e0 : s₁.heap = h0 := by rw [← hh, Bd.state]; rfl
  have N0 := Fr.nil n0
  obtain ⟨f0, hf0⟩ : ∃ f, f = entryFrame m #[(.ref a1), (.int p1)] 3 := ⟨_, rfl⟩
  have pre0 : ∀ t, Steps p.tables e below (s₁.setTop f0) t → Steps p.tables e below (s₁.setTop (entryFrame m #[(.ref a1), (.int p1)] 3)) t := fun t k => hf0 ▸ k
  have K0 : Gx p e below s₁ f0 s₁ (mkF m 0 #[.val (.ref a1), .val (.int p1), .unset] []) := fun t kt => by rw [hf0]; exact castTop (ef_Res m a1 p1) kt
  have K1 : Gx p e below s₁ f0 s₁ (mkF m 1 #[.val (.ref a1), .val (.int p1), .unset] [(.ref a1)]) := fun t kt => K0 t (by
    show Steps p.tables e below (s₁.setTop (mkF m 0 #[.val (.ref a1), .val (.int p1), .unset] [])) _
    refine XS.aloadN X0.here hx rfl (hb hby d7_0) rfl rfl ?_
    exact kt)
  obtain ⟨T2, X2, e2, st2⟩ := getF X0 hx hZ hown (host := "") (Or.inl (hw _ (List.mem_of_getElem? (i := 22) rfl))) Via.refl e0 pr0 (g := (mkF m 1 #[.val (.ref a1), .val (.int p1), .unset] [(.ref a1)])) rfl rfl (hb hby d7_1)
  have K3 : Gx p e below s₁ f0 T2 (mkF m 4 #[.val (.ref a1), .val (.int p1), .unset] [(.ref en)]) := fun t kt => K1 t (st2 t kt)
  have K4 : Gx p e below s₁ f0 T2 (mkF m 5 #[.val (.ref a1), .val (.int p1), .unset] [(.ref a1), (.ref en)]) := fun t kt => K3 t (by
    show Steps p.tables e below (T2.setTop (mkF m 4 #[.val (.ref a1), .val (.int p1), .unset] [(.ref en)])) _
    refine XS.aloadN X2.here hx rfl (hb hby d7_4) rfl rfl ?_
    exact kt)
  obtain ⟨T5, X5, e5, st5⟩ := getF X2 hx hZ hown (host := "") (Or.inl (hw _ (List.mem_of_getElem? (i := 31) rfl))) Via.refl e2 pr2 (g := (mkF m 5 #[.val (.ref a1), .val (.int p1), .unset] [(.ref a1), (.ref en)])) rfl rfl (hb hby d7_5)
  have K6 : Gx p e below s₁ f0 T5 (mkF m 8 #[.val (.ref a1), .val (.int p1), .unset] [(.int (Int32.ofNat gN)), (.ref en)]) := fun t kt => K4 t (st5 t kt)
  have K7 : Gx p e below s₁ f0 T5 (mkF m 10 #[.val (.ref a1), .val (.int p1), .unset] [(.int ((Int32.ofNat gN) - (1 : Int32))), (.ref en)]) := fun t kt => K6 t (by
    show Steps p.tables e below (T5.setTop (mkF m 8 #[.val (.ref a1), .val (.int p1), .unset] [(.int (Int32.ofNat gN)), (.ref en)])) _
    refine XS.iconst X5.here hx rfl (hb hby d7_8) ?_
    show Steps p.tables e below (T5.setTop (mkF m 9 #[.val (.ref a1), .val (.int p1), .unset] [(.int (1 : Int32)), (.int (Int32.ofNat gN)), (.ref en)])) _
    refine XS.isub X5.here hx rfl (hb hby d7_9) rfl ?_
    exact kt)
  rw [(own_dec hn.1)] at K7
  obtain ⟨clq8, Arq8, ckq8, cSq8, cNq8, cHq8, cGq8⟩ := id pr3
  have K9 : Gx p e below s₁ f0 T5 (mkF m 13 #[.val (.ref a1), .val (.int p1), .val (.int (Int32.ofNat gE))] [(.ref a1)]) := fun t kt => K7 t (by
    show Steps p.tables e below (T5.setTop (mkF m 10 #[.val (.ref a1), .val (.int p1), .unset] [(.int (Int32.ofNat (gN - 1))), (.ref en)])) _
    refine X5.iaload hx (j := (Int32.ofNat (gN - 1))) (v := (.int (Int32.ofNat gE))) (by rw [e5]; exact Arq8.1) (State.isArrayOf_alike hZ.alike Arq8.2.1) Arq8.2.2 (inb_of cSq8 (own_in16 (show gN - 1 < 16 by omega))) (Has.at cHq8 (inb_of cSq8 (own_in16 (show gN - 1 < 16 by omega))) (by rw [own_cl (by omega)]; exact he)) (g := (mkF m 10 #[.val (.ref a1), .val (.int p1), .unset] [(.int (Int32.ofNat (gN - 1))), (.ref en)])) rfl rfl (hb hby d7_10) _ ?_
    show Steps p.tables e below (T5.setTop (mkF m 11 #[.val (.ref a1), .val (.int p1), .unset] [(.int (Int32.ofNat gE))])) _
    refine XS.istoreN X5.here hx rfl (hb hby d7_11) rfl (l' := #[.val (.ref a1), .val (.int p1), .val (.int (Int32.ofNat gE))]) rfl ?_
    show Steps p.tables e below (T5.setTop (mkF m 12 #[.val (.ref a1), .val (.int p1), .val (.int (Int32.ofNat gE))] [])) _
    refine XS.aloadN X5.here hx rfl (hb hby d7_12) rfl rfl ?_
    exact kt)
  obtain ⟨T10, X10, e10, st10⟩ := getF X5 hx hZ hown (host := "") (Or.inl (hw _ (List.mem_of_getElem? (i := 24) rfl))) Via.refl e5 pr1 (g := (mkF m 13 #[.val (.ref a1), .val (.int p1), .val (.int (Int32.ofNat gE))] [(.ref a1)])) rfl rfl (hb hby d7_13)
  have K11 : Gx p e below s₁ f0 T10 (mkF m 16 #[.val (.ref a1), .val (.int p1), .val (.int (Int32.ofNat gE))] [(.ref tx)]) := fun t kt => K9 t (st10 t kt)
  obtain ⟨clq12, Arq12, ckq12, cSq12, cNq12, cHq12, cGq12⟩ := id pr4
  have K13 : Gx p e below s₁ f0 T10 (mkF m 48 #[.val (.ref a1), .val (.int p1), .val (.int (Int32.ofNat gE))] [(.int (Int32.ofNat gE))]) := fun t kt => K11 t (by
    show Steps p.tables e below (T10.setTop (mkF m 16 #[.val (.ref a1), .val (.int p1), .val (.int (Int32.ofNat gE))] [(.ref tx)])) _
    refine X10.arraylength hx (by rw [e10]; exact Arq12.1) (State.isArrayOf_alike hZ.alike Arq12.2.1) (g := (mkF m 16 #[.val (.ref a1), .val (.int p1), .val (.int (Int32.ofNat gE))] [(.ref tx)])) rfl rfl (hb hby d7_16) _ ?_
    rw [len_of cSq12 cNq12]
    show Steps p.tables e below (T10.setTop (mkF m 17 #[.val (.ref a1), .val (.int p1), .val (.int (Int32.ofNat gE))] [(.int (1024 : Int32))])) _
    refine XS.iloadN X10.here hx rfl (hb hby d7_17) rfl ?_
    show Steps p.tables e below (T10.setTop (mkF m 18 #[.val (.ref a1), .val (.int p1), .val (.int (Int32.ofNat gE))] [(.int (Int32.ofNat gE)), (.int (1024 : Int32))])) _
    refine XS.isub X10.here hx rfl (hb hby d7_18) rfl ?_
    show Steps p.tables e below (T10.setTop (mkF m 19 #[.val (.ref a1), .val (.int p1), .val (.int (Int32.ofNat gE))] [(.int ((1024 : Int32) - (Int32.ofNat gE)))])) _
    refine XS.iloadN X10.here hx rfl (hb hby d7_19) rfl ?_
    show Steps p.tables e below (T10.setTop (mkF m 20 #[.val (.ref a1), .val (.int p1), .val (.int (Int32.ofNat gE))] [(.int p1), (.int ((1024 : Int32) - (Int32.ofNat gE)))])) _
    refine XS.icmpYes X10.here hx rfl (pc0 := 20) (pc' := 47) rfl (hb hby d7_20) rfl (flt hb_).2.1 (by decide) (by decide) ?_
    show Steps p.tables e below (T10.setTop (mkF m 47 #[.val (.ref a1), .val (.int p1), .val (.int (Int32.ofNat gE))] [])) _
    refine XS.iloadN X10.here hx rfl (hb hby d7_47) rfl ?_
    exact kt)
  obtain ⟨fs14, hr14, hrun14, hended14, hW14, hsame14⟩ := X10.leave (v := some (.int (Int32.ofNat gE))) (fun h => by rw [Bd.returns] at h; cases h)
  refine ⟨_, _, pre0 _ (K13 _ ?_), hrun14, hended14, _, _, rfl, ?_, ⟨_, rfl⟩, hW14, hsame14.mono (by decide) (by decide)⟩
  · exact retI X10 hx Bd.returns (hb hby d7_48) hr14
  · show QRes Z a1 p1 en tx kC kD ve vt gN gE h0 n0 _ T10.heap _
    rw [e10]
    exact ⟨rfl, N0, rfl⟩
theorem d6_0 : decode prog_23_method_14_code 0 = .ok (.aload_n 0, 1) := by decide +kernel
theorem d6_1 : decode prog_23_method_14_code 1 = .ok (.getfield 31, 3) := by decide +kernel
theorem d6_4 : decode prog_23_method_14_code 4 = .ok (.aload_n 0, 1) := by decide +kernel
theorem d6_5 : decode prog_23_method_14_code 5 = .ok (.getfield 11, 3) := by decide +kernel
theorem d6_8 : decode prog_23_method_14_code 8 = .ok (.arraylength, 1) := by decide +kernel
theorem d6_9 : decode prog_23_method_14_code 9 = .ok (.if_icmp .ne 57, 3) := by decide +kernel
theorem d6_66 : decode prog_23_method_14_code 66 = .ok (.aload_n 0, 1) := by decide +kernel
theorem d6_67 : decode prog_23_method_14_code 67 = .ok (.getfield 11, 3) := by decide +kernel
theorem d6_70 : decode prog_23_method_14_code 70 = .ok (.aload_n 0, 1) := by decide +kernel
theorem d6_71 : decode prog_23_method_14_code 71 = .ok (.getfield 31, 3) := by decide +kernel
theorem d6_74 : decode prog_23_method_14_code 74 = .ok (.aload_n 1, 1) := by decide +kernel
theorem d6_75 : decode prog_23_method_14_code 75 = .ok (.aastore, 1) := by decide +kernel
theorem d6_76 : decode prog_23_method_14_code 76 = .ok (.aload_n 0, 1) := by decide +kernel
theorem d6_77 : decode prog_23_method_14_code 77 = .ok (.getfield 15, 3) := by decide +kernel
theorem d6_80 : decode prog_23_method_14_code 80 = .ok (.aload_n 0, 1) := by decide +kernel
theorem d6_81 : decode prog_23_method_14_code 81 = .ok (.getfield 31, 3) := by decide +kernel
theorem d6_84 : decode prog_23_method_14_code 84 = .ok (.lload_n 2, 1) := by decide +kernel
theorem d6_85 : decode prog_23_method_14_code 85 = .ok (.lastore, 1) := by decide +kernel
theorem d6_86 : decode prog_23_method_14_code 86 = .ok (.aload_n 0, 1) := by decide +kernel
theorem d6_87 : decode prog_23_method_14_code 87 = .ok (.getfield 19, 3) := by decide +kernel
theorem d6_90 : decode prog_23_method_14_code 90 = .ok (.aload_n 0, 1) := by decide +kernel
theorem d6_91 : decode prog_23_method_14_code 91 = .ok (.getfield 31, 3) := by decide +kernel
theorem d6_94 : decode prog_23_method_14_code 94 = .ok (.aload_n 0, 1) := by decide +kernel
theorem d6_95 : decode prog_23_method_14_code 95 = .ok (.getfield 31, 3) := by decide +kernel
theorem d6_98 : decode prog_23_method_14_code 98 = .ok (.ifCond .ne 7, 3) := by decide +kernel
theorem d6_101 : decode prog_23_method_14_code 101 = .ok (.iconst 0, 1) := by decide +kernel
theorem d6_102 : decode prog_23_method_14_code 102 = .ok (.goto 14, 3) := by decide +kernel
theorem d6_105 : decode prog_23_method_14_code 105 = .ok (.aload_n 0, 1) := by decide +kernel
theorem d6_106 : decode prog_23_method_14_code 106 = .ok (.getfield 19, 3) := by decide +kernel
theorem d6_109 : decode prog_23_method_14_code 109 = .ok (.aload_n 0, 1) := by decide +kernel
theorem d6_110 : decode prog_23_method_14_code 110 = .ok (.getfield 31, 3) := by decide +kernel
theorem d6_113 : decode prog_23_method_14_code 113 = .ok (.iconst 1, 1) := by decide +kernel
theorem d6_114 : decode prog_23_method_14_code 114 = .ok (.isub, 1) := by decide +kernel
theorem d6_115 : decode prog_23_method_14_code 115 = .ok (.iaload, 1) := by decide +kernel
theorem d6_116 : decode prog_23_method_14_code 116 = .ok (.iastore, 1) := by decide +kernel
theorem d6_117 : decode prog_23_method_14_code 117 = .ok (.aload_n 0, 1) := by decide +kernel
theorem d6_118 : decode prog_23_method_14_code 118 = .ok (.dup, 1) := by decide +kernel
theorem d6_119 : decode prog_23_method_14_code 119 = .ok (.getfield 31, 3) := by decide +kernel
theorem d6_122 : decode prog_23_method_14_code 122 = .ok (.iconst 1, 1) := by decide +kernel
theorem d6_123 : decode prog_23_method_14_code 123 = .ok (.iadd, 1) := by decide +kernel
theorem d6_124 : decode prog_23_method_14_code 124 = .ok (.putfield 31, 3) := by decide +kernel
theorem d6_127 : decode prog_23_method_14_code 127 = .ok (.aload_n 0, 1) := by decide +kernel
theorem d6_128 : decode prog_23_method_14_code 128 = .ok (.iload 6, 2) := by decide +kernel
theorem d6_130 : decode prog_23_method_14_code 130 = .ok (.iload 5, 2) := by decide +kernel
theorem d6_132 : decode prog_23_method_14_code 132 = .ok (.isub, 1) := by decide +kernel
theorem d6_133 : decode prog_23_method_14_code 133 = .ok (.invokevirtual 137, 3) := by decide +kernel
theorem d6_136 : decode prog_23_method_14_code 136 = .ok (.istore 7, 2) := by decide +kernel
theorem d6_138 : decode prog_23_method_14_code 138 = .ok (.aload 4, 2) := by decide +kernel
theorem d6_140 : decode prog_23_method_14_code 140 = .ok (.iload 5, 2) := by decide +kernel
theorem d6_142 : decode prog_23_method_14_code 142 = .ok (.aload_n 0, 1) := by decide +kernel
theorem d6_143 : decode prog_23_method_14_code 143 = .ok (.getfield 23, 3) := by decide +kernel
theorem d6_146 : decode prog_23_method_14_code 146 = .ok (.iload 7, 2) := by decide +kernel
theorem d6_148 : decode prog_23_method_14_code 148 = .ok (.iload 6, 2) := by decide +kernel
theorem d6_150 : decode prog_23_method_14_code 150 = .ok (.iload 5, 2) := by decide +kernel
theorem d6_152 : decode prog_23_method_14_code 152 = .ok (.isub, 1) := by decide +kernel
theorem d6_153 : decode prog_23_method_14_code 153 = .ok (.invokestatic 140, 3) := by decide +kernel
theorem d6_156 : decode prog_23_method_14_code 156 = .ok (.aload_n 0, 1) := by decide +kernel
theorem d6_157 : decode prog_23_method_14_code 157 = .ok (.getfield 19, 3) := by decide +kernel
theorem d6_160 : decode prog_23_method_14_code 160 = .ok (.aload_n 0, 1) := by decide +kernel
theorem d6_161 : decode prog_23_method_14_code 161 = .ok (.getfield 31, 3) := by decide +kernel
theorem d6_164 : decode prog_23_method_14_code 164 = .ok (.iconst 1, 1) := by decide +kernel
theorem d6_165 : decode prog_23_method_14_code 165 = .ok (.isub, 1) := by decide +kernel
theorem d6_166 : decode prog_23_method_14_code 166 = .ok (.iload 7, 2) := by decide +kernel
theorem d6_168 : decode prog_23_method_14_code 168 = .ok (.iload 6, 2) := by decide +kernel
theorem d6_170 : decode prog_23_method_14_code 170 = .ok (.iadd, 1) := by decide +kernel
theorem d6_171 : decode prog_23_method_14_code 171 = .ok (.iload 5, 2) := by decide +kernel
theorem d6_173 : decode prog_23_method_14_code 173 = .ok (.isub, 1) := by decide +kernel
theorem d6_174 : decode prog_23_method_14_code 174 = .ok (.iastore, 1) := by decide +kernel
theorem d6_175 : decode prog_23_method_14_code 175 = .ok (.return_, 1) := by decide +kernel
theorem pn_6 : plainName "com/example/fourfold/fourfold/Record" = true := by first | (simp [plainName, overriddenIn]; done) | decide +kernel
theorem pd__I_I : parseMethodDescriptor "(I)I" = some ⟨[.int], some .int⟩ := by decide +kernel
theorem ef_Ste (m : MethodId) (a1 : Addr) (jl : Int64) (a2 : Addr) (p1 : Int32) (p2 : Int32) : entryFrame m #[(.ref a1), .null, (.long jl), (.ref a2), (.int p1), (.int p2)] 8 = mkF m 0 #[.val (.ref a1), .val .null, .val (.long jl), .second, .val (.ref a2), .val (.int p1), .val (.int p2), .unset] [] := by first | (simp [entryFrame, mkF, argsToLocals, Value.category]; done) | rfl
def QSte (Z : State) (a1 : Addr) (jl : Int64) (a2 : Addr) (p1 : Int32) (p2 : Int32) (la : Addr) (li : Addr) (en : Addr) (tx : Addr) (kA : ClassId) (kB : ClassId) (kC : ClassId) (kD : ClassId) (vl : List Value) (vli : List Value) (ve : List Value) (vt : List Value) (kb : ClassId) (vb : List Value) (gF : Nat) (gT : Nat) (gN : Nat) (gE : Nat) (h0 : Heap) (n0 : Nat) (v : Option Value) (h : Heap) (L : List Loc) : Prop := ∃ vl2 : List Value, ∃ vli2 : List Value, ∃ ve2 : List Value, ∃ vt2 : List Value, v = none ∧ Fr n0 L ∧ Keep h0 h [a1, la, li, en, tx] ∧ Exa Z h a1 "com/example/fourfold/fourfold/Record" ∧ Fld Z h a1 "com/example/fourfold/fourfold/Record" "labels" "[Lcom/example/fourfold/fourfold/Label;" (.ref la) ∧ Fld Z h a1 "com/example/fourfold/fourfold/Record" "lines" "[J" (.ref li) ∧ Fld Z h a1 "com/example/fourfold/fourfold/Record" "ends" "[I" (.ref en) ∧ Fld Z h a1 "com/example/fourfold/fourfold/Record" "text" "[B" (.ref tx) ∧ Fld Z h a1 "com/example/fourfold/fourfold/Record" "size" "I" (.int (Int32.ofNat (gN + 1))) ∧ Arv Z h la kA (.object "com/example/fourfold/fourfold/Label") (16 : Int32) vl2 .null ∧ Arv Z h li kB .long (16 : Int32) vli2 (.long (0 : Int64)) ∧ Arv Z h en kC .int (16 : Int32) ve2 (.int (0 : Int32)) ∧ Arv Z h tx kD .byte (1024 : Int32) vt2 (.int (0 : Int32)) ∧ (vl2.length = 16) ∧ (vli2.length = 16) ∧ (ve2.length = 16) ∧ (vt2.length = 1024) ∧ (ve2.getD gN (.int (0 : Int32)) = .int (Int32.ofNat (gE + gT - gF)))
set_option maxRecDepth 65536 in
set_option maxHeartbeats 40000000 in
theorem rmSte (l : Launch) (Z : State) (a0 : Array Value) (hw : ∀ d ∈ tables_1, d.before a0 Z = true) (ws : List Jvm.Cond) (a1 : Addr) (jl : Int64) (a2 : Addr) (p1 : Int32) (p2 : Int32) (la : Addr) (li : Addr) (en : Addr) (tx : Addr) (kA : ClassId) (kB : ClassId) (kC : ClassId) (kD : ClassId) (vl : List Value) (vli : List Value) (ve : List Value) (vt : List Value) (kb : ClassId) (vb : List Value) (gF : Nat) (gT : Nat) (gN : Nat) (gE : Nat) (h0 : Heap) (n0 : Nat) (Z0 : n0 ≤ h0.size) (pr0 : Exa Z h0 a1 "com/example/fourfold/fourfold/Record") (pr1 : Fld Z h0 a1 "com/example/fourfold/fourfold/Record" "labels" "[Lcom/example/fourfold/fourfold/Label;" (.ref la)) (pr2 : Fld Z h0 a1 "com/example/fourfold/fourfold/Record" "lines" "[J" (.ref li)) (pr3 : Fld Z h0 a1 "com/example/fourfold/fourfold/Record" "ends" "[I" (.ref en)) (pr4 : Fld Z h0 a1 "com/example/fourfold/fourfold/Record" "text" "[B" (.ref tx)) (pr5 : Fld Z h0 a1 "com/example/fourfold/fourfold/Record" "size" "I" (.int (Int32.ofNat gN))) (pr6 : Arv Z h0 la kA (.object "com/example/fourfold/fourfold/Label") (16 : Int32) vl .null) (pr7 : Arv Z h0 li kB .long (16 : Int32) vli (.long (0 : Int64))) (pr8 : Arv Z h0 en kC .int (16 : Int32) ve (.int (0 : Int32))) (pr9 : Arv Z h0 tx kD .byte (1024 : Int32) vt (.int (0 : Int32))) (pr10 : Arv Z h0 a2 kb .byte (4 : Int32) vb (.int (0 : Int32))) (pr11 : n0 ≤ a1) (pr12 : n0 ≤ la) (pr13 : n0 ≤ li) (pr14 : n0 ≤ en) (pr15 : n0 ≤ tx) (pr16 : a1 ≠ la) (pr17 : a1 ≠ li) (pr18 : a1 ≠ en) (pr19 : a1 ≠ tx) (pr20 : la ≠ li) (pr21 : la ≠ en) (pr22 : la ≠ tx) (pr23 : li ≠ en) (pr24 : li ≠ tx) (pr25 : en ≠ tx) (pr26 : a2 ≠ tx) (pr27 : a2 ≠ a1) (pr28 : a2 ≠ la) (pr29 : a2 ≠ li) (pr30 : a2 ≠ en) (hl1 : vl.length = 16) (hl2 : vli.length = 16) (hl3 : ve.length = 16) (hl4 : vt.length = 1024) (hft : gF ≤ gT ∧ gT ≤ 4) (hp1 : p1 = Int32.ofNat gF) (hp2 : p2 = Int32.ofNat gT) (hn : gN ≤ 4 ∧ gE ≤ 100) (he : (gN = 0 ∧ gE = 0) ∨ (0 < gN ∧ ve.getD (gN - 1) (.int (0 : Int32)) = .int (Int32.ofNat gE))) :
    MetFree l (⟨"com/example/fourfold/fourfold/Record", "startElement", "(Lcom/example/fourfold/fourfold/Label;J[BII)V"⟩ : MethodName) (head1 (Jvm.Cond.code (⟨"com/example/fourfold/fourfold/Record", "startElement", "(Lcom/example/fourfold/fourfold/Label;J[BII)V"⟩ : MethodName) prog_23_method_14_code 8 none :: ws) ({ frames := 1, cells := 0, slots := 0, locals := 18 } : Room)) (fun a U => a = #[(.ref a1), .null, (.long jl), (.ref a2), (.int p1), (.int p2)] ∧ Z.Warmed39 U.vm ∧ U.heap = h0) (fun _ _ _ _ _ => True) (fun _ U o U' => ∃ v L, o = .returned v ∧ QSte Z a1 jl a2 p1 p2 la li en tx kA kB kC kD vl vli ve vt kb vb gF gT gN gE h0 n0 v U'.heap L ∧ FrameEnd U o U' L ({ frames := 1, cells := 0, slots := 0, locals := 18 } : Room).cells ({ frames := 1, cells := 0, slots := 0, locals := 18 } : Room).slots) := by
  refine MetFree.of_bodySF (plainFor_of_name pn_6) hisR ?_
  intro p e s m args below meth c s₁ Bd hml0 hP hK
  obtain ⟨rfl, hZ, hh⟩ := hP
  have hx := Bd.exec
  have hby := Bd.bytes
  have hml : c.maxLocals = 8 := hml0
  have hown : s.vm.findClass "com/example/fourfold/fourfold/Record" = some m.cls := findClass_of_methodNamed Bd.named
  have hnm := (name_of_methodNamed Bd.named Bd.method).1
  have X0 : Stand p l e ({ frames := 1, cells := 0, slots := 0, locals := 18 } : Room) s m #[(.ref a1), .null, (.long jl), (.ref a2), (.int p1), (.int p2)] below meth c s₁ [] 0 0 := Stand.of_body Bd
  have hs0 : h0 = s.heap := hh.symm
  have e0 : s₁.heap = h0 := by rw [← hh, Bd.state]; rfl
  have N0 := Fr.nil n0
  obtain ⟨f0, hf0⟩ : ∃ f, f = entryFrame m #[(.ref a1), .null, (.long jl), (.ref a2), (.int p1), (.int p2)] 8 := ⟨_, rfl⟩
  have pre0 : ∀ t, Steps p.tables e below (s₁.setTop f0) t → Steps p.tables e below (s₁.setTop (entryFrame m #[(.ref a1), .null, (.long jl), (.ref a2), (.int p1), (.int p2)] 8)) t := fun t k => hf0 ▸ k
  have K0 : Gx p e below s₁ f0 s₁ (mkF m 0 #[.val (.ref a1), .val .null, .val (.long jl), .second, .val (.ref a2), .val (.int p1), .val (.int p2), .unset] []) := fun t kt => by rw [hf0]; exact castTop (ef_Ste m a1 jl a2 p1 p2) kt
  rw [hp1] at K0
  rw [hp2] at K0
  have K1 : Gx p e below s₁ f0 s₁ (mkF m 1 #[.val (.ref a1), .val .null, .val (.long jl), .second, .val (.ref a2), .val (.int (Int32.ofNat gF)), .val (.int (Int32.ofNat gT)), .unset] [(.ref a1)]) := fun t kt => K0 t (by
    show Steps p.tables e below (s₁.setTop (mkF m 0 #[.val (.ref a1), .val .null, .val (.long jl), .second, .val (.ref a2), .val (.int (Int32.ofNat gF)), .val (.int (Int32.ofNat gT)), .unset] [])) _
    refine XS.aloadN X0.here hx rfl (hb hby d6_0) rfl rfl ?_
    exact kt)
  obtain ⟨T2, X2, e2, st2⟩ := getF X0 hx hZ hown (host := "") (Or.inl (hw _ (List.mem_of_getElem? (i := 31) rfl))) Via.refl e0 pr5 (g := (mkF m 1 #[.val (.ref a1), .val .null, .val (.long jl), .second, .val (.ref a2), .val (.int (Int32.ofNat gF)), .val (.int (Int32.ofNat gT)), .unset] [(.ref a1)])) rfl rfl (hb hby d6_1)
  have K3 : Gx p e below s₁ f0 T2 (mkF m 4 #[.val (.ref a1), .val .null, .val (.long jl), .second, .val (.ref a2), .val (.int (Int32.ofNat gF)), .val (.int (Int32.ofNat gT)), .unset] [(.int (Int32.ofNat gN))]) := fun t kt => K1 t (st2 t kt)
  have K4 : Gx p e below s₁ f0 T2 (mkF m 5 #[.val (.ref a1), .val .null, .val (.long jl), .second, .val (.ref a2), .val (.int (Int32.ofNat gF)), .val (.int (Int32.ofNat gT)), .unset] [(.ref a1), (.int (Int32.ofNat gN))]) := fun t kt => K3 t (by
    show Steps p.tables e below (T2.setTop (mkF m 4 #[.val (.ref a1), .val .null, .val (.long jl), .second, .val (.ref a2), .val (.int (Int32.ofNat gF)), .val (.int (Int32.ofNat gT)), .unset] [(.int (Int32.ofNat gN))])) _
    refine XS.aloadN X2.here hx rfl (hb hby d6_4) rfl rfl ?_
    exact kt)
  obtain ⟨T5, X5, e5, st5⟩ := getF X2 hx hZ hown (host := "") (Or.inl (hw _ (List.mem_of_getElem? (i := 16) rfl))) Via.refl e2 pr1 (g := (mkF m 5 #[.val (.ref a1), .val .null, .val (.long jl), .second, .val (.ref a2), .val (.int (Int32.ofNat gF)), .val (.int (Int32.ofNat gT)), .unset] [(.ref a1), (.int (Int32.ofNat gN))])) rfl rfl (hb hby d6_5)
  have K6 : Gx p e below s₁ f0 T5 (mkF m 8 #[.val (.ref a1), .val .null, .val (.long jl), .second, .val (.ref a2), .val (.int (Int32.ofNat gF)), .val (.int (Int32.ofNat gT)), .unset] [(.ref la), (.int (Int32.ofNat gN))]) := fun t kt => K4 t (st5 t kt)
  obtain ⟨clq7, Arq7, ckq7, cSq7, cNq7, cHq7, cGq7⟩ := id pr6
  have K8 : Gx p e below s₁ f0 T5 (mkF m 67 #[.val (.ref a1), .val .null, .val (.long jl), .second, .val (.ref a2), .val (.int (Int32.ofNat gF)), .val (.int (Int32.ofNat gT)), .unset] [(.ref a1)]) := fun t kt => K6 t (by
    show Steps p.tables e below (T5.setTop (mkF m 8 #[.val (.ref a1), .val .null, .val (.long jl), .second, .val (.ref a2), .val (.int (Int32.ofNat gF)), .val (.int (Int32.ofNat gT)), .unset] [(.ref la), (.int (Int32.ofNat gN))])) _
    refine X5.arraylength hx (by rw [e5]; exact Arq7.1) (State.isArrayOf_alike hZ.alike Arq7.2.1) (g := (mkF m 8 #[.val (.ref a1), .val .null, .val (.long jl), .second, .val (.ref a2), .val (.int (Int32.ofNat gF)), .val (.int (Int32.ofNat gT)), .unset] [(.ref la), (.int (Int32.ofNat gN))])) rfl rfl (hb hby d6_8) _ ?_
    rw [len_of cSq7 cNq7]
    show Steps p.tables e below (T5.setTop (mkF m 9 #[.val (.ref a1), .val .null, .val (.long jl), .second, .val (.ref a2), .val (.int (Int32.ofNat gF)), .val (.int (Int32.ofNat gT)), .unset] [(.int (16 : Int32)), (.int (Int32.ofNat gN))])) _
    refine XS.icmpYes X5.here hx rfl (pc0 := 9) (pc' := 66) rfl (hb hby d6_9) rfl (feq (own_n16 (by omega))).2 (by decide) (by decide) ?_
    show Steps p.tables e below (T5.setTop (mkF m 66 #[.val (.ref a1), .val .null, .val (.long jl), .second, .val (.ref a2), .val (.int (Int32.ofNat gF)), .val (.int (Int32.ofNat gT)), .unset] [])) _
    refine XS.aloadN X5.here hx rfl (hb hby d6_66) rfl rfl ?_
    exact kt)
  obtain ⟨T9, X9, e9, st9⟩ := getF X5 hx hZ hown (host := "") (Or.inl (hw _ (List.mem_of_getElem? (i := 16) rfl))) Via.refl e5 pr1 (g := (mkF m 67 #[.val (.ref a1), .val .null, .val (.long jl), .second, .val (.ref a2), .val (.int (Int32.ofNat gF)), .val (.int (Int32.ofNat gT)), .unset] [(.ref a1)])) rfl rfl (hb hby d6_67)
  have K10 : Gx p e below s₁ f0 T9 (mkF m 70 #[.val (.ref a1), .val .null, .val (.long jl), .second, .val (.ref a2), .val (.int (Int32.ofNat gF)), .val (.int (Int32.ofNat gT)), .unset] [(.ref la)]) := fun t kt => K8 t (st9 t kt)
  have K11 : Gx p e below s₁ f0 T9 (mkF m 71 #[.val (.ref a1), .val .null, .val (.long jl), .second, .val (.ref a2), .val (.int (Int32.ofNat gF)), .val (.int (Int32.ofNat gT)), .unset] [(.ref a1), (.ref la)]) := fun t kt => K10 t (by
    show Steps p.tables e below (T9.setTop (mkF m 70 #[.val (.ref a1), .val .null, .val (.long jl), .second, .val (.ref a2), .val (.int (Int32.ofNat gF)), .val (.int (Int32.ofNat gT)), .unset] [(.ref la)])) _
    refine XS.aloadN X9.here hx rfl (hb hby d6_70) rfl rfl ?_
    exact kt)
  obtain ⟨T12, X12, e12, st12⟩ := getF X9 hx hZ hown (host := "") (Or.inl (hw _ (List.mem_of_getElem? (i := 31) rfl))) Via.refl e9 pr5 (g := (mkF m 71 #[.val (.ref a1), .val .null, .val (.long jl), .second, .val (.ref a2), .val (.int (Int32.ofNat gF)), .val (.int (Int32.ofNat gT)), .unset] [(.ref a1), (.ref la)])) rfl rfl (hb hby d6_71)
  have K13 : Gx p e below s₁ f0 T12 (mkF m 74 #[.val (.ref a1), .val .null, .val (.long jl), .second, .val (.ref a2), .val (.int (Int32.ofNat gF)), .val (.int (Int32.ofNat gT)), .unset] [(.int (Int32.ofNat gN)), (.ref la)]) := fun t kt => K11 t (st12 t kt)
  have K14 : Gx p e below s₁ f0 T12 (mkF m 75 #[.val (.ref a1), .val .null, .val (.long jl), .second, .val (.ref a2), .val (.int (Int32.ofNat gF)), .val (.int (Int32.ofNat gT)), .unset] [.null, (.int (Int32.ofNat gN)), (.ref la)]) := fun t kt => K13 t (by
    show Steps p.tables e below (T12.setTop (mkF m 74 #[.val (.ref a1), .val .null, .val (.long jl), .second, .val (.ref a2), .val (.int (Int32.ofNat gF)), .val (.int (Int32.ofNat gT)), .unset] [(.int (Int32.ofNat gN)), (.ref la)])) _
    refine XS.aloadN X12.here hx rfl (hb hby d6_74) rfl rfl ?_
    exact kt)
  obtain ⟨T15, h15, X15', e15, W15, st15⟩ := stR X12 hx hZ e12 Arq7 (j := (Int32.ofNat gN)) (inb_of cSq7 (own_in16 (show gN < 16 by omega))) rfl (Or.inl rfl) (g := (mkF m 75 #[.val (.ref a1), .val .null, .val (.long jl), .second, .val (.ref a2), .val (.int (Int32.ofNat gF)), .val (.int (Int32.ofNat gT)), .unset] [.null, (.int (Int32.ofNat gN)), (.ref la)])) rfl rfl (hb hby d6_75)
  obtain ⟨lc15, X15, N15⟩ : ∃ lc, Stand p l e ({ frames := 1, cells := 0, slots := 0, locals := 18 } : Room) s m #[(.ref a1), .null, (.long jl), (.ref a2), (.int p1), (.int p2)] below meth c T15 lc 0 0 ∧ Fr n0 lc := ⟨_, X15', Fr.snoc X15' N0 pr12⟩
  have V15 : Arv Z h15 la kA (.object "com/example/fourfold/fourfold/Label") (16 : Int32) (vl.set gN .null) .null := Arv.set Arq7 ckq7 cSq7 cNq7 cHq7 cGq7 rfl W15 gN (own_cl (by omega)) (by first | omega | (rw [List.length_set]; omega))
  have K16 : Gx p e below s₁ f0 T15 (mkF m 76 #[.val (.ref a1), .val .null, .val (.long jl), .second, .val (.ref a2), .val (.int (Int32.ofNat gF)), .val (.int (Int32.ofNat gT)), .unset] []) := fun t kt => K14 t (st15 t kt)
  have K17 : Gx p e below s₁ f0 T15 (mkF m 77 #[.val (.ref a1), .val .null, .val (.long jl), .second, .val (.ref a2), .val (.int (Int32.ofNat gF)), .val (.int (Int32.ofNat gT)), .unset] [(.ref a1)]) := fun t kt => K16 t (by
    show Steps p.tables e below (T15.setTop (mkF m 76 #[.val (.ref a1), .val .null, .val (.long jl), .second, .val (.ref a2), .val (.int (Int32.ofNat gF)), .val (.int (Int32.ofNat gT)), .unset] [])) _
    refine XS.aloadN X15.here hx rfl (hb hby d6_76) rfl rfl ?_
    exact kt)
  have f18 : Fld Z h15 a1 "com/example/fourfold/fourfold/Record" "lines" "[J" (.ref li) := (pr2.other W15 (Or.inl pr16))
  obtain ⟨T19, X19, e19, st19⟩ := getF X15 hx hZ hown (host := "") (Or.inl (hw _ (List.mem_of_getElem? (i := 19) rfl))) Via.refl e15 f18 (g := (mkF m 77 #[.val (.ref a1), .val .null, .val (.long jl), .second, .val (.ref a2), .val (.int (Int32.ofNat gF)), .val (.int (Int32.ofNat gT)), .unset] [(.ref a1)])) rfl rfl (hb hby d6_77)
  have K20 : Gx p e below s₁ f0 T19 (mkF m 80 #[.val (.ref a1), .val .null, .val (.long jl), .second, .val (.ref a2), .val (.int (Int32.ofNat gF)), .val (.int (Int32.ofNat gT)), .unset] [(.ref li)]) := fun t kt => K17 t (st19 t kt)
  have K21 : Gx p e below s₁ f0 T19 (mkF m 81 #[.val (.ref a1), .val .null, .val (.long jl), .second, .val (.ref a2), .val (.int (Int32.ofNat gF)), .val (.int (Int32.ofNat gT)), .unset] [(.ref a1), (.ref li)]) := fun t kt => K20 t (by
    show Steps p.tables e below (T19.setTop (mkF m 80 #[.val (.ref a1), .val .null, .val (.long jl), .second, .val (.ref a2), .val (.int (Int32.ofNat gF)), .val (.int (Int32.ofNat gT)), .unset] [(.ref li)])) _
    refine XS.aloadN X19.here hx rfl (hb hby d6_80) rfl rfl ?_
    exact kt)
  have f22 : Fld Z h15 a1 "com/example/fourfold/fourfold/Record" "size" "I" (.int (Int32.ofNat gN)) := (pr5.other W15 (Or.inl pr16))
  obtain ⟨T23, X23, e23, st23⟩ := getF X19 hx hZ hown (host := "") (Or.inl (hw _ (List.mem_of_getElem? (i := 31) rfl))) Via.refl e19 f22 (g := (mkF m 81 #[.val (.ref a1), .val .null, .val (.long jl), .second, .val (.ref a2), .val (.int (Int32.ofNat gF)), .val (.int (Int32.ofNat gT)), .unset] [(.ref a1), (.ref li)])) rfl rfl (hb hby d6_81)
  have K24 : Gx p e below s₁ f0 T23 (mkF m 84 #[.val (.ref a1), .val .null, .val (.long jl), .second, .val (.ref a2), .val (.int (Int32.ofNat gF)), .val (.int (Int32.ofNat gT)), .unset] [(.int (Int32.ofNat gN)), (.ref li)]) := fun t kt => K21 t (st23 t kt)
  have K25 : Gx p e below s₁ f0 T23 (mkF m 85 #[.val (.ref a1), .val .null, .val (.long jl), .second, .val (.ref a2), .val (.int (Int32.ofNat gF)), .val (.int (Int32.ofNat gT)), .unset] [(.long jl), (.int (Int32.ofNat gN)), (.ref li)]) := fun t kt => K24 t (by
    show Steps p.tables e below (T23.setTop (mkF m 84 #[.val (.ref a1), .val .null, .val (.long jl), .second, .val (.ref a2), .val (.int (Int32.ofNat gF)), .val (.int (Int32.ofNat gT)), .unset] [(.int (Int32.ofNat gN)), (.ref li)])) _
    refine XS.lloadN X23.here hx rfl (hb hby d6_84) rfl ?_
    exact kt)
  have f26 : Arv Z h15 li kB .long (16 : Int32) vli (.long (0 : Int64)) := (pr7.other W15 (Ne.symm pr20))
  obtain ⟨clq27, Arq27, ckq27, cSq27, cNq27, cHq27, cGq27⟩ := id f26
  obtain ⟨T28, h28, X28', e28, W28, st28⟩ := stJ X23 hx hZ e23 Arq27 (j := (Int32.ofNat gN)) (inb_of cSq27 (own_in16 (show gN < 16 by omega))) (g := (mkF m 85 #[.val (.ref a1), .val .null, .val (.long jl), .second, .val (.ref a2), .val (.int (Int32.ofNat gF)), .val (.int (Int32.ofNat gT)), .unset] [(.long jl), (.int (Int32.ofNat gN)), (.ref li)])) rfl rfl (hb hby d6_85)
  obtain ⟨lc28, X28, N28⟩ : ∃ lc, Stand p l e ({ frames := 1, cells := 0, slots := 0, locals := 18 } : Room) s m #[(.ref a1), .null, (.long jl), (.ref a2), (.int p1), (.int p2)] below meth c T28 lc 0 0 ∧ Fr n0 lc := ⟨_, X28', Fr.snoc X28' N15 pr13⟩
  have V28 : Arv Z h28 li kB .long (16 : Int32) (vli.set gN (.long jl)) (.long (0 : Int64)) := Arv.set Arq27 ckq27 cSq27 cNq27 cHq27 cGq27 rfl W28 gN (own_cl (by omega)) (by first | omega | (rw [List.length_set]; omega))
  have K29 : Gx p e below s₁ f0 T28 (mkF m 86 #[.val (.ref a1), .val .null, .val (.long jl), .second, .val (.ref a2), .val (.int (Int32.ofNat gF)), .val (.int (Int32.ofNat gT)), .unset] []) := fun t kt => K25 t (st28 t kt)
  have K30 : Gx p e below s₁ f0 T28 (mkF m 87 #[.val (.ref a1), .val .null, .val (.long jl), .second, .val (.ref a2), .val (.int (Int32.ofNat gF)), .val (.int (Int32.ofNat gT)), .unset] [(.ref a1)]) := fun t kt => K29 t (by
    show Steps p.tables e below (T28.setTop (mkF m 86 #[.val (.ref a1), .val .null, .val (.long jl), .second, .val (.ref a2), .val (.int (Int32.ofNat gF)), .val (.int (Int32.ofNat gT)), .unset] [])) _
    refine XS.aloadN X28.here hx rfl (hb hby d6_86) rfl rfl ?_
    exact kt)
  have f31 : Fld Z h28 a1 "com/example/fourfold/fourfold/Record" "ends" "[I" (.ref en) := ((pr3.other W15 (Or.inl pr16)).other W28 (Or.inl pr17))
  obtain ⟨T32, X32, e32, st32⟩ := getF X28 hx hZ hown (host := "") (Or.inl (hw _ (List.mem_of_getElem? (i := 22) rfl))) Via.refl e28 f31 (g := (mkF m 87 #[.val (.ref a1), .val .null, .val (.long jl), .second, .val (.ref a2), .val (.int (Int32.ofNat gF)), .val (.int (Int32.ofNat gT)), .unset] [(.ref a1)])) rfl rfl (hb hby d6_87)
  have K33 : Gx p e below s₁ f0 T32 (mkF m 90 #[.val (.ref a1), .val .null, .val (.long jl), .second, .val (.ref a2), .val (.int (Int32.ofNat gF)), .val (.int (Int32.ofNat gT)), .unset] [(.ref en)]) := fun t kt => K30 t (st32 t kt)
  have K34 : Gx p e below s₁ f0 T32 (mkF m 91 #[.val (.ref a1), .val .null, .val (.long jl), .second, .val (.ref a2), .val (.int (Int32.ofNat gF)), .val (.int (Int32.ofNat gT)), .unset] [(.ref a1), (.ref en)]) := fun t kt => K33 t (by
    show Steps p.tables e below (T32.setTop (mkF m 90 #[.val (.ref a1), .val .null, .val (.long jl), .second, .val (.ref a2), .val (.int (Int32.ofNat gF)), .val (.int (Int32.ofNat gT)), .unset] [(.ref en)])) _
    refine XS.aloadN X32.here hx rfl (hb hby d6_90) rfl rfl ?_
    exact kt)
  have f35 : Fld Z h28 a1 "com/example/fourfold/fourfold/Record" "size" "I" (.int (Int32.ofNat gN)) := (f22.other W28 (Or.inl pr17))
  obtain ⟨T36, X36, e36, st36⟩ := getF X32 hx hZ hown (host := "") (Or.inl (hw _ (List.mem_of_getElem? (i := 31) rfl))) Via.refl e32 f35 (g := (mkF m 91 #[.val (.ref a1), .val .null, .val (.long jl), .second, .val (.ref a2), .val (.int (Int32.ofNat gF)), .val (.int (Int32.ofNat gT)), .unset] [(.ref a1), (.ref en)])) rfl rfl (hb hby d6_91)
  have K37 : Gx p e below s₁ f0 T36 (mkF m 94 #[.val (.ref a1), .val .null, .val (.long jl), .second, .val (.ref a2), .val (.int (Int32.ofNat gF)), .val (.int (Int32.ofNat gT)), .unset] [(.int (Int32.ofNat gN)), (.ref en)]) := fun t kt => K34 t (st36 t kt)
  have K38 : Gx p e below s₁ f0 T36 (mkF m 95 #[.val (.ref a1), .val .null, .val (.long jl), .second, .val (.ref a2), .val (.int (Int32.ofNat gF)), .val (.int (Int32.ofNat gT)), .unset] [(.ref a1), (.int (Int32.ofNat gN)), (.ref en)]) := fun t kt => K37 t (by
    show Steps p.tables e below (T36.setTop (mkF m 94 #[.val (.ref a1), .val .null, .val (.long jl), .second, .val (.ref a2), .val (.int (Int32.ofNat gF)), .val (.int (Int32.ofNat gT)), .unset] [(.int (Int32.ofNat gN)), (.ref en)])) _
    refine XS.aloadN X36.here hx rfl (hb hby d6_94) rfl rfl ?_
    exact kt)
  obtain ⟨T39, X39, e39, st39⟩ := getF X36 hx hZ hown (host := "") (Or.inl (hw _ (List.mem_of_getElem? (i := 31) rfl))) Via.refl e36 f35 (g := (mkF m 95 #[.val (.ref a1), .val .null, .val (.long jl), .second, .val (.ref a2), .val (.int (Int32.ofNat gF)), .val (.int (Int32.ofNat gT)), .unset] [(.ref a1), (.int (Int32.ofNat gN)), (.ref en)])) rfl rfl (hb hby d6_95)
  have K40 : Gx p e below s₁ f0 T39 (mkF m 98 #[.val (.ref a1), .val .null, .val (.long jl), .second, .val (.ref a2), .val (.int (Int32.ofNat gF)), .val (.int (Int32.ofNat gT)), .unset] [(.int (Int32.ofNat gN)), (.int (Int32.ofNat gN)), (.ref en)]) := fun t kt => K38 t (st39 t kt)
  by_cases hb41 : (Int32.ofNat gN) = (0 : Int32)
  · skip
    have hn0 : gN = 0 := own_n0 (by omega) hb41
    have he0 : gE = 0 := by omega
    have K42 : Gx p e below s₁ f0 T39 (mkF m 102 #[.val (.ref a1), .val .null, .val (.long jl), .second, .val (.ref a2), .val (.int (Int32.ofNat gF)), .val (.int (Int32.ofNat gT)), .unset] [(.int (0 : Int32)), (.int (Int32.ofNat gN)), (.ref en)]) := fun t kt => K40 t (by
      show Steps p.tables e below (T39.setTop (mkF m 98 #[.val (.ref a1), .val .null, .val (.long jl), .second, .val (.ref a2), .val (.int (Int32.ofNat gF)), .val (.int (Int32.ofNat gT)), .unset] [(.int (Int32.ofNat gN)), (.int (Int32.ofNat gN)), (.ref en)])) _
      refine XS.ifNo X39.here hx rfl (hb hby d6_98) rfl ((if0 _ _).trans (teq hb41).2) ?_
      show Steps p.tables e below (T39.setTop (mkF m 101 #[.val (.ref a1), .val .null, .val (.long jl), .second, .val (.ref a2), .val (.int (Int32.ofNat gF)), .val (.int (Int32.ofNat gT)), .unset] [(.int (Int32.ofNat gN)), (.ref en)])) _
      refine XS.iconst X39.here hx rfl (hb hby d6_101) ?_
      exact kt)
    rw [(show (0 : Int32) = Int32.ofNat gE from by rw [he0]; rfl)] at K42
    have K43 : Gx p e below s₁ f0 T39 (mkF m 116 #[.val (.ref a1), .val .null, .val (.long jl), .second, .val (.ref a2), .val (.int (Int32.ofNat gF)), .val (.int (Int32.ofNat gT)), .unset] [(.int (Int32.ofNat gE)), (.int (Int32.ofNat gN)), (.ref en)]) := fun t kt => K42 t (by
      show Steps p.tables e below (T39.setTop (mkF m 102 #[.val (.ref a1), .val .null, .val (.long jl), .second, .val (.ref a2), .val (.int (Int32.ofNat gF)), .val (.int (Int32.ofNat gT)), .unset] [(.int (Int32.ofNat gE)), (.int (Int32.ofNat gN)), (.ref en)])) _
      refine XS.goto X39.here hx rfl (pc0 := 102) (pc' := 116) rfl (hb hby d6_102) (by decide) (by decide) ?_
      exact kt)
    have f44 : Arv Z h28 en kC .int (16 : Int32) ve (.int (0 : Int32)) := ((pr8.other W15 (Ne.symm pr21)).other W28 (Ne.symm pr23))
    obtain ⟨clq45, Arq45, ckq45, cSq45, cNq45, cHq45, cGq45⟩ := id f44
    obtain ⟨T46, h46, X46', e46, W46, st46⟩ := stI X39 hx hZ e39 Arq45 (j := (Int32.ofNat gN)) (inb_of cSq45 (own_in16 (show gN < 16 by omega))) (g := (mkF m 116 #[.val (.ref a1), .val .null, .val (.long jl), .second, .val (.ref a2), .val (.int (Int32.ofNat gF)), .val (.int (Int32.ofNat gT)), .unset] [(.int (Int32.ofNat gE)), (.int (Int32.ofNat gN)), (.ref en)])) rfl rfl (hb hby d6_116)
    obtain ⟨lc46, X46, N46⟩ : ∃ lc, Stand p l e ({ frames := 1, cells := 0, slots := 0, locals := 18 } : Room) s m #[(.ref a1), .null, (.long jl), (.ref a2), (.int p1), (.int p2)] below meth c T46 lc 0 0 ∧ Fr n0 lc := ⟨_, X46', Fr.snoc X46' N28 pr14⟩
    have V46 : Arv Z h46 en kC .int (16 : Int32) (ve.set gN (.int (Int32.ofNat gE))) (.int (0 : Int32)) := Arv.set Arq45 ckq45 cSq45 cNq45 cHq45 cGq45 rfl W46 gN (own_cl (by omega)) (by first | omega | (rw [List.length_set]; omega))
    have K47 : Gx p e below s₁ f0 T46 (mkF m 117 #[.val (.ref a1), .val .null, .val (.long jl), .second, .val (.ref a2), .val (.int (Int32.ofNat gF)), .val (.int (Int32.ofNat gT)), .unset] []) := fun t kt => K43 t (st46 t kt)
    have K48 : Gx p e below s₁ f0 T46 (mkF m 119 #[.val (.ref a1), .val .null, .val (.long jl), .second, .val (.ref a2), .val (.int (Int32.ofNat gF)), .val (.int (Int32.ofNat gT)), .unset] [(.ref a1), (.ref a1)]) := fun t kt => K47 t (by
      show Steps p.tables e below (T46.setTop (mkF m 117 #[.val (.ref a1), .val .null, .val (.long jl), .second, .val (.ref a2), .val (.int (Int32.ofNat gF)), .val (.int (Int32.ofNat gT)), .unset] [])) _
      refine XS.aloadN X46.here hx rfl (hb hby d6_117) rfl rfl ?_
      show Steps p.tables e below (T46.setTop (mkF m 118 #[.val (.ref a1), .val .null, .val (.long jl), .second, .val (.ref a2), .val (.int (Int32.ofNat gF)), .val (.int (Int32.ofNat gT)), .unset] [(.ref a1)])) _
      refine XS.dup X46.here hx rfl (hb hby d6_118) rfl rfl ?_
      exact kt)
    have f49 : Fld Z h46 a1 "com/example/fourfold/fourfold/Record" "size" "I" (.int (Int32.ofNat gN)) := (f35.other W46 (Or.inl pr18))
    obtain ⟨T50, X50, e50, st50⟩ := getF X46 hx hZ hown (host := "") (Or.inl (hw _ (List.mem_of_getElem? (i := 31) rfl))) Via.refl e46 f49 (g := (mkF m 119 #[.val (.ref a1), .val .null, .val (.long jl), .second, .val (.ref a2), .val (.int (Int32.ofNat gF)), .val (.int (Int32.ofNat gT)), .unset] [(.ref a1), (.ref a1)])) rfl rfl (hb hby d6_119)
    have K51 : Gx p e below s₁ f0 T50 (mkF m 122 #[.val (.ref a1), .val .null, .val (.long jl), .second, .val (.ref a2), .val (.int (Int32.ofNat gF)), .val (.int (Int32.ofNat gT)), .unset] [(.int (Int32.ofNat gN)), (.ref a1)]) := fun t kt => K48 t (st50 t kt)
    have K52 : Gx p e below s₁ f0 T50 (mkF m 124 #[.val (.ref a1), .val .null, .val (.long jl), .second, .val (.ref a2), .val (.int (Int32.ofNat gF)), .val (.int (Int32.ofNat gT)), .unset] [(.int ((Int32.ofNat gN) + (1 : Int32))), (.ref a1)]) := fun t kt => K51 t (by
      show Steps p.tables e below (T50.setTop (mkF m 122 #[.val (.ref a1), .val .null, .val (.long jl), .second, .val (.ref a2), .val (.int (Int32.ofNat gF)), .val (.int (Int32.ofNat gT)), .unset] [(.int (Int32.ofNat gN)), (.ref a1)])) _
      refine XS.iconst X50.here hx rfl (hb hby d6_122) ?_
      show Steps p.tables e below (T50.setTop (mkF m 123 #[.val (.ref a1), .val .null, .val (.long jl), .second, .val (.ref a2), .val (.int (Int32.ofNat gF)), .val (.int (Int32.ofNat gT)), .unset] [(.int (1 : Int32)), (.int (Int32.ofNat gN)), (.ref a1)])) _
      refine XS.iadd X50.here hx rfl (hb hby d6_123) rfl ?_
      exact kt)
    rw [(own_inc gN)] at K52
    have f53 : Exa Z h46 a1 "com/example/fourfold/fourfold/Record" := (((pr0.wr W15).wr W28).wr W46)
    obtain ⟨T54, h54, X54', e54, W54, st54⟩ := putF X50 hx hZ hown (host := "") (Or.inl (hw _ (List.mem_of_getElem? (i := 31) rfl))) Via.refl e50 f49 f53 (Or.inl (hw _ (List.mem_of_getElem? (i := 32) rfl))) (hw _ (List.mem_of_getElem? (i := 6) rfl)) (ty := .int) (by decide) rfl rfl (g := (mkF m 124 #[.val (.ref a1), .val .null, .val (.long jl), .second, .val (.ref a2), .val (.int (Int32.ofNat gF)), .val (.int (Int32.ofNat gT)), .unset] [(.int (Int32.ofNat (gN + 1))), (.ref a1)])) rfl rfl (hb hby d6_124)
    obtain ⟨lc54, X54, N54⟩ : ∃ lc, Stand p l e ({ frames := 1, cells := 0, slots := 0, locals := 18 } : Room) s m #[(.ref a1), .null, (.long jl), (.ref a2), (.int p1), (.int p2)] below meth c T54 lc 0 0 ∧ Fr n0 lc := ⟨_, X54', Fr.snoc X54' N46 pr11⟩
    have f54_ : Fld Z h54 a1 "com/example/fourfold/fourfold/Record" "size" "I" (.int (Int32.ofNat (gN + 1))) := f49.same W54
    have K55 : Gx p e below s₁ f0 T54 (mkF m 127 #[.val (.ref a1), .val .null, .val (.long jl), .second, .val (.ref a2), .val (.int (Int32.ofNat gF)), .val (.int (Int32.ofNat gT)), .unset] []) := fun t kt => K52 t (st54 t kt)
    have K56 : Gx p e below s₁ f0 T54 (mkF m 133 #[.val (.ref a1), .val .null, .val (.long jl), .second, .val (.ref a2), .val (.int (Int32.ofNat gF)), .val (.int (Int32.ofNat gT)), .unset] [(.int ((Int32.ofNat gT) - (Int32.ofNat gF))), (.ref a1)]) := fun t kt => K55 t (by
      show Steps p.tables e below (T54.setTop (mkF m 127 #[.val (.ref a1), .val .null, .val (.long jl), .second, .val (.ref a2), .val (.int (Int32.ofNat gF)), .val (.int (Int32.ofNat gT)), .unset] [])) _
      refine XS.aloadN X54.here hx rfl (hb hby d6_127) rfl rfl ?_
      show Steps p.tables e below (T54.setTop (mkF m 128 #[.val (.ref a1), .val .null, .val (.long jl), .second, .val (.ref a2), .val (.int (Int32.ofNat gF)), .val (.int (Int32.ofNat gT)), .unset] [(.ref a1)])) _
      refine XS.iload X54.here hx rfl (hb hby d6_128) rfl ?_
      show Steps p.tables e below (T54.setTop (mkF m 130 #[.val (.ref a1), .val .null, .val (.long jl), .second, .val (.ref a2), .val (.int (Int32.ofNat gF)), .val (.int (Int32.ofNat gT)), .unset] [(.int (Int32.ofNat gT)), (.ref a1)])) _
      refine XS.iload X54.here hx rfl (hb hby d6_130) rfl ?_
      show Steps p.tables e below (T54.setTop (mkF m 132 #[.val (.ref a1), .val .null, .val (.long jl), .second, .val (.ref a2), .val (.int (Int32.ofNat gF)), .val (.int (Int32.ofNat gT)), .unset] [(.int (Int32.ofNat gF)), (.int (Int32.ofNat gT)), (.ref a1)])) _
      refine XS.isub X54.here hx rfl (hb hby d6_132) rfl ?_
      exact kt)
    rw [(own_sub hft.1)] at K56
    have f57 : Fld Z h54 a1 "com/example/fourfold/fourfold/Record" "ends" "[I" (.ref en) := ((f31.other W46 (Or.inl pr18)).other W54 (Or.inr (slot_ne (Or.inl (hw _ (List.mem_of_getElem? (i := 23) rfl))) (Or.inl (hw _ (List.mem_of_getElem? (i := 32) rfl))) (by decide) (t := (.array .int)) (t' := .int) (by decide) (by decide))))
    have f58 : Fld Z h54 a1 "com/example/fourfold/fourfold/Record" "text" "[B" (.ref tx) := ((((pr4.other W15 (Or.inl pr16)).other W28 (Or.inl pr17)).other W46 (Or.inl pr18)).other W54 (Or.inr (slot_ne (Or.inl (hw _ (List.mem_of_getElem? (i := 25) rfl))) (Or.inl (hw _ (List.mem_of_getElem? (i := 32) rfl))) (by decide) (t := (.array .byte)) (t' := .int) (by decide) (by decide))))
    have f59 : Arv Z h54 en kC .int (16 : Int32) (ve.set gN (.int (Int32.ofNat gE))) (.int (0 : Int32)) := (V46.other W54 (Ne.symm pr18))
    have f60 : Arv Z h54 tx kD .byte (1024 : Int32) vt (.int (0 : Int32)) := ((((pr9.other W15 (Ne.symm pr22)).other W28 (Ne.symm pr24)).other W46 (Ne.symm pr25)).other W54 (Ne.symm pr19))
    have kp61 : Keep h0 h54 [a1, la, li, en, tx] := (((((Keep.refl h0 [a1, la, li, en, tx]).wr W15 (Or.inl (List.mem_of_getElem? (i := 1) rfl))).wr W28 (Or.inl (List.mem_of_getElem? (i := 2) rfl))).wr W46 (Or.inl (List.mem_of_getElem? (i := 3) rfl))).wr W54 (Or.inl (List.mem_of_getElem? (i := 0) rfl)))
    have f63 : Exa Z h54 a1 "com/example/fourfold/fourfold/Record" := (f53.wr W54)
    obtain ⟨cq62, q62, q62'⟩ := f63.cell
    obtain ⟨_, _, ⟨T62, L62, k62, n62⟩, -, X62', ⟨Lc62, hQ62, l62, y62, z62⟩, st62⟩ := X54.privateBack hx (y := (⟨"com/example/fourfold/fourfold/Record", "reserve", "(I)I"⟩ : MethodName)) hown (mvT hZ (hw _ (List.mem_of_getElem? (i := 42) rfl))) (mvT hZ (hw _ (List.mem_of_getElem? (i := 43) rfl))) (own_selp hZ (hw _ (List.mem_of_getElem? (i := 6) rfl)) (hw _ (List.mem_of_getElem? (i := 44) rfl)) (hw _ (List.mem_of_getElem? (i := 43) rfl)) (by decide)) (Cond.privateMethod_at (mvP hZ (hw _ (List.mem_of_getElem? (i := 44) rfl)) (args := #[]))) (mvT hZ (hw _ (List.mem_of_getElem? (i := 45) rfl))) (by decide) (backOf (W := 0) (rmRes l Z a0 hw [] a1 (Int32.ofNat (gT - gF)) en tx kC kD (ve.set gN (.int (Int32.ofNat gE))) vt (gN + 1) gE h54 n0 (Nat.le_trans Z0 kp61.1) f57 f58 f54_ f59 f60 ⟨by omega, by omega⟩ (by rw [Nat.add_sub_cancel]; exact own_gs (by omega)) (own_room (by omega))) hZ (hw _ (List.mem_of_getElem? (i := 45) rfl)) (hw _ (List.mem_of_getElem? (i := 7) rfl)) (by decide) (by decide)) (g := (mkF m 133 #[.val (.ref a1), .val .null, .val (.long jl), .second, .val (.ref a2), .val (.int (Int32.ofNat gF)), .val (.int (Int32.ofNat gT)), .unset] [(.int (Int32.ofNat (gT - gF))), (.ref a1)])) rfl (by rw [hml]; rfl) (Steps.refl _) (a := a1) (by rw [e54]; exact q62) q62' (argsL := [(.int (Int32.ofNat (gT - gF)))]) (rest := []) (lenOf pd__I_I rfl) rfl (by show 2 * 0 + _ ≤ _; exact Nat.le_of_eq rfl) (hb hby d6_133) (fun _ _ => ⟨rfl, e54, (by decide : 0 + 0 ≤ _), (by decide : 0 + 0 ≤ _)⟩)
    dsimp only [Pt.U, Pt.locs, Pt.cells, Pt.slots] at X62' l62 y62 z62 st62 hQ62
    subst l62 y62 z62
    obtain ⟨rfl, N62q, e62⟩ := hQ62
    obtain ⟨lc62, X62, N62⟩ : ∃ lc, Stand p l e ({ frames := 1, cells := 0, slots := 0, locals := 18 } : Room) s m #[(.ref a1), .null, (.long jl), (.ref a2), (.int p1), (.int p2)] below meth c T62 lc 0 0 ∧ Fr n0 lc := ⟨_, X62', Fr.app N54 N62q⟩
    have K64 : Gx p e below s₁ f0 T62 (mkF m 136 #[.val (.ref a1), .val .null, .val (.long jl), .second, .val (.ref a2), .val (.int (Int32.ofNat gF)), .val (.int (Int32.ofNat gT)), .unset] [(.int (Int32.ofNat gE))]) := fun t kt => K56 t (st62.trans kt)
    have K65 : Gx p e below s₁ f0 T62 (mkF m 143 #[.val (.ref a1), .val .null, .val (.long jl), .second, .val (.ref a2), .val (.int (Int32.ofNat gF)), .val (.int (Int32.ofNat gT)), .val (.int (Int32.ofNat gE))] [(.ref a1), (.int (Int32.ofNat gF)), (.ref a2)]) := fun t kt => K64 t (by
      show Steps p.tables e below (T62.setTop (mkF m 136 #[.val (.ref a1), .val .null, .val (.long jl), .second, .val (.ref a2), .val (.int (Int32.ofNat gF)), .val (.int (Int32.ofNat gT)), .unset] [(.int (Int32.ofNat gE))])) _
      refine XS.istore X62.here hx rfl (hb hby d6_136) rfl (l' := #[.val (.ref a1), .val .null, .val (.long jl), .second, .val (.ref a2), .val (.int (Int32.ofNat gF)), .val (.int (Int32.ofNat gT)), .val (.int (Int32.ofNat gE))]) rfl ?_
      show Steps p.tables e below (T62.setTop (mkF m 138 #[.val (.ref a1), .val .null, .val (.long jl), .second, .val (.ref a2), .val (.int (Int32.ofNat gF)), .val (.int (Int32.ofNat gT)), .val (.int (Int32.ofNat gE))] [])) _
      refine XS.aload X62.here hx rfl (hb hby d6_138) rfl rfl ?_
      show Steps p.tables e below (T62.setTop (mkF m 140 #[.val (.ref a1), .val .null, .val (.long jl), .second, .val (.ref a2), .val (.int (Int32.ofNat gF)), .val (.int (Int32.ofNat gT)), .val (.int (Int32.ofNat gE))] [(.ref a2)])) _
      refine XS.iload X62.here hx rfl (hb hby d6_140) rfl ?_
      show Steps p.tables e below (T62.setTop (mkF m 142 #[.val (.ref a1), .val .null, .val (.long jl), .second, .val (.ref a2), .val (.int (Int32.ofNat gF)), .val (.int (Int32.ofNat gT)), .val (.int (Int32.ofNat gE))] [(.int (Int32.ofNat gF)), (.ref a2)])) _
      refine XS.aloadN X62.here hx rfl (hb hby d6_142) rfl rfl ?_
      exact kt)
    obtain ⟨T66, X66, e66, st66⟩ := getF X62 hx hZ hown (host := "") (Or.inl (hw _ (List.mem_of_getElem? (i := 24) rfl))) Via.refl e62 f58 (g := (mkF m 143 #[.val (.ref a1), .val .null, .val (.long jl), .second, .val (.ref a2), .val (.int (Int32.ofNat gF)), .val (.int (Int32.ofNat gT)), .val (.int (Int32.ofNat gE))] [(.ref a1), (.int (Int32.ofNat gF)), (.ref a2)])) rfl rfl (hb hby d6_143)
    have K67 : Gx p e below s₁ f0 T66 (mkF m 146 #[.val (.ref a1), .val .null, .val (.long jl), .second, .val (.ref a2), .val (.int (Int32.ofNat gF)), .val (.int (Int32.ofNat gT)), .val (.int (Int32.ofNat gE))] [(.ref tx), (.int (Int32.ofNat gF)), (.ref a2)]) := fun t kt => K65 t (st66 t kt)
    have K68 : Gx p e below s₁ f0 T66 (mkF m 153 #[.val (.ref a1), .val .null, .val (.long jl), .second, .val (.ref a2), .val (.int (Int32.ofNat gF)), .val (.int (Int32.ofNat gT)), .val (.int (Int32.ofNat gE))] [(.int ((Int32.ofNat gT) - (Int32.ofNat gF))), (.int (Int32.ofNat gE)), (.ref tx), (.int (Int32.ofNat gF)), (.ref a2)]) := fun t kt => K67 t (by
      show Steps p.tables e below (T66.setTop (mkF m 146 #[.val (.ref a1), .val .null, .val (.long jl), .second, .val (.ref a2), .val (.int (Int32.ofNat gF)), .val (.int (Int32.ofNat gT)), .val (.int (Int32.ofNat gE))] [(.ref tx), (.int (Int32.ofNat gF)), (.ref a2)])) _
      refine XS.iload X66.here hx rfl (hb hby d6_146) rfl ?_
      show Steps p.tables e below (T66.setTop (mkF m 148 #[.val (.ref a1), .val .null, .val (.long jl), .second, .val (.ref a2), .val (.int (Int32.ofNat gF)), .val (.int (Int32.ofNat gT)), .val (.int (Int32.ofNat gE))] [(.int (Int32.ofNat gE)), (.ref tx), (.int (Int32.ofNat gF)), (.ref a2)])) _
      refine XS.iload X66.here hx rfl (hb hby d6_148) rfl ?_
      show Steps p.tables e below (T66.setTop (mkF m 150 #[.val (.ref a1), .val .null, .val (.long jl), .second, .val (.ref a2), .val (.int (Int32.ofNat gF)), .val (.int (Int32.ofNat gT)), .val (.int (Int32.ofNat gE))] [(.int (Int32.ofNat gT)), (.int (Int32.ofNat gE)), (.ref tx), (.int (Int32.ofNat gF)), (.ref a2)])) _
      refine XS.iload X66.here hx rfl (hb hby d6_150) rfl ?_
      show Steps p.tables e below (T66.setTop (mkF m 152 #[.val (.ref a1), .val .null, .val (.long jl), .second, .val (.ref a2), .val (.int (Int32.ofNat gF)), .val (.int (Int32.ofNat gT)), .val (.int (Int32.ofNat gE))] [(.int (Int32.ofNat gF)), (.int (Int32.ofNat gT)), (.int (Int32.ofNat gE)), (.ref tx), (.int (Int32.ofNat gF)), (.ref a2)])) _
      refine XS.isub X66.here hx rfl (hb hby d6_152) rfl ?_
      exact kt)
    rw [(own_sub hft.1)] at K68
    have f70 : Arv Z h54 a2 kb .byte (4 : Int32) vb (.int (0 : Int32)) := ((((pr10.other W15 pr28).other W28 pr29).other W46 pr30).other W54 pr27)
    obtain ⟨T69, h69, L69, X69, e69, N69, Kc69, V69', st69⟩ := cpA X66 hx hZ hown (hw _ (List.mem_of_getElem? (i := 46) rfl)) (hw _ (List.mem_of_getElem? (i := 49) rfl)) (hw _ (List.mem_of_getElem? (i := 47) rfl)) (hw _ (List.mem_of_getElem? (i := 48) rfl)) e66 f70 f60 (Or.inl ⟨rfl, rfl⟩) (own_nn (by omega)) (own_nn (by omega)) (own_nn (by omega)) (by rw [own_cl (by omega), own_cl (by omega)]; show _ ≤ 4; omega) (by rw [own_cl (by omega), own_cl (by omega)]; show _ ≤ 1024; omega) rfl (by rw [own_cl (by omega), own_cl (by omega)]; omega) N62 pr15 (g := (mkF m 153 #[.val (.ref a1), .val .null, .val (.long jl), .second, .val (.ref a2), .val (.int (Int32.ofNat gF)), .val (.int (Int32.ofNat gT)), .val (.int (Int32.ofNat gE))] [(.int (Int32.ofNat (gT - gF))), (.int (Int32.ofNat gE)), (.ref tx), (.int (Int32.ofNat gF)), (.ref a2)])) rfl (by rw [hml]; rfl) rfl (hb hby d6_153) (by decide) (W := 0) (by show 2 * 0 + _ ≤ _; exact Nat.le_of_eq rfl) (by decide)
    obtain ⟨vs69, hvs69⟩ : ∃ z, z = vt.take (Int32.ofNat gE).toNatClampNeg ++ (List.range (Int32.ofNat (gT - gF)).toNatClampNeg).map (fun i => vb.getD ((Int32.ofNat gF).toNatClampNeg + i) (.int (0 : Int32))) ++ vt.drop ((Int32.ofNat gE).toNatClampNeg + (Int32.ofNat (gT - gF)).toNatClampNeg) := ⟨_, rfl⟩
    rw [← hvs69] at V69'
    have K71 : Gx p e below s₁ f0 T69 (mkF m 156 #[.val (.ref a1), .val .null, .val (.long jl), .second, .val (.ref a2), .val (.int (Int32.ofNat gF)), .val (.int (Int32.ofNat gT)), .val (.int (Int32.ofNat gE))] []) := fun t kt => K68 t (st69 t kt)
    have K72 : Gx p e below s₁ f0 T69 (mkF m 157 #[.val (.ref a1), .val .null, .val (.long jl), .second, .val (.ref a2), .val (.int (Int32.ofNat gF)), .val (.int (Int32.ofNat gT)), .val (.int (Int32.ofNat gE))] [(.ref a1)]) := fun t kt => K71 t (by
      show Steps p.tables e below (T69.setTop (mkF m 156 #[.val (.ref a1), .val .null, .val (.long jl), .second, .val (.ref a2), .val (.int (Int32.ofNat gF)), .val (.int (Int32.ofNat gT)), .val (.int (Int32.ofNat gE))] [])) _
      refine XS.aloadN X69.here hx rfl (hb hby d6_156) rfl rfl ?_
      exact kt)
    have f73 : Fld Z h69 a1 "com/example/fourfold/fourfold/Record" "ends" "[I" (.ref en) := (f57.keep Kc69 (ninS pr19 nin0))
    obtain ⟨T74, X74, e74, st74⟩ := getF X69 hx hZ hown (host := "") (Or.inl (hw _ (List.mem_of_getElem? (i := 22) rfl))) Via.refl e69 f73 (g := (mkF m 157 #[.val (.ref a1), .val .null, .val (.long jl), .second, .val (.ref a2), .val (.int (Int32.ofNat gF)), .val (.int (Int32.ofNat gT)), .val (.int (Int32.ofNat gE))] [(.ref a1)])) rfl rfl (hb hby d6_157)
    have K75 : Gx p e below s₁ f0 T74 (mkF m 160 #[.val (.ref a1), .val .null, .val (.long jl), .second, .val (.ref a2), .val (.int (Int32.ofNat gF)), .val (.int (Int32.ofNat gT)), .val (.int (Int32.ofNat gE))] [(.ref en)]) := fun t kt => K72 t (st74 t kt)
    have K76 : Gx p e below s₁ f0 T74 (mkF m 161 #[.val (.ref a1), .val .null, .val (.long jl), .second, .val (.ref a2), .val (.int (Int32.ofNat gF)), .val (.int (Int32.ofNat gT)), .val (.int (Int32.ofNat gE))] [(.ref a1), (.ref en)]) := fun t kt => K75 t (by
      show Steps p.tables e below (T74.setTop (mkF m 160 #[.val (.ref a1), .val .null, .val (.long jl), .second, .val (.ref a2), .val (.int (Int32.ofNat gF)), .val (.int (Int32.ofNat gT)), .val (.int (Int32.ofNat gE))] [(.ref en)])) _
      refine XS.aloadN X74.here hx rfl (hb hby d6_160) rfl rfl ?_
      exact kt)
    have f77 : Fld Z h69 a1 "com/example/fourfold/fourfold/Record" "size" "I" (.int (Int32.ofNat (gN + 1))) := (f54_.keep Kc69 (ninS pr19 nin0))
    obtain ⟨T78, X78, e78, st78⟩ := getF X74 hx hZ hown (host := "") (Or.inl (hw _ (List.mem_of_getElem? (i := 31) rfl))) Via.refl e74 f77 (g := (mkF m 161 #[.val (.ref a1), .val .null, .val (.long jl), .second, .val (.ref a2), .val (.int (Int32.ofNat gF)), .val (.int (Int32.ofNat gT)), .val (.int (Int32.ofNat gE))] [(.ref a1), (.ref en)])) rfl rfl (hb hby d6_161)
    have K79 : Gx p e below s₁ f0 T78 (mkF m 164 #[.val (.ref a1), .val .null, .val (.long jl), .second, .val (.ref a2), .val (.int (Int32.ofNat gF)), .val (.int (Int32.ofNat gT)), .val (.int (Int32.ofNat gE))] [(.int (Int32.ofNat (gN + 1))), (.ref en)]) := fun t kt => K76 t (st78 t kt)
    have K80 : Gx p e below s₁ f0 T78 (mkF m 166 #[.val (.ref a1), .val .null, .val (.long jl), .second, .val (.ref a2), .val (.int (Int32.ofNat gF)), .val (.int (Int32.ofNat gT)), .val (.int (Int32.ofNat gE))] [(.int ((Int32.ofNat (gN + 1)) - (1 : Int32))), (.ref en)]) := fun t kt => K79 t (by
      show Steps p.tables e below (T78.setTop (mkF m 164 #[.val (.ref a1), .val .null, .val (.long jl), .second, .val (.ref a2), .val (.int (Int32.ofNat gF)), .val (.int (Int32.ofNat gT)), .val (.int (Int32.ofNat gE))] [(.int (Int32.ofNat (gN + 1))), (.ref en)])) _
      refine XS.iconst X78.here hx rfl (hb hby d6_164) ?_
      show Steps p.tables e below (T78.setTop (mkF m 165 #[.val (.ref a1), .val .null, .val (.long jl), .second, .val (.ref a2), .val (.int (Int32.ofNat gF)), .val (.int (Int32.ofNat gT)), .val (.int (Int32.ofNat gE))] [(.int (1 : Int32)), (.int (Int32.ofNat (gN + 1))), (.ref en)])) _
      refine XS.isub X78.here hx rfl (hb hby d6_165) rfl ?_
      exact kt)
    rw [(own_dec1 gN)] at K80
    have K81 : Gx p e below s₁ f0 T78 (mkF m 171 #[.val (.ref a1), .val .null, .val (.long jl), .second, .val (.ref a2), .val (.int (Int32.ofNat gF)), .val (.int (Int32.ofNat gT)), .val (.int (Int32.ofNat gE))] [(.int ((Int32.ofNat gE) + (Int32.ofNat gT))), (.int (Int32.ofNat gN)), (.ref en)]) := fun t kt => K80 t (by
      show Steps p.tables e below (T78.setTop (mkF m 166 #[.val (.ref a1), .val .null, .val (.long jl), .second, .val (.ref a2), .val (.int (Int32.ofNat gF)), .val (.int (Int32.ofNat gT)), .val (.int (Int32.ofNat gE))] [(.int (Int32.ofNat gN)), (.ref en)])) _
      refine XS.iload X78.here hx rfl (hb hby d6_166) rfl ?_
      show Steps p.tables e below (T78.setTop (mkF m 168 #[.val (.ref a1), .val .null, .val (.long jl), .second, .val (.ref a2), .val (.int (Int32.ofNat gF)), .val (.int (Int32.ofNat gT)), .val (.int (Int32.ofNat gE))] [(.int (Int32.ofNat gE)), (.int (Int32.ofNat gN)), (.ref en)])) _
      refine XS.iload X78.here hx rfl (hb hby d6_168) rfl ?_
      show Steps p.tables e below (T78.setTop (mkF m 170 #[.val (.ref a1), .val .null, .val (.long jl), .second, .val (.ref a2), .val (.int (Int32.ofNat gF)), .val (.int (Int32.ofNat gT)), .val (.int (Int32.ofNat gE))] [(.int (Int32.ofNat gT)), (.int (Int32.ofNat gE)), (.int (Int32.ofNat gN)), (.ref en)])) _
      refine XS.iadd X78.here hx rfl (hb hby d6_170) rfl ?_
      exact kt)
    rw [(own_add gE gT)] at K81
    have K82 : Gx p e below s₁ f0 T78 (mkF m 174 #[.val (.ref a1), .val .null, .val (.long jl), .second, .val (.ref a2), .val (.int (Int32.ofNat gF)), .val (.int (Int32.ofNat gT)), .val (.int (Int32.ofNat gE))] [(.int ((Int32.ofNat (gE + gT)) - (Int32.ofNat gF))), (.int (Int32.ofNat gN)), (.ref en)]) := fun t kt => K81 t (by
      show Steps p.tables e below (T78.setTop (mkF m 171 #[.val (.ref a1), .val .null, .val (.long jl), .second, .val (.ref a2), .val (.int (Int32.ofNat gF)), .val (.int (Int32.ofNat gT)), .val (.int (Int32.ofNat gE))] [(.int (Int32.ofNat (gE + gT))), (.int (Int32.ofNat gN)), (.ref en)])) _
      refine XS.iload X78.here hx rfl (hb hby d6_171) rfl ?_
      show Steps p.tables e below (T78.setTop (mkF m 173 #[.val (.ref a1), .val .null, .val (.long jl), .second, .val (.ref a2), .val (.int (Int32.ofNat gF)), .val (.int (Int32.ofNat gT)), .val (.int (Int32.ofNat gE))] [(.int (Int32.ofNat gF)), (.int (Int32.ofNat (gE + gT))), (.int (Int32.ofNat gN)), (.ref en)])) _
      refine XS.isub X78.here hx rfl (hb hby d6_173) rfl ?_
      exact kt)
    rw [(own_sub (by omega))] at K82
    have f83 : Arv Z h69 en kC .int (16 : Int32) (ve.set gN (.int (Int32.ofNat gE))) (.int (0 : Int32)) := (f59.keep Kc69 (ninS pr25 nin0))
    obtain ⟨clq84, Arq84, ckq84, cSq84, cNq84, cHq84, cGq84⟩ := id f83
    obtain ⟨T85, h85, X85', e85, W85, st85⟩ := stI X78 hx hZ e78 Arq84 (j := (Int32.ofNat gN)) (inb_of cSq84 (own_in16 (show gN < 16 by omega))) (g := (mkF m 174 #[.val (.ref a1), .val .null, .val (.long jl), .second, .val (.ref a2), .val (.int (Int32.ofNat gF)), .val (.int (Int32.ofNat gT)), .val (.int (Int32.ofNat gE))] [(.int (Int32.ofNat (gE + gT - gF))), (.int (Int32.ofNat gN)), (.ref en)])) rfl rfl (hb hby d6_174)
    obtain ⟨lc85, X85, N85⟩ : ∃ lc, Stand p l e ({ frames := 1, cells := 0, slots := 0, locals := 18 } : Room) s m #[(.ref a1), .null, (.long jl), (.ref a2), (.int p1), (.int p2)] below meth c T85 lc 0 0 ∧ Fr n0 lc := ⟨_, X85', Fr.snoc X85' N69 pr14⟩
    have V85 : Arv Z h85 en kC .int (16 : Int32) ((ve.set gN (.int (Int32.ofNat gE))).set gN (.int (Int32.ofNat (gE + gT - gF)))) (.int (0 : Int32)) := Arv.set Arq84 ckq84 cSq84 cNq84 cHq84 cGq84 rfl W85 gN (own_cl (by omega)) (by first | omega | (rw [List.length_set]; omega))
    have K86 : Gx p e below s₁ f0 T85 (mkF m 175 #[.val (.ref a1), .val .null, .val (.long jl), .second, .val (.ref a2), .val (.int (Int32.ofNat gF)), .val (.int (Int32.ofNat gT)), .val (.int (Int32.ofNat gE))] []) := fun t kt => K82 t (st85 t kt)
    have f88 : Arv Z h85 la kA (.object "com/example/fourfold/fourfold/Label") (16 : Int32) (vl.set gN .null) .null := (((((V15.other W28 pr20).other W46 pr21).other W54 (Ne.symm pr16)).keep Kc69 (ninS pr22 nin0)).other W85 pr21)
    have f89 : Arv Z h85 li kB .long (16 : Int32) (vli.set gN (.long jl)) (.long (0 : Int64)) := ((((V28.other W46 pr23).other W54 (Ne.symm pr17)).keep Kc69 (ninS pr24 nin0)).other W85 pr23)
    have f90 : Arv Z h85 tx kD .byte (1024 : Int32) vs69 (.int (0 : Int32)) := (V69'.other W85 (Ne.symm pr25))
    have kp91 : Keep h0 h85 [a1, la, li, en, tx] := ((Keep.trans kp61 Kc69 (allS (Or.inl (List.mem_of_getElem? (i := 4) rfl)) all0)).wr W85 (Or.inl (List.mem_of_getElem? (i := 3) rfl)))
    have f92 : Exa Z h85 a1 "com/example/fourfold/fourfold/Record" := ((f63.keep Kc69).wr W85)
    have f93 : Fld Z h85 a1 "com/example/fourfold/fourfold/Record" "labels" "[Lcom/example/fourfold/fourfold/Label;" (.ref la) := ((((((pr1.other W15 (Or.inl pr16)).other W28 (Or.inl pr17)).other W46 (Or.inl pr18)).other W54 (Or.inr (slot_ne (Or.inl (hw _ (List.mem_of_getElem? (i := 17) rfl))) (Or.inl (hw _ (List.mem_of_getElem? (i := 32) rfl))) (by decide) (t := (.array (.object "com/example/fourfold/fourfold/Label"))) (t' := .int) (by decide) (by decide)))).keep Kc69 (ninS pr19 nin0)).other W85 (Or.inl pr18))
    have f94 : Fld Z h85 a1 "com/example/fourfold/fourfold/Record" "lines" "[J" (.ref li) := (((((f18.other W28 (Or.inl pr17)).other W46 (Or.inl pr18)).other W54 (Or.inr (slot_ne (Or.inl (hw _ (List.mem_of_getElem? (i := 20) rfl))) (Or.inl (hw _ (List.mem_of_getElem? (i := 32) rfl))) (by decide) (t := (.array .long)) (t' := .int) (by decide) (by decide)))).keep Kc69 (ninS pr19 nin0)).other W85 (Or.inl pr18))
    have f95 : Fld Z h85 a1 "com/example/fourfold/fourfold/Record" "ends" "[I" (.ref en) := (f73.other W85 (Or.inl pr18))
    have f96 : Fld Z h85 a1 "com/example/fourfold/fourfold/Record" "text" "[B" (.ref tx) := ((f58.keep Kc69 (ninS pr19 nin0)).other W85 (Or.inl pr18))
    have f97 : Fld Z h85 a1 "com/example/fourfold/fourfold/Record" "size" "I" (.int (Int32.ofNat (gN + 1))) := (f77.other W85 (Or.inl pr18))
    obtain ⟨fs87, hr87, hrun87, hended87, hW87, hsame87⟩ := X85.leave (v := none) (fun _ => rfl)
    refine ⟨_, _, pre0 _ (K86 _ ?_), hrun87, hended87, _, _, rfl, ?_, ⟨_, rfl⟩, hW87, hsame87.mono (by decide) (by decide)⟩
    · exact X85.returnOut hx Bd.returns (hb hby d6_175) hr87
    · show QSte Z a1 jl a2 p1 p2 la li en tx kA kB kC kD vl vli ve vt kb vb gF gT gN gE h0 n0 _ T85.heap _
      rw [e85]
      exact ⟨(vl.set gN .null), (vli.set gN (.long jl)), ((ve.set gN (.int (Int32.ofNat gE))).set gN (.int (Int32.ofNat (gE + gT - gF)))), vs69, rfl, N85, kp91, f92, f93, f94, f95, f96, f97, f88, f89, V85, f90, (by rw [List.length_set]; exact hl1), (by rw [List.length_set]; exact hl2), (by rw [List.length_set, List.length_set]; exact hl3), (by rw [hvs69, own_len (by simp) (by rw [own_cl (by omega), own_cl (by omega)]; omega)]; exact hl4), (own_gs (by rw [List.length_set]; omega))⟩
  · skip
    have hn0 : 0 < gN := Nat.pos_of_ne_zero fun z => hb41 (by rw [z]; rfl)
    have hee : ve.getD (gN - 1) (.int (0 : Int32)) = .int (Int32.ofNat gE) := by rcases he with h | h; exact absurd h.1 (by omega); exact h.2
    have K98 : Gx p e below s₁ f0 T39 (mkF m 106 #[.val (.ref a1), .val .null, .val (.long jl), .second, .val (.ref a2), .val (.int (Int32.ofNat gF)), .val (.int (Int32.ofNat gT)), .unset] [(.ref a1), (.int (Int32.ofNat gN)), (.ref en)]) := fun t kt => K40 t (by
      show Steps p.tables e below (T39.setTop (mkF m 98 #[.val (.ref a1), .val .null, .val (.long jl), .second, .val (.ref a2), .val (.int (Int32.ofNat gF)), .val (.int (Int32.ofNat gT)), .unset] [(.int (Int32.ofNat gN)), (.int (Int32.ofNat gN)), (.ref en)])) _
      refine XS.ifYes X39.here hx rfl (pc0 := 98) (pc' := 105) rfl (hb hby d6_98) rfl ((if0 _ _).trans (feq hb41).2) (by decide) (by decide) ?_
      show Steps p.tables e below (T39.setTop (mkF m 105 #[.val (.ref a1), .val .null, .val (.long jl), .second, .val (.ref a2), .val (.int (Int32.ofNat gF)), .val (.int (Int32.ofNat gT)), .unset] [(.int (Int32.ofNat gN)), (.ref en)])) _
      refine XS.aloadN X39.here hx rfl (hb hby d6_105) rfl rfl ?_
      exact kt)
    obtain ⟨T99, X99, e99, st99⟩ := getF X39 hx hZ hown (host := "") (Or.inl (hw _ (List.mem_of_getElem? (i := 22) rfl))) Via.refl e39 f31 (g := (mkF m 106 #[.val (.ref a1), .val .null, .val (.long jl), .second, .val (.ref a2), .val (.int (Int32.ofNat gF)), .val (.int (Int32.ofNat gT)), .unset] [(.ref a1), (.int (Int32.ofNat gN)), (.ref en)])) rfl rfl (hb hby d6_106)
    have K100 : Gx p e below s₁ f0 T99 (mkF m 109 #[.val (.ref a1), .val .null, .val (.long jl), .second, .val (.ref a2), .val (.int (Int32.ofNat gF)), .val (.int (Int32.ofNat gT)), .unset] [(.ref en), (.int (Int32.ofNat gN)), (.ref en)]) := fun t kt => K98 t (st99 t kt)
    have K101 : Gx p e below s₁ f0 T99 (mkF m 110 #[.val (.ref a1), .val .null, .val (.long jl), .second, .val (.ref a2), .val (.int (Int32.ofNat gF)), .val (.int (Int32.ofNat gT)), .unset] [(.ref a1), (.ref en), (.int (Int32.ofNat gN)), (.ref en)]) := fun t kt => K100 t (by
      show Steps p.tables e below (T99.setTop (mkF m 109 #[.val (.ref a1), .val .null, .val (.long jl), .second, .val (.ref a2), .val (.int (Int32.ofNat gF)), .val (.int (Int32.ofNat gT)), .unset] [(.ref en), (.int (Int32.ofNat gN)), (.ref en)])) _
      refine XS.aloadN X99.here hx rfl (hb hby d6_109) rfl rfl ?_
      exact kt)
    obtain ⟨T102, X102, e102, st102⟩ := getF X99 hx hZ hown (host := "") (Or.inl (hw _ (List.mem_of_getElem? (i := 31) rfl))) Via.refl e99 f35 (g := (mkF m 110 #[.val (.ref a1), .val .null, .val (.long jl), .second, .val (.ref a2), .val (.int (Int32.ofNat gF)), .val (.int (Int32.ofNat gT)), .unset] [(.ref a1), (.ref en), (.int (Int32.ofNat gN)), (.ref en)])) rfl rfl (hb hby d6_110)
    have K103 : Gx p e below s₁ f0 T102 (mkF m 113 #[.val (.ref a1), .val .null, .val (.long jl), .second, .val (.ref a2), .val (.int (Int32.ofNat gF)), .val (.int (Int32.ofNat gT)), .unset] [(.int (Int32.ofNat gN)), (.ref en), (.int (Int32.ofNat gN)), (.ref en)]) := fun t kt => K101 t (st102 t kt)
    have K104 : Gx p e below s₁ f0 T102 (mkF m 115 #[.val (.ref a1), .val .null, .val (.long jl), .second, .val (.ref a2), .val (.int (Int32.ofNat gF)), .val (.int (Int32.ofNat gT)), .unset] [(.int ((Int32.ofNat gN) - (1 : Int32))), (.ref en), (.int (Int32.ofNat gN)), (.ref en)]) := fun t kt => K103 t (by
      show Steps p.tables e below (T102.setTop (mkF m 113 #[.val (.ref a1), .val .null, .val (.long jl), .second, .val (.ref a2), .val (.int (Int32.ofNat gF)), .val (.int (Int32.ofNat gT)), .unset] [(.int (Int32.ofNat gN)), (.ref en), (.int (Int32.ofNat gN)), (.ref en)])) _
      refine XS.iconst X102.here hx rfl (hb hby d6_113) ?_
      show Steps p.tables e below (T102.setTop (mkF m 114 #[.val (.ref a1), .val .null, .val (.long jl), .second, .val (.ref a2), .val (.int (Int32.ofNat gF)), .val (.int (Int32.ofNat gT)), .unset] [(.int (1 : Int32)), (.int (Int32.ofNat gN)), (.ref en), (.int (Int32.ofNat gN)), (.ref en)])) _
      refine XS.isub X102.here hx rfl (hb hby d6_114) rfl ?_
      exact kt)
    rw [(own_dec hn0)] at K104
    have f105 : Arv Z h28 en kC .int (16 : Int32) ve (.int (0 : Int32)) := ((pr8.other W15 (Ne.symm pr21)).other W28 (Ne.symm pr23))
    obtain ⟨clq106, Arq106, ckq106, cSq106, cNq106, cHq106, cGq106⟩ := id f105
    have K107 : Gx p e below s₁ f0 T102 (mkF m 116 #[.val (.ref a1), .val .null, .val (.long jl), .second, .val (.ref a2), .val (.int (Int32.ofNat gF)), .val (.int (Int32.ofNat gT)), .unset] [(.int (Int32.ofNat gE)), (.int (Int32.ofNat gN)), (.ref en)]) := fun t kt => K104 t (by
      show Steps p.tables e below (T102.setTop (mkF m 115 #[.val (.ref a1), .val .null, .val (.long jl), .second, .val (.ref a2), .val (.int (Int32.ofNat gF)), .val (.int (Int32.ofNat gT)), .unset] [(.int (Int32.ofNat (gN - 1))), (.ref en), (.int (Int32.ofNat gN)), (.ref en)])) _
      refine X102.iaload hx (j := (Int32.ofNat (gN - 1))) (v := (.int (Int32.ofNat gE))) (by rw [e102]; exact Arq106.1) (State.isArrayOf_alike hZ.alike Arq106.2.1) Arq106.2.2 (inb_of cSq106 (own_in16 (show (gN - 1) < 16 by omega))) (Has.at cHq106 (inb_of cSq106 (own_in16 (show (gN - 1) < 16 by omega))) (by rw [own_cl (by omega)]; exact hee)) (g := (mkF m 115 #[.val (.ref a1), .val .null, .val (.long jl), .second, .val (.ref a2), .val (.int (Int32.ofNat gF)), .val (.int (Int32.ofNat gT)), .unset] [(.int (Int32.ofNat (gN - 1))), (.ref en), (.int (Int32.ofNat gN)), (.ref en)])) rfl rfl (hb hby d6_115) _ ?_
      exact kt)
    obtain ⟨T108, h108, X108', e108, W108, st108⟩ := stI X102 hx hZ e102 Arq106 (j := (Int32.ofNat gN)) (inb_of cSq106 (own_in16 (show gN < 16 by omega))) (g := (mkF m 116 #[.val (.ref a1), .val .null, .val (.long jl), .second, .val (.ref a2), .val (.int (Int32.ofNat gF)), .val (.int (Int32.ofNat gT)), .unset] [(.int (Int32.ofNat gE)), (.int (Int32.ofNat gN)), (.ref en)])) rfl rfl (hb hby d6_116)
    obtain ⟨lc108, X108, N108⟩ : ∃ lc, Stand p l e ({ frames := 1, cells := 0, slots := 0, locals := 18 } : Room) s m #[(.ref a1), .null, (.long jl), (.ref a2), (.int p1), (.int p2)] below meth c T108 lc 0 0 ∧ Fr n0 lc := ⟨_, X108', Fr.snoc X108' N28 pr14⟩
    have V108 : Arv Z h108 en kC .int (16 : Int32) (ve.set gN (.int (Int32.ofNat gE))) (.int (0 : Int32)) := Arv.set Arq106 ckq106 cSq106 cNq106 cHq106 cGq106 rfl W108 gN (own_cl (by omega)) (by first | omega | (rw [List.length_set]; omega))
    have K109 : Gx p e below s₁ f0 T108 (mkF m 117 #[.val (.ref a1), .val .null, .val (.long jl), .second, .val (.ref a2), .val (.int (Int32.ofNat gF)), .val (.int (Int32.ofNat gT)), .unset] []) := fun t kt => K107 t (st108 t kt)
    have K110 : Gx p e below s₁ f0 T108 (mkF m 119 #[.val (.ref a1), .val .null, .val (.long jl), .second, .val (.ref a2), .val (.int (Int32.ofNat gF)), .val (.int (Int32.ofNat gT)), .unset] [(.ref a1), (.ref a1)]) := fun t kt => K109 t (by
      show Steps p.tables e below (T108.setTop (mkF m 117 #[.val (.ref a1), .val .null, .val (.long jl), .second, .val (.ref a2), .val (.int (Int32.ofNat gF)), .val (.int (Int32.ofNat gT)), .unset] [])) _
      refine XS.aloadN X108.here hx rfl (hb hby d6_117) rfl rfl ?_
      show Steps p.tables e below (T108.setTop (mkF m 118 #[.val (.ref a1), .val .null, .val (.long jl), .second, .val (.ref a2), .val (.int (Int32.ofNat gF)), .val (.int (Int32.ofNat gT)), .unset] [(.ref a1)])) _
      refine XS.dup X108.here hx rfl (hb hby d6_118) rfl rfl ?_
      exact kt)
    have f111 : Fld Z h108 a1 "com/example/fourfold/fourfold/Record" "size" "I" (.int (Int32.ofNat gN)) := (f35.other W108 (Or.inl pr18))
    obtain ⟨T112, X112, e112, st112⟩ := getF X108 hx hZ hown (host := "") (Or.inl (hw _ (List.mem_of_getElem? (i := 31) rfl))) Via.refl e108 f111 (g := (mkF m 119 #[.val (.ref a1), .val .null, .val (.long jl), .second, .val (.ref a2), .val (.int (Int32.ofNat gF)), .val (.int (Int32.ofNat gT)), .unset] [(.ref a1), (.ref a1)])) rfl rfl (hb hby d6_119)
    have K113 : Gx p e below s₁ f0 T112 (mkF m 122 #[.val (.ref a1), .val .null, .val (.long jl), .second, .val (.ref a2), .val (.int (Int32.ofNat gF)), .val (.int (Int32.ofNat gT)), .unset] [(.int (Int32.ofNat gN)), (.ref a1)]) := fun t kt => K110 t (st112 t kt)
    have K114 : Gx p e below s₁ f0 T112 (mkF m 124 #[.val (.ref a1), .val .null, .val (.long jl), .second, .val (.ref a2), .val (.int (Int32.ofNat gF)), .val (.int (Int32.ofNat gT)), .unset] [(.int ((Int32.ofNat gN) + (1 : Int32))), (.ref a1)]) := fun t kt => K113 t (by
      show Steps p.tables e below (T112.setTop (mkF m 122 #[.val (.ref a1), .val .null, .val (.long jl), .second, .val (.ref a2), .val (.int (Int32.ofNat gF)), .val (.int (Int32.ofNat gT)), .unset] [(.int (Int32.ofNat gN)), (.ref a1)])) _
      refine XS.iconst X112.here hx rfl (hb hby d6_122) ?_
      show Steps p.tables e below (T112.setTop (mkF m 123 #[.val (.ref a1), .val .null, .val (.long jl), .second, .val (.ref a2), .val (.int (Int32.ofNat gF)), .val (.int (Int32.ofNat gT)), .unset] [(.int (1 : Int32)), (.int (Int32.ofNat gN)), (.ref a1)])) _
      refine XS.iadd X112.here hx rfl (hb hby d6_123) rfl ?_
      exact kt)
    rw [(own_inc gN)] at K114
    have f115 : Exa Z h108 a1 "com/example/fourfold/fourfold/Record" := (((pr0.wr W15).wr W28).wr W108)
    obtain ⟨T116, h116, X116', e116, W116, st116⟩ := putF X112 hx hZ hown (host := "") (Or.inl (hw _ (List.mem_of_getElem? (i := 31) rfl))) Via.refl e112 f111 f115 (Or.inl (hw _ (List.mem_of_getElem? (i := 32) rfl))) (hw _ (List.mem_of_getElem? (i := 6) rfl)) (ty := .int) (by decide) rfl rfl (g := (mkF m 124 #[.val (.ref a1), .val .null, .val (.long jl), .second, .val (.ref a2), .val (.int (Int32.ofNat gF)), .val (.int (Int32.ofNat gT)), .unset] [(.int (Int32.ofNat (gN + 1))), (.ref a1)])) rfl rfl (hb hby d6_124)
    obtain ⟨lc116, X116, N116⟩ : ∃ lc, Stand p l e ({ frames := 1, cells := 0, slots := 0, locals := 18 } : Room) s m #[(.ref a1), .null, (.long jl), (.ref a2), (.int p1), (.int p2)] below meth c T116 lc 0 0 ∧ Fr n0 lc := ⟨_, X116', Fr.snoc X116' N108 pr11⟩
    have f116_ : Fld Z h116 a1 "com/example/fourfold/fourfold/Record" "size" "I" (.int (Int32.ofNat (gN + 1))) := f111.same W116
    have K117 : Gx p e below s₁ f0 T116 (mkF m 127 #[.val (.ref a1), .val .null, .val (.long jl), .second, .val (.ref a2), .val (.int (Int32.ofNat gF)), .val (.int (Int32.ofNat gT)), .unset] []) := fun t kt => K114 t (st116 t kt)
    have K118 : Gx p e below s₁ f0 T116 (mkF m 133 #[.val (.ref a1), .val .null, .val (.long jl), .second, .val (.ref a2), .val (.int (Int32.ofNat gF)), .val (.int (Int32.ofNat gT)), .unset] [(.int ((Int32.ofNat gT) - (Int32.ofNat gF))), (.ref a1)]) := fun t kt => K117 t (by
      show Steps p.tables e below (T116.setTop (mkF m 127 #[.val (.ref a1), .val .null, .val (.long jl), .second, .val (.ref a2), .val (.int (Int32.ofNat gF)), .val (.int (Int32.ofNat gT)), .unset] [])) _
      refine XS.aloadN X116.here hx rfl (hb hby d6_127) rfl rfl ?_
      show Steps p.tables e below (T116.setTop (mkF m 128 #[.val (.ref a1), .val .null, .val (.long jl), .second, .val (.ref a2), .val (.int (Int32.ofNat gF)), .val (.int (Int32.ofNat gT)), .unset] [(.ref a1)])) _
      refine XS.iload X116.here hx rfl (hb hby d6_128) rfl ?_
      show Steps p.tables e below (T116.setTop (mkF m 130 #[.val (.ref a1), .val .null, .val (.long jl), .second, .val (.ref a2), .val (.int (Int32.ofNat gF)), .val (.int (Int32.ofNat gT)), .unset] [(.int (Int32.ofNat gT)), (.ref a1)])) _
      refine XS.iload X116.here hx rfl (hb hby d6_130) rfl ?_
      show Steps p.tables e below (T116.setTop (mkF m 132 #[.val (.ref a1), .val .null, .val (.long jl), .second, .val (.ref a2), .val (.int (Int32.ofNat gF)), .val (.int (Int32.ofNat gT)), .unset] [(.int (Int32.ofNat gF)), (.int (Int32.ofNat gT)), (.ref a1)])) _
      refine XS.isub X116.here hx rfl (hb hby d6_132) rfl ?_
      exact kt)
    rw [(own_sub hft.1)] at K118
    have f119 : Fld Z h116 a1 "com/example/fourfold/fourfold/Record" "ends" "[I" (.ref en) := ((f31.other W108 (Or.inl pr18)).other W116 (Or.inr (slot_ne (Or.inl (hw _ (List.mem_of_getElem? (i := 23) rfl))) (Or.inl (hw _ (List.mem_of_getElem? (i := 32) rfl))) (by decide) (t := (.array .int)) (t' := .int) (by decide) (by decide))))
    have f120 : Fld Z h116 a1 "com/example/fourfold/fourfold/Record" "text" "[B" (.ref tx) := ((((pr4.other W15 (Or.inl pr16)).other W28 (Or.inl pr17)).other W108 (Or.inl pr18)).other W116 (Or.inr (slot_ne (Or.inl (hw _ (List.mem_of_getElem? (i := 25) rfl))) (Or.inl (hw _ (List.mem_of_getElem? (i := 32) rfl))) (by decide) (t := (.array .byte)) (t' := .int) (by decide) (by decide))))
    have f121 : Arv Z h116 en kC .int (16 : Int32) (ve.set gN (.int (Int32.ofNat gE))) (.int (0 : Int32)) := (V108.other W116 (Ne.symm pr18))
    have f122 : Arv Z h116 tx kD .byte (1024 : Int32) vt (.int (0 : Int32)) := ((((pr9.other W15 (Ne.symm pr22)).other W28 (Ne.symm pr24)).other W108 (Ne.symm pr25)).other W116 (Ne.symm pr19))
    have kp123 : Keep h0 h116 [a1, la, li, en, tx] := (((((Keep.refl h0 [a1, la, li, en, tx]).wr W15 (Or.inl (List.mem_of_getElem? (i := 1) rfl))).wr W28 (Or.inl (List.mem_of_getElem? (i := 2) rfl))).wr W108 (Or.inl (List.mem_of_getElem? (i := 3) rfl))).wr W116 (Or.inl (List.mem_of_getElem? (i := 0) rfl)))
    have f125 : Exa Z h116 a1 "com/example/fourfold/fourfold/Record" := (f115.wr W116)
    obtain ⟨cq124, q124, q124'⟩ := f125.cell
    obtain ⟨_, _, ⟨T124, L124, k124, n124⟩, -, X124', ⟨Lc124, hQ124, l124, y124, z124⟩, st124⟩ := X116.privateBack hx (y := (⟨"com/example/fourfold/fourfold/Record", "reserve", "(I)I"⟩ : MethodName)) hown (mvT hZ (hw _ (List.mem_of_getElem? (i := 42) rfl))) (mvT hZ (hw _ (List.mem_of_getElem? (i := 43) rfl))) (own_selp hZ (hw _ (List.mem_of_getElem? (i := 6) rfl)) (hw _ (List.mem_of_getElem? (i := 44) rfl)) (hw _ (List.mem_of_getElem? (i := 43) rfl)) (by decide)) (Cond.privateMethod_at (mvP hZ (hw _ (List.mem_of_getElem? (i := 44) rfl)) (args := #[]))) (mvT hZ (hw _ (List.mem_of_getElem? (i := 45) rfl))) (by decide) (backOf (W := 0) (rmRes l Z a0 hw [] a1 (Int32.ofNat (gT - gF)) en tx kC kD (ve.set gN (.int (Int32.ofNat gE))) vt (gN + 1) gE h116 n0 (Nat.le_trans Z0 kp123.1) f119 f120 f116_ f121 f122 ⟨by omega, by omega⟩ (by rw [Nat.add_sub_cancel]; exact own_gs (by omega)) (own_room (by omega))) hZ (hw _ (List.mem_of_getElem? (i := 45) rfl)) (hw _ (List.mem_of_getElem? (i := 7) rfl)) (by decide) (by decide)) (g := (mkF m 133 #[.val (.ref a1), .val .null, .val (.long jl), .second, .val (.ref a2), .val (.int (Int32.ofNat gF)), .val (.int (Int32.ofNat gT)), .unset] [(.int (Int32.ofNat (gT - gF))), (.ref a1)])) rfl (by rw [hml]; rfl) (Steps.refl _) (a := a1) (by rw [e116]; exact q124) q124' (argsL := [(.int (Int32.ofNat (gT - gF)))]) (rest := []) (lenOf pd__I_I rfl) rfl (by show 2 * 0 + _ ≤ _; exact Nat.le_of_eq rfl) (hb hby d6_133) (fun _ _ => ⟨rfl, e116, (by decide : 0 + 0 ≤ _), (by decide : 0 + 0 ≤ _)⟩)
    dsimp only [Pt.U, Pt.locs, Pt.cells, Pt.slots] at X124' l124 y124 z124 st124 hQ124
    subst l124 y124 z124
    obtain ⟨rfl, N124q, e124⟩ := hQ124
    obtain ⟨lc124, X124, N124⟩ : ∃ lc, Stand p l e ({ frames := 1, cells := 0, slots := 0, locals := 18 } : Room) s m #[(.ref a1), .null, (.long jl), (.ref a2), (.int p1), (.int p2)] below meth c T124 lc 0 0 ∧ Fr n0 lc := ⟨_, X124', Fr.app N116 N124q⟩
    have K126 : Gx p e below s₁ f0 T124 (mkF m 136 #[.val (.ref a1), .val .null, .val (.long jl), .second, .val (.ref a2), .val (.int (Int32.ofNat gF)), .val (.int (Int32.ofNat gT)), .unset] [(.int (Int32.ofNat gE))]) := fun t kt => K118 t (st124.trans kt)
    have K127 : Gx p e below s₁ f0 T124 (mkF m 143 #[.val (.ref a1), .val .null, .val (.long jl), .second, .val (.ref a2), .val (.int (Int32.ofNat gF)), .val (.int (Int32.ofNat gT)), .val (.int (Int32.ofNat gE))] [(.ref a1), (.int (Int32.ofNat gF)), (.ref a2)]) := fun t kt => K126 t (by
      show Steps p.tables e below (T124.setTop (mkF m 136 #[.val (.ref a1), .val .null, .val (.long jl), .second, .val (.ref a2), .val (.int (Int32.ofNat gF)), .val (.int (Int32.ofNat gT)), .unset] [(.int (Int32.ofNat gE))])) _
      refine XS.istore X124.here hx rfl (hb hby d6_136) rfl (l' := #[.val (.ref a1), .val .null, .val (.long jl), .second, .val (.ref a2), .val (.int (Int32.ofNat gF)), .val (.int (Int32.ofNat gT)), .val (.int (Int32.ofNat gE))]) rfl ?_
      show Steps p.tables e below (T124.setTop (mkF m 138 #[.val (.ref a1), .val .null, .val (.long jl), .second, .val (.ref a2), .val (.int (Int32.ofNat gF)), .val (.int (Int32.ofNat gT)), .val (.int (Int32.ofNat gE))] [])) _
      refine XS.aload X124.here hx rfl (hb hby d6_138) rfl rfl ?_
      show Steps p.tables e below (T124.setTop (mkF m 140 #[.val (.ref a1), .val .null, .val (.long jl), .second, .val (.ref a2), .val (.int (Int32.ofNat gF)), .val (.int (Int32.ofNat gT)), .val (.int (Int32.ofNat gE))] [(.ref a2)])) _
      refine XS.iload X124.here hx rfl (hb hby d6_140) rfl ?_
      show Steps p.tables e below (T124.setTop (mkF m 142 #[.val (.ref a1), .val .null, .val (.long jl), .second, .val (.ref a2), .val (.int (Int32.ofNat gF)), .val (.int (Int32.ofNat gT)), .val (.int (Int32.ofNat gE))] [(.int (Int32.ofNat gF)), (.ref a2)])) _
      refine XS.aloadN X124.here hx rfl (hb hby d6_142) rfl rfl ?_
      exact kt)
    obtain ⟨T128, X128, e128, st128⟩ := getF X124 hx hZ hown (host := "") (Or.inl (hw _ (List.mem_of_getElem? (i := 24) rfl))) Via.refl e124 f120 (g := (mkF m 143 #[.val (.ref a1), .val .null, .val (.long jl), .second, .val (.ref a2), .val (.int (Int32.ofNat gF)), .val (.int (Int32.ofNat gT)), .val (.int (Int32.ofNat gE))] [(.ref a1), (.int (Int32.ofNat gF)), (.ref a2)])) rfl rfl (hb hby d6_143)
    have K129 : Gx p e below s₁ f0 T128 (mkF m 146 #[.val (.ref a1), .val .null, .val (.long jl), .second, .val (.ref a2), .val (.int (Int32.ofNat gF)), .val (.int (Int32.ofNat gT)), .val (.int (Int32.ofNat gE))] [(.ref tx), (.int (Int32.ofNat gF)), (.ref a2)]) := fun t kt => K127 t (st128 t kt)
    have K130 : Gx p e below s₁ f0 T128 (mkF m 153 #[.val (.ref a1), .val .null, .val (.long jl), .second, .val (.ref a2), .val (.int (Int32.ofNat gF)), .val (.int (Int32.ofNat gT)), .val (.int (Int32.ofNat gE))] [(.int ((Int32.ofNat gT) - (Int32.ofNat gF))), (.int (Int32.ofNat gE)), (.ref tx), (.int (Int32.ofNat gF)), (.ref a2)]) := fun t kt => K129 t (by
      show Steps p.tables e below (T128.setTop (mkF m 146 #[.val (.ref a1), .val .null, .val (.long jl), .second, .val (.ref a2), .val (.int (Int32.ofNat gF)), .val (.int (Int32.ofNat gT)), .val (.int (Int32.ofNat gE))] [(.ref tx), (.int (Int32.ofNat gF)), (.ref a2)])) _
      refine XS.iload X128.here hx rfl (hb hby d6_146) rfl ?_
      show Steps p.tables e below (T128.setTop (mkF m 148 #[.val (.ref a1), .val .null, .val (.long jl), .second, .val (.ref a2), .val (.int (Int32.ofNat gF)), .val (.int (Int32.ofNat gT)), .val (.int (Int32.ofNat gE))] [(.int (Int32.ofNat gE)), (.ref tx), (.int (Int32.ofNat gF)), (.ref a2)])) _
      refine XS.iload X128.here hx rfl (hb hby d6_148) rfl ?_
      show Steps p.tables e below (T128.setTop (mkF m 150 #[.val (.ref a1), .val .null, .val (.long jl), .second, .val (.ref a2), .val (.int (Int32.ofNat gF)), .val (.int (Int32.ofNat gT)), .val (.int (Int32.ofNat gE))] [(.int (Int32.ofNat gT)), (.int (Int32.ofNat gE)), (.ref tx), (.int (Int32.ofNat gF)), (.ref a2)])) _
      refine XS.iload X128.here hx rfl (hb hby d6_150) rfl ?_
      show Steps p.tables e below (T128.setTop (mkF m 152 #[.val (.ref a1), .val .null, .val (.long jl), .second, .val (.ref a2), .val (.int (Int32.ofNat gF)), .val (.int (Int32.ofNat gT)), .val (.int (Int32.ofNat gE))] [(.int (Int32.ofNat gF)), (.int (Int32.ofNat gT)), (.int (Int32.ofNat gE)), (.ref tx), (.int (Int32.ofNat gF)), (.ref a2)])) _
      refine XS.isub X128.here hx rfl (hb hby d6_152) rfl ?_
      exact kt)
    rw [(own_sub hft.1)] at K130
    have f132 : Arv Z h116 a2 kb .byte (4 : Int32) vb (.int (0 : Int32)) := ((((pr10.other W15 pr28).other W28 pr29).other W108 pr30).other W116 pr27)
    obtain ⟨T131, h131, L131, X131, e131, N131, Kc131, V131', st131⟩ := cpA X128 hx hZ hown (hw _ (List.mem_of_getElem? (i := 46) rfl)) (hw _ (List.mem_of_getElem? (i := 49) rfl)) (hw _ (List.mem_of_getElem? (i := 47) rfl)) (hw _ (List.mem_of_getElem? (i := 48) rfl)) e128 f132 f122 (Or.inl ⟨rfl, rfl⟩) (own_nn (by omega)) (own_nn (by omega)) (own_nn (by omega)) (by rw [own_cl (by omega), own_cl (by omega)]; show _ ≤ 4; omega) (by rw [own_cl (by omega), own_cl (by omega)]; show _ ≤ 1024; omega) rfl (by rw [own_cl (by omega), own_cl (by omega)]; omega) N124 pr15 (g := (mkF m 153 #[.val (.ref a1), .val .null, .val (.long jl), .second, .val (.ref a2), .val (.int (Int32.ofNat gF)), .val (.int (Int32.ofNat gT)), .val (.int (Int32.ofNat gE))] [(.int (Int32.ofNat (gT - gF))), (.int (Int32.ofNat gE)), (.ref tx), (.int (Int32.ofNat gF)), (.ref a2)])) rfl (by rw [hml]; rfl) rfl (hb hby d6_153) (by decide) (W := 0) (by show 2 * 0 + _ ≤ _; exact Nat.le_of_eq rfl) (by decide)
    obtain ⟨vs131, hvs131⟩ : ∃ z, z = vt.take (Int32.ofNat gE).toNatClampNeg ++ (List.range (Int32.ofNat (gT - gF)).toNatClampNeg).map (fun i => vb.getD ((Int32.ofNat gF).toNatClampNeg + i) (.int (0 : Int32))) ++ vt.drop ((Int32.ofNat gE).toNatClampNeg + (Int32.ofNat (gT - gF)).toNatClampNeg) := ⟨_, rfl⟩
    rw [← hvs131] at V131'
    have K133 : Gx p e below s₁ f0 T131 (mkF m 156 #[.val (.ref a1), .val .null, .val (.long jl), .second, .val (.ref a2), .val (.int (Int32.ofNat gF)), .val (.int (Int32.ofNat gT)), .val (.int (Int32.ofNat gE))] []) := fun t kt => K130 t (st131 t kt)
    have K134 : Gx p e below s₁ f0 T131 (mkF m 157 #[.val (.ref a1), .val .null, .val (.long jl), .second, .val (.ref a2), .val (.int (Int32.ofNat gF)), .val (.int (Int32.ofNat gT)), .val (.int (Int32.ofNat gE))] [(.ref a1)]) := fun t kt => K133 t (by
      show Steps p.tables e below (T131.setTop (mkF m 156 #[.val (.ref a1), .val .null, .val (.long jl), .second, .val (.ref a2), .val (.int (Int32.ofNat gF)), .val (.int (Int32.ofNat gT)), .val (.int (Int32.ofNat gE))] [])) _
      refine XS.aloadN X131.here hx rfl (hb hby d6_156) rfl rfl ?_
      exact kt)
    have f135 : Fld Z h131 a1 "com/example/fourfold/fourfold/Record" "ends" "[I" (.ref en) := (f119.keep Kc131 (ninS pr19 nin0))
    obtain ⟨T136, X136, e136, st136⟩ := getF X131 hx hZ hown (host := "") (Or.inl (hw _ (List.mem_of_getElem? (i := 22) rfl))) Via.refl e131 f135 (g := (mkF m 157 #[.val (.ref a1), .val .null, .val (.long jl), .second, .val (.ref a2), .val (.int (Int32.ofNat gF)), .val (.int (Int32.ofNat gT)), .val (.int (Int32.ofNat gE))] [(.ref a1)])) rfl rfl (hb hby d6_157)
    have K137 : Gx p e below s₁ f0 T136 (mkF m 160 #[.val (.ref a1), .val .null, .val (.long jl), .second, .val (.ref a2), .val (.int (Int32.ofNat gF)), .val (.int (Int32.ofNat gT)), .val (.int (Int32.ofNat gE))] [(.ref en)]) := fun t kt => K134 t (st136 t kt)
    have K138 : Gx p e below s₁ f0 T136 (mkF m 161 #[.val (.ref a1), .val .null, .val (.long jl), .second, .val (.ref a2), .val (.int (Int32.ofNat gF)), .val (.int (Int32.ofNat gT)), .val (.int (Int32.ofNat gE))] [(.ref a1), (.ref en)]) := fun t kt => K137 t (by
      show Steps p.tables e below (T136.setTop (mkF m 160 #[.val (.ref a1), .val .null, .val (.long jl), .second, .val (.ref a2), .val (.int (Int32.ofNat gF)), .val (.int (Int32.ofNat gT)), .val (.int (Int32.ofNat gE))] [(.ref en)])) _
      refine XS.aloadN X136.here hx rfl (hb hby d6_160) rfl rfl ?_
      exact kt)
    have f139 : Fld Z h131 a1 "com/example/fourfold/fourfold/Record" "size" "I" (.int (Int32.ofNat (gN + 1))) := (f116_.keep Kc131 (ninS pr19 nin0))
    obtain ⟨T140, X140, e140, st140⟩ := getF X136 hx hZ hown (host := "") (Or.inl (hw _ (List.mem_of_getElem? (i := 31) rfl))) Via.refl e136 f139 (g := (mkF m 161 #[.val (.ref a1), .val .null, .val (.long jl), .second, .val (.ref a2), .val (.int (Int32.ofNat gF)), .val (.int (Int32.ofNat gT)), .val (.int (Int32.ofNat gE))] [(.ref a1), (.ref en)])) rfl rfl (hb hby d6_161)
    have K141 : Gx p e below s₁ f0 T140 (mkF m 164 #[.val (.ref a1), .val .null, .val (.long jl), .second, .val (.ref a2), .val (.int (Int32.ofNat gF)), .val (.int (Int32.ofNat gT)), .val (.int (Int32.ofNat gE))] [(.int (Int32.ofNat (gN + 1))), (.ref en)]) := fun t kt => K138 t (st140 t kt)
    have K142 : Gx p e below s₁ f0 T140 (mkF m 166 #[.val (.ref a1), .val .null, .val (.long jl), .second, .val (.ref a2), .val (.int (Int32.ofNat gF)), .val (.int (Int32.ofNat gT)), .val (.int (Int32.ofNat gE))] [(.int ((Int32.ofNat (gN + 1)) - (1 : Int32))), (.ref en)]) := fun t kt => K141 t (by
      show Steps p.tables e below (T140.setTop (mkF m 164 #[.val (.ref a1), .val .null, .val (.long jl), .second, .val (.ref a2), .val (.int (Int32.ofNat gF)), .val (.int (Int32.ofNat gT)), .val (.int (Int32.ofNat gE))] [(.int (Int32.ofNat (gN + 1))), (.ref en)])) _
      refine XS.iconst X140.here hx rfl (hb hby d6_164) ?_
      show Steps p.tables e below (T140.setTop (mkF m 165 #[.val (.ref a1), .val .null, .val (.long jl), .second, .val (.ref a2), .val (.int (Int32.ofNat gF)), .val (.int (Int32.ofNat gT)), .val (.int (Int32.ofNat gE))] [(.int (1 : Int32)), (.int (Int32.ofNat (gN + 1))), (.ref en)])) _
      refine XS.isub X140.here hx rfl (hb hby d6_165) rfl ?_
      exact kt)
    rw [(own_dec1 gN)] at K142
    have K143 : Gx p e below s₁ f0 T140 (mkF m 171 #[.val (.ref a1), .val .null, .val (.long jl), .second, .val (.ref a2), .val (.int (Int32.ofNat gF)), .val (.int (Int32.ofNat gT)), .val (.int (Int32.ofNat gE))] [(.int ((Int32.ofNat gE) + (Int32.ofNat gT))), (.int (Int32.ofNat gN)), (.ref en)]) := fun t kt => K142 t (by
      show Steps p.tables e below (T140.setTop (mkF m 166 #[.val (.ref a1), .val .null, .val (.long jl), .second, .val (.ref a2), .val (.int (Int32.ofNat gF)), .val (.int (Int32.ofNat gT)), .val (.int (Int32.ofNat gE))] [(.int (Int32.ofNat gN)), (.ref en)])) _
      refine XS.iload X140.here hx rfl (hb hby d6_166) rfl ?_
      show Steps p.tables e below (T140.setTop (mkF m 168 #[.val (.ref a1), .val .null, .val (.long jl), .second, .val (.ref a2), .val (.int (Int32.ofNat gF)), .val (.int (Int32.ofNat gT)), .val (.int (Int32.ofNat gE))] [(.int (Int32.ofNat gE)), (.int (Int32.ofNat gN)), (.ref en)])) _
      refine XS.iload X140.here hx rfl (hb hby d6_168) rfl ?_
      show Steps p.tables e below (T140.setTop (mkF m 170 #[.val (.ref a1), .val .null, .val (.long jl), .second, .val (.ref a2), .val (.int (Int32.ofNat gF)), .val (.int (Int32.ofNat gT)), .val (.int (Int32.ofNat gE))] [(.int (Int32.ofNat gT)), (.int (Int32.ofNat gE)), (.int (Int32.ofNat gN)), (.ref en)])) _
      refine XS.iadd X140.here hx rfl (hb hby d6_170) rfl ?_
      exact kt)
    rw [(own_add gE gT)] at K143
    have K144 : Gx p e below s₁ f0 T140 (mkF m 174 #[.val (.ref a1), .val .null, .val (.long jl), .second, .val (.ref a2), .val (.int (Int32.ofNat gF)), .val (.int (Int32.ofNat gT)), .val (.int (Int32.ofNat gE))] [(.int ((Int32.ofNat (gE + gT)) - (Int32.ofNat gF))), (.int (Int32.ofNat gN)), (.ref en)]) := fun t kt => K143 t (by
      show Steps p.tables e below (T140.setTop (mkF m 171 #[.val (.ref a1), .val .null, .val (.long jl), .second, .val (.ref a2), .val (.int (Int32.ofNat gF)), .val (.int (Int32.ofNat gT)), .val (.int (Int32.ofNat gE))] [(.int (Int32.ofNat (gE + gT))), (.int (Int32.ofNat gN)), (.ref en)])) _
      refine XS.iload X140.here hx rfl (hb hby d6_171) rfl ?_
      show Steps p.tables e below (T140.setTop (mkF m 173 #[.val (.ref a1), .val .null, .val (.long jl), .second, .val (.ref a2), .val (.int (Int32.ofNat gF)), .val (.int (Int32.ofNat gT)), .val (.int (Int32.ofNat gE))] [(.int (Int32.ofNat gF)), (.int (Int32.ofNat (gE + gT))), (.int (Int32.ofNat gN)), (.ref en)])) _
      refine XS.isub X140.here hx rfl (hb hby d6_173) rfl ?_
      exact kt)
    rw [(own_sub (by omega))] at K144
    have f145 : Arv Z h131 en kC .int (16 : Int32) (ve.set gN (.int (Int32.ofNat gE))) (.int (0 : Int32)) := (f121.keep Kc131 (ninS pr25 nin0))
    obtain ⟨clq146, Arq146, ckq146, cSq146, cNq146, cHq146, cGq146⟩ := id f145
    obtain ⟨T147, h147, X147', e147, W147, st147⟩ := stI X140 hx hZ e140 Arq146 (j := (Int32.ofNat gN)) (inb_of cSq146 (own_in16 (show gN < 16 by omega))) (g := (mkF m 174 #[.val (.ref a1), .val .null, .val (.long jl), .second, .val (.ref a2), .val (.int (Int32.ofNat gF)), .val (.int (Int32.ofNat gT)), .val (.int (Int32.ofNat gE))] [(.int (Int32.ofNat (gE + gT - gF))), (.int (Int32.ofNat gN)), (.ref en)])) rfl rfl (hb hby d6_174)
    obtain ⟨lc147, X147, N147⟩ : ∃ lc, Stand p l e ({ frames := 1, cells := 0, slots := 0, locals := 18 } : Room) s m #[(.ref a1), .null, (.long jl), (.ref a2), (.int p1), (.int p2)] below meth c T147 lc 0 0 ∧ Fr n0 lc := ⟨_, X147', Fr.snoc X147' N131 pr14⟩
    have V147 : Arv Z h147 en kC .int (16 : Int32) ((ve.set gN (.int (Int32.ofNat gE))).set gN (.int (Int32.ofNat (gE + gT - gF)))) (.int (0 : Int32)) := Arv.set Arq146 ckq146 cSq146 cNq146 cHq146 cGq146 rfl W147 gN (own_cl (by omega)) (by first | omega | (rw [List.length_set]; omega))
    have K148 : Gx p e below s₁ f0 T147 (mkF m 175 #[.val (.ref a1), .val .null, .val (.long jl), .second, .val (.ref a2), .val (.int (Int32.ofNat gF)), .val (.int (Int32.ofNat gT)), .val (.int (Int32.ofNat gE))] []) := fun t kt => K144 t (st147 t kt)
    have f150 : Arv Z h147 la kA (.object "com/example/fourfold/fourfold/Label") (16 : Int32) (vl.set gN .null) .null := (((((V15.other W28 pr20).other W108 pr21).other W116 (Ne.symm pr16)).keep Kc131 (ninS pr22 nin0)).other W147 pr21)
    have f151 : Arv Z h147 li kB .long (16 : Int32) (vli.set gN (.long jl)) (.long (0 : Int64)) := ((((V28.other W108 pr23).other W116 (Ne.symm pr17)).keep Kc131 (ninS pr24 nin0)).other W147 pr23)
    have f152 : Arv Z h147 tx kD .byte (1024 : Int32) vs131 (.int (0 : Int32)) := (V131'.other W147 (Ne.symm pr25))
    have kp153 : Keep h0 h147 [a1, la, li, en, tx] := ((Keep.trans kp123 Kc131 (allS (Or.inl (List.mem_of_getElem? (i := 4) rfl)) all0)).wr W147 (Or.inl (List.mem_of_getElem? (i := 3) rfl)))
    have f154 : Exa Z h147 a1 "com/example/fourfold/fourfold/Record" := ((f125.keep Kc131).wr W147)
    have f155 : Fld Z h147 a1 "com/example/fourfold/fourfold/Record" "labels" "[Lcom/example/fourfold/fourfold/Label;" (.ref la) := ((((((pr1.other W15 (Or.inl pr16)).other W28 (Or.inl pr17)).other W108 (Or.inl pr18)).other W116 (Or.inr (slot_ne (Or.inl (hw _ (List.mem_of_getElem? (i := 17) rfl))) (Or.inl (hw _ (List.mem_of_getElem? (i := 32) rfl))) (by decide) (t := (.array (.object "com/example/fourfold/fourfold/Label"))) (t' := .int) (by decide) (by decide)))).keep Kc131 (ninS pr19 nin0)).other W147 (Or.inl pr18))
    have f156 : Fld Z h147 a1 "com/example/fourfold/fourfold/Record" "lines" "[J" (.ref li) := (((((f18.other W28 (Or.inl pr17)).other W108 (Or.inl pr18)).other W116 (Or.inr (slot_ne (Or.inl (hw _ (List.mem_of_getElem? (i := 20) rfl))) (Or.inl (hw _ (List.mem_of_getElem? (i := 32) rfl))) (by decide) (t := (.array .long)) (t' := .int) (by decide) (by decide)))).keep Kc131 (ninS pr19 nin0)).other W147 (Or.inl pr18))
    have f157 : Fld Z h147 a1 "com/example/fourfold/fourfold/Record" "ends" "[I" (.ref en) := (f135.other W147 (Or.inl pr18))
    have f158 : Fld Z h147 a1 "com/example/fourfold/fourfold/Record" "text" "[B" (.ref tx) := ((f120.keep Kc131 (ninS pr19 nin0)).other W147 (Or.inl pr18))
    have f159 : Fld Z h147 a1 "com/example/fourfold/fourfold/Record" "size" "I" (.int (Int32.ofNat (gN + 1))) := (f139.other W147 (Or.inl pr18))
    obtain ⟨fs149, hr149, hrun149, hended149, hW149, hsame149⟩ := X147.leave (v := none) (fun _ => rfl)
    refine ⟨_, _, pre0 _ (K148 _ ?_), hrun149, hended149, _, _, rfl, ?_, ⟨_, rfl⟩, hW149, hsame149.mono (by decide) (by decide)⟩
    · exact X147.returnOut hx Bd.returns (hb hby d6_175) hr149
    · show QSte Z a1 jl a2 p1 p2 la li en tx kA kB kC kD vl vli ve vt kb vb gF gT gN gE h0 n0 _ T147.heap _
      rw [e147]
      exact ⟨(vl.set gN .null), (vli.set gN (.long jl)), ((ve.set gN (.int (Int32.ofNat gE))).set gN (.int (Int32.ofNat (gE + gT - gF)))), vs131, rfl, N147, kp153, f154, f155, f156, f157, f158, f159, f150, f151, V147, f152, (by rw [List.length_set]; exact hl1), (by rw [List.length_set]; exact hl2), (by rw [List.length_set, List.length_set]; exact hl3), (by rw [hvs131, own_len (by simp) (by rw [own_cl (by omega), own_cl (by omega)]; omega)]; exact hl4), (own_gs (by rw [List.length_set]; omega))⟩
theorem d10_0 : decode prog_23_method_15_code 0 = .ok (.aload_n 0, 1) := by decide +kernel
theorem d10_1 : decode prog_23_method_15_code 1 = .ok (.iconst 1, 1) := by decide +kernel
theorem d10_2 : decode prog_23_method_15_code 2 = .ok (.iload_n 3, 1) := by decide +kernel
theorem d10_3 : decode prog_23_method_15_code 3 = .ok (.iadd, 1) := by decide +kernel
theorem d10_4 : decode prog_23_method_15_code 4 = .ok (.iload_n 2, 1) := by decide +kernel
theorem d10_5 : decode prog_23_method_15_code 5 = .ok (.isub, 1) := by decide +kernel
theorem d10_6 : decode prog_23_method_15_code 6 = .ok (.invokevirtual 137, 3) := by decide +kernel
theorem d10_9 : decode prog_23_method_15_code 9 = .ok (.istore 4, 2) := by decide +kernel
theorem d10_11 : decode prog_23_method_15_code 11 = .ok (.aload_n 0, 1) := by decide +kernel
theorem d10_12 : decode prog_23_method_15_code 12 = .ok (.getfield 23, 3) := by decide +kernel
theorem d10_15 : decode prog_23_method_15_code 15 = .ok (.iload 4, 2) := by decide +kernel
theorem d10_17 : decode prog_23_method_15_code 17 = .ok (.bipush 32, 2) := by decide +kernel
theorem d10_19 : decode prog_23_method_15_code 19 = .ok (.bastore, 1) := by decide +kernel
theorem d10_20 : decode prog_23_method_15_code 20 = .ok (.aload_n 1, 1) := by decide +kernel
theorem d10_21 : decode prog_23_method_15_code 21 = .ok (.iload_n 2, 1) := by decide +kernel
theorem d10_22 : decode prog_23_method_15_code 22 = .ok (.aload_n 0, 1) := by decide +kernel
theorem d10_23 : decode prog_23_method_15_code 23 = .ok (.getfield 23, 3) := by decide +kernel
theorem d10_26 : decode prog_23_method_15_code 26 = .ok (.iload 4, 2) := by decide +kernel
theorem d10_28 : decode prog_23_method_15_code 28 = .ok (.iconst 1, 1) := by decide +kernel
theorem d10_29 : decode prog_23_method_15_code 29 = .ok (.iadd, 1) := by decide +kernel
theorem d10_30 : decode prog_23_method_15_code 30 = .ok (.iload_n 3, 1) := by decide +kernel
theorem d10_31 : decode prog_23_method_15_code 31 = .ok (.iload_n 2, 1) := by decide +kernel
theorem d10_32 : decode prog_23_method_15_code 32 = .ok (.isub, 1) := by decide +kernel
theorem d10_33 : decode prog_23_method_15_code 33 = .ok (.invokestatic 140, 3) := by decide +kernel
theorem d10_36 : decode prog_23_method_15_code 36 = .ok (.aload_n 0, 1) := by decide +kernel
theorem d10_37 : decode prog_23_method_15_code 37 = .ok (.getfield 19, 3) := by decide +kernel
theorem d10_40 : decode prog_23_method_15_code 40 = .ok (.aload_n 0, 1) := by decide +kernel
theorem d10_41 : decode prog_23_method_15_code 41 = .ok (.getfield 31, 3) := by decide +kernel
theorem d10_44 : decode prog_23_method_15_code 44 = .ok (.iconst 1, 1) := by decide +kernel
theorem d10_45 : decode prog_23_method_15_code 45 = .ok (.isub, 1) := by decide +kernel
theorem d10_46 : decode prog_23_method_15_code 46 = .ok (.iload 4, 2) := by decide +kernel
theorem d10_48 : decode prog_23_method_15_code 48 = .ok (.iconst 1, 1) := by decide +kernel
theorem d10_49 : decode prog_23_method_15_code 49 = .ok (.iadd, 1) := by decide +kernel
theorem d10_50 : decode prog_23_method_15_code 50 = .ok (.iload_n 3, 1) := by decide +kernel
theorem d10_51 : decode prog_23_method_15_code 51 = .ok (.iadd, 1) := by decide +kernel
theorem d10_52 : decode prog_23_method_15_code 52 = .ok (.iload_n 2, 1) := by decide +kernel
theorem d10_53 : decode prog_23_method_15_code 53 = .ok (.isub, 1) := by decide +kernel
theorem d10_54 : decode prog_23_method_15_code 54 = .ok (.iastore, 1) := by decide +kernel
theorem d10_55 : decode prog_23_method_15_code 55 = .ok (.return_, 1) := by decide +kernel
theorem pn_10 : plainName "com/example/fourfold/fourfold/Record" = true := by first | (simp [plainName, overriddenIn]; done) | decide +kernel
theorem ef_Cov (m : MethodId) (a1 : Addr) (a2 : Addr) (p1 : Int32) (p2 : Int32) : entryFrame m #[(.ref a1), (.ref a2), (.int p1), (.int p2)] 5 = mkF m 0 #[.val (.ref a1), .val (.ref a2), .val (.int p1), .val (.int p2), .unset] [] := by first | (simp [entryFrame, mkF, argsToLocals, Value.category]; done) | rfl
def QCov (Z : State) (a1 : Addr) (a2 : Addr) (p1 : Int32) (p2 : Int32) (la : Addr) (li : Addr) (en : Addr) (tx : Addr) (kA : ClassId) (kB : ClassId) (kC : ClassId) (kD : ClassId) (vl : List Value) (vli : List Value) (ve : List Value) (vt : List Value) (kb : ClassId) (vb : List Value) (gF : Nat) (gT : Nat) (gN : Nat) (gE : Nat) (h0 : Heap) (n0 : Nat) (v : Option Value) (h : Heap) (L : List Loc) : Prop := ∃ vl2 : List Value, ∃ vli2 : List Value, ∃ ve2 : List Value, ∃ vt2 : List Value, v = none ∧ Fr n0 L ∧ Keep h0 h [a1, la, li, en, tx] ∧ Exa Z h a1 "com/example/fourfold/fourfold/Record" ∧ Fld Z h a1 "com/example/fourfold/fourfold/Record" "labels" "[Lcom/example/fourfold/fourfold/Label;" (.ref la) ∧ Fld Z h a1 "com/example/fourfold/fourfold/Record" "lines" "[J" (.ref li) ∧ Fld Z h a1 "com/example/fourfold/fourfold/Record" "ends" "[I" (.ref en) ∧ Fld Z h a1 "com/example/fourfold/fourfold/Record" "text" "[B" (.ref tx) ∧ Fld Z h a1 "com/example/fourfold/fourfold/Record" "size" "I" (.int (Int32.ofNat gN)) ∧ Arv Z h la kA (.object "com/example/fourfold/fourfold/Label") (16 : Int32) vl2 .null ∧ Arv Z h li kB .long (16 : Int32) vli2 (.long (0 : Int64)) ∧ Arv Z h en kC .int (16 : Int32) ve2 (.int (0 : Int32)) ∧ Arv Z h tx kD .byte (1024 : Int32) vt2 (.int (0 : Int32)) ∧ (vl2.length = 16) ∧ (vli2.length = 16) ∧ (ve2.length = 16) ∧ (vt2.length = 1024) ∧ (ve2.getD (gN - 1) (.int (0 : Int32)) = .int (Int32.ofNat (gE + 1 + gT - gF)))
set_option maxRecDepth 65536 in
set_option maxHeartbeats 40000000 in
theorem rmCov (l : Launch) (Z : State) (a0 : Array Value) (hw : ∀ d ∈ tables_1, d.before a0 Z = true) (ws : List Jvm.Cond) (a1 : Addr) (a2 : Addr) (p1 : Int32) (p2 : Int32) (la : Addr) (li : Addr) (en : Addr) (tx : Addr) (kA : ClassId) (kB : ClassId) (kC : ClassId) (kD : ClassId) (vl : List Value) (vli : List Value) (ve : List Value) (vt : List Value) (kb : ClassId) (vb : List Value) (gF : Nat) (gT : Nat) (gN : Nat) (gE : Nat) (h0 : Heap) (n0 : Nat) (Z0 : n0 ≤ h0.size) (pr0 : Exa Z h0 a1 "com/example/fourfold/fourfold/Record") (pr1 : Fld Z h0 a1 "com/example/fourfold/fourfold/Record" "labels" "[Lcom/example/fourfold/fourfold/Label;" (.ref la)) (pr2 : Fld Z h0 a1 "com/example/fourfold/fourfold/Record" "lines" "[J" (.ref li)) (pr3 : Fld Z h0 a1 "com/example/fourfold/fourfold/Record" "ends" "[I" (.ref en)) (pr4 : Fld Z h0 a1 "com/example/fourfold/fourfold/Record" "text" "[B" (.ref tx)) (pr5 : Fld Z h0 a1 "com/example/fourfold/fourfold/Record" "size" "I" (.int (Int32.ofNat gN))) (pr6 : Arv Z h0 la kA (.object "com/example/fourfold/fourfold/Label") (16 : Int32) vl .null) (pr7 : Arv Z h0 li kB .long (16 : Int32) vli (.long (0 : Int64))) (pr8 : Arv Z h0 en kC .int (16 : Int32) ve (.int (0 : Int32))) (pr9 : Arv Z h0 tx kD .byte (1024 : Int32) vt (.int (0 : Int32))) (pr10 : Arv Z h0 a2 kb .byte (4 : Int32) vb (.int (0 : Int32))) (pr11 : n0 ≤ a1) (pr12 : n0 ≤ la) (pr13 : n0 ≤ li) (pr14 : n0 ≤ en) (pr15 : n0 ≤ tx) (pr16 : a1 ≠ la) (pr17 : a1 ≠ li) (pr18 : a1 ≠ en) (pr19 : a1 ≠ tx) (pr20 : la ≠ li) (pr21 : la ≠ en) (pr22 : la ≠ tx) (pr23 : li ≠ en) (pr24 : li ≠ tx) (pr25 : en ≠ tx) (pr26 : a2 ≠ tx) (pr27 : a2 ≠ a1) (pr28 : a2 ≠ la) (pr29 : a2 ≠ li) (pr30 : a2 ≠ en) (hl1 : vl.length = 16) (hl2 : vli.length = 16) (hl3 : ve.length = 16) (hl4 : vt.length = 1024) (hft : gF ≤ gT ∧ gT ≤ 4) (hp1 : p1 = Int32.ofNat gF) (hp2 : p2 = Int32.ofNat gT) (hn : 0 < gN ∧ gN ≤ 4 ∧ gE ≤ 100) (he : ve.getD (gN - 1) (.int (0 : Int32)) = .int (Int32.ofNat gE)) :
    MetFree l (⟨"com/example/fourfold/fourfold/Record", "continueValue", "([BII)V"⟩ : MethodName) (head1 (Jvm.Cond.code (⟨"com/example/fourfold/fourfold/Record", "continueValue", "([BII)V"⟩ : MethodName) prog_23_method_15_code 5 none :: ws) ({ frames := 1, cells := 0, slots := 0, locals := 18 } : Room)) (fun a U => a = #[(.ref a1), (.ref a2), (.int p1), (.int p2)] ∧ Z.Warmed39 U.vm ∧ U.heap = h0) (fun _ _ _ _ _ => True) (fun _ U o U' => ∃ v L, o = .returned v ∧ QCov Z a1 a2 p1 p2 la li en tx kA kB kC kD vl vli ve vt kb vb gF gT gN gE h0 n0 v U'.heap L ∧ FrameEnd U o U' L ({ frames := 1, cells := 0, slots := 0, locals := 18 } : Room).cells ({ frames := 1, cells := 0, slots := 0, locals := 18 } : Room).slots) := by
  refine MetFree.of_bodySF (plainFor_of_name pn_10) hisR ?_
  intro p e s m args below meth c s₁ Bd hml0 hP hK
  obtain ⟨rfl, hZ, hh⟩ := hP
  have hx := Bd.exec
  have hby := Bd.bytes
  have hml : c.maxLocals = 5 := hml0
  have hown : s.vm.findClass "com/example/fourfold/fourfold/Record" = some m.cls := findClass_of_methodNamed Bd.named
  have hnm := (name_of_methodNamed Bd.named Bd.method).1
  have X0 : Stand p l e ({ frames := 1, cells := 0, slots := 0, locals := 18 } : Room) s m #[(.ref a1), (.ref a2), (.int p1), (.int p2)] below meth c s₁ [] 0 0 := Stand.of_body Bd
  have hs0 : h0 = s.heap := hh.symm
  have e0 : s₁.heap = h0 := by rw [← hh, Bd.state]; rfl
  have N0 := Fr.nil n0
  obtain ⟨f0, hf0⟩ : ∃ f, f = entryFrame m #[(.ref a1), (.ref a2), (.int p1), (.int p2)] 5 := ⟨_, rfl⟩
  have pre0 : ∀ t, Steps p.tables e below (s₁.setTop f0) t → Steps p.tables e below (s₁.setTop (entryFrame m #[(.ref a1), (.ref a2), (.int p1), (.int p2)] 5)) t := fun t k => hf0 ▸ k
  have K0 : Gx p e below s₁ f0 s₁ (mkF m 0 #[.val (.ref a1), .val (.ref a2), .val (.int p1), .val (.int p2), .unset] []) := fun t kt => by rw [hf0]; exact castTop (ef_Cov m a1 a2 p1 p2) kt
  rw [hp1] at K0
  rw [hp2] at K0
  have K1 : Gx p e below s₁ f0 s₁ (mkF m 4 #[.val (.ref a1), .val (.ref a2), .val (.int (Int32.ofNat gF)), .val (.int (Int32.ofNat gT)), .unset] [(.int ((1 : Int32) + (Int32.ofNat gT))), (.ref a1)]) := fun t kt => K0 t (by
    show Steps p.tables e below (s₁.setTop (mkF m 0 #[.val (.ref a1), .val (.ref a2), .val (.int (Int32.ofNat gF)), .val (.int (Int32.ofNat gT)), .unset] [])) _
    refine XS.aloadN X0.here hx rfl (hb hby d10_0) rfl rfl ?_
    show Steps p.tables e below (s₁.setTop (mkF m 1 #[.val (.ref a1), .val (.ref a2), .val (.int (Int32.ofNat gF)), .val (.int (Int32.ofNat gT)), .unset] [(.ref a1)])) _
    refine XS.iconst X0.here hx rfl (hb hby d10_1) ?_
    show Steps p.tables e below (s₁.setTop (mkF m 2 #[.val (.ref a1), .val (.ref a2), .val (.int (Int32.ofNat gF)), .val (.int (Int32.ofNat gT)), .unset] [(.int (1 : Int32)), (.ref a1)])) _
    refine XS.iloadN X0.here hx rfl (hb hby d10_2) rfl ?_
    show Steps p.tables e below (s₁.setTop (mkF m 3 #[.val (.ref a1), .val (.ref a2), .val (.int (Int32.ofNat gF)), .val (.int (Int32.ofNat gT)), .unset] [(.int (Int32.ofNat gT)), (.int (1 : Int32)), (.ref a1)])) _
    refine XS.iadd X0.here hx rfl (hb hby d10_3) rfl ?_
    exact kt)
  rw [(show (1 : Int32) + Int32.ofNat gT = Int32.ofNat (1 + gT) from own_add 1 gT)] at K1
  have K2 : Gx p e below s₁ f0 s₁ (mkF m 6 #[.val (.ref a1), .val (.ref a2), .val (.int (Int32.ofNat gF)), .val (.int (Int32.ofNat gT)), .unset] [(.int ((Int32.ofNat (1 + gT)) - (Int32.ofNat gF))), (.ref a1)]) := fun t kt => K1 t (by
    show Steps p.tables e below (s₁.setTop (mkF m 4 #[.val (.ref a1), .val (.ref a2), .val (.int (Int32.ofNat gF)), .val (.int (Int32.ofNat gT)), .unset] [(.int (Int32.ofNat (1 + gT))), (.ref a1)])) _
    refine XS.iloadN X0.here hx rfl (hb hby d10_4) rfl ?_
    show Steps p.tables e below (s₁.setTop (mkF m 5 #[.val (.ref a1), .val (.ref a2), .val (.int (Int32.ofNat gF)), .val (.int (Int32.ofNat gT)), .unset] [(.int (Int32.ofNat gF)), (.int (Int32.ofNat (1 + gT))), (.ref a1)])) _
    refine XS.isub X0.here hx rfl (hb hby d10_5) rfl ?_
    exact kt)
  rw [(own_sub (by omega))] at K2
  obtain ⟨cq3, q3, q3'⟩ := pr0.cell
  obtain ⟨_, _, ⟨T3, L3, k3, n3⟩, -, X3', ⟨Lc3, hQ3, l3, y3, z3⟩, st3⟩ := X0.privateBack hx (y := (⟨"com/example/fourfold/fourfold/Record", "reserve", "(I)I"⟩ : MethodName)) hown (mvT hZ (hw _ (List.mem_of_getElem? (i := 42) rfl))) (mvT hZ (hw _ (List.mem_of_getElem? (i := 43) rfl))) (own_selp hZ (hw _ (List.mem_of_getElem? (i := 6) rfl)) (hw _ (List.mem_of_getElem? (i := 44) rfl)) (hw _ (List.mem_of_getElem? (i := 43) rfl)) (by decide)) (Cond.privateMethod_at (mvP hZ (hw _ (List.mem_of_getElem? (i := 44) rfl)) (args := #[]))) (mvT hZ (hw _ (List.mem_of_getElem? (i := 45) rfl))) (by decide) (backOf (W := 0) (rmRes l Z a0 hw [] a1 (Int32.ofNat (1 + gT - gF)) en tx kC kD ve vt gN gE h0 n0 (Nat.le_trans Z0 (Keep.refl h0 [a1, la, li, en, tx]).1) pr3 pr4 pr5 pr8 pr9 ⟨by omega, by omega⟩ he (own_room (by omega))) hZ (hw _ (List.mem_of_getElem? (i := 45) rfl)) (hw _ (List.mem_of_getElem? (i := 7) rfl)) (by decide) (by decide)) (g := (mkF m 6 #[.val (.ref a1), .val (.ref a2), .val (.int (Int32.ofNat gF)), .val (.int (Int32.ofNat gT)), .unset] [(.int (Int32.ofNat (1 + gT - gF))), (.ref a1)])) rfl (by rw [hml]; rfl) (Steps.refl _) (a := a1) (by rw [e0]; exact q3) q3' (argsL := [(.int (Int32.ofNat (1 + gT - gF)))]) (rest := []) (lenOf pd__I_I rfl) rfl (by show 2 * 0 + _ ≤ _; exact Nat.le_of_eq rfl) (hb hby d10_6) (fun _ _ => ⟨rfl, e0, (by decide : 0 + 0 ≤ _), (by decide : 0 + 0 ≤ _)⟩)
  dsimp only [Pt.U, Pt.locs, Pt.cells, Pt.slots] at X3' l3 y3 z3 st3 hQ3
  subst l3 y3 z3
  obtain ⟨rfl, N3q, e3⟩ := hQ3
  obtain ⟨lc3, X3, N3⟩ : ∃ lc, Stand p l e ({ frames := 1, cells := 0, slots := 0, locals := 18 } : Room) s m #[(.ref a1), (.ref a2), (.int p1), (.int p2)] below meth c T3 lc 0 0 ∧ Fr n0 lc := ⟨_, X3', Fr.app N0 N3q⟩
  have K4 : Gx p e below s₁ f0 T3 (mkF m 9 #[.val (.ref a1), .val (.ref a2), .val (.int (Int32.ofNat gF)), .val (.int (Int32.ofNat gT)), .unset] [(.int (Int32.ofNat gE))]) := fun t kt => K2 t (st3.trans kt)
  have K5 : Gx p e below s₁ f0 T3 (mkF m 12 #[.val (.ref a1), .val (.ref a2), .val (.int (Int32.ofNat gF)), .val (.int (Int32.ofNat gT)), .val (.int (Int32.ofNat gE))] [(.ref a1)]) := fun t kt => K4 t (by
    show Steps p.tables e below (T3.setTop (mkF m 9 #[.val (.ref a1), .val (.ref a2), .val (.int (Int32.ofNat gF)), .val (.int (Int32.ofNat gT)), .unset] [(.int (Int32.ofNat gE))])) _
    refine XS.istore X3.here hx rfl (hb hby d10_9) rfl (l' := #[.val (.ref a1), .val (.ref a2), .val (.int (Int32.ofNat gF)), .val (.int (Int32.ofNat gT)), .val (.int (Int32.ofNat gE))]) rfl ?_
    show Steps p.tables e below (T3.setTop (mkF m 11 #[.val (.ref a1), .val (.ref a2), .val (.int (Int32.ofNat gF)), .val (.int (Int32.ofNat gT)), .val (.int (Int32.ofNat gE))] [])) _
    refine XS.aloadN X3.here hx rfl (hb hby d10_11) rfl rfl ?_
    exact kt)
  obtain ⟨T6, X6, e6, st6⟩ := getF X3 hx hZ hown (host := "") (Or.inl (hw _ (List.mem_of_getElem? (i := 24) rfl))) Via.refl e3 pr4 (g := (mkF m 12 #[.val (.ref a1), .val (.ref a2), .val (.int (Int32.ofNat gF)), .val (.int (Int32.ofNat gT)), .val (.int (Int32.ofNat gE))] [(.ref a1)])) rfl rfl (hb hby d10_12)
  have K7 : Gx p e below s₁ f0 T6 (mkF m 15 #[.val (.ref a1), .val (.ref a2), .val (.int (Int32.ofNat gF)), .val (.int (Int32.ofNat gT)), .val (.int (Int32.ofNat gE))] [(.ref tx)]) := fun t kt => K5 t (st6 t kt)
  have K8 : Gx p e below s₁ f0 T6 (mkF m 19 #[.val (.ref a1), .val (.ref a2), .val (.int (Int32.ofNat gF)), .val (.int (Int32.ofNat gT)), .val (.int (Int32.ofNat gE))] [(.int (32 : Int32)), (.int (Int32.ofNat gE)), (.ref tx)]) := fun t kt => K7 t (by
    show Steps p.tables e below (T6.setTop (mkF m 15 #[.val (.ref a1), .val (.ref a2), .val (.int (Int32.ofNat gF)), .val (.int (Int32.ofNat gT)), .val (.int (Int32.ofNat gE))] [(.ref tx)])) _
    refine XS.iload X6.here hx rfl (hb hby d10_15) rfl ?_
    show Steps p.tables e below (T6.setTop (mkF m 17 #[.val (.ref a1), .val (.ref a2), .val (.int (Int32.ofNat gF)), .val (.int (Int32.ofNat gT)), .val (.int (Int32.ofNat gE))] [(.int (Int32.ofNat gE)), (.ref tx)])) _
    refine XS.bipush X6.here hx rfl (hb hby d10_17) ?_
    exact kt)
  obtain ⟨clq9, Arq9, ckq9, cSq9, cNq9, cHq9, cGq9⟩ := id pr9
  obtain ⟨T10, h10, X10', e10, W10, st10⟩ := stB X6 hx hZ e6 Arq9 (j := (Int32.ofNat gE)) (inb_of cSq9 (own_in1024 (show gE < 1024 by omega))) (g := (mkF m 19 #[.val (.ref a1), .val (.ref a2), .val (.int (Int32.ofNat gF)), .val (.int (Int32.ofNat gT)), .val (.int (Int32.ofNat gE))] [(.int (32 : Int32)), (.int (Int32.ofNat gE)), (.ref tx)])) rfl rfl (hb hby d10_19)
  obtain ⟨lc10, X10, N10⟩ : ∃ lc, Stand p l e ({ frames := 1, cells := 0, slots := 0, locals := 18 } : Room) s m #[(.ref a1), (.ref a2), (.int p1), (.int p2)] below meth c T10 lc 0 0 ∧ Fr n0 lc := ⟨_, X10', Fr.snoc X10' N3 pr15⟩
  have V10 : Arv Z h10 tx kD .byte (1024 : Int32) (vt.set gE (.int (nar .byte (32 : Int32)))) (.int (0 : Int32)) := Arv.set Arq9 ckq9 cSq9 cNq9 cHq9 cGq9 (fits_nar_byte _) W10 gE (own_cl (by omega)) (by first | omega | (rw [List.length_set]; omega))
  have K11 : Gx p e below s₁ f0 T10 (mkF m 20 #[.val (.ref a1), .val (.ref a2), .val (.int (Int32.ofNat gF)), .val (.int (Int32.ofNat gT)), .val (.int (Int32.ofNat gE))] []) := fun t kt => K8 t (st10 t kt)
  have K12 : Gx p e below s₁ f0 T10 (mkF m 23 #[.val (.ref a1), .val (.ref a2), .val (.int (Int32.ofNat gF)), .val (.int (Int32.ofNat gT)), .val (.int (Int32.ofNat gE))] [(.ref a1), (.int (Int32.ofNat gF)), (.ref a2)]) := fun t kt => K11 t (by
    show Steps p.tables e below (T10.setTop (mkF m 20 #[.val (.ref a1), .val (.ref a2), .val (.int (Int32.ofNat gF)), .val (.int (Int32.ofNat gT)), .val (.int (Int32.ofNat gE))] [])) _
    refine XS.aloadN X10.here hx rfl (hb hby d10_20) rfl rfl ?_
    show Steps p.tables e below (T10.setTop (mkF m 21 #[.val (.ref a1), .val (.ref a2), .val (.int (Int32.ofNat gF)), .val (.int (Int32.ofNat gT)), .val (.int (Int32.ofNat gE))] [(.ref a2)])) _
    refine XS.iloadN X10.here hx rfl (hb hby d10_21) rfl ?_
    show Steps p.tables e below (T10.setTop (mkF m 22 #[.val (.ref a1), .val (.ref a2), .val (.int (Int32.ofNat gF)), .val (.int (Int32.ofNat gT)), .val (.int (Int32.ofNat gE))] [(.int (Int32.ofNat gF)), (.ref a2)])) _
    refine XS.aloadN X10.here hx rfl (hb hby d10_22) rfl rfl ?_
    exact kt)
  have f13 : Fld Z h10 a1 "com/example/fourfold/fourfold/Record" "text" "[B" (.ref tx) := (pr4.other W10 (Or.inl pr19))
  obtain ⟨T14, X14, e14, st14⟩ := getF X10 hx hZ hown (host := "") (Or.inl (hw _ (List.mem_of_getElem? (i := 24) rfl))) Via.refl e10 f13 (g := (mkF m 23 #[.val (.ref a1), .val (.ref a2), .val (.int (Int32.ofNat gF)), .val (.int (Int32.ofNat gT)), .val (.int (Int32.ofNat gE))] [(.ref a1), (.int (Int32.ofNat gF)), (.ref a2)])) rfl rfl (hb hby d10_23)
  have K15 : Gx p e below s₁ f0 T14 (mkF m 26 #[.val (.ref a1), .val (.ref a2), .val (.int (Int32.ofNat gF)), .val (.int (Int32.ofNat gT)), .val (.int (Int32.ofNat gE))] [(.ref tx), (.int (Int32.ofNat gF)), (.ref a2)]) := fun t kt => K12 t (st14 t kt)
  have K16 : Gx p e below s₁ f0 T14 (mkF m 30 #[.val (.ref a1), .val (.ref a2), .val (.int (Int32.ofNat gF)), .val (.int (Int32.ofNat gT)), .val (.int (Int32.ofNat gE))] [(.int ((Int32.ofNat gE) + (1 : Int32))), (.ref tx), (.int (Int32.ofNat gF)), (.ref a2)]) := fun t kt => K15 t (by
    show Steps p.tables e below (T14.setTop (mkF m 26 #[.val (.ref a1), .val (.ref a2), .val (.int (Int32.ofNat gF)), .val (.int (Int32.ofNat gT)), .val (.int (Int32.ofNat gE))] [(.ref tx), (.int (Int32.ofNat gF)), (.ref a2)])) _
    refine XS.iload X14.here hx rfl (hb hby d10_26) rfl ?_
    show Steps p.tables e below (T14.setTop (mkF m 28 #[.val (.ref a1), .val (.ref a2), .val (.int (Int32.ofNat gF)), .val (.int (Int32.ofNat gT)), .val (.int (Int32.ofNat gE))] [(.int (Int32.ofNat gE)), (.ref tx), (.int (Int32.ofNat gF)), (.ref a2)])) _
    refine XS.iconst X14.here hx rfl (hb hby d10_28) ?_
    show Steps p.tables e below (T14.setTop (mkF m 29 #[.val (.ref a1), .val (.ref a2), .val (.int (Int32.ofNat gF)), .val (.int (Int32.ofNat gT)), .val (.int (Int32.ofNat gE))] [(.int (1 : Int32)), (.int (Int32.ofNat gE)), (.ref tx), (.int (Int32.ofNat gF)), (.ref a2)])) _
    refine XS.iadd X14.here hx rfl (hb hby d10_29) rfl ?_
    exact kt)
  rw [(own_inc gE)] at K16
  have K17 : Gx p e below s₁ f0 T14 (mkF m 33 #[.val (.ref a1), .val (.ref a2), .val (.int (Int32.ofNat gF)), .val (.int (Int32.ofNat gT)), .val (.int (Int32.ofNat gE))] [(.int ((Int32.ofNat gT) - (Int32.ofNat gF))), (.int (Int32.ofNat (gE + 1))), (.ref tx), (.int (Int32.ofNat gF)), (.ref a2)]) := fun t kt => K16 t (by
    show Steps p.tables e below (T14.setTop (mkF m 30 #[.val (.ref a1), .val (.ref a2), .val (.int (Int32.ofNat gF)), .val (.int (Int32.ofNat gT)), .val (.int (Int32.ofNat gE))] [(.int (Int32.ofNat (gE + 1))), (.ref tx), (.int (Int32.ofNat gF)), (.ref a2)])) _
    refine XS.iloadN X14.here hx rfl (hb hby d10_30) rfl ?_
    show Steps p.tables e below (T14.setTop (mkF m 31 #[.val (.ref a1), .val (.ref a2), .val (.int (Int32.ofNat gF)), .val (.int (Int32.ofNat gT)), .val (.int (Int32.ofNat gE))] [(.int (Int32.ofNat gT)), (.int (Int32.ofNat (gE + 1))), (.ref tx), (.int (Int32.ofNat gF)), (.ref a2)])) _
    refine XS.iloadN X14.here hx rfl (hb hby d10_31) rfl ?_
    show Steps p.tables e below (T14.setTop (mkF m 32 #[.val (.ref a1), .val (.ref a2), .val (.int (Int32.ofNat gF)), .val (.int (Int32.ofNat gT)), .val (.int (Int32.ofNat gE))] [(.int (Int32.ofNat gF)), (.int (Int32.ofNat gT)), (.int (Int32.ofNat (gE + 1))), (.ref tx), (.int (Int32.ofNat gF)), (.ref a2)])) _
    refine XS.isub X14.here hx rfl (hb hby d10_32) rfl ?_
    exact kt)
  rw [(own_sub hft.1)] at K17
  have f19 : Arv Z h10 a2 kb .byte (4 : Int32) vb (.int (0 : Int32)) := (pr10.other W10 pr26)
  obtain ⟨T18, h18, L18, X18, e18, N18, Kc18, V18', st18⟩ := cpA X14 hx hZ hown (hw _ (List.mem_of_getElem? (i := 46) rfl)) (hw _ (List.mem_of_getElem? (i := 49) rfl)) (hw _ (List.mem_of_getElem? (i := 47) rfl)) (hw _ (List.mem_of_getElem? (i := 48) rfl)) e14 f19 V10 (Or.inl ⟨rfl, rfl⟩) (own_nn (by omega)) (own_nn (by omega)) (own_nn (by omega)) (by rw [own_cl (by omega), own_cl (by omega)]; show _ ≤ 4; omega) (by rw [own_cl (by omega), own_cl (by omega)]; show _ ≤ 1024; omega) rfl (by rw [own_cl (by omega), own_cl (by omega), List.length_set]; omega) N10 pr15 (g := (mkF m 33 #[.val (.ref a1), .val (.ref a2), .val (.int (Int32.ofNat gF)), .val (.int (Int32.ofNat gT)), .val (.int (Int32.ofNat gE))] [(.int (Int32.ofNat (gT - gF))), (.int (Int32.ofNat (gE + 1))), (.ref tx), (.int (Int32.ofNat gF)), (.ref a2)])) rfl (by rw [hml]; rfl) rfl (hb hby d10_33) (by decide) (W := 0) (by show 2 * 0 + _ ≤ _; exact Nat.le_of_eq rfl) (by decide)
  obtain ⟨vs18, hvs18⟩ : ∃ z, z = (vt.set gE (.int (nar .byte (32 : Int32)))).take (Int32.ofNat (gE + 1)).toNatClampNeg ++ (List.range (Int32.ofNat (gT - gF)).toNatClampNeg).map (fun i => vb.getD ((Int32.ofNat gF).toNatClampNeg + i) (.int (0 : Int32))) ++ (vt.set gE (.int (nar .byte (32 : Int32)))).drop ((Int32.ofNat (gE + 1)).toNatClampNeg + (Int32.ofNat (gT - gF)).toNatClampNeg) := ⟨_, rfl⟩
  rw [← hvs18] at V18'
  have K20 : Gx p e below s₁ f0 T18 (mkF m 36 #[.val (.ref a1), .val (.ref a2), .val (.int (Int32.ofNat gF)), .val (.int (Int32.ofNat gT)), .val (.int (Int32.ofNat gE))] []) := fun t kt => K17 t (st18 t kt)
  have K21 : Gx p e below s₁ f0 T18 (mkF m 37 #[.val (.ref a1), .val (.ref a2), .val (.int (Int32.ofNat gF)), .val (.int (Int32.ofNat gT)), .val (.int (Int32.ofNat gE))] [(.ref a1)]) := fun t kt => K20 t (by
    show Steps p.tables e below (T18.setTop (mkF m 36 #[.val (.ref a1), .val (.ref a2), .val (.int (Int32.ofNat gF)), .val (.int (Int32.ofNat gT)), .val (.int (Int32.ofNat gE))] [])) _
    refine XS.aloadN X18.here hx rfl (hb hby d10_36) rfl rfl ?_
    exact kt)
  have f22 : Fld Z h18 a1 "com/example/fourfold/fourfold/Record" "ends" "[I" (.ref en) := ((pr3.other W10 (Or.inl pr19)).keep Kc18 (ninS pr19 nin0))
  obtain ⟨T23, X23, e23, st23⟩ := getF X18 hx hZ hown (host := "") (Or.inl (hw _ (List.mem_of_getElem? (i := 22) rfl))) Via.refl e18 f22 (g := (mkF m 37 #[.val (.ref a1), .val (.ref a2), .val (.int (Int32.ofNat gF)), .val (.int (Int32.ofNat gT)), .val (.int (Int32.ofNat gE))] [(.ref a1)])) rfl rfl (hb hby d10_37)
  have K24 : Gx p e below s₁ f0 T23 (mkF m 40 #[.val (.ref a1), .val (.ref a2), .val (.int (Int32.ofNat gF)), .val (.int (Int32.ofNat gT)), .val (.int (Int32.ofNat gE))] [(.ref en)]) := fun t kt => K21 t (st23 t kt)
  have K25 : Gx p e below s₁ f0 T23 (mkF m 41 #[.val (.ref a1), .val (.ref a2), .val (.int (Int32.ofNat gF)), .val (.int (Int32.ofNat gT)), .val (.int (Int32.ofNat gE))] [(.ref a1), (.ref en)]) := fun t kt => K24 t (by
    show Steps p.tables e below (T23.setTop (mkF m 40 #[.val (.ref a1), .val (.ref a2), .val (.int (Int32.ofNat gF)), .val (.int (Int32.ofNat gT)), .val (.int (Int32.ofNat gE))] [(.ref en)])) _
    refine XS.aloadN X23.here hx rfl (hb hby d10_40) rfl rfl ?_
    exact kt)
  have f26 : Fld Z h18 a1 "com/example/fourfold/fourfold/Record" "size" "I" (.int (Int32.ofNat gN)) := ((pr5.other W10 (Or.inl pr19)).keep Kc18 (ninS pr19 nin0))
  obtain ⟨T27, X27, e27, st27⟩ := getF X23 hx hZ hown (host := "") (Or.inl (hw _ (List.mem_of_getElem? (i := 31) rfl))) Via.refl e23 f26 (g := (mkF m 41 #[.val (.ref a1), .val (.ref a2), .val (.int (Int32.ofNat gF)), .val (.int (Int32.ofNat gT)), .val (.int (Int32.ofNat gE))] [(.ref a1), (.ref en)])) rfl rfl (hb hby d10_41)
  have K28 : Gx p e below s₁ f0 T27 (mkF m 44 #[.val (.ref a1), .val (.ref a2), .val (.int (Int32.ofNat gF)), .val (.int (Int32.ofNat gT)), .val (.int (Int32.ofNat gE))] [(.int (Int32.ofNat gN)), (.ref en)]) := fun t kt => K25 t (st27 t kt)
  have K29 : Gx p e below s₁ f0 T27 (mkF m 46 #[.val (.ref a1), .val (.ref a2), .val (.int (Int32.ofNat gF)), .val (.int (Int32.ofNat gT)), .val (.int (Int32.ofNat gE))] [(.int ((Int32.ofNat gN) - (1 : Int32))), (.ref en)]) := fun t kt => K28 t (by
    show Steps p.tables e below (T27.setTop (mkF m 44 #[.val (.ref a1), .val (.ref a2), .val (.int (Int32.ofNat gF)), .val (.int (Int32.ofNat gT)), .val (.int (Int32.ofNat gE))] [(.int (Int32.ofNat gN)), (.ref en)])) _
    refine XS.iconst X27.here hx rfl (hb hby d10_44) ?_
    show Steps p.tables e below (T27.setTop (mkF m 45 #[.val (.ref a1), .val (.ref a2), .val (.int (Int32.ofNat gF)), .val (.int (Int32.ofNat gT)), .val (.int (Int32.ofNat gE))] [(.int (1 : Int32)), (.int (Int32.ofNat gN)), (.ref en)])) _
    refine XS.isub X27.here hx rfl (hb hby d10_45) rfl ?_
    exact kt)
  rw [(own_dec hn.1)] at K29
  have K30 : Gx p e below s₁ f0 T27 (mkF m 50 #[.val (.ref a1), .val (.ref a2), .val (.int (Int32.ofNat gF)), .val (.int (Int32.ofNat gT)), .val (.int (Int32.ofNat gE))] [(.int ((Int32.ofNat gE) + (1 : Int32))), (.int (Int32.ofNat (gN - 1))), (.ref en)]) := fun t kt => K29 t (by
    show Steps p.tables e below (T27.setTop (mkF m 46 #[.val (.ref a1), .val (.ref a2), .val (.int (Int32.ofNat gF)), .val (.int (Int32.ofNat gT)), .val (.int (Int32.ofNat gE))] [(.int (Int32.ofNat (gN - 1))), (.ref en)])) _
    refine XS.iload X27.here hx rfl (hb hby d10_46) rfl ?_
    show Steps p.tables e below (T27.setTop (mkF m 48 #[.val (.ref a1), .val (.ref a2), .val (.int (Int32.ofNat gF)), .val (.int (Int32.ofNat gT)), .val (.int (Int32.ofNat gE))] [(.int (Int32.ofNat gE)), (.int (Int32.ofNat (gN - 1))), (.ref en)])) _
    refine XS.iconst X27.here hx rfl (hb hby d10_48) ?_
    show Steps p.tables e below (T27.setTop (mkF m 49 #[.val (.ref a1), .val (.ref a2), .val (.int (Int32.ofNat gF)), .val (.int (Int32.ofNat gT)), .val (.int (Int32.ofNat gE))] [(.int (1 : Int32)), (.int (Int32.ofNat gE)), (.int (Int32.ofNat (gN - 1))), (.ref en)])) _
    refine XS.iadd X27.here hx rfl (hb hby d10_49) rfl ?_
    exact kt)
  rw [(own_inc gE)] at K30
  have K31 : Gx p e below s₁ f0 T27 (mkF m 52 #[.val (.ref a1), .val (.ref a2), .val (.int (Int32.ofNat gF)), .val (.int (Int32.ofNat gT)), .val (.int (Int32.ofNat gE))] [(.int ((Int32.ofNat (gE + 1)) + (Int32.ofNat gT))), (.int (Int32.ofNat (gN - 1))), (.ref en)]) := fun t kt => K30 t (by
    show Steps p.tables e below (T27.setTop (mkF m 50 #[.val (.ref a1), .val (.ref a2), .val (.int (Int32.ofNat gF)), .val (.int (Int32.ofNat gT)), .val (.int (Int32.ofNat gE))] [(.int (Int32.ofNat (gE + 1))), (.int (Int32.ofNat (gN - 1))), (.ref en)])) _
    refine XS.iloadN X27.here hx rfl (hb hby d10_50) rfl ?_
    show Steps p.tables e below (T27.setTop (mkF m 51 #[.val (.ref a1), .val (.ref a2), .val (.int (Int32.ofNat gF)), .val (.int (Int32.ofNat gT)), .val (.int (Int32.ofNat gE))] [(.int (Int32.ofNat gT)), (.int (Int32.ofNat (gE + 1))), (.int (Int32.ofNat (gN - 1))), (.ref en)])) _
    refine XS.iadd X27.here hx rfl (hb hby d10_51) rfl ?_
    exact kt)
  rw [(own_add (gE + 1) gT)] at K31
  have K32 : Gx p e below s₁ f0 T27 (mkF m 54 #[.val (.ref a1), .val (.ref a2), .val (.int (Int32.ofNat gF)), .val (.int (Int32.ofNat gT)), .val (.int (Int32.ofNat gE))] [(.int ((Int32.ofNat (gE + 1 + gT)) - (Int32.ofNat gF))), (.int (Int32.ofNat (gN - 1))), (.ref en)]) := fun t kt => K31 t (by
    show Steps p.tables e below (T27.setTop (mkF m 52 #[.val (.ref a1), .val (.ref a2), .val (.int (Int32.ofNat gF)), .val (.int (Int32.ofNat gT)), .val (.int (Int32.ofNat gE))] [(.int (Int32.ofNat (gE + 1 + gT))), (.int (Int32.ofNat (gN - 1))), (.ref en)])) _
    refine XS.iloadN X27.here hx rfl (hb hby d10_52) rfl ?_
    show Steps p.tables e below (T27.setTop (mkF m 53 #[.val (.ref a1), .val (.ref a2), .val (.int (Int32.ofNat gF)), .val (.int (Int32.ofNat gT)), .val (.int (Int32.ofNat gE))] [(.int (Int32.ofNat gF)), (.int (Int32.ofNat (gE + 1 + gT))), (.int (Int32.ofNat (gN - 1))), (.ref en)])) _
    refine XS.isub X27.here hx rfl (hb hby d10_53) rfl ?_
    exact kt)
  rw [(own_sub (by omega))] at K32
  have f33 : Arv Z h18 en kC .int (16 : Int32) ve (.int (0 : Int32)) := ((pr8.other W10 pr25).keep Kc18 (ninS pr25 nin0))
  obtain ⟨clq34, Arq34, ckq34, cSq34, cNq34, cHq34, cGq34⟩ := id f33
  obtain ⟨T35, h35, X35', e35, W35, st35⟩ := stI X27 hx hZ e27 Arq34 (j := (Int32.ofNat (gN - 1))) (inb_of cSq34 (own_in16 (show (gN - 1) < 16 by omega))) (g := (mkF m 54 #[.val (.ref a1), .val (.ref a2), .val (.int (Int32.ofNat gF)), .val (.int (Int32.ofNat gT)), .val (.int (Int32.ofNat gE))] [(.int (Int32.ofNat (gE + 1 + gT - gF))), (.int (Int32.ofNat (gN - 1))), (.ref en)])) rfl rfl (hb hby d10_54)
  obtain ⟨lc35, X35, N35⟩ : ∃ lc, Stand p l e ({ frames := 1, cells := 0, slots := 0, locals := 18 } : Room) s m #[(.ref a1), (.ref a2), (.int p1), (.int p2)] below meth c T35 lc 0 0 ∧ Fr n0 lc := ⟨_, X35', Fr.snoc X35' N18 pr14⟩
  have V35 : Arv Z h35 en kC .int (16 : Int32) (ve.set (gN - 1) (.int (Int32.ofNat (gE + 1 + gT - gF)))) (.int (0 : Int32)) := Arv.set Arq34 ckq34 cSq34 cNq34 cHq34 cGq34 rfl W35 (gN - 1) (own_cl (by omega)) (by first | omega | (rw [List.length_set]; omega))
  have K36 : Gx p e below s₁ f0 T35 (mkF m 55 #[.val (.ref a1), .val (.ref a2), .val (.int (Int32.ofNat gF)), .val (.int (Int32.ofNat gT)), .val (.int (Int32.ofNat gE))] []) := fun t kt => K32 t (st35 t kt)
  have f38 : Arv Z h35 la kA (.object "com/example/fourfold/fourfold/Label") (16 : Int32) vl .null := (((pr6.other W10 pr22).keep Kc18 (ninS pr22 nin0)).other W35 pr21)
  have f39 : Arv Z h35 li kB .long (16 : Int32) vli (.long (0 : Int64)) := (((pr7.other W10 pr24).keep Kc18 (ninS pr24 nin0)).other W35 pr23)
  have f40 : Arv Z h35 tx kD .byte (1024 : Int32) vs18 (.int (0 : Int32)) := (V18'.other W35 (Ne.symm pr25))
  have kp41 : Keep h0 h35 [a1, la, li, en, tx] := ((Keep.trans ((Keep.refl h0 [a1, la, li, en, tx]).wr W10 (Or.inl (List.mem_of_getElem? (i := 4) rfl))) Kc18 (allS (Or.inl (List.mem_of_getElem? (i := 4) rfl)) all0)).wr W35 (Or.inl (List.mem_of_getElem? (i := 3) rfl)))
  have f42 : Exa Z h35 a1 "com/example/fourfold/fourfold/Record" := (((pr0.wr W10).keep Kc18).wr W35)
  have f43 : Fld Z h35 a1 "com/example/fourfold/fourfold/Record" "labels" "[Lcom/example/fourfold/fourfold/Label;" (.ref la) := (((pr1.other W10 (Or.inl pr19)).keep Kc18 (ninS pr19 nin0)).other W35 (Or.inl pr18))
  have f44 : Fld Z h35 a1 "com/example/fourfold/fourfold/Record" "lines" "[J" (.ref li) := (((pr2.other W10 (Or.inl pr19)).keep Kc18 (ninS pr19 nin0)).other W35 (Or.inl pr18))
  have f45 : Fld Z h35 a1 "com/example/fourfold/fourfold/Record" "ends" "[I" (.ref en) := (f22.other W35 (Or.inl pr18))
  have f46 : Fld Z h35 a1 "com/example/fourfold/fourfold/Record" "text" "[B" (.ref tx) := ((f13.keep Kc18 (ninS pr19 nin0)).other W35 (Or.inl pr18))
  have f47 : Fld Z h35 a1 "com/example/fourfold/fourfold/Record" "size" "I" (.int (Int32.ofNat gN)) := (f26.other W35 (Or.inl pr18))
  obtain ⟨fs37, hr37, hrun37, hended37, hW37, hsame37⟩ := X35.leave (v := none) (fun _ => rfl)
  refine ⟨_, _, pre0 _ (K36 _ ?_), hrun37, hended37, _, _, rfl, ?_, ⟨_, rfl⟩, hW37, hsame37.mono (by decide) (by decide)⟩
  · exact X35.returnOut hx Bd.returns (hb hby d10_55) hr37
  · show QCov Z a1 a2 p1 p2 la li en tx kA kB kC kD vl vli ve vt kb vb gF gT gN gE h0 n0 _ T35.heap _
    rw [e35]
    exact ⟨vl, vli, (ve.set (gN - 1) (.int (Int32.ofNat (gE + 1 + gT - gF)))), vs18, rfl, N35, kp41, f42, f43, f44, f45, f46, f47, f38, f39, V35, f40, hl1, hl2, (by rw [List.length_set]; exact hl3), (by rw [hvs18, own_len (by simp) (by rw [own_cl (by omega), own_cl (by omega), List.length_set]; omega), List.length_set]; exact hl4), (own_gs (by omega))⟩
theorem d5_0 : decode method_2_code 0 = .ok (.iload_n 1, 1) := by decide +kernel
theorem d5_1 : decode method_2_code 1 = .ok (.ifCond .ne 19, 3) := by decide +kernel
theorem d5_4 : decode method_2_code 4 = .ok (.aload_n 0, 1) := by decide +kernel
theorem d5_5 : decode method_2_code 5 = .ok (.aconst_null, 1) := by decide +kernel
theorem d5_6 : decode method_2_code 6 = .ok (.lload 6, 2) := by decide +kernel
theorem d5_8 : decode method_2_code 8 = .ok (.aload_n 3, 1) := by decide +kernel
theorem d5_9 : decode method_2_code 9 = .ok (.iload 4, 2) := by decide +kernel
theorem d5_11 : decode method_2_code 11 = .ok (.iload 5, 2) := by decide +kernel
theorem d5_13 : decode method_2_code 13 = .ok (.invokevirtual 7, 3) := by decide +kernel
theorem d5_16 : decode method_2_code 16 = .ok (.iload_n 2, 1) := by decide +kernel
theorem d5_17 : decode method_2_code 17 = .ok (.iconst 1, 1) := by decide +kernel
theorem d5_18 : decode method_2_code 18 = .ok (.iadd, 1) := by decide +kernel
theorem d5_19 : decode method_2_code 19 = .ok (.ireturn, 1) := by decide +kernel
theorem d5_20 : decode method_2_code 20 = .ok (.iload_n 1, 1) := by decide +kernel
theorem d5_21 : decode method_2_code 21 = .ok (.iconst 1, 1) := by decide +kernel
theorem d5_22 : decode method_2_code 22 = .ok (.if_icmp .ne 9, 3) := by decide +kernel
theorem d5_25 : decode method_2_code 25 = .ok (.aload_n 0, 1) := by decide +kernel
theorem d5_26 : decode method_2_code 26 = .ok (.invokevirtual 13, 3) := by decide +kernel
theorem d5_29 : decode method_2_code 29 = .ok (.iconst 0, 1) := by decide +kernel
theorem d5_30 : decode method_2_code 30 = .ok (.ireturn, 1) := by decide +kernel
theorem d5_31 : decode method_2_code 31 = .ok (.iload_n 1, 1) := by decide +kernel
theorem d5_32 : decode method_2_code 32 = .ok (.iconst 2, 1) := by decide +kernel
theorem d5_33 : decode method_2_code 33 = .ok (.if_icmp .ne 18, 3) := by decide +kernel
theorem d5_36 : decode method_2_code 36 = .ok (.iload_n 2, 1) := by decide +kernel
theorem d5_37 : decode method_2_code 37 = .ok (.ifCond .le 14, 3) := by decide +kernel
theorem d5_40 : decode method_2_code 40 = .ok (.aload_n 0, 1) := by decide +kernel
theorem d5_41 : decode method_2_code 41 = .ok (.aload_n 3, 1) := by decide +kernel
theorem d5_42 : decode method_2_code 42 = .ok (.iload 4, 2) := by decide +kernel
theorem d5_44 : decode method_2_code 44 = .ok (.iload 5, 2) := by decide +kernel
theorem d5_46 : decode method_2_code 46 = .ok (.invokevirtual 16, 3) := by decide +kernel
theorem d5_49 : decode method_2_code 49 = .ok (.iload_n 2, 1) := by decide +kernel
theorem d5_50 : decode method_2_code 50 = .ok (.ireturn, 1) := by decide +kernel
theorem d5_51 : decode method_2_code 51 = .ok (.iload_n 2, 1) := by decide +kernel
theorem d5_52 : decode method_2_code 52 = .ok (.ireturn, 1) := by decide +kernel
theorem pn_5 : plainName "com/example/fourfold/fourfold/RecordIsEmptyPinLaw" = true := by first | (simp [plainName, overriddenIn]; done) | decide +kernel
theorem pd__Lcom_example_fourfold_fourfold_Label_J_BII_V : parseMethodDescriptor "(Lcom/example/fourfold/fourfold/Label;J[BII)V" = some ⟨[(.object "com/example/fourfold/fourfold/Label"), .long, (.array .byte), .int, .int], none⟩ := by decide +kernel
theorem pd___V : parseMethodDescriptor "()V" = some ⟨[], none⟩ := by decide +kernel
theorem pd___BII_V : parseMethodDescriptor "([BII)V" = some ⟨[(.array .byte), .int, .int], none⟩ := by decide +kernel
theorem ef_Stp (m : MethodId) (a1 : Addr) (p1 : Int32) (p2 : Int32) (a2 : Addr) (p3 : Int32) (p4 : Int32) (jl : Int64) : entryFrame m #[(.ref a1), (.int p1), (.int p2), (.ref a2), (.int p3), (.int p4), (.long jl)] 8 = mkF m 0 #[.val (.ref a1), .val (.int p1), .val (.int p2), .val (.ref a2), .val (.int p3), .val (.int p4), .val (.long jl), .second] [] := by first | (simp [entryFrame, mkF, argsToLocals, Value.category]; done) | rfl
def QStp (Z : State) (a1 : Addr) (p1 : Int32) (p2 : Int32) (a2 : Addr) (p3 : Int32) (p4 : Int32) (jl : Int64) (la : Addr) (li : Addr) (en : Addr) (tx : Addr) (kA : ClassId) (kB : ClassId) (kC : ClassId) (kD : ClassId) (vl : List Value) (vli : List Value) (ve : List Value) (vt : List Value) (kb : ClassId) (vb : List Value) (gF : Nat) (gT : Nat) (gN : Nat) (gB : Nat) (h0 : Heap) (n0 : Nat) (v : Option Value) (h : Heap) (L : List Loc) : Prop := ∃ gM : Nat, ∃ vl2 : List Value, ∃ vli2 : List Value, ∃ ve2 : List Value, ∃ vt2 : List Value, v = some (.int (Int32.ofNat gM)) ∧ Fr n0 L ∧ Keep h0 h [a1, la, li, en, tx] ∧ Exa Z h a1 "com/example/fourfold/fourfold/Record" ∧ Fld Z h a1 "com/example/fourfold/fourfold/Record" "labels" "[Lcom/example/fourfold/fourfold/Label;" (.ref la) ∧ Fld Z h a1 "com/example/fourfold/fourfold/Record" "lines" "[J" (.ref li) ∧ Fld Z h a1 "com/example/fourfold/fourfold/Record" "ends" "[I" (.ref en) ∧ Fld Z h a1 "com/example/fourfold/fourfold/Record" "text" "[B" (.ref tx) ∧ Fld Z h a1 "com/example/fourfold/fourfold/Record" "size" "I" (.int (Int32.ofNat gM)) ∧ Arv Z h la kA (.object "com/example/fourfold/fourfold/Label") (16 : Int32) vl2 .null ∧ Arv Z h li kB .long (16 : Int32) vli2 (.long (0 : Int64)) ∧ Arv Z h en kC .int (16 : Int32) ve2 (.int (0 : Int32)) ∧ Arv Z h tx kD .byte (1024 : Int32) vt2 (.int (0 : Int32)) ∧ (vl2.length = 16) ∧ (vli2.length = 16) ∧ (ve2.length = 16) ∧ (vt2.length = 1024) ∧ (gM ≤ gN + 1) ∧ (gM = 0 ∨ (0 < gM ∧ ∃ gE, gE ≤ gB + 5 ∧ ve2.getD (gM - 1) (.int (0 : Int32)) = .int (Int32.ofNat gE)))
set_option maxRecDepth 65536 in
set_option maxHeartbeats 40000000 in
theorem rmStp (l : Launch) (Z : State) (a0 : Array Value) (hw : ∀ d ∈ tables_1, d.before a0 Z = true) (ws : List Jvm.Cond) (a1 : Addr) (p1 : Int32) (p2 : Int32) (a2 : Addr) (p3 : Int32) (p4 : Int32) (jl : Int64) (la : Addr) (li : Addr) (en : Addr) (tx : Addr) (kA : ClassId) (kB : ClassId) (kC : ClassId) (kD : ClassId) (vl : List Value) (vli : List Value) (ve : List Value) (vt : List Value) (kb : ClassId) (vb : List Value) (gF : Nat) (gT : Nat) (gN : Nat) (gB : Nat) (h0 : Heap) (n0 : Nat) (Z0 : n0 ≤ h0.size) (pr0 : Exa Z h0 a1 "com/example/fourfold/fourfold/Record") (pr1 : Fld Z h0 a1 "com/example/fourfold/fourfold/Record" "labels" "[Lcom/example/fourfold/fourfold/Label;" (.ref la)) (pr2 : Fld Z h0 a1 "com/example/fourfold/fourfold/Record" "lines" "[J" (.ref li)) (pr3 : Fld Z h0 a1 "com/example/fourfold/fourfold/Record" "ends" "[I" (.ref en)) (pr4 : Fld Z h0 a1 "com/example/fourfold/fourfold/Record" "text" "[B" (.ref tx)) (pr5 : Fld Z h0 a1 "com/example/fourfold/fourfold/Record" "size" "I" (.int (Int32.ofNat gN))) (pr6 : Arv Z h0 la kA (.object "com/example/fourfold/fourfold/Label") (16 : Int32) vl .null) (pr7 : Arv Z h0 li kB .long (16 : Int32) vli (.long (0 : Int64))) (pr8 : Arv Z h0 en kC .int (16 : Int32) ve (.int (0 : Int32))) (pr9 : Arv Z h0 tx kD .byte (1024 : Int32) vt (.int (0 : Int32))) (pr10 : Arv Z h0 a2 kb .byte (4 : Int32) vb (.int (0 : Int32))) (pr11 : n0 ≤ a1) (pr12 : n0 ≤ la) (pr13 : n0 ≤ li) (pr14 : n0 ≤ en) (pr15 : n0 ≤ tx) (pr16 : a1 ≠ la) (pr17 : a1 ≠ li) (pr18 : a1 ≠ en) (pr19 : a1 ≠ tx) (pr20 : la ≠ li) (pr21 : la ≠ en) (pr22 : la ≠ tx) (pr23 : li ≠ en) (pr24 : li ≠ tx) (pr25 : en ≠ tx) (pr26 : a2 ≠ tx) (pr27 : a2 ≠ a1) (pr28 : a2 ≠ la) (pr29 : a2 ≠ li) (pr30 : a2 ≠ en) (hl1 : vl.length = 16) (hl2 : vli.length = 16) (hl3 : ve.length = 16) (hl4 : vt.length = 1024) (hft : gF ≤ gT ∧ gT ≤ 4) (hp2 : p2 = Int32.ofNat gN) (hp3 : p3 = Int32.ofNat gF) (hp4 : p4 = Int32.ofNat gT) (hn : gN ≤ 3 ∧ gB ≤ 90) (he : gN = 0 ∨ (0 < gN ∧ ∃ gE, gE ≤ gB ∧ ve.getD (gN - 1) (.int (0 : Int32)) = .int (Int32.ofNat gE))) :
    MetFree l (⟨"com/example/fourfold/fourfold/RecordIsEmptyPinLaw", "step", "(Lcom/example/fourfold/fourfold/Record;II[BIIJ)I"⟩ : MethodName) (head1 (Jvm.Cond.code (⟨"com/example/fourfold/fourfold/RecordIsEmptyPinLaw", "step", "(Lcom/example/fourfold/fourfold/Record;II[BIIJ)I"⟩ : MethodName) method_2_code 8 (some .int) :: ws) ({ frames := 2, cells := 0, slots := 0, locals := 37 } : Room)) (fun a U => a = #[(.ref a1), (.int p1), (.int p2), (.ref a2), (.int p3), (.int p4), (.long jl)] ∧ Z.Warmed39 U.vm ∧ U.heap = h0) (fun _ _ _ _ _ => True) (fun _ U o U' => ∃ v L, o = .returned v ∧ QStp Z a1 p1 p2 a2 p3 p4 jl la li en tx kA kB kC kD vl vli ve vt kb vb gF gT gN gB h0 n0 v U'.heap L ∧ FrameEnd U o U' L ({ frames := 2, cells := 0, slots := 0, locals := 37 } : Room).cells ({ frames := 2, cells := 0, slots := 0, locals := 37 } : Room).slots) := by
  refine MetFree.of_bodySF (plainFor_of_name pn_5) hisR ?_
  intro p e s m args below meth c s₁ Bd hml0 hP hK
  obtain ⟨rfl, hZ, hh⟩ := hP
  have hx := Bd.exec
  have hby := Bd.bytes
  have hml : c.maxLocals = 8 := hml0
  have hown : s.vm.findClass "com/example/fourfold/fourfold/RecordIsEmptyPinLaw" = some m.cls := findClass_of_methodNamed Bd.named
  have hnm := (name_of_methodNamed Bd.named Bd.method).1
  have X0 : Stand p l e ({ frames := 2, cells := 0, slots := 0, locals := 37 } : Room) s m #[(.ref a1), (.int p1), (.int p2), (.ref a2), (.int p3), (.int p4), (.long jl)] below meth c s₁ [] 0 0 := Stand.of_body Bd
  have hs0 : h0 = s.heap := hh.symm
  have e0 : s₁.heap = h0 := by rw [← hh, Bd.state]; rfl
  have N0 := Fr.nil n0
  obtain ⟨f0, hf0⟩ : ∃ f, f = entryFrame m #[(.ref a1), (.int p1), (.int p2), (.ref a2), (.int p3), (.int p4), (.long jl)] 8 := ⟨_, rfl⟩
  have pre0 : ∀ t, Steps p.tables e below (s₁.setTop f0) t → Steps p.tables e below (s₁.setTop (entryFrame m #[(.ref a1), (.int p1), (.int p2), (.ref a2), (.int p3), (.int p4), (.long jl)] 8)) t := fun t k => hf0 ▸ k
  have K0 : Gx p e below s₁ f0 s₁ (mkF m 0 #[.val (.ref a1), .val (.int p1), .val (.int p2), .val (.ref a2), .val (.int p3), .val (.int p4), .val (.long jl), .second] []) := fun t kt => by rw [hf0]; exact castTop (ef_Stp m a1 p1 p2 a2 p3 p4 jl) kt
  rw [hp2] at K0
  have K1 : Gx p e below s₁ f0 s₁ (mkF m 1 #[.val (.ref a1), .val (.int p1), .val (.int (Int32.ofNat gN)), .val (.ref a2), .val (.int p3), .val (.int p4), .val (.long jl), .second] [(.int p1)]) := fun t kt => K0 t (by
    show Steps p.tables e below (s₁.setTop (mkF m 0 #[.val (.ref a1), .val (.int p1), .val (.int (Int32.ofNat gN)), .val (.ref a2), .val (.int p3), .val (.int p4), .val (.long jl), .second] [])) _
    refine XS.iloadN X0.here hx rfl (hb hby d5_0) rfl ?_
    exact kt)
  by_cases hb2 : p1 = (0 : Int32)
  · skip
    obtain ⟨gE, heB, hee⟩ : ∃ gE, gE ≤ gB ∧ ((gN = 0 ∧ gE = 0) ∨ (0 < gN ∧ ve.getD (gN - 1) (.int (0 : Int32)) = .int (Int32.ofNat gE))) := by
      rcases he with h | ⟨h, gE, h1, h2⟩
      · exact ⟨0, Nat.zero_le _, Or.inl ⟨h, rfl⟩⟩
      · exact ⟨gE, h1, Or.inr ⟨h, h2⟩⟩
    have K3 : Gx p e below s₁ f0 s₁ (mkF m 13 #[.val (.ref a1), .val (.int p1), .val (.int (Int32.ofNat gN)), .val (.ref a2), .val (.int p3), .val (.int p4), .val (.long jl), .second] [(.int p4), (.int p3), (.ref a2), (.long jl), .null, (.ref a1)]) := fun t kt => K1 t (by
      show Steps p.tables e below (s₁.setTop (mkF m 1 #[.val (.ref a1), .val (.int p1), .val (.int (Int32.ofNat gN)), .val (.ref a2), .val (.int p3), .val (.int p4), .val (.long jl), .second] [(.int p1)])) _
      refine XS.ifNo X0.here hx rfl (hb hby d5_1) rfl ((if0 _ _).trans (teq hb2).2) ?_
      show Steps p.tables e below (s₁.setTop (mkF m 4 #[.val (.ref a1), .val (.int p1), .val (.int (Int32.ofNat gN)), .val (.ref a2), .val (.int p3), .val (.int p4), .val (.long jl), .second] [])) _
      refine XS.aloadN X0.here hx rfl (hb hby d5_4) rfl rfl ?_
      show Steps p.tables e below (s₁.setTop (mkF m 5 #[.val (.ref a1), .val (.int p1), .val (.int (Int32.ofNat gN)), .val (.ref a2), .val (.int p3), .val (.int p4), .val (.long jl), .second] [(.ref a1)])) _
      refine XS.aconstNull X0.here hx rfl (hb hby d5_5) ?_
      show Steps p.tables e below (s₁.setTop (mkF m 6 #[.val (.ref a1), .val (.int p1), .val (.int (Int32.ofNat gN)), .val (.ref a2), .val (.int p3), .val (.int p4), .val (.long jl), .second] [.null, (.ref a1)])) _
      refine XS.lload X0.here hx rfl (hb hby d5_6) rfl ?_
      show Steps p.tables e below (s₁.setTop (mkF m 8 #[.val (.ref a1), .val (.int p1), .val (.int (Int32.ofNat gN)), .val (.ref a2), .val (.int p3), .val (.int p4), .val (.long jl), .second] [(.long jl), .null, (.ref a1)])) _
      refine XS.aloadN X0.here hx rfl (hb hby d5_8) rfl rfl ?_
      show Steps p.tables e below (s₁.setTop (mkF m 9 #[.val (.ref a1), .val (.int p1), .val (.int (Int32.ofNat gN)), .val (.ref a2), .val (.int p3), .val (.int p4), .val (.long jl), .second] [(.ref a2), (.long jl), .null, (.ref a1)])) _
      refine XS.iload X0.here hx rfl (hb hby d5_9) rfl ?_
      show Steps p.tables e below (s₁.setTop (mkF m 11 #[.val (.ref a1), .val (.int p1), .val (.int (Int32.ofNat gN)), .val (.ref a2), .val (.int p3), .val (.int p4), .val (.long jl), .second] [(.int p3), (.ref a2), (.long jl), .null, (.ref a1)])) _
      refine XS.iload X0.here hx rfl (hb hby d5_11) rfl ?_
      exact kt)
    obtain ⟨cq4, kq4, q4a, q4b, q4c⟩ := isOf hZ e0 pr0
    obtain ⟨_, _, ⟨T4, L4, k4, n4⟩, -, X4', ⟨Lc4, hQ4, l4, y4, z4⟩, st4⟩ := X0.virtualBack hx (y := (⟨"com/example/fourfold/fourfold/Record", "startElement", "(Lcom/example/fourfold/fourfold/Label;J[BII)V"⟩ : MethodName)) (z := (⟨"com/example/fourfold/fourfold/Record", "startElement", "(Lcom/example/fourfold/fourfold/Label;J[BII)V"⟩ : MethodName)) hown (mvT hZ (hw _ (List.mem_of_getElem? (i := 37) rfl))) (mvT hZ (hw _ (List.mem_of_getElem? (i := 38) rfl))) (notFace_of_selects (args := #[]) (mvT hZ (hw _ (List.mem_of_getElem? (i := 40) rfl)))) (mvT hZ (hw _ (List.mem_of_getElem? (i := 40) rfl))) (mvT hZ (hw _ (List.mem_of_getElem? (i := 39) rfl))) (by decide) (backOf (W := 0) (rmSte l Z a0 hw [] a1 jl a2 p3 p4 la li en tx kA kB kC kD vl vli ve vt kb vb gF gT gN gE h0 n0 (Nat.le_trans Z0 (Keep.refl h0 [a1, la, li, en, tx]).1) pr0 pr1 pr2 pr3 pr4 pr5 pr6 pr7 pr8 pr9 pr10 pr11 pr12 pr13 pr14 pr15 pr16 pr17 pr18 pr19 pr20 pr21 pr22 pr23 pr24 pr25 pr26 pr27 pr28 pr29 pr30 hl1 hl2 hl3 hl4 hft hp3 hp4 ⟨by omega, by omega⟩ hee) hZ (hw _ (List.mem_of_getElem? (i := 41) rfl)) (hw _ (List.mem_of_getElem? (i := 7) rfl)) (by decide) (by decide)) q4a q4c (g := (mkF m 13 #[.val (.ref a1), .val (.int p1), .val (.int (Int32.ofNat gN)), .val (.ref a2), .val (.int p3), .val (.int p4), .val (.long jl), .second] [(.int p4), (.int p3), (.ref a2), (.long jl), .null, (.ref a1)])) rfl (by rw [hml]; rfl) (Steps.refl _) (argsL := [.null, (.long jl), (.ref a2), (.int p3), (.int p4)]) (rest := []) (lenOf pd__Lcom_example_fourfold_fourfold_Label_J_BII_V rfl) rfl (by show 2 * 0 + _ ≤ _; exact Nat.le_of_eq rfl) (hb hby d5_13) (fun _ _ => ⟨rfl, e0, (by decide : 0 + 0 ≤ _), (by decide : 0 + 0 ≤ _)⟩)
    dsimp only [Pt.U, Pt.locs, Pt.cells, Pt.slots] at X4' l4 y4 z4 st4 hQ4
    subst l4 y4 z4
    obtain ⟨h4, e4⟩ : ∃ z, T4.heap = z := ⟨_, rfl⟩
    rw [e4] at hQ4
    obtain ⟨vl2_4, vli2_4, ve2_4, vt2_4, rfl, N4q, Kc4, f5, f6, f7, f8, f9, f10, f11, f12, f13, f14, f15, f16, f17, f18, f19⟩ := hQ4
    obtain ⟨lc4, X4, N4⟩ : ∃ lc, Stand p l e ({ frames := 2, cells := 0, slots := 0, locals := 37 } : Room) s m #[(.ref a1), (.int p1), (.int p2), (.ref a2), (.int p3), (.int p4), (.long jl)] below meth c T4 lc 0 0 ∧ Fr n0 lc := ⟨_, X4', Fr.app N0 N4q⟩
    have K20 : Gx p e below s₁ f0 T4 (mkF m 16 #[.val (.ref a1), .val (.int p1), .val (.int (Int32.ofNat gN)), .val (.ref a2), .val (.int p3), .val (.int p4), .val (.long jl), .second] []) := fun t kt => K3 t (st4.trans kt)
    have K21 : Gx p e below s₁ f0 T4 (mkF m 19 #[.val (.ref a1), .val (.int p1), .val (.int (Int32.ofNat gN)), .val (.ref a2), .val (.int p3), .val (.int p4), .val (.long jl), .second] [(.int ((Int32.ofNat gN) + (1 : Int32)))]) := fun t kt => K20 t (by
      show Steps p.tables e below (T4.setTop (mkF m 16 #[.val (.ref a1), .val (.int p1), .val (.int (Int32.ofNat gN)), .val (.ref a2), .val (.int p3), .val (.int p4), .val (.long jl), .second] [])) _
      refine XS.iloadN X4.here hx rfl (hb hby d5_16) rfl ?_
      show Steps p.tables e below (T4.setTop (mkF m 17 #[.val (.ref a1), .val (.int p1), .val (.int (Int32.ofNat gN)), .val (.ref a2), .val (.int p3), .val (.int p4), .val (.long jl), .second] [(.int (Int32.ofNat gN))])) _
      refine XS.iconst X4.here hx rfl (hb hby d5_17) ?_
      show Steps p.tables e below (T4.setTop (mkF m 18 #[.val (.ref a1), .val (.int p1), .val (.int (Int32.ofNat gN)), .val (.ref a2), .val (.int p3), .val (.int p4), .val (.long jl), .second] [(.int (1 : Int32)), (.int (Int32.ofNat gN))])) _
      refine XS.iadd X4.here hx rfl (hb hby d5_18) rfl ?_
      exact kt)
    rw [(own_inc gN)] at K21
    have kp23 : Keep h0 h4 [a1, la, li, en, tx] := (Keep.trans (Keep.refl h0 [a1, la, li, en, tx]) Kc4 (allS (Or.inl (List.mem_of_getElem? (i := 0) rfl)) (allS (Or.inl (List.mem_of_getElem? (i := 1) rfl)) (allS (Or.inl (List.mem_of_getElem? (i := 2) rfl)) (allS (Or.inl (List.mem_of_getElem? (i := 3) rfl)) (allS (Or.inl (List.mem_of_getElem? (i := 4) rfl)) all0))))))
    obtain ⟨fs22, hr22, hrun22, hended22, hW22, hsame22⟩ := X4.leave (v := some (.int (Int32.ofNat (gN + 1)))) (fun h => by rw [Bd.returns] at h; cases h)
    refine ⟨_, _, pre0 _ (K21 _ ?_), hrun22, hended22, _, _, rfl, ?_, ⟨_, rfl⟩, hW22, hsame22.mono (by decide) (by decide)⟩
    · exact retI X4 hx Bd.returns (hb hby d5_19) hr22
    · show QStp Z a1 p1 p2 a2 p3 p4 jl la li en tx kA kB kC kD vl vli ve vt kb vb gF gT gN gB h0 n0 _ T4.heap _
      rw [e4]
      exact ⟨(gN + 1), vl2_4, vli2_4, ve2_4, vt2_4, rfl, N4, kp23, f5, f6, f7, f8, f9, f10, f11, f12, f13, f14, f15, f16, f17, f18, (by omega), (Or.inr ⟨by omega, _, (by omega : gE + gT - gF ≤ gB + 5), f19⟩)⟩
  · skip
    have K24 : Gx p e below s₁ f0 s₁ (mkF m 22 #[.val (.ref a1), .val (.int p1), .val (.int (Int32.ofNat gN)), .val (.ref a2), .val (.int p3), .val (.int p4), .val (.long jl), .second] [(.int (1 : Int32)), (.int p1)]) := fun t kt => K1 t (by
      show Steps p.tables e below (s₁.setTop (mkF m 1 #[.val (.ref a1), .val (.int p1), .val (.int (Int32.ofNat gN)), .val (.ref a2), .val (.int p3), .val (.int p4), .val (.long jl), .second] [(.int p1)])) _
      refine XS.ifYes X0.here hx rfl (pc0 := 1) (pc' := 20) rfl (hb hby d5_1) rfl ((if0 _ _).trans (feq hb2).2) (by decide) (by decide) ?_
      show Steps p.tables e below (s₁.setTop (mkF m 20 #[.val (.ref a1), .val (.int p1), .val (.int (Int32.ofNat gN)), .val (.ref a2), .val (.int p3), .val (.int p4), .val (.long jl), .second] [])) _
      refine XS.iloadN X0.here hx rfl (hb hby d5_20) rfl ?_
      show Steps p.tables e below (s₁.setTop (mkF m 21 #[.val (.ref a1), .val (.int p1), .val (.int (Int32.ofNat gN)), .val (.ref a2), .val (.int p3), .val (.int p4), .val (.long jl), .second] [(.int p1)])) _
      refine XS.iconst X0.here hx rfl (hb hby d5_21) ?_
      exact kt)
    by_cases hb25 : p1 = (1 : Int32)
    · skip
      have K26 : Gx p e below s₁ f0 s₁ (mkF m 26 #[.val (.ref a1), .val (.int p1), .val (.int (Int32.ofNat gN)), .val (.ref a2), .val (.int p3), .val (.int p4), .val (.long jl), .second] [(.ref a1)]) := fun t kt => K24 t (by
        show Steps p.tables e below (s₁.setTop (mkF m 22 #[.val (.ref a1), .val (.int p1), .val (.int (Int32.ofNat gN)), .val (.ref a2), .val (.int p3), .val (.int p4), .val (.long jl), .second] [(.int (1 : Int32)), (.int p1)])) _
        refine XS.icmpNo X0.here hx rfl (hb hby d5_22) rfl (teq hb25).2 ?_
        show Steps p.tables e below (s₁.setTop (mkF m 25 #[.val (.ref a1), .val (.int p1), .val (.int (Int32.ofNat gN)), .val (.ref a2), .val (.int p3), .val (.int p4), .val (.long jl), .second] [])) _
        refine XS.aloadN X0.here hx rfl (hb hby d5_25) rfl rfl ?_
        exact kt)
      obtain ⟨cq27, kq27, q27a, q27b, q27c⟩ := isOf hZ e0 pr0
      obtain ⟨_, _, ⟨T27, L27, k27, n27⟩, -, X27', ⟨Lc27, hQ27, l27, y27, z27⟩, st27⟩ := X0.virtualBack hx (y := (⟨"com/example/fourfold/fourfold/Record", "clear", "()V"⟩ : MethodName)) (z := (⟨"com/example/fourfold/fourfold/Record", "clear", "()V"⟩ : MethodName)) hown (mvT hZ (hw _ (List.mem_of_getElem? (i := 55) rfl))) (mvT hZ (hw _ (List.mem_of_getElem? (i := 56) rfl))) (notFace_of_selects (args := #[]) (mvT hZ (hw _ (List.mem_of_getElem? (i := 58) rfl)))) (mvT hZ (hw _ (List.mem_of_getElem? (i := 58) rfl))) (mvT hZ (hw _ (List.mem_of_getElem? (i := 57) rfl))) (by decide) (backOf (W := 0) (rmClr l Z a0 hw [] a1 la li en tx (Int32.ofNat gN) h0 n0 (Nat.le_trans Z0 (Keep.refl h0 [a1, la, li, en, tx]).1) pr0 pr1 pr2 pr3 pr4 pr5 pr11) hZ (hw _ (List.mem_of_getElem? (i := 59) rfl)) (hw _ (List.mem_of_getElem? (i := 7) rfl)) (by decide) (by decide)) q27a q27c (g := (mkF m 26 #[.val (.ref a1), .val (.int p1), .val (.int (Int32.ofNat gN)), .val (.ref a2), .val (.int p3), .val (.int p4), .val (.long jl), .second] [(.ref a1)])) rfl (by rw [hml]; rfl) (Steps.refl _) (argsL := []) (rest := []) (lenOf pd___V rfl) rfl (by show 2 * 0 + _ ≤ _; exact Nat.le_of_eq rfl) (hb hby d5_26) (fun _ _ => ⟨rfl, e0, (by decide : 0 + 0 ≤ _), (by decide : 0 + 0 ≤ _)⟩)
      dsimp only [Pt.U, Pt.locs, Pt.cells, Pt.slots] at X27' l27 y27 z27 st27 hQ27
      subst l27 y27 z27
      obtain ⟨h27, e27⟩ : ∃ z, T27.heap = z := ⟨_, rfl⟩
      rw [e27] at hQ27
      obtain ⟨rfl, N27q, Kc27, f28, f29, f30, f31, f32, f33⟩ := hQ27
      obtain ⟨lc27, X27, N27⟩ : ∃ lc, Stand p l e ({ frames := 2, cells := 0, slots := 0, locals := 37 } : Room) s m #[(.ref a1), (.int p1), (.int p2), (.ref a2), (.int p3), (.int p4), (.long jl)] below meth c T27 lc 0 0 ∧ Fr n0 lc := ⟨_, X27', Fr.app N0 N27q⟩
      have K34 : Gx p e below s₁ f0 T27 (mkF m 29 #[.val (.ref a1), .val (.int p1), .val (.int (Int32.ofNat gN)), .val (.ref a2), .val (.int p3), .val (.int p4), .val (.long jl), .second] []) := fun t kt => K26 t (st27.trans kt)
      have K35 : Gx p e below s₁ f0 T27 (mkF m 30 #[.val (.ref a1), .val (.int p1), .val (.int (Int32.ofNat gN)), .val (.ref a2), .val (.int p3), .val (.int p4), .val (.long jl), .second] [(.int (0 : Int32))]) := fun t kt => K34 t (by
        show Steps p.tables e below (T27.setTop (mkF m 29 #[.val (.ref a1), .val (.int p1), .val (.int (Int32.ofNat gN)), .val (.ref a2), .val (.int p3), .val (.int p4), .val (.long jl), .second] [])) _
        refine XS.iconst X27.here hx rfl (hb hby d5_29) ?_
        exact kt)
      have f37 : Arv Z h27 la kA (.object "com/example/fourfold/fourfold/Label") (16 : Int32) vl .null := (pr6.keep Kc27 (ninS (Ne.symm pr16) nin0))
      have f38 : Arv Z h27 li kB .long (16 : Int32) vli (.long (0 : Int64)) := (pr7.keep Kc27 (ninS (Ne.symm pr17) nin0))
      have f39 : Arv Z h27 en kC .int (16 : Int32) ve (.int (0 : Int32)) := (pr8.keep Kc27 (ninS (Ne.symm pr18) nin0))
      have f40 : Arv Z h27 tx kD .byte (1024 : Int32) vt (.int (0 : Int32)) := (pr9.keep Kc27 (ninS (Ne.symm pr19) nin0))
      have kp41 : Keep h0 h27 [a1, la, li, en, tx] := (Keep.trans (Keep.refl h0 [a1, la, li, en, tx]) Kc27 (allS (Or.inl (List.mem_of_getElem? (i := 0) rfl)) all0))
      obtain ⟨fs36, hr36, hrun36, hended36, hW36, hsame36⟩ := X27.leave (v := some (.int (0 : Int32))) (fun h => by rw [Bd.returns] at h; cases h)
      refine ⟨_, _, pre0 _ (K35 _ ?_), hrun36, hended36, _, _, rfl, ?_, ⟨_, rfl⟩, hW36, hsame36.mono (by decide) (by decide)⟩
      · exact retI X27 hx Bd.returns (hb hby d5_30) hr36
      · show QStp Z a1 p1 p2 a2 p3 p4 jl la li en tx kA kB kC kD vl vli ve vt kb vb gF gT gN gB h0 n0 _ T27.heap _
        rw [e27]
        exact ⟨0, vl, vli, ve, vt, (congrArg some (congrArg Value.int (by first | (simp only [if_pos hl1, if_pos hl2, if_pos hl3, if_pos hl4, if_pos hft, if_pos hp2, if_pos hp3, if_pos hp4, if_pos hn, if_pos he, if_neg hb2, if_pos hb25]; done) | rfl))), N27, kp41, f28, f29, f30, f31, f32, f33, f37, f38, f39, f40, hl1, hl2, hl3, hl4, (by omega), (Or.inl rfl)⟩
    · skip
      have K42 : Gx p e below s₁ f0 s₁ (mkF m 33 #[.val (.ref a1), .val (.int p1), .val (.int (Int32.ofNat gN)), .val (.ref a2), .val (.int p3), .val (.int p4), .val (.long jl), .second] [(.int (2 : Int32)), (.int p1)]) := fun t kt => K24 t (by
        show Steps p.tables e below (s₁.setTop (mkF m 22 #[.val (.ref a1), .val (.int p1), .val (.int (Int32.ofNat gN)), .val (.ref a2), .val (.int p3), .val (.int p4), .val (.long jl), .second] [(.int (1 : Int32)), (.int p1)])) _
        refine XS.icmpYes X0.here hx rfl (pc0 := 22) (pc' := 31) rfl (hb hby d5_22) rfl (feq hb25).2 (by decide) (by decide) ?_
        show Steps p.tables e below (s₁.setTop (mkF m 31 #[.val (.ref a1), .val (.int p1), .val (.int (Int32.ofNat gN)), .val (.ref a2), .val (.int p3), .val (.int p4), .val (.long jl), .second] [])) _
        refine XS.iloadN X0.here hx rfl (hb hby d5_31) rfl ?_
        show Steps p.tables e below (s₁.setTop (mkF m 32 #[.val (.ref a1), .val (.int p1), .val (.int (Int32.ofNat gN)), .val (.ref a2), .val (.int p3), .val (.int p4), .val (.long jl), .second] [(.int p1)])) _
        refine XS.iconst X0.here hx rfl (hb hby d5_32) ?_
        exact kt)
      by_cases hb43 : p1 = (2 : Int32)
      · skip
        have K44 : Gx p e below s₁ f0 s₁ (mkF m 37 #[.val (.ref a1), .val (.int p1), .val (.int (Int32.ofNat gN)), .val (.ref a2), .val (.int p3), .val (.int p4), .val (.long jl), .second] [(.int (Int32.ofNat gN))]) := fun t kt => K42 t (by
          show Steps p.tables e below (s₁.setTop (mkF m 33 #[.val (.ref a1), .val (.int p1), .val (.int (Int32.ofNat gN)), .val (.ref a2), .val (.int p3), .val (.int p4), .val (.long jl), .second] [(.int (2 : Int32)), (.int p1)])) _
          refine XS.icmpNo X0.here hx rfl (hb hby d5_33) rfl (teq hb43).2 ?_
          show Steps p.tables e below (s₁.setTop (mkF m 36 #[.val (.ref a1), .val (.int p1), .val (.int (Int32.ofNat gN)), .val (.ref a2), .val (.int p3), .val (.int p4), .val (.long jl), .second] [])) _
          refine XS.iloadN X0.here hx rfl (hb hby d5_36) rfl ?_
          exact kt)
        by_cases hb45 : (0 : Int32) < (Int32.ofNat gN)
        · skip
          have hn0 : 0 < gN := Nat.pos_of_ne_zero fun z => absurd hb45 (by rw [z]; decide)
          obtain ⟨gE, heB, hee⟩ : ∃ gE, gE ≤ gB ∧ ve.getD (gN - 1) (.int (0 : Int32)) = .int (Int32.ofNat gE) := by rcases he with h | ⟨h, h1⟩; exact absurd h (by omega); exact h1
          have K46 : Gx p e below s₁ f0 s₁ (mkF m 46 #[.val (.ref a1), .val (.int p1), .val (.int (Int32.ofNat gN)), .val (.ref a2), .val (.int p3), .val (.int p4), .val (.long jl), .second] [(.int p4), (.int p3), (.ref a2), (.ref a1)]) := fun t kt => K44 t (by
            show Steps p.tables e below (s₁.setTop (mkF m 37 #[.val (.ref a1), .val (.int p1), .val (.int (Int32.ofNat gN)), .val (.ref a2), .val (.int p3), .val (.int p4), .val (.long jl), .second] [(.int (Int32.ofNat gN))])) _
            refine XS.ifNo X0.here hx rfl (hb hby d5_37) rfl ((if0 _ _).trans (tlt hb45).2.2.2) ?_
            show Steps p.tables e below (s₁.setTop (mkF m 40 #[.val (.ref a1), .val (.int p1), .val (.int (Int32.ofNat gN)), .val (.ref a2), .val (.int p3), .val (.int p4), .val (.long jl), .second] [])) _
            refine XS.aloadN X0.here hx rfl (hb hby d5_40) rfl rfl ?_
            show Steps p.tables e below (s₁.setTop (mkF m 41 #[.val (.ref a1), .val (.int p1), .val (.int (Int32.ofNat gN)), .val (.ref a2), .val (.int p3), .val (.int p4), .val (.long jl), .second] [(.ref a1)])) _
            refine XS.aloadN X0.here hx rfl (hb hby d5_41) rfl rfl ?_
            show Steps p.tables e below (s₁.setTop (mkF m 42 #[.val (.ref a1), .val (.int p1), .val (.int (Int32.ofNat gN)), .val (.ref a2), .val (.int p3), .val (.int p4), .val (.long jl), .second] [(.ref a2), (.ref a1)])) _
            refine XS.iload X0.here hx rfl (hb hby d5_42) rfl ?_
            show Steps p.tables e below (s₁.setTop (mkF m 44 #[.val (.ref a1), .val (.int p1), .val (.int (Int32.ofNat gN)), .val (.ref a2), .val (.int p3), .val (.int p4), .val (.long jl), .second] [(.int p3), (.ref a2), (.ref a1)])) _
            refine XS.iload X0.here hx rfl (hb hby d5_44) rfl ?_
            exact kt)
          obtain ⟨cq47, kq47, q47a, q47b, q47c⟩ := isOf hZ e0 pr0
          obtain ⟨_, _, ⟨T47, L47, k47, n47⟩, -, X47', ⟨Lc47, hQ47, l47, y47, z47⟩, st47⟩ := X0.virtualBack hx (y := (⟨"com/example/fourfold/fourfold/Record", "continueValue", "([BII)V"⟩ : MethodName)) (z := (⟨"com/example/fourfold/fourfold/Record", "continueValue", "([BII)V"⟩ : MethodName)) hown (mvT hZ (hw _ (List.mem_of_getElem? (i := 60) rfl))) (mvT hZ (hw _ (List.mem_of_getElem? (i := 61) rfl))) (notFace_of_selects (args := #[]) (mvT hZ (hw _ (List.mem_of_getElem? (i := 63) rfl)))) (mvT hZ (hw _ (List.mem_of_getElem? (i := 63) rfl))) (mvT hZ (hw _ (List.mem_of_getElem? (i := 62) rfl))) (by decide) (backOf (W := 0) (rmCov l Z a0 hw [] a1 a2 p3 p4 la li en tx kA kB kC kD vl vli ve vt kb vb gF gT gN gE h0 n0 (Nat.le_trans Z0 (Keep.refl h0 [a1, la, li, en, tx]).1) pr0 pr1 pr2 pr3 pr4 pr5 pr6 pr7 pr8 pr9 pr10 pr11 pr12 pr13 pr14 pr15 pr16 pr17 pr18 pr19 pr20 pr21 pr22 pr23 pr24 pr25 pr26 pr27 pr28 pr29 pr30 hl1 hl2 hl3 hl4 hft hp3 hp4 ⟨hn0, by omega, by omega⟩ hee) hZ (hw _ (List.mem_of_getElem? (i := 64) rfl)) (hw _ (List.mem_of_getElem? (i := 7) rfl)) (by decide) (by decide)) q47a q47c (g := (mkF m 46 #[.val (.ref a1), .val (.int p1), .val (.int (Int32.ofNat gN)), .val (.ref a2), .val (.int p3), .val (.int p4), .val (.long jl), .second] [(.int p4), (.int p3), (.ref a2), (.ref a1)])) rfl (by rw [hml]; rfl) (Steps.refl _) (argsL := [(.ref a2), (.int p3), (.int p4)]) (rest := []) (lenOf pd___BII_V rfl) rfl (by show 2 * 0 + _ ≤ _; exact Nat.le_of_eq rfl) (hb hby d5_46) (fun _ _ => ⟨rfl, e0, (by decide : 0 + 0 ≤ _), (by decide : 0 + 0 ≤ _)⟩)
          dsimp only [Pt.U, Pt.locs, Pt.cells, Pt.slots] at X47' l47 y47 z47 st47 hQ47
          subst l47 y47 z47
          obtain ⟨h47, e47⟩ : ∃ z, T47.heap = z := ⟨_, rfl⟩
          rw [e47] at hQ47
          obtain ⟨vl2_47, vli2_47, ve2_47, vt2_47, rfl, N47q, Kc47, f48, f49, f50, f51, f52, f53, f54, f55, f56, f57, f58, f59, f60, f61, f62⟩ := hQ47
          obtain ⟨lc47, X47, N47⟩ : ∃ lc, Stand p l e ({ frames := 2, cells := 0, slots := 0, locals := 37 } : Room) s m #[(.ref a1), (.int p1), (.int p2), (.ref a2), (.int p3), (.int p4), (.long jl)] below meth c T47 lc 0 0 ∧ Fr n0 lc := ⟨_, X47', Fr.app N0 N47q⟩
          have K63 : Gx p e below s₁ f0 T47 (mkF m 49 #[.val (.ref a1), .val (.int p1), .val (.int (Int32.ofNat gN)), .val (.ref a2), .val (.int p3), .val (.int p4), .val (.long jl), .second] []) := fun t kt => K46 t (st47.trans kt)
          have K64 : Gx p e below s₁ f0 T47 (mkF m 50 #[.val (.ref a1), .val (.int p1), .val (.int (Int32.ofNat gN)), .val (.ref a2), .val (.int p3), .val (.int p4), .val (.long jl), .second] [(.int (Int32.ofNat gN))]) := fun t kt => K63 t (by
            show Steps p.tables e below (T47.setTop (mkF m 49 #[.val (.ref a1), .val (.int p1), .val (.int (Int32.ofNat gN)), .val (.ref a2), .val (.int p3), .val (.int p4), .val (.long jl), .second] [])) _
            refine XS.iloadN X47.here hx rfl (hb hby d5_49) rfl ?_
            exact kt)
          have kp66 : Keep h0 h47 [a1, la, li, en, tx] := (Keep.trans (Keep.refl h0 [a1, la, li, en, tx]) Kc47 (allS (Or.inl (List.mem_of_getElem? (i := 0) rfl)) (allS (Or.inl (List.mem_of_getElem? (i := 1) rfl)) (allS (Or.inl (List.mem_of_getElem? (i := 2) rfl)) (allS (Or.inl (List.mem_of_getElem? (i := 3) rfl)) (allS (Or.inl (List.mem_of_getElem? (i := 4) rfl)) all0))))))
          obtain ⟨fs65, hr65, hrun65, hended65, hW65, hsame65⟩ := X47.leave (v := some (.int (Int32.ofNat gN))) (fun h => by rw [Bd.returns] at h; cases h)
          refine ⟨_, _, pre0 _ (K64 _ ?_), hrun65, hended65, _, _, rfl, ?_, ⟨_, rfl⟩, hW65, hsame65.mono (by decide) (by decide)⟩
          · exact retI X47 hx Bd.returns (hb hby d5_50) hr65
          · show QStp Z a1 p1 p2 a2 p3 p4 jl la li en tx kA kB kC kD vl vli ve vt kb vb gF gT gN gB h0 n0 _ T47.heap _
            rw [e47]
            exact ⟨gN, vl2_47, vli2_47, ve2_47, vt2_47, rfl, N47, kp66, f48, f49, f50, f51, f52, f53, f54, f55, f56, f57, f58, f59, f60, f61, (by omega), (Or.inr ⟨by omega, _, (by omega : gE + 1 + gT - gF ≤ gB + 5), f62⟩)⟩
        · skip
          have K67 : Gx p e below s₁ f0 s₁ (mkF m 52 #[.val (.ref a1), .val (.int p1), .val (.int (Int32.ofNat gN)), .val (.ref a2), .val (.int p3), .val (.int p4), .val (.long jl), .second] [(.int (Int32.ofNat gN))]) := fun t kt => K44 t (by
            show Steps p.tables e below (s₁.setTop (mkF m 37 #[.val (.ref a1), .val (.int p1), .val (.int (Int32.ofNat gN)), .val (.ref a2), .val (.int p3), .val (.int p4), .val (.long jl), .second] [(.int (Int32.ofNat gN))])) _
            refine XS.ifYes X0.here hx rfl (pc0 := 37) (pc' := 51) rfl (hb hby d5_37) rfl ((if0 _ _).trans (flt hb45).2.2.2) (by decide) (by decide) ?_
            show Steps p.tables e below (s₁.setTop (mkF m 51 #[.val (.ref a1), .val (.int p1), .val (.int (Int32.ofNat gN)), .val (.ref a2), .val (.int p3), .val (.int p4), .val (.long jl), .second] [])) _
            refine XS.iloadN X0.here hx rfl (hb hby d5_51) rfl ?_
            exact kt)
          obtain ⟨fs68, hr68, hrun68, hended68, hW68, hsame68⟩ := X0.leave (v := some (.int (Int32.ofNat gN))) (fun h => by rw [Bd.returns] at h; cases h)
          refine ⟨_, _, pre0 _ (K67 _ ?_), hrun68, hended68, _, _, rfl, ?_, ⟨_, rfl⟩, hW68, hsame68.mono (by decide) (by decide)⟩
          · exact retI X0 hx Bd.returns (hb hby d5_52) hr68
          · show QStp Z a1 p1 p2 a2 p3 p4 jl la li en tx kA kB kC kD vl vli ve vt kb vb gF gT gN gB h0 n0 _ s₁.heap _
            rw [e0]
            exact ⟨gN, vl, vli, ve, vt, rfl, N0, (Keep.refl h0 [a1, la, li, en, tx]), pr0, pr1, pr2, pr3, pr4, pr5, pr6, pr7, pr8, pr9, hl1, hl2, hl3, hl4, (by omega), (he.imp id fun h => ⟨h.1, h.2.choose, Nat.le_trans h.2.choose_spec.1 (by omega), h.2.choose_spec.2⟩)⟩
      · skip
        have K69 : Gx p e below s₁ f0 s₁ (mkF m 52 #[.val (.ref a1), .val (.int p1), .val (.int (Int32.ofNat gN)), .val (.ref a2), .val (.int p3), .val (.int p4), .val (.long jl), .second] [(.int (Int32.ofNat gN))]) := fun t kt => K42 t (by
          show Steps p.tables e below (s₁.setTop (mkF m 33 #[.val (.ref a1), .val (.int p1), .val (.int (Int32.ofNat gN)), .val (.ref a2), .val (.int p3), .val (.int p4), .val (.long jl), .second] [(.int (2 : Int32)), (.int p1)])) _
          refine XS.icmpYes X0.here hx rfl (pc0 := 33) (pc' := 51) rfl (hb hby d5_33) rfl (feq hb43).2 (by decide) (by decide) ?_
          show Steps p.tables e below (s₁.setTop (mkF m 51 #[.val (.ref a1), .val (.int p1), .val (.int (Int32.ofNat gN)), .val (.ref a2), .val (.int p3), .val (.int p4), .val (.long jl), .second] [])) _
          refine XS.iloadN X0.here hx rfl (hb hby d5_51) rfl ?_
          exact kt)
        obtain ⟨fs70, hr70, hrun70, hended70, hW70, hsame70⟩ := X0.leave (v := some (.int (Int32.ofNat gN))) (fun h => by rw [Bd.returns] at h; cases h)
        refine ⟨_, _, pre0 _ (K69 _ ?_), hrun70, hended70, _, _, rfl, ?_, ⟨_, rfl⟩, hW70, hsame70.mono (by decide) (by decide)⟩
        · exact retI X0 hx Bd.returns (hb hby d5_52) hr70
        · show QStp Z a1 p1 p2 a2 p3 p4 jl la li en tx kA kB kC kD vl vli ve vt kb vb gF gT gN gB h0 n0 _ s₁.heap _
          rw [e0]
          exact ⟨gN, vl, vli, ve, vt, rfl, N0, (Keep.refl h0 [a1, la, li, en, tx]), pr0, pr1, pr2, pr3, pr4, pr5, pr6, pr7, pr8, pr9, hl1, hl2, hl3, hl4, (by omega), (he.imp id fun h => ⟨h.1, h.2.choose, Nat.le_trans h.2.choose_spec.1 (by omega), h.2.choose_spec.2⟩)⟩
theorem pn_0 : plainName "com/example/fourfold/fourfold/RecordIsEmptyPinLaw" = true := by first | (simp [plainName, overriddenIn]; done) | decide +kernel
theorem pd__II_I : parseMethodDescriptor "(II)I" = some ⟨[.int, .int], some .int⟩ := by decide +kernel
theorem pd___Z : parseMethodDescriptor "()Z" = some ⟨[], some .boolean⟩ := by decide +kernel
theorem pd__Lcom_example_fourfold_fourfold_Record_II_BIIJ_I : parseMethodDescriptor "(Lcom/example/fourfold/fourfold/Record;II[BIIJ)I" = some ⟨[(.object "com/example/fourfold/fourfold/Record"), .int, .int, (.array .byte), .int, .int, .long], some .int⟩ := by decide +kernel
theorem pd___I : parseMethodDescriptor "()I" = some ⟨[], some .int⟩ := by decide +kernel
theorem ef_0 (m : MethodId) (p1 : Int32) (p2 : Int32) (jl : Int64) : entryFrame m #[(.int p1), (.int p2), (.long jl)] maxLocals = mkF m 0 #[.val (.int p1), .val (.int p2), .val (.long jl), .second, .unset, .unset, .unset, .unset, .unset, .unset] [] := by first | (simp [entryFrame, mkF, argsToLocals, Value.category, maxLocals]; done) | rfl
def Q0 (Z : State) (p1 : Int32) (p2 : Int32) (jl : Int64) (h0 : Heap) (n0 : Nat) (v : Option Value) (h : Heap) (L : List Loc) : Prop := v = some (.int (1 : Int32)) ∧ Fr n0 L
set_option maxRecDepth 65536 in
set_option maxHeartbeats 40000000 in
theorem rm0 (l : Launch) (Z : State) (a0 : Array Value) (hw : ∀ d ∈ tables_1, d.before a0 Z = true) (ws : List Jvm.Cond) (p1 : Int32) (p2 : Int32) (jl : Int64) (h0 : Heap) (n0 : Nat) (Z0 : n0 ≤ h0.size) :
    MetFree l x (head1 (Jvm.Cond.code x code maxLocals ret :: ws) room_1) (fun a U => a = #[(.int p1), (.int p2), (.long jl)] ∧ Z.Warmed39 U.vm ∧ U.heap = h0) (fun _ _ _ _ _ => True) (fun _ U o U' => ∃ v L, o = .returned v ∧ Q0 Z p1 p2 jl h0 n0 v U'.heap L ∧ FrameEnd U o U' L room_1.cells room_1.slots) := by
  refine MetFree.of_bodySF (plainFor_of_name pn_0) hisR ?_
  intro p e s m args below meth c s₁ Bd hml0 hP hK
  obtain ⟨rfl, hZ, hh⟩ := hP
  have hx := Bd.exec
  have hby := Bd.bytes
  have hml : c.maxLocals = 10 := hml0
  have hown : s.vm.findClass "com/example/fourfold/fourfold/RecordIsEmptyPinLaw" = some m.cls := findClass_of_methodNamed Bd.named
  have hnm := (name_of_methodNamed Bd.named Bd.method).1
  have X0 : Stand p l e room_1 s m #[(.int p1), (.int p2), (.long jl)] below meth c s₁ [] 0 0 := Stand.of_body Bd
  have hs0 : h0 = s.heap := hh.symm
  have e0 : s₁.heap = h0 := by rw [← hh, Bd.state]; rfl
  have N0 := Fr.nil n0
  obtain ⟨f0, hf0⟩ : ∃ f, f = entryFrame m #[(.int p1), (.int p2), (.long jl)] maxLocals := ⟨_, rfl⟩
  have pre0 : ∀ t, Steps p.tables e below (s₁.setTop f0) t → Steps p.tables e below (s₁.setTop (entryFrame m #[(.int p1), (.int p2), (.long jl)] maxLocals)) t := fun t k => hf0 ▸ k
  have K0 : Gx p e below s₁ f0 s₁ (mkF m 0 #[.val (.int p1), .val (.int p2), .val (.long jl), .second, .unset, .unset, .unset, .unset, .unset, .unset] []) := fun t kt => by rw [hf0]; exact castTop (ef_0 m p1 p2 jl) kt
  obtain ⟨gF, gT, hf, ht, hft1, hft2⟩ := own_ft p2 ((p2.toUInt32 >>> ((2 : Int32) &&& 31).toUInt32).toInt32)
  have K1 : Gx p e below s₁ f0 s₁ (mkF m 1 #[.val (.int p1), .val (.int p2), .val (.long jl), .second, .unset, .unset, .unset, .unset, .unset, .unset] [(.int (4 : Int32))]) := fun t kt => K0 t (by
    show Steps p.tables e below (s₁.setTop (mkF m 0 #[.val (.int p1), .val (.int p2), .val (.long jl), .second, .unset, .unset, .unset, .unset, .unset, .unset] [])) _
    refine XS.iconst X0.here hx rfl (hb hby at_0) ?_
    exact kt)
  obtain ⟨T2, h2, k2, X2, e2, E2, A2, st2⟩ := newP X0 hx hZ (hw _ (List.mem_of_getElem? (i := 0) rfl)) e0 (g := (mkF m 1 #[.val (.int p1), .val (.int p2), .val (.long jl), .second, .unset, .unset, .unset, .unset, .unset, .unset] [(.int (4 : Int32))])) rfl (hb hby at_1) rfl (by decide) (cap := 4) (by decide) (by decide) (by decide) (by decide)
  obtain ⟨b2, g2⟩ : ∃ z, z = h0.size := ⟨_, rfl⟩
  rw [← g2] at A2 st2
  have V2 : Arv Z h2 b2 k2 .byte (4 : Int32) [(.int (0 : Int32)), (.int (0 : Int32)), (.int (0 : Int32)), (.int (0 : Int32))] (.int (0 : Int32)) := (Arv.new A2 (by decide)).pad (pad_rep [] (.int (0 : Int32)) 4)
  have K3 : Gx p e below s₁ f0 T2 (mkF m 3 #[.val (.int p1), .val (.int p2), .val (.long jl), .second, .unset, .unset, .unset, .unset, .unset, .unset] [(.ref b2)]) := fun t kt => K1 t (st2 t kt)
  have K4 : Gx p e below s₁ f0 T2 (mkF m 10 #[.val (.int p1), .val (.int p2), .val (.long jl), .second, .val (.ref b2), .unset, .unset, .unset, .unset, .unset] [(.int (p2.toInt8.toInt32)), (.int (0 : Int32)), (.ref b2)]) := fun t kt => K3 t (by
    show Steps p.tables e below (T2.setTop (mkF m 3 #[.val (.int p1), .val (.int p2), .val (.long jl), .second, .unset, .unset, .unset, .unset, .unset, .unset] [(.ref b2)])) _
    refine XS.astore X2.here hx rfl (hb hby at_3) rfl rfl (l' := #[.val (.int p1), .val (.int p2), .val (.long jl), .second, .val (.ref b2), .unset, .unset, .unset, .unset, .unset]) rfl ?_
    show Steps p.tables e below (T2.setTop (mkF m 5 #[.val (.int p1), .val (.int p2), .val (.long jl), .second, .val (.ref b2), .unset, .unset, .unset, .unset, .unset] [])) _
    refine XS.aload X2.here hx rfl (hb hby at_5) rfl rfl ?_
    show Steps p.tables e below (T2.setTop (mkF m 7 #[.val (.int p1), .val (.int p2), .val (.long jl), .second, .val (.ref b2), .unset, .unset, .unset, .unset, .unset] [(.ref b2)])) _
    refine XS.iconst X2.here hx rfl (hb hby at_7) ?_
    show Steps p.tables e below (T2.setTop (mkF m 8 #[.val (.int p1), .val (.int p2), .val (.long jl), .second, .val (.ref b2), .unset, .unset, .unset, .unset, .unset] [(.int (0 : Int32)), (.ref b2)])) _
    refine XS.iloadN X2.here hx rfl (hb hby at_8) rfl ?_
    show Steps p.tables e below (T2.setTop (mkF m 9 #[.val (.int p1), .val (.int p2), .val (.long jl), .second, .val (.ref b2), .unset, .unset, .unset, .unset, .unset] [(.int p2), (.int (0 : Int32)), (.ref b2)])) _
    refine XS.i2b X2.here hx rfl (hb hby at_9) rfl ?_
    exact kt)
  obtain ⟨clq5, Arq5, ckq5, cSq5, cNq5, cHq5, cGq5⟩ := id V2
  obtain ⟨T6, h6, X6', e6, W6, st6⟩ := stB X2 hx hZ e2 Arq5 (j := (0 : Int32)) (inb_of cSq5 ⟨by decide, by decide⟩) (g := (mkF m 10 #[.val (.int p1), .val (.int p2), .val (.long jl), .second, .val (.ref b2), .unset, .unset, .unset, .unset, .unset] [(.int (p2.toInt8.toInt32)), (.int (0 : Int32)), (.ref b2)])) rfl rfl (hb hby at_10)
  obtain ⟨lc6, X6, N6⟩ : ∃ lc, Stand p l e room_1 s m #[(.int p1), (.int p2), (.long jl)] below meth c T6 lc 1 4 ∧ Fr n0 lc := ⟨_, X6', Fr.snoc X6' N0 (Nat.le_trans Z0 (Nat.le_trans (Keep.refl h0 []).1 (Nat.le_of_eq g2.symm)))⟩
  have V6 : Arv Z h6 b2 k2 .byte (4 : Int32) [(.int (nar .byte (p2.toInt8.toInt32))), (.int (0 : Int32)), (.int (0 : Int32)), (.int (0 : Int32))] (.int (0 : Int32)) := Arv.set Arq5 ckq5 cSq5 cNq5 cHq5 cGq5 (fits_nar_byte _) W6 0 rfl (Nat.le_of_ble_eq_true rfl)
  have K7 : Gx p e below s₁ f0 T6 (mkF m 11 #[.val (.int p1), .val (.int p2), .val (.long jl), .second, .val (.ref b2), .unset, .unset, .unset, .unset, .unset] []) := fun t kt => K4 t (st6 t kt)
  have K8 : Gx p e below s₁ f0 T6 (mkF m 19 #[.val (.int p1), .val (.int p2), .val (.long jl), .second, .val (.ref b2), .unset, .unset, .unset, .unset, .unset] [(.int (((p2.toUInt32 >>> ((8 : Int32) &&& 31).toUInt32).toInt32).toInt8.toInt32)), (.int (1 : Int32)), (.ref b2)]) := fun t kt => K7 t (by
    show Steps p.tables e below (T6.setTop (mkF m 11 #[.val (.int p1), .val (.int p2), .val (.long jl), .second, .val (.ref b2), .unset, .unset, .unset, .unset, .unset] [])) _
    refine XS.aload X6.here hx rfl (hb hby at_11) rfl rfl ?_
    show Steps p.tables e below (T6.setTop (mkF m 13 #[.val (.int p1), .val (.int p2), .val (.long jl), .second, .val (.ref b2), .unset, .unset, .unset, .unset, .unset] [(.ref b2)])) _
    refine XS.iconst X6.here hx rfl (hb hby at_13) ?_
    show Steps p.tables e below (T6.setTop (mkF m 14 #[.val (.int p1), .val (.int p2), .val (.long jl), .second, .val (.ref b2), .unset, .unset, .unset, .unset, .unset] [(.int (1 : Int32)), (.ref b2)])) _
    refine XS.iloadN X6.here hx rfl (hb hby at_14) rfl ?_
    show Steps p.tables e below (T6.setTop (mkF m 15 #[.val (.int p1), .val (.int p2), .val (.long jl), .second, .val (.ref b2), .unset, .unset, .unset, .unset, .unset] [(.int p2), (.int (1 : Int32)), (.ref b2)])) _
    refine XS.bipush X6.here hx rfl (hb hby at_15) ?_
    show Steps p.tables e below (T6.setTop (mkF m 17 #[.val (.int p1), .val (.int p2), .val (.long jl), .second, .val (.ref b2), .unset, .unset, .unset, .unset, .unset] [(.int (8 : Int32)), (.int p2), (.int (1 : Int32)), (.ref b2)])) _
    refine XS.iushr X6.here hx rfl (hb hby at_17) rfl ?_
    show Steps p.tables e below (T6.setTop (mkF m 18 #[.val (.int p1), .val (.int p2), .val (.long jl), .second, .val (.ref b2), .unset, .unset, .unset, .unset, .unset] [(.int ((p2.toUInt32 >>> ((8 : Int32) &&& 31).toUInt32).toInt32)), (.int (1 : Int32)), (.ref b2)])) _
    refine XS.i2b X6.here hx rfl (hb hby at_18) rfl ?_
    exact kt)
  obtain ⟨clq9, Arq9, ckq9, cSq9, cNq9, cHq9, cGq9⟩ := id V6
  obtain ⟨T10, h10, X10', e10, W10, st10⟩ := stB X6 hx hZ e6 Arq9 (j := (1 : Int32)) (inb_of cSq9 ⟨by decide, by decide⟩) (g := (mkF m 19 #[.val (.int p1), .val (.int p2), .val (.long jl), .second, .val (.ref b2), .unset, .unset, .unset, .unset, .unset] [(.int (((p2.toUInt32 >>> ((8 : Int32) &&& 31).toUInt32).toInt32).toInt8.toInt32)), (.int (1 : Int32)), (.ref b2)])) rfl rfl (hb hby at_19)
  obtain ⟨lc10, X10, N10⟩ : ∃ lc, Stand p l e room_1 s m #[(.int p1), (.int p2), (.long jl)] below meth c T10 lc 1 4 ∧ Fr n0 lc := ⟨_, X10', Fr.snoc X10' N6 (Nat.le_trans Z0 (Nat.le_trans (Keep.refl h0 []).1 (Nat.le_of_eq g2.symm)))⟩
  have V10 : Arv Z h10 b2 k2 .byte (4 : Int32) [(.int (nar .byte (p2.toInt8.toInt32))), (.int (nar .byte (((p2.toUInt32 >>> ((8 : Int32) &&& 31).toUInt32).toInt32).toInt8.toInt32))), (.int (0 : Int32)), (.int (0 : Int32))] (.int (0 : Int32)) := Arv.set Arq9 ckq9 cSq9 cNq9 cHq9 cGq9 (fits_nar_byte _) W10 1 rfl (Nat.le_of_ble_eq_true rfl)
  have K11 : Gx p e below s₁ f0 T10 (mkF m 20 #[.val (.int p1), .val (.int p2), .val (.long jl), .second, .val (.ref b2), .unset, .unset, .unset, .unset, .unset] []) := fun t kt => K8 t (st10 t kt)
  have K12 : Gx p e below s₁ f0 T10 (mkF m 28 #[.val (.int p1), .val (.int p2), .val (.long jl), .second, .val (.ref b2), .unset, .unset, .unset, .unset, .unset] [(.int (((p2.toUInt32 >>> ((16 : Int32) &&& 31).toUInt32).toInt32).toInt8.toInt32)), (.int (2 : Int32)), (.ref b2)]) := fun t kt => K11 t (by
    show Steps p.tables e below (T10.setTop (mkF m 20 #[.val (.int p1), .val (.int p2), .val (.long jl), .second, .val (.ref b2), .unset, .unset, .unset, .unset, .unset] [])) _
    refine XS.aload X10.here hx rfl (hb hby at_20) rfl rfl ?_
    show Steps p.tables e below (T10.setTop (mkF m 22 #[.val (.int p1), .val (.int p2), .val (.long jl), .second, .val (.ref b2), .unset, .unset, .unset, .unset, .unset] [(.ref b2)])) _
    refine XS.iconst X10.here hx rfl (hb hby at_22) ?_
    show Steps p.tables e below (T10.setTop (mkF m 23 #[.val (.int p1), .val (.int p2), .val (.long jl), .second, .val (.ref b2), .unset, .unset, .unset, .unset, .unset] [(.int (2 : Int32)), (.ref b2)])) _
    refine XS.iloadN X10.here hx rfl (hb hby at_23) rfl ?_
    show Steps p.tables e below (T10.setTop (mkF m 24 #[.val (.int p1), .val (.int p2), .val (.long jl), .second, .val (.ref b2), .unset, .unset, .unset, .unset, .unset] [(.int p2), (.int (2 : Int32)), (.ref b2)])) _
    refine XS.bipush X10.here hx rfl (hb hby at_24) ?_
    show Steps p.tables e below (T10.setTop (mkF m 26 #[.val (.int p1), .val (.int p2), .val (.long jl), .second, .val (.ref b2), .unset, .unset, .unset, .unset, .unset] [(.int (16 : Int32)), (.int p2), (.int (2 : Int32)), (.ref b2)])) _
    refine XS.iushr X10.here hx rfl (hb hby at_26) rfl ?_
    show Steps p.tables e below (T10.setTop (mkF m 27 #[.val (.int p1), .val (.int p2), .val (.long jl), .second, .val (.ref b2), .unset, .unset, .unset, .unset, .unset] [(.int ((p2.toUInt32 >>> ((16 : Int32) &&& 31).toUInt32).toInt32)), (.int (2 : Int32)), (.ref b2)])) _
    refine XS.i2b X10.here hx rfl (hb hby at_27) rfl ?_
    exact kt)
  obtain ⟨clq13, Arq13, ckq13, cSq13, cNq13, cHq13, cGq13⟩ := id V10
  obtain ⟨T14, h14, X14', e14, W14, st14⟩ := stB X10 hx hZ e10 Arq13 (j := (2 : Int32)) (inb_of cSq13 ⟨by decide, by decide⟩) (g := (mkF m 28 #[.val (.int p1), .val (.int p2), .val (.long jl), .second, .val (.ref b2), .unset, .unset, .unset, .unset, .unset] [(.int (((p2.toUInt32 >>> ((16 : Int32) &&& 31).toUInt32).toInt32).toInt8.toInt32)), (.int (2 : Int32)), (.ref b2)])) rfl rfl (hb hby at_28)
  obtain ⟨lc14, X14, N14⟩ : ∃ lc, Stand p l e room_1 s m #[(.int p1), (.int p2), (.long jl)] below meth c T14 lc 1 4 ∧ Fr n0 lc := ⟨_, X14', Fr.snoc X14' N10 (Nat.le_trans Z0 (Nat.le_trans (Keep.refl h0 []).1 (Nat.le_of_eq g2.symm)))⟩
  have V14 : Arv Z h14 b2 k2 .byte (4 : Int32) [(.int (nar .byte (p2.toInt8.toInt32))), (.int (nar .byte (((p2.toUInt32 >>> ((8 : Int32) &&& 31).toUInt32).toInt32).toInt8.toInt32))), (.int (nar .byte (((p2.toUInt32 >>> ((16 : Int32) &&& 31).toUInt32).toInt32).toInt8.toInt32))), (.int (0 : Int32))] (.int (0 : Int32)) := Arv.set Arq13 ckq13 cSq13 cNq13 cHq13 cGq13 (fits_nar_byte _) W14 2 rfl (Nat.le_of_ble_eq_true rfl)
  have K15 : Gx p e below s₁ f0 T14 (mkF m 29 #[.val (.int p1), .val (.int p2), .val (.long jl), .second, .val (.ref b2), .unset, .unset, .unset, .unset, .unset] []) := fun t kt => K12 t (st14 t kt)
  have K16 : Gx p e below s₁ f0 T14 (mkF m 37 #[.val (.int p1), .val (.int p2), .val (.long jl), .second, .val (.ref b2), .unset, .unset, .unset, .unset, .unset] [(.int (((p2.toUInt32 >>> ((24 : Int32) &&& 31).toUInt32).toInt32).toInt8.toInt32)), (.int (3 : Int32)), (.ref b2)]) := fun t kt => K15 t (by
    show Steps p.tables e below (T14.setTop (mkF m 29 #[.val (.int p1), .val (.int p2), .val (.long jl), .second, .val (.ref b2), .unset, .unset, .unset, .unset, .unset] [])) _
    refine XS.aload X14.here hx rfl (hb hby at_29) rfl rfl ?_
    show Steps p.tables e below (T14.setTop (mkF m 31 #[.val (.int p1), .val (.int p2), .val (.long jl), .second, .val (.ref b2), .unset, .unset, .unset, .unset, .unset] [(.ref b2)])) _
    refine XS.iconst X14.here hx rfl (hb hby at_31) ?_
    show Steps p.tables e below (T14.setTop (mkF m 32 #[.val (.int p1), .val (.int p2), .val (.long jl), .second, .val (.ref b2), .unset, .unset, .unset, .unset, .unset] [(.int (3 : Int32)), (.ref b2)])) _
    refine XS.iloadN X14.here hx rfl (hb hby at_32) rfl ?_
    show Steps p.tables e below (T14.setTop (mkF m 33 #[.val (.int p1), .val (.int p2), .val (.long jl), .second, .val (.ref b2), .unset, .unset, .unset, .unset, .unset] [(.int p2), (.int (3 : Int32)), (.ref b2)])) _
    refine XS.bipush X14.here hx rfl (hb hby at_33) ?_
    show Steps p.tables e below (T14.setTop (mkF m 35 #[.val (.int p1), .val (.int p2), .val (.long jl), .second, .val (.ref b2), .unset, .unset, .unset, .unset, .unset] [(.int (24 : Int32)), (.int p2), (.int (3 : Int32)), (.ref b2)])) _
    refine XS.iushr X14.here hx rfl (hb hby at_35) rfl ?_
    show Steps p.tables e below (T14.setTop (mkF m 36 #[.val (.int p1), .val (.int p2), .val (.long jl), .second, .val (.ref b2), .unset, .unset, .unset, .unset, .unset] [(.int ((p2.toUInt32 >>> ((24 : Int32) &&& 31).toUInt32).toInt32)), (.int (3 : Int32)), (.ref b2)])) _
    refine XS.i2b X14.here hx rfl (hb hby at_36) rfl ?_
    exact kt)
  obtain ⟨clq17, Arq17, ckq17, cSq17, cNq17, cHq17, cGq17⟩ := id V14
  obtain ⟨T18, h18, X18', e18, W18, st18⟩ := stB X14 hx hZ e14 Arq17 (j := (3 : Int32)) (inb_of cSq17 ⟨by decide, by decide⟩) (g := (mkF m 37 #[.val (.int p1), .val (.int p2), .val (.long jl), .second, .val (.ref b2), .unset, .unset, .unset, .unset, .unset] [(.int (((p2.toUInt32 >>> ((24 : Int32) &&& 31).toUInt32).toInt32).toInt8.toInt32)), (.int (3 : Int32)), (.ref b2)])) rfl rfl (hb hby at_37)
  obtain ⟨lc18, X18, N18⟩ : ∃ lc, Stand p l e room_1 s m #[(.int p1), (.int p2), (.long jl)] below meth c T18 lc 1 4 ∧ Fr n0 lc := ⟨_, X18', Fr.snoc X18' N14 (Nat.le_trans Z0 (Nat.le_trans (Keep.refl h0 []).1 (Nat.le_of_eq g2.symm)))⟩
  have V18 : Arv Z h18 b2 k2 .byte (4 : Int32) [(.int (nar .byte (p2.toInt8.toInt32))), (.int (nar .byte (((p2.toUInt32 >>> ((8 : Int32) &&& 31).toUInt32).toInt32).toInt8.toInt32))), (.int (nar .byte (((p2.toUInt32 >>> ((16 : Int32) &&& 31).toUInt32).toInt32).toInt8.toInt32))), (.int (nar .byte (((p2.toUInt32 >>> ((24 : Int32) &&& 31).toUInt32).toInt32).toInt8.toInt32)))] (.int (0 : Int32)) := Arv.set Arq17 ckq17 cSq17 cNq17 cHq17 cGq17 (fits_nar_byte _) W18 3 rfl (Nat.le_of_ble_eq_true rfl)
  have K19 : Gx p e below s₁ f0 T18 (mkF m 38 #[.val (.int p1), .val (.int p2), .val (.long jl), .second, .val (.ref b2), .unset, .unset, .unset, .unset, .unset] []) := fun t kt => K16 t (st18 t kt)
  have K20 : Gx p e below s₁ f0 T18 (mkF m 52 #[.val (.int p1), .val (.int p2), .val (.long jl), .second, .val (.ref b2), .val (.int (p2 &&& (3 : Int32))), .unset, .unset, .unset, .unset] [(.int ((p2 &&& (3 : Int32)) + (((p2.toUInt32 >>> ((2 : Int32) &&& 31).toUInt32).toInt32) &&& (3 : Int32)))), (.int (4 : Int32))]) := fun t kt => K19 t (by
    show Steps p.tables e below (T18.setTop (mkF m 38 #[.val (.int p1), .val (.int p2), .val (.long jl), .second, .val (.ref b2), .unset, .unset, .unset, .unset, .unset] [])) _
    refine XS.iloadN X18.here hx rfl (hb hby at_38) rfl ?_
    show Steps p.tables e below (T18.setTop (mkF m 39 #[.val (.int p1), .val (.int p2), .val (.long jl), .second, .val (.ref b2), .unset, .unset, .unset, .unset, .unset] [(.int p2)])) _
    refine XS.iconst X18.here hx rfl (hb hby at_39) ?_
    show Steps p.tables e below (T18.setTop (mkF m 40 #[.val (.int p1), .val (.int p2), .val (.long jl), .second, .val (.ref b2), .unset, .unset, .unset, .unset, .unset] [(.int (3 : Int32)), (.int p2)])) _
    refine XS.iand X18.here hx rfl (hb hby at_40) rfl ?_
    show Steps p.tables e below (T18.setTop (mkF m 41 #[.val (.int p1), .val (.int p2), .val (.long jl), .second, .val (.ref b2), .unset, .unset, .unset, .unset, .unset] [(.int (p2 &&& (3 : Int32)))])) _
    refine XS.istore X18.here hx rfl (hb hby at_41) rfl (l' := #[.val (.int p1), .val (.int p2), .val (.long jl), .second, .val (.ref b2), .val (.int (p2 &&& (3 : Int32))), .unset, .unset, .unset, .unset]) rfl ?_
    show Steps p.tables e below (T18.setTop (mkF m 43 #[.val (.int p1), .val (.int p2), .val (.long jl), .second, .val (.ref b2), .val (.int (p2 &&& (3 : Int32))), .unset, .unset, .unset, .unset] [])) _
    refine XS.iconst X18.here hx rfl (hb hby at_43) ?_
    show Steps p.tables e below (T18.setTop (mkF m 44 #[.val (.int p1), .val (.int p2), .val (.long jl), .second, .val (.ref b2), .val (.int (p2 &&& (3 : Int32))), .unset, .unset, .unset, .unset] [(.int (4 : Int32))])) _
    refine XS.iload X18.here hx rfl (hb hby at_44) rfl ?_
    show Steps p.tables e below (T18.setTop (mkF m 46 #[.val (.int p1), .val (.int p2), .val (.long jl), .second, .val (.ref b2), .val (.int (p2 &&& (3 : Int32))), .unset, .unset, .unset, .unset] [(.int (p2 &&& (3 : Int32))), (.int (4 : Int32))])) _
    refine XS.iloadN X18.here hx rfl (hb hby at_46) rfl ?_
    show Steps p.tables e below (T18.setTop (mkF m 47 #[.val (.int p1), .val (.int p2), .val (.long jl), .second, .val (.ref b2), .val (.int (p2 &&& (3 : Int32))), .unset, .unset, .unset, .unset] [(.int p2), (.int (p2 &&& (3 : Int32))), (.int (4 : Int32))])) _
    refine XS.iconst X18.here hx rfl (hb hby at_47) ?_
    show Steps p.tables e below (T18.setTop (mkF m 48 #[.val (.int p1), .val (.int p2), .val (.long jl), .second, .val (.ref b2), .val (.int (p2 &&& (3 : Int32))), .unset, .unset, .unset, .unset] [(.int (2 : Int32)), (.int p2), (.int (p2 &&& (3 : Int32))), (.int (4 : Int32))])) _
    refine XS.iushr X18.here hx rfl (hb hby at_48) rfl ?_
    show Steps p.tables e below (T18.setTop (mkF m 49 #[.val (.int p1), .val (.int p2), .val (.long jl), .second, .val (.ref b2), .val (.int (p2 &&& (3 : Int32))), .unset, .unset, .unset, .unset] [(.int ((p2.toUInt32 >>> ((2 : Int32) &&& 31).toUInt32).toInt32)), (.int (p2 &&& (3 : Int32))), (.int (4 : Int32))])) _
    refine XS.iconst X18.here hx rfl (hb hby at_49) ?_
    show Steps p.tables e below (T18.setTop (mkF m 50 #[.val (.int p1), .val (.int p2), .val (.long jl), .second, .val (.ref b2), .val (.int (p2 &&& (3 : Int32))), .unset, .unset, .unset, .unset] [(.int (3 : Int32)), (.int ((p2.toUInt32 >>> ((2 : Int32) &&& 31).toUInt32).toInt32)), (.int (p2 &&& (3 : Int32))), (.int (4 : Int32))])) _
    refine XS.iand X18.here hx rfl (hb hby at_50) rfl ?_
    show Steps p.tables e below (T18.setTop (mkF m 51 #[.val (.int p1), .val (.int p2), .val (.long jl), .second, .val (.ref b2), .val (.int (p2 &&& (3 : Int32))), .unset, .unset, .unset, .unset] [(.int (((p2.toUInt32 >>> ((2 : Int32) &&& 31).toUInt32).toInt32) &&& (3 : Int32))), (.int (p2 &&& (3 : Int32))), (.int (4 : Int32))])) _
    refine XS.iadd X18.here hx rfl (hb hby at_51) rfl ?_
    exact kt)
  have kp21 : Keep h0 h18 [] := ((((((Keep.refl h0 []).ext E2).wr W6 (Or.inr (Nat.le_trans (Keep.refl h0 []).1 (Nat.le_of_eq g2.symm)))).wr W10 (Or.inr (Nat.le_trans (Keep.refl h0 []).1 (Nat.le_of_eq g2.symm)))).wr W14 (Or.inr (Nat.le_trans (Keep.refl h0 []).1 (Nat.le_of_eq g2.symm)))).wr W18 (Or.inr (Nat.le_trans (Keep.refl h0 []).1 (Nat.le_of_eq g2.symm))))
  obtain ⟨_, _, ⟨T22, L22, k22, n22⟩, -, X22', ⟨Lc22, hQ22, l22, y22, z22⟩, st22⟩ := Jvm.LawKit.callS X18 hx (y := (⟨"java/lang/Math", "min", "(II)I"⟩ : MethodName)) hown (mvT hZ (hw _ (List.mem_of_getElem? (i := 1) rfl))) (mvT hZ (hw _ (List.mem_of_getElem? (i := 2) rfl))) (mvT hZ (hw _ (List.mem_of_getElem? (i := 3) rfl))) (mvT hZ (hw _ (List.mem_of_getElem? (i := 4) rfl))) (by decide) (backOf (W := 0) (rmMin l Z a0 hw [] (4 : Int32) ((p2 &&& (3 : Int32)) + (((p2.toUInt32 >>> ((2 : Int32) &&& 31).toUInt32).toInt32) &&& (3 : Int32))) h18 n0 (Nat.le_trans Z0 kp21.1) ) hZ (hw _ (List.mem_of_getElem? (i := 4) rfl)) (hw _ (List.mem_of_getElem? (i := 3) rfl)) (by decide) (by decide)) (g := (mkF m 52 #[.val (.int p1), .val (.int p2), .val (.long jl), .second, .val (.ref b2), .val (.int (p2 &&& (3 : Int32))), .unset, .unset, .unset, .unset] [(.int ((p2 &&& (3 : Int32)) + (((p2.toUInt32 >>> ((2 : Int32) &&& 31).toUInt32).toInt32) &&& (3 : Int32)))), (.int (4 : Int32))])) rfl (by rw [hml]; rfl) (argsL := [(.int (4 : Int32)), (.int ((p2 &&& (3 : Int32)) + (((p2.toUInt32 >>> ((2 : Int32) &&& 31).toUInt32).toInt32) &&& (3 : Int32))))]) (rest := []) (lenOf pd__II_I rfl) rfl (by show 2 * 0 + _ ≤ _; exact Nat.le_of_eq rfl) (hb hby at_52) (fun _ _ => ⟨rfl, e18, (by decide : 1 + 0 ≤ _), (by decide : 4 + 0 ≤ _)⟩)
  dsimp only [Pt.U, Pt.locs, Pt.cells, Pt.slots] at X22' l22 y22 z22 st22 hQ22
  subst l22 y22 z22
  obtain ⟨rfl, N22q, e22⟩ := hQ22
  obtain ⟨lc22, X22, N22⟩ : ∃ lc, Stand p l e room_1 s m #[(.int p1), (.int p2), (.long jl)] below meth c T22 lc 1 4 ∧ Fr n0 lc := ⟨_, X22', Fr.app N18 N22q⟩
  have K23 : Gx p e below s₁ f0 T22 (mkF m 55 #[.val (.int p1), .val (.int p2), .val (.long jl), .second, .val (.ref b2), .val (.int (p2 &&& (3 : Int32))), .unset, .unset, .unset, .unset] [(.int (minF (4 : Int32) ((p2 &&& (3 : Int32)) + (((p2.toUInt32 >>> ((2 : Int32) &&& 31).toUInt32).toInt32) &&& (3 : Int32)))))]) := fun t kt => K20 t (st22 t kt)
  rw [ht] at K23
  have K24 : Gx p e below s₁ f0 T22 (mkF m 57 #[.val (.int p1), .val (.int p2), .val (.long jl), .second, .val (.ref b2), .val (.int (p2 &&& (3 : Int32))), .val (.int (Int32.ofNat gT)), .unset, .unset, .unset] []) := fun t kt => K23 t (by
    show Steps p.tables e below (T22.setTop (mkF m 55 #[.val (.int p1), .val (.int p2), .val (.long jl), .second, .val (.ref b2), .val (.int (p2 &&& (3 : Int32))), .unset, .unset, .unset, .unset] [(.int (Int32.ofNat gT))])) _
    refine XS.istore X22.here hx rfl (hb hby at_55) rfl (l' := #[.val (.int p1), .val (.int p2), .val (.long jl), .second, .val (.ref b2), .val (.int (p2 &&& (3 : Int32))), .val (.int (Int32.ofNat gT)), .unset, .unset, .unset]) rfl ?_
    exact kt)
  obtain ⟨T25, h25, X25, e25, E25, A25, D25, -, st25⟩ := newO X22 hx hZ hown (hw _ (List.mem_of_getElem? (i := 5) rfl)) (hw _ (List.mem_of_getElem? (i := 6) rfl)) (hw _ (List.mem_of_getElem? (i := 7) rfl)) e22 (g := (mkF m 57 #[.val (.int p1), .val (.int p2), .val (.long jl), .second, .val (.ref b2), .val (.int (p2 &&& (3 : Int32))), .val (.int (Int32.ofNat gT)), .unset, .unset, .unset] [])) rfl (hb hby at_57) (by decide) (by decide)
  obtain ⟨b25, g25⟩ : ∃ z, z = h18.size := ⟨_, rfl⟩
  rw [← g25] at A25 D25 st25
  have f26 : Fld Z h25 b25 "com/example/fourfold/fourfold/Record" "labels" "[Lcom/example/fourfold/fourfold/Label;" .null := D25 (Or.inl (hw _ (List.mem_of_getElem? (i := 17) rfl))) (ty := (.array (.object "com/example/fourfold/fourfold/Label"))) (by decide)
  have f27 : Fld Z h25 b25 "com/example/fourfold/fourfold/Record" "lines" "[J" .null := D25 (Or.inl (hw _ (List.mem_of_getElem? (i := 20) rfl))) (ty := (.array .long)) (by decide)
  have f28 : Fld Z h25 b25 "com/example/fourfold/fourfold/Record" "ends" "[I" .null := D25 (Or.inl (hw _ (List.mem_of_getElem? (i := 23) rfl))) (ty := (.array .int)) (by decide)
  have f29 : Fld Z h25 b25 "com/example/fourfold/fourfold/Record" "text" "[B" .null := D25 (Or.inl (hw _ (List.mem_of_getElem? (i := 25) rfl))) (ty := (.array .byte)) (by decide)
  have f30 : Fld Z h25 b25 "com/example/fourfold/fourfold/Record" "size" "I" (.int (0 : Int32)) := D25 (Or.inl (hw _ (List.mem_of_getElem? (i := 32) rfl))) (ty := .int) (by decide)
  have K31 : Gx p e below s₁ f0 T25 (mkF m 60 #[.val (.int p1), .val (.int p2), .val (.long jl), .second, .val (.ref b2), .val (.int (p2 &&& (3 : Int32))), .val (.int (Int32.ofNat gT)), .unset, .unset, .unset] [(.ref b25)]) := fun t kt => K24 t (st25 t kt)
  have K32 : Gx p e below s₁ f0 T25 (mkF m 61 #[.val (.int p1), .val (.int p2), .val (.long jl), .second, .val (.ref b2), .val (.int (p2 &&& (3 : Int32))), .val (.int (Int32.ofNat gT)), .unset, .unset, .unset] [(.ref b25), (.ref b25)]) := fun t kt => K31 t (by
    show Steps p.tables e below (T25.setTop (mkF m 60 #[.val (.int p1), .val (.int p2), .val (.long jl), .second, .val (.ref b2), .val (.int (p2 &&& (3 : Int32))), .val (.int (Int32.ofNat gT)), .unset, .unset, .unset] [(.ref b25)])) _
    refine XS.dup X25.here hx rfl (hb hby at_60) rfl rfl ?_
    exact kt)
  have kp33 : Keep h0 h25 [] := (kp21.ext E25)
  obtain ⟨_, _, ⟨T34, L34, k34, n34⟩, -, X34', ⟨Lc34, hQ34, l34, y34, z34⟩, st34⟩ := X25.specialBack hx (y := (⟨"com/example/fourfold/fourfold/Record", "<init>", "()V"⟩ : MethodName)) rfl hown (mvT hZ (hw _ (List.mem_of_getElem? (i := 8) rfl))) (mvT hZ (hw _ (List.mem_of_getElem? (i := 9) rfl))) (mvT hZ (hw _ (List.mem_of_getElem? (i := 10) rfl))) (by decide) (backOf (W := 1) (rmIni l Z a0 hw [] b25 h25 n0 (Nat.le_trans Z0 kp33.1) A25 (Nat.le_trans Z0 (Nat.le_trans kp21.1 (Nat.le_of_eq g25.symm))) f26 f27 f28 f29 f30) hZ (hw _ (List.mem_of_getElem? (i := 10) rfl)) (hw _ (List.mem_of_getElem? (i := 7) rfl)) (by decide) (by decide)) (g := (mkF m 61 #[.val (.int p1), .val (.int p2), .val (.long jl), .second, .val (.ref b2), .val (.int (p2 &&& (3 : Int32))), .val (.int (Int32.ofNat gT)), .unset, .unset, .unset] [(.ref b25), (.ref b25)])) rfl (by rw [hml]; rfl) (Steps.refl _) (a := b25) (argsL := []) (rest := [(.ref b25)]) (lenOf pd___V rfl) rfl (by show 2 * 0 + _ ≤ _; exact Nat.le_of_eq rfl) (hb hby at_61) (fun _ _ => ⟨rfl, e25, (by decide : 2 + 4 ≤ _), (by decide : 10 + 1072 ≤ _)⟩)
  dsimp only [Pt.U, Pt.locs, Pt.cells, Pt.slots] at X34' l34 y34 z34 st34 hQ34
  subst l34 y34 z34
  obtain ⟨h34, e34⟩ : ∃ z, T34.heap = z := ⟨_, rfl⟩
  rw [e34] at hQ34
  obtain ⟨la_34, li_34, en_34, tx_34, kA_34, kB_34, kC_34, kD_34, vl2_34, vli2_34, ve2_34, vt2_34, rfl, N34q, Kc34, f35, f36, f37, f38, f39, f40, f41, f42, f43, f44, f45, f46, f47, f48, f49, f50, f51, f52, f53, f54, f55, f56, f57, f58⟩ := hQ34
  obtain ⟨lc34, X34, N34⟩ : ∃ lc, Stand p l e room_1 s m #[(.int p1), (.int p2), (.long jl)] below meth c T34 lc 6 1082 ∧ Fr n0 lc := ⟨_, X34', Fr.app N22 N34q⟩
  have K59 : Gx p e below s₁ f0 T34 (mkF m 64 #[.val (.int p1), .val (.int p2), .val (.long jl), .second, .val (.ref b2), .val (.int (p2 &&& (3 : Int32))), .val (.int (Int32.ofNat gT)), .unset, .unset, .unset] [(.ref b25)]) := fun t kt => K32 t (st34.trans kt)
  have K60 : Gx p e below s₁ f0 T34 (mkF m 66 #[.val (.int p1), .val (.int p2), .val (.long jl), .second, .val (.ref b2), .val (.int (p2 &&& (3 : Int32))), .val (.int (Int32.ofNat gT)), .val (.ref b25), .unset, .unset] []) := fun t kt => K59 t (by
    show Steps p.tables e below (T34.setTop (mkF m 64 #[.val (.int p1), .val (.int p2), .val (.long jl), .second, .val (.ref b2), .val (.int (p2 &&& (3 : Int32))), .val (.int (Int32.ofNat gT)), .unset, .unset, .unset] [(.ref b25)])) _
    refine XS.astore X34.here hx rfl (hb hby at_64) rfl rfl (l' := #[.val (.int p1), .val (.int p2), .val (.long jl), .second, .val (.ref b2), .val (.int (p2 &&& (3 : Int32))), .val (.int (Int32.ofNat gT)), .val (.ref b25), .unset, .unset]) rfl ?_
    exact kt)
  rw [hf] at K60
  have K61 : Gx p e below s₁ f0 T34 (mkF m 68 #[.val (.int p1), .val (.int p2), .val (.long jl), .second, .val (.ref b2), .val (.int (Int32.ofNat gF)), .val (.int (Int32.ofNat gT)), .val (.ref b25), .unset, .unset] [(.ref b25)]) := fun t kt => K60 t (by
    show Steps p.tables e below (T34.setTop (mkF m 66 #[.val (.int p1), .val (.int p2), .val (.long jl), .second, .val (.ref b2), .val (.int (Int32.ofNat gF)), .val (.int (Int32.ofNat gT)), .val (.ref b25), .unset, .unset] [])) _
    refine XS.aload X34.here hx rfl (hb hby at_66) rfl rfl ?_
    exact kt)
  have kp62 : Keep h0 h34 [] := (Keep.trans kp33 Kc34 (allS (Or.inr (Nat.le_trans kp21.1 (Nat.le_of_eq g25.symm))) all0))
  obtain ⟨cq63, kq63, q63a, q63b, q63c⟩ := isOf hZ e34 f35
  obtain ⟨_, _, ⟨T63, L63, k63, n63⟩, -, X63', ⟨Lc63, hQ63, l63, y63, z63⟩, st63⟩ := X34.virtualBack hx (y := (⟨"com/example/fourfold/fourfold/Record", "isEmpty", "()Z"⟩ : MethodName)) (z := (⟨"com/example/fourfold/fourfold/Record", "isEmpty", "()Z"⟩ : MethodName)) hown (mvT hZ (hw _ (List.mem_of_getElem? (i := 26) rfl))) (mvT hZ (hw _ (List.mem_of_getElem? (i := 27) rfl))) (notFace_of_selects (args := #[]) (mvT hZ (hw _ (List.mem_of_getElem? (i := 29) rfl)))) (mvT hZ (hw _ (List.mem_of_getElem? (i := 29) rfl))) (mvT hZ (hw _ (List.mem_of_getElem? (i := 28) rfl))) (by decide) (backOf (W := 0) (rmEmp l Z a0 hw [] b25 (0 : Int32) h34 n0 (Nat.le_trans Z0 kp62.1) f40) hZ (hw _ (List.mem_of_getElem? (i := 30) rfl)) (hw _ (List.mem_of_getElem? (i := 7) rfl)) (by decide) (by decide)) q63a q63c (g := (mkF m 68 #[.val (.int p1), .val (.int p2), .val (.long jl), .second, .val (.ref b2), .val (.int (Int32.ofNat gF)), .val (.int (Int32.ofNat gT)), .val (.ref b25), .unset, .unset] [(.ref b25)])) rfl (by rw [hml]; rfl) (Steps.refl _) (argsL := []) (rest := []) (lenOf pd___Z rfl) rfl (by show 2 * 0 + _ ≤ _; exact Nat.le_of_eq rfl) (hb hby at_68) (fun _ _ => ⟨rfl, e34, (by decide : 6 + 0 ≤ _), (by decide : 1082 + 0 ≤ _)⟩)
  dsimp only [Pt.U, Pt.locs, Pt.cells, Pt.slots] at X63' l63 y63 z63 st63 hQ63
  subst l63 y63 z63
  obtain ⟨rfl, N63q, e63⟩ := hQ63
  obtain ⟨lc63, X63, N63⟩ : ∃ lc, Stand p l e room_1 s m #[(.int p1), (.int p2), (.long jl)] below meth c T63 lc 6 1082 ∧ Fr n0 lc := ⟨_, X63', Fr.app N34 N63q⟩
  have K64 : Gx p e below s₁ f0 T63 (mkF m 71 #[.val (.int p1), .val (.int p2), .val (.long jl), .second, .val (.ref b2), .val (.int (Int32.ofNat gF)), .val (.int (Int32.ofNat gT)), .val (.ref b25), .unset, .unset] [(.int (empF (0 : Int32)))]) := fun t kt => K61 t (st63.trans kt)
  rw [(show (empF (0 : Int32)) = (1 : Int32) from by decide)] at K64
  have K65 : Gx p e below s₁ f0 T63 (mkF m 90 #[.val (.int p1), .val (.int p2), .val (.long jl), .second, .val (.ref b2), .val (.int (Int32.ofNat gF)), .val (.int (Int32.ofNat gT)), .val (.ref b25), .val (.int (1 : Int32)), .val (.int (0 : Int32))] [(.long jl), (.int (Int32.ofNat gT)), (.int (Int32.ofNat gF)), (.ref b2), (.int (0 : Int32)), (.int (p1 &&& (3 : Int32))), (.ref b25)]) := fun t kt => K64 t (by
    show Steps p.tables e below (T63.setTop (mkF m 71 #[.val (.int p1), .val (.int p2), .val (.long jl), .second, .val (.ref b2), .val (.int (Int32.ofNat gF)), .val (.int (Int32.ofNat gT)), .val (.ref b25), .unset, .unset] [(.int (1 : Int32))])) _
    refine XS.istore X63.here hx rfl (hb hby at_71) rfl (l' := #[.val (.int p1), .val (.int p2), .val (.long jl), .second, .val (.ref b2), .val (.int (Int32.ofNat gF)), .val (.int (Int32.ofNat gT)), .val (.ref b25), .val (.int (1 : Int32)), .unset]) rfl ?_
    show Steps p.tables e below (T63.setTop (mkF m 73 #[.val (.int p1), .val (.int p2), .val (.long jl), .second, .val (.ref b2), .val (.int (Int32.ofNat gF)), .val (.int (Int32.ofNat gT)), .val (.ref b25), .val (.int (1 : Int32)), .unset] [])) _
    refine XS.iconst X63.here hx rfl (hb hby at_73) ?_
    show Steps p.tables e below (T63.setTop (mkF m 74 #[.val (.int p1), .val (.int p2), .val (.long jl), .second, .val (.ref b2), .val (.int (Int32.ofNat gF)), .val (.int (Int32.ofNat gT)), .val (.ref b25), .val (.int (1 : Int32)), .unset] [(.int (0 : Int32))])) _
    refine XS.istore X63.here hx rfl (hb hby at_74) rfl (l' := #[.val (.int p1), .val (.int p2), .val (.long jl), .second, .val (.ref b2), .val (.int (Int32.ofNat gF)), .val (.int (Int32.ofNat gT)), .val (.ref b25), .val (.int (1 : Int32)), .val (.int (0 : Int32))]) rfl ?_
    show Steps p.tables e below (T63.setTop (mkF m 76 #[.val (.int p1), .val (.int p2), .val (.long jl), .second, .val (.ref b2), .val (.int (Int32.ofNat gF)), .val (.int (Int32.ofNat gT)), .val (.ref b25), .val (.int (1 : Int32)), .val (.int (0 : Int32))] [])) _
    refine XS.aload X63.here hx rfl (hb hby at_76) rfl rfl ?_
    show Steps p.tables e below (T63.setTop (mkF m 78 #[.val (.int p1), .val (.int p2), .val (.long jl), .second, .val (.ref b2), .val (.int (Int32.ofNat gF)), .val (.int (Int32.ofNat gT)), .val (.ref b25), .val (.int (1 : Int32)), .val (.int (0 : Int32))] [(.ref b25)])) _
    refine XS.iloadN X63.here hx rfl (hb hby at_78) rfl ?_
    show Steps p.tables e below (T63.setTop (mkF m 79 #[.val (.int p1), .val (.int p2), .val (.long jl), .second, .val (.ref b2), .val (.int (Int32.ofNat gF)), .val (.int (Int32.ofNat gT)), .val (.ref b25), .val (.int (1 : Int32)), .val (.int (0 : Int32))] [(.int p1), (.ref b25)])) _
    refine XS.iconst X63.here hx rfl (hb hby at_79) ?_
    show Steps p.tables e below (T63.setTop (mkF m 80 #[.val (.int p1), .val (.int p2), .val (.long jl), .second, .val (.ref b2), .val (.int (Int32.ofNat gF)), .val (.int (Int32.ofNat gT)), .val (.ref b25), .val (.int (1 : Int32)), .val (.int (0 : Int32))] [(.int (3 : Int32)), (.int p1), (.ref b25)])) _
    refine XS.iand X63.here hx rfl (hb hby at_80) rfl ?_
    show Steps p.tables e below (T63.setTop (mkF m 81 #[.val (.int p1), .val (.int p2), .val (.long jl), .second, .val (.ref b2), .val (.int (Int32.ofNat gF)), .val (.int (Int32.ofNat gT)), .val (.ref b25), .val (.int (1 : Int32)), .val (.int (0 : Int32))] [(.int (p1 &&& (3 : Int32))), (.ref b25)])) _
    refine XS.iload X63.here hx rfl (hb hby at_81) rfl ?_
    show Steps p.tables e below (T63.setTop (mkF m 83 #[.val (.int p1), .val (.int p2), .val (.long jl), .second, .val (.ref b2), .val (.int (Int32.ofNat gF)), .val (.int (Int32.ofNat gT)), .val (.ref b25), .val (.int (1 : Int32)), .val (.int (0 : Int32))] [(.int (0 : Int32)), (.int (p1 &&& (3 : Int32))), (.ref b25)])) _
    refine XS.aload X63.here hx rfl (hb hby at_83) rfl rfl ?_
    show Steps p.tables e below (T63.setTop (mkF m 85 #[.val (.int p1), .val (.int p2), .val (.long jl), .second, .val (.ref b2), .val (.int (Int32.ofNat gF)), .val (.int (Int32.ofNat gT)), .val (.ref b25), .val (.int (1 : Int32)), .val (.int (0 : Int32))] [(.ref b2), (.int (0 : Int32)), (.int (p1 &&& (3 : Int32))), (.ref b25)])) _
    refine XS.iload X63.here hx rfl (hb hby at_85) rfl ?_
    show Steps p.tables e below (T63.setTop (mkF m 87 #[.val (.int p1), .val (.int p2), .val (.long jl), .second, .val (.ref b2), .val (.int (Int32.ofNat gF)), .val (.int (Int32.ofNat gT)), .val (.ref b25), .val (.int (1 : Int32)), .val (.int (0 : Int32))] [(.int (Int32.ofNat gF)), (.ref b2), (.int (0 : Int32)), (.int (p1 &&& (3 : Int32))), (.ref b25)])) _
    refine XS.iload X63.here hx rfl (hb hby at_87) rfl ?_
    show Steps p.tables e below (T63.setTop (mkF m 89 #[.val (.int p1), .val (.int p2), .val (.long jl), .second, .val (.ref b2), .val (.int (Int32.ofNat gF)), .val (.int (Int32.ofNat gT)), .val (.ref b25), .val (.int (1 : Int32)), .val (.int (0 : Int32))] [(.int (Int32.ofNat gT)), (.int (Int32.ofNat gF)), (.ref b2), (.int (0 : Int32)), (.int (p1 &&& (3 : Int32))), (.ref b25)])) _
    refine XS.lloadN X63.here hx rfl (hb hby at_89) rfl ?_
    exact kt)
  have f66 : Arv Z h34 b2 k2 .byte (4 : Int32) [(.int (nar .byte (p2.toInt8.toInt32))), (.int (nar .byte (((p2.toUInt32 >>> ((8 : Int32) &&& 31).toUInt32).toInt32).toInt8.toInt32))), (.int (nar .byte (((p2.toUInt32 >>> ((16 : Int32) &&& 31).toUInt32).toInt32).toInt8.toInt32))), (.int (nar .byte (((p2.toUInt32 >>> ((24 : Int32) &&& 31).toUInt32).toInt32).toInt8.toInt32)))] (.int (0 : Int32)) := ((V18.ext E25).keep Kc34 (ninS (Nat.ne_of_lt (Nat.lt_of_lt_of_le V18.lt (Nat.le_of_eq g25.symm))) nin0))
  obtain ⟨_, _, ⟨T67, L67, k67, n67⟩, -, X67', ⟨Lc67, hQ67, l67, y67, z67⟩, st67⟩ := Jvm.LawKit.callS X63 hx (y := (⟨"com/example/fourfold/fourfold/RecordIsEmptyPinLaw", "step", "(Lcom/example/fourfold/fourfold/Record;II[BIIJ)I"⟩ : MethodName)) hown (mvT hZ (hw _ (List.mem_of_getElem? (i := 33) rfl))) (mvT hZ (hw _ (List.mem_of_getElem? (i := 34) rfl))) (mvT hZ (hw _ (List.mem_of_getElem? (i := 35) rfl))) (mvT hZ (hw _ (List.mem_of_getElem? (i := 36) rfl))) (by decide) (backOf (W := 0) (rmStp l Z a0 hw [] b25 (p1 &&& (3 : Int32)) (0 : Int32) b2 (Int32.ofNat gF) (Int32.ofNat gT) jl la_34 li_34 en_34 tx_34 kA_34 kB_34 kC_34 kD_34 vl2_34 vli2_34 ve2_34 vt2_34 k2 [(.int (nar .byte (p2.toInt8.toInt32))), (.int (nar .byte (((p2.toUInt32 >>> ((8 : Int32) &&& 31).toUInt32).toInt32).toInt8.toInt32))), (.int (nar .byte (((p2.toUInt32 >>> ((16 : Int32) &&& 31).toUInt32).toInt32).toInt8.toInt32))), (.int (nar .byte (((p2.toUInt32 >>> ((24 : Int32) &&& 31).toUInt32).toInt32).toInt8.toInt32)))] gF gT 0 0 h34 n0 (Nat.le_trans Z0 kp62.1) f35 f36 f37 f38 f39 f40 f41 f42 f43 f44 f66 (Nat.le_trans Z0 (Nat.le_trans kp21.1 (Nat.le_of_eq g25.symm))) (Nat.le_trans Z0 (Nat.le_trans kp33.1 f45)) (Nat.le_trans Z0 (Nat.le_trans kp33.1 f46)) (Nat.le_trans Z0 (Nat.le_trans kp33.1 f47)) (Nat.le_trans Z0 (Nat.le_trans kp33.1 f48)) (Nat.ne_of_lt (Nat.lt_of_lt_of_le A25.lt f45)) (Nat.ne_of_lt (Nat.lt_of_lt_of_le A25.lt f46)) (Nat.ne_of_lt (Nat.lt_of_lt_of_le A25.lt f47)) (Nat.ne_of_lt (Nat.lt_of_lt_of_le A25.lt f48)) f49 f50 f51 f52 f53 f54 (Nat.ne_of_lt (Nat.lt_of_lt_of_le (V18.ext E25).lt f48)) (Nat.ne_of_lt (Nat.lt_of_lt_of_le V18.lt (Nat.le_of_eq g25.symm))) (Nat.ne_of_lt (Nat.lt_of_lt_of_le (V18.ext E25).lt f45)) (Nat.ne_of_lt (Nat.lt_of_lt_of_le (V18.ext E25).lt f46)) (Nat.ne_of_lt (Nat.lt_of_lt_of_le (V18.ext E25).lt f47)) f55 f56 f57 f58 ⟨hft1, hft2⟩ (by decide) rfl rfl ⟨by omega, by decide⟩ (Or.inl rfl)) hZ (hw _ (List.mem_of_getElem? (i := 36) rfl)) (hw _ (List.mem_of_getElem? (i := 35) rfl)) (by decide) (by decide)) (g := (mkF m 90 #[.val (.int p1), .val (.int p2), .val (.long jl), .second, .val (.ref b2), .val (.int (Int32.ofNat gF)), .val (.int (Int32.ofNat gT)), .val (.ref b25), .val (.int (1 : Int32)), .val (.int (0 : Int32))] [(.long jl), (.int (Int32.ofNat gT)), (.int (Int32.ofNat gF)), (.ref b2), (.int (0 : Int32)), (.int (p1 &&& (3 : Int32))), (.ref b25)])) rfl (by rw [hml]; rfl) (argsL := [(.ref b25), (.int (p1 &&& (3 : Int32))), (.int (0 : Int32)), (.ref b2), (.int (Int32.ofNat gF)), (.int (Int32.ofNat gT)), (.long jl)]) (rest := []) (lenOf pd__Lcom_example_fourfold_fourfold_Record_II_BIIJ_I rfl) rfl (by show 2 * 0 + _ ≤ _; exact Nat.le_of_eq rfl) (hb hby at_90) (fun _ _ => ⟨rfl, e63, (by decide : 6 + 0 ≤ _), (by decide : 1082 + 0 ≤ _)⟩)
  dsimp only [Pt.U, Pt.locs, Pt.cells, Pt.slots] at X67' l67 y67 z67 st67 hQ67
  subst l67 y67 z67
  obtain ⟨h67, e67⟩ : ∃ z, T67.heap = z := ⟨_, rfl⟩
  rw [e67] at hQ67
  obtain ⟨gM_67, vl2_67, vli2_67, ve2_67, vt2_67, rfl, N67q, Kc67, f68, f69, f70, f71, f72, f73, f74, f75, f76, f77, f78, f79, f80, f81, f82, f83⟩ := hQ67
  obtain ⟨lc67, X67, N67⟩ : ∃ lc, Stand p l e room_1 s m #[(.int p1), (.int p2), (.long jl)] below meth c T67 lc 6 1082 ∧ Fr n0 lc := ⟨_, X67', Fr.app N63 N67q⟩
  have K84 : Gx p e below s₁ f0 T67 (mkF m 93 #[.val (.int p1), .val (.int p2), .val (.long jl), .second, .val (.ref b2), .val (.int (Int32.ofNat gF)), .val (.int (Int32.ofNat gT)), .val (.ref b25), .val (.int (1 : Int32)), .val (.int (0 : Int32))] [(.int (Int32.ofNat gM_67))]) := fun t kt => K65 t (st67 t kt)
  have K85 : Gx p e below s₁ f0 T67 (mkF m 102 #[.val (.int p1), .val (.int p2), .val (.long jl), .second, .val (.ref b2), .val (.int (Int32.ofNat gF)), .val (.int (Int32.ofNat gT)), .val (.ref b25), .val (.int (1 : Int32)), .val (.int (Int32.ofNat gM_67))] [(.ref b25)]) := fun t kt => K84 t (by
    show Steps p.tables e below (T67.setTop (mkF m 93 #[.val (.int p1), .val (.int p2), .val (.long jl), .second, .val (.ref b2), .val (.int (Int32.ofNat gF)), .val (.int (Int32.ofNat gT)), .val (.ref b25), .val (.int (1 : Int32)), .val (.int (0 : Int32))] [(.int (Int32.ofNat gM_67))])) _
    refine XS.istore X67.here hx rfl (hb hby at_93) rfl (l' := #[.val (.int p1), .val (.int p2), .val (.long jl), .second, .val (.ref b2), .val (.int (Int32.ofNat gF)), .val (.int (Int32.ofNat gT)), .val (.ref b25), .val (.int (1 : Int32)), .val (.int (Int32.ofNat gM_67))]) rfl ?_
    show Steps p.tables e below (T67.setTop (mkF m 95 #[.val (.int p1), .val (.int p2), .val (.long jl), .second, .val (.ref b2), .val (.int (Int32.ofNat gF)), .val (.int (Int32.ofNat gT)), .val (.ref b25), .val (.int (1 : Int32)), .val (.int (Int32.ofNat gM_67))] [])) _
    refine XS.iload X67.here hx rfl (hb hby at_95) rfl ?_
    show Steps p.tables e below (T67.setTop (mkF m 97 #[.val (.int p1), .val (.int p2), .val (.long jl), .second, .val (.ref b2), .val (.int (Int32.ofNat gF)), .val (.int (Int32.ofNat gT)), .val (.ref b25), .val (.int (1 : Int32)), .val (.int (Int32.ofNat gM_67))] [(.int (1 : Int32))])) _
    refine XS.ifNo X67.here hx rfl (hb hby at_97) rfl ((if0 _ _).trans (feq (by decide)).1) ?_
    show Steps p.tables e below (T67.setTop (mkF m 100 #[.val (.int p1), .val (.int p2), .val (.long jl), .second, .val (.ref b2), .val (.int (Int32.ofNat gF)), .val (.int (Int32.ofNat gT)), .val (.ref b25), .val (.int (1 : Int32)), .val (.int (Int32.ofNat gM_67))] [])) _
    refine XS.aload X67.here hx rfl (hb hby at_100) rfl rfl ?_
    exact kt)
  have kp86 : Keep h0 h67 [] := (Keep.trans kp62 Kc67 (allS (Or.inr (Nat.le_trans kp21.1 (Nat.le_of_eq g25.symm))) (allS (Or.inr (Nat.le_trans kp33.1 f45)) (allS (Or.inr (Nat.le_trans kp33.1 f46)) (allS (Or.inr (Nat.le_trans kp33.1 f47)) (allS (Or.inr (Nat.le_trans kp33.1 f48)) all0))))))
  obtain ⟨cq87, kq87, q87a, q87b, q87c⟩ := isOf hZ e67 f68
  obtain ⟨_, _, ⟨T87, L87, k87, n87⟩, -, X87', ⟨Lc87, hQ87, l87, y87, z87⟩, st87⟩ := X67.virtualBack hx (y := (⟨"com/example/fourfold/fourfold/Record", "isEmpty", "()Z"⟩ : MethodName)) (z := (⟨"com/example/fourfold/fourfold/Record", "isEmpty", "()Z"⟩ : MethodName)) hown (mvT hZ (hw _ (List.mem_of_getElem? (i := 26) rfl))) (mvT hZ (hw _ (List.mem_of_getElem? (i := 27) rfl))) (notFace_of_selects (args := #[]) (mvT hZ (hw _ (List.mem_of_getElem? (i := 29) rfl)))) (mvT hZ (hw _ (List.mem_of_getElem? (i := 29) rfl))) (mvT hZ (hw _ (List.mem_of_getElem? (i := 28) rfl))) (by decide) (backOf (W := 0) (rmEmp l Z a0 hw [] b25 (Int32.ofNat gM_67) h67 n0 (Nat.le_trans Z0 kp86.1) f73) hZ (hw _ (List.mem_of_getElem? (i := 30) rfl)) (hw _ (List.mem_of_getElem? (i := 7) rfl)) (by decide) (by decide)) q87a q87c (g := (mkF m 102 #[.val (.int p1), .val (.int p2), .val (.long jl), .second, .val (.ref b2), .val (.int (Int32.ofNat gF)), .val (.int (Int32.ofNat gT)), .val (.ref b25), .val (.int (1 : Int32)), .val (.int (Int32.ofNat gM_67))] [(.ref b25)])) rfl (by rw [hml]; rfl) (Steps.refl _) (argsL := []) (rest := []) (lenOf pd___Z rfl) rfl (by show 2 * 0 + _ ≤ _; exact Nat.le_of_eq rfl) (hb hby at_102) (fun _ _ => ⟨rfl, e67, (by decide : 6 + 0 ≤ _), (by decide : 1082 + 0 ≤ _)⟩)
  dsimp only [Pt.U, Pt.locs, Pt.cells, Pt.slots] at X87' l87 y87 z87 st87 hQ87
  subst l87 y87 z87
  obtain ⟨rfl, N87q, e87⟩ := hQ87
  obtain ⟨lc87, X87, N87⟩ : ∃ lc, Stand p l e room_1 s m #[(.int p1), (.int p2), (.long jl)] below meth c T87 lc 6 1082 ∧ Fr n0 lc := ⟨_, X87', Fr.app N67 N87q⟩
  have K88 : Gx p e below s₁ f0 T87 (mkF m 105 #[.val (.int p1), .val (.int p2), .val (.long jl), .second, .val (.ref b2), .val (.int (Int32.ofNat gF)), .val (.int (Int32.ofNat gT)), .val (.ref b25), .val (.int (1 : Int32)), .val (.int (Int32.ofNat gM_67))] [(.int (empF (Int32.ofNat gM_67)))]) := fun t kt => K85 t (st87.trans kt)
  have K91 : Gx p e below s₁ f0 T87 (mkF m 107 #[.val (.int p1), .val (.int p2), .val (.long jl), .second, .val (.ref b2), .val (.int (Int32.ofNat gF)), .val (.int (Int32.ofNat gT)), .val (.ref b25), .val (.int (1 : Int32)), .val (.int (Int32.ofNat gM_67))] [(.int (Int32.ofNat gM_67)), (.int (empF (Int32.ofNat gM_67)))]) := fun t kt => K88 t (by
    show Steps p.tables e below (T87.setTop (mkF m 105 #[.val (.int p1), .val (.int p2), .val (.long jl), .second, .val (.ref b2), .val (.int (Int32.ofNat gF)), .val (.int (Int32.ofNat gT)), .val (.ref b25), .val (.int (1 : Int32)), .val (.int (Int32.ofNat gM_67))] [(.int (empF (Int32.ofNat gM_67)))])) _
    refine XS.iload X87.here hx rfl (hb hby at_105) rfl ?_
    exact kt)
  obtain ⟨v90, hv90⟩ : ∃ z : Int32, z = (if (Int32.ofNat gM_67) = (0 : Int32) then (1 : Int32) else (0 : Int32)) := ⟨_, rfl⟩
  have K92 : Gx p e below s₁ f0 T87 (mkF m 115 #[.val (.int p1), .val (.int p2), .val (.long jl), .second, .val (.ref b2), .val (.int (Int32.ofNat gF)), .val (.int (Int32.ofNat gT)), .val (.ref b25), .val (.int (1 : Int32)), .val (.int (Int32.ofNat gM_67))] [(.int v90), (.int (empF (Int32.ofNat gM_67)))]) := fun t kt => K91 t (by
    by_cases hc107_88 : (Int32.ofNat gM_67) = (0 : Int32)
    · skip
      show Steps p.tables e below (T87.setTop (mkF m 107 #[.val (.int p1), .val (.int p2), .val (.long jl), .second, .val (.ref b2), .val (.int (Int32.ofNat gF)), .val (.int (Int32.ofNat gT)), .val (.ref b25), .val (.int (1 : Int32)), .val (.int (Int32.ofNat gM_67))] [(.int (Int32.ofNat gM_67)), (.int (empF (Int32.ofNat gM_67)))])) _
      refine XS.ifNo X87.here hx rfl (hb hby at_107) rfl ((if0 _ _).trans (teq hc107_88).2) ?_
      show Steps p.tables e below (T87.setTop (mkF m 110 #[.val (.int p1), .val (.int p2), .val (.long jl), .second, .val (.ref b2), .val (.int (Int32.ofNat gF)), .val (.int (Int32.ofNat gT)), .val (.ref b25), .val (.int (1 : Int32)), .val (.int (Int32.ofNat gM_67))] [(.int (empF (Int32.ofNat gM_67)))])) _
      refine XS.iconst X87.here hx rfl (hb hby at_110) ?_
      show Steps p.tables e below (T87.setTop (mkF m 111 #[.val (.int p1), .val (.int p2), .val (.long jl), .second, .val (.ref b2), .val (.int (Int32.ofNat gF)), .val (.int (Int32.ofNat gT)), .val (.ref b25), .val (.int (1 : Int32)), .val (.int (Int32.ofNat gM_67))] [(.int (1 : Int32)), (.int (empF (Int32.ofNat gM_67)))])) _
      refine XS.goto X87.here hx rfl (pc0 := 111) (pc' := 115) rfl (hb hby at_111) (by decide) (by decide) ?_
      show Steps p.tables e below (T87.setTop (mkF m 115 #[.val (.int p1), .val (.int p2), .val (.long jl), .second, .val (.ref b2), .val (.int (Int32.ofNat gF)), .val (.int (Int32.ofNat gT)), .val (.ref b25), .val (.int (1 : Int32)), .val (.int (Int32.ofNat gM_67))] [(.int (1 : Int32)), (.int (empF (Int32.ofNat gM_67)))])) _
      exact castTop (by simp only [hv90, if_pos hc107_88]) kt
    · skip
      show Steps p.tables e below (T87.setTop (mkF m 107 #[.val (.int p1), .val (.int p2), .val (.long jl), .second, .val (.ref b2), .val (.int (Int32.ofNat gF)), .val (.int (Int32.ofNat gT)), .val (.ref b25), .val (.int (1 : Int32)), .val (.int (Int32.ofNat gM_67))] [(.int (Int32.ofNat gM_67)), (.int (empF (Int32.ofNat gM_67)))])) _
      refine XS.ifYes X87.here hx rfl (pc0 := 107) (pc' := 114) rfl (hb hby at_107) rfl ((if0 _ _).trans (feq hc107_88).2) (by decide) (by decide) ?_
      show Steps p.tables e below (T87.setTop (mkF m 114 #[.val (.int p1), .val (.int p2), .val (.long jl), .second, .val (.ref b2), .val (.int (Int32.ofNat gF)), .val (.int (Int32.ofNat gT)), .val (.ref b25), .val (.int (1 : Int32)), .val (.int (Int32.ofNat gM_67))] [(.int (empF (Int32.ofNat gM_67)))])) _
      refine XS.iconst X87.here hx rfl (hb hby at_114) ?_
      show Steps p.tables e below (T87.setTop (mkF m 115 #[.val (.int p1), .val (.int p2), .val (.long jl), .second, .val (.ref b2), .val (.int (Int32.ofNat gF)), .val (.int (Int32.ofNat gT)), .val (.ref b25), .val (.int (1 : Int32)), .val (.int (Int32.ofNat gM_67))] [(.int (0 : Int32)), (.int (empF (Int32.ofNat gM_67)))])) _
      exact castTop (by simp only [hv90, if_neg hc107_88]) kt)
  have K93 : Gx p e below s₁ f0 T87 (mkF m 141 #[.val (.int p1), .val (.int p2), .val (.long jl), .second, .val (.ref b2), .val (.int (Int32.ofNat gF)), .val (.int (Int32.ofNat gT)), .val (.ref b25), .val (.int (1 : Int32)), .val (.int (Int32.ofNat gM_67))] [(.long jl), (.int (Int32.ofNat gT)), (.int (Int32.ofNat gF)), (.ref b2), (.int (Int32.ofNat gM_67)), (.int (((p1.toUInt32 >>> ((2 : Int32) &&& 31).toUInt32).toInt32) &&& (3 : Int32))), (.ref b25)]) := fun t kt => K92 t (by
    show Steps p.tables e below (T87.setTop (mkF m 115 #[.val (.int p1), .val (.int p2), .val (.long jl), .second, .val (.ref b2), .val (.int (Int32.ofNat gF)), .val (.int (Int32.ofNat gT)), .val (.ref b25), .val (.int (1 : Int32)), .val (.int (Int32.ofNat gM_67))] [(.int v90), (.int (empF (Int32.ofNat gM_67)))])) _
    refine XS.icmpNo X87.here hx rfl (hb hby at_115) rfl (teq (by rw [hv90]; rfl)).2 ?_
    show Steps p.tables e below (T87.setTop (mkF m 118 #[.val (.int p1), .val (.int p2), .val (.long jl), .second, .val (.ref b2), .val (.int (Int32.ofNat gF)), .val (.int (Int32.ofNat gT)), .val (.ref b25), .val (.int (1 : Int32)), .val (.int (Int32.ofNat gM_67))] [])) _
    refine XS.iconst X87.here hx rfl (hb hby at_118) ?_
    show Steps p.tables e below (T87.setTop (mkF m 119 #[.val (.int p1), .val (.int p2), .val (.long jl), .second, .val (.ref b2), .val (.int (Int32.ofNat gF)), .val (.int (Int32.ofNat gT)), .val (.ref b25), .val (.int (1 : Int32)), .val (.int (Int32.ofNat gM_67))] [(.int (1 : Int32))])) _
    refine XS.goto X87.here hx rfl (pc0 := 119) (pc' := 123) rfl (hb hby at_119) (by decide) (by decide) ?_
    show Steps p.tables e below (T87.setTop (mkF m 123 #[.val (.int p1), .val (.int p2), .val (.long jl), .second, .val (.ref b2), .val (.int (Int32.ofNat gF)), .val (.int (Int32.ofNat gT)), .val (.ref b25), .val (.int (1 : Int32)), .val (.int (Int32.ofNat gM_67))] [(.int (1 : Int32))])) _
    refine XS.istore X87.here hx rfl (hb hby at_123) rfl (l' := #[.val (.int p1), .val (.int p2), .val (.long jl), .second, .val (.ref b2), .val (.int (Int32.ofNat gF)), .val (.int (Int32.ofNat gT)), .val (.ref b25), .val (.int (1 : Int32)), .val (.int (Int32.ofNat gM_67))]) rfl ?_
    show Steps p.tables e below (T87.setTop (mkF m 125 #[.val (.int p1), .val (.int p2), .val (.long jl), .second, .val (.ref b2), .val (.int (Int32.ofNat gF)), .val (.int (Int32.ofNat gT)), .val (.ref b25), .val (.int (1 : Int32)), .val (.int (Int32.ofNat gM_67))] [])) _
    refine XS.aload X87.here hx rfl (hb hby at_125) rfl rfl ?_
    show Steps p.tables e below (T87.setTop (mkF m 127 #[.val (.int p1), .val (.int p2), .val (.long jl), .second, .val (.ref b2), .val (.int (Int32.ofNat gF)), .val (.int (Int32.ofNat gT)), .val (.ref b25), .val (.int (1 : Int32)), .val (.int (Int32.ofNat gM_67))] [(.ref b25)])) _
    refine XS.iloadN X87.here hx rfl (hb hby at_127) rfl ?_
    show Steps p.tables e below (T87.setTop (mkF m 128 #[.val (.int p1), .val (.int p2), .val (.long jl), .second, .val (.ref b2), .val (.int (Int32.ofNat gF)), .val (.int (Int32.ofNat gT)), .val (.ref b25), .val (.int (1 : Int32)), .val (.int (Int32.ofNat gM_67))] [(.int p1), (.ref b25)])) _
    refine XS.iconst X87.here hx rfl (hb hby at_128) ?_
    show Steps p.tables e below (T87.setTop (mkF m 129 #[.val (.int p1), .val (.int p2), .val (.long jl), .second, .val (.ref b2), .val (.int (Int32.ofNat gF)), .val (.int (Int32.ofNat gT)), .val (.ref b25), .val (.int (1 : Int32)), .val (.int (Int32.ofNat gM_67))] [(.int (2 : Int32)), (.int p1), (.ref b25)])) _
    refine XS.iushr X87.here hx rfl (hb hby at_129) rfl ?_
    show Steps p.tables e below (T87.setTop (mkF m 130 #[.val (.int p1), .val (.int p2), .val (.long jl), .second, .val (.ref b2), .val (.int (Int32.ofNat gF)), .val (.int (Int32.ofNat gT)), .val (.ref b25), .val (.int (1 : Int32)), .val (.int (Int32.ofNat gM_67))] [(.int ((p1.toUInt32 >>> ((2 : Int32) &&& 31).toUInt32).toInt32)), (.ref b25)])) _
    refine XS.iconst X87.here hx rfl (hb hby at_130) ?_
    show Steps p.tables e below (T87.setTop (mkF m 131 #[.val (.int p1), .val (.int p2), .val (.long jl), .second, .val (.ref b2), .val (.int (Int32.ofNat gF)), .val (.int (Int32.ofNat gT)), .val (.ref b25), .val (.int (1 : Int32)), .val (.int (Int32.ofNat gM_67))] [(.int (3 : Int32)), (.int ((p1.toUInt32 >>> ((2 : Int32) &&& 31).toUInt32).toInt32)), (.ref b25)])) _
    refine XS.iand X87.here hx rfl (hb hby at_131) rfl ?_
    show Steps p.tables e below (T87.setTop (mkF m 132 #[.val (.int p1), .val (.int p2), .val (.long jl), .second, .val (.ref b2), .val (.int (Int32.ofNat gF)), .val (.int (Int32.ofNat gT)), .val (.ref b25), .val (.int (1 : Int32)), .val (.int (Int32.ofNat gM_67))] [(.int (((p1.toUInt32 >>> ((2 : Int32) &&& 31).toUInt32).toInt32) &&& (3 : Int32))), (.ref b25)])) _
    refine XS.iload X87.here hx rfl (hb hby at_132) rfl ?_
    show Steps p.tables e below (T87.setTop (mkF m 134 #[.val (.int p1), .val (.int p2), .val (.long jl), .second, .val (.ref b2), .val (.int (Int32.ofNat gF)), .val (.int (Int32.ofNat gT)), .val (.ref b25), .val (.int (1 : Int32)), .val (.int (Int32.ofNat gM_67))] [(.int (Int32.ofNat gM_67)), (.int (((p1.toUInt32 >>> ((2 : Int32) &&& 31).toUInt32).toInt32) &&& (3 : Int32))), (.ref b25)])) _
    refine XS.aload X87.here hx rfl (hb hby at_134) rfl rfl ?_
    show Steps p.tables e below (T87.setTop (mkF m 136 #[.val (.int p1), .val (.int p2), .val (.long jl), .second, .val (.ref b2), .val (.int (Int32.ofNat gF)), .val (.int (Int32.ofNat gT)), .val (.ref b25), .val (.int (1 : Int32)), .val (.int (Int32.ofNat gM_67))] [(.ref b2), (.int (Int32.ofNat gM_67)), (.int (((p1.toUInt32 >>> ((2 : Int32) &&& 31).toUInt32).toInt32) &&& (3 : Int32))), (.ref b25)])) _
    refine XS.iload X87.here hx rfl (hb hby at_136) rfl ?_
    show Steps p.tables e below (T87.setTop (mkF m 138 #[.val (.int p1), .val (.int p2), .val (.long jl), .second, .val (.ref b2), .val (.int (Int32.ofNat gF)), .val (.int (Int32.ofNat gT)), .val (.ref b25), .val (.int (1 : Int32)), .val (.int (Int32.ofNat gM_67))] [(.int (Int32.ofNat gF)), (.ref b2), (.int (Int32.ofNat gM_67)), (.int (((p1.toUInt32 >>> ((2 : Int32) &&& 31).toUInt32).toInt32) &&& (3 : Int32))), (.ref b25)])) _
    refine XS.iload X87.here hx rfl (hb hby at_138) rfl ?_
    show Steps p.tables e below (T87.setTop (mkF m 140 #[.val (.int p1), .val (.int p2), .val (.long jl), .second, .val (.ref b2), .val (.int (Int32.ofNat gF)), .val (.int (Int32.ofNat gT)), .val (.ref b25), .val (.int (1 : Int32)), .val (.int (Int32.ofNat gM_67))] [(.int (Int32.ofNat gT)), (.int (Int32.ofNat gF)), (.ref b2), (.int (Int32.ofNat gM_67)), (.int (((p1.toUInt32 >>> ((2 : Int32) &&& 31).toUInt32).toInt32) &&& (3 : Int32))), (.ref b25)])) _
    refine XS.lloadN X87.here hx rfl (hb hby at_140) rfl ?_
    exact kt)
  have f94 : Arv Z h67 b2 k2 .byte (4 : Int32) [(.int (nar .byte (p2.toInt8.toInt32))), (.int (nar .byte (((p2.toUInt32 >>> ((8 : Int32) &&& 31).toUInt32).toInt32).toInt8.toInt32))), (.int (nar .byte (((p2.toUInt32 >>> ((16 : Int32) &&& 31).toUInt32).toInt32).toInt8.toInt32))), (.int (nar .byte (((p2.toUInt32 >>> ((24 : Int32) &&& 31).toUInt32).toInt32).toInt8.toInt32)))] (.int (0 : Int32)) := (f66.keep Kc67 (ninS (Nat.ne_of_lt (Nat.lt_of_lt_of_le V18.lt (Nat.le_of_eq g25.symm))) (ninS (Nat.ne_of_lt (Nat.lt_of_lt_of_le (V18.ext E25).lt f45)) (ninS (Nat.ne_of_lt (Nat.lt_of_lt_of_le (V18.ext E25).lt f46)) (ninS (Nat.ne_of_lt (Nat.lt_of_lt_of_le (V18.ext E25).lt f47)) (ninS (Nat.ne_of_lt (Nat.lt_of_lt_of_le (V18.ext E25).lt f48)) nin0))))))
  obtain ⟨_, _, ⟨T95, L95, k95, n95⟩, -, X95', ⟨Lc95, hQ95, l95, y95, z95⟩, st95⟩ := Jvm.LawKit.callS X87 hx (y := (⟨"com/example/fourfold/fourfold/RecordIsEmptyPinLaw", "step", "(Lcom/example/fourfold/fourfold/Record;II[BIIJ)I"⟩ : MethodName)) hown (mvT hZ (hw _ (List.mem_of_getElem? (i := 33) rfl))) (mvT hZ (hw _ (List.mem_of_getElem? (i := 34) rfl))) (mvT hZ (hw _ (List.mem_of_getElem? (i := 35) rfl))) (mvT hZ (hw _ (List.mem_of_getElem? (i := 36) rfl))) (by decide) (backOf (W := 0) (rmStp l Z a0 hw [] b25 (((p1.toUInt32 >>> ((2 : Int32) &&& 31).toUInt32).toInt32) &&& (3 : Int32)) (Int32.ofNat gM_67) b2 (Int32.ofNat gF) (Int32.ofNat gT) jl la_34 li_34 en_34 tx_34 kA_34 kB_34 kC_34 kD_34 vl2_67 vli2_67 ve2_67 vt2_67 k2 [(.int (nar .byte (p2.toInt8.toInt32))), (.int (nar .byte (((p2.toUInt32 >>> ((8 : Int32) &&& 31).toUInt32).toInt32).toInt8.toInt32))), (.int (nar .byte (((p2.toUInt32 >>> ((16 : Int32) &&& 31).toUInt32).toInt32).toInt8.toInt32))), (.int (nar .byte (((p2.toUInt32 >>> ((24 : Int32) &&& 31).toUInt32).toInt32).toInt8.toInt32)))] gF gT gM_67 5 h67 n0 (Nat.le_trans Z0 kp86.1) f68 f69 f70 f71 f72 f73 f74 f75 f76 f77 f94 (Nat.le_trans Z0 (Nat.le_trans kp21.1 (Nat.le_of_eq g25.symm))) (Nat.le_trans Z0 (Nat.le_trans kp33.1 f45)) (Nat.le_trans Z0 (Nat.le_trans kp33.1 f46)) (Nat.le_trans Z0 (Nat.le_trans kp33.1 f47)) (Nat.le_trans Z0 (Nat.le_trans kp33.1 f48)) (Nat.ne_of_lt (Nat.lt_of_lt_of_le A25.lt f45)) (Nat.ne_of_lt (Nat.lt_of_lt_of_le A25.lt f46)) (Nat.ne_of_lt (Nat.lt_of_lt_of_le A25.lt f47)) (Nat.ne_of_lt (Nat.lt_of_lt_of_le A25.lt f48)) f49 f50 f51 f52 f53 f54 (Nat.ne_of_lt (Nat.lt_of_lt_of_le (V18.ext E25).lt f48)) (Nat.ne_of_lt (Nat.lt_of_lt_of_le V18.lt (Nat.le_of_eq g25.symm))) (Nat.ne_of_lt (Nat.lt_of_lt_of_le (V18.ext E25).lt f45)) (Nat.ne_of_lt (Nat.lt_of_lt_of_le (V18.ext E25).lt f46)) (Nat.ne_of_lt (Nat.lt_of_lt_of_le (V18.ext E25).lt f47)) f78 f79 f80 f81 ⟨hft1, hft2⟩ rfl rfl rfl ⟨by omega, by decide⟩ f83) hZ (hw _ (List.mem_of_getElem? (i := 36) rfl)) (hw _ (List.mem_of_getElem? (i := 35) rfl)) (by decide) (by decide)) (g := (mkF m 141 #[.val (.int p1), .val (.int p2), .val (.long jl), .second, .val (.ref b2), .val (.int (Int32.ofNat gF)), .val (.int (Int32.ofNat gT)), .val (.ref b25), .val (.int (1 : Int32)), .val (.int (Int32.ofNat gM_67))] [(.long jl), (.int (Int32.ofNat gT)), (.int (Int32.ofNat gF)), (.ref b2), (.int (Int32.ofNat gM_67)), (.int (((p1.toUInt32 >>> ((2 : Int32) &&& 31).toUInt32).toInt32) &&& (3 : Int32))), (.ref b25)])) rfl (by rw [hml]; rfl) (argsL := [(.ref b25), (.int (((p1.toUInt32 >>> ((2 : Int32) &&& 31).toUInt32).toInt32) &&& (3 : Int32))), (.int (Int32.ofNat gM_67)), (.ref b2), (.int (Int32.ofNat gF)), (.int (Int32.ofNat gT)), (.long jl)]) (rest := []) (lenOf pd__Lcom_example_fourfold_fourfold_Record_II_BIIJ_I rfl) rfl (by show 2 * 0 + _ ≤ _; exact Nat.le_of_eq rfl) (hb hby at_141) (fun _ _ => ⟨rfl, e87, (by decide : 6 + 0 ≤ _), (by decide : 1082 + 0 ≤ _)⟩)
  dsimp only [Pt.U, Pt.locs, Pt.cells, Pt.slots] at X95' l95 y95 z95 st95 hQ95
  subst l95 y95 z95
  obtain ⟨h95, e95⟩ : ∃ z, T95.heap = z := ⟨_, rfl⟩
  rw [e95] at hQ95
  obtain ⟨gM_95, vl2_95, vli2_95, ve2_95, vt2_95, rfl, N95q, Kc95, f96, f97, f98, f99, f100, f101, f102, f103, f104, f105, f106, f107, f108, f109, f110, f111⟩ := hQ95
  obtain ⟨lc95, X95, N95⟩ : ∃ lc, Stand p l e room_1 s m #[(.int p1), (.int p2), (.long jl)] below meth c T95 lc 6 1082 ∧ Fr n0 lc := ⟨_, X95', Fr.app N87 N95q⟩
  have K112 : Gx p e below s₁ f0 T95 (mkF m 144 #[.val (.int p1), .val (.int p2), .val (.long jl), .second, .val (.ref b2), .val (.int (Int32.ofNat gF)), .val (.int (Int32.ofNat gT)), .val (.ref b25), .val (.int (1 : Int32)), .val (.int (Int32.ofNat gM_67))] [(.int (Int32.ofNat gM_95))]) := fun t kt => K93 t (st95 t kt)
  have K113 : Gx p e below s₁ f0 T95 (mkF m 153 #[.val (.int p1), .val (.int p2), .val (.long jl), .second, .val (.ref b2), .val (.int (Int32.ofNat gF)), .val (.int (Int32.ofNat gT)), .val (.ref b25), .val (.int (1 : Int32)), .val (.int (Int32.ofNat gM_95))] [(.ref b25)]) := fun t kt => K112 t (by
    show Steps p.tables e below (T95.setTop (mkF m 144 #[.val (.int p1), .val (.int p2), .val (.long jl), .second, .val (.ref b2), .val (.int (Int32.ofNat gF)), .val (.int (Int32.ofNat gT)), .val (.ref b25), .val (.int (1 : Int32)), .val (.int (Int32.ofNat gM_67))] [(.int (Int32.ofNat gM_95))])) _
    refine XS.istore X95.here hx rfl (hb hby at_144) rfl (l' := #[.val (.int p1), .val (.int p2), .val (.long jl), .second, .val (.ref b2), .val (.int (Int32.ofNat gF)), .val (.int (Int32.ofNat gT)), .val (.ref b25), .val (.int (1 : Int32)), .val (.int (Int32.ofNat gM_95))]) rfl ?_
    show Steps p.tables e below (T95.setTop (mkF m 146 #[.val (.int p1), .val (.int p2), .val (.long jl), .second, .val (.ref b2), .val (.int (Int32.ofNat gF)), .val (.int (Int32.ofNat gT)), .val (.ref b25), .val (.int (1 : Int32)), .val (.int (Int32.ofNat gM_95))] [])) _
    refine XS.iload X95.here hx rfl (hb hby at_146) rfl ?_
    show Steps p.tables e below (T95.setTop (mkF m 148 #[.val (.int p1), .val (.int p2), .val (.long jl), .second, .val (.ref b2), .val (.int (Int32.ofNat gF)), .val (.int (Int32.ofNat gT)), .val (.ref b25), .val (.int (1 : Int32)), .val (.int (Int32.ofNat gM_95))] [(.int (1 : Int32))])) _
    refine XS.ifNo X95.here hx rfl (hb hby at_148) rfl ((if0 _ _).trans (feq (by decide)).1) ?_
    show Steps p.tables e below (T95.setTop (mkF m 151 #[.val (.int p1), .val (.int p2), .val (.long jl), .second, .val (.ref b2), .val (.int (Int32.ofNat gF)), .val (.int (Int32.ofNat gT)), .val (.ref b25), .val (.int (1 : Int32)), .val (.int (Int32.ofNat gM_95))] [])) _
    refine XS.aload X95.here hx rfl (hb hby at_151) rfl rfl ?_
    exact kt)
  have kp114 : Keep h0 h95 [] := (Keep.trans kp86 Kc95 (allS (Or.inr (Nat.le_trans kp21.1 (Nat.le_of_eq g25.symm))) (allS (Or.inr (Nat.le_trans kp33.1 f45)) (allS (Or.inr (Nat.le_trans kp33.1 f46)) (allS (Or.inr (Nat.le_trans kp33.1 f47)) (allS (Or.inr (Nat.le_trans kp33.1 f48)) all0))))))
  obtain ⟨cq115, kq115, q115a, q115b, q115c⟩ := isOf hZ e95 f96
  obtain ⟨_, _, ⟨T115, L115, k115, n115⟩, -, X115', ⟨Lc115, hQ115, l115, y115, z115⟩, st115⟩ := X95.virtualBack hx (y := (⟨"com/example/fourfold/fourfold/Record", "isEmpty", "()Z"⟩ : MethodName)) (z := (⟨"com/example/fourfold/fourfold/Record", "isEmpty", "()Z"⟩ : MethodName)) hown (mvT hZ (hw _ (List.mem_of_getElem? (i := 26) rfl))) (mvT hZ (hw _ (List.mem_of_getElem? (i := 27) rfl))) (notFace_of_selects (args := #[]) (mvT hZ (hw _ (List.mem_of_getElem? (i := 29) rfl)))) (mvT hZ (hw _ (List.mem_of_getElem? (i := 29) rfl))) (mvT hZ (hw _ (List.mem_of_getElem? (i := 28) rfl))) (by decide) (backOf (W := 0) (rmEmp l Z a0 hw [] b25 (Int32.ofNat gM_95) h95 n0 (Nat.le_trans Z0 kp114.1) f101) hZ (hw _ (List.mem_of_getElem? (i := 30) rfl)) (hw _ (List.mem_of_getElem? (i := 7) rfl)) (by decide) (by decide)) q115a q115c (g := (mkF m 153 #[.val (.int p1), .val (.int p2), .val (.long jl), .second, .val (.ref b2), .val (.int (Int32.ofNat gF)), .val (.int (Int32.ofNat gT)), .val (.ref b25), .val (.int (1 : Int32)), .val (.int (Int32.ofNat gM_95))] [(.ref b25)])) rfl (by rw [hml]; rfl) (Steps.refl _) (argsL := []) (rest := []) (lenOf pd___Z rfl) rfl (by show 2 * 0 + _ ≤ _; exact Nat.le_of_eq rfl) (hb hby at_153) (fun _ _ => ⟨rfl, e95, (by decide : 6 + 0 ≤ _), (by decide : 1082 + 0 ≤ _)⟩)
  dsimp only [Pt.U, Pt.locs, Pt.cells, Pt.slots] at X115' l115 y115 z115 st115 hQ115
  subst l115 y115 z115
  obtain ⟨rfl, N115q, e115⟩ := hQ115
  obtain ⟨lc115, X115, N115⟩ : ∃ lc, Stand p l e room_1 s m #[(.int p1), (.int p2), (.long jl)] below meth c T115 lc 6 1082 ∧ Fr n0 lc := ⟨_, X115', Fr.app N95 N115q⟩
  have K116 : Gx p e below s₁ f0 T115 (mkF m 156 #[.val (.int p1), .val (.int p2), .val (.long jl), .second, .val (.ref b2), .val (.int (Int32.ofNat gF)), .val (.int (Int32.ofNat gT)), .val (.ref b25), .val (.int (1 : Int32)), .val (.int (Int32.ofNat gM_95))] [(.int (empF (Int32.ofNat gM_95)))]) := fun t kt => K113 t (st115.trans kt)
  have K119 : Gx p e below s₁ f0 T115 (mkF m 158 #[.val (.int p1), .val (.int p2), .val (.long jl), .second, .val (.ref b2), .val (.int (Int32.ofNat gF)), .val (.int (Int32.ofNat gT)), .val (.ref b25), .val (.int (1 : Int32)), .val (.int (Int32.ofNat gM_95))] [(.int (Int32.ofNat gM_95)), (.int (empF (Int32.ofNat gM_95)))]) := fun t kt => K116 t (by
    show Steps p.tables e below (T115.setTop (mkF m 156 #[.val (.int p1), .val (.int p2), .val (.long jl), .second, .val (.ref b2), .val (.int (Int32.ofNat gF)), .val (.int (Int32.ofNat gT)), .val (.ref b25), .val (.int (1 : Int32)), .val (.int (Int32.ofNat gM_95))] [(.int (empF (Int32.ofNat gM_95)))])) _
    refine XS.iload X115.here hx rfl (hb hby at_156) rfl ?_
    exact kt)
  obtain ⟨v118, hv118⟩ : ∃ z : Int32, z = (if (Int32.ofNat gM_95) = (0 : Int32) then (1 : Int32) else (0 : Int32)) := ⟨_, rfl⟩
  have K120 : Gx p e below s₁ f0 T115 (mkF m 166 #[.val (.int p1), .val (.int p2), .val (.long jl), .second, .val (.ref b2), .val (.int (Int32.ofNat gF)), .val (.int (Int32.ofNat gT)), .val (.ref b25), .val (.int (1 : Int32)), .val (.int (Int32.ofNat gM_95))] [(.int v118), (.int (empF (Int32.ofNat gM_95)))]) := fun t kt => K119 t (by
    by_cases hc158_116 : (Int32.ofNat gM_95) = (0 : Int32)
    · skip
      show Steps p.tables e below (T115.setTop (mkF m 158 #[.val (.int p1), .val (.int p2), .val (.long jl), .second, .val (.ref b2), .val (.int (Int32.ofNat gF)), .val (.int (Int32.ofNat gT)), .val (.ref b25), .val (.int (1 : Int32)), .val (.int (Int32.ofNat gM_95))] [(.int (Int32.ofNat gM_95)), (.int (empF (Int32.ofNat gM_95)))])) _
      refine XS.ifNo X115.here hx rfl (hb hby at_158) rfl ((if0 _ _).trans (teq hc158_116).2) ?_
      show Steps p.tables e below (T115.setTop (mkF m 161 #[.val (.int p1), .val (.int p2), .val (.long jl), .second, .val (.ref b2), .val (.int (Int32.ofNat gF)), .val (.int (Int32.ofNat gT)), .val (.ref b25), .val (.int (1 : Int32)), .val (.int (Int32.ofNat gM_95))] [(.int (empF (Int32.ofNat gM_95)))])) _
      refine XS.iconst X115.here hx rfl (hb hby at_161) ?_
      show Steps p.tables e below (T115.setTop (mkF m 162 #[.val (.int p1), .val (.int p2), .val (.long jl), .second, .val (.ref b2), .val (.int (Int32.ofNat gF)), .val (.int (Int32.ofNat gT)), .val (.ref b25), .val (.int (1 : Int32)), .val (.int (Int32.ofNat gM_95))] [(.int (1 : Int32)), (.int (empF (Int32.ofNat gM_95)))])) _
      refine XS.goto X115.here hx rfl (pc0 := 162) (pc' := 166) rfl (hb hby at_162) (by decide) (by decide) ?_
      show Steps p.tables e below (T115.setTop (mkF m 166 #[.val (.int p1), .val (.int p2), .val (.long jl), .second, .val (.ref b2), .val (.int (Int32.ofNat gF)), .val (.int (Int32.ofNat gT)), .val (.ref b25), .val (.int (1 : Int32)), .val (.int (Int32.ofNat gM_95))] [(.int (1 : Int32)), (.int (empF (Int32.ofNat gM_95)))])) _
      exact castTop (by simp only [hv118, if_pos hc158_116]) kt
    · skip
      show Steps p.tables e below (T115.setTop (mkF m 158 #[.val (.int p1), .val (.int p2), .val (.long jl), .second, .val (.ref b2), .val (.int (Int32.ofNat gF)), .val (.int (Int32.ofNat gT)), .val (.ref b25), .val (.int (1 : Int32)), .val (.int (Int32.ofNat gM_95))] [(.int (Int32.ofNat gM_95)), (.int (empF (Int32.ofNat gM_95)))])) _
      refine XS.ifYes X115.here hx rfl (pc0 := 158) (pc' := 165) rfl (hb hby at_158) rfl ((if0 _ _).trans (feq hc158_116).2) (by decide) (by decide) ?_
      show Steps p.tables e below (T115.setTop (mkF m 165 #[.val (.int p1), .val (.int p2), .val (.long jl), .second, .val (.ref b2), .val (.int (Int32.ofNat gF)), .val (.int (Int32.ofNat gT)), .val (.ref b25), .val (.int (1 : Int32)), .val (.int (Int32.ofNat gM_95))] [(.int (empF (Int32.ofNat gM_95)))])) _
      refine XS.iconst X115.here hx rfl (hb hby at_165) ?_
      show Steps p.tables e below (T115.setTop (mkF m 166 #[.val (.int p1), .val (.int p2), .val (.long jl), .second, .val (.ref b2), .val (.int (Int32.ofNat gF)), .val (.int (Int32.ofNat gT)), .val (.ref b25), .val (.int (1 : Int32)), .val (.int (Int32.ofNat gM_95))] [(.int (0 : Int32)), (.int (empF (Int32.ofNat gM_95)))])) _
      exact castTop (by simp only [hv118, if_neg hc158_116]) kt)
  have K121 : Gx p e below s₁ f0 T115 (mkF m 192 #[.val (.int p1), .val (.int p2), .val (.long jl), .second, .val (.ref b2), .val (.int (Int32.ofNat gF)), .val (.int (Int32.ofNat gT)), .val (.ref b25), .val (.int (1 : Int32)), .val (.int (Int32.ofNat gM_95))] [(.long jl), (.int (Int32.ofNat gT)), (.int (Int32.ofNat gF)), (.ref b2), (.int (Int32.ofNat gM_95)), (.int (((p1.toUInt32 >>> ((4 : Int32) &&& 31).toUInt32).toInt32) &&& (3 : Int32))), (.ref b25)]) := fun t kt => K120 t (by
    show Steps p.tables e below (T115.setTop (mkF m 166 #[.val (.int p1), .val (.int p2), .val (.long jl), .second, .val (.ref b2), .val (.int (Int32.ofNat gF)), .val (.int (Int32.ofNat gT)), .val (.ref b25), .val (.int (1 : Int32)), .val (.int (Int32.ofNat gM_95))] [(.int v118), (.int (empF (Int32.ofNat gM_95)))])) _
    refine XS.icmpNo X115.here hx rfl (hb hby at_166) rfl (teq (by rw [hv118]; rfl)).2 ?_
    show Steps p.tables e below (T115.setTop (mkF m 169 #[.val (.int p1), .val (.int p2), .val (.long jl), .second, .val (.ref b2), .val (.int (Int32.ofNat gF)), .val (.int (Int32.ofNat gT)), .val (.ref b25), .val (.int (1 : Int32)), .val (.int (Int32.ofNat gM_95))] [])) _
    refine XS.iconst X115.here hx rfl (hb hby at_169) ?_
    show Steps p.tables e below (T115.setTop (mkF m 170 #[.val (.int p1), .val (.int p2), .val (.long jl), .second, .val (.ref b2), .val (.int (Int32.ofNat gF)), .val (.int (Int32.ofNat gT)), .val (.ref b25), .val (.int (1 : Int32)), .val (.int (Int32.ofNat gM_95))] [(.int (1 : Int32))])) _
    refine XS.goto X115.here hx rfl (pc0 := 170) (pc' := 174) rfl (hb hby at_170) (by decide) (by decide) ?_
    show Steps p.tables e below (T115.setTop (mkF m 174 #[.val (.int p1), .val (.int p2), .val (.long jl), .second, .val (.ref b2), .val (.int (Int32.ofNat gF)), .val (.int (Int32.ofNat gT)), .val (.ref b25), .val (.int (1 : Int32)), .val (.int (Int32.ofNat gM_95))] [(.int (1 : Int32))])) _
    refine XS.istore X115.here hx rfl (hb hby at_174) rfl (l' := #[.val (.int p1), .val (.int p2), .val (.long jl), .second, .val (.ref b2), .val (.int (Int32.ofNat gF)), .val (.int (Int32.ofNat gT)), .val (.ref b25), .val (.int (1 : Int32)), .val (.int (Int32.ofNat gM_95))]) rfl ?_
    show Steps p.tables e below (T115.setTop (mkF m 176 #[.val (.int p1), .val (.int p2), .val (.long jl), .second, .val (.ref b2), .val (.int (Int32.ofNat gF)), .val (.int (Int32.ofNat gT)), .val (.ref b25), .val (.int (1 : Int32)), .val (.int (Int32.ofNat gM_95))] [])) _
    refine XS.aload X115.here hx rfl (hb hby at_176) rfl rfl ?_
    show Steps p.tables e below (T115.setTop (mkF m 178 #[.val (.int p1), .val (.int p2), .val (.long jl), .second, .val (.ref b2), .val (.int (Int32.ofNat gF)), .val (.int (Int32.ofNat gT)), .val (.ref b25), .val (.int (1 : Int32)), .val (.int (Int32.ofNat gM_95))] [(.ref b25)])) _
    refine XS.iloadN X115.here hx rfl (hb hby at_178) rfl ?_
    show Steps p.tables e below (T115.setTop (mkF m 179 #[.val (.int p1), .val (.int p2), .val (.long jl), .second, .val (.ref b2), .val (.int (Int32.ofNat gF)), .val (.int (Int32.ofNat gT)), .val (.ref b25), .val (.int (1 : Int32)), .val (.int (Int32.ofNat gM_95))] [(.int p1), (.ref b25)])) _
    refine XS.iconst X115.here hx rfl (hb hby at_179) ?_
    show Steps p.tables e below (T115.setTop (mkF m 180 #[.val (.int p1), .val (.int p2), .val (.long jl), .second, .val (.ref b2), .val (.int (Int32.ofNat gF)), .val (.int (Int32.ofNat gT)), .val (.ref b25), .val (.int (1 : Int32)), .val (.int (Int32.ofNat gM_95))] [(.int (4 : Int32)), (.int p1), (.ref b25)])) _
    refine XS.iushr X115.here hx rfl (hb hby at_180) rfl ?_
    show Steps p.tables e below (T115.setTop (mkF m 181 #[.val (.int p1), .val (.int p2), .val (.long jl), .second, .val (.ref b2), .val (.int (Int32.ofNat gF)), .val (.int (Int32.ofNat gT)), .val (.ref b25), .val (.int (1 : Int32)), .val (.int (Int32.ofNat gM_95))] [(.int ((p1.toUInt32 >>> ((4 : Int32) &&& 31).toUInt32).toInt32)), (.ref b25)])) _
    refine XS.iconst X115.here hx rfl (hb hby at_181) ?_
    show Steps p.tables e below (T115.setTop (mkF m 182 #[.val (.int p1), .val (.int p2), .val (.long jl), .second, .val (.ref b2), .val (.int (Int32.ofNat gF)), .val (.int (Int32.ofNat gT)), .val (.ref b25), .val (.int (1 : Int32)), .val (.int (Int32.ofNat gM_95))] [(.int (3 : Int32)), (.int ((p1.toUInt32 >>> ((4 : Int32) &&& 31).toUInt32).toInt32)), (.ref b25)])) _
    refine XS.iand X115.here hx rfl (hb hby at_182) rfl ?_
    show Steps p.tables e below (T115.setTop (mkF m 183 #[.val (.int p1), .val (.int p2), .val (.long jl), .second, .val (.ref b2), .val (.int (Int32.ofNat gF)), .val (.int (Int32.ofNat gT)), .val (.ref b25), .val (.int (1 : Int32)), .val (.int (Int32.ofNat gM_95))] [(.int (((p1.toUInt32 >>> ((4 : Int32) &&& 31).toUInt32).toInt32) &&& (3 : Int32))), (.ref b25)])) _
    refine XS.iload X115.here hx rfl (hb hby at_183) rfl ?_
    show Steps p.tables e below (T115.setTop (mkF m 185 #[.val (.int p1), .val (.int p2), .val (.long jl), .second, .val (.ref b2), .val (.int (Int32.ofNat gF)), .val (.int (Int32.ofNat gT)), .val (.ref b25), .val (.int (1 : Int32)), .val (.int (Int32.ofNat gM_95))] [(.int (Int32.ofNat gM_95)), (.int (((p1.toUInt32 >>> ((4 : Int32) &&& 31).toUInt32).toInt32) &&& (3 : Int32))), (.ref b25)])) _
    refine XS.aload X115.here hx rfl (hb hby at_185) rfl rfl ?_
    show Steps p.tables e below (T115.setTop (mkF m 187 #[.val (.int p1), .val (.int p2), .val (.long jl), .second, .val (.ref b2), .val (.int (Int32.ofNat gF)), .val (.int (Int32.ofNat gT)), .val (.ref b25), .val (.int (1 : Int32)), .val (.int (Int32.ofNat gM_95))] [(.ref b2), (.int (Int32.ofNat gM_95)), (.int (((p1.toUInt32 >>> ((4 : Int32) &&& 31).toUInt32).toInt32) &&& (3 : Int32))), (.ref b25)])) _
    refine XS.iload X115.here hx rfl (hb hby at_187) rfl ?_
    show Steps p.tables e below (T115.setTop (mkF m 189 #[.val (.int p1), .val (.int p2), .val (.long jl), .second, .val (.ref b2), .val (.int (Int32.ofNat gF)), .val (.int (Int32.ofNat gT)), .val (.ref b25), .val (.int (1 : Int32)), .val (.int (Int32.ofNat gM_95))] [(.int (Int32.ofNat gF)), (.ref b2), (.int (Int32.ofNat gM_95)), (.int (((p1.toUInt32 >>> ((4 : Int32) &&& 31).toUInt32).toInt32) &&& (3 : Int32))), (.ref b25)])) _
    refine XS.iload X115.here hx rfl (hb hby at_189) rfl ?_
    show Steps p.tables e below (T115.setTop (mkF m 191 #[.val (.int p1), .val (.int p2), .val (.long jl), .second, .val (.ref b2), .val (.int (Int32.ofNat gF)), .val (.int (Int32.ofNat gT)), .val (.ref b25), .val (.int (1 : Int32)), .val (.int (Int32.ofNat gM_95))] [(.int (Int32.ofNat gT)), (.int (Int32.ofNat gF)), (.ref b2), (.int (Int32.ofNat gM_95)), (.int (((p1.toUInt32 >>> ((4 : Int32) &&& 31).toUInt32).toInt32) &&& (3 : Int32))), (.ref b25)])) _
    refine XS.lloadN X115.here hx rfl (hb hby at_191) rfl ?_
    exact kt)
  have f122 : Arv Z h95 b2 k2 .byte (4 : Int32) [(.int (nar .byte (p2.toInt8.toInt32))), (.int (nar .byte (((p2.toUInt32 >>> ((8 : Int32) &&& 31).toUInt32).toInt32).toInt8.toInt32))), (.int (nar .byte (((p2.toUInt32 >>> ((16 : Int32) &&& 31).toUInt32).toInt32).toInt8.toInt32))), (.int (nar .byte (((p2.toUInt32 >>> ((24 : Int32) &&& 31).toUInt32).toInt32).toInt8.toInt32)))] (.int (0 : Int32)) := (f94.keep Kc95 (ninS (Nat.ne_of_lt (Nat.lt_of_lt_of_le V18.lt (Nat.le_of_eq g25.symm))) (ninS (Nat.ne_of_lt (Nat.lt_of_lt_of_le (V18.ext E25).lt f45)) (ninS (Nat.ne_of_lt (Nat.lt_of_lt_of_le (V18.ext E25).lt f46)) (ninS (Nat.ne_of_lt (Nat.lt_of_lt_of_le (V18.ext E25).lt f47)) (ninS (Nat.ne_of_lt (Nat.lt_of_lt_of_le (V18.ext E25).lt f48)) nin0))))))
  obtain ⟨_, _, ⟨T123, L123, k123, n123⟩, -, X123', ⟨Lc123, hQ123, l123, y123, z123⟩, st123⟩ := Jvm.LawKit.callS X115 hx (y := (⟨"com/example/fourfold/fourfold/RecordIsEmptyPinLaw", "step", "(Lcom/example/fourfold/fourfold/Record;II[BIIJ)I"⟩ : MethodName)) hown (mvT hZ (hw _ (List.mem_of_getElem? (i := 33) rfl))) (mvT hZ (hw _ (List.mem_of_getElem? (i := 34) rfl))) (mvT hZ (hw _ (List.mem_of_getElem? (i := 35) rfl))) (mvT hZ (hw _ (List.mem_of_getElem? (i := 36) rfl))) (by decide) (backOf (W := 0) (rmStp l Z a0 hw [] b25 (((p1.toUInt32 >>> ((4 : Int32) &&& 31).toUInt32).toInt32) &&& (3 : Int32)) (Int32.ofNat gM_95) b2 (Int32.ofNat gF) (Int32.ofNat gT) jl la_34 li_34 en_34 tx_34 kA_34 kB_34 kC_34 kD_34 vl2_95 vli2_95 ve2_95 vt2_95 k2 [(.int (nar .byte (p2.toInt8.toInt32))), (.int (nar .byte (((p2.toUInt32 >>> ((8 : Int32) &&& 31).toUInt32).toInt32).toInt8.toInt32))), (.int (nar .byte (((p2.toUInt32 >>> ((16 : Int32) &&& 31).toUInt32).toInt32).toInt8.toInt32))), (.int (nar .byte (((p2.toUInt32 >>> ((24 : Int32) &&& 31).toUInt32).toInt32).toInt8.toInt32)))] gF gT gM_95 10 h95 n0 (Nat.le_trans Z0 kp114.1) f96 f97 f98 f99 f100 f101 f102 f103 f104 f105 f122 (Nat.le_trans Z0 (Nat.le_trans kp21.1 (Nat.le_of_eq g25.symm))) (Nat.le_trans Z0 (Nat.le_trans kp33.1 f45)) (Nat.le_trans Z0 (Nat.le_trans kp33.1 f46)) (Nat.le_trans Z0 (Nat.le_trans kp33.1 f47)) (Nat.le_trans Z0 (Nat.le_trans kp33.1 f48)) (Nat.ne_of_lt (Nat.lt_of_lt_of_le A25.lt f45)) (Nat.ne_of_lt (Nat.lt_of_lt_of_le A25.lt f46)) (Nat.ne_of_lt (Nat.lt_of_lt_of_le A25.lt f47)) (Nat.ne_of_lt (Nat.lt_of_lt_of_le A25.lt f48)) f49 f50 f51 f52 f53 f54 (Nat.ne_of_lt (Nat.lt_of_lt_of_le (V18.ext E25).lt f48)) (Nat.ne_of_lt (Nat.lt_of_lt_of_le V18.lt (Nat.le_of_eq g25.symm))) (Nat.ne_of_lt (Nat.lt_of_lt_of_le (V18.ext E25).lt f45)) (Nat.ne_of_lt (Nat.lt_of_lt_of_le (V18.ext E25).lt f46)) (Nat.ne_of_lt (Nat.lt_of_lt_of_le (V18.ext E25).lt f47)) f106 f107 f108 f109 ⟨hft1, hft2⟩ rfl rfl rfl ⟨by omega, by decide⟩ f111) hZ (hw _ (List.mem_of_getElem? (i := 36) rfl)) (hw _ (List.mem_of_getElem? (i := 35) rfl)) (by decide) (by decide)) (g := (mkF m 192 #[.val (.int p1), .val (.int p2), .val (.long jl), .second, .val (.ref b2), .val (.int (Int32.ofNat gF)), .val (.int (Int32.ofNat gT)), .val (.ref b25), .val (.int (1 : Int32)), .val (.int (Int32.ofNat gM_95))] [(.long jl), (.int (Int32.ofNat gT)), (.int (Int32.ofNat gF)), (.ref b2), (.int (Int32.ofNat gM_95)), (.int (((p1.toUInt32 >>> ((4 : Int32) &&& 31).toUInt32).toInt32) &&& (3 : Int32))), (.ref b25)])) rfl (by rw [hml]; rfl) (argsL := [(.ref b25), (.int (((p1.toUInt32 >>> ((4 : Int32) &&& 31).toUInt32).toInt32) &&& (3 : Int32))), (.int (Int32.ofNat gM_95)), (.ref b2), (.int (Int32.ofNat gF)), (.int (Int32.ofNat gT)), (.long jl)]) (rest := []) (lenOf pd__Lcom_example_fourfold_fourfold_Record_II_BIIJ_I rfl) rfl (by show 2 * 0 + _ ≤ _; exact Nat.le_of_eq rfl) (hb hby at_192) (fun _ _ => ⟨rfl, e115, (by decide : 6 + 0 ≤ _), (by decide : 1082 + 0 ≤ _)⟩)
  dsimp only [Pt.U, Pt.locs, Pt.cells, Pt.slots] at X123' l123 y123 z123 st123 hQ123
  subst l123 y123 z123
  obtain ⟨h123, e123⟩ : ∃ z, T123.heap = z := ⟨_, rfl⟩
  rw [e123] at hQ123
  obtain ⟨gM_123, vl2_123, vli2_123, ve2_123, vt2_123, rfl, N123q, Kc123, f124, f125, f126, f127, f128, f129, f130, f131, f132, f133, f134, f135, f136, f137, f138, f139⟩ := hQ123
  obtain ⟨lc123, X123, N123⟩ : ∃ lc, Stand p l e room_1 s m #[(.int p1), (.int p2), (.long jl)] below meth c T123 lc 6 1082 ∧ Fr n0 lc := ⟨_, X123', Fr.app N115 N123q⟩
  have K140 : Gx p e below s₁ f0 T123 (mkF m 195 #[.val (.int p1), .val (.int p2), .val (.long jl), .second, .val (.ref b2), .val (.int (Int32.ofNat gF)), .val (.int (Int32.ofNat gT)), .val (.ref b25), .val (.int (1 : Int32)), .val (.int (Int32.ofNat gM_95))] [(.int (Int32.ofNat gM_123))]) := fun t kt => K121 t (st123 t kt)
  have K141 : Gx p e below s₁ f0 T123 (mkF m 204 #[.val (.int p1), .val (.int p2), .val (.long jl), .second, .val (.ref b2), .val (.int (Int32.ofNat gF)), .val (.int (Int32.ofNat gT)), .val (.ref b25), .val (.int (1 : Int32)), .val (.int (Int32.ofNat gM_123))] [(.ref b25)]) := fun t kt => K140 t (by
    show Steps p.tables e below (T123.setTop (mkF m 195 #[.val (.int p1), .val (.int p2), .val (.long jl), .second, .val (.ref b2), .val (.int (Int32.ofNat gF)), .val (.int (Int32.ofNat gT)), .val (.ref b25), .val (.int (1 : Int32)), .val (.int (Int32.ofNat gM_95))] [(.int (Int32.ofNat gM_123))])) _
    refine XS.istore X123.here hx rfl (hb hby at_195) rfl (l' := #[.val (.int p1), .val (.int p2), .val (.long jl), .second, .val (.ref b2), .val (.int (Int32.ofNat gF)), .val (.int (Int32.ofNat gT)), .val (.ref b25), .val (.int (1 : Int32)), .val (.int (Int32.ofNat gM_123))]) rfl ?_
    show Steps p.tables e below (T123.setTop (mkF m 197 #[.val (.int p1), .val (.int p2), .val (.long jl), .second, .val (.ref b2), .val (.int (Int32.ofNat gF)), .val (.int (Int32.ofNat gT)), .val (.ref b25), .val (.int (1 : Int32)), .val (.int (Int32.ofNat gM_123))] [])) _
    refine XS.iload X123.here hx rfl (hb hby at_197) rfl ?_
    show Steps p.tables e below (T123.setTop (mkF m 199 #[.val (.int p1), .val (.int p2), .val (.long jl), .second, .val (.ref b2), .val (.int (Int32.ofNat gF)), .val (.int (Int32.ofNat gT)), .val (.ref b25), .val (.int (1 : Int32)), .val (.int (Int32.ofNat gM_123))] [(.int (1 : Int32))])) _
    refine XS.ifNo X123.here hx rfl (hb hby at_199) rfl ((if0 _ _).trans (feq (by decide)).1) ?_
    show Steps p.tables e below (T123.setTop (mkF m 202 #[.val (.int p1), .val (.int p2), .val (.long jl), .second, .val (.ref b2), .val (.int (Int32.ofNat gF)), .val (.int (Int32.ofNat gT)), .val (.ref b25), .val (.int (1 : Int32)), .val (.int (Int32.ofNat gM_123))] [])) _
    refine XS.aload X123.here hx rfl (hb hby at_202) rfl rfl ?_
    exact kt)
  have kp142 : Keep h0 h123 [] := (Keep.trans kp114 Kc123 (allS (Or.inr (Nat.le_trans kp21.1 (Nat.le_of_eq g25.symm))) (allS (Or.inr (Nat.le_trans kp33.1 f45)) (allS (Or.inr (Nat.le_trans kp33.1 f46)) (allS (Or.inr (Nat.le_trans kp33.1 f47)) (allS (Or.inr (Nat.le_trans kp33.1 f48)) all0))))))
  obtain ⟨cq143, kq143, q143a, q143b, q143c⟩ := isOf hZ e123 f124
  obtain ⟨_, _, ⟨T143, L143, k143, n143⟩, -, X143', ⟨Lc143, hQ143, l143, y143, z143⟩, st143⟩ := X123.virtualBack hx (y := (⟨"com/example/fourfold/fourfold/Record", "isEmpty", "()Z"⟩ : MethodName)) (z := (⟨"com/example/fourfold/fourfold/Record", "isEmpty", "()Z"⟩ : MethodName)) hown (mvT hZ (hw _ (List.mem_of_getElem? (i := 26) rfl))) (mvT hZ (hw _ (List.mem_of_getElem? (i := 27) rfl))) (notFace_of_selects (args := #[]) (mvT hZ (hw _ (List.mem_of_getElem? (i := 29) rfl)))) (mvT hZ (hw _ (List.mem_of_getElem? (i := 29) rfl))) (mvT hZ (hw _ (List.mem_of_getElem? (i := 28) rfl))) (by decide) (backOf (W := 0) (rmEmp l Z a0 hw [] b25 (Int32.ofNat gM_123) h123 n0 (Nat.le_trans Z0 kp142.1) f129) hZ (hw _ (List.mem_of_getElem? (i := 30) rfl)) (hw _ (List.mem_of_getElem? (i := 7) rfl)) (by decide) (by decide)) q143a q143c (g := (mkF m 204 #[.val (.int p1), .val (.int p2), .val (.long jl), .second, .val (.ref b2), .val (.int (Int32.ofNat gF)), .val (.int (Int32.ofNat gT)), .val (.ref b25), .val (.int (1 : Int32)), .val (.int (Int32.ofNat gM_123))] [(.ref b25)])) rfl (by rw [hml]; rfl) (Steps.refl _) (argsL := []) (rest := []) (lenOf pd___Z rfl) rfl (by show 2 * 0 + _ ≤ _; exact Nat.le_of_eq rfl) (hb hby at_204) (fun _ _ => ⟨rfl, e123, (by decide : 6 + 0 ≤ _), (by decide : 1082 + 0 ≤ _)⟩)
  dsimp only [Pt.U, Pt.locs, Pt.cells, Pt.slots] at X143' l143 y143 z143 st143 hQ143
  subst l143 y143 z143
  obtain ⟨rfl, N143q, e143⟩ := hQ143
  obtain ⟨lc143, X143, N143⟩ : ∃ lc, Stand p l e room_1 s m #[(.int p1), (.int p2), (.long jl)] below meth c T143 lc 6 1082 ∧ Fr n0 lc := ⟨_, X143', Fr.app N123 N143q⟩
  have K144 : Gx p e below s₁ f0 T143 (mkF m 207 #[.val (.int p1), .val (.int p2), .val (.long jl), .second, .val (.ref b2), .val (.int (Int32.ofNat gF)), .val (.int (Int32.ofNat gT)), .val (.ref b25), .val (.int (1 : Int32)), .val (.int (Int32.ofNat gM_123))] [(.int (empF (Int32.ofNat gM_123)))]) := fun t kt => K141 t (st143.trans kt)
  have K147 : Gx p e below s₁ f0 T143 (mkF m 209 #[.val (.int p1), .val (.int p2), .val (.long jl), .second, .val (.ref b2), .val (.int (Int32.ofNat gF)), .val (.int (Int32.ofNat gT)), .val (.ref b25), .val (.int (1 : Int32)), .val (.int (Int32.ofNat gM_123))] [(.int (Int32.ofNat gM_123)), (.int (empF (Int32.ofNat gM_123)))]) := fun t kt => K144 t (by
    show Steps p.tables e below (T143.setTop (mkF m 207 #[.val (.int p1), .val (.int p2), .val (.long jl), .second, .val (.ref b2), .val (.int (Int32.ofNat gF)), .val (.int (Int32.ofNat gT)), .val (.ref b25), .val (.int (1 : Int32)), .val (.int (Int32.ofNat gM_123))] [(.int (empF (Int32.ofNat gM_123)))])) _
    refine XS.iload X143.here hx rfl (hb hby at_207) rfl ?_
    exact kt)
  obtain ⟨v146, hv146⟩ : ∃ z : Int32, z = (if (Int32.ofNat gM_123) = (0 : Int32) then (1 : Int32) else (0 : Int32)) := ⟨_, rfl⟩
  have K148 : Gx p e below s₁ f0 T143 (mkF m 217 #[.val (.int p1), .val (.int p2), .val (.long jl), .second, .val (.ref b2), .val (.int (Int32.ofNat gF)), .val (.int (Int32.ofNat gT)), .val (.ref b25), .val (.int (1 : Int32)), .val (.int (Int32.ofNat gM_123))] [(.int v146), (.int (empF (Int32.ofNat gM_123)))]) := fun t kt => K147 t (by
    by_cases hc209_144 : (Int32.ofNat gM_123) = (0 : Int32)
    · skip
      show Steps p.tables e below (T143.setTop (mkF m 209 #[.val (.int p1), .val (.int p2), .val (.long jl), .second, .val (.ref b2), .val (.int (Int32.ofNat gF)), .val (.int (Int32.ofNat gT)), .val (.ref b25), .val (.int (1 : Int32)), .val (.int (Int32.ofNat gM_123))] [(.int (Int32.ofNat gM_123)), (.int (empF (Int32.ofNat gM_123)))])) _
      refine XS.ifNo X143.here hx rfl (hb hby at_209) rfl ((if0 _ _).trans (teq hc209_144).2) ?_
      show Steps p.tables e below (T143.setTop (mkF m 212 #[.val (.int p1), .val (.int p2), .val (.long jl), .second, .val (.ref b2), .val (.int (Int32.ofNat gF)), .val (.int (Int32.ofNat gT)), .val (.ref b25), .val (.int (1 : Int32)), .val (.int (Int32.ofNat gM_123))] [(.int (empF (Int32.ofNat gM_123)))])) _
      refine XS.iconst X143.here hx rfl (hb hby at_212) ?_
      show Steps p.tables e below (T143.setTop (mkF m 213 #[.val (.int p1), .val (.int p2), .val (.long jl), .second, .val (.ref b2), .val (.int (Int32.ofNat gF)), .val (.int (Int32.ofNat gT)), .val (.ref b25), .val (.int (1 : Int32)), .val (.int (Int32.ofNat gM_123))] [(.int (1 : Int32)), (.int (empF (Int32.ofNat gM_123)))])) _
      refine XS.goto X143.here hx rfl (pc0 := 213) (pc' := 217) rfl (hb hby at_213) (by decide) (by decide) ?_
      show Steps p.tables e below (T143.setTop (mkF m 217 #[.val (.int p1), .val (.int p2), .val (.long jl), .second, .val (.ref b2), .val (.int (Int32.ofNat gF)), .val (.int (Int32.ofNat gT)), .val (.ref b25), .val (.int (1 : Int32)), .val (.int (Int32.ofNat gM_123))] [(.int (1 : Int32)), (.int (empF (Int32.ofNat gM_123)))])) _
      exact castTop (by simp only [hv146, if_pos hc209_144]) kt
    · skip
      show Steps p.tables e below (T143.setTop (mkF m 209 #[.val (.int p1), .val (.int p2), .val (.long jl), .second, .val (.ref b2), .val (.int (Int32.ofNat gF)), .val (.int (Int32.ofNat gT)), .val (.ref b25), .val (.int (1 : Int32)), .val (.int (Int32.ofNat gM_123))] [(.int (Int32.ofNat gM_123)), (.int (empF (Int32.ofNat gM_123)))])) _
      refine XS.ifYes X143.here hx rfl (pc0 := 209) (pc' := 216) rfl (hb hby at_209) rfl ((if0 _ _).trans (feq hc209_144).2) (by decide) (by decide) ?_
      show Steps p.tables e below (T143.setTop (mkF m 216 #[.val (.int p1), .val (.int p2), .val (.long jl), .second, .val (.ref b2), .val (.int (Int32.ofNat gF)), .val (.int (Int32.ofNat gT)), .val (.ref b25), .val (.int (1 : Int32)), .val (.int (Int32.ofNat gM_123))] [(.int (empF (Int32.ofNat gM_123)))])) _
      refine XS.iconst X143.here hx rfl (hb hby at_216) ?_
      show Steps p.tables e below (T143.setTop (mkF m 217 #[.val (.int p1), .val (.int p2), .val (.long jl), .second, .val (.ref b2), .val (.int (Int32.ofNat gF)), .val (.int (Int32.ofNat gT)), .val (.ref b25), .val (.int (1 : Int32)), .val (.int (Int32.ofNat gM_123))] [(.int (0 : Int32)), (.int (empF (Int32.ofNat gM_123)))])) _
      exact castTop (by simp only [hv146, if_neg hc209_144]) kt)
  have K149 : Gx p e below s₁ f0 T143 (mkF m 244 #[.val (.int p1), .val (.int p2), .val (.long jl), .second, .val (.ref b2), .val (.int (Int32.ofNat gF)), .val (.int (Int32.ofNat gT)), .val (.ref b25), .val (.int (1 : Int32)), .val (.int (Int32.ofNat gM_123))] [(.long jl), (.int (Int32.ofNat gT)), (.int (Int32.ofNat gF)), (.ref b2), (.int (Int32.ofNat gM_123)), (.int (((p1.toUInt32 >>> ((6 : Int32) &&& 31).toUInt32).toInt32) &&& (3 : Int32))), (.ref b25)]) := fun t kt => K148 t (by
    show Steps p.tables e below (T143.setTop (mkF m 217 #[.val (.int p1), .val (.int p2), .val (.long jl), .second, .val (.ref b2), .val (.int (Int32.ofNat gF)), .val (.int (Int32.ofNat gT)), .val (.ref b25), .val (.int (1 : Int32)), .val (.int (Int32.ofNat gM_123))] [(.int v146), (.int (empF (Int32.ofNat gM_123)))])) _
    refine XS.icmpNo X143.here hx rfl (hb hby at_217) rfl (teq (by rw [hv146]; rfl)).2 ?_
    show Steps p.tables e below (T143.setTop (mkF m 220 #[.val (.int p1), .val (.int p2), .val (.long jl), .second, .val (.ref b2), .val (.int (Int32.ofNat gF)), .val (.int (Int32.ofNat gT)), .val (.ref b25), .val (.int (1 : Int32)), .val (.int (Int32.ofNat gM_123))] [])) _
    refine XS.iconst X143.here hx rfl (hb hby at_220) ?_
    show Steps p.tables e below (T143.setTop (mkF m 221 #[.val (.int p1), .val (.int p2), .val (.long jl), .second, .val (.ref b2), .val (.int (Int32.ofNat gF)), .val (.int (Int32.ofNat gT)), .val (.ref b25), .val (.int (1 : Int32)), .val (.int (Int32.ofNat gM_123))] [(.int (1 : Int32))])) _
    refine XS.goto X143.here hx rfl (pc0 := 221) (pc' := 225) rfl (hb hby at_221) (by decide) (by decide) ?_
    show Steps p.tables e below (T143.setTop (mkF m 225 #[.val (.int p1), .val (.int p2), .val (.long jl), .second, .val (.ref b2), .val (.int (Int32.ofNat gF)), .val (.int (Int32.ofNat gT)), .val (.ref b25), .val (.int (1 : Int32)), .val (.int (Int32.ofNat gM_123))] [(.int (1 : Int32))])) _
    refine XS.istore X143.here hx rfl (hb hby at_225) rfl (l' := #[.val (.int p1), .val (.int p2), .val (.long jl), .second, .val (.ref b2), .val (.int (Int32.ofNat gF)), .val (.int (Int32.ofNat gT)), .val (.ref b25), .val (.int (1 : Int32)), .val (.int (Int32.ofNat gM_123))]) rfl ?_
    show Steps p.tables e below (T143.setTop (mkF m 227 #[.val (.int p1), .val (.int p2), .val (.long jl), .second, .val (.ref b2), .val (.int (Int32.ofNat gF)), .val (.int (Int32.ofNat gT)), .val (.ref b25), .val (.int (1 : Int32)), .val (.int (Int32.ofNat gM_123))] [])) _
    refine XS.aload X143.here hx rfl (hb hby at_227) rfl rfl ?_
    show Steps p.tables e below (T143.setTop (mkF m 229 #[.val (.int p1), .val (.int p2), .val (.long jl), .second, .val (.ref b2), .val (.int (Int32.ofNat gF)), .val (.int (Int32.ofNat gT)), .val (.ref b25), .val (.int (1 : Int32)), .val (.int (Int32.ofNat gM_123))] [(.ref b25)])) _
    refine XS.iloadN X143.here hx rfl (hb hby at_229) rfl ?_
    show Steps p.tables e below (T143.setTop (mkF m 230 #[.val (.int p1), .val (.int p2), .val (.long jl), .second, .val (.ref b2), .val (.int (Int32.ofNat gF)), .val (.int (Int32.ofNat gT)), .val (.ref b25), .val (.int (1 : Int32)), .val (.int (Int32.ofNat gM_123))] [(.int p1), (.ref b25)])) _
    refine XS.bipush X143.here hx rfl (hb hby at_230) ?_
    show Steps p.tables e below (T143.setTop (mkF m 232 #[.val (.int p1), .val (.int p2), .val (.long jl), .second, .val (.ref b2), .val (.int (Int32.ofNat gF)), .val (.int (Int32.ofNat gT)), .val (.ref b25), .val (.int (1 : Int32)), .val (.int (Int32.ofNat gM_123))] [(.int (6 : Int32)), (.int p1), (.ref b25)])) _
    refine XS.iushr X143.here hx rfl (hb hby at_232) rfl ?_
    show Steps p.tables e below (T143.setTop (mkF m 233 #[.val (.int p1), .val (.int p2), .val (.long jl), .second, .val (.ref b2), .val (.int (Int32.ofNat gF)), .val (.int (Int32.ofNat gT)), .val (.ref b25), .val (.int (1 : Int32)), .val (.int (Int32.ofNat gM_123))] [(.int ((p1.toUInt32 >>> ((6 : Int32) &&& 31).toUInt32).toInt32)), (.ref b25)])) _
    refine XS.iconst X143.here hx rfl (hb hby at_233) ?_
    show Steps p.tables e below (T143.setTop (mkF m 234 #[.val (.int p1), .val (.int p2), .val (.long jl), .second, .val (.ref b2), .val (.int (Int32.ofNat gF)), .val (.int (Int32.ofNat gT)), .val (.ref b25), .val (.int (1 : Int32)), .val (.int (Int32.ofNat gM_123))] [(.int (3 : Int32)), (.int ((p1.toUInt32 >>> ((6 : Int32) &&& 31).toUInt32).toInt32)), (.ref b25)])) _
    refine XS.iand X143.here hx rfl (hb hby at_234) rfl ?_
    show Steps p.tables e below (T143.setTop (mkF m 235 #[.val (.int p1), .val (.int p2), .val (.long jl), .second, .val (.ref b2), .val (.int (Int32.ofNat gF)), .val (.int (Int32.ofNat gT)), .val (.ref b25), .val (.int (1 : Int32)), .val (.int (Int32.ofNat gM_123))] [(.int (((p1.toUInt32 >>> ((6 : Int32) &&& 31).toUInt32).toInt32) &&& (3 : Int32))), (.ref b25)])) _
    refine XS.iload X143.here hx rfl (hb hby at_235) rfl ?_
    show Steps p.tables e below (T143.setTop (mkF m 237 #[.val (.int p1), .val (.int p2), .val (.long jl), .second, .val (.ref b2), .val (.int (Int32.ofNat gF)), .val (.int (Int32.ofNat gT)), .val (.ref b25), .val (.int (1 : Int32)), .val (.int (Int32.ofNat gM_123))] [(.int (Int32.ofNat gM_123)), (.int (((p1.toUInt32 >>> ((6 : Int32) &&& 31).toUInt32).toInt32) &&& (3 : Int32))), (.ref b25)])) _
    refine XS.aload X143.here hx rfl (hb hby at_237) rfl rfl ?_
    show Steps p.tables e below (T143.setTop (mkF m 239 #[.val (.int p1), .val (.int p2), .val (.long jl), .second, .val (.ref b2), .val (.int (Int32.ofNat gF)), .val (.int (Int32.ofNat gT)), .val (.ref b25), .val (.int (1 : Int32)), .val (.int (Int32.ofNat gM_123))] [(.ref b2), (.int (Int32.ofNat gM_123)), (.int (((p1.toUInt32 >>> ((6 : Int32) &&& 31).toUInt32).toInt32) &&& (3 : Int32))), (.ref b25)])) _
    refine XS.iload X143.here hx rfl (hb hby at_239) rfl ?_
    show Steps p.tables e below (T143.setTop (mkF m 241 #[.val (.int p1), .val (.int p2), .val (.long jl), .second, .val (.ref b2), .val (.int (Int32.ofNat gF)), .val (.int (Int32.ofNat gT)), .val (.ref b25), .val (.int (1 : Int32)), .val (.int (Int32.ofNat gM_123))] [(.int (Int32.ofNat gF)), (.ref b2), (.int (Int32.ofNat gM_123)), (.int (((p1.toUInt32 >>> ((6 : Int32) &&& 31).toUInt32).toInt32) &&& (3 : Int32))), (.ref b25)])) _
    refine XS.iload X143.here hx rfl (hb hby at_241) rfl ?_
    show Steps p.tables e below (T143.setTop (mkF m 243 #[.val (.int p1), .val (.int p2), .val (.long jl), .second, .val (.ref b2), .val (.int (Int32.ofNat gF)), .val (.int (Int32.ofNat gT)), .val (.ref b25), .val (.int (1 : Int32)), .val (.int (Int32.ofNat gM_123))] [(.int (Int32.ofNat gT)), (.int (Int32.ofNat gF)), (.ref b2), (.int (Int32.ofNat gM_123)), (.int (((p1.toUInt32 >>> ((6 : Int32) &&& 31).toUInt32).toInt32) &&& (3 : Int32))), (.ref b25)])) _
    refine XS.lloadN X143.here hx rfl (hb hby at_243) rfl ?_
    exact kt)
  have f150 : Arv Z h123 b2 k2 .byte (4 : Int32) [(.int (nar .byte (p2.toInt8.toInt32))), (.int (nar .byte (((p2.toUInt32 >>> ((8 : Int32) &&& 31).toUInt32).toInt32).toInt8.toInt32))), (.int (nar .byte (((p2.toUInt32 >>> ((16 : Int32) &&& 31).toUInt32).toInt32).toInt8.toInt32))), (.int (nar .byte (((p2.toUInt32 >>> ((24 : Int32) &&& 31).toUInt32).toInt32).toInt8.toInt32)))] (.int (0 : Int32)) := (f122.keep Kc123 (ninS (Nat.ne_of_lt (Nat.lt_of_lt_of_le V18.lt (Nat.le_of_eq g25.symm))) (ninS (Nat.ne_of_lt (Nat.lt_of_lt_of_le (V18.ext E25).lt f45)) (ninS (Nat.ne_of_lt (Nat.lt_of_lt_of_le (V18.ext E25).lt f46)) (ninS (Nat.ne_of_lt (Nat.lt_of_lt_of_le (V18.ext E25).lt f47)) (ninS (Nat.ne_of_lt (Nat.lt_of_lt_of_le (V18.ext E25).lt f48)) nin0))))))
  obtain ⟨_, _, ⟨T151, L151, k151, n151⟩, -, X151', ⟨Lc151, hQ151, l151, y151, z151⟩, st151⟩ := Jvm.LawKit.callS X143 hx (y := (⟨"com/example/fourfold/fourfold/RecordIsEmptyPinLaw", "step", "(Lcom/example/fourfold/fourfold/Record;II[BIIJ)I"⟩ : MethodName)) hown (mvT hZ (hw _ (List.mem_of_getElem? (i := 33) rfl))) (mvT hZ (hw _ (List.mem_of_getElem? (i := 34) rfl))) (mvT hZ (hw _ (List.mem_of_getElem? (i := 35) rfl))) (mvT hZ (hw _ (List.mem_of_getElem? (i := 36) rfl))) (by decide) (backOf (W := 0) (rmStp l Z a0 hw [] b25 (((p1.toUInt32 >>> ((6 : Int32) &&& 31).toUInt32).toInt32) &&& (3 : Int32)) (Int32.ofNat gM_123) b2 (Int32.ofNat gF) (Int32.ofNat gT) jl la_34 li_34 en_34 tx_34 kA_34 kB_34 kC_34 kD_34 vl2_123 vli2_123 ve2_123 vt2_123 k2 [(.int (nar .byte (p2.toInt8.toInt32))), (.int (nar .byte (((p2.toUInt32 >>> ((8 : Int32) &&& 31).toUInt32).toInt32).toInt8.toInt32))), (.int (nar .byte (((p2.toUInt32 >>> ((16 : Int32) &&& 31).toUInt32).toInt32).toInt8.toInt32))), (.int (nar .byte (((p2.toUInt32 >>> ((24 : Int32) &&& 31).toUInt32).toInt32).toInt8.toInt32)))] gF gT gM_123 15 h123 n0 (Nat.le_trans Z0 kp142.1) f124 f125 f126 f127 f128 f129 f130 f131 f132 f133 f150 (Nat.le_trans Z0 (Nat.le_trans kp21.1 (Nat.le_of_eq g25.symm))) (Nat.le_trans Z0 (Nat.le_trans kp33.1 f45)) (Nat.le_trans Z0 (Nat.le_trans kp33.1 f46)) (Nat.le_trans Z0 (Nat.le_trans kp33.1 f47)) (Nat.le_trans Z0 (Nat.le_trans kp33.1 f48)) (Nat.ne_of_lt (Nat.lt_of_lt_of_le A25.lt f45)) (Nat.ne_of_lt (Nat.lt_of_lt_of_le A25.lt f46)) (Nat.ne_of_lt (Nat.lt_of_lt_of_le A25.lt f47)) (Nat.ne_of_lt (Nat.lt_of_lt_of_le A25.lt f48)) f49 f50 f51 f52 f53 f54 (Nat.ne_of_lt (Nat.lt_of_lt_of_le (V18.ext E25).lt f48)) (Nat.ne_of_lt (Nat.lt_of_lt_of_le V18.lt (Nat.le_of_eq g25.symm))) (Nat.ne_of_lt (Nat.lt_of_lt_of_le (V18.ext E25).lt f45)) (Nat.ne_of_lt (Nat.lt_of_lt_of_le (V18.ext E25).lt f46)) (Nat.ne_of_lt (Nat.lt_of_lt_of_le (V18.ext E25).lt f47)) f134 f135 f136 f137 ⟨hft1, hft2⟩ rfl rfl rfl ⟨by omega, by decide⟩ f139) hZ (hw _ (List.mem_of_getElem? (i := 36) rfl)) (hw _ (List.mem_of_getElem? (i := 35) rfl)) (by decide) (by decide)) (g := (mkF m 244 #[.val (.int p1), .val (.int p2), .val (.long jl), .second, .val (.ref b2), .val (.int (Int32.ofNat gF)), .val (.int (Int32.ofNat gT)), .val (.ref b25), .val (.int (1 : Int32)), .val (.int (Int32.ofNat gM_123))] [(.long jl), (.int (Int32.ofNat gT)), (.int (Int32.ofNat gF)), (.ref b2), (.int (Int32.ofNat gM_123)), (.int (((p1.toUInt32 >>> ((6 : Int32) &&& 31).toUInt32).toInt32) &&& (3 : Int32))), (.ref b25)])) rfl (by rw [hml]; rfl) (argsL := [(.ref b25), (.int (((p1.toUInt32 >>> ((6 : Int32) &&& 31).toUInt32).toInt32) &&& (3 : Int32))), (.int (Int32.ofNat gM_123)), (.ref b2), (.int (Int32.ofNat gF)), (.int (Int32.ofNat gT)), (.long jl)]) (rest := []) (lenOf pd__Lcom_example_fourfold_fourfold_Record_II_BIIJ_I rfl) rfl (by show 2 * 0 + _ ≤ _; exact Nat.le_of_eq rfl) (hb hby at_244) (fun _ _ => ⟨rfl, e143, (by decide : 6 + 0 ≤ _), (by decide : 1082 + 0 ≤ _)⟩)
  dsimp only [Pt.U, Pt.locs, Pt.cells, Pt.slots] at X151' l151 y151 z151 st151 hQ151
  subst l151 y151 z151
  obtain ⟨h151, e151⟩ : ∃ z, T151.heap = z := ⟨_, rfl⟩
  rw [e151] at hQ151
  obtain ⟨gM_151, vl2_151, vli2_151, ve2_151, vt2_151, rfl, N151q, Kc151, f152, f153, f154, f155, f156, f157, f158, f159, f160, f161, f162, f163, f164, f165, f166, f167⟩ := hQ151
  obtain ⟨lc151, X151, N151⟩ : ∃ lc, Stand p l e room_1 s m #[(.int p1), (.int p2), (.long jl)] below meth c T151 lc 6 1082 ∧ Fr n0 lc := ⟨_, X151', Fr.app N143 N151q⟩
  have K168 : Gx p e below s₁ f0 T151 (mkF m 247 #[.val (.int p1), .val (.int p2), .val (.long jl), .second, .val (.ref b2), .val (.int (Int32.ofNat gF)), .val (.int (Int32.ofNat gT)), .val (.ref b25), .val (.int (1 : Int32)), .val (.int (Int32.ofNat gM_123))] [(.int (Int32.ofNat gM_151))]) := fun t kt => K149 t (st151 t kt)
  have K169 : Gx p e below s₁ f0 T151 (mkF m 256 #[.val (.int p1), .val (.int p2), .val (.long jl), .second, .val (.ref b2), .val (.int (Int32.ofNat gF)), .val (.int (Int32.ofNat gT)), .val (.ref b25), .val (.int (1 : Int32)), .val (.int (Int32.ofNat gM_151))] [(.ref b25)]) := fun t kt => K168 t (by
    show Steps p.tables e below (T151.setTop (mkF m 247 #[.val (.int p1), .val (.int p2), .val (.long jl), .second, .val (.ref b2), .val (.int (Int32.ofNat gF)), .val (.int (Int32.ofNat gT)), .val (.ref b25), .val (.int (1 : Int32)), .val (.int (Int32.ofNat gM_123))] [(.int (Int32.ofNat gM_151))])) _
    refine XS.istore X151.here hx rfl (hb hby at_247) rfl (l' := #[.val (.int p1), .val (.int p2), .val (.long jl), .second, .val (.ref b2), .val (.int (Int32.ofNat gF)), .val (.int (Int32.ofNat gT)), .val (.ref b25), .val (.int (1 : Int32)), .val (.int (Int32.ofNat gM_151))]) rfl ?_
    show Steps p.tables e below (T151.setTop (mkF m 249 #[.val (.int p1), .val (.int p2), .val (.long jl), .second, .val (.ref b2), .val (.int (Int32.ofNat gF)), .val (.int (Int32.ofNat gT)), .val (.ref b25), .val (.int (1 : Int32)), .val (.int (Int32.ofNat gM_151))] [])) _
    refine XS.iload X151.here hx rfl (hb hby at_249) rfl ?_
    show Steps p.tables e below (T151.setTop (mkF m 251 #[.val (.int p1), .val (.int p2), .val (.long jl), .second, .val (.ref b2), .val (.int (Int32.ofNat gF)), .val (.int (Int32.ofNat gT)), .val (.ref b25), .val (.int (1 : Int32)), .val (.int (Int32.ofNat gM_151))] [(.int (1 : Int32))])) _
    refine XS.ifNo X151.here hx rfl (hb hby at_251) rfl ((if0 _ _).trans (feq (by decide)).1) ?_
    show Steps p.tables e below (T151.setTop (mkF m 254 #[.val (.int p1), .val (.int p2), .val (.long jl), .second, .val (.ref b2), .val (.int (Int32.ofNat gF)), .val (.int (Int32.ofNat gT)), .val (.ref b25), .val (.int (1 : Int32)), .val (.int (Int32.ofNat gM_151))] [])) _
    refine XS.aload X151.here hx rfl (hb hby at_254) rfl rfl ?_
    exact kt)
  have kp170 : Keep h0 h151 [] := (Keep.trans kp142 Kc151 (allS (Or.inr (Nat.le_trans kp21.1 (Nat.le_of_eq g25.symm))) (allS (Or.inr (Nat.le_trans kp33.1 f45)) (allS (Or.inr (Nat.le_trans kp33.1 f46)) (allS (Or.inr (Nat.le_trans kp33.1 f47)) (allS (Or.inr (Nat.le_trans kp33.1 f48)) all0))))))
  obtain ⟨cq171, kq171, q171a, q171b, q171c⟩ := isOf hZ e151 f152
  obtain ⟨_, _, ⟨T171, L171, k171, n171⟩, -, X171', ⟨Lc171, hQ171, l171, y171, z171⟩, st171⟩ := X151.virtualBack hx (y := (⟨"com/example/fourfold/fourfold/Record", "isEmpty", "()Z"⟩ : MethodName)) (z := (⟨"com/example/fourfold/fourfold/Record", "isEmpty", "()Z"⟩ : MethodName)) hown (mvT hZ (hw _ (List.mem_of_getElem? (i := 26) rfl))) (mvT hZ (hw _ (List.mem_of_getElem? (i := 27) rfl))) (notFace_of_selects (args := #[]) (mvT hZ (hw _ (List.mem_of_getElem? (i := 29) rfl)))) (mvT hZ (hw _ (List.mem_of_getElem? (i := 29) rfl))) (mvT hZ (hw _ (List.mem_of_getElem? (i := 28) rfl))) (by decide) (backOf (W := 0) (rmEmp l Z a0 hw [] b25 (Int32.ofNat gM_151) h151 n0 (Nat.le_trans Z0 kp170.1) f157) hZ (hw _ (List.mem_of_getElem? (i := 30) rfl)) (hw _ (List.mem_of_getElem? (i := 7) rfl)) (by decide) (by decide)) q171a q171c (g := (mkF m 256 #[.val (.int p1), .val (.int p2), .val (.long jl), .second, .val (.ref b2), .val (.int (Int32.ofNat gF)), .val (.int (Int32.ofNat gT)), .val (.ref b25), .val (.int (1 : Int32)), .val (.int (Int32.ofNat gM_151))] [(.ref b25)])) rfl (by rw [hml]; rfl) (Steps.refl _) (argsL := []) (rest := []) (lenOf pd___Z rfl) rfl (by show 2 * 0 + _ ≤ _; exact Nat.le_of_eq rfl) (hb hby at_256) (fun _ _ => ⟨rfl, e151, (by decide : 6 + 0 ≤ _), (by decide : 1082 + 0 ≤ _)⟩)
  dsimp only [Pt.U, Pt.locs, Pt.cells, Pt.slots] at X171' l171 y171 z171 st171 hQ171
  subst l171 y171 z171
  obtain ⟨rfl, N171q, e171⟩ := hQ171
  obtain ⟨lc171, X171, N171⟩ : ∃ lc, Stand p l e room_1 s m #[(.int p1), (.int p2), (.long jl)] below meth c T171 lc 6 1082 ∧ Fr n0 lc := ⟨_, X171', Fr.app N151 N171q⟩
  have K172 : Gx p e below s₁ f0 T171 (mkF m 259 #[.val (.int p1), .val (.int p2), .val (.long jl), .second, .val (.ref b2), .val (.int (Int32.ofNat gF)), .val (.int (Int32.ofNat gT)), .val (.ref b25), .val (.int (1 : Int32)), .val (.int (Int32.ofNat gM_151))] [(.int (empF (Int32.ofNat gM_151)))]) := fun t kt => K169 t (st171.trans kt)
  have K175 : Gx p e below s₁ f0 T171 (mkF m 261 #[.val (.int p1), .val (.int p2), .val (.long jl), .second, .val (.ref b2), .val (.int (Int32.ofNat gF)), .val (.int (Int32.ofNat gT)), .val (.ref b25), .val (.int (1 : Int32)), .val (.int (Int32.ofNat gM_151))] [(.int (Int32.ofNat gM_151)), (.int (empF (Int32.ofNat gM_151)))]) := fun t kt => K172 t (by
    show Steps p.tables e below (T171.setTop (mkF m 259 #[.val (.int p1), .val (.int p2), .val (.long jl), .second, .val (.ref b2), .val (.int (Int32.ofNat gF)), .val (.int (Int32.ofNat gT)), .val (.ref b25), .val (.int (1 : Int32)), .val (.int (Int32.ofNat gM_151))] [(.int (empF (Int32.ofNat gM_151)))])) _
    refine XS.iload X171.here hx rfl (hb hby at_259) rfl ?_
    exact kt)
  obtain ⟨v174, hv174⟩ : ∃ z : Int32, z = (if (Int32.ofNat gM_151) = (0 : Int32) then (1 : Int32) else (0 : Int32)) := ⟨_, rfl⟩
  have K176 : Gx p e below s₁ f0 T171 (mkF m 269 #[.val (.int p1), .val (.int p2), .val (.long jl), .second, .val (.ref b2), .val (.int (Int32.ofNat gF)), .val (.int (Int32.ofNat gT)), .val (.ref b25), .val (.int (1 : Int32)), .val (.int (Int32.ofNat gM_151))] [(.int v174), (.int (empF (Int32.ofNat gM_151)))]) := fun t kt => K175 t (by
    by_cases hc261_172 : (Int32.ofNat gM_151) = (0 : Int32)
    · skip
      show Steps p.tables e below (T171.setTop (mkF m 261 #[.val (.int p1), .val (.int p2), .val (.long jl), .second, .val (.ref b2), .val (.int (Int32.ofNat gF)), .val (.int (Int32.ofNat gT)), .val (.ref b25), .val (.int (1 : Int32)), .val (.int (Int32.ofNat gM_151))] [(.int (Int32.ofNat gM_151)), (.int (empF (Int32.ofNat gM_151)))])) _
      refine XS.ifNo X171.here hx rfl (hb hby at_261) rfl ((if0 _ _).trans (teq hc261_172).2) ?_
      show Steps p.tables e below (T171.setTop (mkF m 264 #[.val (.int p1), .val (.int p2), .val (.long jl), .second, .val (.ref b2), .val (.int (Int32.ofNat gF)), .val (.int (Int32.ofNat gT)), .val (.ref b25), .val (.int (1 : Int32)), .val (.int (Int32.ofNat gM_151))] [(.int (empF (Int32.ofNat gM_151)))])) _
      refine XS.iconst X171.here hx rfl (hb hby at_264) ?_
      show Steps p.tables e below (T171.setTop (mkF m 265 #[.val (.int p1), .val (.int p2), .val (.long jl), .second, .val (.ref b2), .val (.int (Int32.ofNat gF)), .val (.int (Int32.ofNat gT)), .val (.ref b25), .val (.int (1 : Int32)), .val (.int (Int32.ofNat gM_151))] [(.int (1 : Int32)), (.int (empF (Int32.ofNat gM_151)))])) _
      refine XS.goto X171.here hx rfl (pc0 := 265) (pc' := 269) rfl (hb hby at_265) (by decide) (by decide) ?_
      show Steps p.tables e below (T171.setTop (mkF m 269 #[.val (.int p1), .val (.int p2), .val (.long jl), .second, .val (.ref b2), .val (.int (Int32.ofNat gF)), .val (.int (Int32.ofNat gT)), .val (.ref b25), .val (.int (1 : Int32)), .val (.int (Int32.ofNat gM_151))] [(.int (1 : Int32)), (.int (empF (Int32.ofNat gM_151)))])) _
      exact castTop (by simp only [hv174, if_pos hc261_172]) kt
    · skip
      show Steps p.tables e below (T171.setTop (mkF m 261 #[.val (.int p1), .val (.int p2), .val (.long jl), .second, .val (.ref b2), .val (.int (Int32.ofNat gF)), .val (.int (Int32.ofNat gT)), .val (.ref b25), .val (.int (1 : Int32)), .val (.int (Int32.ofNat gM_151))] [(.int (Int32.ofNat gM_151)), (.int (empF (Int32.ofNat gM_151)))])) _
      refine XS.ifYes X171.here hx rfl (pc0 := 261) (pc' := 268) rfl (hb hby at_261) rfl ((if0 _ _).trans (feq hc261_172).2) (by decide) (by decide) ?_
      show Steps p.tables e below (T171.setTop (mkF m 268 #[.val (.int p1), .val (.int p2), .val (.long jl), .second, .val (.ref b2), .val (.int (Int32.ofNat gF)), .val (.int (Int32.ofNat gT)), .val (.ref b25), .val (.int (1 : Int32)), .val (.int (Int32.ofNat gM_151))] [(.int (empF (Int32.ofNat gM_151)))])) _
      refine XS.iconst X171.here hx rfl (hb hby at_268) ?_
      show Steps p.tables e below (T171.setTop (mkF m 269 #[.val (.int p1), .val (.int p2), .val (.long jl), .second, .val (.ref b2), .val (.int (Int32.ofNat gF)), .val (.int (Int32.ofNat gT)), .val (.ref b25), .val (.int (1 : Int32)), .val (.int (Int32.ofNat gM_151))] [(.int (0 : Int32)), (.int (empF (Int32.ofNat gM_151)))])) _
      exact castTop (by simp only [hv174, if_neg hc261_172]) kt)
  have K177 : Gx p e below s₁ f0 T171 (mkF m 286 #[.val (.int p1), .val (.int p2), .val (.long jl), .second, .val (.ref b2), .val (.int (Int32.ofNat gF)), .val (.int (Int32.ofNat gT)), .val (.ref b25), .val (.int (1 : Int32)), .val (.int (Int32.ofNat gM_151))] [(.ref b25)]) := fun t kt => K176 t (by
    show Steps p.tables e below (T171.setTop (mkF m 269 #[.val (.int p1), .val (.int p2), .val (.long jl), .second, .val (.ref b2), .val (.int (Int32.ofNat gF)), .val (.int (Int32.ofNat gT)), .val (.ref b25), .val (.int (1 : Int32)), .val (.int (Int32.ofNat gM_151))] [(.int v174), (.int (empF (Int32.ofNat gM_151)))])) _
    refine XS.icmpNo X171.here hx rfl (hb hby at_269) rfl (teq (by rw [hv174]; rfl)).2 ?_
    show Steps p.tables e below (T171.setTop (mkF m 272 #[.val (.int p1), .val (.int p2), .val (.long jl), .second, .val (.ref b2), .val (.int (Int32.ofNat gF)), .val (.int (Int32.ofNat gT)), .val (.ref b25), .val (.int (1 : Int32)), .val (.int (Int32.ofNat gM_151))] [])) _
    refine XS.iconst X171.here hx rfl (hb hby at_272) ?_
    show Steps p.tables e below (T171.setTop (mkF m 273 #[.val (.int p1), .val (.int p2), .val (.long jl), .second, .val (.ref b2), .val (.int (Int32.ofNat gF)), .val (.int (Int32.ofNat gT)), .val (.ref b25), .val (.int (1 : Int32)), .val (.int (Int32.ofNat gM_151))] [(.int (1 : Int32))])) _
    refine XS.goto X171.here hx rfl (pc0 := 273) (pc' := 277) rfl (hb hby at_273) (by decide) (by decide) ?_
    show Steps p.tables e below (T171.setTop (mkF m 277 #[.val (.int p1), .val (.int p2), .val (.long jl), .second, .val (.ref b2), .val (.int (Int32.ofNat gF)), .val (.int (Int32.ofNat gT)), .val (.ref b25), .val (.int (1 : Int32)), .val (.int (Int32.ofNat gM_151))] [(.int (1 : Int32))])) _
    refine XS.istore X171.here hx rfl (hb hby at_277) rfl (l' := #[.val (.int p1), .val (.int p2), .val (.long jl), .second, .val (.ref b2), .val (.int (Int32.ofNat gF)), .val (.int (Int32.ofNat gT)), .val (.ref b25), .val (.int (1 : Int32)), .val (.int (Int32.ofNat gM_151))]) rfl ?_
    show Steps p.tables e below (T171.setTop (mkF m 279 #[.val (.int p1), .val (.int p2), .val (.long jl), .second, .val (.ref b2), .val (.int (Int32.ofNat gF)), .val (.int (Int32.ofNat gT)), .val (.ref b25), .val (.int (1 : Int32)), .val (.int (Int32.ofNat gM_151))] [])) _
    refine XS.iload X171.here hx rfl (hb hby at_279) rfl ?_
    show Steps p.tables e below (T171.setTop (mkF m 281 #[.val (.int p1), .val (.int p2), .val (.long jl), .second, .val (.ref b2), .val (.int (Int32.ofNat gF)), .val (.int (Int32.ofNat gT)), .val (.ref b25), .val (.int (1 : Int32)), .val (.int (Int32.ofNat gM_151))] [(.int (1 : Int32))])) _
    refine XS.ifNo X171.here hx rfl (hb hby at_281) rfl ((if0 _ _).trans (feq (by decide)).1) ?_
    show Steps p.tables e below (T171.setTop (mkF m 284 #[.val (.int p1), .val (.int p2), .val (.long jl), .second, .val (.ref b2), .val (.int (Int32.ofNat gF)), .val (.int (Int32.ofNat gT)), .val (.ref b25), .val (.int (1 : Int32)), .val (.int (Int32.ofNat gM_151))] [])) _
    refine XS.aload X171.here hx rfl (hb hby at_284) rfl rfl ?_
    exact kt)
  obtain ⟨cq178, kq178, q178a, q178b, q178c⟩ := isOf hZ e171 f152
  obtain ⟨_, _, ⟨T178, L178, k178, n178⟩, -, X178', ⟨Lc178, hQ178, l178, y178, z178⟩, st178⟩ := X171.virtualBack hx (y := (⟨"com/example/fourfold/fourfold/Record", "size", "()I"⟩ : MethodName)) (z := (⟨"com/example/fourfold/fourfold/Record", "size", "()I"⟩ : MethodName)) hown (mvT hZ (hw _ (List.mem_of_getElem? (i := 50) rfl))) (mvT hZ (hw _ (List.mem_of_getElem? (i := 51) rfl))) (notFace_of_selects (args := #[]) (mvT hZ (hw _ (List.mem_of_getElem? (i := 53) rfl)))) (mvT hZ (hw _ (List.mem_of_getElem? (i := 53) rfl))) (mvT hZ (hw _ (List.mem_of_getElem? (i := 52) rfl))) (by decide) (backOf (W := 0) (rmSiz l Z a0 hw [] b25 (Int32.ofNat gM_151) h151 n0 (Nat.le_trans Z0 kp170.1) f157) hZ (hw _ (List.mem_of_getElem? (i := 54) rfl)) (hw _ (List.mem_of_getElem? (i := 7) rfl)) (by decide) (by decide)) q178a q178c (g := (mkF m 286 #[.val (.int p1), .val (.int p2), .val (.long jl), .second, .val (.ref b2), .val (.int (Int32.ofNat gF)), .val (.int (Int32.ofNat gT)), .val (.ref b25), .val (.int (1 : Int32)), .val (.int (Int32.ofNat gM_151))] [(.ref b25)])) rfl (by rw [hml]; rfl) (Steps.refl _) (argsL := []) (rest := []) (lenOf pd___I rfl) rfl (by show 2 * 0 + _ ≤ _; exact Nat.le_of_eq rfl) (hb hby at_286) (fun _ _ => ⟨rfl, e171, (by decide : 6 + 0 ≤ _), (by decide : 1082 + 0 ≤ _)⟩)
  dsimp only [Pt.U, Pt.locs, Pt.cells, Pt.slots] at X178' l178 y178 z178 st178 hQ178
  subst l178 y178 z178
  obtain ⟨rfl, N178q, e178⟩ := hQ178
  obtain ⟨lc178, X178, N178⟩ : ∃ lc, Stand p l e room_1 s m #[(.int p1), (.int p2), (.long jl)] below meth c T178 lc 6 1082 ∧ Fr n0 lc := ⟨_, X178', Fr.app N171 N178q⟩
  have K179 : Gx p e below s₁ f0 T178 (mkF m 289 #[.val (.int p1), .val (.int p2), .val (.long jl), .second, .val (.ref b2), .val (.int (Int32.ofNat gF)), .val (.int (Int32.ofNat gT)), .val (.ref b25), .val (.int (1 : Int32)), .val (.int (Int32.ofNat gM_151))] [(.int (Int32.ofNat gM_151))]) := fun t kt => K177 t (st178.trans kt)
  have K180 : Gx p e below s₁ f0 T178 (mkF m 303 #[.val (.int p1), .val (.int p2), .val (.long jl), .second, .val (.ref b2), .val (.int (Int32.ofNat gF)), .val (.int (Int32.ofNat gT)), .val (.ref b25), .val (.int (1 : Int32)), .val (.int (Int32.ofNat gM_151))] [(.int (1 : Int32))]) := fun t kt => K179 t (by
    show Steps p.tables e below (T178.setTop (mkF m 289 #[.val (.int p1), .val (.int p2), .val (.long jl), .second, .val (.ref b2), .val (.int (Int32.ofNat gF)), .val (.int (Int32.ofNat gT)), .val (.ref b25), .val (.int (1 : Int32)), .val (.int (Int32.ofNat gM_151))] [(.int (Int32.ofNat gM_151))])) _
    refine XS.iload X178.here hx rfl (hb hby at_289) rfl ?_
    show Steps p.tables e below (T178.setTop (mkF m 291 #[.val (.int p1), .val (.int p2), .val (.long jl), .second, .val (.ref b2), .val (.int (Int32.ofNat gF)), .val (.int (Int32.ofNat gT)), .val (.ref b25), .val (.int (1 : Int32)), .val (.int (Int32.ofNat gM_151))] [(.int (Int32.ofNat gM_151)), (.int (Int32.ofNat gM_151))])) _
    refine XS.icmpNo X178.here hx rfl (hb hby at_291) rfl (teq rfl).2 ?_
    show Steps p.tables e below (T178.setTop (mkF m 294 #[.val (.int p1), .val (.int p2), .val (.long jl), .second, .val (.ref b2), .val (.int (Int32.ofNat gF)), .val (.int (Int32.ofNat gT)), .val (.ref b25), .val (.int (1 : Int32)), .val (.int (Int32.ofNat gM_151))] [])) _
    refine XS.iconst X178.here hx rfl (hb hby at_294) ?_
    show Steps p.tables e below (T178.setTop (mkF m 295 #[.val (.int p1), .val (.int p2), .val (.long jl), .second, .val (.ref b2), .val (.int (Int32.ofNat gF)), .val (.int (Int32.ofNat gT)), .val (.ref b25), .val (.int (1 : Int32)), .val (.int (Int32.ofNat gM_151))] [(.int (1 : Int32))])) _
    refine XS.goto X178.here hx rfl (pc0 := 295) (pc' := 299) rfl (hb hby at_295) (by decide) (by decide) ?_
    show Steps p.tables e below (T178.setTop (mkF m 299 #[.val (.int p1), .val (.int p2), .val (.long jl), .second, .val (.ref b2), .val (.int (Int32.ofNat gF)), .val (.int (Int32.ofNat gT)), .val (.ref b25), .val (.int (1 : Int32)), .val (.int (Int32.ofNat gM_151))] [(.int (1 : Int32))])) _
    refine XS.istore X178.here hx rfl (hb hby at_299) rfl (l' := #[.val (.int p1), .val (.int p2), .val (.long jl), .second, .val (.ref b2), .val (.int (Int32.ofNat gF)), .val (.int (Int32.ofNat gT)), .val (.ref b25), .val (.int (1 : Int32)), .val (.int (Int32.ofNat gM_151))]) rfl ?_
    show Steps p.tables e below (T178.setTop (mkF m 301 #[.val (.int p1), .val (.int p2), .val (.long jl), .second, .val (.ref b2), .val (.int (Int32.ofNat gF)), .val (.int (Int32.ofNat gT)), .val (.ref b25), .val (.int (1 : Int32)), .val (.int (Int32.ofNat gM_151))] [])) _
    refine XS.iload X178.here hx rfl (hb hby at_301) rfl ?_
    exact kt)
  obtain ⟨fs181, hr181, hrun181, hended181, hW181, hsame181⟩ := X178.leave (v := some (.int (1 : Int32))) (fun h => by rw [Bd.returns] at h; cases h)
  refine ⟨_, _, pre0 _ (K180 _ ?_), hrun181, hended181, _, _, rfl, ?_, ⟨_, rfl⟩, hW181, hsame181.mono (by decide) (by decide)⟩
  · exact retN X178 hx (t := .boolean) Bd.returns (by simp) (hb hby at_303) hr181
  · show Q0 Z p1 p2 jl h0 n0 _ T178.heap _
    rw [e178]
    exact ⟨rfl, N178⟩
set_option maxRecDepth 65536 in
set_option maxHeartbeats 40000000 in
theorem comes_1 {Post : Tables → Env → Array Value → State → Outcome → State → Prop} (hpost : ∀ tb e args s v u, (limb_1_1.after args s (.returned v) u = true ∧ limb_1_2.after args s (.returned v) u = true ∧ True) → FrameEnd s (.returned v) u (Jvm.fieldLocs frame_1_writes args s ++ Jvm.arrayLocs frame_1_arrays args s ++ Jvm.staticLocs frame_1_statics s) 24 2240 → Post tb e args s (.returned v) u) :
    ArmFor flags0 classFile x code maxLocals ret World_1 tables_1 room_1 Calls_1 rest_1 Pre_1 Post := by
  intro l hfl _ _ p e ha hc hk s m args below hf hA hF happ hP
  obtain ⟨hcalls, hrest, hpre⟩ := hP
  obtain ⟨-, -, -, hnamed, -, -, -, hat⟩ := (Spec.applies_iff hf).mp happ
  obtain ⟨hg, hn⟩ := and_e (Cond.before_iff.mp (show (Jvm.Cond.and given_1 narrow_1).before args s = true from hpre))
  obtain ⟨g1, g2⟩ := and_e hg
  obtain ⟨g3, g4⟩ := and_e g2
  obtain ⟨g5, g6⟩ := and_e g4
  obtain ⟨w0, w1, w2, rfl⟩ : ∃ w0 w1 w2 : Value, args = #[w0, w1, w2] := by
    have hs : args.size = 3 := by simpa [Cond.value, given_1] using g1
    obtain ⟨L⟩ := args
    match L, hs with
    | [w0, w1, w2], _ => exact ⟨w0, w1, w2, rfl⟩
  have hw := fun d (hd : d ∈ tables_1) => atoms_spec (ws := Jvm.Cond.code x code maxLocals ret :: tables_1) hat d (List.mem_cons_of_mem _ hd)
  have hfit : Fit s := fun {y c} hc i hi => by
    obtain ⟨ha, rfl⟩ := Array.getElem?_eq_some_iff.mp hc
    have q := List.all_eq_true.mp ((Array.all_eq_true_iff_forall_mem.mp hF) _ (Array.getElem_mem ha)) i (List.mem_range.mpr hi)
    simpa [Array.getElem?_eq_getElem hi] using q
  obtain ⟨i0, ei0⟩ := is_v g3
  obtain rfl : w0 = (.int i0) := Option.some.inj ei0
  obtain ⟨i1, ei1⟩ := is_v g5
  obtain rfl : w1 = (.int i1) := Option.some.inj ei1
  obtain ⟨i2, ei2⟩ := isL_v g6
  obtain rfl : w2 = (.long i2) := Option.some.inj ei2
  obtain ⟨n, o, h1, h2, h3, _, L, rfl, ⟨rfl, N⟩, hq⟩ := rm0 l s _ hw tables_1 i0 i1 i2 s.heap s.heap.size (Nat.le_refl _) p e ha hc hk s m _ below hf ((Spec.applies_iff_loose hf).mp happ).1 ⟨rfl, State.Warmed39.refl s, rfl⟩ trivial
  refine ⟨n, _, h1, h2, h3, hpost _ _ _ _ _ _ ⟨Cond.after_iff.mpr rfl, Cond.after_iff.mpr (eq_i res_at (Term.int_eval (1)) rfl), trivial⟩ ⟨hq.1, hq.2.1, (hq.2.2.sift fun y hy => Or.inr (N y hy)).mono (by decide) (by decide)⟩⟩
theorem main_1_1 : Claimed_1_1 := comes_1 fun _ _ _ _ _ _ h hF => ⟨h.1, hF⟩
theorem main_1_2 : Claimed_1_2 := comes_1 fun _ _ _ _ _ _ h hF => ⟨h.2.1, hF⟩
end Jvm.Pilot.@@N@@
namespace Jvm.Pilot.@@N@@
open Jvm Jvm.ClassFile Sem Op Lib Jvm.Free Jvm.Stand Jvm.Pilot.@@N@@.Jvm.D
/-! MADE BY PROGRAM (witnessworld.py) out of the Statement's table words and the real class files: 16 classes; the members and pool entries that the words name. The judged class is class 1, her method 2. -/
namespace start1
open Jvm.ClassFile
def u (s : String) : CpInfo := .utf8 (stringToUtf16 s)
/-- a pool by its gaps: so many unusable entries, then the entry; so many at the end -/
def gap : Nat → List CpInfo → List CpInfo
  | 0, r => r
  | n + 1, r => .unusable :: gap n r
def poolList (es : List (Nat × CpInfo)) (last : Nat) : List CpInfo := es.foldr (fun e r => gap e.1 (e.2 :: r)) (gap last [])
def pool (es : List (Nat × CpInfo)) (last : Nat) : Array CpInfo := ⟨poolList es last⟩
def fileOf (pool : Array CpInfo) (this : Nat) (attrs : Array Attribute := #[]) (ms : Array MethodInfo := #[]) (fl : Nat := 33) (sup : Nat := 0) (ifs : Array Nat := #[]) (fds : Array FieldInfo := #[]) : ClassFile where
  minorVersion := 0
  majorVersion := 65
  constantPool := pool
  accessFlags := fl
  thisClass := this
  superClass := sup
  interfaces := ifs
  fields := fds
  methods := ms
  attributes := attrs
def plain (name : String) (sup : Option ClassId) : Class where
  name := name
  kind := .ordinary
  loader := none
  accessFlags := 33
  super := sup
  interfaces := #[]
  cf := none
  fields := #[]
  methods := #[]
  instanceTypes := #[]
  staticTypes := #[]
  resolved := #[]
  callSites := []
  init := .initialized
  statics := none
  mirror := none

def pool0 : Array CpInfo := pool [(5, u "<init>"), (0, u "()V"), (1, .class_ 10), (1, u "java/lang/Object")] 113

def k0c0 : Code := { maxStack := 0, maxLocals := 1, code := object_method_1_code, exceptionTable := #[], attributes := #[] }
def k0m0 : Method := { name := "<init>", desc := "()V", sig := { parameters := [], returnType := none }, accessFlags := 1, code := some k0c0 }
/-- java/lang/Object -/
def k0 : Class := { plain "java/lang/Object" none with
  accessFlags := 33
  interfaces := #[]
  cf := some (fileOf pool0 8 #[] #[{ accessFlags := 1, nameIndex := 5, descriptorIndex := 6, attributes := #[] }] 33 0 #[] #[])
  fields := #[]
  methods := #[k0m0]
  instanceTypes := #[]
  staticTypes := #[]
  resolved := Array.replicate 124 none
  statics := none }

def pool1 : Array CpInfo := pool [(2, .class_ 4), (0, .nameAndType 5 6), (0, u "java/lang/Object"), (0, u "<init>"), (0, u "()V"), (0, .methodref 8 9), (0, .class_ 10), (0, .nameAndType 11 12), (0, u "com/example/fourfold/fourfold/Record"), (0, u "startElement"), (0, u "(Lcom/example/fourfold/fourfold/Label;J[BII)V"), (0, .methodref 8 14), (0, .nameAndType 15 6), (0, u "clear"), (0, .methodref 8 17), (0, .nameAndType 18 19), (0, u "continueValue"), (0, u "([BII)V"), (0, .methodref 21 22), (0, .class_ 23), (0, .nameAndType 24 25), (0, u "java/lang/Math"), (0, u "min"), (0, u "(II)I"), (0, .methodref 8 3), (0, .methodref 8 28), (0, .nameAndType 29 30), (0, u "isEmpty"), (0, u "()Z"), (0, .methodref 32 33), (0, .class_ 34), (0, .nameAndType 35 36), (0, u "com/example/fourfold/fourfold/RecordIsEmptyPinLaw"), (0, u "step"), (0, u "(Lcom/example/fourfold/fourfold/Record;II[BIIJ)I"), (0, .methodref 8 38), (0, .nameAndType 39 40), (0, u "size"), (0, u "()I"), (3, u "law"), (0, u "(IIJ)Z")] 4

def k1m0 : Method := { name := "<init>", desc := "()V", sig := { parameters := [], returnType := none }, accessFlags := 2, code := none }
def k1c1 : Code := { maxStack := 7, maxLocals := 8, code := method_2_code, exceptionTable := #[], attributes := #[] }
def k1m1 : Method := { name := "step", desc := "(Lcom/example/fourfold/fourfold/Record;II[BIIJ)I", sig := { parameters := [(.object "com/example/fourfold/fourfold/Record"), .int, .int, (.array .byte), .int, .int, .long], returnType := some .int }, accessFlags := 10, code := some k1c1 }
def k1c2 : Code := { maxStack := 8, maxLocals := 10, code := code, exceptionTable := #[], attributes := #[] }
def k1m2 : Method := { name := "law", desc := "(IIJ)Z", sig := { parameters := [.int, .int, .long], returnType := some .boolean }, accessFlags := 9, code := some k1c2 }
/-- com/example/fourfold/fourfold/RecordIsEmptyPinLaw -/
def k1 : Class := { plain "com/example/fourfold/fourfold/RecordIsEmptyPinLaw" (some 0) with
  accessFlags := 49
  interfaces := #[]
  cf := some (fileOf pool1 32 #[] #[{ accessFlags := 2, nameIndex := 5, descriptorIndex := 6, attributes := #[] }, { accessFlags := 10, nameIndex := 35, descriptorIndex := 36, attributes := #[] }, { accessFlags := 9, nameIndex := 44, descriptorIndex := 45, attributes := #[] }] 49 2 #[] #[])
  fields := #[]
  methods := #[k1m0, k1m1, k1m2]
  instanceTypes := #[]
  staticTypes := #[]
  resolved := Array.replicate 50 none
  statics := none }

def pool2 : Array CpInfo := pool [(1, .class_ 2), (0, u "java/lang/Math"), (1, .class_ 6), (1, u "java/lang/Object"), (0, u "<init>"), (0, u "()V"), (89, .class_ 100), (1, u "java/lang/Math$RandomNumberGeneratorHolder"), (71, u "negativeZeroFloatBits"), (0, u "J"), (2, u "negativeZeroDoubleBits"), (24, u "min"), (43, u "$assertionsDisabled"), (0, u "Z"), (88, u "(II)I"), (2, u "twoToTheDoubleScaleDown"), (0, u "D"), (4, u "twoToTheDoubleScaleUp"), (9, u "E"), (3, u "PI"), (2, u "TAU"), (2, u "DEGREES_TO_RADIANS"), (0, u "RADIANS_TO_DEGREES")] 94

def k2m0 : Method := { name := "<init>", desc := "()V", sig := { parameters := [], returnType := none }, accessFlags := 2, code := none }
def k2c1 : Code := { maxStack := 2, maxLocals := 2, code := jdk_29_method_69_code, exceptionTable := #[], attributes := #[] }
def k2m1 : Method := { name := "min", desc := "(II)I", sig := { parameters := [.int, .int], returnType := some .int }, accessFlags := 9, code := some k2c1 }
/-- java/lang/Math -/
def k2 : Class := { plain "java/lang/Math" (some 0) with
  accessFlags := 49
  interfaces := #[]
  cf := some (fileOf pool2 1 #[.nestMembers #[98]] #[{ accessFlags := 2, nameIndex := 7, descriptorIndex := 8, attributes := #[] }, { accessFlags := 9, nameIndex := 201, descriptorIndex := 335, attributes := #[] }] 49 4 #[] #[{ accessFlags := 25, nameIndex := 354, descriptorIndex := 339, attributes := #[] }, { accessFlags := 25, nameIndex := 358, descriptorIndex := 339, attributes := #[] }, { accessFlags := 25, nameIndex := 361, descriptorIndex := 339, attributes := #[] }, { accessFlags := 26, nameIndex := 364, descriptorIndex := 339, attributes := #[] }, { accessFlags := 26, nameIndex := 365, descriptorIndex := 339, attributes := #[] }, { accessFlags := 26, nameIndex := 172, descriptorIndex := 173, attributes := #[] }, { accessFlags := 26, nameIndex := 176, descriptorIndex := 173, attributes := #[] }, { accessFlags := 8, nameIndex := 344, descriptorIndex := 339, attributes := #[] }, { accessFlags := 8, nameIndex := 338, descriptorIndex := 339, attributes := #[] }, { accessFlags := 4120, nameIndex := 245, descriptorIndex := 246, attributes := #[] }])
  fields := #[{ name := "E", type := .double, accessFlags := 25, slot := 0, constantValue := 0 }, { name := "PI", type := .double, accessFlags := 25, slot := 1, constantValue := 0 }, { name := "TAU", type := .double, accessFlags := 25, slot := 2, constantValue := 0 }, { name := "DEGREES_TO_RADIANS", type := .double, accessFlags := 26, slot := 3, constantValue := 0 }, { name := "RADIANS_TO_DEGREES", type := .double, accessFlags := 26, slot := 4, constantValue := 0 }, { name := "negativeZeroFloatBits", type := .long, accessFlags := 26, slot := 5, constantValue := 0 }, { name := "negativeZeroDoubleBits", type := .long, accessFlags := 26, slot := 6, constantValue := 0 }, { name := "twoToTheDoubleScaleUp", type := .double, accessFlags := 8, slot := 7, constantValue := 0 }, { name := "twoToTheDoubleScaleDown", type := .double, accessFlags := 8, slot := 8, constantValue := 0 }, { name := "$assertionsDisabled", type := .boolean, accessFlags := 4120, slot := 9, constantValue := 0 }]
  methods := #[k2m0, k2m1]
  instanceTypes := #[]
  staticTypes := #[.double, .double, .double, .double, .double, .long, .long, .double, .double, .boolean]
  resolved := Array.replicate 460 none
  statics := none }

def pool3 : Array CpInfo := pool [(1, .methodref 2 3), (0, .class_ 4), (0, .nameAndType 5 6), (0, u "java/lang/Object"), (0, u "<init>"), (0, u "()V"), (0, .class_ 8), (0, u "com/example/fourfold/fourfold/Record"), (0, .class_ 10), (0, u "com/example/fourfold/fourfold/Label"), (0, .fieldref 7 12), (0, .nameAndType 13 14), (0, u "labels"), (0, u "[Lcom/example/fourfold/fourfold/Label;"), (0, .fieldref 7 16), (0, .nameAndType 17 18), (0, u "lines"), (0, u "[J"), (0, .fieldref 7 20), (0, .nameAndType 21 22), (0, u "ends"), (0, u "[I"), (0, .fieldref 7 24), (0, .nameAndType 25 26), (0, u "text"), (0, u "[B"), (2, u "number"), (0, u "J"), (0, .fieldref 7 32), (0, .nameAndType 33 34), (0, u "size"), (0, u "I"), (9, u "(I)I"), (65, u "isEmpty"), (0, u "()Z"), (25, .methodref 7 138), (0, .nameAndType 139 44), (0, u "reserve"), (0, .methodref 141 142), (0, .class_ 143), (0, .nameAndType 144 145), (0, u "java/lang/System"), (0, u "arraycopy"), (0, u "(Ljava/lang/Object;ILjava/lang/Object;II)V"), (8, u "FIRST_ELEMENTS"), (2, u "FIRST_TEXT_BYTES"), (3, u "()I"), (6, u "clear"), (0, u "startElement"), (0, u "(Lcom/example/fourfold/fourfold/Label;J[BII)V"), (2, u "continueValue"), (0, u "([BII)V")] 4

def k3c0 : Code := { maxStack := 2, maxLocals := 1, code := prog_23_method_1_code, exceptionTable := #[], attributes := #[] }
def k3m0 : Method := { name := "<init>", desc := "()V", sig := { parameters := [], returnType := none }, accessFlags := 0, code := some k3c0 }
def k3c1 : Code := { maxStack := 1, maxLocals := 1, code := prog_23_method_3_code, exceptionTable := #[], attributes := #[] }
def k3m1 : Method := { name := "size", desc := "()I", sig := { parameters := [], returnType := some .int }, accessFlags := 0, code := some k3c1 }
def k3c2 : Code := { maxStack := 2, maxLocals := 1, code := prog_23_method_12_code, exceptionTable := #[], attributes := #[] }
def k3m2 : Method := { name := "clear", desc := "()V", sig := { parameters := [], returnType := none }, accessFlags := 0, code := some k3c2 }
def k3c3 : Code := { maxStack := 1, maxLocals := 1, code := prog_23_method_13_code, exceptionTable := #[], attributes := #[] }
def k3m3 : Method := { name := "isEmpty", desc := "()Z", sig := { parameters := [], returnType := some .boolean }, accessFlags := 0, code := some k3c3 }
def k3c4 : Code := { maxStack := 6, maxLocals := 8, code := prog_23_method_14_code, exceptionTable := #[], attributes := #[] }
def k3m4 : Method := { name := "startElement", desc := "(Lcom/example/fourfold/fourfold/Label;J[BII)V", sig := { parameters := [(.object "com/example/fourfold/fourfold/Label"), .long, (.array .byte), .int, .int], returnType := none }, accessFlags := 0, code := some k3c4 }
def k3c5 : Code := { maxStack := 6, maxLocals := 5, code := prog_23_method_15_code, exceptionTable := #[], attributes := #[] }
def k3m5 : Method := { name := "continueValue", desc := "([BII)V", sig := { parameters := [(.array .byte), .int, .int], returnType := none }, accessFlags := 0, code := some k3c5 }
def k3c6 : Code := { maxStack := 5, maxLocals := 3, code := prog_23_method_17_code, exceptionTable := #[], attributes := #[] }
def k3m6 : Method := { name := "reserve", desc := "(I)I", sig := { parameters := [.int], returnType := some .int }, accessFlags := 2, code := some k3c6 }
/-- com/example/fourfold/fourfold/Record -/
def k3 : Class := { plain "com/example/fourfold/fourfold/Record" (some 0) with
  accessFlags := 48
  interfaces := #[]
  cf := some (fileOf pool3 7 #[] #[{ accessFlags := 0, nameIndex := 5, descriptorIndex := 6, attributes := #[] }, { accessFlags := 0, nameIndex := 33, descriptorIndex := 161, attributes := #[] }, { accessFlags := 0, nameIndex := 168, descriptorIndex := 6, attributes := #[] }, { accessFlags := 0, nameIndex := 110, descriptorIndex := 111, attributes := #[] }, { accessFlags := 0, nameIndex := 169, descriptorIndex := 170, attributes := #[] }, { accessFlags := 0, nameIndex := 173, descriptorIndex := 174, attributes := #[] }, { accessFlags := 2, nameIndex := 139, descriptorIndex := 44, attributes := #[] }] 48 2 #[] #[{ accessFlags := 26, nameIndex := 154, descriptorIndex := 34, attributes := #[] }, { accessFlags := 26, nameIndex := 157, descriptorIndex := 34, attributes := #[] }, { accessFlags := 2, nameIndex := 29, descriptorIndex := 30, attributes := #[] }, { accessFlags := 2, nameIndex := 33, descriptorIndex := 34, attributes := #[] }, { accessFlags := 2, nameIndex := 13, descriptorIndex := 14, attributes := #[] }, { accessFlags := 2, nameIndex := 17, descriptorIndex := 18, attributes := #[] }, { accessFlags := 2, nameIndex := 21, descriptorIndex := 22, attributes := #[] }, { accessFlags := 2, nameIndex := 25, descriptorIndex := 26, attributes := #[] }])
  fields := #[{ name := "FIRST_ELEMENTS", type := .int, accessFlags := 26, slot := 0, constantValue := 0 }, { name := "FIRST_TEXT_BYTES", type := .int, accessFlags := 26, slot := 1, constantValue := 0 }, { name := "number", type := .long, accessFlags := 2, slot := 0, constantValue := 0 }, { name := "size", type := .int, accessFlags := 2, slot := 1, constantValue := 0 }, { name := "labels", type := (.array (.object "com/example/fourfold/fourfold/Label")), accessFlags := 2, slot := 2, constantValue := 0 }, { name := "lines", type := (.array .long), accessFlags := 2, slot := 3, constantValue := 0 }, { name := "ends", type := (.array .int), accessFlags := 2, slot := 4, constantValue := 0 }, { name := "text", type := (.array .byte), accessFlags := 2, slot := 5, constantValue := 0 }]
  methods := #[k3m0, k3m1, k3m2, k3m3, k3m4, k3m5, k3m6]
  instanceTypes := #[.long, .int, (.array (.object "com/example/fourfold/fourfold/Label")), (.array .long), (.array .int), (.array .byte)]
  staticTypes := #[.int, .int]
  resolved := Array.replicate 179 none
  statics := none }

def pool4 : Array CpInfo := pool [(2, .class_ 4), (1, u "java/lang/Object"), (0, u "<init>"), (0, u "()V"), (0, .class_ 8), (0, u "java/lang/Record")] 13

def k4m0 : Method := { name := "<init>", desc := "()V", sig := { parameters := [], returnType := none }, accessFlags := 4, code := none }
/-- java/lang/Record -/
def k4 : Class := { plain "java/lang/Record" (some 0) with
  accessFlags := 1057
  interfaces := #[]
  cf := some (fileOf pool4 7 #[] #[{ accessFlags := 4, nameIndex := 5, descriptorIndex := 6, attributes := #[] }] 1057 2 #[] #[])
  fields := #[]
  methods := #[k4m0]
  instanceTypes := #[]
  staticTypes := #[]
  resolved := Array.replicate 22 none
  statics := none }

def pool5 : Array CpInfo := pool [(2, .class_ 4), (1, u "java/lang/Record"), (3, .class_ 10), (1, u "com/example/fourfold/fourfold/Label"), (0, u "written"), (0, u "Ljava/lang/String;"), (2, u "name"), (2, u "term"), (0, u "Lcom/example/fourfold/fourfold/Term;"), (2, u "synonym")] 125

/-- com/example/fourfold/fourfold/Label -/
def k5 : Class := { plain "com/example/fourfold/fourfold/Label" (some 4) with
  accessFlags := 48
  interfaces := #[]
  cf := some (fileOf pool5 8 #[] #[] 48 2 #[] #[{ accessFlags := 18, nameIndex := 11, descriptorIndex := 12, attributes := #[] }, { accessFlags := 18, nameIndex := 15, descriptorIndex := 12, attributes := #[] }, { accessFlags := 18, nameIndex := 18, descriptorIndex := 19, attributes := #[] }, { accessFlags := 18, nameIndex := 22, descriptorIndex := 12, attributes := #[] }])
  fields := #[{ name := "written", type := (.object "java/lang/String"), accessFlags := 18, slot := 0, constantValue := 0 }, { name := "name", type := (.object "java/lang/String"), accessFlags := 18, slot := 1, constantValue := 0 }, { name := "term", type := (.object "com/example/fourfold/fourfold/Term"), accessFlags := 18, slot := 2, constantValue := 0 }, { name := "synonym", type := (.object "java/lang/String"), accessFlags := 18, slot := 3, constantValue := 0 }]
  methods := #[]
  instanceTypes := #[(.object "java/lang/String"), (.object "java/lang/String"), (.object "com/example/fourfold/fourfold/Term"), (.object "java/lang/String")]
  staticTypes := #[]
  resolved := Array.replicate 148 none
  statics := none }

def pool6 : Array CpInfo := pool [(2, .class_ 4), (1, u "java/lang/Object"), (0, u "<init>"), (0, u "()V"), (1, .class_ 10), (1, u "java/lang/System"), (0, u "allowSecurityManager"), (0, u "I"), (16, u "cons"), (0, u "Ljava/io/Console;"), (77, .class_ 110), (1, u "java/lang/System$CallersHolder"), (43, u "initialErrStream"), (0, u "Ljava/io/PrintStream;"), (19, u "security"), (0, u "Ljava/lang/SecurityManager;"), (31, .class_ 209), (0, u "java/lang/System$1"), (7, u "props"), (0, u "Ljava/util/Properties;"), (2, u "lineSeparator"), (0, u "Ljava/lang/String;"), (96, .class_ 321), (1, u "java/lang/System$LoggerFinder"), (5, .class_ 328), (0, u "java/lang/System$Logger"), (67, u "err"), (2, u "out"), (91, u "notSupportedJnuEncoding"), (15, u "in"), (17, u "initialIn"), (0, u "Ljava/io/InputStream;"), (35, u "bootLayer"), (0, u "Ljava/lang/ModuleLayer;"), (99, .class_ 664), (0, u "java/lang/System$2"), (9, u "NEVER"), (2, u "MAYBE"), (49, u "arraycopy"), (0, u "(Ljava/lang/Object;ILjava/lang/Object;II)V"), (72, .class_ 802), (0, u "java/lang/System$Logger$Level")] 31

def k6m0 : Method := { name := "<init>", desc := "()V", sig := { parameters := [], returnType := none }, accessFlags := 2, code := none }
def k6m1 : Method := { name := "arraycopy", desc := "(Ljava/lang/Object;ILjava/lang/Object;II)V", sig := { parameters := [(.object "java/lang/Object"), .int, (.object "java/lang/Object"), .int, .int], returnType := none }, accessFlags := 265, code := none }
/-- java/lang/System -/
def k6 : Class := { plain "java/lang/System" (some 0) with
  accessFlags := 49
  interfaces := #[]
  cf := some (fileOf pool6 8 #[.nestMembers #[319, 327, 801, 108, 663, 208]] #[{ accessFlags := 2, nameIndex := 5, descriptorIndex := 6, attributes := #[] }, { accessFlags := 265, nameIndex := 727, descriptorIndex := 728, attributes := #[] }] 49 2 #[] #[{ accessFlags := 25, nameIndex := 507, descriptorIndex := 526, attributes := #[] }, { accessFlags := 25, nameIndex := 399, descriptorIndex := 155, attributes := #[] }, { accessFlags := 25, nameIndex := 396, descriptorIndex := 155, attributes := #[] }, { accessFlags := 10, nameIndex := 525, descriptorIndex := 526, attributes := #[] }, { accessFlags := 26, nameIndex := 674, descriptorIndex := 12, attributes := #[] }, { accessFlags := 26, nameIndex := 677, descriptorIndex := 12, attributes := #[] }, { accessFlags := 10, nameIndex := 11, descriptorIndex := 12, attributes := #[] }, { accessFlags := 74, nameIndex := 175, descriptorIndex := 176, attributes := #[] }, { accessFlags := 10, nameIndex := 491, descriptorIndex := 222, attributes := #[] }, { accessFlags := 74, nameIndex := 29, descriptorIndex := 30, attributes := #[] }, { accessFlags := 74, nameIndex := 154, descriptorIndex := 155, attributes := #[] }, { accessFlags := 10, nameIndex := 217, descriptorIndex := 218, attributes := #[] }, { accessFlags := 10, nameIndex := 221, descriptorIndex := 222, attributes := #[] }, { accessFlags := 8, nameIndex := 562, descriptorIndex := 563, attributes := #[] }])
  fields := #[{ name := "in", type := (.object "java/io/InputStream"), accessFlags := 25, slot := 0, constantValue := 0 }, { name := "out", type := (.object "java/io/PrintStream"), accessFlags := 25, slot := 1, constantValue := 0 }, { name := "err", type := (.object "java/io/PrintStream"), accessFlags := 25, slot := 2, constantValue := 0 }, { name := "initialIn", type := (.object "java/io/InputStream"), accessFlags := 10, slot := 3, constantValue := 0 }, { name := "NEVER", type := .int, accessFlags := 26, slot := 4, constantValue := 0 }, { name := "MAYBE", type := .int, accessFlags := 26, slot := 5, constantValue := 0 }, { name := "allowSecurityManager", type := .int, accessFlags := 10, slot := 6, constantValue := 0 }, { name := "security", type := (.object "java/lang/SecurityManager"), accessFlags := 74, slot := 7, constantValue := 0 }, { name := "notSupportedJnuEncoding", type := (.object "java/lang/String"), accessFlags := 10, slot := 8, constantValue := 0 }, { name := "cons", type := (.object "java/io/Console"), accessFlags := 74, slot := 9, constantValue := 0 }, { name := "initialErrStream", type := (.object "java/io/PrintStream"), accessFlags := 74, slot := 10, constantValue := 0 }, { name := "props", type := (.object "java/util/Properties"), accessFlags := 10, slot := 11, constantValue := 0 }, { name := "lineSeparator", type := (.object "java/lang/String"), accessFlags := 10, slot := 12, constantValue := 0 }, { name := "bootLayer", type := (.object "java/lang/ModuleLayer"), accessFlags := 8, slot := 13, constantValue := 0 }]
  methods := #[k6m0, k6m1]
  instanceTypes := #[]
  staticTypes := #[(.object "java/io/InputStream"), (.object "java/io/PrintStream"), (.object "java/io/PrintStream"), (.object "java/io/InputStream"), .int, .int, .int, (.object "java/lang/SecurityManager"), (.object "java/lang/String"), (.object "java/io/Console"), (.object "java/io/PrintStream"), (.object "java/util/Properties"), (.object "java/lang/String"), (.object "java/lang/ModuleLayer")]
  resolved := Array.replicate 834 none
  statics := none }

def pool7 : Array CpInfo := pool [(1, u "java/lang/Cloneable"), (0, .class_ 1), (0, u "java/lang/Object"), (0, .class_ 3)] 3

/-- java/lang/Cloneable -/
def k7 : Class := { plain "java/lang/Cloneable" (some 0) with
  accessFlags := 1537
  interfaces := #[]
  cf := some (fileOf pool7 2 #[] #[] 1537 4 #[] #[])
  fields := #[]
  methods := #[]
  instanceTypes := #[]
  staticTypes := #[]
  resolved := Array.replicate 8 none
  statics := none }

def pool8 : Array CpInfo := pool [(1, u "java/io/Serializable"), (0, .class_ 1), (0, u "java/lang/Object"), (0, .class_ 3)] 3

/-- java/io/Serializable -/
def k8 : Class := { plain "java/io/Serializable" (some 0) with
  accessFlags := 1537
  interfaces := #[]
  cf := some (fileOf pool8 2 #[] #[] 1537 4 #[] #[])
  fields := #[]
  methods := #[]
  instanceTypes := #[]
  staticTypes := #[]
  resolved := Array.replicate 8 none
  statics := none }

/-- the primitive byte -/
def k9 : Class := { plain "byte" none with kind := .primitive 'B', accessFlags := 0x411 }
/-- [B -/
def k10 : Class := { plain "[B" (some 0) with kind := .array 9 .byte, interfaces := #[7, 8], accessFlags := 1041 }

/-- the primitive int -/
def k11 : Class := { plain "int" none with kind := .primitive 'I', accessFlags := 0x411 }
/-- [I -/
def k12 : Class := { plain "[I" (some 0) with kind := .array 11 .int, interfaces := #[7, 8], accessFlags := 1041 }

/-- the primitive long -/
def k13 : Class := { plain "long" none with kind := .primitive 'J', accessFlags := 0x411 }
/-- [J -/
def k14 : Class := { plain "[J" (some 0) with kind := .array 13 .long, interfaces := #[7, 8], accessFlags := 1041 }

/-- [Lcom/example/fourfold/fourfold/Label; -/
def k15 : Class := { plain "[Lcom/example/fourfold/fourfold/Label;" (some 0) with kind := .array 5 (.object "com/example/fourfold/fourfold/Label"), interfaces := #[7, 8], accessFlags := 1041 }

def heap : Heap := #[]
def classes : Array Class := #[k0, k1, k2, k3, k4, k5, k6, k7, k8, k9, k10, k11, k12, k13, k14, k15]
def interned : List (Array UInt16 × Addr) := []
def slotsUsed : Nat := 0
def theMethod : MethodId := ⟨1, 2⟩
def args0 : Array Value := #[.int 5, .int 6, .long 7]
def aboutOver (below : List Frame) : State where
  vm := { classes := classes, interned := interned.toArray }
  heap := heap
  slotsUsed := slotsUsed
  threads := #[{ frames := .invoking theMethod args0 :: below }]
def below0 : List Frame := [.native { method := ⟨0, 0⟩, args := #[] }]
def about1 : State := aboutOver below0
def p0 : Program := .bare "" "" ""
def e0 : Env := launch0.env 0 0 0
theorem w_frames : about1.frames = Frame.invoking theMethod args0 :: below0 := rfl
set_option maxRecDepth 65536 in
theorem w_args : argsFit about1.vm theMethod args0 = true := by decide +kernel
set_option maxRecDepth 65536 in
theorem w_heap : heapFits about1 = true := by decide +kernel
set_option maxRecDepth 65536 in
theorem w_runnable : about1.curStatus? = some .runnable := by decide +kernel
set_option maxRecDepth 65536 in
theorem w_alone : about1.alone = true := by decide +kernel
set_option maxRecDepth 65536 in
theorem w_named : about1.methodNamed? x = some theMethod := by decide +kernel
set_option maxRecDepth 65536 in
theorem w_hears : about1.hears theMethod below0 = true := by decide +kernel
set_option maxRecDepth 65536 in
theorem w_ripe : about1.ripe theMethod args0 below0 = true := by decide +kernel
theorem w_running : about1.status = .running := rfl
set_option maxRecDepth 65536 in
theorem w_room : about1.hasRoom e0.platform room_1 = true :=
  launch0.hasRoom_least _ room_1 (by decide +kernel) (by decide +kernel) (by decide +kernel) (by decide +kernel) (by decide +kernel) (by decide +kernel)
theorem allAtoms_all (ts : List Jvm.Cond) (a : Array Jvm.Value) (st : Jvm.State) : (allAtoms ts).before a st = ts.all (fun c => c.before a st) := by
  induction ts with
  | nil => rfl
  | cons c t ih =>
    show (Jvm.Cond.and c (allAtoms t)).before a st = _
    rw [Jvm.Cond.before_and, ih, List.all_cons]
def words1 : List Jvm.Cond := Jvm.Cond.code x code maxLocals ret :: tables_1
/-- a 'code' word, met by the world's own term for the bytes: nothing is compared byte by byte -/
theorem code_word {y : MethodName} {bytes : ByteArray} {mx : Nat} {rt : Option FieldType} {a : Array Value} {s : State} {m : MethodId} {meth : Method} {c : Code} (h1 : s.methodNamed? y = some m) (h2 : s.vm.method? m = some meth) (h3 : meth.code = some c) (h4 : c.code = bytes)
    (h5 : (c.maxLocals == mx && c.exceptionTable.isEmpty && decide (c.maxStack ≤ mostOperands) && decide (meth.sig.returnType = rt) && !meth.locks && decide (parseMethodDescriptor y.desc = some meth.sig)) = true) : (Jvm.Cond.code y bytes mx rt).before a s = true := by
  simp only [Bool.and_eq_true, beq_iff_eq, Bool.not_eq_true', decide_eq_true_eq] at h5
  obtain ⟨⟨⟨⟨⟨g1, g2⟩, g3⟩, g4⟩, g5⟩, g6⟩ := h5
  simp [Cond.before, Cond.holds, Cond.value, h1, h2, h3, h4, g1, g2, g3, g4, g5, g6]
def isCode : Jvm.Cond → Bool
  | .code _ _ _ _ => true
  | _ => false
theorem all_split {L : List Jvm.Cond} {P : Jvm.Cond → Bool} (h1 : L.all (fun c => isCode c || P c) = true) (h2 : ∀ c ∈ L.filter isCode, P c = true) : L.all P = true := by
  refine List.all_eq_true.mpr fun c hc => ?_
  have h := List.all_eq_true.mp h1 c hc
  rcases Bool.eq_false_or_eq_true (isCode c) with hi | hi
  · exact h2 c (List.mem_filter.mpr ⟨hc, hi⟩)
  · simpa [hi] using h
set_option maxRecDepth 65536 in
theorem w_c0 : (Jvm.Cond.code x code maxLocals ret).before args0 about1 = true := code_word (m := ⟨1, 2⟩) (meth := k1m2) (c := k1c2) (by decide +kernel) rfl rfl rfl (by decide +kernel)
set_option maxRecDepth 65536 in
theorem w_c1 : (Jvm.Cond.code ({ cls := "java/lang/Math", name := "min", desc := "(II)I" } : Jvm.MethodName) jdk_29_method_69_code (2 : Nat) (Option.some Jvm.ClassFile.FieldType.int)).before args0 about1 = true := code_word (m := ⟨2, 1⟩) (meth := k2m1) (c := k2c1) (by decide +kernel) rfl rfl rfl (by decide +kernel)
set_option maxRecDepth 65536 in
theorem w_c2 : (Jvm.Cond.code ({ cls := "com/example/fourfold/fourfold/Record", name := "<init>", desc := "()V" } : Jvm.MethodName) prog_23_method_1_code (1 : Nat) (Option.none : Option Jvm.ClassFile.FieldType)).before args0 about1 = true := code_word (m := ⟨3, 0⟩) (meth := k3m0) (c := k3c0) (by decide +kernel) rfl rfl rfl (by decide +kernel)
set_option maxRecDepth 65536 in
theorem w_c3 : (Jvm.Cond.code ({ cls := "java/lang/Object", name := "<init>", desc := "()V" } : Jvm.MethodName) object_method_1_code (1 : Nat) (Option.none : Option Jvm.ClassFile.FieldType)).before args0 about1 = true := code_word (m := ⟨0, 0⟩) (meth := k0m0) (c := k0c0) (by decide +kernel) rfl rfl rfl (by decide +kernel)
set_option maxRecDepth 65536 in
theorem w_c4 : (Jvm.Cond.code ({ cls := "com/example/fourfold/fourfold/Record", name := "isEmpty", desc := "()Z" } : Jvm.MethodName) prog_23_method_13_code (1 : Nat) (Option.some Jvm.ClassFile.FieldType.boolean)).before args0 about1 = true := code_word (m := ⟨3, 3⟩) (meth := k3m3) (c := k3c3) (by decide +kernel) rfl rfl rfl (by decide +kernel)
set_option maxRecDepth 65536 in
theorem w_c5 : (Jvm.Cond.code ({ cls := "com/example/fourfold/fourfold/RecordIsEmptyPinLaw", name := "step", desc := "(Lcom/example/fourfold/fourfold/Record;II[BIIJ)I" } : Jvm.MethodName) method_2_code (8 : Nat) (Option.some Jvm.ClassFile.FieldType.int)).before args0 about1 = true := code_word (m := ⟨1, 1⟩) (meth := k1m1) (c := k1c1) (by decide +kernel) rfl rfl rfl (by decide +kernel)
set_option maxRecDepth 65536 in
theorem w_c6 : (Jvm.Cond.code ({ cls := "com/example/fourfold/fourfold/Record", name := "startElement", desc := "(Lcom/example/fourfold/fourfold/Label;J[BII)V" } : Jvm.MethodName) prog_23_method_14_code (8 : Nat) (Option.none : Option Jvm.ClassFile.FieldType)).before args0 about1 = true := code_word (m := ⟨3, 4⟩) (meth := k3m4) (c := k3c4) (by decide +kernel) rfl rfl rfl (by decide +kernel)
set_option maxRecDepth 65536 in
theorem w_c7 : (Jvm.Cond.code ({ cls := "com/example/fourfold/fourfold/Record", name := "reserve", desc := "(I)I" } : Jvm.MethodName) prog_23_method_17_code (3 : Nat) (Option.some Jvm.ClassFile.FieldType.int)).before args0 about1 = true := code_word (m := ⟨3, 6⟩) (meth := k3m6) (c := k3c6) (by decide +kernel) rfl rfl rfl (by decide +kernel)
set_option maxRecDepth 65536 in
theorem w_c8 : (Jvm.Cond.code ({ cls := "com/example/fourfold/fourfold/Record", name := "size", desc := "()I" } : Jvm.MethodName) prog_23_method_3_code (1 : Nat) (Option.some Jvm.ClassFile.FieldType.int)).before args0 about1 = true := code_word (m := ⟨3, 1⟩) (meth := k3m1) (c := k3c1) (by decide +kernel) rfl rfl rfl (by decide +kernel)
set_option maxRecDepth 65536 in
theorem w_c9 : (Jvm.Cond.code ({ cls := "com/example/fourfold/fourfold/Record", name := "clear", desc := "()V" } : Jvm.MethodName) prog_23_method_12_code (1 : Nat) (Option.none : Option Jvm.ClassFile.FieldType)).before args0 about1 = true := code_word (m := ⟨3, 2⟩) (meth := k3m2) (c := k3c2) (by decide +kernel) rfl rfl rfl (by decide +kernel)
set_option maxRecDepth 65536 in
theorem w_c10 : (Jvm.Cond.code ({ cls := "com/example/fourfold/fourfold/Record", name := "continueValue", desc := "([BII)V" } : Jvm.MethodName) prog_23_method_15_code (5 : Nat) (Option.none : Option Jvm.ClassFile.FieldType)).before args0 about1 = true := code_word (m := ⟨3, 5⟩) (meth := k3m5) (c := k3c5) (by decide +kernel) rfl rfl rfl (by decide +kernel)
def codes1 : List Jvm.Cond := [Jvm.Cond.code x code maxLocals ret, Jvm.Cond.code ({ cls := "java/lang/Math", name := "min", desc := "(II)I" } : Jvm.MethodName) jdk_29_method_69_code (2 : Nat) (Option.some Jvm.ClassFile.FieldType.int), Jvm.Cond.code ({ cls := "com/example/fourfold/fourfold/Record", name := "<init>", desc := "()V" } : Jvm.MethodName) prog_23_method_1_code (1 : Nat) (Option.none : Option Jvm.ClassFile.FieldType), Jvm.Cond.code ({ cls := "java/lang/Object", name := "<init>", desc := "()V" } : Jvm.MethodName) object_method_1_code (1 : Nat) (Option.none : Option Jvm.ClassFile.FieldType), Jvm.Cond.code ({ cls := "com/example/fourfold/fourfold/Record", name := "isEmpty", desc := "()Z" } : Jvm.MethodName) prog_23_method_13_code (1 : Nat) (Option.some Jvm.ClassFile.FieldType.boolean), Jvm.Cond.code ({ cls := "com/example/fourfold/fourfold/RecordIsEmptyPinLaw", name := "step", desc := "(Lcom/example/fourfold/fourfold/Record;II[BIIJ)I" } : Jvm.MethodName) method_2_code (8 : Nat) (Option.some Jvm.ClassFile.FieldType.int), Jvm.Cond.code ({ cls := "com/example/fourfold/fourfold/Record", name := "startElement", desc := "(Lcom/example/fourfold/fourfold/Label;J[BII)V" } : Jvm.MethodName) prog_23_method_14_code (8 : Nat) (Option.none : Option Jvm.ClassFile.FieldType), Jvm.Cond.code ({ cls := "com/example/fourfold/fourfold/Record", name := "reserve", desc := "(I)I" } : Jvm.MethodName) prog_23_method_17_code (3 : Nat) (Option.some Jvm.ClassFile.FieldType.int), Jvm.Cond.code ({ cls := "com/example/fourfold/fourfold/Record", name := "size", desc := "()I" } : Jvm.MethodName) prog_23_method_3_code (1 : Nat) (Option.some Jvm.ClassFile.FieldType.int), Jvm.Cond.code ({ cls := "com/example/fourfold/fourfold/Record", name := "clear", desc := "()V" } : Jvm.MethodName) prog_23_method_12_code (1 : Nat) (Option.none : Option Jvm.ClassFile.FieldType), Jvm.Cond.code ({ cls := "com/example/fourfold/fourfold/Record", name := "continueValue", desc := "([BII)V" } : Jvm.MethodName) prog_23_method_15_code (5 : Nat) (Option.none : Option Jvm.ClassFile.FieldType)]
set_option maxRecDepth 65536 in
theorem codes_eq : words1.filter isCode = codes1 := rfl
theorem w_codes : ∀ c ∈ words1.filter isCode, c.before args0 about1 = true := by
  rw [codes_eq]
  intro c hc
  simp only [codes1, List.mem_cons, List.not_mem_nil, or_false] at hc
  rcases hc with rfl | rfl | rfl | rfl | rfl | rfl | rfl | rfl | rfl | rfl | rfl
  · exact w_c0
  · exact w_c1
  · exact w_c2
  · exact w_c3
  · exact w_c4
  · exact w_c5
  · exact w_c6
  · exact w_c7
  · exact w_c8
  · exact w_c9
  · exact w_c10
set_option maxRecDepth 65536 in
theorem w_t1 : (words1.take 24).all (fun c => isCode c || c.before args0 about1) = true := by decide +kernel
set_option maxRecDepth 65536 in
theorem w_t2 : ((words1.drop 24).take 24).all (fun c => isCode c || c.before args0 about1) = true := by decide +kernel
set_option maxRecDepth 65536 in
theorem w_t3 : ((words1.drop 24).drop 24).all (fun c => isCode c || c.before args0 about1) = true := by decide +kernel
theorem w_tables : (allAtoms (Jvm.Cond.code x code maxLocals ret :: tables_1)).before args0 about1 = true := by
  rw [allAtoms_all]
  show words1.all (fun c => c.before args0 about1) = true
  refine all_split ?_ w_codes
  rw [← List.take_append_drop 24 words1, List.all_append, w_t1, ← List.take_append_drop 24 (words1.drop 24), List.all_append, w_t2, w_t3]
  rfl
set_option maxRecDepth 65536 in
theorem w_case : (Jvm.Cond.and given_1 narrow_1).before args0 about1 = true := by decide +kernel
theorem w_applies : (headSpec (Jvm.Cond.code x code maxLocals ret :: tables_1) room_1).applies x e0.platform about1 = true :=
  (Spec.applies_iff w_frames).mpr ⟨w_running, w_runnable, w_alone, w_named, w_hears, w_ripe, w_room, w_tables⟩
theorem atStart : AtStart classFile x code maxLocals ret World_1 tables_1 room_1 Calls_1 rest_1 Pre_1 launch0 p0 e0 about1 theMethod args0 below0 :=
  ⟨lists_1, trivial, launch0.admits_env _ _ _, launch0.least_env, fairChoices_fair.cas, fairChoices_fair.clock, w_frames, w_args, w_heap, w_applies, trivial, trivial, w_case⟩
end start1
theorem witness_1 : WitnessClaimed_1 := ⟨start1.p0, start1.e0, start1.about1, start1.theMethod, start1.args0, start1.below0, start1.atStart⟩
end Jvm.Pilot.@@N@@
