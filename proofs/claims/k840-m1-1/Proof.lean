import JvmDerived
import JvmDerived.Pilot.@@N@@Statement
import JvmDerived.Pilot.@@N@@Code
set_option linter.unusedVariables false
set_option linter.unusedSimpArgs false
@@BLOCK:NumsL.lean.txt@@
namespace Jvm.RoadKit
open Sem ClassFile Op Lib Jvm.Stand Jvm.Free Jvm.LawKit
section New
variable {p : Program} {l : Launch} {e : Env} {R : Room} {s : State} {m : MethodId} {args : Array Value} {below : List Frame} {meth : Method} {c : Code} {T : State} {locs : List Loc} {cells slots : Nat}
theorem retI (X : Stand p l e R s m args below meth c T locs cells slots) (hx : p.tables.exec = Jvm.exec) {pc : Nat} {Ls : Array Slot} {z : Int32} {rest : List Value} (hret : meth.sig.returnType = some .int) (hd : decode c.code pc = .ok (.ireturn, 1)) {fs : List Frame}
    (hl : ∀ (f : JFrame) (acts : List Action), f.method = m → f.locked = none → f.entered = [] → (doReturn e (T.setTop f) acts (some (.int z))).1 = T.setFrames fs) : Steps p.tables e below (T.setTop (mkF m pc Ls (.int z :: rest))) (T.setFrames fs) := by
  have hm' : T.vm.method? m = some meth := X.method'
  have hn : narrow .int (.int z) = .int z := rfl
  show Steps p.tables e below (T.setTop { method := m, pc := pc, locals := Ls, stack := _ :: rest, locked := none }) _
  jvm_step X.here [X.here.top, hx, hd, hm', hret, hn]
  first | (intro acts; rw [hl _ acts rfl rfl rfl]) | rw [hl _ _ rfl rfl rfl]
  exact Steps.refl _
end New
end Jvm.RoadKit
namespace Jvm.Pilot.@@N@@
open Jvm Jvm.ClassFile Sem Op Lib Jvm.Free Jvm.Stand Jvm.LawKit Jvm.RoadKit Bundle Jvm.Pilot.@@N@@.Jvm.D
abbrev Gx (p : Program) (e : Env) (below : List Frame) (T0 : State) (f0 : JFrame) (T : State) (f : JFrame) : Prop := ∀ t, Steps p.tables e below (T.setTop f) t → Steps p.tables e below (T0.setTop f0) t
theorem own_fldI {args : Array Value} {Z : State} {t : Term} {O n d : String} {a : Addr} {z : Int32} (ev : t.eval args Z none [] Z = some (.ref a)) (h : (Jvm.Cond.eq (Jvm.Term.field t O n d) (Jvm.Term.int z)).value args Z none Z [] = some true) : Fld Z Z.heap a O n d (.int z) := by
  refine Fld.start ?_
  rw [← fld_at (C := O) (n := n) (dd := d) ev]
  exact Cond.eq_int (show (Jvm.Cond.eq (Jvm.Term.field t O n d) (Jvm.Term.int z)).holds args Z none Z [] = true from Cond.before_iff.mpr h) rfl
def pickF (d bit x delta : Int32) : Int32 := nar .char (if (d &&& bit) = (0 : Int32) then x else ((x ^^^ delta).toUInt32.toUInt16.toUInt32.toInt32))
def eqF (p1 p2 p3 p4 p5 q1 q2 q3 q4 q5 : Int32) : Int32 := if p1 = q1 then (if p2 = q2 then (if p3 = q3 then (if p4 = q4 then (if p5 = q5 then (1 : Int32) else (0 : Int32)) else (0 : Int32)) else (0 : Int32)) else (0 : Int32)) else (0 : Int32)
theorem own_nar (x : Int32) : nar .char (x.toUInt32.toUInt16.toUInt32.toInt32) = x.toUInt32.toUInt16.toUInt32.toInt32 := by
  show (x.toUInt32.toUInt16.toUInt32.toInt32).toUInt32.toUInt16.toUInt32.toInt32 = x.toUInt32.toUInt16.toUInt32.toInt32
  generalize x.toUInt32.toUInt16 = u
  have h1 : u.toUInt32.toInt32.toUInt32 = u.toUInt32 := rfl
  rw [h1, UInt16.toUInt16_toUInt32]
theorem own_narpick (d bit x delta : Int32) : nar .char (pickF d bit x delta) = pickF d bit x delta := own_nar _
theorem own_narand (x : Int32) : nar .char x = x &&& 65535 := by
  apply Int32.toBitVec_inj.mp
  show BitVec.setWidth 32 (BitVec.setWidth 16 x.toBitVec) = x.toBitVec &&& 65535#32
  have hb : ∀ i : Fin 32, (65535#32).getLsbD i.1 = decide (i.1 < 16) := by decide
  apply BitVec.eq_of_getLsbD_eq
  intro i hi
  have h1 := hb ⟨i, hi⟩
  simp only [BitVec.getLsbD_and, BitVec.getLsbD_setWidth, h1]
  by_cases q : i < 16 <;> simp [q, hi]
theorem own_pick {d bit x delta : Int32} (hx : nar .char x = x) (hd : nar .char delta = delta) : pickF d bit x delta = if (d &&& bit) = (0 : Int32) then x else x ^^^ delta := by
  have h2 : ∀ y : Int32, nar .char (y.toUInt32.toUInt16.toUInt32.toInt32) = nar .char y := fun y => own_nar y
  unfold pickF
  by_cases q : (d &&& bit) = (0 : Int32)
  · rw [if_pos q, if_pos q]; exact hx
  · rw [if_neg q, if_neg q, h2, own_narand]
    rw [own_narand] at hx hd
    have e : (x ^^^ delta) &&& 65535 = (x &&& 65535) ^^^ (delta &&& 65535) := by
      apply Int32.toBitVec_inj.mp
      apply BitVec.eq_of_getLsbD_eq
      intro i hi
      simp only [Int32.toBitVec_and, Int32.toBitVec_xor, BitVec.getLsbD_and, BitVec.getLsbD_xor]
      cases x.toBitVec.getLsbD i <;> cases delta.toBitVec.getLsbD i <;> simp
    rw [e, hx, hd]
theorem own_xorne {x delta : Int32} (h : ¬ (delta = (0 : Int32))) : ¬ (x = x ^^^ delta) := fun q => h (by
  have e : x ^^^ (x ^^^ delta) = delta := by
    rw [← Int32.xor_assoc, Int32.xor_self, Int32.zero_xor]
  rw [← q, Int32.xor_self] at e
  exact e.symm)
theorem own_fin (v : Int32) (n : Nat) (h0 : 0 ≤ v.toInt) (h1 : v.toInt < n) (hn : n ≤ 100000) : ∃ i : Fin n, v = Int32.ofNat i.1 := by
  refine ⟨⟨v.toInt.toNat, by omega⟩, ?_⟩
  apply Int32.toInt_inj.mp
  show _ = (Int32.ofNat v.toInt.toNat).toInt
  rw [toInt_of (n := Int32.ofNat v.toInt.toNat) rfl (by omega)]
  omega
theorem own_and32 (x : Int32) : ∃ i : Fin 32, x &&& (31 : Int32) = Int32.ofNat i.1 := by
  have h := Jvm.Kit.i32_mask x 31 (k := 5) (by decide) (by decide)
  exact own_fin _ 32 (by omega) (by omega) (by decide)
theorem own_bits (d : Int32) : ((d &&& (31 : Int32)) = 0) ↔ ((d &&& (1 : Int32)) = 0 ∧ (d &&& (2 : Int32)) = 0 ∧ (d &&& (4 : Int32)) = 0 ∧ (d &&& (8 : Int32)) = 0 ∧ (d &&& (16 : Int32)) = 0) := by
  have e1 : d &&& (1 : Int32) = (d &&& 31) &&& 1 := by rw [Int32.and_assoc]; rfl
  have e2 : d &&& (2 : Int32) = (d &&& 31) &&& 2 := by rw [Int32.and_assoc]; rfl
  have e3 : d &&& (4 : Int32) = (d &&& 31) &&& 4 := by rw [Int32.and_assoc]; rfl
  have e4 : d &&& (8 : Int32) = (d &&& 31) &&& 8 := by rw [Int32.and_assoc]; rfl
  have e5 : d &&& (16 : Int32) = (d &&& 31) &&& 16 := by rw [Int32.and_assoc]; rfl
  obtain ⟨i, hi⟩ := own_and32 d
  rw [e1, e2, e3, e4, e5, hi]
  clear hi e1 e2 e3 e4 e5
  revert i
  decide
theorem own_eq1 (d f c r e s delta : Int32) (hf : nar .char f = f) (hc : nar .char c = c) (hr : nar .char r = r) (he : nar .char e = e) (hs : nar .char s = s) (hd : nar .char delta = delta) :
    eqF f c r e s (pickF d 1 f delta) (pickF d 2 c delta) (pickF d 4 r delta) (pickF d 8 e delta) (pickF d 16 s delta) = if (d &&& (31 : Int32)) = (0 : Int32) then (1 : Int32) else (if delta = (0 : Int32) then (1 : Int32) else (0 : Int32)) := by
  rw [own_pick hf hd, own_pick hc hd, own_pick hr hd, own_pick he hd, own_pick hs hd]
  by_cases hz : delta = (0 : Int32)
  · subst hz
    have e0 : ∀ x : Int32, x ^^^ 0 = x := fun x => Int32.xor_zero
    simp [eqF, e0]
  · have hn : ∀ x : Int32, ¬ (x = x ^^^ delta) := fun x => own_xorne hz
    have hb := own_bits d
    rw [if_neg hz]
    by_cases q1 : (d &&& (1 : Int32)) = 0
    · by_cases q2 : (d &&& (2 : Int32)) = 0
      · by_cases q3 : (d &&& (4 : Int32)) = 0
        · by_cases q4 : (d &&& (8 : Int32)) = 0
          · by_cases q5 : (d &&& (16 : Int32)) = 0
            · rw [if_pos (hb.mpr ⟨q1, q2, q3, q4, q5⟩)]; simp only [q1, q2, q3, q4, q5, if_true, eqF]
            · rw [if_neg (fun z => q5 (hb.mp z).2.2.2.2)]; simp only [q1, q2, q3, q4, if_neg q5, if_true, eqF, if_neg (hn _)]
          · rw [if_neg (fun z => q4 (hb.mp z).2.2.2.1)]; simp only [q1, q2, q3, if_neg q4, if_true, eqF, if_neg (hn _)]
        · rw [if_neg (fun z => q3 (hb.mp z).2.2.1)]; simp only [q1, q2, if_neg q3, if_true, eqF, if_neg (hn _)]
      · rw [if_neg (fun z => q2 (hb.mp z).2.1)]; simp only [q1, if_neg q2, if_true, eqF, if_neg (hn _)]
    · rw [if_neg (fun z => q1 (hb.mp z).1)]; simp only [if_neg q1, eqF, if_neg (hn _)]
theorem own_sym (a b c d e a' b' c' d' e' : Int32) : eqF a b c d e a' b' c' d' e' = eqF a' b' c' d' e' a b c d e := by
  unfold eqF
  simp only [eq_comm (a := a), eq_comm (a := b), eq_comm (a := c), eq_comm (a := d), eq_comm (a := e)]
theorem own_eq2 (d f c r e s delta : Int32) (hf : nar .char f = f) (hc : nar .char c = c) (hr : nar .char r = r) (he : nar .char e = e) (hs : nar .char s = s) (hd : nar .char delta = delta) :
    eqF (pickF d 1 f delta) (pickF d 2 c delta) (pickF d 4 r delta) (pickF d 8 e delta) (pickF d 16 s delta) f c r e s = if (d &&& (31 : Int32)) = (0 : Int32) then (1 : Int32) else (if delta = (0 : Int32) then (1 : Int32) else (0 : Int32)) := by
  rw [own_sym]; exact own_eq1 d f c r e s delta hf hc hr he hs hd
theorem own_cache {s : State} {args : Array Value} (hsets : ∀ d ∈ jdkStatics_1, d.before args s = true) (wz : (Jvm.Cond.initialized "java/lang/Integer$IntegerCache").before args s = true) (hfit : Fit s) :
    ∃ (ca : Addr) (vc : List Value) (kc : ClassId), Sta s s.heap "java/lang/Integer$IntegerCache" "high" "I" (.int (127 : Int32)) ∧ Sta s s.heap "java/lang/Integer$IntegerCache" "cache" "[Ljava/lang/Integer;" (.ref ca) ∧ Arv s s.heap ca kc (.object "java/lang/Integer") (256 : Int32) vc .null ∧
      ∀ w : Int32, ¬ (w < (-128 : Int32)) → ¬ ((127 : Int32) < w) → ∃ y, vc.getD (w + (128 : Int32)).toNatClampNeg .null = .ref y ∧ Exa s s.heap y "java/lang/Integer" := by
  have w1 := hsets _ (List.mem_of_getElem? (i := 1) rfl)
  have w2 := hsets _ (List.mem_of_getElem? (i := 2) rfl)
  have w3 := hsets _ (List.mem_of_getElem? (i := 3) rfl)
  have w4 := hsets _ (List.mem_of_getElem? (i := 4) rfl)
  have w6 := hsets _ (List.mem_of_getElem? (i := 6) rfl)
  have w7 := hsets _ (List.mem_of_getElem? (i := 7) rfl)
  have evh : (Jvm.Term.static "java/lang/Integer$IntegerCache" "high" "I").eval args s none [] s = some (.int (127 : Int32)) := Cond.eq_int w3 rfl
  obtain ⟨ca, evc⟩ := arr_v (Cond.before_iff.mp w4)
  obtain ⟨cl, A⟩ := Arr.start evc (Cond.before_iff.mp w4)
  obtain ⟨hsz, hlen⟩ := IntBox.length_fwd w6 evc A.1 A.2.1 A.2.2
  have hS : cl.slots.size = (256 : Int32).toNatClampNeg := by rw [← hlen]; simp only [Int32.toNatClampNeg, len_toInt hsz]; rfl
  have hS' : cl.slots.size = 256 := hS
  have hH : Has cl cl.slots.toList .null := fun k hk => by
    simp [List.getD_eq_getElem?_getD, hk]
  refine ⟨ca, cl.slots.toList, cl.cls, Sta.start evh (Or.inl w1), Sta.start evc (Or.inr ⟨wz, w2⟩), ⟨cl, A, rfl, hS, by decide, hH, fun i hi => ?_⟩, fun w q1 q2 => ?_⟩
  · obtain ⟨n1, n2⟩ := IntBox.place_nonneg i (by omega)
    exact elem_fits (j := i.toInt32) hfit A (fun q => q.elim n1 (fun z => by rw [n2] at z; omega)) (by rw [n2]; exact hH i hi)
  · obtain ⟨r1, r2⟩ := IntBox.place_ok w q1 q2
    have hat := A.fin (Vm.Alike.refl _)
    have hall := Cond.all_elim evc hat (Cond.before_iff.mp w7) (w + 128).toNatClampNeg (by omega)
    obtain ⟨x1, -⟩ := and_e hall
    obtain ⟨y, evy⟩ := exa_v x1
    have ei := idx_at (args := args) (s := s) (first := s) (o := none) (j := w + 128) (fun q => r1 (Or.inl q))
    have evc' : (Jvm.Term.static "java/lang/Integer$IntegerCache" "cache" "[Ljava/lang/Integer;").eval args s none [(w + 128).toNatClampNeg] s = some (.ref ca) := evc
    have hel := elem_f evc' ei hat (fun q => r1 (Or.inl q))
    rw [evy] at hel
    refine ⟨y, ?_, exa_at evy x1⟩
    have h3 := hH (w + 128).toNatClampNeg (by omega)
    exact Option.some.inj (h3.symm.trans hel.symm)
theorem own_no {Z : State} {a0 : Array Value} (hw : ∀ d ∈ tables_1, d.before a0 Z = true) : ∃ c t, Z.vm.findClass "java/lang/Integer" = some c ∧ Z.vm.findClass "com/example/vaxwire/vaxwire/hl7/Delimiters" = some t ∧ Z.vm.assignable c t = false := by
  have w1 : (Jvm.Cond.superclass "java/lang/Integer" "java/lang/Number").before a0 Z = true := hw _ (List.mem_of_getElem? (i := 42) rfl)
  have w2 : (Jvm.Cond.superclass "java/lang/Number" "java/lang/Object").before a0 Z = true := hw _ (List.mem_of_getElem? (i := 43) rfl)
  have w3 : (Jvm.Cond.noSuperclass "java/lang/Object").before a0 Z = true := hw _ (List.mem_of_getElem? (i := 44) rfl)
  have wi : (Jvm.Cond.instantiable "com/example/vaxwire/vaxwire/hl7/Delimiters" 5).before a0 Z = true := hw _ (List.mem_of_getElem? (i := 5) rfl)
  obtain ⟨t, kt, g0, g2, g5, g7, -, -⟩ := Cond.instantiable_spec wi
  obtain ⟨c3, k3, r1, r2, r3, -, -⟩ := Cond.noSuperclass_spec w3
  obtain ⟨c2, q0⟩ := found_sup w2
  obtain ⟨p2, k2, kp2, q1, q2, q3, q4, -⟩ := Cond.superclass_spec q0 w2
  obtain ⟨c1, h0⟩ := found_sup w1
  obtain ⟨p1, k1, kp1, h1, h2, h3, h4, h5, -, h7⟩ := Cond.superclass_spec h0 w1
  cases q0.symm.trans h1
  cases r1.symm.trans q1
  have n1 := ids_ne h0 g0 (by decide)
  have n2 := ids_ne q0 g0 (by decide)
  have n3 := ids_ne r1 g0 (by decide)
  have s3 : ∀ fuel, Z.vm.isSubclassAux fuel c3 t = false := fun fuel => by
    cases fuel with
    | zero => rfl
    | succ f => simp [Vm.isSubclassAux, n3, r2, r3]
  have s2 : ∀ fuel, Z.vm.isSubclassAux fuel c2 t = false := fun fuel => by
    cases fuel with
    | zero => rfl
    | succ f => simp [Vm.isSubclassAux, n2, q2, q4, s3]
  have s1 : ∀ fuel, Z.vm.isSubclassAux fuel c1 t = false := fun fuel => by
    cases fuel with
    | zero => rfl
    | succ f => simp [Vm.isSubclassAux, n1, h2, h4, s2]
  have g8 : kt.isInterface = false := by
    simp only [Bool.or_eq_false_iff] at g7; exact g7.1
  refine ⟨c1, t, h0, g0, ?_⟩
  show Z.vm.assignableAux (255 + 1) c1 t = false
  simp [Vm.assignableAux, n1, h2, g2, h5, g5, g8, Vm.isSubclass, s1]
theorem own_idx (w : Int32) (h1 : ¬ (w < (-128 : Int32))) (h2 : ¬ ((127 : Int32) < w)) : ¬ (w + (128 : Int32) < (0 : Int32)) ∧ w + (128 : Int32) < (256 : Int32) := by
  obtain ⟨q1, q2⟩ := Jvm.Free.IntBox.place_ok w h1 h2
  refine ⟨fun q => q1 (Or.inl q), ?_⟩
  have := fun q => q1 (Or.inl q)
  rw [Int32.lt_iff_toInt_lt] at this ⊢
  have e0 : (0 : Int32).toInt = 0 := by decide
  have e1 : (256 : Int32).toInt = 256 := by decide
  simp only [Int32.toNatClampNeg] at q2
  omega
theorem d1_0 : decode method_2_code 0 = .ok (.iload_n 0, 1) := by decide +kernel
theorem d1_1 : decode method_2_code 1 = .ok (.iload_n 1, 1) := by decide +kernel
theorem d1_2 : decode method_2_code 2 = .ok (.iand, 1) := by decide +kernel
theorem d1_3 : decode method_2_code 3 = .ok (.ifCond .eq 10, 3) := by decide +kernel
theorem d1_6 : decode method_2_code 6 = .ok (.iload_n 2, 1) := by decide +kernel
theorem d1_7 : decode method_2_code 7 = .ok (.iload_n 3, 1) := by decide +kernel
theorem d1_8 : decode method_2_code 8 = .ok (.ixor, 1) := by decide +kernel
theorem d1_9 : decode method_2_code 9 = .ok (.i2c, 1) := by decide +kernel
theorem d1_10 : decode method_2_code 10 = .ok (.goto 4, 3) := by decide +kernel
theorem d1_13 : decode method_2_code 13 = .ok (.iload_n 2, 1) := by decide +kernel
theorem d1_14 : decode method_2_code 14 = .ok (.ireturn, 1) := by decide +kernel
theorem pn_1 : plainName "com/example/vaxwire/vaxwire/hl7/DelimitersEqualsPinLaw" = true := by first | (simp [plainName, overriddenIn]; done) | decide +kernel
theorem ef_Pick (m : MethodId) (p1 : Int32) (p2 : Int32) (p3 : Int32) (p4 : Int32) : entryFrame m #[(.int p1), (.int p2), (.int p3), (.int p4)] 4 = mkF m 0 #[.val (.int p1), .val (.int p2), .val (.int p3), .val (.int p4)] [] := by first | (simp [entryFrame, mkF, argsToLocals, Value.category]; done) | rfl
def QPick (Z : State) (p1 : Int32) (p2 : Int32) (p3 : Int32) (p4 : Int32) (h0 : Heap) (n0 : Nat) (v : Option Value) (h : Heap) (L : List Loc) : Prop := v = some (.int (pickF p1 p2 p3 p4)) ∧ Fr n0 L ∧ h = h0
set_option maxRecDepth 65536 in
set_option maxHeartbeats 40000000 in
theorem rmPick (l : Launch) (Z : State) (a0 : Array Value) (hw : ∀ d ∈ tables_1, d.before a0 Z = true) (ws : List Jvm.Cond) (p1 : Int32) (p2 : Int32) (p3 : Int32) (p4 : Int32) (h0 : Heap) (n0 : Nat) (Z0 : n0 ≤ h0.size) :
    MetFree l (⟨"com/example/vaxwire/vaxwire/hl7/DelimitersEqualsPinLaw", "pick", "(IICC)C"⟩ : MethodName) (head1 (Jvm.Cond.code (⟨"com/example/vaxwire/vaxwire/hl7/DelimitersEqualsPinLaw", "pick", "(IICC)C"⟩ : MethodName) method_2_code 4 (some .char) :: ws) ({ frames := 0, cells := 0, slots := 0, locals := 0 } : Room)) (fun a U => a = #[(.int p1), (.int p2), (.int p3), (.int p4)] ∧ Z.Warmed39 U.vm ∧ U.heap = h0) (fun _ _ _ _ _ => True) (fun _ U o U' => ∃ v L, o = .returned v ∧ QPick Z p1 p2 p3 p4 h0 n0 v U'.heap L ∧ FrameEnd U o U' L ({ frames := 0, cells := 0, slots := 0, locals := 0 } : Room).cells ({ frames := 0, cells := 0, slots := 0, locals := 0 } : Room).slots) := by
  refine MetFree.of_bodySF (plainFor_of_name pn_1) hisR ?_
  intro p e s m args below meth c s₁ Bd hml0 hP hK
  obtain ⟨rfl, hZ, hh⟩ := hP
  have hx := Bd.exec
  have hby := Bd.bytes
  have hml : c.maxLocals = 4 := hml0
  have hown : s.vm.findClass "com/example/vaxwire/vaxwire/hl7/DelimitersEqualsPinLaw" = some m.cls := findClass_of_methodNamed Bd.named
  have hnm := (name_of_methodNamed Bd.named Bd.method).1
  have X0 : Stand p l e ({ frames := 0, cells := 0, slots := 0, locals := 0 } : Room) s m #[(.int p1), (.int p2), (.int p3), (.int p4)] below meth c s₁ [] 0 0 := Stand.of_body Bd
  have hs0 : h0 = s.heap := hh.symm
  have e0 : s₁.heap = h0 := by rw [← hh, Bd.state]; rfl
  have N0 := Fr.nil n0
  obtain ⟨f0, hf0⟩ : ∃ f, f = entryFrame m #[(.int p1), (.int p2), (.int p3), (.int p4)] 4 := ⟨_, rfl⟩
  have pre0 : ∀ t, Steps p.tables e below (s₁.setTop f0) t → Steps p.tables e below (s₁.setTop (entryFrame m #[(.int p1), (.int p2), (.int p3), (.int p4)] 4)) t := fun t k => hf0 ▸ k
  have K0 : Gx p e below s₁ f0 s₁ (mkF m 0 #[.val (.int p1), .val (.int p2), .val (.int p3), .val (.int p4)] []) := fun t kt => by rw [hf0]; exact castTop (ef_Pick m p1 p2 p3 p4) kt
  have K3 : Gx p e below s₁ f0 s₁ (mkF m 3 #[.val (.int p1), .val (.int p2), .val (.int p3), .val (.int p4)] [(.int (p1 &&& p2))]) := fun t kt => K0 t (by
    show Steps p.tables e below (s₁.setTop (mkF m 0 #[.val (.int p1), .val (.int p2), .val (.int p3), .val (.int p4)] [])) _
    refine XS.iloadN X0.here hx rfl (hb hby d1_0) rfl ?_
    show Steps p.tables e below (s₁.setTop (mkF m 1 #[.val (.int p1), .val (.int p2), .val (.int p3), .val (.int p4)] [(.int p1)])) _
    refine XS.iloadN X0.here hx rfl (hb hby d1_1) rfl ?_
    show Steps p.tables e below (s₁.setTop (mkF m 2 #[.val (.int p1), .val (.int p2), .val (.int p3), .val (.int p4)] [(.int p2), (.int p1)])) _
    refine XS.iand X0.here hx rfl (hb hby d1_2) rfl ?_
    exact kt)
  obtain ⟨v2, hv2⟩ : ∃ z : Int32, z = (if (p1 &&& p2) = (0 : Int32) then p3 else ((p3 ^^^ p4).toUInt32.toUInt16.toUInt32.toInt32)) := ⟨_, rfl⟩
  have K4 : Gx p e below s₁ f0 s₁ (mkF m 14 #[.val (.int p1), .val (.int p2), .val (.int p3), .val (.int p4)] [(.int v2)]) := fun t kt => K3 t (by
    by_cases hc3_0 : (p1 &&& p2) = (0 : Int32)
    · skip
      show Steps p.tables e below (s₁.setTop (mkF m 3 #[.val (.int p1), .val (.int p2), .val (.int p3), .val (.int p4)] [(.int (p1 &&& p2))])) _
      refine XS.ifYes X0.here hx rfl (pc0 := 3) (pc' := 13) rfl (hb hby d1_3) rfl ((if0 _ _).trans (teq hc3_0).1) (by decide) (by decide) ?_
      show Steps p.tables e below (s₁.setTop (mkF m 13 #[.val (.int p1), .val (.int p2), .val (.int p3), .val (.int p4)] [])) _
      refine XS.iloadN X0.here hx rfl (hb hby d1_13) rfl ?_
      show Steps p.tables e below (s₁.setTop (mkF m 14 #[.val (.int p1), .val (.int p2), .val (.int p3), .val (.int p4)] [(.int p3)])) _
      exact castTop (by simp only [hv2, if_pos hc3_0]) kt
    · skip
      show Steps p.tables e below (s₁.setTop (mkF m 3 #[.val (.int p1), .val (.int p2), .val (.int p3), .val (.int p4)] [(.int (p1 &&& p2))])) _
      refine XS.ifNo X0.here hx rfl (hb hby d1_3) rfl ((if0 _ _).trans (feq hc3_0).1) ?_
      show Steps p.tables e below (s₁.setTop (mkF m 6 #[.val (.int p1), .val (.int p2), .val (.int p3), .val (.int p4)] [])) _
      refine XS.iloadN X0.here hx rfl (hb hby d1_6) rfl ?_
      show Steps p.tables e below (s₁.setTop (mkF m 7 #[.val (.int p1), .val (.int p2), .val (.int p3), .val (.int p4)] [(.int p3)])) _
      refine XS.iloadN X0.here hx rfl (hb hby d1_7) rfl ?_
      show Steps p.tables e below (s₁.setTop (mkF m 8 #[.val (.int p1), .val (.int p2), .val (.int p3), .val (.int p4)] [(.int p4), (.int p3)])) _
      refine XS.ixor X0.here hx rfl (hb hby d1_8) rfl ?_
      show Steps p.tables e below (s₁.setTop (mkF m 9 #[.val (.int p1), .val (.int p2), .val (.int p3), .val (.int p4)] [(.int (p3 ^^^ p4))])) _
      refine XS.i2c X0.here hx rfl (hb hby d1_9) rfl ?_
      show Steps p.tables e below (s₁.setTop (mkF m 10 #[.val (.int p1), .val (.int p2), .val (.int p3), .val (.int p4)] [(.int ((p3 ^^^ p4).toUInt32.toUInt16.toUInt32.toInt32))])) _
      refine XS.goto X0.here hx rfl (pc0 := 10) (pc' := 14) rfl (hb hby d1_10) (by decide) (by decide) ?_
      show Steps p.tables e below (s₁.setTop (mkF m 14 #[.val (.int p1), .val (.int p2), .val (.int p3), .val (.int p4)] [(.int ((p3 ^^^ p4).toUInt32.toUInt16.toUInt32.toInt32))])) _
      exact castTop (by simp only [hv2, if_neg hc3_0]) kt)
  obtain ⟨fs5, hr5, hrun5, hended5, hW5, hsame5⟩ := X0.leave (v := some (.int (nar .char v2))) (fun h => by rw [Bd.returns] at h; cases h)
  refine ⟨_, _, pre0 _ (K4 _ ?_), hrun5, hended5, _, _, rfl, ?_, ⟨_, rfl⟩, hW5, hsame5.mono (by decide) (by decide)⟩
  · exact retN X0 hx (t := .char) Bd.returns (by simp) (hb hby d1_14) hr5
  · show QPick Z p1 p2 p3 p4 h0 n0 _ s₁.heap _
    rw [e0]
    exact ⟨(congrArg some (congrArg Value.int (by first | (simp only [pickF, hv2]; done) | (rw [hv2]; rfl)))), N0, rfl⟩
theorem d3_0 : decode jdk_30_method_1_code 0 = .ok (.aload_n 0, 1) := by decide +kernel
theorem d3_1 : decode jdk_30_method_1_code 1 = .ok (.invokespecial 1, 3) := by decide +kernel
theorem d3_4 : decode jdk_30_method_1_code 4 = .ok (.return_, 1) := by decide +kernel
theorem pn_3 : plainName "java/lang/Record" = true := by first | (simp [plainName, overriddenIn]; done) | decide +kernel
theorem ef_Rec (m : MethodId) (a1 : Addr) : entryFrame m #[(.ref a1)] 1 = mkF m 0 #[.val (.ref a1)] [] := by first | (simp [entryFrame, mkF, argsToLocals, Value.category]; done) | rfl
def QRec (Z : State) (a1 : Addr) (h0 : Heap) (n0 : Nat) (v : Option Value) (h : Heap) (L : List Loc) : Prop := v = none ∧ Fr n0 L ∧ h = h0
set_option maxRecDepth 65536 in
set_option maxHeartbeats 40000000 in
theorem rmRec (l : Launch) (Z : State) (a0 : Array Value) (hw : ∀ d ∈ tables_1, d.before a0 Z = true) (ws : List Jvm.Cond) (a1 : Addr) (h0 : Heap) (n0 : Nat) (Z0 : n0 ≤ h0.size) :
    MetFree l (⟨"java/lang/Record", "<init>", "()V"⟩ : MethodName) (head1 (Jvm.Cond.code (⟨"java/lang/Record", "<init>", "()V"⟩ : MethodName) jdk_30_method_1_code 1 none :: ws) ({ frames := 1, cells := 0, slots := 0, locals := 12 } : Room)) (fun a U => a = #[(.ref a1)] ∧ Z.Warmed39 U.vm ∧ U.heap = h0) (fun _ _ _ _ _ => True) (fun _ U o U' => ∃ v L, o = .returned v ∧ QRec Z a1 h0 n0 v U'.heap L ∧ FrameEnd U o U' L ({ frames := 1, cells := 0, slots := 0, locals := 12 } : Room).cells ({ frames := 1, cells := 0, slots := 0, locals := 12 } : Room).slots) := by
  refine MetFree.of_bodySF (plainFor_of_name pn_3) hisR ?_
  intro p e s m args below meth c s₁ Bd hml0 hP hK
  obtain ⟨rfl, hZ, hh⟩ := hP
  have hx := Bd.exec
  have hby := Bd.bytes
  have hml : c.maxLocals = 1 := hml0
  have hown : s.vm.findClass "java/lang/Record" = some m.cls := findClass_of_methodNamed Bd.named
  have hnm := (name_of_methodNamed Bd.named Bd.method).1
  have X0 : Stand p l e ({ frames := 1, cells := 0, slots := 0, locals := 12 } : Room) s m #[(.ref a1)] below meth c s₁ [] 0 0 := Stand.of_body Bd
  have hs0 : h0 = s.heap := hh.symm
  have e0 : s₁.heap = h0 := by rw [← hh, Bd.state]; rfl
  have N0 := Fr.nil n0
  obtain ⟨f0, hf0⟩ : ∃ f, f = entryFrame m #[(.ref a1)] 1 := ⟨_, rfl⟩
  have pre0 : ∀ t, Steps p.tables e below (s₁.setTop f0) t → Steps p.tables e below (s₁.setTop (entryFrame m #[(.ref a1)] 1)) t := fun t k => hf0 ▸ k
  have K0 : Gx p e below s₁ f0 s₁ (mkF m 0 #[.val (.ref a1)] []) := fun t kt => by rw [hf0]; exact castTop (ef_Rec m a1) kt
  have K1 : Gx p e below s₁ f0 s₁ (mkF m 1 #[.val (.ref a1)] [(.ref a1)]) := fun t kt => K0 t (by
    show Steps p.tables e below (s₁.setTop (mkF m 0 #[.val (.ref a1)] [])) _
    refine XS.aloadN X0.here hx rfl (hb hby d3_0) rfl rfl ?_
    exact kt)
  obtain ⟨T2, X2, e2, st2⟩ := initO X0 hx hZ hown (hw _ (List.mem_of_getElem? (i := 15) rfl)) (hw _ (List.mem_of_getElem? (i := 16) rfl)) (hw _ (List.mem_of_getElem? (i := 17) rfl)) e0 (g := (mkF m 1 #[.val (.ref a1)] [(.ref a1)])) rfl (by rw [hml]; rfl) rfl (hb hby d3_1) (by decide) (W := 0) (by show 2 * 0 + _ ≤ _; exact Nat.le_of_eq rfl) (by decide)
  have K3 : Gx p e below s₁ f0 T2 (mkF m 4 #[.val (.ref a1)] []) := fun t kt => K1 t (st2 t kt)
  obtain ⟨fs4, hr4, hrun4, hended4, hW4, hsame4⟩ := X2.leave (v := none) (fun _ => rfl)
  refine ⟨_, _, pre0 _ (K3 _ ?_), hrun4, hended4, _, _, rfl, ?_, ⟨_, rfl⟩, hW4, hsame4.mono (by decide) (by decide)⟩
  · exact X2.returnOut hx Bd.returns (hb hby d3_4) hr4
  · show QRec Z a1 h0 n0 _ T2.heap _
    rw [e2]
    exact ⟨rfl, N0, rfl⟩
theorem d8_0 : decode jdk_18_method_1_code 0 = .ok (.aload_n 0, 1) := by decide +kernel
theorem d8_1 : decode jdk_18_method_1_code 1 = .ok (.invokespecial 1, 3) := by decide +kernel
theorem d8_4 : decode jdk_18_method_1_code 4 = .ok (.return_, 1) := by decide +kernel
theorem pn_8 : plainName "java/lang/Number" = true := by first | (simp [plainName, overriddenIn]; done) | decide +kernel
theorem ef_Num (m : MethodId) (a1 : Addr) : entryFrame m #[(.ref a1)] 1 = mkF m 0 #[.val (.ref a1)] [] := by first | (simp [entryFrame, mkF, argsToLocals, Value.category]; done) | rfl
def QNum (Z : State) (a1 : Addr) (h0 : Heap) (n0 : Nat) (v : Option Value) (h : Heap) (L : List Loc) : Prop := v = none ∧ Fr n0 L ∧ h = h0
set_option maxRecDepth 65536 in
set_option maxHeartbeats 40000000 in
theorem rmNum (l : Launch) (Z : State) (a0 : Array Value) (hw : ∀ d ∈ tables_1, d.before a0 Z = true) (ws : List Jvm.Cond) (a1 : Addr) (h0 : Heap) (n0 : Nat) (Z0 : n0 ≤ h0.size) :
    MetFree l (⟨"java/lang/Number", "<init>", "()V"⟩ : MethodName) (head1 (Jvm.Cond.code (⟨"java/lang/Number", "<init>", "()V"⟩ : MethodName) jdk_18_method_1_code 1 none :: ws) ({ frames := 1, cells := 0, slots := 0, locals := 12 } : Room)) (fun a U => a = #[(.ref a1)] ∧ Z.Warmed39 U.vm ∧ U.heap = h0) (fun _ _ _ _ _ => True) (fun _ U o U' => ∃ v L, o = .returned v ∧ QNum Z a1 h0 n0 v U'.heap L ∧ FrameEnd U o U' L ({ frames := 1, cells := 0, slots := 0, locals := 12 } : Room).cells ({ frames := 1, cells := 0, slots := 0, locals := 12 } : Room).slots) := by
  refine MetFree.of_bodySF (plainFor_of_name pn_8) hisR ?_
  intro p e s m args below meth c s₁ Bd hml0 hP hK
  obtain ⟨rfl, hZ, hh⟩ := hP
  have hx := Bd.exec
  have hby := Bd.bytes
  have hml : c.maxLocals = 1 := hml0
  have hown : s.vm.findClass "java/lang/Number" = some m.cls := findClass_of_methodNamed Bd.named
  have hnm := (name_of_methodNamed Bd.named Bd.method).1
  have X0 : Stand p l e ({ frames := 1, cells := 0, slots := 0, locals := 12 } : Room) s m #[(.ref a1)] below meth c s₁ [] 0 0 := Stand.of_body Bd
  have hs0 : h0 = s.heap := hh.symm
  have e0 : s₁.heap = h0 := by rw [← hh, Bd.state]; rfl
  have N0 := Fr.nil n0
  obtain ⟨f0, hf0⟩ : ∃ f, f = entryFrame m #[(.ref a1)] 1 := ⟨_, rfl⟩
  have pre0 : ∀ t, Steps p.tables e below (s₁.setTop f0) t → Steps p.tables e below (s₁.setTop (entryFrame m #[(.ref a1)] 1)) t := fun t k => hf0 ▸ k
  have K0 : Gx p e below s₁ f0 s₁ (mkF m 0 #[.val (.ref a1)] []) := fun t kt => by rw [hf0]; exact castTop (ef_Num m a1) kt
  have K1 : Gx p e below s₁ f0 s₁ (mkF m 1 #[.val (.ref a1)] [(.ref a1)]) := fun t kt => K0 t (by
    show Steps p.tables e below (s₁.setTop (mkF m 0 #[.val (.ref a1)] [])) _
    refine XS.aloadN X0.here hx rfl (hb hby d8_0) rfl rfl ?_
    exact kt)
  obtain ⟨T2, X2, e2, st2⟩ := initO X0 hx hZ hown (hw _ (List.mem_of_getElem? (i := 57) rfl)) (hw _ (List.mem_of_getElem? (i := 16) rfl)) (hw _ (List.mem_of_getElem? (i := 17) rfl)) e0 (g := (mkF m 1 #[.val (.ref a1)] [(.ref a1)])) rfl (by rw [hml]; rfl) rfl (hb hby d8_1) (by decide) (W := 0) (by show 2 * 0 + _ ≤ _; exact Nat.le_of_eq rfl) (by decide)
  have K3 : Gx p e below s₁ f0 T2 (mkF m 4 #[.val (.ref a1)] []) := fun t kt => K1 t (st2 t kt)
  obtain ⟨fs4, hr4, hrun4, hended4, hW4, hsame4⟩ := X2.leave (v := none) (fun _ => rfl)
  refine ⟨_, _, pre0 _ (K3 _ ?_), hrun4, hended4, _, _, rfl, ?_, ⟨_, rfl⟩, hW4, hsame4.mono (by decide) (by decide)⟩
  · exact X2.returnOut hx Bd.returns (hb hby d8_4) hr4
  · show QNum Z a1 h0 n0 _ T2.heap _
    rw [e2]
    exact ⟨rfl, N0, rfl⟩
theorem d2_0 : decode prog_121_method_1_code 0 = .ok (.aload_n 0, 1) := by decide +kernel
theorem d2_1 : decode prog_121_method_1_code 1 = .ok (.invokespecial 1, 3) := by decide +kernel
theorem d2_4 : decode prog_121_method_1_code 4 = .ok (.aload_n 0, 1) := by decide +kernel
theorem d2_5 : decode prog_121_method_1_code 5 = .ok (.iload_n 1, 1) := by decide +kernel
theorem d2_6 : decode prog_121_method_1_code 6 = .ok (.putfield 7, 3) := by decide +kernel
theorem d2_9 : decode prog_121_method_1_code 9 = .ok (.aload_n 0, 1) := by decide +kernel
theorem d2_10 : decode prog_121_method_1_code 10 = .ok (.iload_n 2, 1) := by decide +kernel
theorem d2_11 : decode prog_121_method_1_code 11 = .ok (.putfield 13, 3) := by decide +kernel
theorem d2_14 : decode prog_121_method_1_code 14 = .ok (.aload_n 0, 1) := by decide +kernel
theorem d2_15 : decode prog_121_method_1_code 15 = .ok (.iload_n 3, 1) := by decide +kernel
theorem d2_16 : decode prog_121_method_1_code 16 = .ok (.putfield 16, 3) := by decide +kernel
theorem d2_19 : decode prog_121_method_1_code 19 = .ok (.aload_n 0, 1) := by decide +kernel
theorem d2_20 : decode prog_121_method_1_code 20 = .ok (.iload 4, 2) := by decide +kernel
theorem d2_22 : decode prog_121_method_1_code 22 = .ok (.putfield 19, 3) := by decide +kernel
theorem d2_25 : decode prog_121_method_1_code 25 = .ok (.aload_n 0, 1) := by decide +kernel
theorem d2_26 : decode prog_121_method_1_code 26 = .ok (.iload 5, 2) := by decide +kernel
theorem d2_28 : decode prog_121_method_1_code 28 = .ok (.putfield 22, 3) := by decide +kernel
theorem d2_31 : decode prog_121_method_1_code 31 = .ok (.return_, 1) := by decide +kernel
theorem pn_2 : plainName "com/example/vaxwire/vaxwire/hl7/Delimiters" = true := by first | (simp [plainName, overriddenIn]; done) | decide +kernel
theorem pd___V : parseMethodDescriptor "()V" = some ⟨[], none⟩ := by decide +kernel
theorem ef_Ini (m : MethodId) (a1 : Addr) (p1 : Int32) (p2 : Int32) (p3 : Int32) (p4 : Int32) (p5 : Int32) : entryFrame m #[(.ref a1), (.int p1), (.int p2), (.int p3), (.int p4), (.int p5)] 6 = mkF m 0 #[.val (.ref a1), .val (.int p1), .val (.int p2), .val (.int p3), .val (.int p4), .val (.int p5)] [] := by first | (simp [entryFrame, mkF, argsToLocals, Value.category]; done) | rfl
def QIni (Z : State) (a1 : Addr) (p1 : Int32) (p2 : Int32) (p3 : Int32) (p4 : Int32) (p5 : Int32) (h0 : Heap) (n0 : Nat) (v : Option Value) (h : Heap) (L : List Loc) : Prop := v = none ∧ Fr n0 L ∧ Keep h0 h [a1] ∧ Exa Z h a1 "com/example/vaxwire/vaxwire/hl7/Delimiters" ∧ Fld Z h a1 "com/example/vaxwire/vaxwire/hl7/Delimiters" "field" "C" (.int p1) ∧ Fld Z h a1 "com/example/vaxwire/vaxwire/hl7/Delimiters" "component" "C" (.int p2) ∧ Fld Z h a1 "com/example/vaxwire/vaxwire/hl7/Delimiters" "repetition" "C" (.int p3) ∧ Fld Z h a1 "com/example/vaxwire/vaxwire/hl7/Delimiters" "escape" "C" (.int p4) ∧ Fld Z h a1 "com/example/vaxwire/vaxwire/hl7/Delimiters" "subcomponent" "C" (.int p5)
set_option maxRecDepth 65536 in
set_option maxHeartbeats 40000000 in
theorem rmIni (l : Launch) (Z : State) (a0 : Array Value) (hw : ∀ d ∈ tables_1, d.before a0 Z = true) (ws : List Jvm.Cond) (a1 : Addr) (p1 : Int32) (p2 : Int32) (p3 : Int32) (p4 : Int32) (p5 : Int32) (h0 : Heap) (n0 : Nat) (Z0 : n0 ≤ h0.size) (pr0 : Exa Z h0 a1 "com/example/vaxwire/vaxwire/hl7/Delimiters") (pr1 : n0 ≤ a1) (pr2 : Fld Z h0 a1 "com/example/vaxwire/vaxwire/hl7/Delimiters" "field" "C" (.int (0 : Int32))) (pr3 : Fld Z h0 a1 "com/example/vaxwire/vaxwire/hl7/Delimiters" "component" "C" (.int (0 : Int32))) (pr4 : Fld Z h0 a1 "com/example/vaxwire/vaxwire/hl7/Delimiters" "repetition" "C" (.int (0 : Int32))) (pr5 : Fld Z h0 a1 "com/example/vaxwire/vaxwire/hl7/Delimiters" "escape" "C" (.int (0 : Int32))) (pr6 : Fld Z h0 a1 "com/example/vaxwire/vaxwire/hl7/Delimiters" "subcomponent" "C" (.int (0 : Int32))) (hn_p1 : nar .char p1 = p1) (hn_p2 : nar .char p2 = p2) (hn_p3 : nar .char p3 = p3) (hn_p4 : nar .char p4 = p4) (hn_p5 : nar .char p5 = p5) :
    MetFree l (⟨"com/example/vaxwire/vaxwire/hl7/Delimiters", "<init>", "(CCCCC)V"⟩ : MethodName) (head1 (Jvm.Cond.code (⟨"com/example/vaxwire/vaxwire/hl7/Delimiters", "<init>", "(CCCCC)V"⟩ : MethodName) prog_121_method_1_code 6 none :: ws) ({ frames := 2, cells := 0, slots := 0, locals := 24 } : Room)) (fun a U => a = #[(.ref a1), (.int p1), (.int p2), (.int p3), (.int p4), (.int p5)] ∧ Z.Warmed39 U.vm ∧ U.heap = h0) (fun _ _ _ _ _ => True) (fun _ U o U' => ∃ v L, o = .returned v ∧ QIni Z a1 p1 p2 p3 p4 p5 h0 n0 v U'.heap L ∧ FrameEnd U o U' L ({ frames := 2, cells := 0, slots := 0, locals := 24 } : Room).cells ({ frames := 2, cells := 0, slots := 0, locals := 24 } : Room).slots) := by
  refine MetFree.of_bodySF (plainFor_of_name pn_2) hisR ?_
  intro p e s m args below meth c s₁ Bd hml0 hP hK
  obtain ⟨rfl, hZ, hh⟩ := hP
  have hx := Bd.exec
  have hby := Bd.bytes
  have hml : c.maxLocals = 6 := hml0
  have hown : s.vm.findClass "com/example/vaxwire/vaxwire/hl7/Delimiters" = some m.cls := findClass_of_methodNamed Bd.named
  have hnm := (name_of_methodNamed Bd.named Bd.method).1
  have X0 : Stand p l e ({ frames := 2, cells := 0, slots := 0, locals := 24 } : Room) s m #[(.ref a1), (.int p1), (.int p2), (.int p3), (.int p4), (.int p5)] below meth c s₁ [] 0 0 := Stand.of_body Bd
  have hs0 : h0 = s.heap := hh.symm
  have e0 : s₁.heap = h0 := by rw [← hh, Bd.state]; rfl
  have N0 := Fr.nil n0
  obtain ⟨f0, hf0⟩ : ∃ f, f = entryFrame m #[(.ref a1), (.int p1), (.int p2), (.int p3), (.int p4), (.int p5)] 6 := ⟨_, rfl⟩
  have pre0 : ∀ t, Steps p.tables e below (s₁.setTop f0) t → Steps p.tables e below (s₁.setTop (entryFrame m #[(.ref a1), (.int p1), (.int p2), (.int p3), (.int p4), (.int p5)] 6)) t := fun t k => hf0 ▸ k
  have K0 : Gx p e below s₁ f0 s₁ (mkF m 0 #[.val (.ref a1), .val (.int p1), .val (.int p2), .val (.int p3), .val (.int p4), .val (.int p5)] []) := fun t kt => by rw [hf0]; exact castTop (ef_Ini m a1 p1 p2 p3 p4 p5) kt
  have K1 : Gx p e below s₁ f0 s₁ (mkF m 1 #[.val (.ref a1), .val (.int p1), .val (.int p2), .val (.int p3), .val (.int p4), .val (.int p5)] [(.ref a1)]) := fun t kt => K0 t (by
    show Steps p.tables e below (s₁.setTop (mkF m 0 #[.val (.ref a1), .val (.int p1), .val (.int p2), .val (.int p3), .val (.int p4), .val (.int p5)] [])) _
    refine XS.aloadN X0.here hx rfl (hb hby d2_0) rfl rfl ?_
    exact kt)
  obtain ⟨_, _, ⟨T2, L2, k2, n2⟩, -, X2', ⟨Lc2, hQ2, l2, y2, z2⟩, st2⟩ := X0.specialBack hx (y := (⟨"java/lang/Record", "<init>", "()V"⟩ : MethodName)) rfl hown (mvT hZ (hw _ (List.mem_of_getElem? (i := 10) rfl))) (mvT hZ (hw _ (List.mem_of_getElem? (i := 11) rfl))) (mvT hZ (hw _ (List.mem_of_getElem? (i := 14) rfl))) (by decide) (backOf (W := 0) (rmRec l Z a0 hw [] a1 h0 n0 (Nat.le_trans Z0 (Keep.refl h0 [a1]).1) ) hZ (hw _ (List.mem_of_getElem? (i := 14) rfl)) (hw _ (List.mem_of_getElem? (i := 13) rfl)) (by decide) (by decide)) (g := (mkF m 1 #[.val (.ref a1), .val (.int p1), .val (.int p2), .val (.int p3), .val (.int p4), .val (.int p5)] [(.ref a1)])) rfl (by rw [hml]; rfl) (Steps.refl _) (a := a1) (argsL := []) (rest := []) (lenOf pd___V rfl) rfl (by show 2 * 0 + _ ≤ _; exact Nat.le_of_eq rfl) (hb hby d2_1) (fun _ _ => ⟨rfl, e0, (by decide : 0 + 0 ≤ _), (by decide : 0 + 0 ≤ _)⟩)
  dsimp only [Pt.U, Pt.locs, Pt.cells, Pt.slots] at X2' l2 y2 z2 st2 hQ2
  subst l2 y2 z2
  obtain ⟨rfl, N2q, e2⟩ := hQ2
  obtain ⟨lc2, X2, N2⟩ : ∃ lc, Stand p l e ({ frames := 2, cells := 0, slots := 0, locals := 24 } : Room) s m #[(.ref a1), (.int p1), (.int p2), (.int p3), (.int p4), (.int p5)] below meth c T2 lc 0 0 ∧ Fr n0 lc := ⟨_, X2', Fr.app N0 N2q⟩
  have K3 : Gx p e below s₁ f0 T2 (mkF m 4 #[.val (.ref a1), .val (.int p1), .val (.int p2), .val (.int p3), .val (.int p4), .val (.int p5)] []) := fun t kt => K1 t (st2.trans kt)
  have K4 : Gx p e below s₁ f0 T2 (mkF m 6 #[.val (.ref a1), .val (.int p1), .val (.int p2), .val (.int p3), .val (.int p4), .val (.int p5)] [(.int p1), (.ref a1)]) := fun t kt => K3 t (by
    show Steps p.tables e below (T2.setTop (mkF m 4 #[.val (.ref a1), .val (.int p1), .val (.int p2), .val (.int p3), .val (.int p4), .val (.int p5)] [])) _
    refine XS.aloadN X2.here hx rfl (hb hby d2_4) rfl rfl ?_
    show Steps p.tables e below (T2.setTop (mkF m 5 #[.val (.ref a1), .val (.int p1), .val (.int p2), .val (.int p3), .val (.int p4), .val (.int p5)] [(.ref a1)])) _
    refine XS.iloadN X2.here hx rfl (hb hby d2_5) rfl ?_
    exact kt)
  obtain ⟨T5, h5, X5', e5, W5, st5⟩ := putFN X2 hx hZ hown (hw _ (List.mem_of_getElem? (i := 18) rfl)) Via.refl e2 pr2 pr0 (Or.inr ⟨(hw _ (List.mem_of_getElem? (i := 19) rfl)), rfl, hnm⟩) (hw _ (List.mem_of_getElem? (i := 5) rfl)) (ty := .char) (v := (.int p1)) (v' := (.int p1)) (by decide) (congrArg Value.int hn_p1) (hn_p1 ▸ fits_nar_char p1) (g := (mkF m 6 #[.val (.ref a1), .val (.int p1), .val (.int p2), .val (.int p3), .val (.int p4), .val (.int p5)] [(.int p1), (.ref a1)])) rfl rfl (hb hby d2_6)
  obtain ⟨lc5, X5, N5⟩ : ∃ lc, Stand p l e ({ frames := 2, cells := 0, slots := 0, locals := 24 } : Room) s m #[(.ref a1), (.int p1), (.int p2), (.int p3), (.int p4), (.int p5)] below meth c T5 lc 0 0 ∧ Fr n0 lc := ⟨_, X5', Fr.snoc X5' N2 pr1⟩
  have f5_ : Fld Z h5 a1 "com/example/vaxwire/vaxwire/hl7/Delimiters" "field" "C" (.int p1) := pr2.same W5
  have K6 : Gx p e below s₁ f0 T5 (mkF m 9 #[.val (.ref a1), .val (.int p1), .val (.int p2), .val (.int p3), .val (.int p4), .val (.int p5)] []) := fun t kt => K4 t (st5 t kt)
  have K7 : Gx p e below s₁ f0 T5 (mkF m 11 #[.val (.ref a1), .val (.int p1), .val (.int p2), .val (.int p3), .val (.int p4), .val (.int p5)] [(.int p2), (.ref a1)]) := fun t kt => K6 t (by
    show Steps p.tables e below (T5.setTop (mkF m 9 #[.val (.ref a1), .val (.int p1), .val (.int p2), .val (.int p3), .val (.int p4), .val (.int p5)] [])) _
    refine XS.aloadN X5.here hx rfl (hb hby d2_9) rfl rfl ?_
    show Steps p.tables e below (T5.setTop (mkF m 10 #[.val (.ref a1), .val (.int p1), .val (.int p2), .val (.int p3), .val (.int p4), .val (.int p5)] [(.ref a1)])) _
    refine XS.iloadN X5.here hx rfl (hb hby d2_10) rfl ?_
    exact kt)
  have f8 : Fld Z h5 a1 "com/example/vaxwire/vaxwire/hl7/Delimiters" "component" "C" (.int (0 : Int32)) := (pr3.other W5 (Or.inr (slot_ne (Or.inr (hw _ (List.mem_of_getElem? (i := 21) rfl))) (Or.inr (hw _ (List.mem_of_getElem? (i := 19) rfl))) (by decide) (t := .char) (t' := .char) (by decide) (by decide))))
  have f9 : Exa Z h5 a1 "com/example/vaxwire/vaxwire/hl7/Delimiters" := (pr0.wr W5)
  obtain ⟨T10, h10, X10', e10, W10, st10⟩ := putFN X5 hx hZ hown (hw _ (List.mem_of_getElem? (i := 20) rfl)) Via.refl e5 f8 f9 (Or.inr ⟨(hw _ (List.mem_of_getElem? (i := 21) rfl)), rfl, hnm⟩) (hw _ (List.mem_of_getElem? (i := 5) rfl)) (ty := .char) (v := (.int p2)) (v' := (.int p2)) (by decide) (congrArg Value.int hn_p2) (hn_p2 ▸ fits_nar_char p2) (g := (mkF m 11 #[.val (.ref a1), .val (.int p1), .val (.int p2), .val (.int p3), .val (.int p4), .val (.int p5)] [(.int p2), (.ref a1)])) rfl rfl (hb hby d2_11)
  obtain ⟨lc10, X10, N10⟩ : ∃ lc, Stand p l e ({ frames := 2, cells := 0, slots := 0, locals := 24 } : Room) s m #[(.ref a1), (.int p1), (.int p2), (.int p3), (.int p4), (.int p5)] below meth c T10 lc 0 0 ∧ Fr n0 lc := ⟨_, X10', Fr.snoc X10' N5 pr1⟩
  have f10_ : Fld Z h10 a1 "com/example/vaxwire/vaxwire/hl7/Delimiters" "component" "C" (.int p2) := f8.same W10
  have K11 : Gx p e below s₁ f0 T10 (mkF m 14 #[.val (.ref a1), .val (.int p1), .val (.int p2), .val (.int p3), .val (.int p4), .val (.int p5)] []) := fun t kt => K7 t (st10 t kt)
  have K12 : Gx p e below s₁ f0 T10 (mkF m 16 #[.val (.ref a1), .val (.int p1), .val (.int p2), .val (.int p3), .val (.int p4), .val (.int p5)] [(.int p3), (.ref a1)]) := fun t kt => K11 t (by
    show Steps p.tables e below (T10.setTop (mkF m 14 #[.val (.ref a1), .val (.int p1), .val (.int p2), .val (.int p3), .val (.int p4), .val (.int p5)] [])) _
    refine XS.aloadN X10.here hx rfl (hb hby d2_14) rfl rfl ?_
    show Steps p.tables e below (T10.setTop (mkF m 15 #[.val (.ref a1), .val (.int p1), .val (.int p2), .val (.int p3), .val (.int p4), .val (.int p5)] [(.ref a1)])) _
    refine XS.iloadN X10.here hx rfl (hb hby d2_15) rfl ?_
    exact kt)
  have f13 : Fld Z h10 a1 "com/example/vaxwire/vaxwire/hl7/Delimiters" "repetition" "C" (.int (0 : Int32)) := ((pr4.other W5 (Or.inr (slot_ne (Or.inr (hw _ (List.mem_of_getElem? (i := 23) rfl))) (Or.inr (hw _ (List.mem_of_getElem? (i := 19) rfl))) (by decide) (t := .char) (t' := .char) (by decide) (by decide)))).other W10 (Or.inr (slot_ne (Or.inr (hw _ (List.mem_of_getElem? (i := 23) rfl))) (Or.inr (hw _ (List.mem_of_getElem? (i := 21) rfl))) (by decide) (t := .char) (t' := .char) (by decide) (by decide))))
  have f14 : Exa Z h10 a1 "com/example/vaxwire/vaxwire/hl7/Delimiters" := (f9.wr W10)
  obtain ⟨T15, h15, X15', e15, W15, st15⟩ := putFN X10 hx hZ hown (hw _ (List.mem_of_getElem? (i := 22) rfl)) Via.refl e10 f13 f14 (Or.inr ⟨(hw _ (List.mem_of_getElem? (i := 23) rfl)), rfl, hnm⟩) (hw _ (List.mem_of_getElem? (i := 5) rfl)) (ty := .char) (v := (.int p3)) (v' := (.int p3)) (by decide) (congrArg Value.int hn_p3) (hn_p3 ▸ fits_nar_char p3) (g := (mkF m 16 #[.val (.ref a1), .val (.int p1), .val (.int p2), .val (.int p3), .val (.int p4), .val (.int p5)] [(.int p3), (.ref a1)])) rfl rfl (hb hby d2_16)
  obtain ⟨lc15, X15, N15⟩ : ∃ lc, Stand p l e ({ frames := 2, cells := 0, slots := 0, locals := 24 } : Room) s m #[(.ref a1), (.int p1), (.int p2), (.int p3), (.int p4), (.int p5)] below meth c T15 lc 0 0 ∧ Fr n0 lc := ⟨_, X15', Fr.snoc X15' N10 pr1⟩
  have f15_ : Fld Z h15 a1 "com/example/vaxwire/vaxwire/hl7/Delimiters" "repetition" "C" (.int p3) := f13.same W15
  have K16 : Gx p e below s₁ f0 T15 (mkF m 19 #[.val (.ref a1), .val (.int p1), .val (.int p2), .val (.int p3), .val (.int p4), .val (.int p5)] []) := fun t kt => K12 t (st15 t kt)
  have K17 : Gx p e below s₁ f0 T15 (mkF m 22 #[.val (.ref a1), .val (.int p1), .val (.int p2), .val (.int p3), .val (.int p4), .val (.int p5)] [(.int p4), (.ref a1)]) := fun t kt => K16 t (by
    show Steps p.tables e below (T15.setTop (mkF m 19 #[.val (.ref a1), .val (.int p1), .val (.int p2), .val (.int p3), .val (.int p4), .val (.int p5)] [])) _
    refine XS.aloadN X15.here hx rfl (hb hby d2_19) rfl rfl ?_
    show Steps p.tables e below (T15.setTop (mkF m 20 #[.val (.ref a1), .val (.int p1), .val (.int p2), .val (.int p3), .val (.int p4), .val (.int p5)] [(.ref a1)])) _
    refine XS.iload X15.here hx rfl (hb hby d2_20) rfl ?_
    exact kt)
  have f18 : Fld Z h15 a1 "com/example/vaxwire/vaxwire/hl7/Delimiters" "escape" "C" (.int (0 : Int32)) := (((pr5.other W5 (Or.inr (slot_ne (Or.inr (hw _ (List.mem_of_getElem? (i := 25) rfl))) (Or.inr (hw _ (List.mem_of_getElem? (i := 19) rfl))) (by decide) (t := .char) (t' := .char) (by decide) (by decide)))).other W10 (Or.inr (slot_ne (Or.inr (hw _ (List.mem_of_getElem? (i := 25) rfl))) (Or.inr (hw _ (List.mem_of_getElem? (i := 21) rfl))) (by decide) (t := .char) (t' := .char) (by decide) (by decide)))).other W15 (Or.inr (slot_ne (Or.inr (hw _ (List.mem_of_getElem? (i := 25) rfl))) (Or.inr (hw _ (List.mem_of_getElem? (i := 23) rfl))) (by decide) (t := .char) (t' := .char) (by decide) (by decide))))
  have f19 : Exa Z h15 a1 "com/example/vaxwire/vaxwire/hl7/Delimiters" := (f14.wr W15)
  obtain ⟨T20, h20, X20', e20, W20, st20⟩ := putFN X15 hx hZ hown (hw _ (List.mem_of_getElem? (i := 24) rfl)) Via.refl e15 f18 f19 (Or.inr ⟨(hw _ (List.mem_of_getElem? (i := 25) rfl)), rfl, hnm⟩) (hw _ (List.mem_of_getElem? (i := 5) rfl)) (ty := .char) (v := (.int p4)) (v' := (.int p4)) (by decide) (congrArg Value.int hn_p4) (hn_p4 ▸ fits_nar_char p4) (g := (mkF m 22 #[.val (.ref a1), .val (.int p1), .val (.int p2), .val (.int p3), .val (.int p4), .val (.int p5)] [(.int p4), (.ref a1)])) rfl rfl (hb hby d2_22)
  obtain ⟨lc20, X20, N20⟩ : ∃ lc, Stand p l e ({ frames := 2, cells := 0, slots := 0, locals := 24 } : Room) s m #[(.ref a1), (.int p1), (.int p2), (.int p3), (.int p4), (.int p5)] below meth c T20 lc 0 0 ∧ Fr n0 lc := ⟨_, X20', Fr.snoc X20' N15 pr1⟩
  have f20_ : Fld Z h20 a1 "com/example/vaxwire/vaxwire/hl7/Delimiters" "escape" "C" (.int p4) := f18.same W20
  have K21 : Gx p e below s₁ f0 T20 (mkF m 25 #[.val (.ref a1), .val (.int p1), .val (.int p2), .val (.int p3), .val (.int p4), .val (.int p5)] []) := fun t kt => K17 t (st20 t kt)
  have K22 : Gx p e below s₁ f0 T20 (mkF m 28 #[.val (.ref a1), .val (.int p1), .val (.int p2), .val (.int p3), .val (.int p4), .val (.int p5)] [(.int p5), (.ref a1)]) := fun t kt => K21 t (by
    show Steps p.tables e below (T20.setTop (mkF m 25 #[.val (.ref a1), .val (.int p1), .val (.int p2), .val (.int p3), .val (.int p4), .val (.int p5)] [])) _
    refine XS.aloadN X20.here hx rfl (hb hby d2_25) rfl rfl ?_
    show Steps p.tables e below (T20.setTop (mkF m 26 #[.val (.ref a1), .val (.int p1), .val (.int p2), .val (.int p3), .val (.int p4), .val (.int p5)] [(.ref a1)])) _
    refine XS.iload X20.here hx rfl (hb hby d2_26) rfl ?_
    exact kt)
  have f23 : Fld Z h20 a1 "com/example/vaxwire/vaxwire/hl7/Delimiters" "subcomponent" "C" (.int (0 : Int32)) := ((((pr6.other W5 (Or.inr (slot_ne (Or.inr (hw _ (List.mem_of_getElem? (i := 27) rfl))) (Or.inr (hw _ (List.mem_of_getElem? (i := 19) rfl))) (by decide) (t := .char) (t' := .char) (by decide) (by decide)))).other W10 (Or.inr (slot_ne (Or.inr (hw _ (List.mem_of_getElem? (i := 27) rfl))) (Or.inr (hw _ (List.mem_of_getElem? (i := 21) rfl))) (by decide) (t := .char) (t' := .char) (by decide) (by decide)))).other W15 (Or.inr (slot_ne (Or.inr (hw _ (List.mem_of_getElem? (i := 27) rfl))) (Or.inr (hw _ (List.mem_of_getElem? (i := 23) rfl))) (by decide) (t := .char) (t' := .char) (by decide) (by decide)))).other W20 (Or.inr (slot_ne (Or.inr (hw _ (List.mem_of_getElem? (i := 27) rfl))) (Or.inr (hw _ (List.mem_of_getElem? (i := 25) rfl))) (by decide) (t := .char) (t' := .char) (by decide) (by decide))))
  have f24 : Exa Z h20 a1 "com/example/vaxwire/vaxwire/hl7/Delimiters" := (f19.wr W20)
  obtain ⟨T25, h25, X25', e25, W25, st25⟩ := putFN X20 hx hZ hown (hw _ (List.mem_of_getElem? (i := 26) rfl)) Via.refl e20 f23 f24 (Or.inr ⟨(hw _ (List.mem_of_getElem? (i := 27) rfl)), rfl, hnm⟩) (hw _ (List.mem_of_getElem? (i := 5) rfl)) (ty := .char) (v := (.int p5)) (v' := (.int p5)) (by decide) (congrArg Value.int hn_p5) (hn_p5 ▸ fits_nar_char p5) (g := (mkF m 28 #[.val (.ref a1), .val (.int p1), .val (.int p2), .val (.int p3), .val (.int p4), .val (.int p5)] [(.int p5), (.ref a1)])) rfl rfl (hb hby d2_28)
  obtain ⟨lc25, X25, N25⟩ : ∃ lc, Stand p l e ({ frames := 2, cells := 0, slots := 0, locals := 24 } : Room) s m #[(.ref a1), (.int p1), (.int p2), (.int p3), (.int p4), (.int p5)] below meth c T25 lc 0 0 ∧ Fr n0 lc := ⟨_, X25', Fr.snoc X25' N20 pr1⟩
  have f25_ : Fld Z h25 a1 "com/example/vaxwire/vaxwire/hl7/Delimiters" "subcomponent" "C" (.int p5) := f23.same W25
  have K26 : Gx p e below s₁ f0 T25 (mkF m 31 #[.val (.ref a1), .val (.int p1), .val (.int p2), .val (.int p3), .val (.int p4), .val (.int p5)] []) := fun t kt => K22 t (st25 t kt)
  have kp28 : Keep h0 h25 [a1] := ((((((Keep.refl h0 [a1]).wr W5 (Or.inl (List.mem_of_getElem? (i := 0) rfl))).wr W10 (Or.inl (List.mem_of_getElem? (i := 0) rfl))).wr W15 (Or.inl (List.mem_of_getElem? (i := 0) rfl))).wr W20 (Or.inl (List.mem_of_getElem? (i := 0) rfl))).wr W25 (Or.inl (List.mem_of_getElem? (i := 0) rfl)))
  have f29 : Exa Z h25 a1 "com/example/vaxwire/vaxwire/hl7/Delimiters" := (f24.wr W25)
  have f30 : Fld Z h25 a1 "com/example/vaxwire/vaxwire/hl7/Delimiters" "field" "C" (.int p1) := ((((f5_.other W10 (Or.inr (slot_ne (Or.inr (hw _ (List.mem_of_getElem? (i := 19) rfl))) (Or.inr (hw _ (List.mem_of_getElem? (i := 21) rfl))) (by decide) (t := .char) (t' := .char) (by decide) (by decide)))).other W15 (Or.inr (slot_ne (Or.inr (hw _ (List.mem_of_getElem? (i := 19) rfl))) (Or.inr (hw _ (List.mem_of_getElem? (i := 23) rfl))) (by decide) (t := .char) (t' := .char) (by decide) (by decide)))).other W20 (Or.inr (slot_ne (Or.inr (hw _ (List.mem_of_getElem? (i := 19) rfl))) (Or.inr (hw _ (List.mem_of_getElem? (i := 25) rfl))) (by decide) (t := .char) (t' := .char) (by decide) (by decide)))).other W25 (Or.inr (slot_ne (Or.inr (hw _ (List.mem_of_getElem? (i := 19) rfl))) (Or.inr (hw _ (List.mem_of_getElem? (i := 27) rfl))) (by decide) (t := .char) (t' := .char) (by decide) (by decide))))
  have f31 : Fld Z h25 a1 "com/example/vaxwire/vaxwire/hl7/Delimiters" "component" "C" (.int p2) := (((f10_.other W15 (Or.inr (slot_ne (Or.inr (hw _ (List.mem_of_getElem? (i := 21) rfl))) (Or.inr (hw _ (List.mem_of_getElem? (i := 23) rfl))) (by decide) (t := .char) (t' := .char) (by decide) (by decide)))).other W20 (Or.inr (slot_ne (Or.inr (hw _ (List.mem_of_getElem? (i := 21) rfl))) (Or.inr (hw _ (List.mem_of_getElem? (i := 25) rfl))) (by decide) (t := .char) (t' := .char) (by decide) (by decide)))).other W25 (Or.inr (slot_ne (Or.inr (hw _ (List.mem_of_getElem? (i := 21) rfl))) (Or.inr (hw _ (List.mem_of_getElem? (i := 27) rfl))) (by decide) (t := .char) (t' := .char) (by decide) (by decide))))
  have f32 : Fld Z h25 a1 "com/example/vaxwire/vaxwire/hl7/Delimiters" "repetition" "C" (.int p3) := ((f15_.other W20 (Or.inr (slot_ne (Or.inr (hw _ (List.mem_of_getElem? (i := 23) rfl))) (Or.inr (hw _ (List.mem_of_getElem? (i := 25) rfl))) (by decide) (t := .char) (t' := .char) (by decide) (by decide)))).other W25 (Or.inr (slot_ne (Or.inr (hw _ (List.mem_of_getElem? (i := 23) rfl))) (Or.inr (hw _ (List.mem_of_getElem? (i := 27) rfl))) (by decide) (t := .char) (t' := .char) (by decide) (by decide))))
  have f33 : Fld Z h25 a1 "com/example/vaxwire/vaxwire/hl7/Delimiters" "escape" "C" (.int p4) := (f20_.other W25 (Or.inr (slot_ne (Or.inr (hw _ (List.mem_of_getElem? (i := 25) rfl))) (Or.inr (hw _ (List.mem_of_getElem? (i := 27) rfl))) (by decide) (t := .char) (t' := .char) (by decide) (by decide))))
  obtain ⟨fs27, hr27, hrun27, hended27, hW27, hsame27⟩ := X25.leave (v := none) (fun _ => rfl)
  refine ⟨_, _, pre0 _ (K26 _ ?_), hrun27, hended27, _, _, rfl, ?_, ⟨_, rfl⟩, hW27, hsame27.mono (by decide) (by decide)⟩
  · exact X25.returnOut hx Bd.returns (hb hby d2_31) hr27
  · show QIni Z a1 p1 p2 p3 p4 p5 h0 n0 _ T25.heap _
    rw [e25]
    exact ⟨rfl, N25, kp28, f29, f30, f31, f32, f33, f25_⟩
theorem d7_0 : decode jdk_33_method_23_code 0 = .ok (.aload_n 0, 1) := by decide +kernel
theorem d7_1 : decode jdk_33_method_23_code 1 = .ok (.invokespecial 202, 3) := by decide +kernel
theorem d7_4 : decode jdk_33_method_23_code 4 = .ok (.aload_n 0, 1) := by decide +kernel
theorem d7_5 : decode jdk_33_method_23_code 5 = .ok (.iload_n 1, 1) := by decide +kernel
theorem d7_6 : decode jdk_33_method_23_code 6 = .ok (.putfield 205, 3) := by decide +kernel
theorem d7_9 : decode jdk_33_method_23_code 9 = .ok (.return_, 1) := by decide +kernel
theorem pn_7 : plainName "java/lang/Integer" = true := by first | (simp [plainName, overriddenIn]; done) | decide +kernel
theorem ef_IInt (m : MethodId) (a1 : Addr) (p1 : Int32) : entryFrame m #[(.ref a1), (.int p1)] 2 = mkF m 0 #[.val (.ref a1), .val (.int p1)] [] := by first | (simp [entryFrame, mkF, argsToLocals, Value.category]; done) | rfl
def QIInt (Z : State) (a1 : Addr) (p1 : Int32) (h0 : Heap) (n0 : Nat) (v : Option Value) (h : Heap) (L : List Loc) : Prop := v = none ∧ Fr n0 L ∧ Keep h0 h [a1] ∧ Exa Z h a1 "java/lang/Integer"
set_option maxRecDepth 65536 in
set_option maxHeartbeats 40000000 in
theorem rmIInt (l : Launch) (Z : State) (a0 : Array Value) (hw : ∀ d ∈ tables_1, d.before a0 Z = true) (ws : List Jvm.Cond) (a1 : Addr) (p1 : Int32) (h0 : Heap) (n0 : Nat) (Z0 : n0 ≤ h0.size) (pr0 : Exa Z h0 a1 "java/lang/Integer") (pr1 : n0 ≤ a1) (pr2 : Fld Z h0 a1 "java/lang/Integer" "value" "I" (.int (0 : Int32))) :
    MetFree l (⟨"java/lang/Integer", "<init>", "(I)V"⟩ : MethodName) (head1 (Jvm.Cond.code (⟨"java/lang/Integer", "<init>", "(I)V"⟩ : MethodName) jdk_33_method_23_code 2 none :: ws) ({ frames := 2, cells := 0, slots := 0, locals := 24 } : Room)) (fun a U => a = #[(.ref a1), (.int p1)] ∧ Z.Warmed39 U.vm ∧ U.heap = h0) (fun _ _ _ _ _ => True) (fun _ U o U' => ∃ v L, o = .returned v ∧ QIInt Z a1 p1 h0 n0 v U'.heap L ∧ FrameEnd U o U' L ({ frames := 2, cells := 0, slots := 0, locals := 24 } : Room).cells ({ frames := 2, cells := 0, slots := 0, locals := 24 } : Room).slots) := by
  refine MetFree.of_bodySF (plainFor_of_name pn_7) hisR ?_
  intro p e s m args below meth c s₁ Bd hml0 hP hK
  obtain ⟨rfl, hZ, hh⟩ := hP
  have hx := Bd.exec
  have hby := Bd.bytes
  have hml : c.maxLocals = 2 := hml0
  have hown : s.vm.findClass "java/lang/Integer" = some m.cls := findClass_of_methodNamed Bd.named
  have hnm := (name_of_methodNamed Bd.named Bd.method).1
  have X0 : Stand p l e ({ frames := 2, cells := 0, slots := 0, locals := 24 } : Room) s m #[(.ref a1), (.int p1)] below meth c s₁ [] 0 0 := Stand.of_body Bd
  have hs0 : h0 = s.heap := hh.symm
  have e0 : s₁.heap = h0 := by rw [← hh, Bd.state]; rfl
  have N0 := Fr.nil n0
  obtain ⟨f0, hf0⟩ : ∃ f, f = entryFrame m #[(.ref a1), (.int p1)] 2 := ⟨_, rfl⟩
  have pre0 : ∀ t, Steps p.tables e below (s₁.setTop f0) t → Steps p.tables e below (s₁.setTop (entryFrame m #[(.ref a1), (.int p1)] 2)) t := fun t k => hf0 ▸ k
  have K0 : Gx p e below s₁ f0 s₁ (mkF m 0 #[.val (.ref a1), .val (.int p1)] []) := fun t kt => by rw [hf0]; exact castTop (ef_IInt m a1 p1) kt
  have K1 : Gx p e below s₁ f0 s₁ (mkF m 1 #[.val (.ref a1), .val (.int p1)] [(.ref a1)]) := fun t kt => K0 t (by
    show Steps p.tables e below (s₁.setTop (mkF m 0 #[.val (.ref a1), .val (.int p1)] [])) _
    refine XS.aloadN X0.here hx rfl (hb hby d7_0) rfl rfl ?_
    exact kt)
  obtain ⟨_, _, ⟨T2, L2, k2, n2⟩, -, X2', ⟨Lc2, hQ2, l2, y2, z2⟩, st2⟩ := X0.specialBack hx (y := (⟨"java/lang/Number", "<init>", "()V"⟩ : MethodName)) rfl hown (mvT hZ (hw _ (List.mem_of_getElem? (i := 51) rfl))) (mvT hZ (hw _ (List.mem_of_getElem? (i := 52) rfl))) (mvT hZ (hw _ (List.mem_of_getElem? (i := 56) rfl))) (by decide) (backOf (W := 0) (rmNum l Z a0 hw [] a1 h0 n0 (Nat.le_trans Z0 (Keep.refl h0 [a1]).1) ) hZ (hw _ (List.mem_of_getElem? (i := 56) rfl)) (hw _ (List.mem_of_getElem? (i := 55) rfl)) (by decide) (by decide)) (g := (mkF m 1 #[.val (.ref a1), .val (.int p1)] [(.ref a1)])) rfl (by rw [hml]; rfl) (Steps.refl _) (a := a1) (argsL := []) (rest := []) (lenOf pd___V rfl) rfl (by show 2 * 0 + _ ≤ _; exact Nat.le_of_eq rfl) (hb hby d7_1) (fun _ _ => ⟨rfl, e0, (by decide : 0 + 0 ≤ _), (by decide : 0 + 0 ≤ _)⟩)
  dsimp only [Pt.U, Pt.locs, Pt.cells, Pt.slots] at X2' l2 y2 z2 st2 hQ2
  subst l2 y2 z2
  obtain ⟨rfl, N2q, e2⟩ := hQ2
  obtain ⟨lc2, X2, N2⟩ : ∃ lc, Stand p l e ({ frames := 2, cells := 0, slots := 0, locals := 24 } : Room) s m #[(.ref a1), (.int p1)] below meth c T2 lc 0 0 ∧ Fr n0 lc := ⟨_, X2', Fr.app N0 N2q⟩
  have K3 : Gx p e below s₁ f0 T2 (mkF m 4 #[.val (.ref a1), .val (.int p1)] []) := fun t kt => K1 t (st2.trans kt)
  have K4 : Gx p e below s₁ f0 T2 (mkF m 6 #[.val (.ref a1), .val (.int p1)] [(.int p1), (.ref a1)]) := fun t kt => K3 t (by
    show Steps p.tables e below (T2.setTop (mkF m 4 #[.val (.ref a1), .val (.int p1)] [])) _
    refine XS.aloadN X2.here hx rfl (hb hby d7_4) rfl rfl ?_
    show Steps p.tables e below (T2.setTop (mkF m 5 #[.val (.ref a1), .val (.int p1)] [(.ref a1)])) _
    refine XS.iloadN X2.here hx rfl (hb hby d7_5) rfl ?_
    exact kt)
  obtain ⟨T5, h5, X5', e5, W5, st5⟩ := putF X2 hx hZ hown (host := "") (Or.inl (hw _ (List.mem_of_getElem? (i := 58) rfl))) Via.refl e2 pr2 pr0 (Or.inr ⟨(hw _ (List.mem_of_getElem? (i := 59) rfl)), rfl, hnm⟩) (hw _ (List.mem_of_getElem? (i := 46) rfl)) (ty := .int) (by decide) rfl rfl (g := (mkF m 6 #[.val (.ref a1), .val (.int p1)] [(.int p1), (.ref a1)])) rfl rfl (hb hby d7_6)
  obtain ⟨lc5, X5, N5⟩ : ∃ lc, Stand p l e ({ frames := 2, cells := 0, slots := 0, locals := 24 } : Room) s m #[(.ref a1), (.int p1)] below meth c T5 lc 0 0 ∧ Fr n0 lc := ⟨_, X5', Fr.snoc X5' N2 pr1⟩
  have f5_ : Fld Z h5 a1 "java/lang/Integer" "value" "I" (.int p1) := pr2.same W5
  have K6 : Gx p e below s₁ f0 T5 (mkF m 9 #[.val (.ref a1), .val (.int p1)] []) := fun t kt => K4 t (st5 t kt)
  have kp8 : Keep h0 h5 [a1] := ((Keep.refl h0 [a1]).wr W5 (Or.inl (List.mem_of_getElem? (i := 0) rfl)))
  have f9 : Exa Z h5 a1 "java/lang/Integer" := (pr0.wr W5)
  obtain ⟨fs7, hr7, hrun7, hended7, hW7, hsame7⟩ := X5.leave (v := none) (fun _ => rfl)
  refine ⟨_, _, pre0 _ (K6 _ ?_), hrun7, hended7, _, _, rfl, ?_, ⟨_, rfl⟩, hW7, hsame7.mono (by decide) (by decide)⟩
  · exact X5.returnOut hx Bd.returns (hb hby d7_9) hr7
  · show QIInt Z a1 p1 h0 n0 _ T5.heap _
    rw [e5]
    exact ⟨rfl, N5, kp8, f9⟩
theorem d5_0 : decode jdk_33_method_22_code 0 = .ok (.iload_n 0, 1) := by decide +kernel
theorem d5_1 : decode jdk_33_method_22_code 1 = .ok (.bipush (-128), 2) := by decide +kernel
theorem d5_3 : decode jdk_33_method_22_code 3 = .ok (.if_icmp .lt 20, 3) := by decide +kernel
theorem d5_6 : decode jdk_33_method_22_code 6 = .ok (.iload_n 0, 1) := by decide +kernel
theorem d5_7 : decode jdk_33_method_22_code 7 = .ok (.getstatic 191, 3) := by decide +kernel
theorem d5_10 : decode jdk_33_method_22_code 10 = .ok (.if_icmp .gt 13, 3) := by decide +kernel
theorem d5_13 : decode jdk_33_method_22_code 13 = .ok (.getstatic 195, 3) := by decide +kernel
theorem d5_16 : decode jdk_33_method_22_code 16 = .ok (.iload_n 0, 1) := by decide +kernel
theorem d5_17 : decode jdk_33_method_22_code 17 = .ok (.sipush 128, 3) := by decide +kernel
theorem d5_20 : decode jdk_33_method_22_code 20 = .ok (.iadd, 1) := by decide +kernel
theorem d5_21 : decode jdk_33_method_22_code 21 = .ok (.aaload, 1) := by decide +kernel
theorem d5_22 : decode jdk_33_method_22_code 22 = .ok (.areturn, 1) := by decide +kernel
theorem d5_23 : decode jdk_33_method_22_code 23 = .ok (.new 1, 3) := by decide +kernel
theorem d5_26 : decode jdk_33_method_22_code 26 = .ok (.dup, 1) := by decide +kernel
theorem d5_27 : decode jdk_33_method_22_code 27 = .ok (.iload_n 0, 1) := by decide +kernel
theorem d5_28 : decode jdk_33_method_22_code 28 = .ok (.invokespecial 199, 3) := by decide +kernel
theorem d5_31 : decode jdk_33_method_22_code 31 = .ok (.areturn, 1) := by decide +kernel
theorem pn_5 : plainName "java/lang/Integer" = true := by first | (simp [plainName, overriddenIn]; done) | decide +kernel
theorem pd__I_V : parseMethodDescriptor "(I)V" = some ⟨[.int], none⟩ := by decide +kernel
theorem ef_Val (m : MethodId) (p1 : Int32) : entryFrame m #[(.int p1)] 1 = mkF m 0 #[.val (.int p1)] [] := by first | (simp [entryFrame, mkF, argsToLocals, Value.category]; done) | rfl
def QVal (Z : State) (p1 : Int32) (ca : Addr) (kc : ClassId) (vc : List Value) (h0 : Heap) (n0 : Nat) (v : Option Value) (h : Heap) (L : List Loc) : Prop := ∃ bx : Addr, v = some (.ref bx) ∧ Fr n0 L ∧ Keep h0 h [] ∧ Exa Z h bx "java/lang/Integer"
set_option maxRecDepth 65536 in
set_option maxHeartbeats 40000000 in
theorem rmVal (l : Launch) (Z : State) (a0 : Array Value) (hw : ∀ d ∈ tables_1, d.before a0 Z = true) (ws : List Jvm.Cond) (p1 : Int32) (ca : Addr) (kc : ClassId) (vc : List Value) (h0 : Heap) (n0 : Nat) (Z0 : n0 ≤ h0.size) (pr0 : Sta Z Z.heap "java/lang/Integer$IntegerCache" "high" "I" (.int (127 : Int32))) (pr1 : Sta Z Z.heap "java/lang/Integer$IntegerCache" "cache" "[Ljava/lang/Integer;" (.ref ca)) (pr2 : Arv Z Z.heap ca kc (.object "java/lang/Integer") (256 : Int32) vc .null) (pr3 : Old Z n0 h0) (hc : ∀ w : Int32, ¬ (w < (-128 : Int32)) → ¬ ((127 : Int32) < w) → ∃ y, vc.getD (w + (128 : Int32)).toNatClampNeg .null = .ref y ∧ Exa Z Z.heap y "java/lang/Integer") :
    MetFree l (⟨"java/lang/Integer", "valueOf", "(I)Ljava/lang/Integer;"⟩ : MethodName) (head1 (Jvm.Cond.code (⟨"java/lang/Integer", "valueOf", "(I)Ljava/lang/Integer;"⟩ : MethodName) jdk_33_method_22_code 1 (some (.object "java/lang/Integer")) :: ws) ({ frames := 3, cells := 1, slots := 1, locals := 38 } : Room)) (fun a U => a = #[(.int p1)] ∧ Z.Warmed39 U.vm ∧ U.heap = h0) (fun _ _ _ _ _ => True) (fun _ U o U' => ∃ v L, o = .returned v ∧ QVal Z p1 ca kc vc h0 n0 v U'.heap L ∧ FrameEnd U o U' L ({ frames := 3, cells := 1, slots := 1, locals := 38 } : Room).cells ({ frames := 3, cells := 1, slots := 1, locals := 38 } : Room).slots) := by
  refine MetFree.of_bodySF (plainFor_of_name pn_5) hisR ?_
  intro p e s m args below meth c s₁ Bd hml0 hP hK
  obtain ⟨rfl, hZ, hh⟩ := hP
  have hx := Bd.exec
  have hby := Bd.bytes
  have hml : c.maxLocals = 1 := hml0
  have hown : s.vm.findClass "java/lang/Integer" = some m.cls := findClass_of_methodNamed Bd.named
  have hnm := (name_of_methodNamed Bd.named Bd.method).1
  have X0 : Stand p l e ({ frames := 3, cells := 1, slots := 1, locals := 38 } : Room) s m #[(.int p1)] below meth c s₁ [] 0 0 := Stand.of_body Bd
  have hs0 : h0 = s.heap := hh.symm
  have e0 : s₁.heap = h0 := by rw [← hh, Bd.state]; rfl
  have N0 := Fr.nil n0
  obtain ⟨f0, hf0⟩ : ∃ f, f = entryFrame m #[(.int p1)] 1 := ⟨_, rfl⟩
  have pre0 : ∀ t, Steps p.tables e below (s₁.setTop f0) t → Steps p.tables e below (s₁.setTop (entryFrame m #[(.int p1)] 1)) t := fun t k => hf0 ▸ k
  have K0 : Gx p e below s₁ f0 s₁ (mkF m 0 #[.val (.int p1)] []) := fun t kt => by rw [hf0]; exact castTop (ef_Val m p1) kt
  have K1 : Gx p e below s₁ f0 s₁ (mkF m 3 #[.val (.int p1)] [(.int (-128 : Int32)), (.int p1)]) := fun t kt => K0 t (by
    show Steps p.tables e below (s₁.setTop (mkF m 0 #[.val (.int p1)] [])) _
    refine XS.iloadN X0.here hx rfl (hb hby d5_0) rfl ?_
    show Steps p.tables e below (s₁.setTop (mkF m 1 #[.val (.int p1)] [(.int p1)])) _
    refine XS.bipush X0.here hx rfl (hb hby d5_1) ?_
    exact kt)
  by_cases hb2 : p1 < (-128 : Int32)
  · skip
    have K3 : Gx p e below s₁ f0 s₁ (mkF m 23 #[.val (.int p1)] []) := fun t kt => K1 t (by
      show Steps p.tables e below (s₁.setTop (mkF m 3 #[.val (.int p1)] [(.int (-128 : Int32)), (.int p1)])) _
      refine XS.icmpYes X0.here hx rfl (pc0 := 3) (pc' := 23) rfl (hb hby d5_3) rfl (tlt hb2).1 (by decide) (by decide) ?_
      exact kt)
    obtain ⟨T4, h4, X4, e4, E4, A4, D4, -, st4⟩ := newO X0 hx hZ hown (hw _ (List.mem_of_getElem? (i := 45) rfl)) (hw _ (List.mem_of_getElem? (i := 46) rfl)) (hw _ (List.mem_of_getElem? (i := 30) rfl)) e0 (g := (mkF m 23 #[.val (.int p1)] [])) rfl (hb hby d5_23) (by decide) (by decide)
    obtain ⟨b4, g4⟩ : ∃ z, z = h0.size := ⟨_, rfl⟩
    rw [← g4] at A4 D4 st4
    have f5 : Fld Z h4 b4 "java/lang/Integer" "value" "I" (.int (0 : Int32)) := D4 (Or.inr (hw _ (List.mem_of_getElem? (i := 59) rfl))) (ty := .int) (by decide)
    have K6 : Gx p e below s₁ f0 T4 (mkF m 26 #[.val (.int p1)] [(.ref b4)]) := fun t kt => K3 t (st4 t kt)
    have K7 : Gx p e below s₁ f0 T4 (mkF m 28 #[.val (.int p1)] [(.int p1), (.ref b4), (.ref b4)]) := fun t kt => K6 t (by
      show Steps p.tables e below (T4.setTop (mkF m 26 #[.val (.int p1)] [(.ref b4)])) _
      refine XS.dup X4.here hx rfl (hb hby d5_26) rfl rfl ?_
      show Steps p.tables e below (T4.setTop (mkF m 27 #[.val (.int p1)] [(.ref b4), (.ref b4)])) _
      refine XS.iloadN X4.here hx rfl (hb hby d5_27) rfl ?_
      exact kt)
    have kp8 : Keep h0 h4 [] := ((Keep.refl h0 []).ext E4)
    obtain ⟨_, _, ⟨T9, L9, k9, n9⟩, -, X9', ⟨Lc9, hQ9, l9, y9, z9⟩, st9⟩ := X4.specialBack hx (y := (⟨"java/lang/Integer", "<init>", "(I)V"⟩ : MethodName)) rfl hown (mvT hZ (hw _ (List.mem_of_getElem? (i := 47) rfl))) (mvT hZ (hw _ (List.mem_of_getElem? (i := 48) rfl))) (mvT hZ (hw _ (List.mem_of_getElem? (i := 50) rfl))) (by decide) (backOf (W := 1) (rmIInt l Z a0 hw [] b4 p1 h4 n0 (Nat.le_trans Z0 kp8.1) A4 (Nat.le_trans Z0 (Nat.le_trans (Keep.refl h0 []).1 (Nat.le_of_eq g4.symm))) f5) hZ (hw _ (List.mem_of_getElem? (i := 50) rfl)) (hw _ (List.mem_of_getElem? (i := 30) rfl)) (by decide) (by decide)) (g := (mkF m 28 #[.val (.int p1)] [(.int p1), (.ref b4), (.ref b4)])) rfl (by rw [hml]; rfl) (Steps.refl _) (a := b4) (argsL := [(.int p1)]) (rest := [(.ref b4)]) (lenOf pd__I_V rfl) rfl (by show 2 * 0 + _ ≤ _; exact Nat.le_of_eq rfl) (hb hby d5_28) (fun _ _ => ⟨rfl, e4, (by decide : 1 + 0 ≤ _), (by decide : 1 + 0 ≤ _)⟩)
    dsimp only [Pt.U, Pt.locs, Pt.cells, Pt.slots] at X9' l9 y9 z9 st9 hQ9
    subst l9 y9 z9
    obtain ⟨h9, e9⟩ : ∃ z, T9.heap = z := ⟨_, rfl⟩
    rw [e9] at hQ9
    obtain ⟨rfl, N9q, Kc9, f10⟩ := hQ9
    obtain ⟨lc9, X9, N9⟩ : ∃ lc, Stand p l e ({ frames := 3, cells := 1, slots := 1, locals := 38 } : Room) s m #[(.int p1)] below meth c T9 lc 1 1 ∧ Fr n0 lc := ⟨_, X9', Fr.app N0 N9q⟩
    have K11 : Gx p e below s₁ f0 T9 (mkF m 31 #[.val (.int p1)] [(.ref b4)]) := fun t kt => K7 t (st9.trans kt)
    have kp13 : Keep h0 h9 [] := (Keep.trans kp8 Kc9 (allS (Or.inr (Nat.le_trans (Keep.refl h0 []).1 (Nat.le_of_eq g4.symm))) all0))
    obtain ⟨fs12, hr12, hrun12, hended12, hW12, hsame12⟩ := X9.leave (v := some (.ref b4)) (fun h => by rw [Bd.returns] at h; cases h)
    refine ⟨_, _, pre0 _ (K11 _ ?_), hrun12, hended12, _, _, rfl, ?_, ⟨_, rfl⟩, hW12, hsame12.mono (by decide) (by decide)⟩
    · show Steps p.tables e below (T9.setTop (mkF m 31 #[.val (.int p1)] [(.ref b4)])) _
      jvm_step X9.here [X9.here.top, hx, (hb hby d5_31), X9.method', Bd.returns, Value.isRef, FieldType.isReference]
      first | (intro acts; rw [hr12 _ acts rfl rfl rfl]) | rw [hr12 _ _ rfl rfl rfl]
      exact Steps.refl _
    · show QVal Z p1 ca kc vc h0 n0 _ T9.heap _
      rw [e9]
      exact ⟨b4, rfl, N9, kp13, f10⟩
  · skip
    have K14 : Gx p e below s₁ f0 s₁ (mkF m 7 #[.val (.int p1)] [(.int p1)]) := fun t kt => K1 t (by
      show Steps p.tables e below (s₁.setTop (mkF m 3 #[.val (.int p1)] [(.int (-128 : Int32)), (.int p1)])) _
      refine XS.icmpNo X0.here hx rfl (hb hby d5_3) rfl (flt hb2).1 ?_
      show Steps p.tables e below (s₁.setTop (mkF m 6 #[.val (.int p1)] [])) _
      refine XS.iloadN X0.here hx rfl (hb hby d5_6) rfl ?_
      exact kt)
    have f15 : Sta Z h0 "java/lang/Integer$IntegerCache" "high" "I" (.int (127 : Int32)) := Sta.ext pr3.2 pr0
    obtain ⟨T16, X16, e16, st16⟩ := getS2 X0 hx hZ hown (host := "") (Or.inl (hw _ (List.mem_of_getElem? (i := 32) rfl))) Via.refl e0 f15 (g := (mkF m 7 #[.val (.int p1)] [(.int p1)])) rfl (hb hby d5_7)
    have K17 : Gx p e below s₁ f0 T16 (mkF m 10 #[.val (.int p1)] [(.int (127 : Int32)), (.int p1)]) := fun t kt => K14 t (st16 t kt)
    by_cases hb18 : (127 : Int32) < p1
    · skip
      have K19 : Gx p e below s₁ f0 T16 (mkF m 23 #[.val (.int p1)] []) := fun t kt => K17 t (by
        show Steps p.tables e below (T16.setTop (mkF m 10 #[.val (.int p1)] [(.int (127 : Int32)), (.int p1)])) _
        refine XS.icmpYes X16.here hx rfl (pc0 := 10) (pc' := 23) rfl (hb hby d5_10) rfl (tlt hb18).2.2.1 (by decide) (by decide) ?_
        exact kt)
      obtain ⟨T20, h20, X20, e20, E20, A20, D20, -, st20⟩ := newO X16 hx hZ hown (hw _ (List.mem_of_getElem? (i := 45) rfl)) (hw _ (List.mem_of_getElem? (i := 46) rfl)) (hw _ (List.mem_of_getElem? (i := 30) rfl)) e16 (g := (mkF m 23 #[.val (.int p1)] [])) rfl (hb hby d5_23) (by decide) (by decide)
      obtain ⟨b20, g20⟩ : ∃ z, z = h0.size := ⟨_, rfl⟩
      rw [← g20] at A20 D20 st20
      have f21 : Fld Z h20 b20 "java/lang/Integer" "value" "I" (.int (0 : Int32)) := D20 (Or.inr (hw _ (List.mem_of_getElem? (i := 59) rfl))) (ty := .int) (by decide)
      have K22 : Gx p e below s₁ f0 T20 (mkF m 26 #[.val (.int p1)] [(.ref b20)]) := fun t kt => K19 t (st20 t kt)
      have K23 : Gx p e below s₁ f0 T20 (mkF m 28 #[.val (.int p1)] [(.int p1), (.ref b20), (.ref b20)]) := fun t kt => K22 t (by
        show Steps p.tables e below (T20.setTop (mkF m 26 #[.val (.int p1)] [(.ref b20)])) _
        refine XS.dup X20.here hx rfl (hb hby d5_26) rfl rfl ?_
        show Steps p.tables e below (T20.setTop (mkF m 27 #[.val (.int p1)] [(.ref b20), (.ref b20)])) _
        refine XS.iloadN X20.here hx rfl (hb hby d5_27) rfl ?_
        exact kt)
      have kp24 : Keep h0 h20 [] := ((Keep.refl h0 []).ext E20)
      obtain ⟨_, _, ⟨T25, L25, k25, n25⟩, -, X25', ⟨Lc25, hQ25, l25, y25, z25⟩, st25⟩ := X20.specialBack hx (y := (⟨"java/lang/Integer", "<init>", "(I)V"⟩ : MethodName)) rfl hown (mvT hZ (hw _ (List.mem_of_getElem? (i := 47) rfl))) (mvT hZ (hw _ (List.mem_of_getElem? (i := 48) rfl))) (mvT hZ (hw _ (List.mem_of_getElem? (i := 50) rfl))) (by decide) (backOf (W := 1) (rmIInt l Z a0 hw [] b20 p1 h20 n0 (Nat.le_trans Z0 kp24.1) A20 (Nat.le_trans Z0 (Nat.le_trans (Keep.refl h0 []).1 (Nat.le_of_eq g20.symm))) f21) hZ (hw _ (List.mem_of_getElem? (i := 50) rfl)) (hw _ (List.mem_of_getElem? (i := 30) rfl)) (by decide) (by decide)) (g := (mkF m 28 #[.val (.int p1)] [(.int p1), (.ref b20), (.ref b20)])) rfl (by rw [hml]; rfl) (Steps.refl _) (a := b20) (argsL := [(.int p1)]) (rest := [(.ref b20)]) (lenOf pd__I_V rfl) rfl (by show 2 * 0 + _ ≤ _; exact Nat.le_of_eq rfl) (hb hby d5_28) (fun _ _ => ⟨rfl, e20, (by decide : 1 + 0 ≤ _), (by decide : 1 + 0 ≤ _)⟩)
      dsimp only [Pt.U, Pt.locs, Pt.cells, Pt.slots] at X25' l25 y25 z25 st25 hQ25
      subst l25 y25 z25
      obtain ⟨h25, e25⟩ : ∃ z, T25.heap = z := ⟨_, rfl⟩
      rw [e25] at hQ25
      obtain ⟨rfl, N25q, Kc25, f26⟩ := hQ25
      obtain ⟨lc25, X25, N25⟩ : ∃ lc, Stand p l e ({ frames := 3, cells := 1, slots := 1, locals := 38 } : Room) s m #[(.int p1)] below meth c T25 lc 1 1 ∧ Fr n0 lc := ⟨_, X25', Fr.app N0 N25q⟩
      have K27 : Gx p e below s₁ f0 T25 (mkF m 31 #[.val (.int p1)] [(.ref b20)]) := fun t kt => K23 t (st25.trans kt)
      have kp29 : Keep h0 h25 [] := (Keep.trans kp24 Kc25 (allS (Or.inr (Nat.le_trans (Keep.refl h0 []).1 (Nat.le_of_eq g20.symm))) all0))
      obtain ⟨fs28, hr28, hrun28, hended28, hW28, hsame28⟩ := X25.leave (v := some (.ref b20)) (fun h => by rw [Bd.returns] at h; cases h)
      refine ⟨_, _, pre0 _ (K27 _ ?_), hrun28, hended28, _, _, rfl, ?_, ⟨_, rfl⟩, hW28, hsame28.mono (by decide) (by decide)⟩
      · show Steps p.tables e below (T25.setTop (mkF m 31 #[.val (.int p1)] [(.ref b20)])) _
        jvm_step X25.here [X25.here.top, hx, (hb hby d5_31), X25.method', Bd.returns, Value.isRef, FieldType.isReference]
        first | (intro acts; rw [hr28 _ acts rfl rfl rfl]) | rw [hr28 _ _ rfl rfl rfl]
        exact Steps.refl _
      · show QVal Z p1 ca kc vc h0 n0 _ T25.heap _
        rw [e25]
        exact ⟨b20, rfl, N25, kp29, f26⟩
    · skip
      have K30 : Gx p e below s₁ f0 T16 (mkF m 13 #[.val (.int p1)] []) := fun t kt => K17 t (by
        show Steps p.tables e below (T16.setTop (mkF m 10 #[.val (.int p1)] [(.int (127 : Int32)), (.int p1)])) _
        refine XS.icmpNo X16.here hx rfl (hb hby d5_10) rfl (flt hb18).2.2.1 ?_
        exact kt)
      have f31 : Sta Z h0 "java/lang/Integer$IntegerCache" "cache" "[Ljava/lang/Integer;" (.ref ca) := Sta.ext pr3.2 pr1
      obtain ⟨T32, X32, e32, st32⟩ := getS2 X16 hx hZ hown (host := "") (Or.inl (hw _ (List.mem_of_getElem? (i := 34) rfl))) Via.refl e16 f31 (g := (mkF m 13 #[.val (.int p1)] [])) rfl (hb hby d5_13)
      have K33 : Gx p e below s₁ f0 T32 (mkF m 16 #[.val (.int p1)] [(.ref ca)]) := fun t kt => K30 t (st32 t kt)
      have f34 : Arv Z h0 ca kc (.object "java/lang/Integer") (256 : Int32) vc .null := pr2.ext pr3.2
      obtain ⟨clq35, Arq35, ckq35, cSq35, cNq35, cHq35, cGq35⟩ := id f34
      obtain ⟨yb, hyb, Eyb⟩ := hc p1 hb2 hb18
      have Eyb2 : Exa Z h0 yb "java/lang/Integer" := Eyb.ext pr3.2
      have K36 : Gx p e below s₁ f0 T32 (mkF m 22 #[.val (.int p1)] [(.ref yb)]) := fun t kt => K33 t (by
        show Steps p.tables e below (T32.setTop (mkF m 16 #[.val (.int p1)] [(.ref ca)])) _
        refine XS.iloadN X32.here hx rfl (hb hby d5_16) rfl ?_
        show Steps p.tables e below (T32.setTop (mkF m 17 #[.val (.int p1)] [(.int p1), (.ref ca)])) _
        refine XS.sipush X32.here hx rfl (hb hby d5_17) ?_
        show Steps p.tables e below (T32.setTop (mkF m 20 #[.val (.int p1)] [(.int (128 : Int32)), (.int p1), (.ref ca)])) _
        refine XS.iadd X32.here hx rfl (hb hby d5_20) rfl ?_
        show Steps p.tables e below (T32.setTop (mkF m 21 #[.val (.int p1)] [(.int (p1 + (128 : Int32))), (.ref ca)])) _
        refine X32.aaload hx (j := (p1 + (128 : Int32))) (v := (.ref yb)) (by rw [e32]; exact Arq35.1) (State.isArrayOf_alike hZ.alike Arq35.2.1) rfl Arq35.2.2 (inb_of cSq35 (own_idx p1 hb2 hb18)) (Has.at cHq35 (inb_of cSq35 (own_idx p1 hb2 hb18)) hyb) (g := (mkF m 21 #[.val (.int p1)] [(.int (p1 + (128 : Int32))), (.ref ca)])) rfl rfl (hb hby d5_21) _ ?_
        exact kt)
      obtain ⟨fs37, hr37, hrun37, hended37, hW37, hsame37⟩ := X32.leave (v := some (.ref yb)) (fun h => by rw [Bd.returns] at h; cases h)
      refine ⟨_, _, pre0 _ (K36 _ ?_), hrun37, hended37, _, _, rfl, ?_, ⟨_, rfl⟩, hW37, hsame37.mono (by decide) (by decide)⟩
      · show Steps p.tables e below (T32.setTop (mkF m 22 #[.val (.int p1)] [(.ref yb)])) _
        jvm_step X32.here [X32.here.top, hx, (hb hby d5_22), X32.method', Bd.returns, Value.isRef, FieldType.isReference]
        first | (intro acts; rw [hr37 _ acts rfl rfl rfl]) | rw [hr37 _ _ rfl rfl rfl]
        exact Steps.refl _
      · show QVal Z p1 ca kc vc h0 n0 _ T32.heap _
        rw [e32]
        exact ⟨yb, rfl, N0, (Keep.refl h0 []), Eyb2⟩
theorem d6_0 : decode prog_121_method_3_code 0 = .ok (.aload_n 1, 1) := by decide +kernel
theorem d6_1 : decode prog_121_method_3_code 1 = .ok (.instanceof 8, 3) := by decide +kernel
theorem d6_4 : decode prog_121_method_3_code 4 = .ok (.ifCond .eq 67, 3) := by decide +kernel
theorem d6_7 : decode prog_121_method_3_code 7 = .ok (.aload_n 1, 1) := by decide +kernel
theorem d6_8 : decode prog_121_method_3_code 8 = .ok (.checkcast 8, 3) := by decide +kernel
theorem d6_11 : decode prog_121_method_3_code 11 = .ok (.astore_n 2, 1) := by decide +kernel
theorem d6_12 : decode prog_121_method_3_code 12 = .ok (.aload_n 0, 1) := by decide +kernel
theorem d6_13 : decode prog_121_method_3_code 13 = .ok (.getfield 7, 3) := by decide +kernel
theorem d6_16 : decode prog_121_method_3_code 16 = .ok (.aload_n 2, 1) := by decide +kernel
theorem d6_17 : decode prog_121_method_3_code 17 = .ok (.getfield 7, 3) := by decide +kernel
theorem d6_20 : decode prog_121_method_3_code 20 = .ok (.if_icmp .ne 51, 3) := by decide +kernel
theorem d6_23 : decode prog_121_method_3_code 23 = .ok (.aload_n 0, 1) := by decide +kernel
theorem d6_24 : decode prog_121_method_3_code 24 = .ok (.getfield 13, 3) := by decide +kernel
theorem d6_27 : decode prog_121_method_3_code 27 = .ok (.aload_n 2, 1) := by decide +kernel
theorem d6_28 : decode prog_121_method_3_code 28 = .ok (.getfield 13, 3) := by decide +kernel
theorem d6_31 : decode prog_121_method_3_code 31 = .ok (.if_icmp .ne 40, 3) := by decide +kernel
theorem d6_34 : decode prog_121_method_3_code 34 = .ok (.aload_n 0, 1) := by decide +kernel
theorem d6_35 : decode prog_121_method_3_code 35 = .ok (.getfield 16, 3) := by decide +kernel
theorem d6_38 : decode prog_121_method_3_code 38 = .ok (.aload_n 2, 1) := by decide +kernel
theorem d6_39 : decode prog_121_method_3_code 39 = .ok (.getfield 16, 3) := by decide +kernel
theorem d6_42 : decode prog_121_method_3_code 42 = .ok (.if_icmp .ne 29, 3) := by decide +kernel
theorem d6_45 : decode prog_121_method_3_code 45 = .ok (.aload_n 0, 1) := by decide +kernel
theorem d6_46 : decode prog_121_method_3_code 46 = .ok (.getfield 19, 3) := by decide +kernel
theorem d6_49 : decode prog_121_method_3_code 49 = .ok (.aload_n 2, 1) := by decide +kernel
theorem d6_50 : decode prog_121_method_3_code 50 = .ok (.getfield 19, 3) := by decide +kernel
theorem d6_53 : decode prog_121_method_3_code 53 = .ok (.if_icmp .ne 18, 3) := by decide +kernel
theorem d6_56 : decode prog_121_method_3_code 56 = .ok (.aload_n 0, 1) := by decide +kernel
theorem d6_57 : decode prog_121_method_3_code 57 = .ok (.getfield 22, 3) := by decide +kernel
theorem d6_60 : decode prog_121_method_3_code 60 = .ok (.aload_n 2, 1) := by decide +kernel
theorem d6_61 : decode prog_121_method_3_code 61 = .ok (.getfield 22, 3) := by decide +kernel
theorem d6_64 : decode prog_121_method_3_code 64 = .ok (.if_icmp .ne 7, 3) := by decide +kernel
theorem d6_67 : decode prog_121_method_3_code 67 = .ok (.iconst 1, 1) := by decide +kernel
theorem d6_68 : decode prog_121_method_3_code 68 = .ok (.goto 4, 3) := by decide +kernel
theorem d6_71 : decode prog_121_method_3_code 71 = .ok (.iconst 0, 1) := by decide +kernel
theorem d6_72 : decode prog_121_method_3_code 72 = .ok (.ireturn, 1) := by decide +kernel
theorem pn_6 : plainName "com/example/vaxwire/vaxwire/hl7/Delimiters" = true := by first | (simp [plainName, overriddenIn]; done) | decide +kernel
theorem ef_EqD (m : MethodId) (a1 : Addr) (a2 : Addr) : entryFrame m #[(.ref a1), (.ref a2)] 3 = mkF m 0 #[.val (.ref a1), .val (.ref a2), .unset] [] := by first | (simp [entryFrame, mkF, argsToLocals, Value.category]; done) | rfl
def QEqD (Z : State) (a1 : Addr) (a2 : Addr) (p1 : Int32) (p2 : Int32) (p3 : Int32) (p4 : Int32) (p5 : Int32) (r1 : Int32) (r2 : Int32) (r3 : Int32) (r4 : Int32) (r5 : Int32) (h0 : Heap) (n0 : Nat) (v : Option Value) (h : Heap) (L : List Loc) : Prop := v = some (.int (eqF p1 p2 p3 p4 p5 r1 r2 r3 r4 r5)) ∧ Fr n0 L ∧ h = h0
set_option maxRecDepth 65536 in
set_option maxHeartbeats 40000000 in
theorem rmEqD (l : Launch) (Z : State) (a0 : Array Value) (hw : ∀ d ∈ tables_1, d.before a0 Z = true) (ws : List Jvm.Cond) (a1 : Addr) (a2 : Addr) (p1 : Int32) (p2 : Int32) (p3 : Int32) (p4 : Int32) (p5 : Int32) (r1 : Int32) (r2 : Int32) (r3 : Int32) (r4 : Int32) (r5 : Int32) (h0 : Heap) (n0 : Nat) (Z0 : n0 ≤ h0.size) (pr0 : Exa Z h0 a2 "com/example/vaxwire/vaxwire/hl7/Delimiters") (pr1 : Fld Z h0 a1 "com/example/vaxwire/vaxwire/hl7/Delimiters" "field" "C" (.int p1)) (pr2 : Fld Z h0 a1 "com/example/vaxwire/vaxwire/hl7/Delimiters" "component" "C" (.int p2)) (pr3 : Fld Z h0 a1 "com/example/vaxwire/vaxwire/hl7/Delimiters" "repetition" "C" (.int p3)) (pr4 : Fld Z h0 a1 "com/example/vaxwire/vaxwire/hl7/Delimiters" "escape" "C" (.int p4)) (pr5 : Fld Z h0 a1 "com/example/vaxwire/vaxwire/hl7/Delimiters" "subcomponent" "C" (.int p5)) (pr6 : Fld Z h0 a2 "com/example/vaxwire/vaxwire/hl7/Delimiters" "field" "C" (.int r1)) (pr7 : Fld Z h0 a2 "com/example/vaxwire/vaxwire/hl7/Delimiters" "component" "C" (.int r2)) (pr8 : Fld Z h0 a2 "com/example/vaxwire/vaxwire/hl7/Delimiters" "repetition" "C" (.int r3)) (pr9 : Fld Z h0 a2 "com/example/vaxwire/vaxwire/hl7/Delimiters" "escape" "C" (.int r4)) (pr10 : Fld Z h0 a2 "com/example/vaxwire/vaxwire/hl7/Delimiters" "subcomponent" "C" (.int r5)) :
    MetFree l (⟨"com/example/vaxwire/vaxwire/hl7/Delimiters", "equals", "(Ljava/lang/Object;)Z"⟩ : MethodName) (head1 (Jvm.Cond.code (⟨"com/example/vaxwire/vaxwire/hl7/Delimiters", "equals", "(Ljava/lang/Object;)Z"⟩ : MethodName) prog_121_method_3_code 3 (some .boolean) :: ws) ({ frames := 0, cells := 0, slots := 0, locals := 0 } : Room)) (fun a U => a = #[(.ref a1), (.ref a2)] ∧ Z.Warmed39 U.vm ∧ U.heap = h0) (fun _ _ _ _ _ => True) (fun _ U o U' => ∃ v L, o = .returned v ∧ QEqD Z a1 a2 p1 p2 p3 p4 p5 r1 r2 r3 r4 r5 h0 n0 v U'.heap L ∧ FrameEnd U o U' L ({ frames := 0, cells := 0, slots := 0, locals := 0 } : Room).cells ({ frames := 0, cells := 0, slots := 0, locals := 0 } : Room).slots) := by
  refine MetFree.of_bodySF (plainFor_of_name pn_6) hisR ?_
  intro p e s m args below meth c s₁ Bd hml0 hP hK
  obtain ⟨rfl, hZ, hh⟩ := hP
  have hx := Bd.exec
  have hby := Bd.bytes
  have hml : c.maxLocals = 3 := hml0
  have hown : s.vm.findClass "com/example/vaxwire/vaxwire/hl7/Delimiters" = some m.cls := findClass_of_methodNamed Bd.named
  have hnm := (name_of_methodNamed Bd.named Bd.method).1
  have X0 : Stand p l e ({ frames := 0, cells := 0, slots := 0, locals := 0 } : Room) s m #[(.ref a1), (.ref a2)] below meth c s₁ [] 0 0 := Stand.of_body Bd
  have hs0 : h0 = s.heap := hh.symm
  have e0 : s₁.heap = h0 := by rw [← hh, Bd.state]; rfl
  have N0 := Fr.nil n0
  obtain ⟨f0, hf0⟩ : ∃ f, f = entryFrame m #[(.ref a1), (.ref a2)] 3 := ⟨_, rfl⟩
  have pre0 : ∀ t, Steps p.tables e below (s₁.setTop f0) t → Steps p.tables e below (s₁.setTop (entryFrame m #[(.ref a1), (.ref a2)] 3)) t := fun t k => hf0 ▸ k
  have K0 : Gx p e below s₁ f0 s₁ (mkF m 0 #[.val (.ref a1), .val (.ref a2), .unset] []) := fun t kt => by rw [hf0]; exact castTop (ef_EqD m a1 a2) kt
  have K1 : Gx p e below s₁ f0 s₁ (mkF m 1 #[.val (.ref a1), .val (.ref a2), .unset] [(.ref a2)]) := fun t kt => K0 t (by
    show Steps p.tables e below (s₁.setTop (mkF m 0 #[.val (.ref a1), .val (.ref a2), .unset] [])) _
    refine XS.aloadN X0.here hx rfl (hb hby d6_0) rfl rfl ?_
    exact kt)
  obtain ⟨T2, X2, e2, st2⟩ := instY X0 hx hZ hown (hw _ (List.mem_of_getElem? (i := 40) rfl)) e0 (Ins.self pr0) (g := (mkF m 1 #[.val (.ref a1), .val (.ref a2), .unset] [(.ref a2)])) rfl rfl (hb hby d6_1)
  have K3 : Gx p e below s₁ f0 T2 (mkF m 4 #[.val (.ref a1), .val (.ref a2), .unset] [(.int (1 : Int32))]) := fun t kt => K1 t (st2 t kt)
  have K4 : Gx p e below s₁ f0 T2 (mkF m 8 #[.val (.ref a1), .val (.ref a2), .unset] [(.ref a2)]) := fun t kt => K3 t (by
    show Steps p.tables e below (T2.setTop (mkF m 4 #[.val (.ref a1), .val (.ref a2), .unset] [(.int (1 : Int32))])) _
    refine XS.ifNo X2.here hx rfl (hb hby d6_4) rfl ((if0 _ _).trans (feq (by decide)).1) ?_
    show Steps p.tables e below (T2.setTop (mkF m 7 #[.val (.ref a1), .val (.ref a2), .unset] [])) _
    refine XS.aloadN X2.here hx rfl (hb hby d6_7) rfl rfl ?_
    exact kt)
  obtain ⟨T5, X5, e5, st5⟩ := castY X2 hx hZ hown (hw _ (List.mem_of_getElem? (i := 40) rfl)) e2 (Ins.self pr0) (g := (mkF m 8 #[.val (.ref a1), .val (.ref a2), .unset] [(.ref a2)])) rfl rfl (hb hby d6_8)
  have K6 : Gx p e below s₁ f0 T5 (mkF m 11 #[.val (.ref a1), .val (.ref a2), .unset] [(.ref a2)]) := fun t kt => K4 t (st5 t kt)
  have K7 : Gx p e below s₁ f0 T5 (mkF m 13 #[.val (.ref a1), .val (.ref a2), .val (.ref a2)] [(.ref a1)]) := fun t kt => K6 t (by
    show Steps p.tables e below (T5.setTop (mkF m 11 #[.val (.ref a1), .val (.ref a2), .unset] [(.ref a2)])) _
    refine XS.astoreN X5.here hx rfl (hb hby d6_11) rfl rfl (l' := #[.val (.ref a1), .val (.ref a2), .val (.ref a2)]) rfl ?_
    show Steps p.tables e below (T5.setTop (mkF m 12 #[.val (.ref a1), .val (.ref a2), .val (.ref a2)] [])) _
    refine XS.aloadN X5.here hx rfl (hb hby d6_12) rfl rfl ?_
    exact kt)
  obtain ⟨T8, X8, e8, st8⟩ := getF X5 hx hZ hown (host := "") (Or.inl (hw _ (List.mem_of_getElem? (i := 18) rfl))) Via.refl e5 pr1 (g := (mkF m 13 #[.val (.ref a1), .val (.ref a2), .val (.ref a2)] [(.ref a1)])) rfl rfl (hb hby d6_13)
  have K9 : Gx p e below s₁ f0 T8 (mkF m 16 #[.val (.ref a1), .val (.ref a2), .val (.ref a2)] [(.int p1)]) := fun t kt => K7 t (st8 t kt)
  have K10 : Gx p e below s₁ f0 T8 (mkF m 17 #[.val (.ref a1), .val (.ref a2), .val (.ref a2)] [(.ref a2), (.int p1)]) := fun t kt => K9 t (by
    show Steps p.tables e below (T8.setTop (mkF m 16 #[.val (.ref a1), .val (.ref a2), .val (.ref a2)] [(.int p1)])) _
    refine XS.aloadN X8.here hx rfl (hb hby d6_16) rfl rfl ?_
    exact kt)
  obtain ⟨T11, X11, e11, st11⟩ := getF X8 hx hZ hown (host := "") (Or.inl (hw _ (List.mem_of_getElem? (i := 18) rfl))) Via.refl e8 pr6 (g := (mkF m 17 #[.val (.ref a1), .val (.ref a2), .val (.ref a2)] [(.ref a2), (.int p1)])) rfl rfl (hb hby d6_17)
  have K12 : Gx p e below s₁ f0 T11 (mkF m 20 #[.val (.ref a1), .val (.ref a2), .val (.ref a2)] [(.int r1), (.int p1)]) := fun t kt => K10 t (st11 t kt)
  by_cases hb13 : p1 = r1
  · skip
    have K14 : Gx p e below s₁ f0 T11 (mkF m 24 #[.val (.ref a1), .val (.ref a2), .val (.ref a2)] [(.ref a1)]) := fun t kt => K12 t (by
      show Steps p.tables e below (T11.setTop (mkF m 20 #[.val (.ref a1), .val (.ref a2), .val (.ref a2)] [(.int r1), (.int p1)])) _
      refine XS.icmpNo X11.here hx rfl (hb hby d6_20) rfl (teq hb13).2 ?_
      show Steps p.tables e below (T11.setTop (mkF m 23 #[.val (.ref a1), .val (.ref a2), .val (.ref a2)] [])) _
      refine XS.aloadN X11.here hx rfl (hb hby d6_23) rfl rfl ?_
      exact kt)
    obtain ⟨T15, X15, e15, st15⟩ := getF X11 hx hZ hown (host := "") (Or.inl (hw _ (List.mem_of_getElem? (i := 20) rfl))) Via.refl e11 pr2 (g := (mkF m 24 #[.val (.ref a1), .val (.ref a2), .val (.ref a2)] [(.ref a1)])) rfl rfl (hb hby d6_24)
    have K16 : Gx p e below s₁ f0 T15 (mkF m 27 #[.val (.ref a1), .val (.ref a2), .val (.ref a2)] [(.int p2)]) := fun t kt => K14 t (st15 t kt)
    have K17 : Gx p e below s₁ f0 T15 (mkF m 28 #[.val (.ref a1), .val (.ref a2), .val (.ref a2)] [(.ref a2), (.int p2)]) := fun t kt => K16 t (by
      show Steps p.tables e below (T15.setTop (mkF m 27 #[.val (.ref a1), .val (.ref a2), .val (.ref a2)] [(.int p2)])) _
      refine XS.aloadN X15.here hx rfl (hb hby d6_27) rfl rfl ?_
      exact kt)
    obtain ⟨T18, X18, e18, st18⟩ := getF X15 hx hZ hown (host := "") (Or.inl (hw _ (List.mem_of_getElem? (i := 20) rfl))) Via.refl e15 pr7 (g := (mkF m 28 #[.val (.ref a1), .val (.ref a2), .val (.ref a2)] [(.ref a2), (.int p2)])) rfl rfl (hb hby d6_28)
    have K19 : Gx p e below s₁ f0 T18 (mkF m 31 #[.val (.ref a1), .val (.ref a2), .val (.ref a2)] [(.int r2), (.int p2)]) := fun t kt => K17 t (st18 t kt)
    by_cases hb20 : p2 = r2
    · skip
      have K21 : Gx p e below s₁ f0 T18 (mkF m 35 #[.val (.ref a1), .val (.ref a2), .val (.ref a2)] [(.ref a1)]) := fun t kt => K19 t (by
        show Steps p.tables e below (T18.setTop (mkF m 31 #[.val (.ref a1), .val (.ref a2), .val (.ref a2)] [(.int r2), (.int p2)])) _
        refine XS.icmpNo X18.here hx rfl (hb hby d6_31) rfl (teq hb20).2 ?_
        show Steps p.tables e below (T18.setTop (mkF m 34 #[.val (.ref a1), .val (.ref a2), .val (.ref a2)] [])) _
        refine XS.aloadN X18.here hx rfl (hb hby d6_34) rfl rfl ?_
        exact kt)
      obtain ⟨T22, X22, e22, st22⟩ := getF X18 hx hZ hown (host := "") (Or.inl (hw _ (List.mem_of_getElem? (i := 22) rfl))) Via.refl e18 pr3 (g := (mkF m 35 #[.val (.ref a1), .val (.ref a2), .val (.ref a2)] [(.ref a1)])) rfl rfl (hb hby d6_35)
      have K23 : Gx p e below s₁ f0 T22 (mkF m 38 #[.val (.ref a1), .val (.ref a2), .val (.ref a2)] [(.int p3)]) := fun t kt => K21 t (st22 t kt)
      have K24 : Gx p e below s₁ f0 T22 (mkF m 39 #[.val (.ref a1), .val (.ref a2), .val (.ref a2)] [(.ref a2), (.int p3)]) := fun t kt => K23 t (by
        show Steps p.tables e below (T22.setTop (mkF m 38 #[.val (.ref a1), .val (.ref a2), .val (.ref a2)] [(.int p3)])) _
        refine XS.aloadN X22.here hx rfl (hb hby d6_38) rfl rfl ?_
        exact kt)
      obtain ⟨T25, X25, e25, st25⟩ := getF X22 hx hZ hown (host := "") (Or.inl (hw _ (List.mem_of_getElem? (i := 22) rfl))) Via.refl e22 pr8 (g := (mkF m 39 #[.val (.ref a1), .val (.ref a2), .val (.ref a2)] [(.ref a2), (.int p3)])) rfl rfl (hb hby d6_39)
      have K26 : Gx p e below s₁ f0 T25 (mkF m 42 #[.val (.ref a1), .val (.ref a2), .val (.ref a2)] [(.int r3), (.int p3)]) := fun t kt => K24 t (st25 t kt)
      by_cases hb27 : p3 = r3
      · skip
        have K28 : Gx p e below s₁ f0 T25 (mkF m 46 #[.val (.ref a1), .val (.ref a2), .val (.ref a2)] [(.ref a1)]) := fun t kt => K26 t (by
          show Steps p.tables e below (T25.setTop (mkF m 42 #[.val (.ref a1), .val (.ref a2), .val (.ref a2)] [(.int r3), (.int p3)])) _
          refine XS.icmpNo X25.here hx rfl (hb hby d6_42) rfl (teq hb27).2 ?_
          show Steps p.tables e below (T25.setTop (mkF m 45 #[.val (.ref a1), .val (.ref a2), .val (.ref a2)] [])) _
          refine XS.aloadN X25.here hx rfl (hb hby d6_45) rfl rfl ?_
          exact kt)
        obtain ⟨T29, X29, e29, st29⟩ := getF X25 hx hZ hown (host := "") (Or.inl (hw _ (List.mem_of_getElem? (i := 24) rfl))) Via.refl e25 pr4 (g := (mkF m 46 #[.val (.ref a1), .val (.ref a2), .val (.ref a2)] [(.ref a1)])) rfl rfl (hb hby d6_46)
        have K30 : Gx p e below s₁ f0 T29 (mkF m 49 #[.val (.ref a1), .val (.ref a2), .val (.ref a2)] [(.int p4)]) := fun t kt => K28 t (st29 t kt)
        have K31 : Gx p e below s₁ f0 T29 (mkF m 50 #[.val (.ref a1), .val (.ref a2), .val (.ref a2)] [(.ref a2), (.int p4)]) := fun t kt => K30 t (by
          show Steps p.tables e below (T29.setTop (mkF m 49 #[.val (.ref a1), .val (.ref a2), .val (.ref a2)] [(.int p4)])) _
          refine XS.aloadN X29.here hx rfl (hb hby d6_49) rfl rfl ?_
          exact kt)
        obtain ⟨T32, X32, e32, st32⟩ := getF X29 hx hZ hown (host := "") (Or.inl (hw _ (List.mem_of_getElem? (i := 24) rfl))) Via.refl e29 pr9 (g := (mkF m 50 #[.val (.ref a1), .val (.ref a2), .val (.ref a2)] [(.ref a2), (.int p4)])) rfl rfl (hb hby d6_50)
        have K33 : Gx p e below s₁ f0 T32 (mkF m 53 #[.val (.ref a1), .val (.ref a2), .val (.ref a2)] [(.int r4), (.int p4)]) := fun t kt => K31 t (st32 t kt)
        by_cases hb34 : p4 = r4
        · skip
          have K35 : Gx p e below s₁ f0 T32 (mkF m 57 #[.val (.ref a1), .val (.ref a2), .val (.ref a2)] [(.ref a1)]) := fun t kt => K33 t (by
            show Steps p.tables e below (T32.setTop (mkF m 53 #[.val (.ref a1), .val (.ref a2), .val (.ref a2)] [(.int r4), (.int p4)])) _
            refine XS.icmpNo X32.here hx rfl (hb hby d6_53) rfl (teq hb34).2 ?_
            show Steps p.tables e below (T32.setTop (mkF m 56 #[.val (.ref a1), .val (.ref a2), .val (.ref a2)] [])) _
            refine XS.aloadN X32.here hx rfl (hb hby d6_56) rfl rfl ?_
            exact kt)
          obtain ⟨T36, X36, e36, st36⟩ := getF X32 hx hZ hown (host := "") (Or.inl (hw _ (List.mem_of_getElem? (i := 26) rfl))) Via.refl e32 pr5 (g := (mkF m 57 #[.val (.ref a1), .val (.ref a2), .val (.ref a2)] [(.ref a1)])) rfl rfl (hb hby d6_57)
          have K37 : Gx p e below s₁ f0 T36 (mkF m 60 #[.val (.ref a1), .val (.ref a2), .val (.ref a2)] [(.int p5)]) := fun t kt => K35 t (st36 t kt)
          have K38 : Gx p e below s₁ f0 T36 (mkF m 61 #[.val (.ref a1), .val (.ref a2), .val (.ref a2)] [(.ref a2), (.int p5)]) := fun t kt => K37 t (by
            show Steps p.tables e below (T36.setTop (mkF m 60 #[.val (.ref a1), .val (.ref a2), .val (.ref a2)] [(.int p5)])) _
            refine XS.aloadN X36.here hx rfl (hb hby d6_60) rfl rfl ?_
            exact kt)
          obtain ⟨T39, X39, e39, st39⟩ := getF X36 hx hZ hown (host := "") (Or.inl (hw _ (List.mem_of_getElem? (i := 26) rfl))) Via.refl e36 pr10 (g := (mkF m 61 #[.val (.ref a1), .val (.ref a2), .val (.ref a2)] [(.ref a2), (.int p5)])) rfl rfl (hb hby d6_61)
          have K40 : Gx p e below s₁ f0 T39 (mkF m 64 #[.val (.ref a1), .val (.ref a2), .val (.ref a2)] [(.int r5), (.int p5)]) := fun t kt => K38 t (st39 t kt)
          by_cases hb41 : p5 = r5
          · skip
            have K42 : Gx p e below s₁ f0 T39 (mkF m 72 #[.val (.ref a1), .val (.ref a2), .val (.ref a2)] [(.int (1 : Int32))]) := fun t kt => K40 t (by
              show Steps p.tables e below (T39.setTop (mkF m 64 #[.val (.ref a1), .val (.ref a2), .val (.ref a2)] [(.int r5), (.int p5)])) _
              refine XS.icmpNo X39.here hx rfl (hb hby d6_64) rfl (teq hb41).2 ?_
              show Steps p.tables e below (T39.setTop (mkF m 67 #[.val (.ref a1), .val (.ref a2), .val (.ref a2)] [])) _
              refine XS.iconst X39.here hx rfl (hb hby d6_67) ?_
              show Steps p.tables e below (T39.setTop (mkF m 68 #[.val (.ref a1), .val (.ref a2), .val (.ref a2)] [(.int (1 : Int32))])) _
              refine XS.goto X39.here hx rfl (pc0 := 68) (pc' := 72) rfl (hb hby d6_68) (by decide) (by decide) ?_
              exact kt)
            obtain ⟨fs43, hr43, hrun43, hended43, hW43, hsame43⟩ := X39.leave (v := some (.int (1 : Int32))) (fun h => by rw [Bd.returns] at h; cases h)
            refine ⟨_, _, pre0 _ (K42 _ ?_), hrun43, hended43, _, _, rfl, ?_, ⟨_, rfl⟩, hW43, hsame43.mono (by decide) (by decide)⟩
            · exact retN X39 hx (t := .boolean) Bd.returns (by simp) (hb hby d6_72) hr43
            · show QEqD Z a1 a2 p1 p2 p3 p4 p5 r1 r2 r3 r4 r5 h0 n0 _ T39.heap _
              rw [e39]
              exact ⟨(congrArg some (congrArg Value.int (by first | (simp only [eqF, if_pos hb13, if_pos hb20, if_pos hb27, if_pos hb34, if_pos hb41]; done)))), N0, rfl⟩
          · skip
            have K44 : Gx p e below s₁ f0 T39 (mkF m 72 #[.val (.ref a1), .val (.ref a2), .val (.ref a2)] [(.int (0 : Int32))]) := fun t kt => K40 t (by
              show Steps p.tables e below (T39.setTop (mkF m 64 #[.val (.ref a1), .val (.ref a2), .val (.ref a2)] [(.int r5), (.int p5)])) _
              refine XS.icmpYes X39.here hx rfl (pc0 := 64) (pc' := 71) rfl (hb hby d6_64) rfl (feq hb41).2 (by decide) (by decide) ?_
              show Steps p.tables e below (T39.setTop (mkF m 71 #[.val (.ref a1), .val (.ref a2), .val (.ref a2)] [])) _
              refine XS.iconst X39.here hx rfl (hb hby d6_71) ?_
              exact kt)
            obtain ⟨fs45, hr45, hrun45, hended45, hW45, hsame45⟩ := X39.leave (v := some (.int (0 : Int32))) (fun h => by rw [Bd.returns] at h; cases h)
            refine ⟨_, _, pre0 _ (K44 _ ?_), hrun45, hended45, _, _, rfl, ?_, ⟨_, rfl⟩, hW45, hsame45.mono (by decide) (by decide)⟩
            · exact retN X39 hx (t := .boolean) Bd.returns (by simp) (hb hby d6_72) hr45
            · show QEqD Z a1 a2 p1 p2 p3 p4 p5 r1 r2 r3 r4 r5 h0 n0 _ T39.heap _
              rw [e39]
              exact ⟨(congrArg some (congrArg Value.int (by first | (simp only [eqF, if_pos hb13, if_pos hb20, if_pos hb27, if_pos hb34, if_neg hb41]; done)))), N0, rfl⟩
        · skip
          have K46 : Gx p e below s₁ f0 T32 (mkF m 72 #[.val (.ref a1), .val (.ref a2), .val (.ref a2)] [(.int (0 : Int32))]) := fun t kt => K33 t (by
            show Steps p.tables e below (T32.setTop (mkF m 53 #[.val (.ref a1), .val (.ref a2), .val (.ref a2)] [(.int r4), (.int p4)])) _
            refine XS.icmpYes X32.here hx rfl (pc0 := 53) (pc' := 71) rfl (hb hby d6_53) rfl (feq hb34).2 (by decide) (by decide) ?_
            show Steps p.tables e below (T32.setTop (mkF m 71 #[.val (.ref a1), .val (.ref a2), .val (.ref a2)] [])) _
            refine XS.iconst X32.here hx rfl (hb hby d6_71) ?_
            exact kt)
          obtain ⟨fs47, hr47, hrun47, hended47, hW47, hsame47⟩ := X32.leave (v := some (.int (0 : Int32))) (fun h => by rw [Bd.returns] at h; cases h)
          refine ⟨_, _, pre0 _ (K46 _ ?_), hrun47, hended47, _, _, rfl, ?_, ⟨_, rfl⟩, hW47, hsame47.mono (by decide) (by decide)⟩
          · exact retN X32 hx (t := .boolean) Bd.returns (by simp) (hb hby d6_72) hr47
          · show QEqD Z a1 a2 p1 p2 p3 p4 p5 r1 r2 r3 r4 r5 h0 n0 _ T32.heap _
            rw [e32]
            exact ⟨(congrArg some (congrArg Value.int (by first | (simp only [eqF, if_pos hb13, if_pos hb20, if_pos hb27, if_neg hb34]; done)))), N0, rfl⟩
      · skip
        have K48 : Gx p e below s₁ f0 T25 (mkF m 72 #[.val (.ref a1), .val (.ref a2), .val (.ref a2)] [(.int (0 : Int32))]) := fun t kt => K26 t (by
          show Steps p.tables e below (T25.setTop (mkF m 42 #[.val (.ref a1), .val (.ref a2), .val (.ref a2)] [(.int r3), (.int p3)])) _
          refine XS.icmpYes X25.here hx rfl (pc0 := 42) (pc' := 71) rfl (hb hby d6_42) rfl (feq hb27).2 (by decide) (by decide) ?_
          show Steps p.tables e below (T25.setTop (mkF m 71 #[.val (.ref a1), .val (.ref a2), .val (.ref a2)] [])) _
          refine XS.iconst X25.here hx rfl (hb hby d6_71) ?_
          exact kt)
        obtain ⟨fs49, hr49, hrun49, hended49, hW49, hsame49⟩ := X25.leave (v := some (.int (0 : Int32))) (fun h => by rw [Bd.returns] at h; cases h)
        refine ⟨_, _, pre0 _ (K48 _ ?_), hrun49, hended49, _, _, rfl, ?_, ⟨_, rfl⟩, hW49, hsame49.mono (by decide) (by decide)⟩
        · exact retN X25 hx (t := .boolean) Bd.returns (by simp) (hb hby d6_72) hr49
        · show QEqD Z a1 a2 p1 p2 p3 p4 p5 r1 r2 r3 r4 r5 h0 n0 _ T25.heap _
          rw [e25]
          exact ⟨(congrArg some (congrArg Value.int (by first | (simp only [eqF, if_pos hb13, if_pos hb20, if_neg hb27]; done)))), N0, rfl⟩
    · skip
      have K50 : Gx p e below s₁ f0 T18 (mkF m 72 #[.val (.ref a1), .val (.ref a2), .val (.ref a2)] [(.int (0 : Int32))]) := fun t kt => K19 t (by
        show Steps p.tables e below (T18.setTop (mkF m 31 #[.val (.ref a1), .val (.ref a2), .val (.ref a2)] [(.int r2), (.int p2)])) _
        refine XS.icmpYes X18.here hx rfl (pc0 := 31) (pc' := 71) rfl (hb hby d6_31) rfl (feq hb20).2 (by decide) (by decide) ?_
        show Steps p.tables e below (T18.setTop (mkF m 71 #[.val (.ref a1), .val (.ref a2), .val (.ref a2)] [])) _
        refine XS.iconst X18.here hx rfl (hb hby d6_71) ?_
        exact kt)
      obtain ⟨fs51, hr51, hrun51, hended51, hW51, hsame51⟩ := X18.leave (v := some (.int (0 : Int32))) (fun h => by rw [Bd.returns] at h; cases h)
      refine ⟨_, _, pre0 _ (K50 _ ?_), hrun51, hended51, _, _, rfl, ?_, ⟨_, rfl⟩, hW51, hsame51.mono (by decide) (by decide)⟩
      · exact retN X18 hx (t := .boolean) Bd.returns (by simp) (hb hby d6_72) hr51
      · show QEqD Z a1 a2 p1 p2 p3 p4 p5 r1 r2 r3 r4 r5 h0 n0 _ T18.heap _
        rw [e18]
        exact ⟨(congrArg some (congrArg Value.int (by first | (simp only [eqF, if_pos hb13, if_neg hb20]; done)))), N0, rfl⟩
  · skip
    have K52 : Gx p e below s₁ f0 T11 (mkF m 72 #[.val (.ref a1), .val (.ref a2), .val (.ref a2)] [(.int (0 : Int32))]) := fun t kt => K12 t (by
      show Steps p.tables e below (T11.setTop (mkF m 20 #[.val (.ref a1), .val (.ref a2), .val (.ref a2)] [(.int r1), (.int p1)])) _
      refine XS.icmpYes X11.here hx rfl (pc0 := 20) (pc' := 71) rfl (hb hby d6_20) rfl (feq hb13).2 (by decide) (by decide) ?_
      show Steps p.tables e below (T11.setTop (mkF m 71 #[.val (.ref a1), .val (.ref a2), .val (.ref a2)] [])) _
      refine XS.iconst X11.here hx rfl (hb hby d6_71) ?_
      exact kt)
    obtain ⟨fs53, hr53, hrun53, hended53, hW53, hsame53⟩ := X11.leave (v := some (.int (0 : Int32))) (fun h => by rw [Bd.returns] at h; cases h)
    refine ⟨_, _, pre0 _ (K52 _ ?_), hrun53, hended53, _, _, rfl, ?_, ⟨_, rfl⟩, hW53, hsame53.mono (by decide) (by decide)⟩
    · exact retN X11 hx (t := .boolean) Bd.returns (by simp) (hb hby d6_72) hr53
    · show QEqD Z a1 a2 p1 p2 p3 p4 p5 r1 r2 r3 r4 r5 h0 n0 _ T11.heap _
      rw [e11]
      exact ⟨(congrArg some (congrArg Value.int (by first | (simp only [eqF, if_neg hb13]; done)))), N0, rfl⟩
theorem ef_EqN (m : MethodId) (a1 : Addr) : entryFrame m #[(.ref a1), .null] 3 = mkF m 0 #[.val (.ref a1), .val .null, .unset] [] := by first | (simp [entryFrame, mkF, argsToLocals, Value.category]; done) | rfl
def QEqN (Z : State) (a1 : Addr) (h0 : Heap) (n0 : Nat) (v : Option Value) (h : Heap) (L : List Loc) : Prop := v = some (.int (0 : Int32)) ∧ Fr n0 L ∧ h = h0
set_option maxRecDepth 65536 in
set_option maxHeartbeats 40000000 in
theorem rmEqN (l : Launch) (Z : State) (a0 : Array Value) (hw : ∀ d ∈ tables_1, d.before a0 Z = true) (ws : List Jvm.Cond) (a1 : Addr) (h0 : Heap) (n0 : Nat) (Z0 : n0 ≤ h0.size) :
    MetFree l (⟨"com/example/vaxwire/vaxwire/hl7/Delimiters", "equals", "(Ljava/lang/Object;)Z"⟩ : MethodName) (head1 (Jvm.Cond.code (⟨"com/example/vaxwire/vaxwire/hl7/Delimiters", "equals", "(Ljava/lang/Object;)Z"⟩ : MethodName) prog_121_method_3_code 3 (some .boolean) :: ws) ({ frames := 0, cells := 0, slots := 0, locals := 0 } : Room)) (fun a U => a = #[(.ref a1), .null] ∧ Z.Warmed39 U.vm ∧ U.heap = h0) (fun _ _ _ _ _ => True) (fun _ U o U' => ∃ v L, o = .returned v ∧ QEqN Z a1 h0 n0 v U'.heap L ∧ FrameEnd U o U' L ({ frames := 0, cells := 0, slots := 0, locals := 0 } : Room).cells ({ frames := 0, cells := 0, slots := 0, locals := 0 } : Room).slots) := by
  refine MetFree.of_bodySF (plainFor_of_name pn_6) hisR ?_
  intro p e s m args below meth c s₁ Bd hml0 hP hK
  obtain ⟨rfl, hZ, hh⟩ := hP
  have hx := Bd.exec
  have hby := Bd.bytes
  have hml : c.maxLocals = 3 := hml0
  have hown : s.vm.findClass "com/example/vaxwire/vaxwire/hl7/Delimiters" = some m.cls := findClass_of_methodNamed Bd.named
  have hnm := (name_of_methodNamed Bd.named Bd.method).1
  have X0 : Stand p l e ({ frames := 0, cells := 0, slots := 0, locals := 0 } : Room) s m #[(.ref a1), .null] below meth c s₁ [] 0 0 := Stand.of_body Bd
  have hs0 : h0 = s.heap := hh.symm
  have e0 : s₁.heap = h0 := by rw [← hh, Bd.state]; rfl
  have N0 := Fr.nil n0
  obtain ⟨f0, hf0⟩ : ∃ f, f = entryFrame m #[(.ref a1), .null] 3 := ⟨_, rfl⟩
  have pre0 : ∀ t, Steps p.tables e below (s₁.setTop f0) t → Steps p.tables e below (s₁.setTop (entryFrame m #[(.ref a1), .null] 3)) t := fun t k => hf0 ▸ k
  have K0 : Gx p e below s₁ f0 s₁ (mkF m 0 #[.val (.ref a1), .val .null, .unset] []) := fun t kt => by rw [hf0]; exact castTop (ef_EqN m a1) kt
  have K1 : Gx p e below s₁ f0 s₁ (mkF m 1 #[.val (.ref a1), .val .null, .unset] [.null]) := fun t kt => K0 t (by
    show Steps p.tables e below (s₁.setTop (mkF m 0 #[.val (.ref a1), .val .null, .unset] [])) _
    refine XS.aloadN X0.here hx rfl (hb hby d6_0) rfl rfl ?_
    exact kt)
  have K3 : Gx p e below s₁ f0 s₁ (mkF m 4 #[.val (.ref a1), .val .null, .unset] [(.int (0 : Int32))]) := fun t kt => K1 t (X0.instanceofNull hx (g := (mkF m 1 #[.val (.ref a1), .val .null, .unset] [.null])) rfl rfl (hb hby d6_1) _ kt)
  have K4 : Gx p e below s₁ f0 s₁ (mkF m 72 #[.val (.ref a1), .val .null, .unset] [(.int (0 : Int32))]) := fun t kt => K3 t (by
    show Steps p.tables e below (s₁.setTop (mkF m 4 #[.val (.ref a1), .val .null, .unset] [(.int (0 : Int32))])) _
    refine XS.ifYes X0.here hx rfl (pc0 := 4) (pc' := 71) rfl (hb hby d6_4) rfl ((if0 _ _).trans (teq (by decide)).1) (by decide) (by decide) ?_
    show Steps p.tables e below (s₁.setTop (mkF m 71 #[.val (.ref a1), .val .null, .unset] [])) _
    refine XS.iconst X0.here hx rfl (hb hby d6_71) ?_
    exact kt)
  obtain ⟨fs5, hr5, hrun5, hended5, hW5, hsame5⟩ := X0.leave (v := some (.int (0 : Int32))) (fun h => by rw [Bd.returns] at h; cases h)
  refine ⟨_, _, pre0 _ (K4 _ ?_), hrun5, hended5, _, _, rfl, ?_, ⟨_, rfl⟩, hW5, hsame5.mono (by decide) (by decide)⟩
  · exact retN X0 hx (t := .boolean) Bd.returns (by simp) (hb hby d6_72) hr5
  · show QEqN Z a1 h0 n0 _ s₁.heap _
    rw [e0]
    exact ⟨rfl, N0, rfl⟩
theorem ef_EqI (m : MethodId) (a1 : Addr) (a2 : Addr) : entryFrame m #[(.ref a1), (.ref a2)] 3 = mkF m 0 #[.val (.ref a1), .val (.ref a2), .unset] [] := by first | (simp [entryFrame, mkF, argsToLocals, Value.category]; done) | rfl
def QEqI (Z : State) (a1 : Addr) (a2 : Addr) (h0 : Heap) (n0 : Nat) (v : Option Value) (h : Heap) (L : List Loc) : Prop := v = some (.int (0 : Int32)) ∧ Fr n0 L ∧ h = h0
set_option maxRecDepth 65536 in
set_option maxHeartbeats 40000000 in
theorem rmEqI (l : Launch) (Z : State) (a0 : Array Value) (hw : ∀ d ∈ tables_1, d.before a0 Z = true) (ws : List Jvm.Cond) (a1 : Addr) (a2 : Addr) (h0 : Heap) (n0 : Nat) (Z0 : n0 ≤ h0.size) (pr0 : Exa Z h0 a2 "java/lang/Integer") :
    MetFree l (⟨"com/example/vaxwire/vaxwire/hl7/Delimiters", "equals", "(Ljava/lang/Object;)Z"⟩ : MethodName) (head1 (Jvm.Cond.code (⟨"com/example/vaxwire/vaxwire/hl7/Delimiters", "equals", "(Ljava/lang/Object;)Z"⟩ : MethodName) prog_121_method_3_code 3 (some .boolean) :: ws) ({ frames := 0, cells := 0, slots := 0, locals := 0 } : Room)) (fun a U => a = #[(.ref a1), (.ref a2)] ∧ Z.Warmed39 U.vm ∧ U.heap = h0) (fun _ _ _ _ _ => True) (fun _ U o U' => ∃ v L, o = .returned v ∧ QEqI Z a1 a2 h0 n0 v U'.heap L ∧ FrameEnd U o U' L ({ frames := 0, cells := 0, slots := 0, locals := 0 } : Room).cells ({ frames := 0, cells := 0, slots := 0, locals := 0 } : Room).slots) := by
  refine MetFree.of_bodySF (plainFor_of_name pn_6) hisR ?_
  intro p e s m args below meth c s₁ Bd hml0 hP hK
  obtain ⟨rfl, hZ, hh⟩ := hP
  have hx := Bd.exec
  have hby := Bd.bytes
  have hml : c.maxLocals = 3 := hml0
  have hown : s.vm.findClass "com/example/vaxwire/vaxwire/hl7/Delimiters" = some m.cls := findClass_of_methodNamed Bd.named
  have hnm := (name_of_methodNamed Bd.named Bd.method).1
  have X0 : Stand p l e ({ frames := 0, cells := 0, slots := 0, locals := 0 } : Room) s m #[(.ref a1), (.ref a2)] below meth c s₁ [] 0 0 := Stand.of_body Bd
  have hs0 : h0 = s.heap := hh.symm
  have e0 : s₁.heap = h0 := by rw [← hh, Bd.state]; rfl
  have N0 := Fr.nil n0
  obtain ⟨f0, hf0⟩ : ∃ f, f = entryFrame m #[(.ref a1), (.ref a2)] 3 := ⟨_, rfl⟩
  have pre0 : ∀ t, Steps p.tables e below (s₁.setTop f0) t → Steps p.tables e below (s₁.setTop (entryFrame m #[(.ref a1), (.ref a2)] 3)) t := fun t k => hf0 ▸ k
  have K0 : Gx p e below s₁ f0 s₁ (mkF m 0 #[.val (.ref a1), .val (.ref a2), .unset] []) := fun t kt => by rw [hf0]; exact castTop (ef_EqI m a1 a2) kt
  have K1 : Gx p e below s₁ f0 s₁ (mkF m 1 #[.val (.ref a1), .val (.ref a2), .unset] [(.ref a2)]) := fun t kt => K0 t (by
    show Steps p.tables e below (s₁.setTop (mkF m 0 #[.val (.ref a1), .val (.ref a2), .unset] [])) _
    refine XS.aloadN X0.here hx rfl (hb hby d6_0) rfl rfl ?_
    exact kt)
  obtain ⟨T2, X2, e2, st2⟩ := instNo X0 hx hZ hown (hw _ (List.mem_of_getElem? (i := 40) rfl)) e0 pr0 (own_no hw) (g := (mkF m 1 #[.val (.ref a1), .val (.ref a2), .unset] [(.ref a2)])) rfl rfl (hb hby d6_1)
  have K3 : Gx p e below s₁ f0 T2 (mkF m 4 #[.val (.ref a1), .val (.ref a2), .unset] [(.int (0 : Int32))]) := fun t kt => K1 t (st2 t kt)
  have K4 : Gx p e below s₁ f0 T2 (mkF m 72 #[.val (.ref a1), .val (.ref a2), .unset] [(.int (0 : Int32))]) := fun t kt => K3 t (by
    show Steps p.tables e below (T2.setTop (mkF m 4 #[.val (.ref a1), .val (.ref a2), .unset] [(.int (0 : Int32))])) _
    refine XS.ifYes X2.here hx rfl (pc0 := 4) (pc' := 71) rfl (hb hby d6_4) rfl ((if0 _ _).trans (teq (by decide)).1) (by decide) (by decide) ?_
    show Steps p.tables e below (T2.setTop (mkF m 71 #[.val (.ref a1), .val (.ref a2), .unset] [])) _
    refine XS.iconst X2.here hx rfl (hb hby d6_71) ?_
    exact kt)
  obtain ⟨fs5, hr5, hrun5, hended5, hW5, hsame5⟩ := X2.leave (v := some (.int (0 : Int32))) (fun h => by rw [Bd.returns] at h; cases h)
  refine ⟨_, _, pre0 _ (K4 _ ?_), hrun5, hended5, _, _, rfl, ?_, ⟨_, rfl⟩, hW5, hsame5.mono (by decide) (by decide)⟩
  · exact retN X2 hx (t := .boolean) Bd.returns (by simp) (hb hby d6_72) hr5
  · show QEqI Z a1 a2 h0 n0 _ T2.heap _
    rw [e2]
    exact ⟨rfl, N0, rfl⟩
theorem pn_0 : plainName "com/example/vaxwire/vaxwire/hl7/DelimitersEqualsPinLaw" = true := by first | (simp [plainName, overriddenIn]; done) | decide +kernel
theorem pd__IICC_C : parseMethodDescriptor "(IICC)C" = some ⟨[.int, .int, .char, .char], some .char⟩ := by decide +kernel
theorem pd__CCCCC_V : parseMethodDescriptor "(CCCCC)V" = some ⟨[.char, .char, .char, .char, .char], none⟩ := by decide +kernel
theorem pd__I_Ljava_lang_Integer_ : parseMethodDescriptor "(I)Ljava/lang/Integer;" = some ⟨[.int], some (.object "java/lang/Integer")⟩ := by decide +kernel
theorem pd__Ljava_lang_Object__Z : parseMethodDescriptor "(Ljava/lang/Object;)Z" = some ⟨[(.object "java/lang/Object")], some .boolean⟩ := by decide +kernel
theorem ef_0 (m : MethodId) (p1 : Int32) (p2 : Int32) (p3 : Int32) (p4 : Int32) (p5 : Int32) (p6 : Int32) : entryFrame m #[(.int p1), (.int p2), (.int p3), (.int p4), (.int p5), (.int p6)] maxLocals = mkF m 0 #[.val (.int p1), .val (.int p2), .val (.int p3), .val (.int p4), .val (.int p5), .val (.int p6), .unset, .unset, .unset, .unset, .unset, .unset, .unset, .unset, .unset, .unset, .unset, .unset, .unset, .unset, .unset, .unset] [] := by first | (simp [entryFrame, mkF, argsToLocals, Value.category, maxLocals]; done) | rfl
def Q0 (Z : State) (p1 : Int32) (p2 : Int32) (p3 : Int32) (p4 : Int32) (p5 : Int32) (p6 : Int32) (ca : Addr) (kc : ClassId) (vc : List Value) (h0 : Heap) (n0 : Nat) (v : Option Value) (h : Heap) (L : List Loc) : Prop := v = some (.int (1 : Int32)) ∧ Fr n0 L
set_option maxRecDepth 65536 in
set_option maxHeartbeats 40000000 in
theorem rm0 (l : Launch) (Z : State) (a0 : Array Value) (hw : ∀ d ∈ tables_1, d.before a0 Z = true) (ws : List Jvm.Cond) (p1 : Int32) (p2 : Int32) (p3 : Int32) (p4 : Int32) (p5 : Int32) (p6 : Int32) (ca : Addr) (kc : ClassId) (vc : List Value) (h0 : Heap) (n0 : Nat) (Z0 : n0 ≤ h0.size) (pr0 : Sta Z Z.heap "java/lang/Integer$IntegerCache" "high" "I" (.int (127 : Int32))) (pr1 : Sta Z Z.heap "java/lang/Integer$IntegerCache" "cache" "[Ljava/lang/Integer;" (.ref ca)) (pr2 : Arv Z Z.heap ca kc (.object "java/lang/Integer") (256 : Int32) vc .null) (pr3 : Old Z n0 h0) (hc : ∀ w : Int32, ¬ (w < (-128 : Int32)) → ¬ ((127 : Int32) < w) → ∃ y, vc.getD (w + (128 : Int32)).toNatClampNeg .null = .ref y ∧ Exa Z Z.heap y "java/lang/Integer") :
    MetFree l x (head1 (Jvm.Cond.code x code maxLocals ret :: ws) room_1) (fun a U => a = #[(.int p1), (.int p2), (.int p3), (.int p4), (.int p5), (.int p6)] ∧ Z.Warmed39 U.vm ∧ U.heap = h0) (fun _ _ _ _ _ => True) (fun _ U o U' => ∃ v L, o = .returned v ∧ Q0 Z p1 p2 p3 p4 p5 p6 ca kc vc h0 n0 v U'.heap L ∧ FrameEnd U o U' L room_1.cells room_1.slots) := by
  refine MetFree.of_bodySF (plainFor_of_name pn_0) hisR ?_
  intro p e s m args below meth c s₁ Bd hml0 hP hK
  obtain ⟨rfl, hZ, hh⟩ := hP
  have hx := Bd.exec
  have hby := Bd.bytes
  have hml : c.maxLocals = 22 := hml0
  have hown : s.vm.findClass "com/example/vaxwire/vaxwire/hl7/DelimitersEqualsPinLaw" = some m.cls := findClass_of_methodNamed Bd.named
  have hnm := (name_of_methodNamed Bd.named Bd.method).1
  have X0 : Stand p l e room_1 s m #[(.int p1), (.int p2), (.int p3), (.int p4), (.int p5), (.int p6)] below meth c s₁ [] 0 0 := Stand.of_body Bd
  have hs0 : h0 = s.heap := hh.symm
  have e0 : s₁.heap = h0 := by rw [← hh, Bd.state]; rfl
  have N0 := Fr.nil n0
  obtain ⟨f0, hf0⟩ : ∃ f, f = entryFrame m #[(.int p1), (.int p2), (.int p3), (.int p4), (.int p5), (.int p6)] maxLocals := ⟨_, rfl⟩
  have pre0 : ∀ t, Steps p.tables e below (s₁.setTop f0) t → Steps p.tables e below (s₁.setTop (entryFrame m #[(.int p1), (.int p2), (.int p3), (.int p4), (.int p5), (.int p6)] maxLocals)) t := fun t k => hf0 ▸ k
  have K0 : Gx p e below s₁ f0 s₁ (mkF m 0 #[.val (.int p1), .val (.int p2), .val (.int p3), .val (.int p4), .val (.int p5), .val (.int p6), .unset, .unset, .unset, .unset, .unset, .unset, .unset, .unset, .unset, .unset, .unset, .unset, .unset, .unset, .unset, .unset] []) := fun t kt => by rw [hf0]; exact castTop (ef_0 m p1 p2 p3 p4 p5 p6) kt
  have K1 : Gx p e below s₁ f0 s₁ (mkF m 29 #[.val (.int p1), .val (.int p2), .val (.int p3), .val (.int p4), .val (.int p5), .val (.int p6), .val (.int (p1.toUInt32.toUInt16.toUInt32.toInt32)), .val (.int (p2.toUInt32.toUInt16.toUInt32.toInt32)), .val (.int (p3.toUInt32.toUInt16.toUInt32.toInt32)), .val (.int (p4.toUInt32.toUInt16.toUInt32.toInt32)), .val (.int (p5.toUInt32.toUInt16.toUInt32.toInt32)), .val (.int (((p6.toUInt32 >>> ((16 : Int32) &&& 31).toUInt32).toInt32).toUInt32.toUInt16.toUInt32.toInt32)), .unset, .unset, .unset, .unset, .unset, .unset, .unset, .unset, .unset, .unset] []) := fun t kt => K0 t (by
    show Steps p.tables e below (s₁.setTop (mkF m 0 #[.val (.int p1), .val (.int p2), .val (.int p3), .val (.int p4), .val (.int p5), .val (.int p6), .unset, .unset, .unset, .unset, .unset, .unset, .unset, .unset, .unset, .unset, .unset, .unset, .unset, .unset, .unset, .unset] [])) _
    refine XS.iloadN X0.here hx rfl (hb hby at_0) rfl ?_
    show Steps p.tables e below (s₁.setTop (mkF m 1 #[.val (.int p1), .val (.int p2), .val (.int p3), .val (.int p4), .val (.int p5), .val (.int p6), .unset, .unset, .unset, .unset, .unset, .unset, .unset, .unset, .unset, .unset, .unset, .unset, .unset, .unset, .unset, .unset] [(.int p1)])) _
    refine XS.i2c X0.here hx rfl (hb hby at_1) rfl ?_
    show Steps p.tables e below (s₁.setTop (mkF m 2 #[.val (.int p1), .val (.int p2), .val (.int p3), .val (.int p4), .val (.int p5), .val (.int p6), .unset, .unset, .unset, .unset, .unset, .unset, .unset, .unset, .unset, .unset, .unset, .unset, .unset, .unset, .unset, .unset] [(.int (p1.toUInt32.toUInt16.toUInt32.toInt32))])) _
    refine XS.istore X0.here hx rfl (hb hby at_2) rfl (l' := #[.val (.int p1), .val (.int p2), .val (.int p3), .val (.int p4), .val (.int p5), .val (.int p6), .val (.int (p1.toUInt32.toUInt16.toUInt32.toInt32)), .unset, .unset, .unset, .unset, .unset, .unset, .unset, .unset, .unset, .unset, .unset, .unset, .unset, .unset, .unset]) rfl ?_
    show Steps p.tables e below (s₁.setTop (mkF m 4 #[.val (.int p1), .val (.int p2), .val (.int p3), .val (.int p4), .val (.int p5), .val (.int p6), .val (.int (p1.toUInt32.toUInt16.toUInt32.toInt32)), .unset, .unset, .unset, .unset, .unset, .unset, .unset, .unset, .unset, .unset, .unset, .unset, .unset, .unset, .unset] [])) _
    refine XS.iloadN X0.here hx rfl (hb hby at_4) rfl ?_
    show Steps p.tables e below (s₁.setTop (mkF m 5 #[.val (.int p1), .val (.int p2), .val (.int p3), .val (.int p4), .val (.int p5), .val (.int p6), .val (.int (p1.toUInt32.toUInt16.toUInt32.toInt32)), .unset, .unset, .unset, .unset, .unset, .unset, .unset, .unset, .unset, .unset, .unset, .unset, .unset, .unset, .unset] [(.int p2)])) _
    refine XS.i2c X0.here hx rfl (hb hby at_5) rfl ?_
    show Steps p.tables e below (s₁.setTop (mkF m 6 #[.val (.int p1), .val (.int p2), .val (.int p3), .val (.int p4), .val (.int p5), .val (.int p6), .val (.int (p1.toUInt32.toUInt16.toUInt32.toInt32)), .unset, .unset, .unset, .unset, .unset, .unset, .unset, .unset, .unset, .unset, .unset, .unset, .unset, .unset, .unset] [(.int (p2.toUInt32.toUInt16.toUInt32.toInt32))])) _
    refine XS.istore X0.here hx rfl (hb hby at_6) rfl (l' := #[.val (.int p1), .val (.int p2), .val (.int p3), .val (.int p4), .val (.int p5), .val (.int p6), .val (.int (p1.toUInt32.toUInt16.toUInt32.toInt32)), .val (.int (p2.toUInt32.toUInt16.toUInt32.toInt32)), .unset, .unset, .unset, .unset, .unset, .unset, .unset, .unset, .unset, .unset, .unset, .unset, .unset, .unset]) rfl ?_
    show Steps p.tables e below (s₁.setTop (mkF m 8 #[.val (.int p1), .val (.int p2), .val (.int p3), .val (.int p4), .val (.int p5), .val (.int p6), .val (.int (p1.toUInt32.toUInt16.toUInt32.toInt32)), .val (.int (p2.toUInt32.toUInt16.toUInt32.toInt32)), .unset, .unset, .unset, .unset, .unset, .unset, .unset, .unset, .unset, .unset, .unset, .unset, .unset, .unset] [])) _
    refine XS.iloadN X0.here hx rfl (hb hby at_8) rfl ?_
    show Steps p.tables e below (s₁.setTop (mkF m 9 #[.val (.int p1), .val (.int p2), .val (.int p3), .val (.int p4), .val (.int p5), .val (.int p6), .val (.int (p1.toUInt32.toUInt16.toUInt32.toInt32)), .val (.int (p2.toUInt32.toUInt16.toUInt32.toInt32)), .unset, .unset, .unset, .unset, .unset, .unset, .unset, .unset, .unset, .unset, .unset, .unset, .unset, .unset] [(.int p3)])) _
    refine XS.i2c X0.here hx rfl (hb hby at_9) rfl ?_
    show Steps p.tables e below (s₁.setTop (mkF m 10 #[.val (.int p1), .val (.int p2), .val (.int p3), .val (.int p4), .val (.int p5), .val (.int p6), .val (.int (p1.toUInt32.toUInt16.toUInt32.toInt32)), .val (.int (p2.toUInt32.toUInt16.toUInt32.toInt32)), .unset, .unset, .unset, .unset, .unset, .unset, .unset, .unset, .unset, .unset, .unset, .unset, .unset, .unset] [(.int (p3.toUInt32.toUInt16.toUInt32.toInt32))])) _
    refine XS.istore X0.here hx rfl (hb hby at_10) rfl (l' := #[.val (.int p1), .val (.int p2), .val (.int p3), .val (.int p4), .val (.int p5), .val (.int p6), .val (.int (p1.toUInt32.toUInt16.toUInt32.toInt32)), .val (.int (p2.toUInt32.toUInt16.toUInt32.toInt32)), .val (.int (p3.toUInt32.toUInt16.toUInt32.toInt32)), .unset, .unset, .unset, .unset, .unset, .unset, .unset, .unset, .unset, .unset, .unset, .unset, .unset]) rfl ?_
    show Steps p.tables e below (s₁.setTop (mkF m 12 #[.val (.int p1), .val (.int p2), .val (.int p3), .val (.int p4), .val (.int p5), .val (.int p6), .val (.int (p1.toUInt32.toUInt16.toUInt32.toInt32)), .val (.int (p2.toUInt32.toUInt16.toUInt32.toInt32)), .val (.int (p3.toUInt32.toUInt16.toUInt32.toInt32)), .unset, .unset, .unset, .unset, .unset, .unset, .unset, .unset, .unset, .unset, .unset, .unset, .unset] [])) _
    refine XS.iloadN X0.here hx rfl (hb hby at_12) rfl ?_
    show Steps p.tables e below (s₁.setTop (mkF m 13 #[.val (.int p1), .val (.int p2), .val (.int p3), .val (.int p4), .val (.int p5), .val (.int p6), .val (.int (p1.toUInt32.toUInt16.toUInt32.toInt32)), .val (.int (p2.toUInt32.toUInt16.toUInt32.toInt32)), .val (.int (p3.toUInt32.toUInt16.toUInt32.toInt32)), .unset, .unset, .unset, .unset, .unset, .unset, .unset, .unset, .unset, .unset, .unset, .unset, .unset] [(.int p4)])) _
    refine XS.i2c X0.here hx rfl (hb hby at_13) rfl ?_
    show Steps p.tables e below (s₁.setTop (mkF m 14 #[.val (.int p1), .val (.int p2), .val (.int p3), .val (.int p4), .val (.int p5), .val (.int p6), .val (.int (p1.toUInt32.toUInt16.toUInt32.toInt32)), .val (.int (p2.toUInt32.toUInt16.toUInt32.toInt32)), .val (.int (p3.toUInt32.toUInt16.toUInt32.toInt32)), .unset, .unset, .unset, .unset, .unset, .unset, .unset, .unset, .unset, .unset, .unset, .unset, .unset] [(.int (p4.toUInt32.toUInt16.toUInt32.toInt32))])) _
    refine XS.istore X0.here hx rfl (hb hby at_14) rfl (l' := #[.val (.int p1), .val (.int p2), .val (.int p3), .val (.int p4), .val (.int p5), .val (.int p6), .val (.int (p1.toUInt32.toUInt16.toUInt32.toInt32)), .val (.int (p2.toUInt32.toUInt16.toUInt32.toInt32)), .val (.int (p3.toUInt32.toUInt16.toUInt32.toInt32)), .val (.int (p4.toUInt32.toUInt16.toUInt32.toInt32)), .unset, .unset, .unset, .unset, .unset, .unset, .unset, .unset, .unset, .unset, .unset, .unset]) rfl ?_
    show Steps p.tables e below (s₁.setTop (mkF m 16 #[.val (.int p1), .val (.int p2), .val (.int p3), .val (.int p4), .val (.int p5), .val (.int p6), .val (.int (p1.toUInt32.toUInt16.toUInt32.toInt32)), .val (.int (p2.toUInt32.toUInt16.toUInt32.toInt32)), .val (.int (p3.toUInt32.toUInt16.toUInt32.toInt32)), .val (.int (p4.toUInt32.toUInt16.toUInt32.toInt32)), .unset, .unset, .unset, .unset, .unset, .unset, .unset, .unset, .unset, .unset, .unset, .unset] [])) _
    refine XS.iload X0.here hx rfl (hb hby at_16) rfl ?_
    show Steps p.tables e below (s₁.setTop (mkF m 18 #[.val (.int p1), .val (.int p2), .val (.int p3), .val (.int p4), .val (.int p5), .val (.int p6), .val (.int (p1.toUInt32.toUInt16.toUInt32.toInt32)), .val (.int (p2.toUInt32.toUInt16.toUInt32.toInt32)), .val (.int (p3.toUInt32.toUInt16.toUInt32.toInt32)), .val (.int (p4.toUInt32.toUInt16.toUInt32.toInt32)), .unset, .unset, .unset, .unset, .unset, .unset, .unset, .unset, .unset, .unset, .unset, .unset] [(.int p5)])) _
    refine XS.i2c X0.here hx rfl (hb hby at_18) rfl ?_
    show Steps p.tables e below (s₁.setTop (mkF m 19 #[.val (.int p1), .val (.int p2), .val (.int p3), .val (.int p4), .val (.int p5), .val (.int p6), .val (.int (p1.toUInt32.toUInt16.toUInt32.toInt32)), .val (.int (p2.toUInt32.toUInt16.toUInt32.toInt32)), .val (.int (p3.toUInt32.toUInt16.toUInt32.toInt32)), .val (.int (p4.toUInt32.toUInt16.toUInt32.toInt32)), .unset, .unset, .unset, .unset, .unset, .unset, .unset, .unset, .unset, .unset, .unset, .unset] [(.int (p5.toUInt32.toUInt16.toUInt32.toInt32))])) _
    refine XS.istore X0.here hx rfl (hb hby at_19) rfl (l' := #[.val (.int p1), .val (.int p2), .val (.int p3), .val (.int p4), .val (.int p5), .val (.int p6), .val (.int (p1.toUInt32.toUInt16.toUInt32.toInt32)), .val (.int (p2.toUInt32.toUInt16.toUInt32.toInt32)), .val (.int (p3.toUInt32.toUInt16.toUInt32.toInt32)), .val (.int (p4.toUInt32.toUInt16.toUInt32.toInt32)), .val (.int (p5.toUInt32.toUInt16.toUInt32.toInt32)), .unset, .unset, .unset, .unset, .unset, .unset, .unset, .unset, .unset, .unset, .unset]) rfl ?_
    show Steps p.tables e below (s₁.setTop (mkF m 21 #[.val (.int p1), .val (.int p2), .val (.int p3), .val (.int p4), .val (.int p5), .val (.int p6), .val (.int (p1.toUInt32.toUInt16.toUInt32.toInt32)), .val (.int (p2.toUInt32.toUInt16.toUInt32.toInt32)), .val (.int (p3.toUInt32.toUInt16.toUInt32.toInt32)), .val (.int (p4.toUInt32.toUInt16.toUInt32.toInt32)), .val (.int (p5.toUInt32.toUInt16.toUInt32.toInt32)), .unset, .unset, .unset, .unset, .unset, .unset, .unset, .unset, .unset, .unset, .unset] [])) _
    refine XS.iload X0.here hx rfl (hb hby at_21) rfl ?_
    show Steps p.tables e below (s₁.setTop (mkF m 23 #[.val (.int p1), .val (.int p2), .val (.int p3), .val (.int p4), .val (.int p5), .val (.int p6), .val (.int (p1.toUInt32.toUInt16.toUInt32.toInt32)), .val (.int (p2.toUInt32.toUInt16.toUInt32.toInt32)), .val (.int (p3.toUInt32.toUInt16.toUInt32.toInt32)), .val (.int (p4.toUInt32.toUInt16.toUInt32.toInt32)), .val (.int (p5.toUInt32.toUInt16.toUInt32.toInt32)), .unset, .unset, .unset, .unset, .unset, .unset, .unset, .unset, .unset, .unset, .unset] [(.int p6)])) _
    refine XS.bipush X0.here hx rfl (hb hby at_23) ?_
    show Steps p.tables e below (s₁.setTop (mkF m 25 #[.val (.int p1), .val (.int p2), .val (.int p3), .val (.int p4), .val (.int p5), .val (.int p6), .val (.int (p1.toUInt32.toUInt16.toUInt32.toInt32)), .val (.int (p2.toUInt32.toUInt16.toUInt32.toInt32)), .val (.int (p3.toUInt32.toUInt16.toUInt32.toInt32)), .val (.int (p4.toUInt32.toUInt16.toUInt32.toInt32)), .val (.int (p5.toUInt32.toUInt16.toUInt32.toInt32)), .unset, .unset, .unset, .unset, .unset, .unset, .unset, .unset, .unset, .unset, .unset] [(.int (16 : Int32)), (.int p6)])) _
    refine XS.iushr X0.here hx rfl (hb hby at_25) rfl ?_
    show Steps p.tables e below (s₁.setTop (mkF m 26 #[.val (.int p1), .val (.int p2), .val (.int p3), .val (.int p4), .val (.int p5), .val (.int p6), .val (.int (p1.toUInt32.toUInt16.toUInt32.toInt32)), .val (.int (p2.toUInt32.toUInt16.toUInt32.toInt32)), .val (.int (p3.toUInt32.toUInt16.toUInt32.toInt32)), .val (.int (p4.toUInt32.toUInt16.toUInt32.toInt32)), .val (.int (p5.toUInt32.toUInt16.toUInt32.toInt32)), .unset, .unset, .unset, .unset, .unset, .unset, .unset, .unset, .unset, .unset, .unset] [(.int ((p6.toUInt32 >>> ((16 : Int32) &&& 31).toUInt32).toInt32))])) _
    refine XS.i2c X0.here hx rfl (hb hby at_26) rfl ?_
    show Steps p.tables e below (s₁.setTop (mkF m 27 #[.val (.int p1), .val (.int p2), .val (.int p3), .val (.int p4), .val (.int p5), .val (.int p6), .val (.int (p1.toUInt32.toUInt16.toUInt32.toInt32)), .val (.int (p2.toUInt32.toUInt16.toUInt32.toInt32)), .val (.int (p3.toUInt32.toUInt16.toUInt32.toInt32)), .val (.int (p4.toUInt32.toUInt16.toUInt32.toInt32)), .val (.int (p5.toUInt32.toUInt16.toUInt32.toInt32)), .unset, .unset, .unset, .unset, .unset, .unset, .unset, .unset, .unset, .unset, .unset] [(.int (((p6.toUInt32 >>> ((16 : Int32) &&& 31).toUInt32).toInt32).toUInt32.toUInt16.toUInt32.toInt32))])) _
    refine XS.istore X0.here hx rfl (hb hby at_27) rfl (l' := #[.val (.int p1), .val (.int p2), .val (.int p3), .val (.int p4), .val (.int p5), .val (.int p6), .val (.int (p1.toUInt32.toUInt16.toUInt32.toInt32)), .val (.int (p2.toUInt32.toUInt16.toUInt32.toInt32)), .val (.int (p3.toUInt32.toUInt16.toUInt32.toInt32)), .val (.int (p4.toUInt32.toUInt16.toUInt32.toInt32)), .val (.int (p5.toUInt32.toUInt16.toUInt32.toInt32)), .val (.int (((p6.toUInt32 >>> ((16 : Int32) &&& 31).toUInt32).toInt32).toUInt32.toUInt16.toUInt32.toInt32)), .unset, .unset, .unset, .unset, .unset, .unset, .unset, .unset, .unset, .unset]) rfl ?_
    exact kt)
  obtain ⟨v2, hv2⟩ : ∃ z : Int32, z = (p1.toUInt32.toUInt16.toUInt32.toInt32) := ⟨_, rfl⟩
  rw [← hv2] at K1
  obtain ⟨v3, hv3⟩ : ∃ z : Int32, z = (p2.toUInt32.toUInt16.toUInt32.toInt32) := ⟨_, rfl⟩
  rw [← hv3] at K1
  obtain ⟨v4, hv4⟩ : ∃ z : Int32, z = (p3.toUInt32.toUInt16.toUInt32.toInt32) := ⟨_, rfl⟩
  rw [← hv4] at K1
  obtain ⟨v5, hv5⟩ : ∃ z : Int32, z = (p4.toUInt32.toUInt16.toUInt32.toInt32) := ⟨_, rfl⟩
  rw [← hv5] at K1
  obtain ⟨v6, hv6⟩ : ∃ z : Int32, z = (p5.toUInt32.toUInt16.toUInt32.toInt32) := ⟨_, rfl⟩
  rw [← hv6] at K1
  obtain ⟨v7, hv7⟩ : ∃ z : Int32, z = (((p6.toUInt32 >>> ((16 : Int32) &&& 31).toUInt32).toInt32).toUInt32.toUInt16.toUInt32.toInt32) := ⟨_, rfl⟩
  rw [← hv7] at K1
  have K8 : Gx p e below s₁ f0 s₁ (mkF m 36 #[.val (.int p1), .val (.int p2), .val (.int p3), .val (.int p4), .val (.int p5), .val (.int p6), .val (.int v2), .val (.int v3), .val (.int v4), .val (.int v5), .val (.int v6), .val (.int v7), .unset, .unset, .unset, .unset, .unset, .unset, .unset, .unset, .unset, .unset] [(.int v7), (.int v2), (.int (1 : Int32)), (.int p6)]) := fun t kt => K1 t (by
    show Steps p.tables e below (s₁.setTop (mkF m 29 #[.val (.int p1), .val (.int p2), .val (.int p3), .val (.int p4), .val (.int p5), .val (.int p6), .val (.int v2), .val (.int v3), .val (.int v4), .val (.int v5), .val (.int v6), .val (.int v7), .unset, .unset, .unset, .unset, .unset, .unset, .unset, .unset, .unset, .unset] [])) _
    refine XS.iload X0.here hx rfl (hb hby at_29) rfl ?_
    show Steps p.tables e below (s₁.setTop (mkF m 31 #[.val (.int p1), .val (.int p2), .val (.int p3), .val (.int p4), .val (.int p5), .val (.int p6), .val (.int v2), .val (.int v3), .val (.int v4), .val (.int v5), .val (.int v6), .val (.int v7), .unset, .unset, .unset, .unset, .unset, .unset, .unset, .unset, .unset, .unset] [(.int p6)])) _
    refine XS.iconst X0.here hx rfl (hb hby at_31) ?_
    show Steps p.tables e below (s₁.setTop (mkF m 32 #[.val (.int p1), .val (.int p2), .val (.int p3), .val (.int p4), .val (.int p5), .val (.int p6), .val (.int v2), .val (.int v3), .val (.int v4), .val (.int v5), .val (.int v6), .val (.int v7), .unset, .unset, .unset, .unset, .unset, .unset, .unset, .unset, .unset, .unset] [(.int (1 : Int32)), (.int p6)])) _
    refine XS.iload X0.here hx rfl (hb hby at_32) rfl ?_
    show Steps p.tables e below (s₁.setTop (mkF m 34 #[.val (.int p1), .val (.int p2), .val (.int p3), .val (.int p4), .val (.int p5), .val (.int p6), .val (.int v2), .val (.int v3), .val (.int v4), .val (.int v5), .val (.int v6), .val (.int v7), .unset, .unset, .unset, .unset, .unset, .unset, .unset, .unset, .unset, .unset] [(.int v2), (.int (1 : Int32)), (.int p6)])) _
    refine XS.iload X0.here hx rfl (hb hby at_34) rfl ?_
    exact kt)
  obtain ⟨_, _, ⟨T9, L9, k9, n9⟩, -, X9', ⟨Lc9, hQ9, l9, y9, z9⟩, st9⟩ := Jvm.LawKit.callS X0 hx (y := (⟨"com/example/vaxwire/vaxwire/hl7/DelimitersEqualsPinLaw", "pick", "(IICC)C"⟩ : MethodName)) hown (mvT hZ (hw _ (List.mem_of_getElem? (i := 0) rfl))) (mvT hZ (hw _ (List.mem_of_getElem? (i := 1) rfl))) (mvT hZ (hw _ (List.mem_of_getElem? (i := 2) rfl))) (mvT hZ (hw _ (List.mem_of_getElem? (i := 3) rfl))) (by decide) (backOf (W := 0) (rmPick l Z a0 hw [] p6 (1 : Int32) v2 v7 h0 n0 (Nat.le_trans Z0 (Keep.refl h0 []).1) ) hZ (hw _ (List.mem_of_getElem? (i := 3) rfl)) (hw _ (List.mem_of_getElem? (i := 2) rfl)) (by decide) (by decide)) (g := (mkF m 36 #[.val (.int p1), .val (.int p2), .val (.int p3), .val (.int p4), .val (.int p5), .val (.int p6), .val (.int v2), .val (.int v3), .val (.int v4), .val (.int v5), .val (.int v6), .val (.int v7), .unset, .unset, .unset, .unset, .unset, .unset, .unset, .unset, .unset, .unset] [(.int v7), (.int v2), (.int (1 : Int32)), (.int p6)])) rfl (by rw [hml]; rfl) (argsL := [(.int p6), (.int (1 : Int32)), (.int v2), (.int v7)]) (rest := []) (lenOf pd__IICC_C rfl) rfl (by show 2 * 0 + _ ≤ _; exact Nat.le_of_eq rfl) (hb hby at_36) (fun _ _ => ⟨rfl, e0, (by decide : 0 + 0 ≤ _), (by decide : 0 + 0 ≤ _)⟩)
  dsimp only [Pt.U, Pt.locs, Pt.cells, Pt.slots] at X9' l9 y9 z9 st9 hQ9
  subst l9 y9 z9
  obtain ⟨rfl, N9q, e9⟩ := hQ9
  obtain ⟨lc9, X9, N9⟩ : ∃ lc, Stand p l e room_1 s m #[(.int p1), (.int p2), (.int p3), (.int p4), (.int p5), (.int p6)] below meth c T9 lc 0 0 ∧ Fr n0 lc := ⟨_, X9', Fr.app N0 N9q⟩
  have K10 : Gx p e below s₁ f0 T9 (mkF m 39 #[.val (.int p1), .val (.int p2), .val (.int p3), .val (.int p4), .val (.int p5), .val (.int p6), .val (.int v2), .val (.int v3), .val (.int v4), .val (.int v5), .val (.int v6), .val (.int v7), .unset, .unset, .unset, .unset, .unset, .unset, .unset, .unset, .unset, .unset] [(.int (pickF p6 (1 : Int32) v2 v7))]) := fun t kt => K8 t (st9 t kt)
  obtain ⟨v11, hv11⟩ : ∃ z : Int32, z = (pickF p6 (1 : Int32) v2 v7) := ⟨_, rfl⟩
  rw [← hv11] at K10
  have K12 : Gx p e below s₁ f0 T9 (mkF m 48 #[.val (.int p1), .val (.int p2), .val (.int p3), .val (.int p4), .val (.int p5), .val (.int p6), .val (.int v2), .val (.int v3), .val (.int v4), .val (.int v5), .val (.int v6), .val (.int v7), .val (.int v11), .unset, .unset, .unset, .unset, .unset, .unset, .unset, .unset, .unset] [(.int v7), (.int v3), (.int (2 : Int32)), (.int p6)]) := fun t kt => K10 t (by
    show Steps p.tables e below (T9.setTop (mkF m 39 #[.val (.int p1), .val (.int p2), .val (.int p3), .val (.int p4), .val (.int p5), .val (.int p6), .val (.int v2), .val (.int v3), .val (.int v4), .val (.int v5), .val (.int v6), .val (.int v7), .unset, .unset, .unset, .unset, .unset, .unset, .unset, .unset, .unset, .unset] [(.int v11)])) _
    refine XS.istore X9.here hx rfl (hb hby at_39) rfl (l' := #[.val (.int p1), .val (.int p2), .val (.int p3), .val (.int p4), .val (.int p5), .val (.int p6), .val (.int v2), .val (.int v3), .val (.int v4), .val (.int v5), .val (.int v6), .val (.int v7), .val (.int v11), .unset, .unset, .unset, .unset, .unset, .unset, .unset, .unset, .unset]) rfl ?_
    show Steps p.tables e below (T9.setTop (mkF m 41 #[.val (.int p1), .val (.int p2), .val (.int p3), .val (.int p4), .val (.int p5), .val (.int p6), .val (.int v2), .val (.int v3), .val (.int v4), .val (.int v5), .val (.int v6), .val (.int v7), .val (.int v11), .unset, .unset, .unset, .unset, .unset, .unset, .unset, .unset, .unset] [])) _
    refine XS.iload X9.here hx rfl (hb hby at_41) rfl ?_
    show Steps p.tables e below (T9.setTop (mkF m 43 #[.val (.int p1), .val (.int p2), .val (.int p3), .val (.int p4), .val (.int p5), .val (.int p6), .val (.int v2), .val (.int v3), .val (.int v4), .val (.int v5), .val (.int v6), .val (.int v7), .val (.int v11), .unset, .unset, .unset, .unset, .unset, .unset, .unset, .unset, .unset] [(.int p6)])) _
    refine XS.iconst X9.here hx rfl (hb hby at_43) ?_
    show Steps p.tables e below (T9.setTop (mkF m 44 #[.val (.int p1), .val (.int p2), .val (.int p3), .val (.int p4), .val (.int p5), .val (.int p6), .val (.int v2), .val (.int v3), .val (.int v4), .val (.int v5), .val (.int v6), .val (.int v7), .val (.int v11), .unset, .unset, .unset, .unset, .unset, .unset, .unset, .unset, .unset] [(.int (2 : Int32)), (.int p6)])) _
    refine XS.iload X9.here hx rfl (hb hby at_44) rfl ?_
    show Steps p.tables e below (T9.setTop (mkF m 46 #[.val (.int p1), .val (.int p2), .val (.int p3), .val (.int p4), .val (.int p5), .val (.int p6), .val (.int v2), .val (.int v3), .val (.int v4), .val (.int v5), .val (.int v6), .val (.int v7), .val (.int v11), .unset, .unset, .unset, .unset, .unset, .unset, .unset, .unset, .unset] [(.int v3), (.int (2 : Int32)), (.int p6)])) _
    refine XS.iload X9.here hx rfl (hb hby at_46) rfl ?_
    exact kt)
  obtain ⟨_, _, ⟨T13, L13, k13, n13⟩, -, X13', ⟨Lc13, hQ13, l13, y13, z13⟩, st13⟩ := Jvm.LawKit.callS X9 hx (y := (⟨"com/example/vaxwire/vaxwire/hl7/DelimitersEqualsPinLaw", "pick", "(IICC)C"⟩ : MethodName)) hown (mvT hZ (hw _ (List.mem_of_getElem? (i := 0) rfl))) (mvT hZ (hw _ (List.mem_of_getElem? (i := 1) rfl))) (mvT hZ (hw _ (List.mem_of_getElem? (i := 2) rfl))) (mvT hZ (hw _ (List.mem_of_getElem? (i := 3) rfl))) (by decide) (backOf (W := 0) (rmPick l Z a0 hw [] p6 (2 : Int32) v3 v7 h0 n0 (Nat.le_trans Z0 (Keep.refl h0 []).1) ) hZ (hw _ (List.mem_of_getElem? (i := 3) rfl)) (hw _ (List.mem_of_getElem? (i := 2) rfl)) (by decide) (by decide)) (g := (mkF m 48 #[.val (.int p1), .val (.int p2), .val (.int p3), .val (.int p4), .val (.int p5), .val (.int p6), .val (.int v2), .val (.int v3), .val (.int v4), .val (.int v5), .val (.int v6), .val (.int v7), .val (.int v11), .unset, .unset, .unset, .unset, .unset, .unset, .unset, .unset, .unset] [(.int v7), (.int v3), (.int (2 : Int32)), (.int p6)])) rfl (by rw [hml]; rfl) (argsL := [(.int p6), (.int (2 : Int32)), (.int v3), (.int v7)]) (rest := []) (lenOf pd__IICC_C rfl) rfl (by show 2 * 0 + _ ≤ _; exact Nat.le_of_eq rfl) (hb hby at_48) (fun _ _ => ⟨rfl, e9, (by decide : 0 + 0 ≤ _), (by decide : 0 + 0 ≤ _)⟩)
  dsimp only [Pt.U, Pt.locs, Pt.cells, Pt.slots] at X13' l13 y13 z13 st13 hQ13
  subst l13 y13 z13
  obtain ⟨rfl, N13q, e13⟩ := hQ13
  obtain ⟨lc13, X13, N13⟩ : ∃ lc, Stand p l e room_1 s m #[(.int p1), (.int p2), (.int p3), (.int p4), (.int p5), (.int p6)] below meth c T13 lc 0 0 ∧ Fr n0 lc := ⟨_, X13', Fr.app N9 N13q⟩
  have K14 : Gx p e below s₁ f0 T13 (mkF m 51 #[.val (.int p1), .val (.int p2), .val (.int p3), .val (.int p4), .val (.int p5), .val (.int p6), .val (.int v2), .val (.int v3), .val (.int v4), .val (.int v5), .val (.int v6), .val (.int v7), .val (.int v11), .unset, .unset, .unset, .unset, .unset, .unset, .unset, .unset, .unset] [(.int (pickF p6 (2 : Int32) v3 v7))]) := fun t kt => K12 t (st13 t kt)
  obtain ⟨v15, hv15⟩ : ∃ z : Int32, z = (pickF p6 (2 : Int32) v3 v7) := ⟨_, rfl⟩
  rw [← hv15] at K14
  have K16 : Gx p e below s₁ f0 T13 (mkF m 60 #[.val (.int p1), .val (.int p2), .val (.int p3), .val (.int p4), .val (.int p5), .val (.int p6), .val (.int v2), .val (.int v3), .val (.int v4), .val (.int v5), .val (.int v6), .val (.int v7), .val (.int v11), .val (.int v15), .unset, .unset, .unset, .unset, .unset, .unset, .unset, .unset] [(.int v7), (.int v4), (.int (4 : Int32)), (.int p6)]) := fun t kt => K14 t (by
    show Steps p.tables e below (T13.setTop (mkF m 51 #[.val (.int p1), .val (.int p2), .val (.int p3), .val (.int p4), .val (.int p5), .val (.int p6), .val (.int v2), .val (.int v3), .val (.int v4), .val (.int v5), .val (.int v6), .val (.int v7), .val (.int v11), .unset, .unset, .unset, .unset, .unset, .unset, .unset, .unset, .unset] [(.int v15)])) _
    refine XS.istore X13.here hx rfl (hb hby at_51) rfl (l' := #[.val (.int p1), .val (.int p2), .val (.int p3), .val (.int p4), .val (.int p5), .val (.int p6), .val (.int v2), .val (.int v3), .val (.int v4), .val (.int v5), .val (.int v6), .val (.int v7), .val (.int v11), .val (.int v15), .unset, .unset, .unset, .unset, .unset, .unset, .unset, .unset]) rfl ?_
    show Steps p.tables e below (T13.setTop (mkF m 53 #[.val (.int p1), .val (.int p2), .val (.int p3), .val (.int p4), .val (.int p5), .val (.int p6), .val (.int v2), .val (.int v3), .val (.int v4), .val (.int v5), .val (.int v6), .val (.int v7), .val (.int v11), .val (.int v15), .unset, .unset, .unset, .unset, .unset, .unset, .unset, .unset] [])) _
    refine XS.iload X13.here hx rfl (hb hby at_53) rfl ?_
    show Steps p.tables e below (T13.setTop (mkF m 55 #[.val (.int p1), .val (.int p2), .val (.int p3), .val (.int p4), .val (.int p5), .val (.int p6), .val (.int v2), .val (.int v3), .val (.int v4), .val (.int v5), .val (.int v6), .val (.int v7), .val (.int v11), .val (.int v15), .unset, .unset, .unset, .unset, .unset, .unset, .unset, .unset] [(.int p6)])) _
    refine XS.iconst X13.here hx rfl (hb hby at_55) ?_
    show Steps p.tables e below (T13.setTop (mkF m 56 #[.val (.int p1), .val (.int p2), .val (.int p3), .val (.int p4), .val (.int p5), .val (.int p6), .val (.int v2), .val (.int v3), .val (.int v4), .val (.int v5), .val (.int v6), .val (.int v7), .val (.int v11), .val (.int v15), .unset, .unset, .unset, .unset, .unset, .unset, .unset, .unset] [(.int (4 : Int32)), (.int p6)])) _
    refine XS.iload X13.here hx rfl (hb hby at_56) rfl ?_
    show Steps p.tables e below (T13.setTop (mkF m 58 #[.val (.int p1), .val (.int p2), .val (.int p3), .val (.int p4), .val (.int p5), .val (.int p6), .val (.int v2), .val (.int v3), .val (.int v4), .val (.int v5), .val (.int v6), .val (.int v7), .val (.int v11), .val (.int v15), .unset, .unset, .unset, .unset, .unset, .unset, .unset, .unset] [(.int v4), (.int (4 : Int32)), (.int p6)])) _
    refine XS.iload X13.here hx rfl (hb hby at_58) rfl ?_
    exact kt)
  obtain ⟨_, _, ⟨T17, L17, k17, n17⟩, -, X17', ⟨Lc17, hQ17, l17, y17, z17⟩, st17⟩ := Jvm.LawKit.callS X13 hx (y := (⟨"com/example/vaxwire/vaxwire/hl7/DelimitersEqualsPinLaw", "pick", "(IICC)C"⟩ : MethodName)) hown (mvT hZ (hw _ (List.mem_of_getElem? (i := 0) rfl))) (mvT hZ (hw _ (List.mem_of_getElem? (i := 1) rfl))) (mvT hZ (hw _ (List.mem_of_getElem? (i := 2) rfl))) (mvT hZ (hw _ (List.mem_of_getElem? (i := 3) rfl))) (by decide) (backOf (W := 0) (rmPick l Z a0 hw [] p6 (4 : Int32) v4 v7 h0 n0 (Nat.le_trans Z0 (Keep.refl h0 []).1) ) hZ (hw _ (List.mem_of_getElem? (i := 3) rfl)) (hw _ (List.mem_of_getElem? (i := 2) rfl)) (by decide) (by decide)) (g := (mkF m 60 #[.val (.int p1), .val (.int p2), .val (.int p3), .val (.int p4), .val (.int p5), .val (.int p6), .val (.int v2), .val (.int v3), .val (.int v4), .val (.int v5), .val (.int v6), .val (.int v7), .val (.int v11), .val (.int v15), .unset, .unset, .unset, .unset, .unset, .unset, .unset, .unset] [(.int v7), (.int v4), (.int (4 : Int32)), (.int p6)])) rfl (by rw [hml]; rfl) (argsL := [(.int p6), (.int (4 : Int32)), (.int v4), (.int v7)]) (rest := []) (lenOf pd__IICC_C rfl) rfl (by show 2 * 0 + _ ≤ _; exact Nat.le_of_eq rfl) (hb hby at_60) (fun _ _ => ⟨rfl, e13, (by decide : 0 + 0 ≤ _), (by decide : 0 + 0 ≤ _)⟩)
  dsimp only [Pt.U, Pt.locs, Pt.cells, Pt.slots] at X17' l17 y17 z17 st17 hQ17
  subst l17 y17 z17
  obtain ⟨rfl, N17q, e17⟩ := hQ17
  obtain ⟨lc17, X17, N17⟩ : ∃ lc, Stand p l e room_1 s m #[(.int p1), (.int p2), (.int p3), (.int p4), (.int p5), (.int p6)] below meth c T17 lc 0 0 ∧ Fr n0 lc := ⟨_, X17', Fr.app N13 N17q⟩
  have K18 : Gx p e below s₁ f0 T17 (mkF m 63 #[.val (.int p1), .val (.int p2), .val (.int p3), .val (.int p4), .val (.int p5), .val (.int p6), .val (.int v2), .val (.int v3), .val (.int v4), .val (.int v5), .val (.int v6), .val (.int v7), .val (.int v11), .val (.int v15), .unset, .unset, .unset, .unset, .unset, .unset, .unset, .unset] [(.int (pickF p6 (4 : Int32) v4 v7))]) := fun t kt => K16 t (st17 t kt)
  obtain ⟨v19, hv19⟩ : ∃ z : Int32, z = (pickF p6 (4 : Int32) v4 v7) := ⟨_, rfl⟩
  rw [← hv19] at K18
  have K20 : Gx p e below s₁ f0 T17 (mkF m 73 #[.val (.int p1), .val (.int p2), .val (.int p3), .val (.int p4), .val (.int p5), .val (.int p6), .val (.int v2), .val (.int v3), .val (.int v4), .val (.int v5), .val (.int v6), .val (.int v7), .val (.int v11), .val (.int v15), .val (.int v19), .unset, .unset, .unset, .unset, .unset, .unset, .unset] [(.int v7), (.int v5), (.int (8 : Int32)), (.int p6)]) := fun t kt => K18 t (by
    show Steps p.tables e below (T17.setTop (mkF m 63 #[.val (.int p1), .val (.int p2), .val (.int p3), .val (.int p4), .val (.int p5), .val (.int p6), .val (.int v2), .val (.int v3), .val (.int v4), .val (.int v5), .val (.int v6), .val (.int v7), .val (.int v11), .val (.int v15), .unset, .unset, .unset, .unset, .unset, .unset, .unset, .unset] [(.int v19)])) _
    refine XS.istore X17.here hx rfl (hb hby at_63) rfl (l' := #[.val (.int p1), .val (.int p2), .val (.int p3), .val (.int p4), .val (.int p5), .val (.int p6), .val (.int v2), .val (.int v3), .val (.int v4), .val (.int v5), .val (.int v6), .val (.int v7), .val (.int v11), .val (.int v15), .val (.int v19), .unset, .unset, .unset, .unset, .unset, .unset, .unset]) rfl ?_
    show Steps p.tables e below (T17.setTop (mkF m 65 #[.val (.int p1), .val (.int p2), .val (.int p3), .val (.int p4), .val (.int p5), .val (.int p6), .val (.int v2), .val (.int v3), .val (.int v4), .val (.int v5), .val (.int v6), .val (.int v7), .val (.int v11), .val (.int v15), .val (.int v19), .unset, .unset, .unset, .unset, .unset, .unset, .unset] [])) _
    refine XS.iload X17.here hx rfl (hb hby at_65) rfl ?_
    show Steps p.tables e below (T17.setTop (mkF m 67 #[.val (.int p1), .val (.int p2), .val (.int p3), .val (.int p4), .val (.int p5), .val (.int p6), .val (.int v2), .val (.int v3), .val (.int v4), .val (.int v5), .val (.int v6), .val (.int v7), .val (.int v11), .val (.int v15), .val (.int v19), .unset, .unset, .unset, .unset, .unset, .unset, .unset] [(.int p6)])) _
    refine XS.bipush X17.here hx rfl (hb hby at_67) ?_
    show Steps p.tables e below (T17.setTop (mkF m 69 #[.val (.int p1), .val (.int p2), .val (.int p3), .val (.int p4), .val (.int p5), .val (.int p6), .val (.int v2), .val (.int v3), .val (.int v4), .val (.int v5), .val (.int v6), .val (.int v7), .val (.int v11), .val (.int v15), .val (.int v19), .unset, .unset, .unset, .unset, .unset, .unset, .unset] [(.int (8 : Int32)), (.int p6)])) _
    refine XS.iload X17.here hx rfl (hb hby at_69) rfl ?_
    show Steps p.tables e below (T17.setTop (mkF m 71 #[.val (.int p1), .val (.int p2), .val (.int p3), .val (.int p4), .val (.int p5), .val (.int p6), .val (.int v2), .val (.int v3), .val (.int v4), .val (.int v5), .val (.int v6), .val (.int v7), .val (.int v11), .val (.int v15), .val (.int v19), .unset, .unset, .unset, .unset, .unset, .unset, .unset] [(.int v5), (.int (8 : Int32)), (.int p6)])) _
    refine XS.iload X17.here hx rfl (hb hby at_71) rfl ?_
    exact kt)
  obtain ⟨_, _, ⟨T21, L21, k21, n21⟩, -, X21', ⟨Lc21, hQ21, l21, y21, z21⟩, st21⟩ := Jvm.LawKit.callS X17 hx (y := (⟨"com/example/vaxwire/vaxwire/hl7/DelimitersEqualsPinLaw", "pick", "(IICC)C"⟩ : MethodName)) hown (mvT hZ (hw _ (List.mem_of_getElem? (i := 0) rfl))) (mvT hZ (hw _ (List.mem_of_getElem? (i := 1) rfl))) (mvT hZ (hw _ (List.mem_of_getElem? (i := 2) rfl))) (mvT hZ (hw _ (List.mem_of_getElem? (i := 3) rfl))) (by decide) (backOf (W := 0) (rmPick l Z a0 hw [] p6 (8 : Int32) v5 v7 h0 n0 (Nat.le_trans Z0 (Keep.refl h0 []).1) ) hZ (hw _ (List.mem_of_getElem? (i := 3) rfl)) (hw _ (List.mem_of_getElem? (i := 2) rfl)) (by decide) (by decide)) (g := (mkF m 73 #[.val (.int p1), .val (.int p2), .val (.int p3), .val (.int p4), .val (.int p5), .val (.int p6), .val (.int v2), .val (.int v3), .val (.int v4), .val (.int v5), .val (.int v6), .val (.int v7), .val (.int v11), .val (.int v15), .val (.int v19), .unset, .unset, .unset, .unset, .unset, .unset, .unset] [(.int v7), (.int v5), (.int (8 : Int32)), (.int p6)])) rfl (by rw [hml]; rfl) (argsL := [(.int p6), (.int (8 : Int32)), (.int v5), (.int v7)]) (rest := []) (lenOf pd__IICC_C rfl) rfl (by show 2 * 0 + _ ≤ _; exact Nat.le_of_eq rfl) (hb hby at_73) (fun _ _ => ⟨rfl, e17, (by decide : 0 + 0 ≤ _), (by decide : 0 + 0 ≤ _)⟩)
  dsimp only [Pt.U, Pt.locs, Pt.cells, Pt.slots] at X21' l21 y21 z21 st21 hQ21
  subst l21 y21 z21
  obtain ⟨rfl, N21q, e21⟩ := hQ21
  obtain ⟨lc21, X21, N21⟩ : ∃ lc, Stand p l e room_1 s m #[(.int p1), (.int p2), (.int p3), (.int p4), (.int p5), (.int p6)] below meth c T21 lc 0 0 ∧ Fr n0 lc := ⟨_, X21', Fr.app N17 N21q⟩
  have K22 : Gx p e below s₁ f0 T21 (mkF m 76 #[.val (.int p1), .val (.int p2), .val (.int p3), .val (.int p4), .val (.int p5), .val (.int p6), .val (.int v2), .val (.int v3), .val (.int v4), .val (.int v5), .val (.int v6), .val (.int v7), .val (.int v11), .val (.int v15), .val (.int v19), .unset, .unset, .unset, .unset, .unset, .unset, .unset] [(.int (pickF p6 (8 : Int32) v5 v7))]) := fun t kt => K20 t (st21 t kt)
  obtain ⟨v23, hv23⟩ : ∃ z : Int32, z = (pickF p6 (8 : Int32) v5 v7) := ⟨_, rfl⟩
  rw [← hv23] at K22
  have K24 : Gx p e below s₁ f0 T21 (mkF m 86 #[.val (.int p1), .val (.int p2), .val (.int p3), .val (.int p4), .val (.int p5), .val (.int p6), .val (.int v2), .val (.int v3), .val (.int v4), .val (.int v5), .val (.int v6), .val (.int v7), .val (.int v11), .val (.int v15), .val (.int v19), .val (.int v23), .unset, .unset, .unset, .unset, .unset, .unset] [(.int v7), (.int v6), (.int (16 : Int32)), (.int p6)]) := fun t kt => K22 t (by
    show Steps p.tables e below (T21.setTop (mkF m 76 #[.val (.int p1), .val (.int p2), .val (.int p3), .val (.int p4), .val (.int p5), .val (.int p6), .val (.int v2), .val (.int v3), .val (.int v4), .val (.int v5), .val (.int v6), .val (.int v7), .val (.int v11), .val (.int v15), .val (.int v19), .unset, .unset, .unset, .unset, .unset, .unset, .unset] [(.int v23)])) _
    refine XS.istore X21.here hx rfl (hb hby at_76) rfl (l' := #[.val (.int p1), .val (.int p2), .val (.int p3), .val (.int p4), .val (.int p5), .val (.int p6), .val (.int v2), .val (.int v3), .val (.int v4), .val (.int v5), .val (.int v6), .val (.int v7), .val (.int v11), .val (.int v15), .val (.int v19), .val (.int v23), .unset, .unset, .unset, .unset, .unset, .unset]) rfl ?_
    show Steps p.tables e below (T21.setTop (mkF m 78 #[.val (.int p1), .val (.int p2), .val (.int p3), .val (.int p4), .val (.int p5), .val (.int p6), .val (.int v2), .val (.int v3), .val (.int v4), .val (.int v5), .val (.int v6), .val (.int v7), .val (.int v11), .val (.int v15), .val (.int v19), .val (.int v23), .unset, .unset, .unset, .unset, .unset, .unset] [])) _
    refine XS.iload X21.here hx rfl (hb hby at_78) rfl ?_
    show Steps p.tables e below (T21.setTop (mkF m 80 #[.val (.int p1), .val (.int p2), .val (.int p3), .val (.int p4), .val (.int p5), .val (.int p6), .val (.int v2), .val (.int v3), .val (.int v4), .val (.int v5), .val (.int v6), .val (.int v7), .val (.int v11), .val (.int v15), .val (.int v19), .val (.int v23), .unset, .unset, .unset, .unset, .unset, .unset] [(.int p6)])) _
    refine XS.bipush X21.here hx rfl (hb hby at_80) ?_
    show Steps p.tables e below (T21.setTop (mkF m 82 #[.val (.int p1), .val (.int p2), .val (.int p3), .val (.int p4), .val (.int p5), .val (.int p6), .val (.int v2), .val (.int v3), .val (.int v4), .val (.int v5), .val (.int v6), .val (.int v7), .val (.int v11), .val (.int v15), .val (.int v19), .val (.int v23), .unset, .unset, .unset, .unset, .unset, .unset] [(.int (16 : Int32)), (.int p6)])) _
    refine XS.iload X21.here hx rfl (hb hby at_82) rfl ?_
    show Steps p.tables e below (T21.setTop (mkF m 84 #[.val (.int p1), .val (.int p2), .val (.int p3), .val (.int p4), .val (.int p5), .val (.int p6), .val (.int v2), .val (.int v3), .val (.int v4), .val (.int v5), .val (.int v6), .val (.int v7), .val (.int v11), .val (.int v15), .val (.int v19), .val (.int v23), .unset, .unset, .unset, .unset, .unset, .unset] [(.int v6), (.int (16 : Int32)), (.int p6)])) _
    refine XS.iload X21.here hx rfl (hb hby at_84) rfl ?_
    exact kt)
  obtain ⟨_, _, ⟨T25, L25, k25, n25⟩, -, X25', ⟨Lc25, hQ25, l25, y25, z25⟩, st25⟩ := Jvm.LawKit.callS X21 hx (y := (⟨"com/example/vaxwire/vaxwire/hl7/DelimitersEqualsPinLaw", "pick", "(IICC)C"⟩ : MethodName)) hown (mvT hZ (hw _ (List.mem_of_getElem? (i := 0) rfl))) (mvT hZ (hw _ (List.mem_of_getElem? (i := 1) rfl))) (mvT hZ (hw _ (List.mem_of_getElem? (i := 2) rfl))) (mvT hZ (hw _ (List.mem_of_getElem? (i := 3) rfl))) (by decide) (backOf (W := 0) (rmPick l Z a0 hw [] p6 (16 : Int32) v6 v7 h0 n0 (Nat.le_trans Z0 (Keep.refl h0 []).1) ) hZ (hw _ (List.mem_of_getElem? (i := 3) rfl)) (hw _ (List.mem_of_getElem? (i := 2) rfl)) (by decide) (by decide)) (g := (mkF m 86 #[.val (.int p1), .val (.int p2), .val (.int p3), .val (.int p4), .val (.int p5), .val (.int p6), .val (.int v2), .val (.int v3), .val (.int v4), .val (.int v5), .val (.int v6), .val (.int v7), .val (.int v11), .val (.int v15), .val (.int v19), .val (.int v23), .unset, .unset, .unset, .unset, .unset, .unset] [(.int v7), (.int v6), (.int (16 : Int32)), (.int p6)])) rfl (by rw [hml]; rfl) (argsL := [(.int p6), (.int (16 : Int32)), (.int v6), (.int v7)]) (rest := []) (lenOf pd__IICC_C rfl) rfl (by show 2 * 0 + _ ≤ _; exact Nat.le_of_eq rfl) (hb hby at_86) (fun _ _ => ⟨rfl, e21, (by decide : 0 + 0 ≤ _), (by decide : 0 + 0 ≤ _)⟩)
  dsimp only [Pt.U, Pt.locs, Pt.cells, Pt.slots] at X25' l25 y25 z25 st25 hQ25
  subst l25 y25 z25
  obtain ⟨rfl, N25q, e25⟩ := hQ25
  obtain ⟨lc25, X25, N25⟩ : ∃ lc, Stand p l e room_1 s m #[(.int p1), (.int p2), (.int p3), (.int p4), (.int p5), (.int p6)] below meth c T25 lc 0 0 ∧ Fr n0 lc := ⟨_, X25', Fr.app N21 N25q⟩
  have K26 : Gx p e below s₁ f0 T25 (mkF m 89 #[.val (.int p1), .val (.int p2), .val (.int p3), .val (.int p4), .val (.int p5), .val (.int p6), .val (.int v2), .val (.int v3), .val (.int v4), .val (.int v5), .val (.int v6), .val (.int v7), .val (.int v11), .val (.int v15), .val (.int v19), .val (.int v23), .unset, .unset, .unset, .unset, .unset, .unset] [(.int (pickF p6 (16 : Int32) v6 v7))]) := fun t kt => K24 t (st25 t kt)
  obtain ⟨v27, hv27⟩ : ∃ z : Int32, z = (pickF p6 (16 : Int32) v6 v7) := ⟨_, rfl⟩
  rw [← hv27] at K26
  have K28 : Gx p e below s₁ f0 T25 (mkF m 91 #[.val (.int p1), .val (.int p2), .val (.int p3), .val (.int p4), .val (.int p5), .val (.int p6), .val (.int v2), .val (.int v3), .val (.int v4), .val (.int v5), .val (.int v6), .val (.int v7), .val (.int v11), .val (.int v15), .val (.int v19), .val (.int v23), .val (.int v27), .unset, .unset, .unset, .unset, .unset] []) := fun t kt => K26 t (by
    show Steps p.tables e below (T25.setTop (mkF m 89 #[.val (.int p1), .val (.int p2), .val (.int p3), .val (.int p4), .val (.int p5), .val (.int p6), .val (.int v2), .val (.int v3), .val (.int v4), .val (.int v5), .val (.int v6), .val (.int v7), .val (.int v11), .val (.int v15), .val (.int v19), .val (.int v23), .unset, .unset, .unset, .unset, .unset, .unset] [(.int v27)])) _
    refine XS.istore X25.here hx rfl (hb hby at_89) rfl (l' := #[.val (.int p1), .val (.int p2), .val (.int p3), .val (.int p4), .val (.int p5), .val (.int p6), .val (.int v2), .val (.int v3), .val (.int v4), .val (.int v5), .val (.int v6), .val (.int v7), .val (.int v11), .val (.int v15), .val (.int v19), .val (.int v23), .val (.int v27), .unset, .unset, .unset, .unset, .unset]) rfl ?_
    exact kt)
  obtain ⟨T29, h29, X29, e29, E29, A29, D29, -, st29⟩ := newO X25 hx hZ hown (hw _ (List.mem_of_getElem? (i := 4) rfl)) (hw _ (List.mem_of_getElem? (i := 5) rfl)) (hw _ (List.mem_of_getElem? (i := 6) rfl)) e25 (g := (mkF m 91 #[.val (.int p1), .val (.int p2), .val (.int p3), .val (.int p4), .val (.int p5), .val (.int p6), .val (.int v2), .val (.int v3), .val (.int v4), .val (.int v5), .val (.int v6), .val (.int v7), .val (.int v11), .val (.int v15), .val (.int v19), .val (.int v23), .val (.int v27), .unset, .unset, .unset, .unset, .unset] [])) rfl (hb hby at_91) (by decide) (by decide)
  obtain ⟨b29, g29⟩ : ∃ z, z = h0.size := ⟨_, rfl⟩
  rw [← g29] at A29 D29 st29
  have f30 : Fld Z h29 b29 "com/example/vaxwire/vaxwire/hl7/Delimiters" "field" "C" (.int (0 : Int32)) := D29 (Or.inr (hw _ (List.mem_of_getElem? (i := 19) rfl))) (ty := .char) (by decide)
  have f31 : Fld Z h29 b29 "com/example/vaxwire/vaxwire/hl7/Delimiters" "component" "C" (.int (0 : Int32)) := D29 (Or.inr (hw _ (List.mem_of_getElem? (i := 21) rfl))) (ty := .char) (by decide)
  have f32 : Fld Z h29 b29 "com/example/vaxwire/vaxwire/hl7/Delimiters" "repetition" "C" (.int (0 : Int32)) := D29 (Or.inr (hw _ (List.mem_of_getElem? (i := 23) rfl))) (ty := .char) (by decide)
  have f33 : Fld Z h29 b29 "com/example/vaxwire/vaxwire/hl7/Delimiters" "escape" "C" (.int (0 : Int32)) := D29 (Or.inr (hw _ (List.mem_of_getElem? (i := 25) rfl))) (ty := .char) (by decide)
  have f34 : Fld Z h29 b29 "com/example/vaxwire/vaxwire/hl7/Delimiters" "subcomponent" "C" (.int (0 : Int32)) := D29 (Or.inr (hw _ (List.mem_of_getElem? (i := 27) rfl))) (ty := .char) (by decide)
  have K35 : Gx p e below s₁ f0 T29 (mkF m 94 #[.val (.int p1), .val (.int p2), .val (.int p3), .val (.int p4), .val (.int p5), .val (.int p6), .val (.int v2), .val (.int v3), .val (.int v4), .val (.int v5), .val (.int v6), .val (.int v7), .val (.int v11), .val (.int v15), .val (.int v19), .val (.int v23), .val (.int v27), .unset, .unset, .unset, .unset, .unset] [(.ref b29)]) := fun t kt => K28 t (st29 t kt)
  have K36 : Gx p e below s₁ f0 T29 (mkF m 105 #[.val (.int p1), .val (.int p2), .val (.int p3), .val (.int p4), .val (.int p5), .val (.int p6), .val (.int v2), .val (.int v3), .val (.int v4), .val (.int v5), .val (.int v6), .val (.int v7), .val (.int v11), .val (.int v15), .val (.int v19), .val (.int v23), .val (.int v27), .unset, .unset, .unset, .unset, .unset] [(.int v6), (.int v5), (.int v4), (.int v3), (.int v2), (.ref b29), (.ref b29)]) := fun t kt => K35 t (by
    show Steps p.tables e below (T29.setTop (mkF m 94 #[.val (.int p1), .val (.int p2), .val (.int p3), .val (.int p4), .val (.int p5), .val (.int p6), .val (.int v2), .val (.int v3), .val (.int v4), .val (.int v5), .val (.int v6), .val (.int v7), .val (.int v11), .val (.int v15), .val (.int v19), .val (.int v23), .val (.int v27), .unset, .unset, .unset, .unset, .unset] [(.ref b29)])) _
    refine XS.dup X29.here hx rfl (hb hby at_94) rfl rfl ?_
    show Steps p.tables e below (T29.setTop (mkF m 95 #[.val (.int p1), .val (.int p2), .val (.int p3), .val (.int p4), .val (.int p5), .val (.int p6), .val (.int v2), .val (.int v3), .val (.int v4), .val (.int v5), .val (.int v6), .val (.int v7), .val (.int v11), .val (.int v15), .val (.int v19), .val (.int v23), .val (.int v27), .unset, .unset, .unset, .unset, .unset] [(.ref b29), (.ref b29)])) _
    refine XS.iload X29.here hx rfl (hb hby at_95) rfl ?_
    show Steps p.tables e below (T29.setTop (mkF m 97 #[.val (.int p1), .val (.int p2), .val (.int p3), .val (.int p4), .val (.int p5), .val (.int p6), .val (.int v2), .val (.int v3), .val (.int v4), .val (.int v5), .val (.int v6), .val (.int v7), .val (.int v11), .val (.int v15), .val (.int v19), .val (.int v23), .val (.int v27), .unset, .unset, .unset, .unset, .unset] [(.int v2), (.ref b29), (.ref b29)])) _
    refine XS.iload X29.here hx rfl (hb hby at_97) rfl ?_
    show Steps p.tables e below (T29.setTop (mkF m 99 #[.val (.int p1), .val (.int p2), .val (.int p3), .val (.int p4), .val (.int p5), .val (.int p6), .val (.int v2), .val (.int v3), .val (.int v4), .val (.int v5), .val (.int v6), .val (.int v7), .val (.int v11), .val (.int v15), .val (.int v19), .val (.int v23), .val (.int v27), .unset, .unset, .unset, .unset, .unset] [(.int v3), (.int v2), (.ref b29), (.ref b29)])) _
    refine XS.iload X29.here hx rfl (hb hby at_99) rfl ?_
    show Steps p.tables e below (T29.setTop (mkF m 101 #[.val (.int p1), .val (.int p2), .val (.int p3), .val (.int p4), .val (.int p5), .val (.int p6), .val (.int v2), .val (.int v3), .val (.int v4), .val (.int v5), .val (.int v6), .val (.int v7), .val (.int v11), .val (.int v15), .val (.int v19), .val (.int v23), .val (.int v27), .unset, .unset, .unset, .unset, .unset] [(.int v4), (.int v3), (.int v2), (.ref b29), (.ref b29)])) _
    refine XS.iload X29.here hx rfl (hb hby at_101) rfl ?_
    show Steps p.tables e below (T29.setTop (mkF m 103 #[.val (.int p1), .val (.int p2), .val (.int p3), .val (.int p4), .val (.int p5), .val (.int p6), .val (.int v2), .val (.int v3), .val (.int v4), .val (.int v5), .val (.int v6), .val (.int v7), .val (.int v11), .val (.int v15), .val (.int v19), .val (.int v23), .val (.int v27), .unset, .unset, .unset, .unset, .unset] [(.int v5), (.int v4), (.int v3), (.int v2), (.ref b29), (.ref b29)])) _
    refine XS.iload X29.here hx rfl (hb hby at_103) rfl ?_
    exact kt)
  have kp37 : Keep h0 h29 [] := ((Keep.refl h0 []).ext E29)
  obtain ⟨_, _, ⟨T38, L38, k38, n38⟩, -, X38', ⟨Lc38, hQ38, l38, y38, z38⟩, st38⟩ := X29.specialBack hx (y := (⟨"com/example/vaxwire/vaxwire/hl7/Delimiters", "<init>", "(CCCCC)V"⟩ : MethodName)) rfl hown (mvT hZ (hw _ (List.mem_of_getElem? (i := 7) rfl))) (mvT hZ (hw _ (List.mem_of_getElem? (i := 8) rfl))) (mvT hZ (hw _ (List.mem_of_getElem? (i := 9) rfl))) (by decide) (backOf (W := 1) (rmIni l Z a0 hw [] b29 v2 v3 v4 v5 v6 h29 n0 (Nat.le_trans Z0 kp37.1) A29 (Nat.le_trans Z0 (Nat.le_trans (Keep.refl h0 []).1 (Nat.le_of_eq g29.symm))) f30 f31 f32 f33 f34 (by rw [hv2]; exact own_nar _) (by rw [hv3]; exact own_nar _) (by rw [hv4]; exact own_nar _) (by rw [hv5]; exact own_nar _) (by rw [hv6]; exact own_nar _)) hZ (hw _ (List.mem_of_getElem? (i := 9) rfl)) (hw _ (List.mem_of_getElem? (i := 6) rfl)) (by decide) (by decide)) (g := (mkF m 105 #[.val (.int p1), .val (.int p2), .val (.int p3), .val (.int p4), .val (.int p5), .val (.int p6), .val (.int v2), .val (.int v3), .val (.int v4), .val (.int v5), .val (.int v6), .val (.int v7), .val (.int v11), .val (.int v15), .val (.int v19), .val (.int v23), .val (.int v27), .unset, .unset, .unset, .unset, .unset] [(.int v6), (.int v5), (.int v4), (.int v3), (.int v2), (.ref b29), (.ref b29)])) rfl (by rw [hml]; rfl) (Steps.refl _) (a := b29) (argsL := [(.int v2), (.int v3), (.int v4), (.int v5), (.int v6)]) (rest := [(.ref b29)]) (lenOf pd__CCCCC_V rfl) rfl (by show 2 * 0 + _ ≤ _; exact Nat.le_of_eq rfl) (hb hby at_105) (fun _ _ => ⟨rfl, e29, (by decide : 1 + 0 ≤ _), (by decide : 5 + 0 ≤ _)⟩)
  dsimp only [Pt.U, Pt.locs, Pt.cells, Pt.slots] at X38' l38 y38 z38 st38 hQ38
  subst l38 y38 z38
  obtain ⟨h38, e38⟩ : ∃ z, T38.heap = z := ⟨_, rfl⟩
  rw [e38] at hQ38
  obtain ⟨rfl, N38q, Kc38, f39, f40, f41, f42, f43, f44⟩ := hQ38
  obtain ⟨lc38, X38, N38⟩ : ∃ lc, Stand p l e room_1 s m #[(.int p1), (.int p2), (.int p3), (.int p4), (.int p5), (.int p6)] below meth c T38 lc 1 5 ∧ Fr n0 lc := ⟨_, X38', Fr.app N25 N38q⟩
  have K45 : Gx p e below s₁ f0 T38 (mkF m 108 #[.val (.int p1), .val (.int p2), .val (.int p3), .val (.int p4), .val (.int p5), .val (.int p6), .val (.int v2), .val (.int v3), .val (.int v4), .val (.int v5), .val (.int v6), .val (.int v7), .val (.int v11), .val (.int v15), .val (.int v19), .val (.int v23), .val (.int v27), .unset, .unset, .unset, .unset, .unset] [(.ref b29)]) := fun t kt => K36 t (st38.trans kt)
  have K46 : Gx p e below s₁ f0 T38 (mkF m 110 #[.val (.int p1), .val (.int p2), .val (.int p3), .val (.int p4), .val (.int p5), .val (.int p6), .val (.int v2), .val (.int v3), .val (.int v4), .val (.int v5), .val (.int v6), .val (.int v7), .val (.int v11), .val (.int v15), .val (.int v19), .val (.int v23), .val (.int v27), .val (.ref b29), .unset, .unset, .unset, .unset] []) := fun t kt => K45 t (by
    show Steps p.tables e below (T38.setTop (mkF m 108 #[.val (.int p1), .val (.int p2), .val (.int p3), .val (.int p4), .val (.int p5), .val (.int p6), .val (.int v2), .val (.int v3), .val (.int v4), .val (.int v5), .val (.int v6), .val (.int v7), .val (.int v11), .val (.int v15), .val (.int v19), .val (.int v23), .val (.int v27), .unset, .unset, .unset, .unset, .unset] [(.ref b29)])) _
    refine XS.astore X38.here hx rfl (hb hby at_108) rfl rfl (l' := #[.val (.int p1), .val (.int p2), .val (.int p3), .val (.int p4), .val (.int p5), .val (.int p6), .val (.int v2), .val (.int v3), .val (.int v4), .val (.int v5), .val (.int v6), .val (.int v7), .val (.int v11), .val (.int v15), .val (.int v19), .val (.int v23), .val (.int v27), .val (.ref b29), .unset, .unset, .unset, .unset]) rfl ?_
    exact kt)
  obtain ⟨T47, h47, X47, e47, E47, A47, D47, -, st47⟩ := newO X38 hx hZ hown (hw _ (List.mem_of_getElem? (i := 4) rfl)) (hw _ (List.mem_of_getElem? (i := 5) rfl)) (hw _ (List.mem_of_getElem? (i := 6) rfl)) e38 (g := (mkF m 110 #[.val (.int p1), .val (.int p2), .val (.int p3), .val (.int p4), .val (.int p5), .val (.int p6), .val (.int v2), .val (.int v3), .val (.int v4), .val (.int v5), .val (.int v6), .val (.int v7), .val (.int v11), .val (.int v15), .val (.int v19), .val (.int v23), .val (.int v27), .val (.ref b29), .unset, .unset, .unset, .unset] [])) rfl (hb hby at_110) (by decide) (by decide)
  obtain ⟨b47, g47⟩ : ∃ z, z = h38.size := ⟨_, rfl⟩
  rw [← g47] at A47 D47 st47
  have f48 : Fld Z h47 b47 "com/example/vaxwire/vaxwire/hl7/Delimiters" "field" "C" (.int (0 : Int32)) := D47 (Or.inr (hw _ (List.mem_of_getElem? (i := 19) rfl))) (ty := .char) (by decide)
  have f49 : Fld Z h47 b47 "com/example/vaxwire/vaxwire/hl7/Delimiters" "component" "C" (.int (0 : Int32)) := D47 (Or.inr (hw _ (List.mem_of_getElem? (i := 21) rfl))) (ty := .char) (by decide)
  have f50 : Fld Z h47 b47 "com/example/vaxwire/vaxwire/hl7/Delimiters" "repetition" "C" (.int (0 : Int32)) := D47 (Or.inr (hw _ (List.mem_of_getElem? (i := 23) rfl))) (ty := .char) (by decide)
  have f51 : Fld Z h47 b47 "com/example/vaxwire/vaxwire/hl7/Delimiters" "escape" "C" (.int (0 : Int32)) := D47 (Or.inr (hw _ (List.mem_of_getElem? (i := 25) rfl))) (ty := .char) (by decide)
  have f52 : Fld Z h47 b47 "com/example/vaxwire/vaxwire/hl7/Delimiters" "subcomponent" "C" (.int (0 : Int32)) := D47 (Or.inr (hw _ (List.mem_of_getElem? (i := 27) rfl))) (ty := .char) (by decide)
  have K53 : Gx p e below s₁ f0 T47 (mkF m 113 #[.val (.int p1), .val (.int p2), .val (.int p3), .val (.int p4), .val (.int p5), .val (.int p6), .val (.int v2), .val (.int v3), .val (.int v4), .val (.int v5), .val (.int v6), .val (.int v7), .val (.int v11), .val (.int v15), .val (.int v19), .val (.int v23), .val (.int v27), .val (.ref b29), .unset, .unset, .unset, .unset] [(.ref b47)]) := fun t kt => K46 t (st47 t kt)
  have K54 : Gx p e below s₁ f0 T47 (mkF m 124 #[.val (.int p1), .val (.int p2), .val (.int p3), .val (.int p4), .val (.int p5), .val (.int p6), .val (.int v2), .val (.int v3), .val (.int v4), .val (.int v5), .val (.int v6), .val (.int v7), .val (.int v11), .val (.int v15), .val (.int v19), .val (.int v23), .val (.int v27), .val (.ref b29), .unset, .unset, .unset, .unset] [(.int v27), (.int v23), (.int v19), (.int v15), (.int v11), (.ref b47), (.ref b47)]) := fun t kt => K53 t (by
    show Steps p.tables e below (T47.setTop (mkF m 113 #[.val (.int p1), .val (.int p2), .val (.int p3), .val (.int p4), .val (.int p5), .val (.int p6), .val (.int v2), .val (.int v3), .val (.int v4), .val (.int v5), .val (.int v6), .val (.int v7), .val (.int v11), .val (.int v15), .val (.int v19), .val (.int v23), .val (.int v27), .val (.ref b29), .unset, .unset, .unset, .unset] [(.ref b47)])) _
    refine XS.dup X47.here hx rfl (hb hby at_113) rfl rfl ?_
    show Steps p.tables e below (T47.setTop (mkF m 114 #[.val (.int p1), .val (.int p2), .val (.int p3), .val (.int p4), .val (.int p5), .val (.int p6), .val (.int v2), .val (.int v3), .val (.int v4), .val (.int v5), .val (.int v6), .val (.int v7), .val (.int v11), .val (.int v15), .val (.int v19), .val (.int v23), .val (.int v27), .val (.ref b29), .unset, .unset, .unset, .unset] [(.ref b47), (.ref b47)])) _
    refine XS.iload X47.here hx rfl (hb hby at_114) rfl ?_
    show Steps p.tables e below (T47.setTop (mkF m 116 #[.val (.int p1), .val (.int p2), .val (.int p3), .val (.int p4), .val (.int p5), .val (.int p6), .val (.int v2), .val (.int v3), .val (.int v4), .val (.int v5), .val (.int v6), .val (.int v7), .val (.int v11), .val (.int v15), .val (.int v19), .val (.int v23), .val (.int v27), .val (.ref b29), .unset, .unset, .unset, .unset] [(.int v11), (.ref b47), (.ref b47)])) _
    refine XS.iload X47.here hx rfl (hb hby at_116) rfl ?_
    show Steps p.tables e below (T47.setTop (mkF m 118 #[.val (.int p1), .val (.int p2), .val (.int p3), .val (.int p4), .val (.int p5), .val (.int p6), .val (.int v2), .val (.int v3), .val (.int v4), .val (.int v5), .val (.int v6), .val (.int v7), .val (.int v11), .val (.int v15), .val (.int v19), .val (.int v23), .val (.int v27), .val (.ref b29), .unset, .unset, .unset, .unset] [(.int v15), (.int v11), (.ref b47), (.ref b47)])) _
    refine XS.iload X47.here hx rfl (hb hby at_118) rfl ?_
    show Steps p.tables e below (T47.setTop (mkF m 120 #[.val (.int p1), .val (.int p2), .val (.int p3), .val (.int p4), .val (.int p5), .val (.int p6), .val (.int v2), .val (.int v3), .val (.int v4), .val (.int v5), .val (.int v6), .val (.int v7), .val (.int v11), .val (.int v15), .val (.int v19), .val (.int v23), .val (.int v27), .val (.ref b29), .unset, .unset, .unset, .unset] [(.int v19), (.int v15), (.int v11), (.ref b47), (.ref b47)])) _
    refine XS.iload X47.here hx rfl (hb hby at_120) rfl ?_
    show Steps p.tables e below (T47.setTop (mkF m 122 #[.val (.int p1), .val (.int p2), .val (.int p3), .val (.int p4), .val (.int p5), .val (.int p6), .val (.int v2), .val (.int v3), .val (.int v4), .val (.int v5), .val (.int v6), .val (.int v7), .val (.int v11), .val (.int v15), .val (.int v19), .val (.int v23), .val (.int v27), .val (.ref b29), .unset, .unset, .unset, .unset] [(.int v23), (.int v19), (.int v15), (.int v11), (.ref b47), (.ref b47)])) _
    refine XS.iload X47.here hx rfl (hb hby at_122) rfl ?_
    exact kt)
  have kp55 : Keep h0 h47 [] := ((Keep.trans kp37 Kc38 (allS (Or.inr (Nat.le_trans (Keep.refl h0 []).1 (Nat.le_of_eq g29.symm))) all0)).ext E47)
  obtain ⟨_, _, ⟨T56, L56, k56, n56⟩, -, X56', ⟨Lc56, hQ56, l56, y56, z56⟩, st56⟩ := X47.specialBack hx (y := (⟨"com/example/vaxwire/vaxwire/hl7/Delimiters", "<init>", "(CCCCC)V"⟩ : MethodName)) rfl hown (mvT hZ (hw _ (List.mem_of_getElem? (i := 7) rfl))) (mvT hZ (hw _ (List.mem_of_getElem? (i := 8) rfl))) (mvT hZ (hw _ (List.mem_of_getElem? (i := 9) rfl))) (by decide) (backOf (W := 1) (rmIni l Z a0 hw [] b47 v11 v15 v19 v23 v27 h47 n0 (Nat.le_trans Z0 kp55.1) A47 (Nat.le_trans Z0 (Nat.le_trans (Keep.trans kp37 Kc38 (allS (Or.inr (Nat.le_trans (Keep.refl h0 []).1 (Nat.le_of_eq g29.symm))) all0)).1 (Nat.le_of_eq g47.symm))) f48 f49 f50 f51 f52 (by rw [hv11]; exact own_narpick _ _ _ _) (by rw [hv15]; exact own_narpick _ _ _ _) (by rw [hv19]; exact own_narpick _ _ _ _) (by rw [hv23]; exact own_narpick _ _ _ _) (by rw [hv27]; exact own_narpick _ _ _ _)) hZ (hw _ (List.mem_of_getElem? (i := 9) rfl)) (hw _ (List.mem_of_getElem? (i := 6) rfl)) (by decide) (by decide)) (g := (mkF m 124 #[.val (.int p1), .val (.int p2), .val (.int p3), .val (.int p4), .val (.int p5), .val (.int p6), .val (.int v2), .val (.int v3), .val (.int v4), .val (.int v5), .val (.int v6), .val (.int v7), .val (.int v11), .val (.int v15), .val (.int v19), .val (.int v23), .val (.int v27), .val (.ref b29), .unset, .unset, .unset, .unset] [(.int v27), (.int v23), (.int v19), (.int v15), (.int v11), (.ref b47), (.ref b47)])) rfl (by rw [hml]; rfl) (Steps.refl _) (a := b47) (argsL := [(.int v11), (.int v15), (.int v19), (.int v23), (.int v27)]) (rest := [(.ref b47)]) (lenOf pd__CCCCC_V rfl) rfl (by show 2 * 0 + _ ≤ _; exact Nat.le_of_eq rfl) (hb hby at_124) (fun _ _ => ⟨rfl, e47, (by decide : 2 + 0 ≤ _), (by decide : 10 + 0 ≤ _)⟩)
  dsimp only [Pt.U, Pt.locs, Pt.cells, Pt.slots] at X56' l56 y56 z56 st56 hQ56
  subst l56 y56 z56
  obtain ⟨h56, e56⟩ : ∃ z, T56.heap = z := ⟨_, rfl⟩
  rw [e56] at hQ56
  obtain ⟨rfl, N56q, Kc56, f57, f58, f59, f60, f61, f62⟩ := hQ56
  obtain ⟨lc56, X56, N56⟩ : ∃ lc, Stand p l e room_1 s m #[(.int p1), (.int p2), (.int p3), (.int p4), (.int p5), (.int p6)] below meth c T56 lc 2 10 ∧ Fr n0 lc := ⟨_, X56', Fr.app N38 N56q⟩
  have K63 : Gx p e below s₁ f0 T56 (mkF m 127 #[.val (.int p1), .val (.int p2), .val (.int p3), .val (.int p4), .val (.int p5), .val (.int p6), .val (.int v2), .val (.int v3), .val (.int v4), .val (.int v5), .val (.int v6), .val (.int v7), .val (.int v11), .val (.int v15), .val (.int v19), .val (.int v23), .val (.int v27), .val (.ref b29), .unset, .unset, .unset, .unset] [(.ref b47)]) := fun t kt => K54 t (st56.trans kt)
  have K67 : Gx p e below s₁ f0 T56 (mkF m 134 #[.val (.int p1), .val (.int p2), .val (.int p3), .val (.int p4), .val (.int p5), .val (.int p6), .val (.int v2), .val (.int v3), .val (.int v4), .val (.int v5), .val (.int v6), .val (.int v7), .val (.int v11), .val (.int v15), .val (.int v19), .val (.int v23), .val (.int v27), .val (.ref b29), .val (.ref b47), .unset, .unset, .unset] [(.int (p6 &&& (31 : Int32)))]) := fun t kt => K63 t (by
    show Steps p.tables e below (T56.setTop (mkF m 127 #[.val (.int p1), .val (.int p2), .val (.int p3), .val (.int p4), .val (.int p5), .val (.int p6), .val (.int v2), .val (.int v3), .val (.int v4), .val (.int v5), .val (.int v6), .val (.int v7), .val (.int v11), .val (.int v15), .val (.int v19), .val (.int v23), .val (.int v27), .val (.ref b29), .unset, .unset, .unset, .unset] [(.ref b47)])) _
    refine XS.astore X56.here hx rfl (hb hby at_127) rfl rfl (l' := #[.val (.int p1), .val (.int p2), .val (.int p3), .val (.int p4), .val (.int p5), .val (.int p6), .val (.int v2), .val (.int v3), .val (.int v4), .val (.int v5), .val (.int v6), .val (.int v7), .val (.int v11), .val (.int v15), .val (.int v19), .val (.int v23), .val (.int v27), .val (.ref b29), .val (.ref b47), .unset, .unset, .unset]) rfl ?_
    show Steps p.tables e below (T56.setTop (mkF m 129 #[.val (.int p1), .val (.int p2), .val (.int p3), .val (.int p4), .val (.int p5), .val (.int p6), .val (.int v2), .val (.int v3), .val (.int v4), .val (.int v5), .val (.int v6), .val (.int v7), .val (.int v11), .val (.int v15), .val (.int v19), .val (.int v23), .val (.int v27), .val (.ref b29), .val (.ref b47), .unset, .unset, .unset] [])) _
    refine XS.iload X56.here hx rfl (hb hby at_129) rfl ?_
    show Steps p.tables e below (T56.setTop (mkF m 131 #[.val (.int p1), .val (.int p2), .val (.int p3), .val (.int p4), .val (.int p5), .val (.int p6), .val (.int v2), .val (.int v3), .val (.int v4), .val (.int v5), .val (.int v6), .val (.int v7), .val (.int v11), .val (.int v15), .val (.int v19), .val (.int v23), .val (.int v27), .val (.ref b29), .val (.ref b47), .unset, .unset, .unset] [(.int p6)])) _
    refine XS.bipush X56.here hx rfl (hb hby at_131) ?_
    show Steps p.tables e below (T56.setTop (mkF m 133 #[.val (.int p1), .val (.int p2), .val (.int p3), .val (.int p4), .val (.int p5), .val (.int p6), .val (.int v2), .val (.int v3), .val (.int v4), .val (.int v5), .val (.int v6), .val (.int v7), .val (.int v11), .val (.int v15), .val (.int v19), .val (.int v23), .val (.int v27), .val (.ref b29), .val (.ref b47), .unset, .unset, .unset] [(.int (31 : Int32)), (.int p6)])) _
    refine XS.iand X56.here hx rfl (hb hby at_133) rfl ?_
    exact kt)
  obtain ⟨v66, hv66⟩ : ∃ z : Int32, z = (if (p6 &&& (31 : Int32)) = (0 : Int32) then (1 : Int32) else (if v7 = (0 : Int32) then (1 : Int32) else (0 : Int32))) := ⟨_, rfl⟩
  have K68 : Gx p e below s₁ f0 T56 (mkF m 147 #[.val (.int p1), .val (.int p2), .val (.int p3), .val (.int p4), .val (.int p5), .val (.int p6), .val (.int v2), .val (.int v3), .val (.int v4), .val (.int v5), .val (.int v6), .val (.int v7), .val (.int v11), .val (.int v15), .val (.int v19), .val (.int v23), .val (.int v27), .val (.ref b29), .val (.ref b47), .unset, .unset, .unset] [(.int v66)]) := fun t kt => K67 t (by
    by_cases hc134_63 : (p6 &&& (31 : Int32)) = (0 : Int32)
    · skip
      show Steps p.tables e below (T56.setTop (mkF m 134 #[.val (.int p1), .val (.int p2), .val (.int p3), .val (.int p4), .val (.int p5), .val (.int p6), .val (.int v2), .val (.int v3), .val (.int v4), .val (.int v5), .val (.int v6), .val (.int v7), .val (.int v11), .val (.int v15), .val (.int v19), .val (.int v23), .val (.int v27), .val (.ref b29), .val (.ref b47), .unset, .unset, .unset] [(.int (p6 &&& (31 : Int32)))])) _
      refine XS.ifYes X56.here hx rfl (pc0 := 134) (pc' := 142) rfl (hb hby at_134) rfl ((if0 _ _).trans (teq hc134_63).1) (by decide) (by decide) ?_
      show Steps p.tables e below (T56.setTop (mkF m 142 #[.val (.int p1), .val (.int p2), .val (.int p3), .val (.int p4), .val (.int p5), .val (.int p6), .val (.int v2), .val (.int v3), .val (.int v4), .val (.int v5), .val (.int v6), .val (.int v7), .val (.int v11), .val (.int v15), .val (.int v19), .val (.int v23), .val (.int v27), .val (.ref b29), .val (.ref b47), .unset, .unset, .unset] [])) _
      refine XS.iconst X56.here hx rfl (hb hby at_142) ?_
      show Steps p.tables e below (T56.setTop (mkF m 143 #[.val (.int p1), .val (.int p2), .val (.int p3), .val (.int p4), .val (.int p5), .val (.int p6), .val (.int v2), .val (.int v3), .val (.int v4), .val (.int v5), .val (.int v6), .val (.int v7), .val (.int v11), .val (.int v15), .val (.int v19), .val (.int v23), .val (.int v27), .val (.ref b29), .val (.ref b47), .unset, .unset, .unset] [(.int (1 : Int32))])) _
      refine XS.goto X56.here hx rfl (pc0 := 143) (pc' := 147) rfl (hb hby at_143) (by decide) (by decide) ?_
      show Steps p.tables e below (T56.setTop (mkF m 147 #[.val (.int p1), .val (.int p2), .val (.int p3), .val (.int p4), .val (.int p5), .val (.int p6), .val (.int v2), .val (.int v3), .val (.int v4), .val (.int v5), .val (.int v6), .val (.int v7), .val (.int v11), .val (.int v15), .val (.int v19), .val (.int v23), .val (.int v27), .val (.ref b29), .val (.ref b47), .unset, .unset, .unset] [(.int (1 : Int32))])) _
      exact castTop (by simp only [hv66, if_pos hc134_63]) kt
    · skip
      show Steps p.tables e below (T56.setTop (mkF m 134 #[.val (.int p1), .val (.int p2), .val (.int p3), .val (.int p4), .val (.int p5), .val (.int p6), .val (.int v2), .val (.int v3), .val (.int v4), .val (.int v5), .val (.int v6), .val (.int v7), .val (.int v11), .val (.int v15), .val (.int v19), .val (.int v23), .val (.int v27), .val (.ref b29), .val (.ref b47), .unset, .unset, .unset] [(.int (p6 &&& (31 : Int32)))])) _
      refine XS.ifNo X56.here hx rfl (hb hby at_134) rfl ((if0 _ _).trans (feq hc134_63).1) ?_
      show Steps p.tables e below (T56.setTop (mkF m 137 #[.val (.int p1), .val (.int p2), .val (.int p3), .val (.int p4), .val (.int p5), .val (.int p6), .val (.int v2), .val (.int v3), .val (.int v4), .val (.int v5), .val (.int v6), .val (.int v7), .val (.int v11), .val (.int v15), .val (.int v19), .val (.int v23), .val (.int v27), .val (.ref b29), .val (.ref b47), .unset, .unset, .unset] [])) _
      refine XS.iload X56.here hx rfl (hb hby at_137) rfl ?_
      by_cases hc139_64 : v7 = (0 : Int32)
      · skip
        show Steps p.tables e below (T56.setTop (mkF m 139 #[.val (.int p1), .val (.int p2), .val (.int p3), .val (.int p4), .val (.int p5), .val (.int p6), .val (.int v2), .val (.int v3), .val (.int v4), .val (.int v5), .val (.int v6), .val (.int v7), .val (.int v11), .val (.int v15), .val (.int v19), .val (.int v23), .val (.int v27), .val (.ref b29), .val (.ref b47), .unset, .unset, .unset] [(.int v7)])) _
        refine XS.ifNo X56.here hx rfl (hb hby at_139) rfl ((if0 _ _).trans (teq hc139_64).2) ?_
        show Steps p.tables e below (T56.setTop (mkF m 142 #[.val (.int p1), .val (.int p2), .val (.int p3), .val (.int p4), .val (.int p5), .val (.int p6), .val (.int v2), .val (.int v3), .val (.int v4), .val (.int v5), .val (.int v6), .val (.int v7), .val (.int v11), .val (.int v15), .val (.int v19), .val (.int v23), .val (.int v27), .val (.ref b29), .val (.ref b47), .unset, .unset, .unset] [])) _
        refine XS.iconst X56.here hx rfl (hb hby at_142) ?_
        show Steps p.tables e below (T56.setTop (mkF m 143 #[.val (.int p1), .val (.int p2), .val (.int p3), .val (.int p4), .val (.int p5), .val (.int p6), .val (.int v2), .val (.int v3), .val (.int v4), .val (.int v5), .val (.int v6), .val (.int v7), .val (.int v11), .val (.int v15), .val (.int v19), .val (.int v23), .val (.int v27), .val (.ref b29), .val (.ref b47), .unset, .unset, .unset] [(.int (1 : Int32))])) _
        refine XS.goto X56.here hx rfl (pc0 := 143) (pc' := 147) rfl (hb hby at_143) (by decide) (by decide) ?_
        show Steps p.tables e below (T56.setTop (mkF m 147 #[.val (.int p1), .val (.int p2), .val (.int p3), .val (.int p4), .val (.int p5), .val (.int p6), .val (.int v2), .val (.int v3), .val (.int v4), .val (.int v5), .val (.int v6), .val (.int v7), .val (.int v11), .val (.int v15), .val (.int v19), .val (.int v23), .val (.int v27), .val (.ref b29), .val (.ref b47), .unset, .unset, .unset] [(.int (1 : Int32))])) _
        exact castTop (by simp only [hv66, if_neg hc134_63, if_pos hc139_64]) kt
      · skip
        show Steps p.tables e below (T56.setTop (mkF m 139 #[.val (.int p1), .val (.int p2), .val (.int p3), .val (.int p4), .val (.int p5), .val (.int p6), .val (.int v2), .val (.int v3), .val (.int v4), .val (.int v5), .val (.int v6), .val (.int v7), .val (.int v11), .val (.int v15), .val (.int v19), .val (.int v23), .val (.int v27), .val (.ref b29), .val (.ref b47), .unset, .unset, .unset] [(.int v7)])) _
        refine XS.ifYes X56.here hx rfl (pc0 := 139) (pc' := 146) rfl (hb hby at_139) rfl ((if0 _ _).trans (feq hc139_64).2) (by decide) (by decide) ?_
        show Steps p.tables e below (T56.setTop (mkF m 146 #[.val (.int p1), .val (.int p2), .val (.int p3), .val (.int p4), .val (.int p5), .val (.int p6), .val (.int v2), .val (.int v3), .val (.int v4), .val (.int v5), .val (.int v6), .val (.int v7), .val (.int v11), .val (.int v15), .val (.int v19), .val (.int v23), .val (.int v27), .val (.ref b29), .val (.ref b47), .unset, .unset, .unset] [])) _
        refine XS.iconst X56.here hx rfl (hb hby at_146) ?_
        show Steps p.tables e below (T56.setTop (mkF m 147 #[.val (.int p1), .val (.int p2), .val (.int p3), .val (.int p4), .val (.int p5), .val (.int p6), .val (.int v2), .val (.int v3), .val (.int v4), .val (.int v5), .val (.int v6), .val (.int v7), .val (.int v11), .val (.int v15), .val (.int v19), .val (.int v23), .val (.int v27), .val (.ref b29), .val (.ref b47), .unset, .unset, .unset] [(.int (0 : Int32))])) _
        exact castTop (by simp only [hv66, if_neg hc134_63, if_neg hc139_64]) kt)
  have K69 : Gx p e below s₁ f0 T56 (mkF m 153 #[.val (.int p1), .val (.int p2), .val (.int p3), .val (.int p4), .val (.int p5), .val (.int p6), .val (.int v2), .val (.int v3), .val (.int v4), .val (.int v5), .val (.int v6), .val (.int v7), .val (.int v11), .val (.int v15), .val (.int v19), .val (.int v23), .val (.int v27), .val (.ref b29), .val (.ref b47), .val (.int v66), .val .null, .unset] [(.int p1)]) := fun t kt => K68 t (by
    show Steps p.tables e below (T56.setTop (mkF m 147 #[.val (.int p1), .val (.int p2), .val (.int p3), .val (.int p4), .val (.int p5), .val (.int p6), .val (.int v2), .val (.int v3), .val (.int v4), .val (.int v5), .val (.int v6), .val (.int v7), .val (.int v11), .val (.int v15), .val (.int v19), .val (.int v23), .val (.int v27), .val (.ref b29), .val (.ref b47), .unset, .unset, .unset] [(.int v66)])) _
    refine XS.istore X56.here hx rfl (hb hby at_147) rfl (l' := #[.val (.int p1), .val (.int p2), .val (.int p3), .val (.int p4), .val (.int p5), .val (.int p6), .val (.int v2), .val (.int v3), .val (.int v4), .val (.int v5), .val (.int v6), .val (.int v7), .val (.int v11), .val (.int v15), .val (.int v19), .val (.int v23), .val (.int v27), .val (.ref b29), .val (.ref b47), .val (.int v66), .unset, .unset]) rfl ?_
    show Steps p.tables e below (T56.setTop (mkF m 149 #[.val (.int p1), .val (.int p2), .val (.int p3), .val (.int p4), .val (.int p5), .val (.int p6), .val (.int v2), .val (.int v3), .val (.int v4), .val (.int v5), .val (.int v6), .val (.int v7), .val (.int v11), .val (.int v15), .val (.int v19), .val (.int v23), .val (.int v27), .val (.ref b29), .val (.ref b47), .val (.int v66), .unset, .unset] [])) _
    refine XS.aconstNull X56.here hx rfl (hb hby at_149) ?_
    show Steps p.tables e below (T56.setTop (mkF m 150 #[.val (.int p1), .val (.int p2), .val (.int p3), .val (.int p4), .val (.int p5), .val (.int p6), .val (.int v2), .val (.int v3), .val (.int v4), .val (.int v5), .val (.int v6), .val (.int v7), .val (.int v11), .val (.int v15), .val (.int v19), .val (.int v23), .val (.int v27), .val (.ref b29), .val (.ref b47), .val (.int v66), .unset, .unset] [.null])) _
    refine XS.astore X56.here hx rfl (hb hby at_150) rfl rfl (l' := #[.val (.int p1), .val (.int p2), .val (.int p3), .val (.int p4), .val (.int p5), .val (.int p6), .val (.int v2), .val (.int v3), .val (.int v4), .val (.int v5), .val (.int v6), .val (.int v7), .val (.int v11), .val (.int v15), .val (.int v19), .val (.int v23), .val (.int v27), .val (.ref b29), .val (.ref b47), .val (.int v66), .val .null, .unset]) rfl ?_
    show Steps p.tables e below (T56.setTop (mkF m 152 #[.val (.int p1), .val (.int p2), .val (.int p3), .val (.int p4), .val (.int p5), .val (.int p6), .val (.int v2), .val (.int v3), .val (.int v4), .val (.int v5), .val (.int v6), .val (.int v7), .val (.int v11), .val (.int v15), .val (.int v19), .val (.int v23), .val (.int v27), .val (.ref b29), .val (.ref b47), .val (.int v66), .val .null, .unset] [])) _
    refine XS.iloadN X56.here hx rfl (hb hby at_152) rfl ?_
    exact kt)
  have f70 : Old Z n0 h56 := ((((pr3.ext E29).keep Kc38 (allS (Nat.le_trans Z0 (Nat.le_trans (Keep.refl h0 []).1 (Nat.le_of_eq g29.symm))) all0)).ext E47).keep Kc56 (allS (Nat.le_trans Z0 (Nat.le_trans (Keep.trans kp37 Kc38 (allS (Or.inr (Nat.le_trans (Keep.refl h0 []).1 (Nat.le_of_eq g29.symm))) all0)).1 (Nat.le_of_eq g47.symm))) all0))
  have kp71 : Keep h0 h56 [] := (Keep.trans kp55 Kc56 (allS (Or.inr (Nat.le_trans (Keep.trans kp37 Kc38 (allS (Or.inr (Nat.le_trans (Keep.refl h0 []).1 (Nat.le_of_eq g29.symm))) all0)).1 (Nat.le_of_eq g47.symm))) all0))
  obtain ⟨_, _, ⟨T72, L72, k72, n72⟩, -, X72', ⟨Lc72, hQ72, l72, y72, z72⟩, st72⟩ := Jvm.LawKit.callS X56 hx (y := (⟨"java/lang/Integer", "valueOf", "(I)Ljava/lang/Integer;"⟩ : MethodName)) hown (mvT hZ (hw _ (List.mem_of_getElem? (i := 28) rfl))) (mvT hZ (hw _ (List.mem_of_getElem? (i := 29) rfl))) (mvT hZ (hw _ (List.mem_of_getElem? (i := 30) rfl))) (mvT hZ (hw _ (List.mem_of_getElem? (i := 31) rfl))) (by decide) (backOf (W := 0) (rmVal l Z a0 hw [] p1 ca kc vc h56 n0 (Nat.le_trans Z0 kp71.1) pr0 pr1 pr2 f70 hc) hZ (hw _ (List.mem_of_getElem? (i := 31) rfl)) (hw _ (List.mem_of_getElem? (i := 30) rfl)) (by decide) (by decide)) (g := (mkF m 153 #[.val (.int p1), .val (.int p2), .val (.int p3), .val (.int p4), .val (.int p5), .val (.int p6), .val (.int v2), .val (.int v3), .val (.int v4), .val (.int v5), .val (.int v6), .val (.int v7), .val (.int v11), .val (.int v15), .val (.int v19), .val (.int v23), .val (.int v27), .val (.ref b29), .val (.ref b47), .val (.int v66), .val .null, .unset] [(.int p1)])) rfl (by rw [hml]; rfl) (argsL := [(.int p1)]) (rest := []) (lenOf pd__I_Ljava_lang_Integer_ rfl) rfl (by show 2 * 0 + _ ≤ _; exact Nat.le_of_eq rfl) (hb hby at_153) (fun _ _ => ⟨rfl, e56, (by decide : 2 + 1 ≤ _), (by decide : 10 + 1 ≤ _)⟩)
  dsimp only [Pt.U, Pt.locs, Pt.cells, Pt.slots] at X72' l72 y72 z72 st72 hQ72
  subst l72 y72 z72
  obtain ⟨h72, e72⟩ : ∃ z, T72.heap = z := ⟨_, rfl⟩
  rw [e72] at hQ72
  obtain ⟨bx_72, rfl, N72q, Kc72, f73⟩ := hQ72
  obtain ⟨lc72, X72, N72⟩ : ∃ lc, Stand p l e room_1 s m #[(.int p1), (.int p2), (.int p3), (.int p4), (.int p5), (.int p6)] below meth c T72 lc 3 11 ∧ Fr n0 lc := ⟨_, X72', Fr.app N56 N72q⟩
  have K74 : Gx p e below s₁ f0 T72 (mkF m 156 #[.val (.int p1), .val (.int p2), .val (.int p3), .val (.int p4), .val (.int p5), .val (.int p6), .val (.int v2), .val (.int v3), .val (.int v4), .val (.int v5), .val (.int v6), .val (.int v7), .val (.int v11), .val (.int v15), .val (.int v19), .val (.int v23), .val (.int v27), .val (.ref b29), .val (.ref b47), .val (.int v66), .val .null, .unset] [(.ref bx_72)]) := fun t kt => K69 t (st72 t kt)
  have K75 : Gx p e below s₁ f0 T72 (mkF m 162 #[.val (.int p1), .val (.int p2), .val (.int p3), .val (.int p4), .val (.int p5), .val (.int p6), .val (.int v2), .val (.int v3), .val (.int v4), .val (.int v5), .val (.int v6), .val (.int v7), .val (.int v11), .val (.int v15), .val (.int v19), .val (.int v23), .val (.int v27), .val (.ref b29), .val (.ref b47), .val (.int v66), .val .null, .val (.ref bx_72)] [(.ref b47), (.ref b29)]) := fun t kt => K74 t (by
    show Steps p.tables e below (T72.setTop (mkF m 156 #[.val (.int p1), .val (.int p2), .val (.int p3), .val (.int p4), .val (.int p5), .val (.int p6), .val (.int v2), .val (.int v3), .val (.int v4), .val (.int v5), .val (.int v6), .val (.int v7), .val (.int v11), .val (.int v15), .val (.int v19), .val (.int v23), .val (.int v27), .val (.ref b29), .val (.ref b47), .val (.int v66), .val .null, .unset] [(.ref bx_72)])) _
    refine XS.astore X72.here hx rfl (hb hby at_156) rfl rfl (l' := #[.val (.int p1), .val (.int p2), .val (.int p3), .val (.int p4), .val (.int p5), .val (.int p6), .val (.int v2), .val (.int v3), .val (.int v4), .val (.int v5), .val (.int v6), .val (.int v7), .val (.int v11), .val (.int v15), .val (.int v19), .val (.int v23), .val (.int v27), .val (.ref b29), .val (.ref b47), .val (.int v66), .val .null, .val (.ref bx_72)]) rfl ?_
    show Steps p.tables e below (T72.setTop (mkF m 158 #[.val (.int p1), .val (.int p2), .val (.int p3), .val (.int p4), .val (.int p5), .val (.int p6), .val (.int v2), .val (.int v3), .val (.int v4), .val (.int v5), .val (.int v6), .val (.int v7), .val (.int v11), .val (.int v15), .val (.int v19), .val (.int v23), .val (.int v27), .val (.ref b29), .val (.ref b47), .val (.int v66), .val .null, .val (.ref bx_72)] [])) _
    refine XS.aload X72.here hx rfl (hb hby at_158) rfl rfl ?_
    show Steps p.tables e below (T72.setTop (mkF m 160 #[.val (.int p1), .val (.int p2), .val (.int p3), .val (.int p4), .val (.int p5), .val (.int p6), .val (.int v2), .val (.int v3), .val (.int v4), .val (.int v5), .val (.int v6), .val (.int v7), .val (.int v11), .val (.int v15), .val (.int v19), .val (.int v23), .val (.int v27), .val (.ref b29), .val (.ref b47), .val (.int v66), .val .null, .val (.ref bx_72)] [(.ref b29)])) _
    refine XS.aload X72.here hx rfl (hb hby at_160) rfl rfl ?_
    exact kt)
  have f76 : Exa Z h72 b47 "com/example/vaxwire/vaxwire/hl7/Delimiters" := (f57.keep Kc72)
  have f77 : Fld Z h72 b29 "com/example/vaxwire/vaxwire/hl7/Delimiters" "field" "C" (.int v2) := (((f40.ext E47).keep Kc56 (ninS (Nat.ne_of_lt (Nat.lt_of_lt_of_le f39.lt (Nat.le_of_eq g47.symm))) nin0)).keep Kc72 nin0)
  have f78 : Fld Z h72 b29 "com/example/vaxwire/vaxwire/hl7/Delimiters" "component" "C" (.int v3) := (((f41.ext E47).keep Kc56 (ninS (Nat.ne_of_lt (Nat.lt_of_lt_of_le f39.lt (Nat.le_of_eq g47.symm))) nin0)).keep Kc72 nin0)
  have f79 : Fld Z h72 b29 "com/example/vaxwire/vaxwire/hl7/Delimiters" "repetition" "C" (.int v4) := (((f42.ext E47).keep Kc56 (ninS (Nat.ne_of_lt (Nat.lt_of_lt_of_le f39.lt (Nat.le_of_eq g47.symm))) nin0)).keep Kc72 nin0)
  have f80 : Fld Z h72 b29 "com/example/vaxwire/vaxwire/hl7/Delimiters" "escape" "C" (.int v5) := (((f43.ext E47).keep Kc56 (ninS (Nat.ne_of_lt (Nat.lt_of_lt_of_le f39.lt (Nat.le_of_eq g47.symm))) nin0)).keep Kc72 nin0)
  have f81 : Fld Z h72 b29 "com/example/vaxwire/vaxwire/hl7/Delimiters" "subcomponent" "C" (.int v6) := (((f44.ext E47).keep Kc56 (ninS (Nat.ne_of_lt (Nat.lt_of_lt_of_le f39.lt (Nat.le_of_eq g47.symm))) nin0)).keep Kc72 nin0)
  have f82 : Fld Z h72 b47 "com/example/vaxwire/vaxwire/hl7/Delimiters" "field" "C" (.int v11) := (f58.keep Kc72 nin0)
  have f83 : Fld Z h72 b47 "com/example/vaxwire/vaxwire/hl7/Delimiters" "component" "C" (.int v15) := (f59.keep Kc72 nin0)
  have f84 : Fld Z h72 b47 "com/example/vaxwire/vaxwire/hl7/Delimiters" "repetition" "C" (.int v19) := (f60.keep Kc72 nin0)
  have f85 : Fld Z h72 b47 "com/example/vaxwire/vaxwire/hl7/Delimiters" "escape" "C" (.int v23) := (f61.keep Kc72 nin0)
  have f86 : Fld Z h72 b47 "com/example/vaxwire/vaxwire/hl7/Delimiters" "subcomponent" "C" (.int v27) := (f62.keep Kc72 nin0)
  have kp87 : Keep h0 h72 [] := (Keep.trans kp71 Kc72 all0)
  have f89 : Exa Z h72 b29 "com/example/vaxwire/vaxwire/hl7/Delimiters" := (((f39.ext E47).keep Kc56).keep Kc72)
  obtain ⟨cq88, kq88, q88a, q88b, q88c⟩ := isOf hZ e72 f89
  obtain ⟨_, _, ⟨T88, L88, k88, n88⟩, -, X88', ⟨Lc88, hQ88, l88, y88, z88⟩, st88⟩ := X72.virtualBack hx (y := (⟨"com/example/vaxwire/vaxwire/hl7/Delimiters", "equals", "(Ljava/lang/Object;)Z"⟩ : MethodName)) (z := (⟨"com/example/vaxwire/vaxwire/hl7/Delimiters", "equals", "(Ljava/lang/Object;)Z"⟩ : MethodName)) hown (mvT hZ (hw _ (List.mem_of_getElem? (i := 35) rfl))) (mvT hZ (hw _ (List.mem_of_getElem? (i := 36) rfl))) (notFace_of_selects (args := #[]) (mvT hZ (hw _ (List.mem_of_getElem? (i := 38) rfl)))) (mvT hZ (hw _ (List.mem_of_getElem? (i := 38) rfl))) (mvT hZ (hw _ (List.mem_of_getElem? (i := 37) rfl))) (by decide) (backOf (W := 0) (rmEqD l Z a0 hw [] b29 b47 v2 v3 v4 v5 v6 v11 v15 v19 v23 v27 h72 n0 (Nat.le_trans Z0 kp87.1) f76 f77 f78 f79 f80 f81 f82 f83 f84 f85 f86) hZ (hw _ (List.mem_of_getElem? (i := 39) rfl)) (hw _ (List.mem_of_getElem? (i := 6) rfl)) (by decide) (by decide)) q88a q88c (g := (mkF m 162 #[.val (.int p1), .val (.int p2), .val (.int p3), .val (.int p4), .val (.int p5), .val (.int p6), .val (.int v2), .val (.int v3), .val (.int v4), .val (.int v5), .val (.int v6), .val (.int v7), .val (.int v11), .val (.int v15), .val (.int v19), .val (.int v23), .val (.int v27), .val (.ref b29), .val (.ref b47), .val (.int v66), .val .null, .val (.ref bx_72)] [(.ref b47), (.ref b29)])) rfl (by rw [hml]; rfl) (Steps.refl _) (argsL := [(.ref b47)]) (rest := []) (lenOf pd__Ljava_lang_Object__Z rfl) rfl (by show 2 * 0 + _ ≤ _; exact Nat.le_of_eq rfl) (hb hby at_162) (fun _ _ => ⟨rfl, e72, (by decide : 3 + 0 ≤ _), (by decide : 11 + 0 ≤ _)⟩)
  dsimp only [Pt.U, Pt.locs, Pt.cells, Pt.slots] at X88' l88 y88 z88 st88 hQ88
  subst l88 y88 z88
  obtain ⟨rfl, N88q, e88⟩ := hQ88
  obtain ⟨lc88, X88, N88⟩ : ∃ lc, Stand p l e room_1 s m #[(.int p1), (.int p2), (.int p3), (.int p4), (.int p5), (.int p6)] below meth c T88 lc 3 11 ∧ Fr n0 lc := ⟨_, X88', Fr.app N72 N88q⟩
  have K90 : Gx p e below s₁ f0 T88 (mkF m 165 #[.val (.int p1), .val (.int p2), .val (.int p3), .val (.int p4), .val (.int p5), .val (.int p6), .val (.int v2), .val (.int v3), .val (.int v4), .val (.int v5), .val (.int v6), .val (.int v7), .val (.int v11), .val (.int v15), .val (.int v19), .val (.int v23), .val (.int v27), .val (.ref b29), .val (.ref b47), .val (.int v66), .val .null, .val (.ref bx_72)] [(.int (eqF v2 v3 v4 v5 v6 v11 v15 v19 v23 v27))]) := fun t kt => K75 t (st88.trans kt)
  have K91 : Gx p e below s₁ f0 T88 (mkF m 174 #[.val (.int p1), .val (.int p2), .val (.int p3), .val (.int p4), .val (.int p5), .val (.int p6), .val (.int v2), .val (.int v3), .val (.int v4), .val (.int v5), .val (.int v6), .val (.int v7), .val (.int v11), .val (.int v15), .val (.int v19), .val (.int v23), .val (.int v27), .val (.ref b29), .val (.ref b47), .val (.int v66), .val .null, .val (.ref bx_72)] [(.ref b29), (.ref b47)]) := fun t kt => K90 t (by
    show Steps p.tables e below (T88.setTop (mkF m 165 #[.val (.int p1), .val (.int p2), .val (.int p3), .val (.int p4), .val (.int p5), .val (.int p6), .val (.int v2), .val (.int v3), .val (.int v4), .val (.int v5), .val (.int v6), .val (.int v7), .val (.int v11), .val (.int v15), .val (.int v19), .val (.int v23), .val (.int v27), .val (.ref b29), .val (.ref b47), .val (.int v66), .val .null, .val (.ref bx_72)] [(.int (eqF v2 v3 v4 v5 v6 v11 v15 v19 v23 v27))])) _
    refine XS.iload X88.here hx rfl (hb hby at_165) rfl ?_
    show Steps p.tables e below (T88.setTop (mkF m 167 #[.val (.int p1), .val (.int p2), .val (.int p3), .val (.int p4), .val (.int p5), .val (.int p6), .val (.int v2), .val (.int v3), .val (.int v4), .val (.int v5), .val (.int v6), .val (.int v7), .val (.int v11), .val (.int v15), .val (.int v19), .val (.int v23), .val (.int v27), .val (.ref b29), .val (.ref b47), .val (.int v66), .val .null, .val (.ref bx_72)] [(.int v66), (.int (eqF v2 v3 v4 v5 v6 v11 v15 v19 v23 v27))])) _
    refine XS.icmpNo X88.here hx rfl (hb hby at_167) rfl (teq (by rw [hv66, hv11, hv15, hv19, hv23, hv27]; exact own_eq1 p6 _ _ _ _ _ _ (by rw [hv2]; exact own_nar _) (by rw [hv3]; exact own_nar _) (by rw [hv4]; exact own_nar _) (by rw [hv5]; exact own_nar _) (by rw [hv6]; exact own_nar _) (by rw [hv7]; exact own_nar _))).2 ?_
    show Steps p.tables e below (T88.setTop (mkF m 170 #[.val (.int p1), .val (.int p2), .val (.int p3), .val (.int p4), .val (.int p5), .val (.int p6), .val (.int v2), .val (.int v3), .val (.int v4), .val (.int v5), .val (.int v6), .val (.int v7), .val (.int v11), .val (.int v15), .val (.int v19), .val (.int v23), .val (.int v27), .val (.ref b29), .val (.ref b47), .val (.int v66), .val .null, .val (.ref bx_72)] [])) _
    refine XS.aload X88.here hx rfl (hb hby at_170) rfl rfl ?_
    show Steps p.tables e below (T88.setTop (mkF m 172 #[.val (.int p1), .val (.int p2), .val (.int p3), .val (.int p4), .val (.int p5), .val (.int p6), .val (.int v2), .val (.int v3), .val (.int v4), .val (.int v5), .val (.int v6), .val (.int v7), .val (.int v11), .val (.int v15), .val (.int v19), .val (.int v23), .val (.int v27), .val (.ref b29), .val (.ref b47), .val (.int v66), .val .null, .val (.ref bx_72)] [(.ref b47)])) _
    refine XS.aload X88.here hx rfl (hb hby at_172) rfl rfl ?_
    exact kt)
  obtain ⟨cq92, kq92, q92a, q92b, q92c⟩ := isOf hZ e88 f76
  obtain ⟨_, _, ⟨T92, L92, k92, n92⟩, -, X92', ⟨Lc92, hQ92, l92, y92, z92⟩, st92⟩ := X88.virtualBack hx (y := (⟨"com/example/vaxwire/vaxwire/hl7/Delimiters", "equals", "(Ljava/lang/Object;)Z"⟩ : MethodName)) (z := (⟨"com/example/vaxwire/vaxwire/hl7/Delimiters", "equals", "(Ljava/lang/Object;)Z"⟩ : MethodName)) hown (mvT hZ (hw _ (List.mem_of_getElem? (i := 35) rfl))) (mvT hZ (hw _ (List.mem_of_getElem? (i := 36) rfl))) (notFace_of_selects (args := #[]) (mvT hZ (hw _ (List.mem_of_getElem? (i := 38) rfl)))) (mvT hZ (hw _ (List.mem_of_getElem? (i := 38) rfl))) (mvT hZ (hw _ (List.mem_of_getElem? (i := 37) rfl))) (by decide) (backOf (W := 0) (rmEqD l Z a0 hw [] b47 b29 v11 v15 v19 v23 v27 v2 v3 v4 v5 v6 h72 n0 (Nat.le_trans Z0 kp87.1) f89 f82 f83 f84 f85 f86 f77 f78 f79 f80 f81) hZ (hw _ (List.mem_of_getElem? (i := 39) rfl)) (hw _ (List.mem_of_getElem? (i := 6) rfl)) (by decide) (by decide)) q92a q92c (g := (mkF m 174 #[.val (.int p1), .val (.int p2), .val (.int p3), .val (.int p4), .val (.int p5), .val (.int p6), .val (.int v2), .val (.int v3), .val (.int v4), .val (.int v5), .val (.int v6), .val (.int v7), .val (.int v11), .val (.int v15), .val (.int v19), .val (.int v23), .val (.int v27), .val (.ref b29), .val (.ref b47), .val (.int v66), .val .null, .val (.ref bx_72)] [(.ref b29), (.ref b47)])) rfl (by rw [hml]; rfl) (Steps.refl _) (argsL := [(.ref b29)]) (rest := []) (lenOf pd__Ljava_lang_Object__Z rfl) rfl (by show 2 * 0 + _ ≤ _; exact Nat.le_of_eq rfl) (hb hby at_174) (fun _ _ => ⟨rfl, e88, (by decide : 3 + 0 ≤ _), (by decide : 11 + 0 ≤ _)⟩)
  dsimp only [Pt.U, Pt.locs, Pt.cells, Pt.slots] at X92' l92 y92 z92 st92 hQ92
  subst l92 y92 z92
  obtain ⟨rfl, N92q, e92⟩ := hQ92
  obtain ⟨lc92, X92, N92⟩ : ∃ lc, Stand p l e room_1 s m #[(.int p1), (.int p2), (.int p3), (.int p4), (.int p5), (.int p6)] below meth c T92 lc 3 11 ∧ Fr n0 lc := ⟨_, X92', Fr.app N88 N92q⟩
  have K93 : Gx p e below s₁ f0 T92 (mkF m 177 #[.val (.int p1), .val (.int p2), .val (.int p3), .val (.int p4), .val (.int p5), .val (.int p6), .val (.int v2), .val (.int v3), .val (.int v4), .val (.int v5), .val (.int v6), .val (.int v7), .val (.int v11), .val (.int v15), .val (.int v19), .val (.int v23), .val (.int v27), .val (.ref b29), .val (.ref b47), .val (.int v66), .val .null, .val (.ref bx_72)] [(.int (eqF v11 v15 v19 v23 v27 v2 v3 v4 v5 v6))]) := fun t kt => K91 t (st92.trans kt)
  have K94 : Gx p e below s₁ f0 T92 (mkF m 186 #[.val (.int p1), .val (.int p2), .val (.int p3), .val (.int p4), .val (.int p5), .val (.int p6), .val (.int v2), .val (.int v3), .val (.int v4), .val (.int v5), .val (.int v6), .val (.int v7), .val (.int v11), .val (.int v15), .val (.int v19), .val (.int v23), .val (.int v27), .val (.ref b29), .val (.ref b47), .val (.int v66), .val .null, .val (.ref bx_72)] [(.ref b29), (.ref b29)]) := fun t kt => K93 t (by
    show Steps p.tables e below (T92.setTop (mkF m 177 #[.val (.int p1), .val (.int p2), .val (.int p3), .val (.int p4), .val (.int p5), .val (.int p6), .val (.int v2), .val (.int v3), .val (.int v4), .val (.int v5), .val (.int v6), .val (.int v7), .val (.int v11), .val (.int v15), .val (.int v19), .val (.int v23), .val (.int v27), .val (.ref b29), .val (.ref b47), .val (.int v66), .val .null, .val (.ref bx_72)] [(.int (eqF v11 v15 v19 v23 v27 v2 v3 v4 v5 v6))])) _
    refine XS.iload X92.here hx rfl (hb hby at_177) rfl ?_
    show Steps p.tables e below (T92.setTop (mkF m 179 #[.val (.int p1), .val (.int p2), .val (.int p3), .val (.int p4), .val (.int p5), .val (.int p6), .val (.int v2), .val (.int v3), .val (.int v4), .val (.int v5), .val (.int v6), .val (.int v7), .val (.int v11), .val (.int v15), .val (.int v19), .val (.int v23), .val (.int v27), .val (.ref b29), .val (.ref b47), .val (.int v66), .val .null, .val (.ref bx_72)] [(.int v66), (.int (eqF v11 v15 v19 v23 v27 v2 v3 v4 v5 v6))])) _
    refine XS.icmpNo X92.here hx rfl (hb hby at_179) rfl (teq (by rw [hv66, hv11, hv15, hv19, hv23, hv27]; exact own_eq2 p6 _ _ _ _ _ _ (by rw [hv2]; exact own_nar _) (by rw [hv3]; exact own_nar _) (by rw [hv4]; exact own_nar _) (by rw [hv5]; exact own_nar _) (by rw [hv6]; exact own_nar _) (by rw [hv7]; exact own_nar _))).2 ?_
    show Steps p.tables e below (T92.setTop (mkF m 182 #[.val (.int p1), .val (.int p2), .val (.int p3), .val (.int p4), .val (.int p5), .val (.int p6), .val (.int v2), .val (.int v3), .val (.int v4), .val (.int v5), .val (.int v6), .val (.int v7), .val (.int v11), .val (.int v15), .val (.int v19), .val (.int v23), .val (.int v27), .val (.ref b29), .val (.ref b47), .val (.int v66), .val .null, .val (.ref bx_72)] [])) _
    refine XS.aload X92.here hx rfl (hb hby at_182) rfl rfl ?_
    show Steps p.tables e below (T92.setTop (mkF m 184 #[.val (.int p1), .val (.int p2), .val (.int p3), .val (.int p4), .val (.int p5), .val (.int p6), .val (.int v2), .val (.int v3), .val (.int v4), .val (.int v5), .val (.int v6), .val (.int v7), .val (.int v11), .val (.int v15), .val (.int v19), .val (.int v23), .val (.int v27), .val (.ref b29), .val (.ref b47), .val (.int v66), .val .null, .val (.ref bx_72)] [(.ref b29)])) _
    refine XS.aload X92.here hx rfl (hb hby at_184) rfl rfl ?_
    exact kt)
  obtain ⟨cq95, kq95, q95a, q95b, q95c⟩ := isOf hZ e92 f89
  obtain ⟨_, _, ⟨T95, L95, k95, n95⟩, -, X95', ⟨Lc95, hQ95, l95, y95, z95⟩, st95⟩ := X92.virtualBack hx (y := (⟨"com/example/vaxwire/vaxwire/hl7/Delimiters", "equals", "(Ljava/lang/Object;)Z"⟩ : MethodName)) (z := (⟨"com/example/vaxwire/vaxwire/hl7/Delimiters", "equals", "(Ljava/lang/Object;)Z"⟩ : MethodName)) hown (mvT hZ (hw _ (List.mem_of_getElem? (i := 35) rfl))) (mvT hZ (hw _ (List.mem_of_getElem? (i := 36) rfl))) (notFace_of_selects (args := #[]) (mvT hZ (hw _ (List.mem_of_getElem? (i := 38) rfl)))) (mvT hZ (hw _ (List.mem_of_getElem? (i := 38) rfl))) (mvT hZ (hw _ (List.mem_of_getElem? (i := 37) rfl))) (by decide) (backOf (W := 0) (rmEqD l Z a0 hw [] b29 b29 v2 v3 v4 v5 v6 v2 v3 v4 v5 v6 h72 n0 (Nat.le_trans Z0 kp87.1) f89 f77 f78 f79 f80 f81 f77 f78 f79 f80 f81) hZ (hw _ (List.mem_of_getElem? (i := 39) rfl)) (hw _ (List.mem_of_getElem? (i := 6) rfl)) (by decide) (by decide)) q95a q95c (g := (mkF m 186 #[.val (.int p1), .val (.int p2), .val (.int p3), .val (.int p4), .val (.int p5), .val (.int p6), .val (.int v2), .val (.int v3), .val (.int v4), .val (.int v5), .val (.int v6), .val (.int v7), .val (.int v11), .val (.int v15), .val (.int v19), .val (.int v23), .val (.int v27), .val (.ref b29), .val (.ref b47), .val (.int v66), .val .null, .val (.ref bx_72)] [(.ref b29), (.ref b29)])) rfl (by rw [hml]; rfl) (Steps.refl _) (argsL := [(.ref b29)]) (rest := []) (lenOf pd__Ljava_lang_Object__Z rfl) rfl (by show 2 * 0 + _ ≤ _; exact Nat.le_of_eq rfl) (hb hby at_186) (fun _ _ => ⟨rfl, e92, (by decide : 3 + 0 ≤ _), (by decide : 11 + 0 ≤ _)⟩)
  dsimp only [Pt.U, Pt.locs, Pt.cells, Pt.slots] at X95' l95 y95 z95 st95 hQ95
  subst l95 y95 z95
  obtain ⟨rfl, N95q, e95⟩ := hQ95
  obtain ⟨lc95, X95, N95⟩ : ∃ lc, Stand p l e room_1 s m #[(.int p1), (.int p2), (.int p3), (.int p4), (.int p5), (.int p6)] below meth c T95 lc 3 11 ∧ Fr n0 lc := ⟨_, X95', Fr.app N92 N95q⟩
  have K96 : Gx p e below s₁ f0 T95 (mkF m 189 #[.val (.int p1), .val (.int p2), .val (.int p3), .val (.int p4), .val (.int p5), .val (.int p6), .val (.int v2), .val (.int v3), .val (.int v4), .val (.int v5), .val (.int v6), .val (.int v7), .val (.int v11), .val (.int v15), .val (.int v19), .val (.int v23), .val (.int v27), .val (.ref b29), .val (.ref b47), .val (.int v66), .val .null, .val (.ref bx_72)] [(.int (eqF v2 v3 v4 v5 v6 v2 v3 v4 v5 v6))]) := fun t kt => K94 t (st95.trans kt)
  have K97 : Gx p e below s₁ f0 T95 (mkF m 196 #[.val (.int p1), .val (.int p2), .val (.int p3), .val (.int p4), .val (.int p5), .val (.int p6), .val (.int v2), .val (.int v3), .val (.int v4), .val (.int v5), .val (.int v6), .val (.int v7), .val (.int v11), .val (.int v15), .val (.int v19), .val (.int v23), .val (.int v27), .val (.ref b29), .val (.ref b47), .val (.int v66), .val .null, .val (.ref bx_72)] [.null, (.ref b29)]) := fun t kt => K96 t (by
    show Steps p.tables e below (T95.setTop (mkF m 189 #[.val (.int p1), .val (.int p2), .val (.int p3), .val (.int p4), .val (.int p5), .val (.int p6), .val (.int v2), .val (.int v3), .val (.int v4), .val (.int v5), .val (.int v6), .val (.int v7), .val (.int v11), .val (.int v15), .val (.int v19), .val (.int v23), .val (.int v27), .val (.ref b29), .val (.ref b47), .val (.int v66), .val .null, .val (.ref bx_72)] [(.int (eqF v2 v3 v4 v5 v6 v2 v3 v4 v5 v6))])) _
    refine XS.ifNo X95.here hx rfl (hb hby at_189) rfl ((if0 _ _).trans (feq (by simp [eqF])).1) ?_
    show Steps p.tables e below (T95.setTop (mkF m 192 #[.val (.int p1), .val (.int p2), .val (.int p3), .val (.int p4), .val (.int p5), .val (.int p6), .val (.int v2), .val (.int v3), .val (.int v4), .val (.int v5), .val (.int v6), .val (.int v7), .val (.int v11), .val (.int v15), .val (.int v19), .val (.int v23), .val (.int v27), .val (.ref b29), .val (.ref b47), .val (.int v66), .val .null, .val (.ref bx_72)] [])) _
    refine XS.aload X95.here hx rfl (hb hby at_192) rfl rfl ?_
    show Steps p.tables e below (T95.setTop (mkF m 194 #[.val (.int p1), .val (.int p2), .val (.int p3), .val (.int p4), .val (.int p5), .val (.int p6), .val (.int v2), .val (.int v3), .val (.int v4), .val (.int v5), .val (.int v6), .val (.int v7), .val (.int v11), .val (.int v15), .val (.int v19), .val (.int v23), .val (.int v27), .val (.ref b29), .val (.ref b47), .val (.int v66), .val .null, .val (.ref bx_72)] [(.ref b29)])) _
    refine XS.aload X95.here hx rfl (hb hby at_194) rfl rfl ?_
    exact kt)
  obtain ⟨cq98, kq98, q98a, q98b, q98c⟩ := isOf hZ e95 f89
  obtain ⟨_, _, ⟨T98, L98, k98, n98⟩, -, X98', ⟨Lc98, hQ98, l98, y98, z98⟩, st98⟩ := X95.virtualBack hx (y := (⟨"com/example/vaxwire/vaxwire/hl7/Delimiters", "equals", "(Ljava/lang/Object;)Z"⟩ : MethodName)) (z := (⟨"com/example/vaxwire/vaxwire/hl7/Delimiters", "equals", "(Ljava/lang/Object;)Z"⟩ : MethodName)) hown (mvT hZ (hw _ (List.mem_of_getElem? (i := 35) rfl))) (mvT hZ (hw _ (List.mem_of_getElem? (i := 36) rfl))) (notFace_of_selects (args := #[]) (mvT hZ (hw _ (List.mem_of_getElem? (i := 38) rfl)))) (mvT hZ (hw _ (List.mem_of_getElem? (i := 38) rfl))) (mvT hZ (hw _ (List.mem_of_getElem? (i := 37) rfl))) (by decide) (backOf (W := 0) (rmEqN l Z a0 hw [] b29 h72 n0 (Nat.le_trans Z0 kp87.1) ) hZ (hw _ (List.mem_of_getElem? (i := 39) rfl)) (hw _ (List.mem_of_getElem? (i := 6) rfl)) (by decide) (by decide)) q98a q98c (g := (mkF m 196 #[.val (.int p1), .val (.int p2), .val (.int p3), .val (.int p4), .val (.int p5), .val (.int p6), .val (.int v2), .val (.int v3), .val (.int v4), .val (.int v5), .val (.int v6), .val (.int v7), .val (.int v11), .val (.int v15), .val (.int v19), .val (.int v23), .val (.int v27), .val (.ref b29), .val (.ref b47), .val (.int v66), .val .null, .val (.ref bx_72)] [.null, (.ref b29)])) rfl (by rw [hml]; rfl) (Steps.refl _) (argsL := [.null]) (rest := []) (lenOf pd__Ljava_lang_Object__Z rfl) rfl (by show 2 * 0 + _ ≤ _; exact Nat.le_of_eq rfl) (hb hby at_196) (fun _ _ => ⟨rfl, e95, (by decide : 3 + 0 ≤ _), (by decide : 11 + 0 ≤ _)⟩)
  dsimp only [Pt.U, Pt.locs, Pt.cells, Pt.slots] at X98' l98 y98 z98 st98 hQ98
  subst l98 y98 z98
  obtain ⟨rfl, N98q, e98⟩ := hQ98
  obtain ⟨lc98, X98, N98⟩ : ∃ lc, Stand p l e room_1 s m #[(.int p1), (.int p2), (.int p3), (.int p4), (.int p5), (.int p6)] below meth c T98 lc 3 11 ∧ Fr n0 lc := ⟨_, X98', Fr.app N95 N98q⟩
  have K99 : Gx p e below s₁ f0 T98 (mkF m 199 #[.val (.int p1), .val (.int p2), .val (.int p3), .val (.int p4), .val (.int p5), .val (.int p6), .val (.int v2), .val (.int v3), .val (.int v4), .val (.int v5), .val (.int v6), .val (.int v7), .val (.int v11), .val (.int v15), .val (.int v19), .val (.int v23), .val (.int v27), .val (.ref b29), .val (.ref b47), .val (.int v66), .val .null, .val (.ref bx_72)] [(.int (0 : Int32))]) := fun t kt => K97 t (st98.trans kt)
  have K100 : Gx p e below s₁ f0 T98 (mkF m 206 #[.val (.int p1), .val (.int p2), .val (.int p3), .val (.int p4), .val (.int p5), .val (.int p6), .val (.int v2), .val (.int v3), .val (.int v4), .val (.int v5), .val (.int v6), .val (.int v7), .val (.int v11), .val (.int v15), .val (.int v19), .val (.int v23), .val (.int v27), .val (.ref b29), .val (.ref b47), .val (.int v66), .val .null, .val (.ref bx_72)] [(.ref bx_72), (.ref b29)]) := fun t kt => K99 t (by
    show Steps p.tables e below (T98.setTop (mkF m 199 #[.val (.int p1), .val (.int p2), .val (.int p3), .val (.int p4), .val (.int p5), .val (.int p6), .val (.int v2), .val (.int v3), .val (.int v4), .val (.int v5), .val (.int v6), .val (.int v7), .val (.int v11), .val (.int v15), .val (.int v19), .val (.int v23), .val (.int v27), .val (.ref b29), .val (.ref b47), .val (.int v66), .val .null, .val (.ref bx_72)] [(.int (0 : Int32))])) _
    refine XS.ifNo X98.here hx rfl (hb hby at_199) rfl ((if0 _ _).trans (teq (by decide)).2) ?_
    show Steps p.tables e below (T98.setTop (mkF m 202 #[.val (.int p1), .val (.int p2), .val (.int p3), .val (.int p4), .val (.int p5), .val (.int p6), .val (.int v2), .val (.int v3), .val (.int v4), .val (.int v5), .val (.int v6), .val (.int v7), .val (.int v11), .val (.int v15), .val (.int v19), .val (.int v23), .val (.int v27), .val (.ref b29), .val (.ref b47), .val (.int v66), .val .null, .val (.ref bx_72)] [])) _
    refine XS.aload X98.here hx rfl (hb hby at_202) rfl rfl ?_
    show Steps p.tables e below (T98.setTop (mkF m 204 #[.val (.int p1), .val (.int p2), .val (.int p3), .val (.int p4), .val (.int p5), .val (.int p6), .val (.int v2), .val (.int v3), .val (.int v4), .val (.int v5), .val (.int v6), .val (.int v7), .val (.int v11), .val (.int v15), .val (.int v19), .val (.int v23), .val (.int v27), .val (.ref b29), .val (.ref b47), .val (.int v66), .val .null, .val (.ref bx_72)] [(.ref b29)])) _
    refine XS.aload X98.here hx rfl (hb hby at_204) rfl rfl ?_
    exact kt)
  obtain ⟨cq101, kq101, q101a, q101b, q101c⟩ := isOf hZ e98 f89
  obtain ⟨_, _, ⟨T101, L101, k101, n101⟩, -, X101', ⟨Lc101, hQ101, l101, y101, z101⟩, st101⟩ := X98.virtualBack hx (y := (⟨"com/example/vaxwire/vaxwire/hl7/Delimiters", "equals", "(Ljava/lang/Object;)Z"⟩ : MethodName)) (z := (⟨"com/example/vaxwire/vaxwire/hl7/Delimiters", "equals", "(Ljava/lang/Object;)Z"⟩ : MethodName)) hown (mvT hZ (hw _ (List.mem_of_getElem? (i := 35) rfl))) (mvT hZ (hw _ (List.mem_of_getElem? (i := 36) rfl))) (notFace_of_selects (args := #[]) (mvT hZ (hw _ (List.mem_of_getElem? (i := 38) rfl)))) (mvT hZ (hw _ (List.mem_of_getElem? (i := 38) rfl))) (mvT hZ (hw _ (List.mem_of_getElem? (i := 37) rfl))) (by decide) (backOf (W := 0) (rmEqI l Z a0 hw [] b29 bx_72 h72 n0 (Nat.le_trans Z0 kp87.1) f73) hZ (hw _ (List.mem_of_getElem? (i := 39) rfl)) (hw _ (List.mem_of_getElem? (i := 6) rfl)) (by decide) (by decide)) q101a q101c (g := (mkF m 206 #[.val (.int p1), .val (.int p2), .val (.int p3), .val (.int p4), .val (.int p5), .val (.int p6), .val (.int v2), .val (.int v3), .val (.int v4), .val (.int v5), .val (.int v6), .val (.int v7), .val (.int v11), .val (.int v15), .val (.int v19), .val (.int v23), .val (.int v27), .val (.ref b29), .val (.ref b47), .val (.int v66), .val .null, .val (.ref bx_72)] [(.ref bx_72), (.ref b29)])) rfl (by rw [hml]; rfl) (Steps.refl _) (argsL := [(.ref bx_72)]) (rest := []) (lenOf pd__Ljava_lang_Object__Z rfl) rfl (by show 2 * 0 + _ ≤ _; exact Nat.le_of_eq rfl) (hb hby at_206) (fun _ _ => ⟨rfl, e98, (by decide : 3 + 0 ≤ _), (by decide : 11 + 0 ≤ _)⟩)
  dsimp only [Pt.U, Pt.locs, Pt.cells, Pt.slots] at X101' l101 y101 z101 st101 hQ101
  subst l101 y101 z101
  obtain ⟨rfl, N101q, e101⟩ := hQ101
  obtain ⟨lc101, X101, N101⟩ : ∃ lc, Stand p l e room_1 s m #[(.int p1), (.int p2), (.int p3), (.int p4), (.int p5), (.int p6)] below meth c T101 lc 3 11 ∧ Fr n0 lc := ⟨_, X101', Fr.app N98 N101q⟩
  have K102 : Gx p e below s₁ f0 T101 (mkF m 209 #[.val (.int p1), .val (.int p2), .val (.int p3), .val (.int p4), .val (.int p5), .val (.int p6), .val (.int v2), .val (.int v3), .val (.int v4), .val (.int v5), .val (.int v6), .val (.int v7), .val (.int v11), .val (.int v15), .val (.int v19), .val (.int v23), .val (.int v27), .val (.ref b29), .val (.ref b47), .val (.int v66), .val .null, .val (.ref bx_72)] [(.int (0 : Int32))]) := fun t kt => K100 t (st101.trans kt)
  have K103 : Gx p e below s₁ f0 T101 (mkF m 217 #[.val (.int p1), .val (.int p2), .val (.int p3), .val (.int p4), .val (.int p5), .val (.int p6), .val (.int v2), .val (.int v3), .val (.int v4), .val (.int v5), .val (.int v6), .val (.int v7), .val (.int v11), .val (.int v15), .val (.int v19), .val (.int v23), .val (.int v27), .val (.ref b29), .val (.ref b47), .val (.int v66), .val .null, .val (.ref bx_72)] [(.int (1 : Int32))]) := fun t kt => K102 t (by
    show Steps p.tables e below (T101.setTop (mkF m 209 #[.val (.int p1), .val (.int p2), .val (.int p3), .val (.int p4), .val (.int p5), .val (.int p6), .val (.int v2), .val (.int v3), .val (.int v4), .val (.int v5), .val (.int v6), .val (.int v7), .val (.int v11), .val (.int v15), .val (.int v19), .val (.int v23), .val (.int v27), .val (.ref b29), .val (.ref b47), .val (.int v66), .val .null, .val (.ref bx_72)] [(.int (0 : Int32))])) _
    refine XS.ifNo X101.here hx rfl (hb hby at_209) rfl ((if0 _ _).trans (teq (by decide)).2) ?_
    show Steps p.tables e below (T101.setTop (mkF m 212 #[.val (.int p1), .val (.int p2), .val (.int p3), .val (.int p4), .val (.int p5), .val (.int p6), .val (.int v2), .val (.int v3), .val (.int v4), .val (.int v5), .val (.int v6), .val (.int v7), .val (.int v11), .val (.int v15), .val (.int v19), .val (.int v23), .val (.int v27), .val (.ref b29), .val (.ref b47), .val (.int v66), .val .null, .val (.ref bx_72)] [])) _
    refine XS.iconst X101.here hx rfl (hb hby at_212) ?_
    show Steps p.tables e below (T101.setTop (mkF m 213 #[.val (.int p1), .val (.int p2), .val (.int p3), .val (.int p4), .val (.int p5), .val (.int p6), .val (.int v2), .val (.int v3), .val (.int v4), .val (.int v5), .val (.int v6), .val (.int v7), .val (.int v11), .val (.int v15), .val (.int v19), .val (.int v23), .val (.int v27), .val (.ref b29), .val (.ref b47), .val (.int v66), .val .null, .val (.ref bx_72)] [(.int (1 : Int32))])) _
    refine XS.goto X101.here hx rfl (pc0 := 213) (pc' := 217) rfl (hb hby at_213) (by decide) (by decide) ?_
    exact kt)
  obtain ⟨fs104, hr104, hrun104, hended104, hW104, hsame104⟩ := X101.leave (v := some (.int (1 : Int32))) (fun h => by rw [Bd.returns] at h; cases h)
  refine ⟨_, _, pre0 _ (K103 _ ?_), hrun104, hended104, _, _, rfl, ?_, ⟨_, rfl⟩, hW104, hsame104.mono (by decide) (by decide)⟩
  · exact retN X101 hx (t := .boolean) Bd.returns (by simp) (hb hby at_217) hr104
  · show Q0 Z p1 p2 p3 p4 p5 p6 ca kc vc h0 n0 _ T101.heap _
    rw [e101]
    exact ⟨rfl, N101⟩
set_option maxRecDepth 65536 in
set_option maxHeartbeats 40000000 in
theorem comes_1 {Post : Tables → Env → Array Value → State → Outcome → State → Prop} (hpost : ∀ tb e args s v u, (limb_1_1.after args s (.returned v) u = true ∧ limb_1_2.after args s (.returned v) u = true ∧ True) → FrameEnd s (.returned v) u (Jvm.fieldLocs frame_1_writes args s ++ Jvm.arrayLocs frame_1_arrays args s ++ Jvm.staticLocs frame_1_statics s) 16 128 → Post tb e args s (.returned v) u) :
    ArmFor flags0 classFile x code maxLocals ret World_1 tables_1 room_1 Calls_1 rest_1 Pre_1 Post := by
  intro l hfl _ _ p e ha hc hk s m args below hf hA hF happ hP
  obtain ⟨hcalls, hrest, hpre⟩ := hP
  obtain ⟨-, -, -, hnamed, -, -, -, hat⟩ := (Spec.applies_iff hf).mp happ
  obtain ⟨hg, hn⟩ := and_e (Cond.before_iff.mp (show (Jvm.Cond.and given_1 narrow_1).before args s = true from hpre))
  obtain ⟨g1, g2⟩ := and_e hg
  obtain ⟨g3, g4⟩ := and_e g2
  obtain ⟨g5, g6⟩ := and_e g4
  obtain ⟨g7, g8⟩ := and_e g6
  obtain ⟨g9, g10⟩ := and_e g8
  obtain ⟨g11, g12⟩ := and_e g10
  obtain ⟨w0, w1, w2, w3, w4, w5, rfl⟩ : ∃ w0 w1 w2 w3 w4 w5 : Value, args = #[w0, w1, w2, w3, w4, w5] := by
    have hs : args.size = 6 := by simpa [Cond.value, given_1] using g1
    obtain ⟨L⟩ := args
    match L, hs with
    | [w0, w1, w2, w3, w4, w5], _ => exact ⟨w0, w1, w2, w3, w4, w5, rfl⟩
  have hw := fun d (hd : d ∈ tables_1) => atoms_spec (ws := Jvm.Cond.code x code maxLocals ret :: tables_1) hat d (List.mem_cons_of_mem _ hd)
  have hfit : Fit s := fun {y c} hc i hi => by
    obtain ⟨ha, rfl⟩ := Array.getElem?_eq_some_iff.mp hc
    have q := List.all_eq_true.mp ((Array.all_eq_true_iff_forall_mem.mp hF) _ (Array.getElem_mem ha)) i (List.mem_range.mpr hi)
    simpa [Array.getElem?_eq_getElem hi] using q
  obtain ⟨hsets, hown0⟩ := atoms_of _ (rest_1_c_eq ▸ (show rest_1_c.before _ s = true from hrest))
  have hr0 := Cond.before_iff.mp hown0
  obtain ⟨i0, ei0⟩ := is_v g3
  obtain rfl : w0 = (.int i0) := Option.some.inj ei0
  obtain ⟨i1, ei1⟩ := is_v g5
  obtain rfl : w1 = (.int i1) := Option.some.inj ei1
  obtain ⟨i2, ei2⟩ := is_v g7
  obtain rfl : w2 = (.int i2) := Option.some.inj ei2
  obtain ⟨i3, ei3⟩ := is_v g9
  obtain rfl : w3 = (.int i3) := Option.some.inj ei3
  obtain ⟨i4, ei4⟩ := is_v g11
  obtain rfl : w4 = (.int i4) := Option.some.inj ei4
  obtain ⟨i5, ei5⟩ := is_v g12
  obtain rfl : w5 = (.int i5) := Option.some.inj ei5
  obtain ⟨ca, vc, kc, hS1, hS2, hV, hcc⟩ := own_cache hsets (hw _ (List.mem_of_getElem? (i := 33) rfl)) hfit
  obtain ⟨n, o, h1, h2, h3, _, L, rfl, ⟨rfl, N⟩, hq⟩ := rm0 l s _ hw tables_1 i0 i1 i2 i3 i4 i5 ca kc vc s.heap s.heap.size (Nat.le_refl _) hS1 hS2 hV (Old.start s) hcc p e ha hc hk s m _ below hf ((Spec.applies_iff_loose hf).mp happ).1 ⟨rfl, State.Warmed39.refl s, rfl⟩ trivial
  refine ⟨n, _, h1, h2, h3, hpost _ _ _ _ _ _ ⟨Cond.after_iff.mpr rfl, Cond.after_iff.mpr (eq_i res_at (Term.int_eval (1)) rfl), trivial⟩ ⟨hq.1, hq.2.1, (hq.2.2.sift fun y hy => Or.inr (N y hy)).mono (by decide) (by decide)⟩⟩
theorem main_1_1 : Claimed_1_1 := comes_1 fun _ _ _ _ _ _ h hF => ⟨h.1, hF⟩
theorem main_1_2 : Claimed_1_2 := comes_1 fun _ _ _ _ _ _ h hF => ⟨h.2.1, hF⟩
end Jvm.Pilot.@@N@@
namespace Jvm.Pilot.@@N@@
open Jvm Jvm.ClassFile Sem Op Lib Jvm.Free Jvm.Stand Jvm.Pilot.@@N@@.Jvm.D
/-! MADE BY PROGRAM (witnessworld.py) out of the Statement's table words and the real class files: 17 classes; the members and pool entries that the words name. The judged class is class 1, her method 2. -/
namespace start1
open Jvm.ClassFile
def u (s : String) : CpInfo := .utf8 (stringToUtf16 s)
/-- a pool by its gaps: so many unusable entries, then the entry; so many at the end -/
def gap : Nat → List CpInfo → List CpInfo
  | 0, r => r
  | n + 1, r => .unusable :: gap n r
def poolList (es : List (Nat × CpInfo)) (last : Nat) : List CpInfo := es.foldr (fun e r => gap e.1 (e.2 :: r)) (gap last [])
def pool (es : List (Nat × CpInfo)) (last : Nat) : Array CpInfo := ⟨poolList es last⟩
def fileOf (pool : Array CpInfo) (this : Nat) (attrs : Array Attribute := #[]) (ms : Array MethodInfo := #[]) (fl : Nat := 33) (sup : Nat := 0) (ifs : Array Nat := #[]) (fds : Array FieldInfo := #[]) : ClassFile where
  minorVersion := 0
  majorVersion := 65
  constantPool := pool
  accessFlags := fl
  thisClass := this
  superClass := sup
  interfaces := ifs
  fields := fds
  methods := ms
  attributes := attrs
def plain (name : String) (sup : Option ClassId) : Class where
  name := name
  kind := .ordinary
  loader := none
  accessFlags := 33
  super := sup
  interfaces := #[]
  cf := none
  fields := #[]
  methods := #[]
  instanceTypes := #[]
  staticTypes := #[]
  resolved := #[]
  callSites := []
  init := .initialized
  statics := none
  mirror := none

def pool0 : Array CpInfo := pool [(5, u "<init>"), (0, u "()V"), (1, .class_ 10), (1, u "java/lang/Object")] 113

def k0c0 : Code := { maxStack := 0, maxLocals := 1, code := object_method_1_code, exceptionTable := #[], attributes := #[] }
def k0m0 : Method := { name := "<init>", desc := "()V", sig := { parameters := [], returnType := none }, accessFlags := 1, code := some k0c0 }
/-- java/lang/Object -/
def k0 : Class := { plain "java/lang/Object" none with
  accessFlags := 33
  interfaces := #[]
  cf := some (fileOf pool0 8 #[] #[{ accessFlags := 1, nameIndex := 5, descriptorIndex := 6, attributes := #[] }] 33 0 #[] #[])
  fields := #[]
  methods := #[k0m0]
  instanceTypes := #[]
  staticTypes := #[]
  resolved := Array.replicate 124 none
  statics := none }

def pool1 : Array CpInfo := pool [(2, .class_ 4), (1, u "java/lang/Object"), (0, u "<init>"), (0, u "()V"), (0, .methodref 8 9), (0, .class_ 10), (0, .nameAndType 11 12), (0, u "com/example/vaxwire/vaxwire/hl7/DelimitersEqualsPinLaw"), (0, u "pick"), (0, u "(IICC)C"), (0, .class_ 14), (0, u "com/example/vaxwire/vaxwire/hl7/Delimiters"), (0, .methodref 13 16), (0, .nameAndType 5 17), (0, u "(CCCCC)V"), (0, .methodref 19 20), (0, .class_ 21), (0, .nameAndType 22 23), (0, u "java/lang/Integer"), (0, u "valueOf"), (0, u "(I)Ljava/lang/Integer;"), (0, .methodref 13 25), (0, .nameAndType 26 27), (0, u "equals"), (0, u "(Ljava/lang/Object;)Z"), (3, u "law"), (0, u "(IIIIII)Z")] 2

def k1m0 : Method := { name := "<init>", desc := "()V", sig := { parameters := [], returnType := none }, accessFlags := 1, code := none }
def k1c1 : Code := { maxStack := 2, maxLocals := 4, code := method_2_code, exceptionTable := #[], attributes := #[] }
def k1m1 : Method := { name := "pick", desc := "(IICC)C", sig := { parameters := [.int, .int, .char, .char], returnType := some .char }, accessFlags := 10, code := some k1c1 }
def k1c2 : Code := { maxStack := 7, maxLocals := 22, code := code, exceptionTable := #[], attributes := #[] }
def k1m2 : Method := { name := "law", desc := "(IIIIII)Z", sig := { parameters := [.int, .int, .int, .int, .int, .int], returnType := some .boolean }, accessFlags := 9, code := some k1c2 }
/-- com/example/vaxwire/vaxwire/hl7/DelimitersEqualsPinLaw -/
def k1 : Class := { plain "com/example/vaxwire/vaxwire/hl7/DelimitersEqualsPinLaw" (some 0) with
  accessFlags := 49
  interfaces := #[]
  cf := some (fileOf pool1 8 #[] #[{ accessFlags := 1, nameIndex := 5, descriptorIndex := 6, attributes := #[] }, { accessFlags := 10, nameIndex := 11, descriptorIndex := 12, attributes := #[] }, { accessFlags := 9, nameIndex := 31, descriptorIndex := 32, attributes := #[] }] 49 2 #[] #[])
  fields := #[]
  methods := #[k1m0, k1m1, k1m2]
  instanceTypes := #[]
  staticTypes := #[]
  resolved := Array.replicate 35 none
  statics := none }

def pool2 : Array CpInfo := pool [(1, .methodref 2 3), (0, .class_ 4), (0, .nameAndType 5 6), (0, u "java/lang/Object"), (0, u "<init>"), (0, u "()V"), (0, .class_ 8), (0, u "java/lang/Record")] 13

def k2c0 : Code := { maxStack := 1, maxLocals := 1, code := jdk_30_method_1_code, exceptionTable := #[], attributes := #[] }
def k2m0 : Method := { name := "<init>", desc := "()V", sig := { parameters := [], returnType := none }, accessFlags := 4, code := some k2c0 }
/-- java/lang/Record -/
def k2 : Class := { plain "java/lang/Record" (some 0) with
  accessFlags := 1057
  interfaces := #[]
  cf := some (fileOf pool2 7 #[] #[{ accessFlags := 4, nameIndex := 5, descriptorIndex := 6, attributes := #[] }] 1057 2 #[] #[])
  fields := #[]
  methods := #[k2m0]
  instanceTypes := #[]
  staticTypes := #[]
  resolved := Array.replicate 22 none
  statics := none }

def pool3 : Array CpInfo := pool [(1, .methodref 2 3), (0, .class_ 4), (0, .nameAndType 5 6), (0, u "java/lang/Record"), (0, u "<init>"), (0, u "()V"), (0, .fieldref 8 9), (0, .class_ 10), (0, .nameAndType 11 12), (0, u "com/example/vaxwire/vaxwire/hl7/Delimiters"), (0, u "field"), (0, u "C"), (0, .fieldref 8 14), (0, .nameAndType 15 12), (0, u "component"), (0, .fieldref 8 17), (0, .nameAndType 18 12), (0, u "repetition"), (0, .fieldref 8 20), (0, .nameAndType 21 12), (0, u "escape"), (0, .fieldref 8 23), (0, .nameAndType 24 12), (0, u "subcomponent"), (7, u "STANDARD"), (0, u "Lcom/example/vaxwire/vaxwire/hl7/Delimiters;"), (6, u "(CCCCC)V"), (2, u "equals"), (0, u "(Ljava/lang/Object;)Z"), (196, .class_ 242), (0, u "com/example/vaxwire/vaxwire/hl7/Delimiters$1"), (6, u "SEQUENCES"), (0, u "Ljava/lang/String;"), (1, u "HEXADECIMAL")] 75

def k3c0 : Code := { maxStack := 2, maxLocals := 6, code := prog_121_method_1_code, exceptionTable := #[], attributes := #[] }
def k3m0 : Method := { name := "<init>", desc := "(CCCCC)V", sig := { parameters := [.char, .char, .char, .char, .char], returnType := none }, accessFlags := 1, code := some k3c0 }
def k3c1 : Code := { maxStack := 2, maxLocals := 3, code := prog_121_method_3_code, exceptionTable := #[], attributes := #[] }
def k3m1 : Method := { name := "equals", desc := "(Ljava/lang/Object;)Z", sig := { parameters := [(.object "java/lang/Object")], returnType := some .boolean }, accessFlags := 1, code := some k3c1 }
/-- com/example/vaxwire/vaxwire/hl7/Delimiters -/
def k3 : Class := { plain "com/example/vaxwire/vaxwire/hl7/Delimiters" (some 2) with
  accessFlags := 49
  interfaces := #[]
  cf := some (fileOf pool3 8 #[.nestMembers #[241]] #[{ accessFlags := 1, nameIndex := 5, descriptorIndex := 40, attributes := #[] }, { accessFlags := 1, nameIndex := 43, descriptorIndex := 44, attributes := #[] }] 49 2 #[] #[{ accessFlags := 18, nameIndex := 11, descriptorIndex := 12, attributes := #[] }, { accessFlags := 18, nameIndex := 15, descriptorIndex := 12, attributes := #[] }, { accessFlags := 18, nameIndex := 18, descriptorIndex := 12, attributes := #[] }, { accessFlags := 18, nameIndex := 21, descriptorIndex := 12, attributes := #[] }, { accessFlags := 18, nameIndex := 24, descriptorIndex := 12, attributes := #[] }, { accessFlags := 25, nameIndex := 32, descriptorIndex := 33, attributes := #[] }, { accessFlags := 26, nameIndex := 249, descriptorIndex := 250, attributes := #[] }, { accessFlags := 26, nameIndex := 252, descriptorIndex := 250, attributes := #[] }])
  fields := #[{ name := "field", type := .char, accessFlags := 18, slot := 0, constantValue := 0 }, { name := "component", type := .char, accessFlags := 18, slot := 1, constantValue := 0 }, { name := "repetition", type := .char, accessFlags := 18, slot := 2, constantValue := 0 }, { name := "escape", type := .char, accessFlags := 18, slot := 3, constantValue := 0 }, { name := "subcomponent", type := .char, accessFlags := 18, slot := 4, constantValue := 0 }, { name := "STANDARD", type := (.object "com/example/vaxwire/vaxwire/hl7/Delimiters"), accessFlags := 25, slot := 0, constantValue := 0 }, { name := "SEQUENCES", type := (.object "java/lang/String"), accessFlags := 26, slot := 1, constantValue := 0 }, { name := "HEXADECIMAL", type := (.object "java/lang/String"), accessFlags := 26, slot := 2, constantValue := 0 }]
  methods := #[k3m0, k3m1]
  instanceTypes := #[.char, .char, .char, .char, .char]
  staticTypes := #[(.object "com/example/vaxwire/vaxwire/hl7/Delimiters"), (.object "java/lang/String"), (.object "java/lang/String")]
  resolved := Array.replicate 328 none
  statics := none }

def pool4 : Array CpInfo := pool [(1, .class_ 2), (0, u "java/io/Serializable"), (0, .class_ 4), (0, u "java/lang/Object")] 2

/-- java/io/Serializable -/
def k4 : Class := { plain "java/io/Serializable" (some 0) with
  accessFlags := 1537
  interfaces := #[]
  cf := some (fileOf pool4 1 #[] #[] 1537 3 #[] #[])
  fields := #[]
  methods := #[]
  instanceTypes := #[]
  staticTypes := #[]
  resolved := Array.replicate 7 none
  statics := none }

def pool5 : Array CpInfo := pool [(1, .methodref 2 3), (0, .class_ 4), (0, .nameAndType 5 6), (0, u "java/lang/Object"), (0, u "<init>"), (0, u "()V"), (1, .class_ 10), (1, u "java/lang/Number"), (2, .class_ 14), (0, u "java/io/Serializable"), (0, u "serialVersionUID"), (0, u "J")] 20

def k5c0 : Code := { maxStack := 1, maxLocals := 1, code := jdk_18_method_1_code, exceptionTable := #[], attributes := #[] }
def k5m0 : Method := { name := "<init>", desc := "()V", sig := { parameters := [], returnType := none }, accessFlags := 1, code := some k5c0 }
/-- java/lang/Number -/
def k5 : Class := { plain "java/lang/Number" (some 0) with
  accessFlags := 1057
  interfaces := #[4]
  cf := some (fileOf pool5 8 #[] #[{ accessFlags := 1, nameIndex := 5, descriptorIndex := 6, attributes := #[] }] 1057 2 #[13] #[{ accessFlags := 26, nameIndex := 15, descriptorIndex := 16, attributes := #[] }])
  fields := #[{ name := "serialVersionUID", type := .long, accessFlags := 26, slot := 0, constantValue := 0 }]
  methods := #[k5m0]
  instanceTypes := #[]
  staticTypes := #[.long]
  resolved := Array.replicate 37 none
  statics := none }

def pool6 : Array CpInfo := pool [(1, .class_ 2), (0, u "java/lang/Comparable"), (0, .class_ 4), (0, u "java/lang/Object")] 7

/-- java/lang/Comparable -/
def k6 : Class := { plain "java/lang/Comparable" (some 0) with
  accessFlags := 1537
  interfaces := #[]
  cf := some (fileOf pool6 1 #[] #[] 1537 3 #[] #[])
  fields := #[]
  methods := #[]
  instanceTypes := #[]
  staticTypes := #[]
  resolved := Array.replicate 12 none
  statics := none }

def pool7 : Array CpInfo := pool [(1, .class_ 2), (0, u "java/lang/constant/Constable"), (0, .class_ 4), (0, u "java/lang/Object")] 6

/-- java/lang/constant/Constable -/
def k7 : Class := { plain "java/lang/constant/Constable" (some 0) with
  accessFlags := 1537
  interfaces := #[]
  cf := some (fileOf pool7 1 #[] #[] 1537 3 #[] #[])
  fields := #[]
  methods := #[]
  instanceTypes := #[]
  staticTypes := #[]
  resolved := Array.replicate 11 none
  statics := none }

def pool8 : Array CpInfo := pool [(1, .class_ 2), (0, u "java/lang/constant/ConstantDesc"), (0, .class_ 4), (0, u "java/lang/Object")] 32

/-- java/lang/constant/ConstantDesc -/
def k8 : Class := { plain "java/lang/constant/ConstantDesc" (some 0) with
  accessFlags := 1537
  interfaces := #[]
  cf := some (fileOf pool8 1 #[] #[] 1537 3 #[] #[])
  fields := #[]
  methods := #[]
  instanceTypes := #[]
  staticTypes := #[]
  resolved := Array.replicate 37 none
  statics := none }

def pool9 : Array CpInfo := pool [(1, .class_ 2), (0, u "java/lang/Integer"), (16, u "digits"), (0, u "[C"), (46, u "<init>"), (17, u "DigitOnes"), (0, u "[B"), (2, u "DigitTens"), (10, .nameAndType 67 101), (0, u "()V"), (85, u "valueOf"), (0, u "(I)Ljava/lang/Integer;"), (0, .class_ 190), (0, u "java/lang/Integer$IntegerCache"), (0, .fieldref 189 192), (0, .nameAndType 193 194), (0, u "high"), (0, u "I"), (0, .fieldref 189 196), (0, .nameAndType 197 198), (0, u "cache"), (0, u "[Ljava/lang/Integer;"), (0, .methodref 1 200), (0, .nameAndType 67 201), (0, u "(I)V"), (0, .methodref 203 100), (0, .class_ 204), (0, u "java/lang/Number"), (0, .fieldref 1 206), (0, .nameAndType 207 194), (0, u "value"), (94, u "TYPE"), (0, u "Ljava/lang/Class;"), (0, .class_ 305), (0, u "java/lang/Comparable"), (0, .class_ 307), (0, u "java/lang/constant/Constable"), (0, .class_ 309), (0, u "java/lang/constant/ConstantDesc"), (0, u "MIN_VALUE"), (1, u "MAX_VALUE"), (3, u "SIZE"), (1, u "BYTES"), (1, u "serialVersionUID"), (0, u "J")] 131

def k9c0 : Code := { maxStack := 3, maxLocals := 1, code := jdk_33_method_22_code, exceptionTable := #[], attributes := #[] }
def k9m0 : Method := { name := "valueOf", desc := "(I)Ljava/lang/Integer;", sig := { parameters := [.int], returnType := some (.object "java/lang/Integer") }, accessFlags := 9, code := some k9c0 }
def k9c1 : Code := { maxStack := 2, maxLocals := 2, code := jdk_33_method_23_code, exceptionTable := #[], attributes := #[] }
def k9m1 : Method := { name := "<init>", desc := "(I)V", sig := { parameters := [.int], returnType := none }, accessFlags := 1, code := some k9c1 }
/-- java/lang/Integer -/
def k9 : Class := { plain "java/lang/Integer" (some 5) with
  accessFlags := 49
  interfaces := #[6, 7, 8]
  cf := some (fileOf pool9 1 #[.nestMembers #[189]] #[{ accessFlags := 9, nameIndex := 187, descriptorIndex := 188, attributes := #[] }, { accessFlags := 1, nameIndex := 67, descriptorIndex := 201, attributes := #[] }] 49 203 #[304, 306, 308] #[{ accessFlags := 25, nameIndex := 310, descriptorIndex := 194, attributes := #[] }, { accessFlags := 25, nameIndex := 312, descriptorIndex := 194, attributes := #[] }, { accessFlags := 25, nameIndex := 302, descriptorIndex := 303, attributes := #[] }, { accessFlags := 24, nameIndex := 19, descriptorIndex := 20, attributes := #[] }, { accessFlags := 24, nameIndex := 89, descriptorIndex := 86, attributes := #[] }, { accessFlags := 24, nameIndex := 85, descriptorIndex := 86, attributes := #[] }, { accessFlags := 18, nameIndex := 207, descriptorIndex := 194, attributes := #[] }, { accessFlags := 25, nameIndex := 316, descriptorIndex := 194, attributes := #[] }, { accessFlags := 25, nameIndex := 318, descriptorIndex := 194, attributes := #[] }, { accessFlags := 26, nameIndex := 320, descriptorIndex := 321, attributes := #[] }])
  fields := #[{ name := "MIN_VALUE", type := .int, accessFlags := 25, slot := 0, constantValue := 0 }, { name := "MAX_VALUE", type := .int, accessFlags := 25, slot := 1, constantValue := 0 }, { name := "TYPE", type := (.object "java/lang/Class"), accessFlags := 25, slot := 2, constantValue := 0 }, { name := "digits", type := (.array .char), accessFlags := 24, slot := 3, constantValue := 0 }, { name := "DigitTens", type := (.array .byte), accessFlags := 24, slot := 4, constantValue := 0 }, { name := "DigitOnes", type := (.array .byte), accessFlags := 24, slot := 5, constantValue := 0 }, { name := "value", type := .int, accessFlags := 18, slot := 0, constantValue := 0 }, { name := "SIZE", type := .int, accessFlags := 25, slot := 6, constantValue := 0 }, { name := "BYTES", type := .int, accessFlags := 25, slot := 7, constantValue := 0 }, { name := "serialVersionUID", type := .long, accessFlags := 26, slot := 8, constantValue := 0 }]
  methods := #[k9m0, k9m1]
  instanceTypes := #[.int]
  staticTypes := #[.int, .int, (.object "java/lang/Class"), (.array .char), (.array .byte), (.array .byte), .int, .int, .long]
  resolved := Array.replicate 453 none
  statics := none }

def pool10 : Array CpInfo := pool [(2, .class_ 4), (1, u "java/lang/Object"), (0, u "<init>"), (0, u "()V"), (0, .class_ 8), (0, u "java/lang/Integer"), (7, .class_ 18), (1, u "java/lang/Integer$IntegerCache"), (0, u "$assertionsDisabled"), (0, u "Z"), (26, u "high"), (0, u "I"), (8, u "archivedCache"), (0, u "[Ljava/lang/Integer;"), (12, u "cache"), (0, u "low")] 27

def k10m0 : Method := { name := "<init>", desc := "()V", sig := { parameters := [], returnType := none }, accessFlags := 2, code := none }
/-- java/lang/Integer$IntegerCache -/
def k10 : Class := { plain "java/lang/Integer$IntegerCache" (some 0) with
  accessFlags := 48
  interfaces := #[]
  cf := some (fileOf pool10 16 #[.nestHost 7] #[{ accessFlags := 2, nameIndex := 5, descriptorIndex := 6, attributes := #[] }] 48 2 #[] #[{ accessFlags := 24, nameIndex := 72, descriptorIndex := 48, attributes := #[] }, { accessFlags := 24, nameIndex := 47, descriptorIndex := 48, attributes := #[] }, { accessFlags := 24, nameIndex := 71, descriptorIndex := 58, attributes := #[] }, { accessFlags := 8, nameIndex := 57, descriptorIndex := 58, attributes := #[] }, { accessFlags := 4120, nameIndex := 19, descriptorIndex := 20, attributes := #[] }])
  fields := #[{ name := "low", type := .int, accessFlags := 24, slot := 0, constantValue := 0 }, { name := "high", type := .int, accessFlags := 24, slot := 1, constantValue := 0 }, { name := "cache", type := (.array (.object "java/lang/Integer")), accessFlags := 24, slot := 2, constantValue := 0 }, { name := "archivedCache", type := (.array (.object "java/lang/Integer")), accessFlags := 8, slot := 3, constantValue := 0 }, { name := "$assertionsDisabled", type := .boolean, accessFlags := 4120, slot := 4, constantValue := 0 }]
  methods := #[k10m0]
  instanceTypes := #[]
  staticTypes := #[.int, .int, (.array (.object "java/lang/Integer")), (.array (.object "java/lang/Integer")), .boolean]
  resolved := Array.replicate 100 none
  statics := some 0 }

def pool11 : Array CpInfo := pool [(1, u "java/lang/Cloneable"), (0, .class_ 1), (0, u "java/lang/Object"), (0, .class_ 3)] 3

/-- java/lang/Cloneable -/
def k11 : Class := { plain "java/lang/Cloneable" (some 0) with
  accessFlags := 1537
  interfaces := #[]
  cf := some (fileOf pool11 2 #[] #[] 1537 4 #[] #[])
  fields := #[]
  methods := #[]
  instanceTypes := #[]
  staticTypes := #[]
  resolved := Array.replicate 8 none
  statics := none }

/-- the primitive byte -/
def k12 : Class := { plain "byte" none with kind := .primitive 'B', accessFlags := 0x411 }
/-- [B -/
def k13 : Class := { plain "[B" (some 0) with kind := .array 12 .byte, interfaces := #[11, 4], accessFlags := 1041 }

/-- the primitive int -/
def k14 : Class := { plain "int" none with kind := .primitive 'I', accessFlags := 0x411 }
/-- [I -/
def k15 : Class := { plain "[I" (some 0) with kind := .array 14 .int, interfaces := #[11, 4], accessFlags := 1041 }

/-- [Ljava/lang/Integer; -/
def k16 : Class := { plain "[Ljava/lang/Integer;" (some 0) with kind := .array 9 (.object "java/lang/Integer"), interfaces := #[11, 4], accessFlags := 1041 }

def heap : Heap := #[{ cls := 10, slots := #[.int 0, .int 127, .ref 1, .null, .int 0], vm := .statics 10 },
  { cls := 16, slots := #[.ref 2, .ref 3, .ref 4, .ref 5, .ref 6, .ref 7, .ref 8, .ref 9, .ref 10, .ref 11, .ref 12, .ref 13, .ref 14, .ref 15, .ref 16, .ref 17, .ref 18, .ref 19, .ref 20, .ref 21, .ref 22, .ref 23, .ref 24, .ref 25, .ref 26, .ref 27, .ref 28, .ref 29, .ref 30, .ref 31, .ref 32, .ref 33, .ref 34, .ref 35, .ref 36, .ref 37, .ref 38, .ref 39, .ref 40, .ref 41, .ref 42, .ref 43, .ref 44, .ref 45, .ref 46, .ref 47, .ref 48, .ref 49, .ref 50, .ref 51, .ref 52, .ref 53, .ref 54, .ref 55, .ref 56, .ref 57, .ref 58, .ref 59, .ref 60, .ref 61, .ref 62, .ref 63, .ref 64, .ref 65, .ref 66, .ref 67, .ref 68, .ref 69, .ref 70, .ref 71, .ref 72, .ref 73, .ref 74, .ref 75, .ref 76, .ref 77, .ref 78, .ref 79, .ref 80, .ref 81, .ref 82, .ref 83, .ref 84, .ref 85, .ref 86, .ref 87, .ref 88, .ref 89, .ref 90, .ref 91, .ref 92, .ref 93, .ref 94, .ref 95, .ref 96, .ref 97, .ref 98, .ref 99, .ref 100, .ref 101, .ref 102, .ref 103, .ref 104, .ref 105, .ref 106, .ref 107, .ref 108, .ref 109, .ref 110, .ref 111, .ref 112, .ref 113, .ref 114, .ref 115, .ref 116, .ref 117, .ref 118, .ref 119, .ref 120, .ref 121, .ref 122, .ref 123, .ref 124, .ref 125, .ref 126, .ref 127, .ref 128, .ref 129, .ref 130, .ref 131, .ref 132, .ref 133, .ref 134, .ref 135, .ref 136, .ref 137, .ref 138, .ref 139, .ref 140, .ref 141, .ref 142, .ref 143, .ref 144, .ref 145, .ref 146, .ref 147, .ref 148, .ref 149, .ref 150, .ref 151, .ref 152, .ref 153, .ref 154, .ref 155, .ref 156, .ref 157, .ref 158, .ref 159, .ref 160, .ref 161, .ref 162, .ref 163, .ref 164, .ref 165, .ref 166, .ref 167, .ref 168, .ref 169, .ref 170, .ref 171, .ref 172, .ref 173, .ref 174, .ref 175, .ref 176, .ref 177, .ref 178, .ref 179, .ref 180, .ref 181, .ref 182, .ref 183, .ref 184, .ref 185, .ref 186, .ref 187, .ref 188, .ref 189, .ref 190, .ref 191, .ref 192, .ref 193, .ref 194, .ref 195, .ref 196, .ref 197, .ref 198, .ref 199, .ref 200, .ref 201, .ref 202, .ref 203, .ref 204, .ref 205, .ref 206, .ref 207, .ref 208, .ref 209, .ref 210, .ref 211, .ref 212, .ref 213, .ref 214, .ref 215, .ref 216, .ref 217, .ref 218, .ref 219, .ref 220, .ref 221, .ref 222, .ref 223, .ref 224, .ref 225, .ref 226, .ref 227, .ref 228, .ref 229, .ref 230, .ref 231, .ref 232, .ref 233, .ref 234, .ref 235, .ref 236, .ref 237, .ref 238, .ref 239, .ref 240, .ref 241, .ref 242, .ref 243, .ref 244, .ref 245, .ref 246, .ref 247, .ref 248, .ref 249, .ref 250, .ref 251, .ref 252, .ref 253, .ref 254, .ref 255, .ref 256, .ref 257], vm := .none },
  { cls := 9, slots := #[.int (-128)], vm := .none },
  { cls := 9, slots := #[.int (-127)], vm := .none },
  { cls := 9, slots := #[.int (-126)], vm := .none },
  { cls := 9, slots := #[.int (-125)], vm := .none },
  { cls := 9, slots := #[.int (-124)], vm := .none },
  { cls := 9, slots := #[.int (-123)], vm := .none },
  { cls := 9, slots := #[.int (-122)], vm := .none },
  { cls := 9, slots := #[.int (-121)], vm := .none },
  { cls := 9, slots := #[.int (-120)], vm := .none },
  { cls := 9, slots := #[.int (-119)], vm := .none },
  { cls := 9, slots := #[.int (-118)], vm := .none },
  { cls := 9, slots := #[.int (-117)], vm := .none },
  { cls := 9, slots := #[.int (-116)], vm := .none },
  { cls := 9, slots := #[.int (-115)], vm := .none },
  { cls := 9, slots := #[.int (-114)], vm := .none },
  { cls := 9, slots := #[.int (-113)], vm := .none },
  { cls := 9, slots := #[.int (-112)], vm := .none },
  { cls := 9, slots := #[.int (-111)], vm := .none },
  { cls := 9, slots := #[.int (-110)], vm := .none },
  { cls := 9, slots := #[.int (-109)], vm := .none },
  { cls := 9, slots := #[.int (-108)], vm := .none },
  { cls := 9, slots := #[.int (-107)], vm := .none },
  { cls := 9, slots := #[.int (-106)], vm := .none },
  { cls := 9, slots := #[.int (-105)], vm := .none },
  { cls := 9, slots := #[.int (-104)], vm := .none },
  { cls := 9, slots := #[.int (-103)], vm := .none },
  { cls := 9, slots := #[.int (-102)], vm := .none },
  { cls := 9, slots := #[.int (-101)], vm := .none },
  { cls := 9, slots := #[.int (-100)], vm := .none },
  { cls := 9, slots := #[.int (-99)], vm := .none },
  { cls := 9, slots := #[.int (-98)], vm := .none },
  { cls := 9, slots := #[.int (-97)], vm := .none },
  { cls := 9, slots := #[.int (-96)], vm := .none },
  { cls := 9, slots := #[.int (-95)], vm := .none },
  { cls := 9, slots := #[.int (-94)], vm := .none },
  { cls := 9, slots := #[.int (-93)], vm := .none },
  { cls := 9, slots := #[.int (-92)], vm := .none },
  { cls := 9, slots := #[.int (-91)], vm := .none },
  { cls := 9, slots := #[.int (-90)], vm := .none },
  { cls := 9, slots := #[.int (-89)], vm := .none },
  { cls := 9, slots := #[.int (-88)], vm := .none },
  { cls := 9, slots := #[.int (-87)], vm := .none },
  { cls := 9, slots := #[.int (-86)], vm := .none },
  { cls := 9, slots := #[.int (-85)], vm := .none },
  { cls := 9, slots := #[.int (-84)], vm := .none },
  { cls := 9, slots := #[.int (-83)], vm := .none },
  { cls := 9, slots := #[.int (-82)], vm := .none },
  { cls := 9, slots := #[.int (-81)], vm := .none },
  { cls := 9, slots := #[.int (-80)], vm := .none },
  { cls := 9, slots := #[.int (-79)], vm := .none },
  { cls := 9, slots := #[.int (-78)], vm := .none },
  { cls := 9, slots := #[.int (-77)], vm := .none },
  { cls := 9, slots := #[.int (-76)], vm := .none },
  { cls := 9, slots := #[.int (-75)], vm := .none },
  { cls := 9, slots := #[.int (-74)], vm := .none },
  { cls := 9, slots := #[.int (-73)], vm := .none },
  { cls := 9, slots := #[.int (-72)], vm := .none },
  { cls := 9, slots := #[.int (-71)], vm := .none },
  { cls := 9, slots := #[.int (-70)], vm := .none },
  { cls := 9, slots := #[.int (-69)], vm := .none },
  { cls := 9, slots := #[.int (-68)], vm := .none },
  { cls := 9, slots := #[.int (-67)], vm := .none },
  { cls := 9, slots := #[.int (-66)], vm := .none },
  { cls := 9, slots := #[.int (-65)], vm := .none },
  { cls := 9, slots := #[.int (-64)], vm := .none },
  { cls := 9, slots := #[.int (-63)], vm := .none },
  { cls := 9, slots := #[.int (-62)], vm := .none },
  { cls := 9, slots := #[.int (-61)], vm := .none },
  { cls := 9, slots := #[.int (-60)], vm := .none },
  { cls := 9, slots := #[.int (-59)], vm := .none },
  { cls := 9, slots := #[.int (-58)], vm := .none },
  { cls := 9, slots := #[.int (-57)], vm := .none },
  { cls := 9, slots := #[.int (-56)], vm := .none },
  { cls := 9, slots := #[.int (-55)], vm := .none },
  { cls := 9, slots := #[.int (-54)], vm := .none },
  { cls := 9, slots := #[.int (-53)], vm := .none },
  { cls := 9, slots := #[.int (-52)], vm := .none },
  { cls := 9, slots := #[.int (-51)], vm := .none },
  { cls := 9, slots := #[.int (-50)], vm := .none },
  { cls := 9, slots := #[.int (-49)], vm := .none },
  { cls := 9, slots := #[.int (-48)], vm := .none },
  { cls := 9, slots := #[.int (-47)], vm := .none },
  { cls := 9, slots := #[.int (-46)], vm := .none },
  { cls := 9, slots := #[.int (-45)], vm := .none },
  { cls := 9, slots := #[.int (-44)], vm := .none },
  { cls := 9, slots := #[.int (-43)], vm := .none },
  { cls := 9, slots := #[.int (-42)], vm := .none },
  { cls := 9, slots := #[.int (-41)], vm := .none },
  { cls := 9, slots := #[.int (-40)], vm := .none },
  { cls := 9, slots := #[.int (-39)], vm := .none },
  { cls := 9, slots := #[.int (-38)], vm := .none },
  { cls := 9, slots := #[.int (-37)], vm := .none },
  { cls := 9, slots := #[.int (-36)], vm := .none },
  { cls := 9, slots := #[.int (-35)], vm := .none },
  { cls := 9, slots := #[.int (-34)], vm := .none },
  { cls := 9, slots := #[.int (-33)], vm := .none },
  { cls := 9, slots := #[.int (-32)], vm := .none },
  { cls := 9, slots := #[.int (-31)], vm := .none },
  { cls := 9, slots := #[.int (-30)], vm := .none },
  { cls := 9, slots := #[.int (-29)], vm := .none },
  { cls := 9, slots := #[.int (-28)], vm := .none },
  { cls := 9, slots := #[.int (-27)], vm := .none },
  { cls := 9, slots := #[.int (-26)], vm := .none },
  { cls := 9, slots := #[.int (-25)], vm := .none },
  { cls := 9, slots := #[.int (-24)], vm := .none },
  { cls := 9, slots := #[.int (-23)], vm := .none },
  { cls := 9, slots := #[.int (-22)], vm := .none },
  { cls := 9, slots := #[.int (-21)], vm := .none },
  { cls := 9, slots := #[.int (-20)], vm := .none },
  { cls := 9, slots := #[.int (-19)], vm := .none },
  { cls := 9, slots := #[.int (-18)], vm := .none },
  { cls := 9, slots := #[.int (-17)], vm := .none },
  { cls := 9, slots := #[.int (-16)], vm := .none },
  { cls := 9, slots := #[.int (-15)], vm := .none },
  { cls := 9, slots := #[.int (-14)], vm := .none },
  { cls := 9, slots := #[.int (-13)], vm := .none },
  { cls := 9, slots := #[.int (-12)], vm := .none },
  { cls := 9, slots := #[.int (-11)], vm := .none },
  { cls := 9, slots := #[.int (-10)], vm := .none },
  { cls := 9, slots := #[.int (-9)], vm := .none },
  { cls := 9, slots := #[.int (-8)], vm := .none },
  { cls := 9, slots := #[.int (-7)], vm := .none },
  { cls := 9, slots := #[.int (-6)], vm := .none },
  { cls := 9, slots := #[.int (-5)], vm := .none },
  { cls := 9, slots := #[.int (-4)], vm := .none },
  { cls := 9, slots := #[.int (-3)], vm := .none },
  { cls := 9, slots := #[.int (-2)], vm := .none },
  { cls := 9, slots := #[.int (-1)], vm := .none },
  { cls := 9, slots := #[.int (0)], vm := .none },
  { cls := 9, slots := #[.int (1)], vm := .none },
  { cls := 9, slots := #[.int (2)], vm := .none },
  { cls := 9, slots := #[.int (3)], vm := .none },
  { cls := 9, slots := #[.int (4)], vm := .none },
  { cls := 9, slots := #[.int (5)], vm := .none },
  { cls := 9, slots := #[.int (6)], vm := .none },
  { cls := 9, slots := #[.int (7)], vm := .none },
  { cls := 9, slots := #[.int (8)], vm := .none },
  { cls := 9, slots := #[.int (9)], vm := .none },
  { cls := 9, slots := #[.int (10)], vm := .none },
  { cls := 9, slots := #[.int (11)], vm := .none },
  { cls := 9, slots := #[.int (12)], vm := .none },
  { cls := 9, slots := #[.int (13)], vm := .none },
  { cls := 9, slots := #[.int (14)], vm := .none },
  { cls := 9, slots := #[.int (15)], vm := .none },
  { cls := 9, slots := #[.int (16)], vm := .none },
  { cls := 9, slots := #[.int (17)], vm := .none },
  { cls := 9, slots := #[.int (18)], vm := .none },
  { cls := 9, slots := #[.int (19)], vm := .none },
  { cls := 9, slots := #[.int (20)], vm := .none },
  { cls := 9, slots := #[.int (21)], vm := .none },
  { cls := 9, slots := #[.int (22)], vm := .none },
  { cls := 9, slots := #[.int (23)], vm := .none },
  { cls := 9, slots := #[.int (24)], vm := .none },
  { cls := 9, slots := #[.int (25)], vm := .none },
  { cls := 9, slots := #[.int (26)], vm := .none },
  { cls := 9, slots := #[.int (27)], vm := .none },
  { cls := 9, slots := #[.int (28)], vm := .none },
  { cls := 9, slots := #[.int (29)], vm := .none },
  { cls := 9, slots := #[.int (30)], vm := .none },
  { cls := 9, slots := #[.int (31)], vm := .none },
  { cls := 9, slots := #[.int (32)], vm := .none },
  { cls := 9, slots := #[.int (33)], vm := .none },
  { cls := 9, slots := #[.int (34)], vm := .none },
  { cls := 9, slots := #[.int (35)], vm := .none },
  { cls := 9, slots := #[.int (36)], vm := .none },
  { cls := 9, slots := #[.int (37)], vm := .none },
  { cls := 9, slots := #[.int (38)], vm := .none },
  { cls := 9, slots := #[.int (39)], vm := .none },
  { cls := 9, slots := #[.int (40)], vm := .none },
  { cls := 9, slots := #[.int (41)], vm := .none },
  { cls := 9, slots := #[.int (42)], vm := .none },
  { cls := 9, slots := #[.int (43)], vm := .none },
  { cls := 9, slots := #[.int (44)], vm := .none },
  { cls := 9, slots := #[.int (45)], vm := .none },
  { cls := 9, slots := #[.int (46)], vm := .none },
  { cls := 9, slots := #[.int (47)], vm := .none },
  { cls := 9, slots := #[.int (48)], vm := .none },
  { cls := 9, slots := #[.int (49)], vm := .none },
  { cls := 9, slots := #[.int (50)], vm := .none },
  { cls := 9, slots := #[.int (51)], vm := .none },
  { cls := 9, slots := #[.int (52)], vm := .none },
  { cls := 9, slots := #[.int (53)], vm := .none },
  { cls := 9, slots := #[.int (54)], vm := .none },
  { cls := 9, slots := #[.int (55)], vm := .none },
  { cls := 9, slots := #[.int (56)], vm := .none },
  { cls := 9, slots := #[.int (57)], vm := .none },
  { cls := 9, slots := #[.int (58)], vm := .none },
  { cls := 9, slots := #[.int (59)], vm := .none },
  { cls := 9, slots := #[.int (60)], vm := .none },
  { cls := 9, slots := #[.int (61)], vm := .none },
  { cls := 9, slots := #[.int (62)], vm := .none },
  { cls := 9, slots := #[.int (63)], vm := .none },
  { cls := 9, slots := #[.int (64)], vm := .none },
  { cls := 9, slots := #[.int (65)], vm := .none },
  { cls := 9, slots := #[.int (66)], vm := .none },
  { cls := 9, slots := #[.int (67)], vm := .none },
  { cls := 9, slots := #[.int (68)], vm := .none },
  { cls := 9, slots := #[.int (69)], vm := .none },
  { cls := 9, slots := #[.int (70)], vm := .none },
  { cls := 9, slots := #[.int (71)], vm := .none },
  { cls := 9, slots := #[.int (72)], vm := .none },
  { cls := 9, slots := #[.int (73)], vm := .none },
  { cls := 9, slots := #[.int (74)], vm := .none },
  { cls := 9, slots := #[.int (75)], vm := .none },
  { cls := 9, slots := #[.int (76)], vm := .none },
  { cls := 9, slots := #[.int (77)], vm := .none },
  { cls := 9, slots := #[.int (78)], vm := .none },
  { cls := 9, slots := #[.int (79)], vm := .none },
  { cls := 9, slots := #[.int (80)], vm := .none },
  { cls := 9, slots := #[.int (81)], vm := .none },
  { cls := 9, slots := #[.int (82)], vm := .none },
  { cls := 9, slots := #[.int (83)], vm := .none },
  { cls := 9, slots := #[.int (84)], vm := .none },
  { cls := 9, slots := #[.int (85)], vm := .none },
  { cls := 9, slots := #[.int (86)], vm := .none },
  { cls := 9, slots := #[.int (87)], vm := .none },
  { cls := 9, slots := #[.int (88)], vm := .none },
  { cls := 9, slots := #[.int (89)], vm := .none },
  { cls := 9, slots := #[.int (90)], vm := .none },
  { cls := 9, slots := #[.int (91)], vm := .none },
  { cls := 9, slots := #[.int (92)], vm := .none },
  { cls := 9, slots := #[.int (93)], vm := .none },
  { cls := 9, slots := #[.int (94)], vm := .none },
  { cls := 9, slots := #[.int (95)], vm := .none },
  { cls := 9, slots := #[.int (96)], vm := .none },
  { cls := 9, slots := #[.int (97)], vm := .none },
  { cls := 9, slots := #[.int (98)], vm := .none },
  { cls := 9, slots := #[.int (99)], vm := .none },
  { cls := 9, slots := #[.int (100)], vm := .none },
  { cls := 9, slots := #[.int (101)], vm := .none },
  { cls := 9, slots := #[.int (102)], vm := .none },
  { cls := 9, slots := #[.int (103)], vm := .none },
  { cls := 9, slots := #[.int (104)], vm := .none },
  { cls := 9, slots := #[.int (105)], vm := .none },
  { cls := 9, slots := #[.int (106)], vm := .none },
  { cls := 9, slots := #[.int (107)], vm := .none },
  { cls := 9, slots := #[.int (108)], vm := .none },
  { cls := 9, slots := #[.int (109)], vm := .none },
  { cls := 9, slots := #[.int (110)], vm := .none },
  { cls := 9, slots := #[.int (111)], vm := .none },
  { cls := 9, slots := #[.int (112)], vm := .none },
  { cls := 9, slots := #[.int (113)], vm := .none },
  { cls := 9, slots := #[.int (114)], vm := .none },
  { cls := 9, slots := #[.int (115)], vm := .none },
  { cls := 9, slots := #[.int (116)], vm := .none },
  { cls := 9, slots := #[.int (117)], vm := .none },
  { cls := 9, slots := #[.int (118)], vm := .none },
  { cls := 9, slots := #[.int (119)], vm := .none },
  { cls := 9, slots := #[.int (120)], vm := .none },
  { cls := 9, slots := #[.int (121)], vm := .none },
  { cls := 9, slots := #[.int (122)], vm := .none },
  { cls := 9, slots := #[.int (123)], vm := .none },
  { cls := 9, slots := #[.int (124)], vm := .none },
  { cls := 9, slots := #[.int (125)], vm := .none },
  { cls := 9, slots := #[.int (126)], vm := .none },
  { cls := 9, slots := #[.int (127)], vm := .none }]
def classes : Array Class := #[k0, k1, k2, k3, k4, k5, k6, k7, k8, k9, k10, k11, k12, k13, k14, k15, k16]
def interned : List (Array UInt16 × Addr) := []
def slotsUsed : Nat := 517
def theMethod : MethodId := ⟨1, 2⟩
def args0 : Array Value := #[.int 5, .int 6, .int 7, .int 8, .int 9, .int 10]
def aboutOver (below : List Frame) : State where
  vm := { classes := classes, interned := interned.toArray }
  heap := heap
  slotsUsed := slotsUsed
  threads := #[{ frames := .invoking theMethod args0 :: below }]
def below0 : List Frame := [.native { method := ⟨0, 0⟩, args := #[] }]
def about1 : State := aboutOver below0
def p0 : Program := .bare "" "" ""
def e0 : Env := launch0.env 0 0 0
theorem w_frames : about1.frames = Frame.invoking theMethod args0 :: below0 := rfl
set_option maxRecDepth 65536 in
theorem w_args : argsFit about1.vm theMethod args0 = true := by decide +kernel
set_option maxRecDepth 65536 in
theorem w_heap : heapFits about1 = true := by decide +kernel
set_option maxRecDepth 65536 in
theorem w_runnable : about1.curStatus? = some .runnable := by decide +kernel
set_option maxRecDepth 65536 in
theorem w_alone : about1.alone = true := by decide +kernel
set_option maxRecDepth 65536 in
theorem w_named : about1.methodNamed? x = some theMethod := by decide +kernel
set_option maxRecDepth 65536 in
theorem w_hears : about1.hears theMethod below0 = true := by decide +kernel
set_option maxRecDepth 65536 in
theorem w_ripe : about1.ripe theMethod args0 below0 = true := by decide +kernel
theorem w_running : about1.status = .running := rfl
set_option maxRecDepth 65536 in
theorem w_room : about1.hasRoom e0.platform room_1 = true :=
  launch0.hasRoom_least _ room_1 (by decide +kernel) (by decide +kernel) (by decide +kernel) (by decide +kernel) (by decide +kernel) (by decide +kernel)
theorem allAtoms_all (ts : List Jvm.Cond) (a : Array Jvm.Value) (st : Jvm.State) : (allAtoms ts).before a st = ts.all (fun c => c.before a st) := by
  induction ts with
  | nil => rfl
  | cons c t ih =>
    show (Jvm.Cond.and c (allAtoms t)).before a st = _
    rw [Jvm.Cond.before_and, ih, List.all_cons]
def words1 : List Jvm.Cond := Jvm.Cond.code x code maxLocals ret :: tables_1
/-- a 'code' word, met by the world's own term for the bytes: nothing is compared byte by byte -/
theorem code_word {y : MethodName} {bytes : ByteArray} {mx : Nat} {rt : Option FieldType} {a : Array Value} {s : State} {m : MethodId} {meth : Method} {c : Code} (h1 : s.methodNamed? y = some m) (h2 : s.vm.method? m = some meth) (h3 : meth.code = some c) (h4 : c.code = bytes)
    (h5 : (c.maxLocals == mx && c.exceptionTable.isEmpty && decide (c.maxStack ≤ mostOperands) && decide (meth.sig.returnType = rt) && !meth.locks && decide (parseMethodDescriptor y.desc = some meth.sig)) = true) : (Jvm.Cond.code y bytes mx rt).before a s = true := by
  simp only [Bool.and_eq_true, beq_iff_eq, Bool.not_eq_true', decide_eq_true_eq] at h5
  obtain ⟨⟨⟨⟨⟨g1, g2⟩, g3⟩, g4⟩, g5⟩, g6⟩ := h5
  simp [Cond.before, Cond.holds, Cond.value, h1, h2, h3, h4, g1, g2, g3, g4, g5, g6]
def isCode : Jvm.Cond → Bool
  | .code _ _ _ _ => true
  | _ => false
theorem all_split {L : List Jvm.Cond} {P : Jvm.Cond → Bool} (h1 : L.all (fun c => isCode c || P c) = true) (h2 : ∀ c ∈ L.filter isCode, P c = true) : L.all P = true := by
  refine List.all_eq_true.mpr fun c hc => ?_
  have h := List.all_eq_true.mp h1 c hc
  rcases Bool.eq_false_or_eq_true (isCode c) with hi | hi
  · exact h2 c (List.mem_filter.mpr ⟨hc, hi⟩)
  · simpa [hi] using h
set_option maxRecDepth 65536 in
theorem w_c0 : (Jvm.Cond.code x code maxLocals ret).before args0 about1 = true := code_word (m := ⟨1, 2⟩) (meth := k1m2) (c := k1c2) (by decide +kernel) rfl rfl rfl (by decide +kernel)
set_option maxRecDepth 65536 in
theorem w_c1 : (Jvm.Cond.code ({ cls := "com/example/vaxwire/vaxwire/hl7/DelimitersEqualsPinLaw", name := "pick", desc := "(IICC)C" } : Jvm.MethodName) method_2_code (4 : Nat) (Option.some Jvm.ClassFile.FieldType.char)).before args0 about1 = true := code_word (m := ⟨1, 1⟩) (meth := k1m1) (c := k1c1) (by decide +kernel) rfl rfl rfl (by decide +kernel)
set_option maxRecDepth 65536 in
theorem w_c2 : (Jvm.Cond.code ({ cls := "com/example/vaxwire/vaxwire/hl7/Delimiters", name := "<init>", desc := "(CCCCC)V" } : Jvm.MethodName) prog_121_method_1_code (6 : Nat) (Option.none : Option Jvm.ClassFile.FieldType)).before args0 about1 = true := code_word (m := ⟨3, 0⟩) (meth := k3m0) (c := k3c0) (by decide +kernel) rfl rfl rfl (by decide +kernel)
set_option maxRecDepth 65536 in
theorem w_c3 : (Jvm.Cond.code ({ cls := "java/lang/Record", name := "<init>", desc := "()V" } : Jvm.MethodName) jdk_30_method_1_code (1 : Nat) (Option.none : Option Jvm.ClassFile.FieldType)).before args0 about1 = true := code_word (m := ⟨2, 0⟩) (meth := k2m0) (c := k2c0) (by decide +kernel) rfl rfl rfl (by decide +kernel)
set_option maxRecDepth 65536 in
theorem w_c4 : (Jvm.Cond.code ({ cls := "java/lang/Object", name := "<init>", desc := "()V" } : Jvm.MethodName) object_method_1_code (1 : Nat) (Option.none : Option Jvm.ClassFile.FieldType)).before args0 about1 = true := code_word (m := ⟨0, 0⟩) (meth := k0m0) (c := k0c0) (by decide +kernel) rfl rfl rfl (by decide +kernel)
set_option maxRecDepth 65536 in
theorem w_c5 : (Jvm.Cond.code ({ cls := "java/lang/Integer", name := "valueOf", desc := "(I)Ljava/lang/Integer;" } : Jvm.MethodName) jdk_33_method_22_code (1 : Nat) (Option.some (Jvm.ClassFile.FieldType.object "java/lang/Integer"))).before args0 about1 = true := code_word (m := ⟨9, 0⟩) (meth := k9m0) (c := k9c0) (by decide +kernel) rfl rfl rfl (by decide +kernel)
set_option maxRecDepth 65536 in
theorem w_c6 : (Jvm.Cond.code ({ cls := "com/example/vaxwire/vaxwire/hl7/Delimiters", name := "equals", desc := "(Ljava/lang/Object;)Z" } : Jvm.MethodName) prog_121_method_3_code (3 : Nat) (Option.some Jvm.ClassFile.FieldType.boolean)).before args0 about1 = true := code_word (m := ⟨3, 1⟩) (meth := k3m1) (c := k3c1) (by decide +kernel) rfl rfl rfl (by decide +kernel)
set_option maxRecDepth 65536 in
theorem w_c7 : (Jvm.Cond.code ({ cls := "java/lang/Integer", name := "<init>", desc := "(I)V" } : Jvm.MethodName) jdk_33_method_23_code (2 : Nat) (Option.none : Option Jvm.ClassFile.FieldType)).before args0 about1 = true := code_word (m := ⟨9, 1⟩) (meth := k9m1) (c := k9c1) (by decide +kernel) rfl rfl rfl (by decide +kernel)
set_option maxRecDepth 65536 in
theorem w_c8 : (Jvm.Cond.code ({ cls := "java/lang/Number", name := "<init>", desc := "()V" } : Jvm.MethodName) jdk_18_method_1_code (1 : Nat) (Option.none : Option Jvm.ClassFile.FieldType)).before args0 about1 = true := code_word (m := ⟨5, 0⟩) (meth := k5m0) (c := k5c0) (by decide +kernel) rfl rfl rfl (by decide +kernel)
def codes1 : List Jvm.Cond := [Jvm.Cond.code x code maxLocals ret, Jvm.Cond.code ({ cls := "com/example/vaxwire/vaxwire/hl7/DelimitersEqualsPinLaw", name := "pick", desc := "(IICC)C" } : Jvm.MethodName) method_2_code (4 : Nat) (Option.some Jvm.ClassFile.FieldType.char), Jvm.Cond.code ({ cls := "com/example/vaxwire/vaxwire/hl7/Delimiters", name := "<init>", desc := "(CCCCC)V" } : Jvm.MethodName) prog_121_method_1_code (6 : Nat) (Option.none : Option Jvm.ClassFile.FieldType), Jvm.Cond.code ({ cls := "java/lang/Record", name := "<init>", desc := "()V" } : Jvm.MethodName) jdk_30_method_1_code (1 : Nat) (Option.none : Option Jvm.ClassFile.FieldType), Jvm.Cond.code ({ cls := "java/lang/Object", name := "<init>", desc := "()V" } : Jvm.MethodName) object_method_1_code (1 : Nat) (Option.none : Option Jvm.ClassFile.FieldType), Jvm.Cond.code ({ cls := "java/lang/Integer", name := "valueOf", desc := "(I)Ljava/lang/Integer;" } : Jvm.MethodName) jdk_33_method_22_code (1 : Nat) (Option.some (Jvm.ClassFile.FieldType.object "java/lang/Integer")), Jvm.Cond.code ({ cls := "com/example/vaxwire/vaxwire/hl7/Delimiters", name := "equals", desc := "(Ljava/lang/Object;)Z" } : Jvm.MethodName) prog_121_method_3_code (3 : Nat) (Option.some Jvm.ClassFile.FieldType.boolean), Jvm.Cond.code ({ cls := "java/lang/Integer", name := "<init>", desc := "(I)V" } : Jvm.MethodName) jdk_33_method_23_code (2 : Nat) (Option.none : Option Jvm.ClassFile.FieldType), Jvm.Cond.code ({ cls := "java/lang/Number", name := "<init>", desc := "()V" } : Jvm.MethodName) jdk_18_method_1_code (1 : Nat) (Option.none : Option Jvm.ClassFile.FieldType)]
set_option maxRecDepth 65536 in
theorem codes_eq : words1.filter isCode = codes1 := rfl
theorem w_codes : ∀ c ∈ words1.filter isCode, c.before args0 about1 = true := by
  rw [codes_eq]
  intro c hc
  simp only [codes1, List.mem_cons, List.not_mem_nil, or_false] at hc
  rcases hc with rfl | rfl | rfl | rfl | rfl | rfl | rfl | rfl | rfl
  · exact w_c0
  · exact w_c1
  · exact w_c2
  · exact w_c3
  · exact w_c4
  · exact w_c5
  · exact w_c6
  · exact w_c7
  · exact w_c8
set_option maxRecDepth 65536 in
theorem w_t1 : (words1.take 24).all (fun c => isCode c || c.before args0 about1) = true := by decide +kernel
set_option maxRecDepth 65536 in
theorem w_t2 : ((words1.drop 24).take 24).all (fun c => isCode c || c.before args0 about1) = true := by decide +kernel
set_option maxRecDepth 65536 in
theorem w_t3 : ((words1.drop 24).drop 24).all (fun c => isCode c || c.before args0 about1) = true := by decide +kernel
theorem w_tables : (allAtoms (Jvm.Cond.code x code maxLocals ret :: tables_1)).before args0 about1 = true := by
  rw [allAtoms_all]
  show words1.all (fun c => c.before args0 about1) = true
  refine all_split ?_ w_codes
  rw [← List.take_append_drop 24 words1, List.all_append, w_t1, ← List.take_append_drop 24 (words1.drop 24), List.all_append, w_t2, w_t3]
  rfl
set_option maxRecDepth 65536 in
theorem w_rest : rest_1_c.before args0 about1 = true := by decide +kernel
set_option maxRecDepth 65536 in
theorem w_case : (Jvm.Cond.and given_1 narrow_1).before args0 about1 = true := by decide +kernel
theorem w_applies : (headSpec (Jvm.Cond.code x code maxLocals ret :: tables_1) room_1).applies x e0.platform about1 = true :=
  (Spec.applies_iff w_frames).mpr ⟨w_running, w_runnable, w_alone, w_named, w_hears, w_ripe, w_room, w_tables⟩
theorem atStart : AtStart classFile x code maxLocals ret World_1 tables_1 room_1 Calls_1 rest_1 Pre_1 launch0 p0 e0 about1 theMethod args0 below0 :=
  ⟨lists_1, trivial, launch0.admits_env _ _ _, launch0.least_env, fairChoices_fair.cas, fairChoices_fair.clock, w_frames, w_args, w_heap, w_applies, trivial, w_rest, w_case⟩
end start1
theorem witness_1 : WitnessClaimed_1 := ⟨start1.p0, start1.e0, start1.about1, start1.theMethod, start1.args0, start1.below0, start1.atStart⟩
end Jvm.Pilot.@@N@@
