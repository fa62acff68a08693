import JvmDerived
import JvmDerived.Pilot.@@N@@Statement
import JvmDerived.Pilot.@@N@@Code
set_option linter.unusedVariables false
set_option linter.unusedSimpArgs false
@@BLOCK:NumsL.lean.txt@@
namespace Jvm.RoadKit
open Sem ClassFile Op Lib Jvm.Stand Jvm.Free Jvm.LawKit
section New
variable {p : Program} {l : Launch} {e : Env} {R : Room} {s : State} {m : MethodId} {args : Array Value} {below : List Frame} {meth : Method} {c : Code} {T : State} {locs : List Loc} {cells slots : Nat}
theorem retI (X : Stand p l e R s m args below meth c T locs cells slots) (hx : p.tables.exec = Jvm.exec) {pc : Nat} {Ls : Array Slot} {z : Int32} {rest : List Value} (hret : meth.sig.returnType = some .int) (hd : decode c.code pc = .ok (.ireturn, 1)) {fs : List Frame}
    (hl : ∀ (f : JFrame) (acts : List Action), f.method = m → f.locked = none → f.entered = [] → (doReturn e (T.setTop f) acts (some (.int z))).1 = T.setFrames fs) : Steps p.tables e below (T.setTop (mkF m pc Ls (.int z :: rest))) (T.setFrames fs) := by
  have hm' : T.vm.method? m = some meth := X.method'
  have hn : narrow .int (.int z) = .int z := rfl
  show Steps p.tables e below (T.setTop { method := m, pc := pc, locals := Ls, stack := _ :: rest, locked := none }) _
  jvm_step X.here [X.here.top, hx, hd, hm', hret, hn]
  first | (intro acts; rw [hl _ acts rfl rfl rfl]) | rw [hl _ _ rfl rfl rfl]
  exact Steps.refl _
end New
end Jvm.RoadKit
namespace Jvm.Pilot.@@N@@
open Jvm Jvm.ClassFile Sem Op Lib Jvm.Free Jvm.Stand Jvm.LawKit Jvm.RoadKit Bundle Jvm.Pilot.@@N@@.Jvm.D
abbrev Gx (p : Program) (e : Env) (below : List Frame) (T0 : State) (f0 : JFrame) (T : State) (f : JFrame) : Prop := ∀ t, Steps p.tables e below (T.setTop f) t → Steps p.tables e below (T0.setTop f0) t
abbrev ELx : List (String × Nat) := [("com/example/stanzacall/stanzacall/xml/Namespaces", 49), ("com/example/stanzacall/stanzacall/xml/Namespaces", 51), ("com/example/stanzacall/stanzacall/xml/Namespaces", 53), ("com/example/stanzacall/stanzacall/xml/Namespaces", 55), ("com/example/stanzacall/stanzacall/xml/Namespaces", 69), ("com/example/stanzacall/stanzacall/xml/NamespacesClosePinLaw", 7)]
theorem own_EW {Z : State} {a0 : Array Value} (hw : ∀ d ∈ tables_1, d.before a0 Z = true) : EW Z a0 ELx := EW.cons (hw _ (List.mem_of_getElem? (i := 56) rfl)) (by decide +kernel) (EW.cons (hw _ (List.mem_of_getElem? (i := 67) rfl)) (by decide +kernel) (EW.cons (hw _ (List.mem_of_getElem? (i := 68) rfl)) (by decide +kernel) (EW.cons (hw _ (List.mem_of_getElem? (i := 69) rfl)) (by decide +kernel) (EW.cons (hw _ (List.mem_of_getElem? (i := 86) rfl)) (by decide +kernel) (EW.cons (hw _ (List.mem_of_getElem? (i := 85) rfl)) (by decide +kernel) (EW.nil))))))
theorem own_wS {Z : State} {a0 : Array Value} (hw : ∀ d ∈ tables_1, d.before a0 Z = true) : ∀ a ∈ Bundle.stringAtoms, a.before a0 Z = true := by
  intro a ha
  simp only [Bundle.stringAtoms, List.mem_cons, List.not_mem_nil, or_false] at ha
  rcases ha with rfl | rfl | rfl | rfl | rfl | rfl | rfl
  · exact hw _ (List.mem_of_getElem? (i := 2) rfl)
  · exact hw _ (List.mem_of_getElem? (i := 10) rfl)
  · exact hw _ (List.mem_of_getElem? (i := 14) rfl)
  · exact hw _ (List.mem_of_getElem? (i := 23) rfl)
  · exact hw _ (List.mem_of_getElem? (i := 25) rfl)
  · exact hw _ (List.mem_of_getElem? (i := 57) rfl)
  · exact hw _ (List.mem_of_getElem? (i := 58) rfl)
theorem own_c255 (x : Int32) : ¬ ((255 : Int32) < ((x &&& (255 : Int32)).toUInt32.toUInt16.toUInt32.toInt32)) := by
  rw [i2c_mask, Int32.lt_iff_toInt_lt]
  have h := Jvm.Kit.i32_mask x 255 (k := 8) (by decide) (by decide)
  have e : (255 : Int32).toInt = 255 := by decide
  omega
theorem own_compact {s : State} {args : Array Value} (hsets : ∀ d ∈ jdkStatics_1, d.before args s = true) : ∃ cw : Int32, Sta s s.heap "java/lang/String" "COMPACT_STRINGS" "Z" (.int cw) ∧ ¬ (cw = (0 : Int32)) := by
  have w0 := hsets _ (List.mem_of_getElem? (i := 0) rfl)
  have w1 := hsets _ (List.mem_of_getElem? (i := 1) rfl)
  have w2 := hsets _ (List.mem_of_getElem? (i := 2) rfl)
  obtain ⟨cw, ev⟩ := is_v (Cond.before_iff.mp w1)
  refine ⟨cw, Sta.start ev (Or.inl w0), fun q => ?_⟩
  have h1 := not_v (Cond.before_iff.mp w2)
  rw [Cond.eq_ints ev (Term.int_eval 0)] at h1
  rw [q] at h1
  exact absurd (Option.some.inj h1) (by decide)
theorem own_cpw {s : State} {args : Array Value} (hsets : ∀ d ∈ jdkStatics_1, d.before args s = true) : Jvm.Lit.compactW.before args s = true := hsets _ (List.mem_of_getElem? (i := 2) rfl)
theorem own_sne {Z : State} {h : Heap} {a b v w : Addr} {k k' : ClassId} {z z' : Int32} {xs ys : List Value} {d d' : Value} (F : Fld Z h a "java/lang/String" "value" "[B" (.ref v)) (A : Arv Z h v k .byte z xs d) (G : Fld Z h b "java/lang/String" "value" "[B" (.ref w)) (B : Arv Z h w k' .byte z' ys d') (hz : ¬ (z = z')) : ¬ (a = b) := fun q => by
  subst q
  have hv : v = w := Classical.byContradiction fun hne => Fld.ne F G (fun e => hne (Value.ref.inj e)) rfl
  subst hv
  obtain ⟨c1, A1, -, S1, N1, -, -⟩ := A
  obtain ⟨c2, A2, -, S2, N2, -, -⟩ := B
  cases A1.1.symm.trans A2.1
  exact hz ((len_of S1 N1).symm.trans (len_of S2 N2))
theorem d2_0 : decode jdk_43_method_3_code 0 = .ok (.iload_n 0, 1) := by decide +kernel
theorem d2_1 : decode jdk_43_method_3_code 1 = .ok (.sipush 255, 3) := by decide +kernel
theorem d2_4 : decode jdk_43_method_3_code 4 = .ok (.if_icmp .gt 7, 3) := by decide +kernel
theorem d2_7 : decode jdk_43_method_3_code 7 = .ok (.iconst 1, 1) := by decide +kernel
theorem d2_8 : decode jdk_43_method_3_code 8 = .ok (.goto 4, 3) := by decide +kernel
theorem d2_12 : decode jdk_43_method_3_code 12 = .ok (.ireturn, 1) := by decide +kernel
theorem pn_2 : plainName "java/lang/StringLatin1" = true := by first | (simp [plainName, overriddenIn]; done) | decide +kernel
theorem ef_Can (m : MethodId) (p1 : Int32) : entryFrame m #[(.int p1)] 1 = mkF m 0 #[.val (.int p1)] [] := by first | (simp [entryFrame, mkF, argsToLocals, Value.category]; done) | rfl
def QCan (Z : State) (p1 : Int32) (h0 : Heap) (n0 : Nat) (v : Option Value) (h : Heap) (L : List Loc) : Prop := v = some (.int (1 : Int32)) ∧ Fr n0 L ∧ h = h0
set_option maxRecDepth 65536 in
set_option maxHeartbeats 40000000 in
theorem rmCan (l : Launch) (Z : State) (a0 : Array Value) (hw : ∀ d ∈ tables_1, d.before a0 Z = true) (ws : List Jvm.Cond) (p1 : Int32) (h0 : Heap) (n0 : Nat) (Z0 : n0 ≤ h0.size) (h1 : ¬ ((255 : Int32) < p1)) :
    MetFree l (⟨"java/lang/StringLatin1", "canEncode", "(C)Z"⟩ : MethodName) (head1 (Jvm.Cond.code (⟨"java/lang/StringLatin1", "canEncode", "(C)Z"⟩ : MethodName) jdk_43_method_3_code 1 (some .boolean) :: ws) ({ frames := 0, cells := 0, slots := 0, locals := 0 } : Room)) (fun a U => a = #[(.int p1)] ∧ Z.Warmed39 U.vm ∧ U.heap = h0) (fun _ _ _ _ _ => True) (fun _ U o U' => ∃ v L, o = .returned v ∧ QCan Z p1 h0 n0 v U'.heap L ∧ FrameEnd U o U' L ({ frames := 0, cells := 0, slots := 0, locals := 0 } : Room).cells ({ frames := 0, cells := 0, slots := 0, locals := 0 } : Room).slots) := by
  refine MetFree.of_bodySF (plainFor_of_name pn_2) hisR ?_
  intro p e s m args below meth c s₁ Bd hml0 hP hK
  obtain ⟨rfl, hZ, hh⟩ := hP
  have hx := Bd.exec
  have hby := Bd.bytes
  have hml : c.maxLocals = 1 := hml0
  have hown : s.vm.findClass "java/lang/StringLatin1" = some m.cls := findClass_of_methodNamed Bd.named
  have hnm := (name_of_methodNamed Bd.named Bd.method).1
  have X0 : Stand p l e ({ frames := 0, cells := 0, slots := 0, locals := 0 } : Room) s m #[(.int p1)] below meth c s₁ [] 0 0 := Stand.of_body Bd
  have hs0 : h0 = s.heap := hh.symm
  have e0 : s₁.heap = h0 := by rw [← hh, Bd.state]; rfl
  have N0 := Fr.nil n0
  obtain ⟨f0, hf0⟩ : ∃ f, f = entryFrame m #[(.int p1)] 1 := ⟨_, rfl⟩
  have pre0 : ∀ t, Steps p.tables e below (s₁.setTop f0) t → Steps p.tables e below (s₁.setTop (entryFrame m #[(.int p1)] 1)) t := fun t k => hf0 ▸ k
  have K0 : Gx p e below s₁ f0 s₁ (mkF m 0 #[.val (.int p1)] []) := fun t kt => by rw [hf0]; exact castTop (ef_Can m p1) kt
  have K1 : Gx p e below s₁ f0 s₁ (mkF m 12 #[.val (.int p1)] [(.int (1 : Int32))]) := fun t kt => K0 t (by
    show Steps p.tables e below (s₁.setTop (mkF m 0 #[.val (.int p1)] [])) _
    refine XS.iloadN X0.here hx rfl (hb hby d2_0) rfl ?_
    show Steps p.tables e below (s₁.setTop (mkF m 1 #[.val (.int p1)] [(.int p1)])) _
    refine XS.sipush X0.here hx rfl (hb hby d2_1) ?_
    show Steps p.tables e below (s₁.setTop (mkF m 4 #[.val (.int p1)] [(.int (255 : Int32)), (.int p1)])) _
    refine XS.icmpNo X0.here hx rfl (hb hby d2_4) rfl (flt h1).2.2.1 ?_
    show Steps p.tables e below (s₁.setTop (mkF m 7 #[.val (.int p1)] [])) _
    refine XS.iconst X0.here hx rfl (hb hby d2_7) ?_
    show Steps p.tables e below (s₁.setTop (mkF m 8 #[.val (.int p1)] [(.int (1 : Int32))])) _
    refine XS.goto X0.here hx rfl (pc0 := 8) (pc' := 12) rfl (hb hby d2_8) (by decide) (by decide) ?_
    exact kt)
  obtain ⟨fs2, hr2, hrun2, hended2, hW2, hsame2⟩ := X0.leave (v := some (.int (1 : Int32))) (fun h => by rw [Bd.returns] at h; cases h)
  refine ⟨_, _, pre0 _ (K1 _ ?_), hrun2, hended2, _, _, rfl, ?_, ⟨_, rfl⟩, hW2, hsame2.mono (by decide) (by decide)⟩
  · exact retN X0 hx (t := .boolean) Bd.returns (by simp) (hb hby d2_12) hr2
  · show QCan Z p1 h0 n0 _ s₁.heap _
    rw [e0]
    exact ⟨rfl, N0, rfl⟩
theorem d3_0 : decode jdk_43_method_46_code 0 = .ok (.iconst 1, 1) := by decide +kernel
theorem d3_1 : decode jdk_43_method_46_code 1 = .ok (.newarray .byte, 2) := by decide +kernel
theorem d3_3 : decode jdk_43_method_46_code 3 = .ok (.dup, 1) := by decide +kernel
theorem d3_4 : decode jdk_43_method_46_code 4 = .ok (.iconst 0, 1) := by decide +kernel
theorem d3_5 : decode jdk_43_method_46_code 5 = .ok (.iload_n 0, 1) := by decide +kernel
theorem d3_6 : decode jdk_43_method_46_code 6 = .ok (.i2b, 1) := by decide +kernel
theorem d3_7 : decode jdk_43_method_46_code 7 = .ok (.bastore, 1) := by decide +kernel
theorem d3_8 : decode jdk_43_method_46_code 8 = .ok (.areturn, 1) := by decide +kernel
theorem pn_3 : plainName "java/lang/StringLatin1" = true := by first | (simp [plainName, overriddenIn]; done) | decide +kernel
theorem ef_Tob (m : MethodId) (p1 : Int32) : entryFrame m #[(.int p1)] 1 = mkF m 0 #[.val (.int p1)] [] := by first | (simp [entryFrame, mkF, argsToLocals, Value.category]; done) | rfl
def QTob (Z : State) (p1 : Int32) (h0 : Heap) (n0 : Nat) (v : Option Value) (h : Heap) (L : List Loc) : Prop := ∃ tb : Addr, ∃ tk : ClassId, v = some (.ref tb) ∧ Fr n0 L ∧ Keep h0 h [] ∧ h0.size ≤ tb ∧ Arv Z h tb tk .byte (1 : Int32) [(.int (nar .byte (p1.toInt8.toInt32)))] (.int (0 : Int32))
set_option maxRecDepth 65536 in
set_option maxHeartbeats 40000000 in
theorem rmTob (l : Launch) (Z : State) (a0 : Array Value) (hw : ∀ d ∈ tables_1, d.before a0 Z = true) (ws : List Jvm.Cond) (p1 : Int32) (h0 : Heap) (n0 : Nat) (Z0 : n0 ≤ h0.size) :
    MetFree l (⟨"java/lang/StringLatin1", "toBytes", "(C)[B"⟩ : MethodName) (head1 (Jvm.Cond.code (⟨"java/lang/StringLatin1", "toBytes", "(C)[B"⟩ : MethodName) jdk_43_method_46_code 1 (some (.array .byte)) :: ws) ({ frames := 0, cells := 1, slots := 1, locals := 0 } : Room)) (fun a U => a = #[(.int p1)] ∧ Z.Warmed39 U.vm ∧ U.heap = h0) (fun _ _ _ _ _ => True) (fun _ U o U' => ∃ v L, o = .returned v ∧ QTob Z p1 h0 n0 v U'.heap L ∧ FrameEnd U o U' L ({ frames := 0, cells := 1, slots := 1, locals := 0 } : Room).cells ({ frames := 0, cells := 1, slots := 1, locals := 0 } : Room).slots) := by
  refine MetFree.of_bodySF (plainFor_of_name pn_3) hisR ?_
  intro p e s m args below meth c s₁ Bd hml0 hP hK
  obtain ⟨rfl, hZ, hh⟩ := hP
  have hx := Bd.exec
  have hby := Bd.bytes
  have hml : c.maxLocals = 1 := hml0
  have hown : s.vm.findClass "java/lang/StringLatin1" = some m.cls := findClass_of_methodNamed Bd.named
  have hnm := (name_of_methodNamed Bd.named Bd.method).1
  have X0 : Stand p l e ({ frames := 0, cells := 1, slots := 1, locals := 0 } : Room) s m #[(.int p1)] below meth c s₁ [] 0 0 := Stand.of_body Bd
  have hs0 : h0 = s.heap := hh.symm
  have e0 : s₁.heap = h0 := by rw [← hh, Bd.state]; rfl
  have N0 := Fr.nil n0
  obtain ⟨f0, hf0⟩ : ∃ f, f = entryFrame m #[(.int p1)] 1 := ⟨_, rfl⟩
  have pre0 : ∀ t, Steps p.tables e below (s₁.setTop f0) t → Steps p.tables e below (s₁.setTop (entryFrame m #[(.int p1)] 1)) t := fun t k => hf0 ▸ k
  have K0 : Gx p e below s₁ f0 s₁ (mkF m 0 #[.val (.int p1)] []) := fun t kt => by rw [hf0]; exact castTop (ef_Tob m p1) kt
  have K1 : Gx p e below s₁ f0 s₁ (mkF m 1 #[.val (.int p1)] [(.int (1 : Int32))]) := fun t kt => K0 t (by
    show Steps p.tables e below (s₁.setTop (mkF m 0 #[.val (.int p1)] [])) _
    refine XS.iconst X0.here hx rfl (hb hby d3_0) ?_
    exact kt)
  obtain ⟨T2, h2, k2, X2, e2, E2, A2, st2⟩ := newP X0 hx hZ (hw _ (List.mem_of_getElem? (i := 14) rfl)) e0 (g := (mkF m 1 #[.val (.int p1)] [(.int (1 : Int32))])) rfl (hb hby d3_1) rfl (by decide) (cap := 1) (by decide) (by decide) (by decide) (by decide)
  obtain ⟨b2, g2⟩ : ∃ z, z = h0.size := ⟨_, rfl⟩
  rw [← g2] at A2 st2
  have V2 : Arv Z h2 b2 k2 .byte (1 : Int32) [(.int (0 : Int32))] (.int (0 : Int32)) := (Arv.new A2 (by decide)).pad (pad_rep [] (.int (0 : Int32)) 1)
  have K3 : Gx p e below s₁ f0 T2 (mkF m 3 #[.val (.int p1)] [(.ref b2)]) := fun t kt => K1 t (st2 t kt)
  have K4 : Gx p e below s₁ f0 T2 (mkF m 7 #[.val (.int p1)] [(.int (p1.toInt8.toInt32)), (.int (0 : Int32)), (.ref b2), (.ref b2)]) := fun t kt => K3 t (by
    show Steps p.tables e below (T2.setTop (mkF m 3 #[.val (.int p1)] [(.ref b2)])) _
    refine XS.dup X2.here hx rfl (hb hby d3_3) rfl rfl ?_
    show Steps p.tables e below (T2.setTop (mkF m 4 #[.val (.int p1)] [(.ref b2), (.ref b2)])) _
    refine XS.iconst X2.here hx rfl (hb hby d3_4) ?_
    show Steps p.tables e below (T2.setTop (mkF m 5 #[.val (.int p1)] [(.int (0 : Int32)), (.ref b2), (.ref b2)])) _
    refine XS.iloadN X2.here hx rfl (hb hby d3_5) rfl ?_
    show Steps p.tables e below (T2.setTop (mkF m 6 #[.val (.int p1)] [(.int p1), (.int (0 : Int32)), (.ref b2), (.ref b2)])) _
    refine XS.i2b X2.here hx rfl (hb hby d3_6) rfl ?_
    exact kt)
  obtain ⟨clq5, Arq5, ckq5, cSq5, cNq5, cHq5, cGq5⟩ := id V2
  obtain ⟨T6, h6, X6', e6, W6, st6⟩ := stB X2 hx hZ e2 Arq5 (j := (0 : Int32)) (inb_of cSq5 ⟨by decide, by decide⟩) (g := (mkF m 7 #[.val (.int p1)] [(.int (p1.toInt8.toInt32)), (.int (0 : Int32)), (.ref b2), (.ref b2)])) rfl rfl (hb hby d3_7)
  obtain ⟨lc6, X6, N6⟩ : ∃ lc, Stand p l e ({ frames := 0, cells := 1, slots := 1, locals := 0 } : Room) s m #[(.int p1)] below meth c T6 lc 1 1 ∧ Fr n0 lc := ⟨_, X6', Fr.snoc X6' N0 (Nat.le_trans Z0 (Nat.le_trans (Keep.refl h0 []).1 (Nat.le_of_eq g2.symm)))⟩
  have V6 : Arv Z h6 b2 k2 .byte (1 : Int32) [(.int (nar .byte (p1.toInt8.toInt32)))] (.int (0 : Int32)) := Arv.set Arq5 ckq5 cSq5 cNq5 cHq5 cGq5 (fits_nar_byte _) W6 0 rfl (Nat.le_of_ble_eq_true rfl)
  have K7 : Gx p e below s₁ f0 T6 (mkF m 8 #[.val (.int p1)] [(.ref b2)]) := fun t kt => K4 t (st6 t kt)
  have kp9 : Keep h0 h6 [] := (((Keep.refl h0 []).ext E2).wr W6 (Or.inr (Nat.le_trans (Keep.refl h0 []).1 (Nat.le_of_eq g2.symm))))
  obtain ⟨fs8, hr8, hrun8, hended8, hW8, hsame8⟩ := X6.leave (v := some (.ref b2)) (fun h => by rw [Bd.returns] at h; cases h)
  refine ⟨_, _, pre0 _ (K7 _ ?_), hrun8, hended8, _, _, rfl, ?_, ⟨_, rfl⟩, hW8, hsame8.mono (by decide) (by decide)⟩
  · show Steps p.tables e below (T6.setTop (mkF m 8 #[.val (.int p1)] [(.ref b2)])) _
    jvm_step X6.here [X6.here.top, hx, (hb hby d3_8), X6.method', Bd.returns, Value.isRef, FieldType.isReference]
    first | (intro acts; rw [hr8 _ acts rfl rfl rfl]) | rw [hr8 _ _ rfl rfl rfl]
    exact Steps.refl _
  · show QTob Z p1 h0 n0 _ T6.heap _
    rw [e6]
    exact ⟨b2, k2, rfl, N6, kp9, (Nat.le_trans (Keep.refl h0 []).1 (Nat.le_of_eq g2.symm)), V6⟩
theorem d4_0 : decode jdk_42_method_151_code 0 = .ok (.aload_n 0, 1) := by decide +kernel
theorem d4_1 : decode jdk_42_method_151_code 1 = .ok (.invokespecial 1, 3) := by decide +kernel
theorem d4_4 : decode jdk_42_method_151_code 4 = .ok (.aload_n 0, 1) := by decide +kernel
theorem d4_5 : decode jdk_42_method_151_code 5 = .ok (.aload_n 1, 1) := by decide +kernel
theorem d4_6 : decode jdk_42_method_151_code 6 = .ok (.putfield 9, 3) := by decide +kernel
theorem d4_9 : decode jdk_42_method_151_code 9 = .ok (.aload_n 0, 1) := by decide +kernel
theorem d4_10 : decode jdk_42_method_151_code 10 = .ok (.iload_n 2, 1) := by decide +kernel
theorem d4_11 : decode jdk_42_method_151_code 11 = .ok (.putfield 15, 3) := by decide +kernel
theorem d4_14 : decode jdk_42_method_151_code 14 = .ok (.return_, 1) := by decide +kernel
theorem pn_4 : plainName "java/lang/String" = true := by first | (simp [plainName, overriddenIn]; done) | decide +kernel
theorem ef_Sin (m : MethodId) (a1 : Addr) (a2 : Addr) : entryFrame m #[(.ref a1), (.ref a2), (.int (0 : Int32))] 3 = mkF m 0 #[.val (.ref a1), .val (.ref a2), .val (.int (0 : Int32))] [] := by first | (simp [entryFrame, mkF, argsToLocals, Value.category]; done) | rfl
def QSin (Z : State) (a1 : Addr) (a2 : Addr) (h0 : Heap) (n0 : Nat) (v : Option Value) (h : Heap) (L : List Loc) : Prop := v = none ∧ Fr n0 L ∧ Keep h0 h [a1] ∧ Exa Z h a1 "java/lang/String" ∧ Fld Z h a1 "java/lang/String" "value" "[B" (.ref a2) ∧ Fld Z h a1 "java/lang/String" "coder" "B" (.int (0 : Int32))
set_option maxRecDepth 65536 in
set_option maxHeartbeats 40000000 in
theorem rmSin (l : Launch) (Z : State) (a0 : Array Value) (hw : ∀ d ∈ tables_1, d.before a0 Z = true) (ws : List Jvm.Cond) (a1 : Addr) (a2 : Addr) (h0 : Heap) (n0 : Nat) (Z0 : n0 ≤ h0.size) (pr0 : Exa Z h0 a1 "java/lang/String") (pr1 : n0 ≤ a1) (pr2 : Fld Z h0 a1 "java/lang/String" "value" "[B" .null) (pr3 : Fld Z h0 a1 "java/lang/String" "coder" "B" (.int (0 : Int32))) :
    MetFree l (⟨"java/lang/String", "<init>", "([BB)V"⟩ : MethodName) (head1 (Jvm.Cond.code (⟨"java/lang/String", "<init>", "([BB)V"⟩ : MethodName) jdk_42_method_151_code 3 none :: ws) ({ frames := 1, cells := 0, slots := 0, locals := 12 } : Room)) (fun a U => a = #[(.ref a1), (.ref a2), (.int (0 : Int32))] ∧ Z.Warmed39 U.vm ∧ U.heap = h0) (fun _ _ _ _ _ => True) (fun _ U o U' => ∃ v L, o = .returned v ∧ QSin Z a1 a2 h0 n0 v U'.heap L ∧ FrameEnd U o U' L ({ frames := 1, cells := 0, slots := 0, locals := 12 } : Room).cells ({ frames := 1, cells := 0, slots := 0, locals := 12 } : Room).slots) := by
  refine MetFree.of_bodySF (plainFor_of_name pn_4) hisR ?_
  intro p e s m args below meth c s₁ Bd hml0 hP hK
  obtain ⟨rfl, hZ, hh⟩ := hP
  have hx := Bd.exec
  have hby := Bd.bytes
  have hml : c.maxLocals = 3 := hml0
  have hown : s.vm.findClass "java/lang/String" = some m.cls := findClass_of_methodNamed Bd.named
  have hnm := (name_of_methodNamed Bd.named Bd.method).1
  have X0 : Stand p l e ({ frames := 1, cells := 0, slots := 0, locals := 12 } : Room) s m #[(.ref a1), (.ref a2), (.int (0 : Int32))] below meth c s₁ [] 0 0 := Stand.of_body Bd
  have hs0 : h0 = s.heap := hh.symm
  have e0 : s₁.heap = h0 := by rw [← hh, Bd.state]; rfl
  have N0 := Fr.nil n0
  obtain ⟨f0, hf0⟩ : ∃ f, f = entryFrame m #[(.ref a1), (.ref a2), (.int (0 : Int32))] 3 := ⟨_, rfl⟩
  have pre0 : ∀ t, Steps p.tables e below (s₁.setTop f0) t → Steps p.tables e below (s₁.setTop (entryFrame m #[(.ref a1), (.ref a2), (.int (0 : Int32))] 3)) t := fun t k => hf0 ▸ k
  have K0 : Gx p e below s₁ f0 s₁ (mkF m 0 #[.val (.ref a1), .val (.ref a2), .val (.int (0 : Int32))] []) := fun t kt => by rw [hf0]; exact castTop (ef_Sin m a1 a2) kt
  have K1 : Gx p e below s₁ f0 s₁ (mkF m 1 #[.val (.ref a1), .val (.ref a2), .val (.int (0 : Int32))] [(.ref a1)]) := fun t kt => K0 t (by
    show Steps p.tables e below (s₁.setTop (mkF m 0 #[.val (.ref a1), .val (.ref a2), .val (.int (0 : Int32))] [])) _
    refine XS.aloadN X0.here hx rfl (hb hby d4_0) rfl rfl ?_
    exact kt)
  obtain ⟨T2, X2, e2, st2⟩ := initO X0 hx hZ hown (hw _ (List.mem_of_getElem? (i := 19) rfl)) (hw _ (List.mem_of_getElem? (i := 20) rfl)) (hw _ (List.mem_of_getElem? (i := 21) rfl)) e0 (g := (mkF m 1 #[.val (.ref a1), .val (.ref a2), .val (.int (0 : Int32))] [(.ref a1)])) rfl (by rw [hml]; rfl) rfl (hb hby d4_1) (by decide) (W := 0) (by show 2 * 0 + _ ≤ _; exact Nat.le_of_eq rfl) (by decide)
  have K3 : Gx p e below s₁ f0 T2 (mkF m 4 #[.val (.ref a1), .val (.ref a2), .val (.int (0 : Int32))] []) := fun t kt => K1 t (st2 t kt)
  have K4 : Gx p e below s₁ f0 T2 (mkF m 6 #[.val (.ref a1), .val (.ref a2), .val (.int (0 : Int32))] [(.ref a2), (.ref a1)]) := fun t kt => K3 t (by
    show Steps p.tables e below (T2.setTop (mkF m 4 #[.val (.ref a1), .val (.ref a2), .val (.int (0 : Int32))] [])) _
    refine XS.aloadN X2.here hx rfl (hb hby d4_4) rfl rfl ?_
    show Steps p.tables e below (T2.setTop (mkF m 5 #[.val (.ref a1), .val (.ref a2), .val (.int (0 : Int32))] [(.ref a1)])) _
    refine XS.aloadN X2.here hx rfl (hb hby d4_5) rfl rfl ?_
    exact kt)
  obtain ⟨T5, h5, X5', e5, W5, st5⟩ := putF X2 hx hZ hown (host := "") (Or.inl (hw _ (List.mem_of_getElem? (i := 22) rfl))) Via.refl e2 pr2 pr0 (Or.inr ⟨(hw _ (List.mem_of_getElem? (i := 23) rfl)), rfl, hnm⟩) (hw _ (List.mem_of_getElem? (i := 10) rfl)) (ty := (.array .byte)) (by decide) rfl rfl (g := (mkF m 6 #[.val (.ref a1), .val (.ref a2), .val (.int (0 : Int32))] [(.ref a2), (.ref a1)])) rfl rfl (hb hby d4_6)
  obtain ⟨lc5, X5, N5⟩ : ∃ lc, Stand p l e ({ frames := 1, cells := 0, slots := 0, locals := 12 } : Room) s m #[(.ref a1), (.ref a2), (.int (0 : Int32))] below meth c T5 lc 0 0 ∧ Fr n0 lc := ⟨_, X5', Fr.snoc X5' N0 pr1⟩
  have f5_ : Fld Z h5 a1 "java/lang/String" "value" "[B" (.ref a2) := pr2.same W5
  have K6 : Gx p e below s₁ f0 T5 (mkF m 9 #[.val (.ref a1), .val (.ref a2), .val (.int (0 : Int32))] []) := fun t kt => K4 t (st5 t kt)
  have K7 : Gx p e below s₁ f0 T5 (mkF m 11 #[.val (.ref a1), .val (.ref a2), .val (.int (0 : Int32))] [(.int (0 : Int32)), (.ref a1)]) := fun t kt => K6 t (by
    show Steps p.tables e below (T5.setTop (mkF m 9 #[.val (.ref a1), .val (.ref a2), .val (.int (0 : Int32))] [])) _
    refine XS.aloadN X5.here hx rfl (hb hby d4_9) rfl rfl ?_
    show Steps p.tables e below (T5.setTop (mkF m 10 #[.val (.ref a1), .val (.ref a2), .val (.int (0 : Int32))] [(.ref a1)])) _
    refine XS.iloadN X5.here hx rfl (hb hby d4_10) rfl ?_
    exact kt)
  have f8 : Fld Z h5 a1 "java/lang/String" "coder" "B" (.int (0 : Int32)) := (pr3.other W5 (Or.inr (slot_ne (Or.inr (hw _ (List.mem_of_getElem? (i := 25) rfl))) (Or.inr (hw _ (List.mem_of_getElem? (i := 23) rfl))) (by decide) (t := .byte) (t' := (.array .byte)) (by decide) (by decide))))
  have f9 : Exa Z h5 a1 "java/lang/String" := (pr0.wr W5)
  obtain ⟨T10, h10, X10', e10, W10, st10⟩ := putFN X5 hx hZ hown (hw _ (List.mem_of_getElem? (i := 24) rfl)) Via.refl e5 f8 f9 (Or.inr ⟨(hw _ (List.mem_of_getElem? (i := 25) rfl)), rfl, hnm⟩) (hw _ (List.mem_of_getElem? (i := 10) rfl)) (ty := .byte) (v := (.int (0 : Int32))) (v' := (.int (0 : Int32))) (by decide) rfl (by decide) (g := (mkF m 11 #[.val (.ref a1), .val (.ref a2), .val (.int (0 : Int32))] [(.int (0 : Int32)), (.ref a1)])) rfl rfl (hb hby d4_11)
  obtain ⟨lc10, X10, N10⟩ : ∃ lc, Stand p l e ({ frames := 1, cells := 0, slots := 0, locals := 12 } : Room) s m #[(.ref a1), (.ref a2), (.int (0 : Int32))] below meth c T10 lc 0 0 ∧ Fr n0 lc := ⟨_, X10', Fr.snoc X10' N5 pr1⟩
  have f10_ : Fld Z h10 a1 "java/lang/String" "coder" "B" (.int (0 : Int32)) := f8.same W10
  have K11 : Gx p e below s₁ f0 T10 (mkF m 14 #[.val (.ref a1), .val (.ref a2), .val (.int (0 : Int32))] []) := fun t kt => K7 t (st10 t kt)
  have kp13 : Keep h0 h10 [a1] := (((Keep.refl h0 [a1]).wr W5 (Or.inl (List.mem_of_getElem? (i := 0) rfl))).wr W10 (Or.inl (List.mem_of_getElem? (i := 0) rfl)))
  have f14 : Exa Z h10 a1 "java/lang/String" := (f9.wr W10)
  have f15 : Fld Z h10 a1 "java/lang/String" "value" "[B" (.ref a2) := (f5_.other W10 (Or.inr (slot_ne (Or.inr (hw _ (List.mem_of_getElem? (i := 23) rfl))) (Or.inr (hw _ (List.mem_of_getElem? (i := 25) rfl))) (by decide) (t := (.array .byte)) (t' := .byte) (by decide) (by decide))))
  obtain ⟨fs12, hr12, hrun12, hended12, hW12, hsame12⟩ := X10.leave (v := none) (fun _ => rfl)
  refine ⟨_, _, pre0 _ (K11 _ ?_), hrun12, hended12, _, _, rfl, ?_, ⟨_, rfl⟩, hW12, hsame12.mono (by decide) (by decide)⟩
  · exact X10.returnOut hx Bd.returns (hb hby d4_14) hr12
  · show QSin Z a1 a2 h0 n0 _ T10.heap _
    rw [e10]
    exact ⟨rfl, N10, kp13, f14, f15, f10_⟩
theorem d1_0 : decode jdk_42_method_139_code 0 = .ok (.getstatic 38, 3) := by decide +kernel
theorem d1_3 : decode jdk_42_method_139_code 3 = .ok (.ifCond .eq 23, 3) := by decide +kernel
theorem d1_6 : decode jdk_42_method_139_code 6 = .ok (.iload_n 0, 1) := by decide +kernel
theorem d1_7 : decode jdk_42_method_139_code 7 = .ok (.invokestatic 1015, 3) := by decide +kernel
theorem d1_10 : decode jdk_42_method_139_code 10 = .ok (.ifCond .eq 16, 3) := by decide +kernel
theorem d1_13 : decode jdk_42_method_139_code 13 = .ok (.new 10, 3) := by decide +kernel
theorem d1_16 : decode jdk_42_method_139_code 16 = .ok (.dup, 1) := by decide +kernel
theorem d1_17 : decode jdk_42_method_139_code 17 = .ok (.iload_n 0, 1) := by decide +kernel
theorem d1_18 : decode jdk_42_method_139_code 18 = .ok (.invokestatic 1018, 3) := by decide +kernel
theorem d1_21 : decode jdk_42_method_139_code 21 = .ok (.iconst 0, 1) := by decide +kernel
theorem d1_22 : decode jdk_42_method_139_code 22 = .ok (.invokespecial 209, 3) := by decide +kernel
theorem d1_25 : decode jdk_42_method_139_code 25 = .ok (.areturn, 1) := by decide +kernel
theorem pn_1 : plainName "java/lang/String" = true := by first | (simp [plainName, overriddenIn]; done) | decide +kernel
theorem pd__C_Z : parseMethodDescriptor "(C)Z" = some ⟨[.char], some .boolean⟩ := by decide +kernel
theorem pd__C__B : parseMethodDescriptor "(C)[B" = some ⟨[.char], some (.array .byte)⟩ := by decide +kernel
theorem pd___BB_V : parseMethodDescriptor "([BB)V" = some ⟨[(.array .byte), .byte], none⟩ := by decide +kernel
theorem ef_Val (m : MethodId) (p1 : Int32) : entryFrame m #[(.int p1)] 1 = mkF m 0 #[.val (.int p1)] [] := by first | (simp [entryFrame, mkF, argsToLocals, Value.category]; done) | rfl
def QVal (Z : State) (p1 : Int32) (cw : Int32) (h0 : Heap) (n0 : Nat) (v : Option Value) (h : Heap) (L : List Loc) : Prop := ∃ vr : Addr, ∃ vv : Addr, ∃ vk : ClassId, v = some (.ref vr) ∧ Fr n0 L ∧ Keep h0 h [] ∧ h0.size ≤ vr ∧ h0.size ≤ vv ∧ Exa Z h vr "java/lang/String" ∧ Fld Z h vr "java/lang/String" "coder" "B" (.int (0 : Int32)) ∧ Fld Z h vr "java/lang/String" "value" "[B" (.ref vv) ∧ Arv Z h vv vk .byte (1 : Int32) [(.int (nar .byte (p1.toInt8.toInt32)))] (.int (0 : Int32))
set_option maxRecDepth 65536 in
set_option maxHeartbeats 40000000 in
theorem rmVal (l : Launch) (Z : State) (a0 : Array Value) (hw : ∀ d ∈ tables_1, d.before a0 Z = true) (ws : List Jvm.Cond) (p1 : Int32) (cw : Int32) (h0 : Heap) (n0 : Nat) (Z0 : n0 ≤ h0.size) (pr0 : Old Z n0 h0) (pr1 : Sta Z Z.heap "java/lang/String" "COMPACT_STRINGS" "Z" (.int cw)) (hcw : ¬ (cw = (0 : Int32))) (h1 : ¬ ((255 : Int32) < p1)) :
    MetFree l (⟨"java/lang/String", "valueOf", "(C)Ljava/lang/String;"⟩ : MethodName) (head1 (Jvm.Cond.code (⟨"java/lang/String", "valueOf", "(C)Ljava/lang/String;"⟩ : MethodName) jdk_42_method_139_code 1 (some (.object "java/lang/String")) :: ws) ({ frames := 2, cells := 2, slots := 5, locals := 27 } : Room)) (fun a U => a = #[(.int p1)] ∧ Z.Warmed39 U.vm ∧ U.heap = h0) (fun _ _ _ _ _ => True) (fun _ U o U' => ∃ v L, o = .returned v ∧ QVal Z p1 cw h0 n0 v U'.heap L ∧ FrameEnd U o U' L ({ frames := 2, cells := 2, slots := 5, locals := 27 } : Room).cells ({ frames := 2, cells := 2, slots := 5, locals := 27 } : Room).slots) := by
  refine MetFree.of_bodySF (plainFor_of_name pn_1) hisR ?_
  intro p e s m args below meth c s₁ Bd hml0 hP hK
  obtain ⟨rfl, hZ, hh⟩ := hP
  have hx := Bd.exec
  have hby := Bd.bytes
  have hml : c.maxLocals = 1 := hml0
  have hown : s.vm.findClass "java/lang/String" = some m.cls := findClass_of_methodNamed Bd.named
  have hnm := (name_of_methodNamed Bd.named Bd.method).1
  have X0 : Stand p l e ({ frames := 2, cells := 2, slots := 5, locals := 27 } : Room) s m #[(.int p1)] below meth c s₁ [] 0 0 := Stand.of_body Bd
  have hs0 : h0 = s.heap := hh.symm
  have e0 : s₁.heap = h0 := by rw [← hh, Bd.state]; rfl
  have N0 := Fr.nil n0
  obtain ⟨f0, hf0⟩ : ∃ f, f = entryFrame m #[(.int p1)] 1 := ⟨_, rfl⟩
  have pre0 : ∀ t, Steps p.tables e below (s₁.setTop f0) t → Steps p.tables e below (s₁.setTop (entryFrame m #[(.int p1)] 1)) t := fun t k => hf0 ▸ k
  have K0 : Gx p e below s₁ f0 s₁ (mkF m 0 #[.val (.int p1)] []) := fun t kt => by rw [hf0]; exact castTop (ef_Val m p1) kt
  have f1 : Sta Z h0 "java/lang/String" "COMPACT_STRINGS" "Z" (.int cw) := Sta.ext pr0.2 pr1
  obtain ⟨T2, X2, e2, st2⟩ := getS2 X0 hx hZ hown (host := "") (Or.inl (hw _ (List.mem_of_getElem? (i := 4) rfl))) Via.refl e0 f1 (g := (mkF m 0 #[.val (.int p1)] [])) rfl (hb hby d1_0)
  have K3 : Gx p e below s₁ f0 T2 (mkF m 3 #[.val (.int p1)] [(.int cw)]) := fun t kt => K0 t (st2 t kt)
  have K4 : Gx p e below s₁ f0 T2 (mkF m 7 #[.val (.int p1)] [(.int p1)]) := fun t kt => K3 t (by
    show Steps p.tables e below (T2.setTop (mkF m 3 #[.val (.int p1)] [(.int cw)])) _
    refine XS.ifNo X2.here hx rfl (hb hby d1_3) rfl ((if0 _ _).trans (feq hcw).1) ?_
    show Steps p.tables e below (T2.setTop (mkF m 6 #[.val (.int p1)] [])) _
    refine XS.iloadN X2.here hx rfl (hb hby d1_6) rfl ?_
    exact kt)
  obtain ⟨_, _, ⟨T5, L5, k5, n5⟩, -, X5', ⟨Lc5, hQ5, l5, y5, z5⟩, st5⟩ := Jvm.LawKit.callS X2 hx (y := (⟨"java/lang/StringLatin1", "canEncode", "(C)Z"⟩ : MethodName)) hown (mvT hZ (hw _ (List.mem_of_getElem? (i := 5) rfl))) (mvT hZ (hw _ (List.mem_of_getElem? (i := 6) rfl))) (mvT hZ (hw _ (List.mem_of_getElem? (i := 7) rfl))) (mvT hZ (hw _ (List.mem_of_getElem? (i := 8) rfl))) (by decide) (backOf (W := 0) (rmCan l Z a0 hw [] p1 h0 n0 (Nat.le_trans Z0 (Keep.refl h0 []).1) h1) hZ (hw _ (List.mem_of_getElem? (i := 8) rfl)) (hw _ (List.mem_of_getElem? (i := 7) rfl)) (by decide) (by decide)) (g := (mkF m 7 #[.val (.int p1)] [(.int p1)])) rfl (by rw [hml]; rfl) (argsL := [(.int p1)]) (rest := []) (lenOf pd__C_Z rfl) rfl (by show 2 * 0 + _ ≤ _; exact Nat.le_of_eq rfl) (hb hby d1_7) (fun _ _ => ⟨rfl, e2, (by decide : 0 + 0 ≤ _), (by decide : 0 + 0 ≤ _)⟩)
  dsimp only [Pt.U, Pt.locs, Pt.cells, Pt.slots] at X5' l5 y5 z5 st5 hQ5
  subst l5 y5 z5
  obtain ⟨rfl, N5q, e5⟩ := hQ5
  obtain ⟨lc5, X5, N5⟩ : ∃ lc, Stand p l e ({ frames := 2, cells := 2, slots := 5, locals := 27 } : Room) s m #[(.int p1)] below meth c T5 lc 0 0 ∧ Fr n0 lc := ⟨_, X5', Fr.app N0 N5q⟩
  have K6 : Gx p e below s₁ f0 T5 (mkF m 10 #[.val (.int p1)] [(.int (1 : Int32))]) := fun t kt => K4 t (st5 t kt)
  have K7 : Gx p e below s₁ f0 T5 (mkF m 13 #[.val (.int p1)] []) := fun t kt => K6 t (by
    show Steps p.tables e below (T5.setTop (mkF m 10 #[.val (.int p1)] [(.int (1 : Int32))])) _
    refine XS.ifNo X5.here hx rfl (hb hby d1_10) rfl ((if0 _ _).trans (feq (by decide)).1) ?_
    exact kt)
  obtain ⟨T8, h8, X8, e8, E8, A8, D8, -, st8⟩ := newO X5 hx hZ hown (hw _ (List.mem_of_getElem? (i := 9) rfl)) (hw _ (List.mem_of_getElem? (i := 10) rfl)) (hw _ (List.mem_of_getElem? (i := 2) rfl)) e5 (g := (mkF m 13 #[.val (.int p1)] [])) rfl (hb hby d1_13) (by decide) (by decide)
  obtain ⟨b8, g8⟩ : ∃ z, z = h0.size := ⟨_, rfl⟩
  rw [← g8] at A8 D8 st8
  have f9 : Fld Z h8 b8 "java/lang/String" "value" "[B" .null := D8 (Or.inr (hw _ (List.mem_of_getElem? (i := 23) rfl))) (ty := (.array .byte)) (by decide)
  have f10 : Fld Z h8 b8 "java/lang/String" "coder" "B" (.int (0 : Int32)) := D8 (Or.inr (hw _ (List.mem_of_getElem? (i := 25) rfl))) (ty := .byte) (by decide)
  have K11 : Gx p e below s₁ f0 T8 (mkF m 16 #[.val (.int p1)] [(.ref b8)]) := fun t kt => K7 t (st8 t kt)
  have K12 : Gx p e below s₁ f0 T8 (mkF m 18 #[.val (.int p1)] [(.int p1), (.ref b8), (.ref b8)]) := fun t kt => K11 t (by
    show Steps p.tables e below (T8.setTop (mkF m 16 #[.val (.int p1)] [(.ref b8)])) _
    refine XS.dup X8.here hx rfl (hb hby d1_16) rfl rfl ?_
    show Steps p.tables e below (T8.setTop (mkF m 17 #[.val (.int p1)] [(.ref b8), (.ref b8)])) _
    refine XS.iloadN X8.here hx rfl (hb hby d1_17) rfl ?_
    exact kt)
  have kp13 : Keep h0 h8 [] := ((Keep.refl h0 []).ext E8)
  obtain ⟨_, _, ⟨T14, L14, k14, n14⟩, -, X14', ⟨Lc14, hQ14, l14, y14, z14⟩, st14⟩ := Jvm.LawKit.callS X8 hx (y := (⟨"java/lang/StringLatin1", "toBytes", "(C)[B"⟩ : MethodName)) hown (mvT hZ (hw _ (List.mem_of_getElem? (i := 11) rfl))) (mvT hZ (hw _ (List.mem_of_getElem? (i := 12) rfl))) (mvT hZ (hw _ (List.mem_of_getElem? (i := 7) rfl))) (mvT hZ (hw _ (List.mem_of_getElem? (i := 13) rfl))) (by decide) (backOf (W := 2) (rmTob l Z a0 hw [] p1 h8 n0 (Nat.le_trans Z0 kp13.1) ) hZ (hw _ (List.mem_of_getElem? (i := 13) rfl)) (hw _ (List.mem_of_getElem? (i := 7) rfl)) (by decide) (by decide)) (g := (mkF m 18 #[.val (.int p1)] [(.int p1), (.ref b8), (.ref b8)])) rfl (by rw [hml]; rfl) (argsL := [(.int p1)]) (rest := [(.ref b8), (.ref b8)]) (lenOf pd__C__B rfl) rfl (by show 2 * 0 + _ ≤ _; exact Nat.le_of_eq rfl) (hb hby d1_18) (fun _ _ => ⟨rfl, e8, (by decide : 1 + 1 ≤ _), (by decide : 4 + 1 ≤ _)⟩)
  dsimp only [Pt.U, Pt.locs, Pt.cells, Pt.slots] at X14' l14 y14 z14 st14 hQ14
  subst l14 y14 z14
  obtain ⟨h14, e14⟩ : ∃ z, T14.heap = z := ⟨_, rfl⟩
  rw [e14] at hQ14
  obtain ⟨tb_14, tk_14, rfl, N14q, Kc14, f15, f16⟩ := hQ14
  obtain ⟨lc14, X14, N14⟩ : ∃ lc, Stand p l e ({ frames := 2, cells := 2, slots := 5, locals := 27 } : Room) s m #[(.int p1)] below meth c T14 lc 2 5 ∧ Fr n0 lc := ⟨_, X14', Fr.app N5 N14q⟩
  have K17 : Gx p e below s₁ f0 T14 (mkF m 21 #[.val (.int p1)] [(.ref tb_14), (.ref b8), (.ref b8)]) := fun t kt => K12 t (st14 t kt)
  have K18 : Gx p e below s₁ f0 T14 (mkF m 22 #[.val (.int p1)] [(.int (0 : Int32)), (.ref tb_14), (.ref b8), (.ref b8)]) := fun t kt => K17 t (by
    show Steps p.tables e below (T14.setTop (mkF m 21 #[.val (.int p1)] [(.ref tb_14), (.ref b8), (.ref b8)])) _
    refine XS.iconst X14.here hx rfl (hb hby d1_21) ?_
    exact kt)
  have f19 : Exa Z h14 b8 "java/lang/String" := (A8.keep Kc14)
  have f20 : Fld Z h14 b8 "java/lang/String" "value" "[B" .null := (f9.keep Kc14 nin0)
  have f21 : Fld Z h14 b8 "java/lang/String" "coder" "B" (.int (0 : Int32)) := (f10.keep Kc14 nin0)
  have kp22 : Keep h0 h14 [] := (Keep.trans kp13 Kc14 all0)
  obtain ⟨_, _, ⟨T23, L23, k23, n23⟩, -, X23', ⟨Lc23, hQ23, l23, y23, z23⟩, st23⟩ := X14.specialBack hx (y := (⟨"java/lang/String", "<init>", "([BB)V"⟩ : MethodName)) rfl hown (mvT hZ (hw _ (List.mem_of_getElem? (i := 15) rfl))) (mvT hZ (hw _ (List.mem_of_getElem? (i := 16) rfl))) (mvT hZ (hw _ (List.mem_of_getElem? (i := 18) rfl))) (by decide) (backOf (W := 1) (rmSin l Z a0 hw [] b8 tb_14 h14 n0 (Nat.le_trans Z0 kp22.1) f19 (Nat.le_trans Z0 (Nat.le_trans (Keep.refl h0 []).1 (Nat.le_of_eq g8.symm))) f20 f21) hZ (hw _ (List.mem_of_getElem? (i := 18) rfl)) (hw _ (List.mem_of_getElem? (i := 2) rfl)) (by decide) (by decide)) (g := (mkF m 22 #[.val (.int p1)] [(.int (0 : Int32)), (.ref tb_14), (.ref b8), (.ref b8)])) rfl (by rw [hml]; rfl) (Steps.refl _) (a := b8) (argsL := [(.ref tb_14), (.int (0 : Int32))]) (rest := [(.ref b8)]) (lenOf pd___BB_V rfl) rfl (by show 2 * 0 + _ ≤ _; exact Nat.le_of_eq rfl) (hb hby d1_22) (fun _ _ => ⟨rfl, e14, (by decide : 2 + 0 ≤ _), (by decide : 5 + 0 ≤ _)⟩)
  dsimp only [Pt.U, Pt.locs, Pt.cells, Pt.slots] at X23' l23 y23 z23 st23 hQ23
  subst l23 y23 z23
  obtain ⟨h23, e23⟩ : ∃ z, T23.heap = z := ⟨_, rfl⟩
  rw [e23] at hQ23
  obtain ⟨rfl, N23q, Kc23, f24, f25, f26⟩ := hQ23
  obtain ⟨lc23, X23, N23⟩ : ∃ lc, Stand p l e ({ frames := 2, cells := 2, slots := 5, locals := 27 } : Room) s m #[(.int p1)] below meth c T23 lc 2 5 ∧ Fr n0 lc := ⟨_, X23', Fr.app N14 N23q⟩
  have K27 : Gx p e below s₁ f0 T23 (mkF m 25 #[.val (.int p1)] [(.ref b8)]) := fun t kt => K18 t (st23.trans kt)
  have f29 : Arv Z h23 tb_14 tk_14 .byte (1 : Int32) [(.int (nar .byte (p1.toInt8.toInt32)))] (.int (0 : Int32)) := (f16.keep Kc23 (ninS (Ne.symm (Nat.ne_of_lt (Nat.lt_of_lt_of_le A8.lt f15))) nin0))
  have kp30 : Keep h0 h23 [] := (Keep.trans kp22 Kc23 (allS (Or.inr (Nat.le_trans (Keep.refl h0 []).1 (Nat.le_of_eq g8.symm))) all0))
  obtain ⟨fs28, hr28, hrun28, hended28, hW28, hsame28⟩ := X23.leave (v := some (.ref b8)) (fun h => by rw [Bd.returns] at h; cases h)
  refine ⟨_, _, pre0 _ (K27 _ ?_), hrun28, hended28, _, _, rfl, ?_, ⟨_, rfl⟩, hW28, hsame28.mono (by decide) (by decide)⟩
  · show Steps p.tables e below (T23.setTop (mkF m 25 #[.val (.int p1)] [(.ref b8)])) _
    jvm_step X23.here [X23.here.top, hx, (hb hby d1_25), X23.method', Bd.returns, Value.isRef, FieldType.isReference]
    first | (intro acts; rw [hr28 _ acts rfl rfl rfl]) | rw [hr28 _ _ rfl rfl rfl]
    exact Steps.refl _
  · show QVal Z p1 cw h0 n0 _ T23.heap _
    rw [e23]
    exact ⟨b8, tb_14, tk_14, rfl, N23, kp30, (Nat.le_trans (Keep.refl h0 []).1 (Nat.le_of_eq g8.symm)), (Nat.le_trans kp13.1 f15), f24, f26, f25, f29⟩
theorem d10_0 : decode jdk_43_method_13_code 0 = .ok (.aload_n 0, 1) := by decide +kernel
theorem d10_1 : decode jdk_43_method_13_code 1 = .ok (.arraylength, 1) := by decide +kernel
theorem d10_2 : decode jdk_43_method_13_code 2 = .ok (.aload_n 1, 1) := by decide +kernel
theorem d10_3 : decode jdk_43_method_13_code 3 = .ok (.arraylength, 1) := by decide +kernel
theorem d10_4 : decode jdk_43_method_13_code 4 = .ok (.if_icmp .ne 30, 3) := by decide +kernel
theorem d10_34 : decode jdk_43_method_13_code 34 = .ok (.iconst 0, 1) := by decide +kernel
theorem d10_35 : decode jdk_43_method_13_code 35 = .ok (.ireturn, 1) := by decide +kernel
theorem pn_10 : plainName "java/lang/StringLatin1" = true := by first | (simp [plainName, overriddenIn]; done) | decide +kernel
theorem ef_Lne (m : MethodId) (vA : Addr) (vB : Addr) : entryFrame m #[(.ref vA), (.ref vB)] 3 = mkF m 0 #[.val (.ref vA), .val (.ref vB), .unset] [] := by first | (simp [entryFrame, mkF, argsToLocals, Value.category]; done) | rfl
def QLne (Z : State) (vA : Addr) (vB : Addr) (ka : ClassId) (kb : ClassId) (za : Int32) (zb : Int32) (xa : List Value) (xb : List Value) (h0 : Heap) (n0 : Nat) (v : Option Value) (h : Heap) (L : List Loc) : Prop := v = some (.int (0 : Int32)) ∧ Fr n0 L ∧ h = h0
set_option maxRecDepth 65536 in
set_option maxHeartbeats 40000000 in
theorem rmLne (l : Launch) (Z : State) (a0 : Array Value) (hw : ∀ d ∈ tables_1, d.before a0 Z = true) (ws : List Jvm.Cond) (vA : Addr) (vB : Addr) (ka : ClassId) (kb : ClassId) (za : Int32) (zb : Int32) (xa : List Value) (xb : List Value) (h0 : Heap) (n0 : Nat) (Z0 : n0 ≤ h0.size) (pr0 : Arv Z h0 vA ka .byte za xa (.int (0 : Int32))) (pr1 : Arv Z h0 vB kb .byte zb xb (.int (0 : Int32))) (hz : ¬ (za = zb)) :
    MetFree l (⟨"java/lang/StringLatin1", "equals", "([B[B)Z"⟩ : MethodName) (head1 (Jvm.Cond.code (⟨"java/lang/StringLatin1", "equals", "([B[B)Z"⟩ : MethodName) jdk_43_method_13_code 3 (some .boolean) :: ws) ({ frames := 0, cells := 0, slots := 0, locals := 0 } : Room)) (fun a U => a = #[(.ref vA), (.ref vB)] ∧ Z.Warmed39 U.vm ∧ U.heap = h0) (fun _ _ _ _ _ => True) (fun _ U o U' => ∃ v L, o = .returned v ∧ QLne Z vA vB ka kb za zb xa xb h0 n0 v U'.heap L ∧ FrameEnd U o U' L ({ frames := 0, cells := 0, slots := 0, locals := 0 } : Room).cells ({ frames := 0, cells := 0, slots := 0, locals := 0 } : Room).slots) := by
  refine MetFree.of_bodySF (plainFor_of_name pn_10) hisR ?_
  intro p e s m args below meth c s₁ Bd hml0 hP hK
  obtain ⟨rfl, hZ, hh⟩ := hP
  have hx := Bd.exec
  have hby := Bd.bytes
  have hml : c.maxLocals = 3 := hml0
  have hown : s.vm.findClass "java/lang/StringLatin1" = some m.cls := findClass_of_methodNamed Bd.named
  have hnm := (name_of_methodNamed Bd.named Bd.method).1
  have X0 : Stand p l e ({ frames := 0, cells := 0, slots := 0, locals := 0 } : Room) s m #[(.ref vA), (.ref vB)] below meth c s₁ [] 0 0 := Stand.of_body Bd
  have hs0 : h0 = s.heap := hh.symm
  have e0 : s₁.heap = h0 := by rw [← hh, Bd.state]; rfl
  have N0 := Fr.nil n0
  obtain ⟨f0, hf0⟩ : ∃ f, f = entryFrame m #[(.ref vA), (.ref vB)] 3 := ⟨_, rfl⟩
  have pre0 : ∀ t, Steps p.tables e below (s₁.setTop f0) t → Steps p.tables e below (s₁.setTop (entryFrame m #[(.ref vA), (.ref vB)] 3)) t := fun t k => hf0 ▸ k
  have K0 : Gx p e below s₁ f0 s₁ (mkF m 0 #[.val (.ref vA), .val (.ref vB), .unset] []) := fun t kt => by rw [hf0]; exact castTop (ef_Lne m vA vB) kt
  obtain ⟨clq1, Arq1, ckq1, cSq1, cNq1, cHq1, cGq1⟩ := id pr0
  obtain ⟨clq2, Arq2, ckq2, cSq2, cNq2, cHq2, cGq2⟩ := id pr1
  have K3 : Gx p e below s₁ f0 s₁ (mkF m 35 #[.val (.ref vA), .val (.ref vB), .unset] [(.int (0 : Int32))]) := fun t kt => K0 t (by
    show Steps p.tables e below (s₁.setTop (mkF m 0 #[.val (.ref vA), .val (.ref vB), .unset] [])) _
    refine XS.aloadN X0.here hx rfl (hb hby d10_0) rfl rfl ?_
    show Steps p.tables e below (s₁.setTop (mkF m 1 #[.val (.ref vA), .val (.ref vB), .unset] [(.ref vA)])) _
    refine X0.arraylength hx (by rw [e0]; exact Arq1.1) (State.isArrayOf_alike hZ.alike Arq1.2.1) (g := (mkF m 1 #[.val (.ref vA), .val (.ref vB), .unset] [(.ref vA)])) rfl rfl (hb hby d10_1) _ ?_
    rw [len_of cSq1 cNq1]
    show Steps p.tables e below (s₁.setTop (mkF m 2 #[.val (.ref vA), .val (.ref vB), .unset] [(.int za)])) _
    refine XS.aloadN X0.here hx rfl (hb hby d10_2) rfl rfl ?_
    show Steps p.tables e below (s₁.setTop (mkF m 3 #[.val (.ref vA), .val (.ref vB), .unset] [(.ref vB), (.int za)])) _
    refine X0.arraylength hx (by rw [e0]; exact Arq2.1) (State.isArrayOf_alike hZ.alike Arq2.2.1) (g := (mkF m 3 #[.val (.ref vA), .val (.ref vB), .unset] [(.ref vB), (.int za)])) rfl rfl (hb hby d10_3) _ ?_
    rw [len_of cSq2 cNq2]
    show Steps p.tables e below (s₁.setTop (mkF m 4 #[.val (.ref vA), .val (.ref vB), .unset] [(.int zb), (.int za)])) _
    refine XS.icmpYes X0.here hx rfl (pc0 := 4) (pc' := 34) rfl (hb hby d10_4) rfl (feq hz).2 (by decide) (by decide) ?_
    show Steps p.tables e below (s₁.setTop (mkF m 34 #[.val (.ref vA), .val (.ref vB), .unset] [])) _
    refine XS.iconst X0.here hx rfl (hb hby d10_34) ?_
    exact kt)
  obtain ⟨fs4, hr4, hrun4, hended4, hW4, hsame4⟩ := X0.leave (v := some (.int (0 : Int32))) (fun h => by rw [Bd.returns] at h; cases h)
  refine ⟨_, _, pre0 _ (K3 _ ?_), hrun4, hended4, _, _, rfl, ?_, ⟨_, rfl⟩, hW4, hsame4.mono (by decide) (by decide)⟩
  · exact retN X0 hx (t := .boolean) Bd.returns (by simp) (hb hby d10_35) hr4
  · show QLne Z vA vB ka kb za zb xa xb h0 n0 _ s₁.heap _
    rw [e0]
    exact ⟨rfl, N0, rfl⟩
theorem d10_7 : decode jdk_43_method_13_code 7 = .ok (.iconst 0, 1) := by decide +kernel
theorem d10_8 : decode jdk_43_method_13_code 8 = .ok (.istore_n 2, 1) := by decide +kernel
theorem d10_9 : decode jdk_43_method_13_code 9 = .ok (.iload_n 2, 1) := by decide +kernel
theorem d10_10 : decode jdk_43_method_13_code 10 = .ok (.aload_n 0, 1) := by decide +kernel
theorem d10_11 : decode jdk_43_method_13_code 11 = .ok (.arraylength, 1) := by decide +kernel
theorem d10_12 : decode jdk_43_method_13_code 12 = .ok (.if_icmp .ge 20, 3) := by decide +kernel
theorem d10_32 : decode jdk_43_method_13_code 32 = .ok (.iconst 1, 1) := by decide +kernel
theorem d10_33 : decode jdk_43_method_13_code 33 = .ok (.ireturn, 1) := by decide +kernel
theorem ef_L00 (m : MethodId) (vA : Addr) (vB : Addr) : entryFrame m #[(.ref vA), (.ref vB)] 3 = mkF m 0 #[.val (.ref vA), .val (.ref vB), .unset] [] := by first | (simp [entryFrame, mkF, argsToLocals, Value.category]; done) | rfl
def QL00 (Z : State) (vA : Addr) (vB : Addr) (ka : ClassId) (kb : ClassId) (za : Int32) (zb : Int32) (xa : List Value) (xb : List Value) (h0 : Heap) (n0 : Nat) (v : Option Value) (h : Heap) (L : List Loc) : Prop := v = some (.int (1 : Int32)) ∧ Fr n0 L ∧ h = h0
set_option maxRecDepth 65536 in
set_option maxHeartbeats 40000000 in
theorem rmL00 (l : Launch) (Z : State) (a0 : Array Value) (hw : ∀ d ∈ tables_1, d.before a0 Z = true) (ws : List Jvm.Cond) (vA : Addr) (vB : Addr) (ka : ClassId) (kb : ClassId) (za : Int32) (zb : Int32) (xa : List Value) (xb : List Value) (h0 : Heap) (n0 : Nat) (Z0 : n0 ≤ h0.size) (pr0 : Arv Z h0 vA ka .byte za xa (.int (0 : Int32))) (pr1 : Arv Z h0 vB kb .byte zb xb (.int (0 : Int32))) (hz1 : za = (0 : Int32)) (hz2 : zb = (0 : Int32)) :
    MetFree l (⟨"java/lang/StringLatin1", "equals", "([B[B)Z"⟩ : MethodName) (head1 (Jvm.Cond.code (⟨"java/lang/StringLatin1", "equals", "([B[B)Z"⟩ : MethodName) jdk_43_method_13_code 3 (some .boolean) :: ws) ({ frames := 0, cells := 0, slots := 0, locals := 0 } : Room)) (fun a U => a = #[(.ref vA), (.ref vB)] ∧ Z.Warmed39 U.vm ∧ U.heap = h0) (fun _ _ _ _ _ => True) (fun _ U o U' => ∃ v L, o = .returned v ∧ QL00 Z vA vB ka kb za zb xa xb h0 n0 v U'.heap L ∧ FrameEnd U o U' L ({ frames := 0, cells := 0, slots := 0, locals := 0 } : Room).cells ({ frames := 0, cells := 0, slots := 0, locals := 0 } : Room).slots) := by
  refine MetFree.of_bodySF (plainFor_of_name pn_10) hisR ?_
  intro p e s m args below meth c s₁ Bd hml0 hP hK
  obtain ⟨rfl, hZ, hh⟩ := hP
  have hx := Bd.exec
  have hby := Bd.bytes
  have hml : c.maxLocals = 3 := hml0
  have hown : s.vm.findClass "java/lang/StringLatin1" = some m.cls := findClass_of_methodNamed Bd.named
  have hnm := (name_of_methodNamed Bd.named Bd.method).1
  have X0 : Stand p l e ({ frames := 0, cells := 0, slots := 0, locals := 0 } : Room) s m #[(.ref vA), (.ref vB)] below meth c s₁ [] 0 0 := Stand.of_body Bd
  have hs0 : h0 = s.heap := hh.symm
  have e0 : s₁.heap = h0 := by rw [← hh, Bd.state]; rfl
  have N0 := Fr.nil n0
  obtain ⟨f0, hf0⟩ : ∃ f, f = entryFrame m #[(.ref vA), (.ref vB)] 3 := ⟨_, rfl⟩
  have pre0 : ∀ t, Steps p.tables e below (s₁.setTop f0) t → Steps p.tables e below (s₁.setTop (entryFrame m #[(.ref vA), (.ref vB)] 3)) t := fun t k => hf0 ▸ k
  have K0 : Gx p e below s₁ f0 s₁ (mkF m 0 #[.val (.ref vA), .val (.ref vB), .unset] []) := fun t kt => by rw [hf0]; exact castTop (ef_L00 m vA vB) kt
  obtain ⟨clq1, Arq1, ckq1, cSq1, cNq1, cHq1, cGq1⟩ := id pr0
  obtain ⟨clq2, Arq2, ckq2, cSq2, cNq2, cHq2, cGq2⟩ := id pr1
  have K3 : Gx p e below s₁ f0 s₁ (mkF m 33 #[.val (.ref vA), .val (.ref vB), .val (.int (0 : Int32))] [(.int (1 : Int32))]) := fun t kt => K0 t (by
    show Steps p.tables e below (s₁.setTop (mkF m 0 #[.val (.ref vA), .val (.ref vB), .unset] [])) _
    refine XS.aloadN X0.here hx rfl (hb hby d10_0) rfl rfl ?_
    show Steps p.tables e below (s₁.setTop (mkF m 1 #[.val (.ref vA), .val (.ref vB), .unset] [(.ref vA)])) _
    refine X0.arraylength hx (by rw [e0]; exact Arq1.1) (State.isArrayOf_alike hZ.alike Arq1.2.1) (g := (mkF m 1 #[.val (.ref vA), .val (.ref vB), .unset] [(.ref vA)])) rfl rfl (hb hby d10_1) _ ?_
    rw [len_of cSq1 cNq1]
    show Steps p.tables e below (s₁.setTop (mkF m 2 #[.val (.ref vA), .val (.ref vB), .unset] [(.int za)])) _
    refine XS.aloadN X0.here hx rfl (hb hby d10_2) rfl rfl ?_
    show Steps p.tables e below (s₁.setTop (mkF m 3 #[.val (.ref vA), .val (.ref vB), .unset] [(.ref vB), (.int za)])) _
    refine X0.arraylength hx (by rw [e0]; exact Arq2.1) (State.isArrayOf_alike hZ.alike Arq2.2.1) (g := (mkF m 3 #[.val (.ref vA), .val (.ref vB), .unset] [(.ref vB), (.int za)])) rfl rfl (hb hby d10_3) _ ?_
    rw [len_of cSq2 cNq2]
    show Steps p.tables e below (s₁.setTop (mkF m 4 #[.val (.ref vA), .val (.ref vB), .unset] [(.int zb), (.int za)])) _
    refine XS.icmpNo X0.here hx rfl (hb hby d10_4) rfl (teq (hz1.trans hz2.symm)).2 ?_
    show Steps p.tables e below (s₁.setTop (mkF m 7 #[.val (.ref vA), .val (.ref vB), .unset] [])) _
    refine XS.iconst X0.here hx rfl (hb hby d10_7) ?_
    show Steps p.tables e below (s₁.setTop (mkF m 8 #[.val (.ref vA), .val (.ref vB), .unset] [(.int (0 : Int32))])) _
    refine XS.istoreN X0.here hx rfl (hb hby d10_8) rfl (l' := #[.val (.ref vA), .val (.ref vB), .val (.int (0 : Int32))]) rfl ?_
    show Steps p.tables e below (s₁.setTop (mkF m 9 #[.val (.ref vA), .val (.ref vB), .val (.int (0 : Int32))] [])) _
    refine XS.iloadN X0.here hx rfl (hb hby d10_9) rfl ?_
    show Steps p.tables e below (s₁.setTop (mkF m 10 #[.val (.ref vA), .val (.ref vB), .val (.int (0 : Int32))] [(.int (0 : Int32))])) _
    refine XS.aloadN X0.here hx rfl (hb hby d10_10) rfl rfl ?_
    show Steps p.tables e below (s₁.setTop (mkF m 11 #[.val (.ref vA), .val (.ref vB), .val (.int (0 : Int32))] [(.ref vA), (.int (0 : Int32))])) _
    refine X0.arraylength hx (by rw [e0]; exact Arq1.1) (State.isArrayOf_alike hZ.alike Arq1.2.1) (g := (mkF m 11 #[.val (.ref vA), .val (.ref vB), .val (.int (0 : Int32))] [(.ref vA), (.int (0 : Int32))])) rfl rfl (hb hby d10_11) _ ?_
    rw [len_of cSq1 cNq1]
    show Steps p.tables e below (s₁.setTop (mkF m 12 #[.val (.ref vA), .val (.ref vB), .val (.int (0 : Int32))] [(.int za), (.int (0 : Int32))])) _
    refine XS.icmpYes X0.here hx rfl (pc0 := 12) (pc' := 32) rfl (hb hby d10_12) rfl (flt (by rw [hz1]; decide)).2.1 (by decide) (by decide) ?_
    show Steps p.tables e below (s₁.setTop (mkF m 32 #[.val (.ref vA), .val (.ref vB), .val (.int (0 : Int32))] [])) _
    refine XS.iconst X0.here hx rfl (hb hby d10_32) ?_
    exact kt)
  obtain ⟨fs4, hr4, hrun4, hended4, hW4, hsame4⟩ := X0.leave (v := some (.int (1 : Int32))) (fun h => by rw [Bd.returns] at h; cases h)
  refine ⟨_, _, pre0 _ (K3 _ ?_), hrun4, hended4, _, _, rfl, ?_, ⟨_, rfl⟩, hW4, hsame4.mono (by decide) (by decide)⟩
  · exact retN X0 hx (t := .boolean) Bd.returns (by simp) (hb hby d10_33) hr4
  · show QL00 Z vA vB ka kb za zb xa xb h0 n0 _ s₁.heap _
    rw [e0]
    exact ⟨rfl, N0, rfl⟩
theorem d9_0 : decode jdk_42_method_66_code 0 = .ok (.aload_n 0, 1) := by decide +kernel
theorem d9_1 : decode jdk_42_method_66_code 1 = .ok (.aload_n 1, 1) := by decide +kernel
theorem d9_2 : decode jdk_42_method_66_code 2 = .ok (.if_acmp .ne 5, 3) := by decide +kernel
theorem d9_7 : decode jdk_42_method_66_code 7 = .ok (.aload_n 1, 1) := by decide +kernel
theorem d9_8 : decode jdk_42_method_66_code 8 = .ok (.instanceof 10, 3) := by decide +kernel
theorem d9_11 : decode jdk_42_method_66_code 11 = .ok (.ifCond .eq 43, 3) := by decide +kernel
theorem d9_14 : decode jdk_42_method_66_code 14 = .ok (.aload_n 1, 1) := by decide +kernel
theorem d9_15 : decode jdk_42_method_66_code 15 = .ok (.checkcast 10, 3) := by decide +kernel
theorem d9_18 : decode jdk_42_method_66_code 18 = .ok (.astore_n 2, 1) := by decide +kernel
theorem d9_19 : decode jdk_42_method_66_code 19 = .ok (.getstatic 38, 3) := by decide +kernel
theorem d9_22 : decode jdk_42_method_66_code 22 = .ok (.ifCond .eq 14, 3) := by decide +kernel
theorem d9_25 : decode jdk_42_method_66_code 25 = .ok (.aload_n 0, 1) := by decide +kernel
theorem d9_26 : decode jdk_42_method_66_code 26 = .ok (.getfield 15, 3) := by decide +kernel
theorem d9_29 : decode jdk_42_method_66_code 29 = .ok (.aload_n 2, 1) := by decide +kernel
theorem d9_30 : decode jdk_42_method_66_code 30 = .ok (.getfield 15, 3) := by decide +kernel
theorem d9_33 : decode jdk_42_method_66_code 33 = .ok (.if_icmp .ne 21, 3) := by decide +kernel
theorem d9_36 : decode jdk_42_method_66_code 36 = .ok (.aload_n 0, 1) := by decide +kernel
theorem d9_37 : decode jdk_42_method_66_code 37 = .ok (.getfield 9, 3) := by decide +kernel
theorem d9_40 : decode jdk_42_method_66_code 40 = .ok (.aload_n 2, 1) := by decide +kernel
theorem d9_41 : decode jdk_42_method_66_code 41 = .ok (.getfield 9, 3) := by decide +kernel
theorem d9_44 : decode jdk_42_method_66_code 44 = .ok (.invokestatic 541, 3) := by decide +kernel
theorem d9_47 : decode jdk_42_method_66_code 47 = .ok (.ifCond .eq 7, 3) := by decide +kernel
theorem d9_54 : decode jdk_42_method_66_code 54 = .ok (.iconst 0, 1) := by decide +kernel
theorem d9_55 : decode jdk_42_method_66_code 55 = .ok (.ireturn, 1) := by decide +kernel
theorem pn_9 : plainName "java/lang/String" = true := by first | (simp [plainName, overriddenIn]; done) | decide +kernel
theorem pd___B_B_Z : parseMethodDescriptor "([B[B)Z" = some ⟨[(.array .byte), (.array .byte)], some .boolean⟩ := by decide +kernel
theorem ef_Ene (m : MethodId) (a1 : Addr) (a2 : Addr) : entryFrame m #[(.ref a1), (.ref a2)] 3 = mkF m 0 #[.val (.ref a1), .val (.ref a2), .unset] [] := by first | (simp [entryFrame, mkF, argsToLocals, Value.category]; done) | rfl
def QEne (Z : State) (a1 : Addr) (a2 : Addr) (vA : Addr) (vB : Addr) (ka : ClassId) (kb : ClassId) (za : Int32) (zb : Int32) (xa : List Value) (xb : List Value) (cw : Int32) (h0 : Heap) (n0 : Nat) (v : Option Value) (h : Heap) (L : List Loc) : Prop := v = some (.int (0 : Int32)) ∧ Fr n0 L ∧ h = h0
set_option maxRecDepth 65536 in
set_option maxHeartbeats 40000000 in
theorem rmEne (l : Launch) (Z : State) (a0 : Array Value) (hw : ∀ d ∈ tables_1, d.before a0 Z = true) (ws : List Jvm.Cond) (a1 : Addr) (a2 : Addr) (vA : Addr) (vB : Addr) (ka : ClassId) (kb : ClassId) (za : Int32) (zb : Int32) (xa : List Value) (xb : List Value) (cw : Int32) (h0 : Heap) (n0 : Nat) (Z0 : n0 ≤ h0.size) (pr0 : Fld Z h0 a1 "java/lang/String" "coder" "B" (.int (0 : Int32))) (pr1 : Fld Z h0 a1 "java/lang/String" "value" "[B" (.ref vA)) (pr2 : Arv Z h0 vA ka .byte za xa (.int (0 : Int32))) (pr3 : Exa Z h0 a2 "java/lang/String") (pr4 : Fld Z h0 a2 "java/lang/String" "coder" "B" (.int (0 : Int32))) (pr5 : Fld Z h0 a2 "java/lang/String" "value" "[B" (.ref vB)) (pr6 : Arv Z h0 vB kb .byte zb xb (.int (0 : Int32))) (pr7 : Old Z n0 h0) (pr8 : Sta Z Z.heap "java/lang/String" "COMPACT_STRINGS" "Z" (.int cw)) (hcw : ¬ (cw = (0 : Int32))) (hz : ¬ (za = zb)) :
    MetFree l (⟨"java/lang/String", "equals", "(Ljava/lang/Object;)Z"⟩ : MethodName) (head1 (Jvm.Cond.code (⟨"java/lang/String", "equals", "(Ljava/lang/Object;)Z"⟩ : MethodName) jdk_42_method_66_code 3 (some .boolean) :: ws) ({ frames := 1, cells := 0, slots := 0, locals := 14 } : Room)) (fun a U => a = #[(.ref a1), (.ref a2)] ∧ Z.Warmed39 U.vm ∧ U.heap = h0) (fun _ _ _ _ _ => True) (fun _ U o U' => ∃ v L, o = .returned v ∧ QEne Z a1 a2 vA vB ka kb za zb xa xb cw h0 n0 v U'.heap L ∧ FrameEnd U o U' L ({ frames := 1, cells := 0, slots := 0, locals := 14 } : Room).cells ({ frames := 1, cells := 0, slots := 0, locals := 14 } : Room).slots) := by
  refine MetFree.of_bodySF (plainFor_of_name pn_9) hisR ?_
  intro p e s m args below meth c s₁ Bd hml0 hP hK
  obtain ⟨rfl, hZ, hh⟩ := hP
  have hx := Bd.exec
  have hby := Bd.bytes
  have hml : c.maxLocals = 3 := hml0
  have hown : s.vm.findClass "java/lang/String" = some m.cls := findClass_of_methodNamed Bd.named
  have hnm := (name_of_methodNamed Bd.named Bd.method).1
  have X0 : Stand p l e ({ frames := 1, cells := 0, slots := 0, locals := 14 } : Room) s m #[(.ref a1), (.ref a2)] below meth c s₁ [] 0 0 := Stand.of_body Bd
  have hs0 : h0 = s.heap := hh.symm
  have e0 : s₁.heap = h0 := by rw [← hh, Bd.state]; rfl
  have N0 := Fr.nil n0
  obtain ⟨f0, hf0⟩ : ∃ f, f = entryFrame m #[(.ref a1), (.ref a2)] 3 := ⟨_, rfl⟩
  have pre0 : ∀ t, Steps p.tables e below (s₁.setTop f0) t → Steps p.tables e below (s₁.setTop (entryFrame m #[(.ref a1), (.ref a2)] 3)) t := fun t k => hf0 ▸ k
  have K0 : Gx p e below s₁ f0 s₁ (mkF m 0 #[.val (.ref a1), .val (.ref a2), .unset] []) := fun t kt => by rw [hf0]; exact castTop (ef_Ene m a1 a2) kt
  have K1 : Gx p e below s₁ f0 s₁ (mkF m 8 #[.val (.ref a1), .val (.ref a2), .unset] [(.ref a2)]) := fun t kt => K0 t (by
    show Steps p.tables e below (s₁.setTop (mkF m 0 #[.val (.ref a1), .val (.ref a2), .unset] [])) _
    refine XS.aloadN X0.here hx rfl (hb hby d9_0) rfl rfl ?_
    show Steps p.tables e below (s₁.setTop (mkF m 1 #[.val (.ref a1), .val (.ref a2), .unset] [(.ref a1)])) _
    refine XS.aloadN X0.here hx rfl (hb hby d9_1) rfl rfl ?_
    show Steps p.tables e below (s₁.setTop (mkF m 2 #[.val (.ref a1), .val (.ref a2), .unset] [(.ref a2), (.ref a1)])) _
    refine Jvm.RoadKit.acmp (g := (mkF m 2 #[.val (.ref a1), .val (.ref a2), .unset] [(.ref a2), (.ref a1)])) X0 hx rfl rfl rfl (pc0 := 2) (pc' := 7) (same := false) rfl (hb hby d9_2) rfl (decide_eq_false fun q => (own_sne pr1 pr2 pr5 pr6 hz) (Value.ref.inj q)) (by decide) (by decide) ?_
    show Steps p.tables e below (s₁.setTop (mkF m 7 #[.val (.ref a1), .val (.ref a2), .unset] [])) _
    refine XS.aloadN X0.here hx rfl (hb hby d9_7) rfl rfl ?_
    exact kt)
  obtain ⟨T2, X2, e2, st2⟩ := instY X0 hx hZ hown (hw _ (List.mem_of_getElem? (i := 9) rfl)) e0 (Ins.self pr3) (g := (mkF m 8 #[.val (.ref a1), .val (.ref a2), .unset] [(.ref a2)])) rfl rfl (hb hby d9_8)
  have K3 : Gx p e below s₁ f0 T2 (mkF m 11 #[.val (.ref a1), .val (.ref a2), .unset] [(.int (1 : Int32))]) := fun t kt => K1 t (st2 t kt)
  have K4 : Gx p e below s₁ f0 T2 (mkF m 15 #[.val (.ref a1), .val (.ref a2), .unset] [(.ref a2)]) := fun t kt => K3 t (by
    show Steps p.tables e below (T2.setTop (mkF m 11 #[.val (.ref a1), .val (.ref a2), .unset] [(.int (1 : Int32))])) _
    refine XS.ifNo X2.here hx rfl (hb hby d9_11) rfl ((if0 _ _).trans (feq (by decide)).1) ?_
    show Steps p.tables e below (T2.setTop (mkF m 14 #[.val (.ref a1), .val (.ref a2), .unset] [])) _
    refine XS.aloadN X2.here hx rfl (hb hby d9_14) rfl rfl ?_
    exact kt)
  obtain ⟨T5, X5, e5, st5⟩ := castY X2 hx hZ hown (hw _ (List.mem_of_getElem? (i := 9) rfl)) e2 (Ins.self pr3) (g := (mkF m 15 #[.val (.ref a1), .val (.ref a2), .unset] [(.ref a2)])) rfl rfl (hb hby d9_15)
  have K6 : Gx p e below s₁ f0 T5 (mkF m 18 #[.val (.ref a1), .val (.ref a2), .unset] [(.ref a2)]) := fun t kt => K4 t (st5 t kt)
  have K7 : Gx p e below s₁ f0 T5 (mkF m 19 #[.val (.ref a1), .val (.ref a2), .val (.ref a2)] []) := fun t kt => K6 t (by
    show Steps p.tables e below (T5.setTop (mkF m 18 #[.val (.ref a1), .val (.ref a2), .unset] [(.ref a2)])) _
    refine XS.astoreN X5.here hx rfl (hb hby d9_18) rfl rfl (l' := #[.val (.ref a1), .val (.ref a2), .val (.ref a2)]) rfl ?_
    exact kt)
  have f8 : Sta Z h0 "java/lang/String" "COMPACT_STRINGS" "Z" (.int cw) := Sta.ext pr7.2 pr8
  obtain ⟨T9, X9, e9, st9⟩ := getS2 X5 hx hZ hown (host := "") (Or.inl (hw _ (List.mem_of_getElem? (i := 4) rfl))) Via.refl e5 f8 (g := (mkF m 19 #[.val (.ref a1), .val (.ref a2), .val (.ref a2)] [])) rfl (hb hby d9_19)
  have K10 : Gx p e below s₁ f0 T9 (mkF m 22 #[.val (.ref a1), .val (.ref a2), .val (.ref a2)] [(.int cw)]) := fun t kt => K7 t (st9 t kt)
  have K11 : Gx p e below s₁ f0 T9 (mkF m 26 #[.val (.ref a1), .val (.ref a2), .val (.ref a2)] [(.ref a1)]) := fun t kt => K10 t (by
    show Steps p.tables e below (T9.setTop (mkF m 22 #[.val (.ref a1), .val (.ref a2), .val (.ref a2)] [(.int cw)])) _
    refine XS.ifNo X9.here hx rfl (hb hby d9_22) rfl ((if0 _ _).trans (feq hcw).1) ?_
    show Steps p.tables e below (T9.setTop (mkF m 25 #[.val (.ref a1), .val (.ref a2), .val (.ref a2)] [])) _
    refine XS.aloadN X9.here hx rfl (hb hby d9_25) rfl rfl ?_
    exact kt)
  obtain ⟨T12, X12, e12, st12⟩ := getF X9 hx hZ hown (host := "") (Or.inl (hw _ (List.mem_of_getElem? (i := 24) rfl))) Via.refl e9 pr0 (g := (mkF m 26 #[.val (.ref a1), .val (.ref a2), .val (.ref a2)] [(.ref a1)])) rfl rfl (hb hby d9_26)
  have K13 : Gx p e below s₁ f0 T12 (mkF m 29 #[.val (.ref a1), .val (.ref a2), .val (.ref a2)] [(.int (0 : Int32))]) := fun t kt => K11 t (st12 t kt)
  have K14 : Gx p e below s₁ f0 T12 (mkF m 30 #[.val (.ref a1), .val (.ref a2), .val (.ref a2)] [(.ref a2), (.int (0 : Int32))]) := fun t kt => K13 t (by
    show Steps p.tables e below (T12.setTop (mkF m 29 #[.val (.ref a1), .val (.ref a2), .val (.ref a2)] [(.int (0 : Int32))])) _
    refine XS.aloadN X12.here hx rfl (hb hby d9_29) rfl rfl ?_
    exact kt)
  obtain ⟨T15, X15, e15, st15⟩ := getF X12 hx hZ hown (host := "") (Or.inl (hw _ (List.mem_of_getElem? (i := 24) rfl))) Via.refl e12 pr4 (g := (mkF m 30 #[.val (.ref a1), .val (.ref a2), .val (.ref a2)] [(.ref a2), (.int (0 : Int32))])) rfl rfl (hb hby d9_30)
  have K16 : Gx p e below s₁ f0 T15 (mkF m 33 #[.val (.ref a1), .val (.ref a2), .val (.ref a2)] [(.int (0 : Int32)), (.int (0 : Int32))]) := fun t kt => K14 t (st15 t kt)
  have K17 : Gx p e below s₁ f0 T15 (mkF m 37 #[.val (.ref a1), .val (.ref a2), .val (.ref a2)] [(.ref a1)]) := fun t kt => K16 t (by
    show Steps p.tables e below (T15.setTop (mkF m 33 #[.val (.ref a1), .val (.ref a2), .val (.ref a2)] [(.int (0 : Int32)), (.int (0 : Int32))])) _
    refine XS.icmpNo X15.here hx rfl (hb hby d9_33) rfl (teq (by decide)).2 ?_
    show Steps p.tables e below (T15.setTop (mkF m 36 #[.val (.ref a1), .val (.ref a2), .val (.ref a2)] [])) _
    refine XS.aloadN X15.here hx rfl (hb hby d9_36) rfl rfl ?_
    exact kt)
  obtain ⟨T18, X18, e18, st18⟩ := getF X15 hx hZ hown (host := "") (Or.inl (hw _ (List.mem_of_getElem? (i := 22) rfl))) Via.refl e15 pr1 (g := (mkF m 37 #[.val (.ref a1), .val (.ref a2), .val (.ref a2)] [(.ref a1)])) rfl rfl (hb hby d9_37)
  have K19 : Gx p e below s₁ f0 T18 (mkF m 40 #[.val (.ref a1), .val (.ref a2), .val (.ref a2)] [(.ref vA)]) := fun t kt => K17 t (st18 t kt)
  have K20 : Gx p e below s₁ f0 T18 (mkF m 41 #[.val (.ref a1), .val (.ref a2), .val (.ref a2)] [(.ref a2), (.ref vA)]) := fun t kt => K19 t (by
    show Steps p.tables e below (T18.setTop (mkF m 40 #[.val (.ref a1), .val (.ref a2), .val (.ref a2)] [(.ref vA)])) _
    refine XS.aloadN X18.here hx rfl (hb hby d9_40) rfl rfl ?_
    exact kt)
  obtain ⟨T21, X21, e21, st21⟩ := getF X18 hx hZ hown (host := "") (Or.inl (hw _ (List.mem_of_getElem? (i := 22) rfl))) Via.refl e18 pr5 (g := (mkF m 41 #[.val (.ref a1), .val (.ref a2), .val (.ref a2)] [(.ref a2), (.ref vA)])) rfl rfl (hb hby d9_41)
  have K22 : Gx p e below s₁ f0 T21 (mkF m 44 #[.val (.ref a1), .val (.ref a2), .val (.ref a2)] [(.ref vB), (.ref vA)]) := fun t kt => K20 t (st21 t kt)
  obtain ⟨_, _, ⟨T23, L23, k23, n23⟩, -, X23', ⟨Lc23, hQ23, l23, y23, z23⟩, st23⟩ := Jvm.LawKit.callS X21 hx (y := (⟨"java/lang/StringLatin1", "equals", "([B[B)Z"⟩ : MethodName)) hown (mvT hZ (hw _ (List.mem_of_getElem? (i := 64) rfl))) (mvT hZ (hw _ (List.mem_of_getElem? (i := 65) rfl))) (mvT hZ (hw _ (List.mem_of_getElem? (i := 7) rfl))) (mvT hZ (hw _ (List.mem_of_getElem? (i := 66) rfl))) (by decide) (backOf (W := 0) (rmLne l Z a0 hw [] vA vB ka kb za zb xa xb h0 n0 (Nat.le_trans Z0 (Keep.refl h0 []).1) pr2 pr6 hz) hZ (hw _ (List.mem_of_getElem? (i := 66) rfl)) (hw _ (List.mem_of_getElem? (i := 7) rfl)) (by decide) (by decide)) (g := (mkF m 44 #[.val (.ref a1), .val (.ref a2), .val (.ref a2)] [(.ref vB), (.ref vA)])) rfl (by rw [hml]; rfl) (argsL := [(.ref vA), (.ref vB)]) (rest := []) (lenOf pd___B_B_Z rfl) rfl (by show 2 * 0 + _ ≤ _; exact Nat.le_of_eq rfl) (hb hby d9_44) (fun _ _ => ⟨rfl, e21, (by decide : 0 + 0 ≤ _), (by decide : 0 + 0 ≤ _)⟩)
  dsimp only [Pt.U, Pt.locs, Pt.cells, Pt.slots] at X23' l23 y23 z23 st23 hQ23
  subst l23 y23 z23
  obtain ⟨rfl, N23q, e23⟩ := hQ23
  obtain ⟨lc23, X23, N23⟩ : ∃ lc, Stand p l e ({ frames := 1, cells := 0, slots := 0, locals := 14 } : Room) s m #[(.ref a1), (.ref a2)] below meth c T23 lc 0 0 ∧ Fr n0 lc := ⟨_, X23', Fr.app N0 N23q⟩
  have K24 : Gx p e below s₁ f0 T23 (mkF m 47 #[.val (.ref a1), .val (.ref a2), .val (.ref a2)] [(.int (0 : Int32))]) := fun t kt => K22 t (st23 t kt)
  have K25 : Gx p e below s₁ f0 T23 (mkF m 55 #[.val (.ref a1), .val (.ref a2), .val (.ref a2)] [(.int (0 : Int32))]) := fun t kt => K24 t (by
    show Steps p.tables e below (T23.setTop (mkF m 47 #[.val (.ref a1), .val (.ref a2), .val (.ref a2)] [(.int (0 : Int32))])) _
    refine XS.ifYes X23.here hx rfl (pc0 := 47) (pc' := 54) rfl (hb hby d9_47) rfl ((if0 _ _).trans (teq (by decide)).1) (by decide) (by decide) ?_
    show Steps p.tables e below (T23.setTop (mkF m 54 #[.val (.ref a1), .val (.ref a2), .val (.ref a2)] [])) _
    refine XS.iconst X23.here hx rfl (hb hby d9_54) ?_
    exact kt)
  obtain ⟨fs26, hr26, hrun26, hended26, hW26, hsame26⟩ := X23.leave (v := some (.int (0 : Int32))) (fun h => by rw [Bd.returns] at h; cases h)
  refine ⟨_, _, pre0 _ (K25 _ ?_), hrun26, hended26, _, _, rfl, ?_, ⟨_, rfl⟩, hW26, hsame26.mono (by decide) (by decide)⟩
  · exact retN X23 hx (t := .boolean) Bd.returns (by simp) (hb hby d9_55) hr26
  · show QEne Z a1 a2 vA vB ka kb za zb xa xb cw h0 n0 _ T23.heap _
    rw [e23]
    exact ⟨rfl, N23, rfl⟩
theorem d9_5 : decode jdk_42_method_66_code 5 = .ok (.iconst 1, 1) := by decide +kernel
theorem d9_6 : decode jdk_42_method_66_code 6 = .ok (.ireturn, 1) := by decide +kernel
theorem d9_50 : decode jdk_42_method_66_code 50 = .ok (.iconst 1, 1) := by decide +kernel
theorem d9_51 : decode jdk_42_method_66_code 51 = .ok (.goto 4, 3) := by decide +kernel
theorem ef_E00 (m : MethodId) (a1 : Addr) (a2 : Addr) : entryFrame m #[(.ref a1), (.ref a2)] 3 = mkF m 0 #[.val (.ref a1), .val (.ref a2), .unset] [] := by first | (simp [entryFrame, mkF, argsToLocals, Value.category]; done) | rfl
def QE00 (Z : State) (a1 : Addr) (a2 : Addr) (vA : Addr) (vB : Addr) (ka : ClassId) (kb : ClassId) (za : Int32) (zb : Int32) (xa : List Value) (xb : List Value) (cw : Int32) (h0 : Heap) (n0 : Nat) (v : Option Value) (h : Heap) (L : List Loc) : Prop := v = some (.int (1 : Int32)) ∧ Fr n0 L ∧ h = h0
set_option maxRecDepth 65536 in
set_option maxHeartbeats 40000000 in
theorem rmE00 (l : Launch) (Z : State) (a0 : Array Value) (hw : ∀ d ∈ tables_1, d.before a0 Z = true) (ws : List Jvm.Cond) (a1 : Addr) (a2 : Addr) (vA : Addr) (vB : Addr) (ka : ClassId) (kb : ClassId) (za : Int32) (zb : Int32) (xa : List Value) (xb : List Value) (cw : Int32) (h0 : Heap) (n0 : Nat) (Z0 : n0 ≤ h0.size) (pr0 : Fld Z h0 a1 "java/lang/String" "coder" "B" (.int (0 : Int32))) (pr1 : Fld Z h0 a1 "java/lang/String" "value" "[B" (.ref vA)) (pr2 : Arv Z h0 vA ka .byte za xa (.int (0 : Int32))) (pr3 : Exa Z h0 a2 "java/lang/String") (pr4 : Fld Z h0 a2 "java/lang/String" "coder" "B" (.int (0 : Int32))) (pr5 : Fld Z h0 a2 "java/lang/String" "value" "[B" (.ref vB)) (pr6 : Arv Z h0 vB kb .byte zb xb (.int (0 : Int32))) (pr7 : Old Z n0 h0) (pr8 : Sta Z Z.heap "java/lang/String" "COMPACT_STRINGS" "Z" (.int cw)) (hcw : ¬ (cw = (0 : Int32))) (hz1 : za = (0 : Int32)) (hz2 : zb = (0 : Int32)) :
    MetFree l (⟨"java/lang/String", "equals", "(Ljava/lang/Object;)Z"⟩ : MethodName) (head1 (Jvm.Cond.code (⟨"java/lang/String", "equals", "(Ljava/lang/Object;)Z"⟩ : MethodName) jdk_42_method_66_code 3 (some .boolean) :: ws) ({ frames := 1, cells := 0, slots := 0, locals := 14 } : Room)) (fun a U => a = #[(.ref a1), (.ref a2)] ∧ Z.Warmed39 U.vm ∧ U.heap = h0) (fun _ _ _ _ _ => True) (fun _ U o U' => ∃ v L, o = .returned v ∧ QE00 Z a1 a2 vA vB ka kb za zb xa xb cw h0 n0 v U'.heap L ∧ FrameEnd U o U' L ({ frames := 1, cells := 0, slots := 0, locals := 14 } : Room).cells ({ frames := 1, cells := 0, slots := 0, locals := 14 } : Room).slots) := by
  refine MetFree.of_bodySF (plainFor_of_name pn_9) hisR ?_
  intro p e s m args below meth c s₁ Bd hml0 hP hK
  obtain ⟨rfl, hZ, hh⟩ := hP
  have hx := Bd.exec
  have hby := Bd.bytes
  have hml : c.maxLocals = 3 := hml0
  have hown : s.vm.findClass "java/lang/String" = some m.cls := findClass_of_methodNamed Bd.named
  have hnm := (name_of_methodNamed Bd.named Bd.method).1
  have X0 : Stand p l e ({ frames := 1, cells := 0, slots := 0, locals := 14 } : Room) s m #[(.ref a1), (.ref a2)] below meth c s₁ [] 0 0 := Stand.of_body Bd
  have hs0 : h0 = s.heap := hh.symm
  have e0 : s₁.heap = h0 := by rw [← hh, Bd.state]; rfl
  have N0 := Fr.nil n0
  obtain ⟨f0, hf0⟩ : ∃ f, f = entryFrame m #[(.ref a1), (.ref a2)] 3 := ⟨_, rfl⟩
  have pre0 : ∀ t, Steps p.tables e below (s₁.setTop f0) t → Steps p.tables e below (s₁.setTop (entryFrame m #[(.ref a1), (.ref a2)] 3)) t := fun t k => hf0 ▸ k
  have K0 : Gx p e below s₁ f0 s₁ (mkF m 0 #[.val (.ref a1), .val (.ref a2), .unset] []) := fun t kt => by rw [hf0]; exact castTop (ef_E00 m a1 a2) kt
  have K1 : Gx p e below s₁ f0 s₁ (mkF m 2 #[.val (.ref a1), .val (.ref a2), .unset] [(.ref a2), (.ref a1)]) := fun t kt => K0 t (by
    show Steps p.tables e below (s₁.setTop (mkF m 0 #[.val (.ref a1), .val (.ref a2), .unset] [])) _
    refine XS.aloadN X0.here hx rfl (hb hby d9_0) rfl rfl ?_
    show Steps p.tables e below (s₁.setTop (mkF m 1 #[.val (.ref a1), .val (.ref a2), .unset] [(.ref a1)])) _
    refine XS.aloadN X0.here hx rfl (hb hby d9_1) rfl rfl ?_
    exact kt)
  by_cases hb2 : a1 = a2
  · skip
    have K3 : Gx p e below s₁ f0 s₁ (mkF m 6 #[.val (.ref a1), .val (.ref a2), .unset] [(.int (1 : Int32))]) := fun t kt => K1 t (by
      show Steps p.tables e below (s₁.setTop (mkF m 2 #[.val (.ref a1), .val (.ref a2), .unset] [(.ref a2), (.ref a1)])) _
      refine Jvm.RoadKit.acmp (g := (mkF m 2 #[.val (.ref a1), .val (.ref a2), .unset] [(.ref a2), (.ref a1)])) X0 hx rfl rfl rfl (pc0 := 2) (pc' := 5) (same := true) rfl (hb hby d9_2) rfl (decide_eq_true (congrArg Value.ref hb2)) (by decide) (by decide) ?_
      show Steps p.tables e below (s₁.setTop (mkF m 5 #[.val (.ref a1), .val (.ref a2), .unset] [])) _
      refine XS.iconst X0.here hx rfl (hb hby d9_5) ?_
      exact kt)
    obtain ⟨fs4, hr4, hrun4, hended4, hW4, hsame4⟩ := X0.leave (v := some (.int (1 : Int32))) (fun h => by rw [Bd.returns] at h; cases h)
    refine ⟨_, _, pre0 _ (K3 _ ?_), hrun4, hended4, _, _, rfl, ?_, ⟨_, rfl⟩, hW4, hsame4.mono (by decide) (by decide)⟩
    · exact retN X0 hx (t := .boolean) Bd.returns (by simp) (hb hby d9_6) hr4
    · show QE00 Z a1 a2 vA vB ka kb za zb xa xb cw h0 n0 _ s₁.heap _
      rw [e0]
      exact ⟨rfl, N0, rfl⟩
  · skip
    have K5 : Gx p e below s₁ f0 s₁ (mkF m 8 #[.val (.ref a1), .val (.ref a2), .unset] [(.ref a2)]) := fun t kt => K1 t (by
      show Steps p.tables e below (s₁.setTop (mkF m 2 #[.val (.ref a1), .val (.ref a2), .unset] [(.ref a2), (.ref a1)])) _
      refine Jvm.RoadKit.acmp (g := (mkF m 2 #[.val (.ref a1), .val (.ref a2), .unset] [(.ref a2), (.ref a1)])) X0 hx rfl rfl rfl (pc0 := 2) (pc' := 7) (same := false) rfl (hb hby d9_2) rfl (decide_eq_false fun q => hb2 (Value.ref.inj q)) (by decide) (by decide) ?_
      show Steps p.tables e below (s₁.setTop (mkF m 7 #[.val (.ref a1), .val (.ref a2), .unset] [])) _
      refine XS.aloadN X0.here hx rfl (hb hby d9_7) rfl rfl ?_
      exact kt)
    obtain ⟨T6, X6, e6, st6⟩ := instY X0 hx hZ hown (hw _ (List.mem_of_getElem? (i := 9) rfl)) e0 (Ins.self pr3) (g := (mkF m 8 #[.val (.ref a1), .val (.ref a2), .unset] [(.ref a2)])) rfl rfl (hb hby d9_8)
    have K7 : Gx p e below s₁ f0 T6 (mkF m 11 #[.val (.ref a1), .val (.ref a2), .unset] [(.int (1 : Int32))]) := fun t kt => K5 t (st6 t kt)
    have K8 : Gx p e below s₁ f0 T6 (mkF m 15 #[.val (.ref a1), .val (.ref a2), .unset] [(.ref a2)]) := fun t kt => K7 t (by
      show Steps p.tables e below (T6.setTop (mkF m 11 #[.val (.ref a1), .val (.ref a2), .unset] [(.int (1 : Int32))])) _
      refine XS.ifNo X6.here hx rfl (hb hby d9_11) rfl ((if0 _ _).trans (feq (by decide)).1) ?_
      show Steps p.tables e below (T6.setTop (mkF m 14 #[.val (.ref a1), .val (.ref a2), .unset] [])) _
      refine XS.aloadN X6.here hx rfl (hb hby d9_14) rfl rfl ?_
      exact kt)
    obtain ⟨T9, X9, e9, st9⟩ := castY X6 hx hZ hown (hw _ (List.mem_of_getElem? (i := 9) rfl)) e6 (Ins.self pr3) (g := (mkF m 15 #[.val (.ref a1), .val (.ref a2), .unset] [(.ref a2)])) rfl rfl (hb hby d9_15)
    have K10 : Gx p e below s₁ f0 T9 (mkF m 18 #[.val (.ref a1), .val (.ref a2), .unset] [(.ref a2)]) := fun t kt => K8 t (st9 t kt)
    have K11 : Gx p e below s₁ f0 T9 (mkF m 19 #[.val (.ref a1), .val (.ref a2), .val (.ref a2)] []) := fun t kt => K10 t (by
      show Steps p.tables e below (T9.setTop (mkF m 18 #[.val (.ref a1), .val (.ref a2), .unset] [(.ref a2)])) _
      refine XS.astoreN X9.here hx rfl (hb hby d9_18) rfl rfl (l' := #[.val (.ref a1), .val (.ref a2), .val (.ref a2)]) rfl ?_
      exact kt)
    have f12 : Sta Z h0 "java/lang/String" "COMPACT_STRINGS" "Z" (.int cw) := Sta.ext pr7.2 pr8
    obtain ⟨T13, X13, e13, st13⟩ := getS2 X9 hx hZ hown (host := "") (Or.inl (hw _ (List.mem_of_getElem? (i := 4) rfl))) Via.refl e9 f12 (g := (mkF m 19 #[.val (.ref a1), .val (.ref a2), .val (.ref a2)] [])) rfl (hb hby d9_19)
    have K14 : Gx p e below s₁ f0 T13 (mkF m 22 #[.val (.ref a1), .val (.ref a2), .val (.ref a2)] [(.int cw)]) := fun t kt => K11 t (st13 t kt)
    have K15 : Gx p e below s₁ f0 T13 (mkF m 26 #[.val (.ref a1), .val (.ref a2), .val (.ref a2)] [(.ref a1)]) := fun t kt => K14 t (by
      show Steps p.tables e below (T13.setTop (mkF m 22 #[.val (.ref a1), .val (.ref a2), .val (.ref a2)] [(.int cw)])) _
      refine XS.ifNo X13.here hx rfl (hb hby d9_22) rfl ((if0 _ _).trans (feq hcw).1) ?_
      show Steps p.tables e below (T13.setTop (mkF m 25 #[.val (.ref a1), .val (.ref a2), .val (.ref a2)] [])) _
      refine XS.aloadN X13.here hx rfl (hb hby d9_25) rfl rfl ?_
      exact kt)
    obtain ⟨T16, X16, e16, st16⟩ := getF X13 hx hZ hown (host := "") (Or.inl (hw _ (List.mem_of_getElem? (i := 24) rfl))) Via.refl e13 pr0 (g := (mkF m 26 #[.val (.ref a1), .val (.ref a2), .val (.ref a2)] [(.ref a1)])) rfl rfl (hb hby d9_26)
    have K17 : Gx p e below s₁ f0 T16 (mkF m 29 #[.val (.ref a1), .val (.ref a2), .val (.ref a2)] [(.int (0 : Int32))]) := fun t kt => K15 t (st16 t kt)
    have K18 : Gx p e below s₁ f0 T16 (mkF m 30 #[.val (.ref a1), .val (.ref a2), .val (.ref a2)] [(.ref a2), (.int (0 : Int32))]) := fun t kt => K17 t (by
      show Steps p.tables e below (T16.setTop (mkF m 29 #[.val (.ref a1), .val (.ref a2), .val (.ref a2)] [(.int (0 : Int32))])) _
      refine XS.aloadN X16.here hx rfl (hb hby d9_29) rfl rfl ?_
      exact kt)
    obtain ⟨T19, X19, e19, st19⟩ := getF X16 hx hZ hown (host := "") (Or.inl (hw _ (List.mem_of_getElem? (i := 24) rfl))) Via.refl e16 pr4 (g := (mkF m 30 #[.val (.ref a1), .val (.ref a2), .val (.ref a2)] [(.ref a2), (.int (0 : Int32))])) rfl rfl (hb hby d9_30)
    have K20 : Gx p e below s₁ f0 T19 (mkF m 33 #[.val (.ref a1), .val (.ref a2), .val (.ref a2)] [(.int (0 : Int32)), (.int (0 : Int32))]) := fun t kt => K18 t (st19 t kt)
    have K21 : Gx p e below s₁ f0 T19 (mkF m 37 #[.val (.ref a1), .val (.ref a2), .val (.ref a2)] [(.ref a1)]) := fun t kt => K20 t (by
      show Steps p.tables e below (T19.setTop (mkF m 33 #[.val (.ref a1), .val (.ref a2), .val (.ref a2)] [(.int (0 : Int32)), (.int (0 : Int32))])) _
      refine XS.icmpNo X19.here hx rfl (hb hby d9_33) rfl (teq (by decide)).2 ?_
      show Steps p.tables e below (T19.setTop (mkF m 36 #[.val (.ref a1), .val (.ref a2), .val (.ref a2)] [])) _
      refine XS.aloadN X19.here hx rfl (hb hby d9_36) rfl rfl ?_
      exact kt)
    obtain ⟨T22, X22, e22, st22⟩ := getF X19 hx hZ hown (host := "") (Or.inl (hw _ (List.mem_of_getElem? (i := 22) rfl))) Via.refl e19 pr1 (g := (mkF m 37 #[.val (.ref a1), .val (.ref a2), .val (.ref a2)] [(.ref a1)])) rfl rfl (hb hby d9_37)
    have K23 : Gx p e below s₁ f0 T22 (mkF m 40 #[.val (.ref a1), .val (.ref a2), .val (.ref a2)] [(.ref vA)]) := fun t kt => K21 t (st22 t kt)
    have K24 : Gx p e below s₁ f0 T22 (mkF m 41 #[.val (.ref a1), .val (.ref a2), .val (.ref a2)] [(.ref a2), (.ref vA)]) := fun t kt => K23 t (by
      show Steps p.tables e below (T22.setTop (mkF m 40 #[.val (.ref a1), .val (.ref a2), .val (.ref a2)] [(.ref vA)])) _
      refine XS.aloadN X22.here hx rfl (hb hby d9_40) rfl rfl ?_
      exact kt)
    obtain ⟨T25, X25, e25, st25⟩ := getF X22 hx hZ hown (host := "") (Or.inl (hw _ (List.mem_of_getElem? (i := 22) rfl))) Via.refl e22 pr5 (g := (mkF m 41 #[.val (.ref a1), .val (.ref a2), .val (.ref a2)] [(.ref a2), (.ref vA)])) rfl rfl (hb hby d9_41)
    have K26 : Gx p e below s₁ f0 T25 (mkF m 44 #[.val (.ref a1), .val (.ref a2), .val (.ref a2)] [(.ref vB), (.ref vA)]) := fun t kt => K24 t (st25 t kt)
    obtain ⟨_, _, ⟨T27, L27, k27, n27⟩, -, X27', ⟨Lc27, hQ27, l27, y27, z27⟩, st27⟩ := Jvm.LawKit.callS X25 hx (y := (⟨"java/lang/StringLatin1", "equals", "([B[B)Z"⟩ : MethodName)) hown (mvT hZ (hw _ (List.mem_of_getElem? (i := 64) rfl))) (mvT hZ (hw _ (List.mem_of_getElem? (i := 65) rfl))) (mvT hZ (hw _ (List.mem_of_getElem? (i := 7) rfl))) (mvT hZ (hw _ (List.mem_of_getElem? (i := 66) rfl))) (by decide) (backOf (W := 0) (rmL00 l Z a0 hw [] vA vB ka kb za zb xa xb h0 n0 (Nat.le_trans Z0 (Keep.refl h0 []).1) pr2 pr6 hz1 hz2) hZ (hw _ (List.mem_of_getElem? (i := 66) rfl)) (hw _ (List.mem_of_getElem? (i := 7) rfl)) (by decide) (by decide)) (g := (mkF m 44 #[.val (.ref a1), .val (.ref a2), .val (.ref a2)] [(.ref vB), (.ref vA)])) rfl (by rw [hml]; rfl) (argsL := [(.ref vA), (.ref vB)]) (rest := []) (lenOf pd___B_B_Z rfl) rfl (by show 2 * 0 + _ ≤ _; exact Nat.le_of_eq rfl) (hb hby d9_44) (fun _ _ => ⟨rfl, e25, (by decide : 0 + 0 ≤ _), (by decide : 0 + 0 ≤ _)⟩)
    dsimp only [Pt.U, Pt.locs, Pt.cells, Pt.slots] at X27' l27 y27 z27 st27 hQ27
    subst l27 y27 z27
    obtain ⟨rfl, N27q, e27⟩ := hQ27
    obtain ⟨lc27, X27, N27⟩ : ∃ lc, Stand p l e ({ frames := 1, cells := 0, slots := 0, locals := 14 } : Room) s m #[(.ref a1), (.ref a2)] below meth c T27 lc 0 0 ∧ Fr n0 lc := ⟨_, X27', Fr.app N0 N27q⟩
    have K28 : Gx p e below s₁ f0 T27 (mkF m 47 #[.val (.ref a1), .val (.ref a2), .val (.ref a2)] [(.int (1 : Int32))]) := fun t kt => K26 t (st27 t kt)
    have K29 : Gx p e below s₁ f0 T27 (mkF m 55 #[.val (.ref a1), .val (.ref a2), .val (.ref a2)] [(.int (1 : Int32))]) := fun t kt => K28 t (by
      show Steps p.tables e below (T27.setTop (mkF m 47 #[.val (.ref a1), .val (.ref a2), .val (.ref a2)] [(.int (1 : Int32))])) _
      refine XS.ifNo X27.here hx rfl (hb hby d9_47) rfl ((if0 _ _).trans (feq (by decide)).1) ?_
      show Steps p.tables e below (T27.setTop (mkF m 50 #[.val (.ref a1), .val (.ref a2), .val (.ref a2)] [])) _
      refine XS.iconst X27.here hx rfl (hb hby d9_50) ?_
      show Steps p.tables e below (T27.setTop (mkF m 51 #[.val (.ref a1), .val (.ref a2), .val (.ref a2)] [(.int (1 : Int32))])) _
      refine XS.goto X27.here hx rfl (pc0 := 51) (pc' := 55) rfl (hb hby d9_51) (by decide) (by decide) ?_
      exact kt)
    obtain ⟨fs30, hr30, hrun30, hended30, hW30, hsame30⟩ := X27.leave (v := some (.int (1 : Int32))) (fun h => by rw [Bd.returns] at h; cases h)
    refine ⟨_, _, pre0 _ (K29 _ ?_), hrun30, hended30, _, _, rfl, ?_, ⟨_, rfl⟩, hW30, hsame30.mono (by decide) (by decide)⟩
    · exact retN X27 hx (t := .boolean) Bd.returns (by simp) (hb hby d9_55) hr30
    · show QE00 Z a1 a2 vA vB ka kb za zb xa xb cw h0 n0 _ T27.heap _
      rw [e27]
      exact ⟨rfl, N27, rfl⟩
theorem ef_Erf (m : MethodId) (a1 : Addr) : entryFrame m #[(.ref a1), (.ref a1)] 3 = mkF m 0 #[.val (.ref a1), .val (.ref a1), .unset] [] := by first | (simp [entryFrame, mkF, argsToLocals, Value.category]; done) | rfl
def QErf (Z : State) (a1 : Addr) (h0 : Heap) (n0 : Nat) (v : Option Value) (h : Heap) (L : List Loc) : Prop := v = some (.int (1 : Int32)) ∧ Fr n0 L ∧ h = h0
set_option maxRecDepth 65536 in
set_option maxHeartbeats 40000000 in
theorem rmErf (l : Launch) (Z : State) (a0 : Array Value) (hw : ∀ d ∈ tables_1, d.before a0 Z = true) (ws : List Jvm.Cond) (a1 : Addr) (h0 : Heap) (n0 : Nat) (Z0 : n0 ≤ h0.size) :
    MetFree l (⟨"java/lang/String", "equals", "(Ljava/lang/Object;)Z"⟩ : MethodName) (head1 (Jvm.Cond.code (⟨"java/lang/String", "equals", "(Ljava/lang/Object;)Z"⟩ : MethodName) jdk_42_method_66_code 3 (some .boolean) :: ws) ({ frames := 0, cells := 0, slots := 0, locals := 0 } : Room)) (fun a U => a = #[(.ref a1), (.ref a1)] ∧ Z.Warmed39 U.vm ∧ U.heap = h0) (fun _ _ _ _ _ => True) (fun _ U o U' => ∃ v L, o = .returned v ∧ QErf Z a1 h0 n0 v U'.heap L ∧ FrameEnd U o U' L ({ frames := 0, cells := 0, slots := 0, locals := 0 } : Room).cells ({ frames := 0, cells := 0, slots := 0, locals := 0 } : Room).slots) := by
  refine MetFree.of_bodySF (plainFor_of_name pn_9) hisR ?_
  intro p e s m args below meth c s₁ Bd hml0 hP hK
  obtain ⟨rfl, hZ, hh⟩ := hP
  have hx := Bd.exec
  have hby := Bd.bytes
  have hml : c.maxLocals = 3 := hml0
  have hown : s.vm.findClass "java/lang/String" = some m.cls := findClass_of_methodNamed Bd.named
  have hnm := (name_of_methodNamed Bd.named Bd.method).1
  have X0 : Stand p l e ({ frames := 0, cells := 0, slots := 0, locals := 0 } : Room) s m #[(.ref a1), (.ref a1)] below meth c s₁ [] 0 0 := Stand.of_body Bd
  have hs0 : h0 = s.heap := hh.symm
  have e0 : s₁.heap = h0 := by rw [← hh, Bd.state]; rfl
  have N0 := Fr.nil n0
  obtain ⟨f0, hf0⟩ : ∃ f, f = entryFrame m #[(.ref a1), (.ref a1)] 3 := ⟨_, rfl⟩
  have pre0 : ∀ t, Steps p.tables e below (s₁.setTop f0) t → Steps p.tables e below (s₁.setTop (entryFrame m #[(.ref a1), (.ref a1)] 3)) t := fun t k => hf0 ▸ k
  have K0 : Gx p e below s₁ f0 s₁ (mkF m 0 #[.val (.ref a1), .val (.ref a1), .unset] []) := fun t kt => by rw [hf0]; exact castTop (ef_Erf m a1) kt
  have K1 : Gx p e below s₁ f0 s₁ (mkF m 6 #[.val (.ref a1), .val (.ref a1), .unset] [(.int (1 : Int32))]) := fun t kt => K0 t (by
    show Steps p.tables e below (s₁.setTop (mkF m 0 #[.val (.ref a1), .val (.ref a1), .unset] [])) _
    refine XS.aloadN X0.here hx rfl (hb hby d9_0) rfl rfl ?_
    show Steps p.tables e below (s₁.setTop (mkF m 1 #[.val (.ref a1), .val (.ref a1), .unset] [(.ref a1)])) _
    refine XS.aloadN X0.here hx rfl (hb hby d9_1) rfl rfl ?_
    show Steps p.tables e below (s₁.setTop (mkF m 2 #[.val (.ref a1), .val (.ref a1), .unset] [(.ref a1), (.ref a1)])) _
    refine Jvm.RoadKit.acmp (g := (mkF m 2 #[.val (.ref a1), .val (.ref a1), .unset] [(.ref a1), (.ref a1)])) X0 hx rfl rfl rfl (pc0 := 2) (pc' := 5) (same := true) rfl (hb hby d9_2) rfl (decide_eq_true rfl) (by decide) (by decide) ?_
    show Steps p.tables e below (s₁.setTop (mkF m 5 #[.val (.ref a1), .val (.ref a1), .unset] [])) _
    refine XS.iconst X0.here hx rfl (hb hby d9_5) ?_
    exact kt)
  obtain ⟨fs2, hr2, hrun2, hended2, hW2, hsame2⟩ := X0.leave (v := some (.int (1 : Int32))) (fun h => by rw [Bd.returns] at h; cases h)
  refine ⟨_, _, pre0 _ (K1 _ ?_), hrun2, hended2, _, _, rfl, ?_, ⟨_, rfl⟩, hW2, hsame2.mono (by decide) (by decide)⟩
  · exact retN X0 hx (t := .boolean) Bd.returns (by simp) (hb hby d9_6) hr2
  · show QErf Z a1 h0 n0 _ s₁.heap _
    rw [e0]
    exact ⟨rfl, N0, rfl⟩
theorem d11_0 : decode jdk_42_method_55_code 0 = .ok (.aload_n 0, 1) := by decide +kernel
theorem d11_1 : decode jdk_42_method_55_code 1 = .ok (.getfield 9, 3) := by decide +kernel
theorem d11_4 : decode jdk_42_method_55_code 4 = .ok (.arraylength, 1) := by decide +kernel
theorem d11_5 : decode jdk_42_method_55_code 5 = .ok (.ifCond .ne 7, 3) := by decide +kernel
theorem d11_8 : decode jdk_42_method_55_code 8 = .ok (.iconst 1, 1) := by decide +kernel
theorem d11_9 : decode jdk_42_method_55_code 9 = .ok (.goto 4, 3) := by decide +kernel
theorem d11_12 : decode jdk_42_method_55_code 12 = .ok (.iconst 0, 1) := by decide +kernel
theorem d11_13 : decode jdk_42_method_55_code 13 = .ok (.ireturn, 1) := by decide +kernel
theorem pn_11 : plainName "java/lang/String" = true := by first | (simp [plainName, overriddenIn]; done) | decide +kernel
theorem ef_Emp (m : MethodId) (a1 : Addr) : entryFrame m #[(.ref a1)] 1 = mkF m 0 #[.val (.ref a1)] [] := by first | (simp [entryFrame, mkF, argsToLocals, Value.category]; done) | rfl
def QEmp (Z : State) (a1 : Addr) (vA : Addr) (ka : ClassId) (za : Int32) (xa : List Value) (h0 : Heap) (n0 : Nat) (v : Option Value) (h : Heap) (L : List Loc) : Prop := v = some (.int (if za = (0 : Int32) then (1 : Int32) else (0 : Int32))) ∧ Fr n0 L ∧ h = h0
set_option maxRecDepth 65536 in
set_option maxHeartbeats 40000000 in
theorem rmEmp (l : Launch) (Z : State) (a0 : Array Value) (hw : ∀ d ∈ tables_1, d.before a0 Z = true) (ws : List Jvm.Cond) (a1 : Addr) (vA : Addr) (ka : ClassId) (za : Int32) (xa : List Value) (h0 : Heap) (n0 : Nat) (Z0 : n0 ≤ h0.size) (pr0 : Fld Z h0 a1 "java/lang/String" "value" "[B" (.ref vA)) (pr1 : Arv Z h0 vA ka .byte za xa (.int (0 : Int32))) :
    MetFree l (⟨"java/lang/String", "isEmpty", "()Z"⟩ : MethodName) (head1 (Jvm.Cond.code (⟨"java/lang/String", "isEmpty", "()Z"⟩ : MethodName) jdk_42_method_55_code 1 (some .boolean) :: ws) ({ frames := 0, cells := 0, slots := 0, locals := 0 } : Room)) (fun a U => a = #[(.ref a1)] ∧ Z.Warmed39 U.vm ∧ U.heap = h0) (fun _ _ _ _ _ => True) (fun _ U o U' => ∃ v L, o = .returned v ∧ QEmp Z a1 vA ka za xa h0 n0 v U'.heap L ∧ FrameEnd U o U' L ({ frames := 0, cells := 0, slots := 0, locals := 0 } : Room).cells ({ frames := 0, cells := 0, slots := 0, locals := 0 } : Room).slots) := by
  refine MetFree.of_bodySF (plainFor_of_name pn_11) hisR ?_
  intro p e s m args below meth c s₁ Bd hml0 hP hK
  obtain ⟨rfl, hZ, hh⟩ := hP
  have hx := Bd.exec
  have hby := Bd.bytes
  have hml : c.maxLocals = 1 := hml0
  have hown : s.vm.findClass "java/lang/String" = some m.cls := findClass_of_methodNamed Bd.named
  have hnm := (name_of_methodNamed Bd.named Bd.method).1
  have X0 : Stand p l e ({ frames := 0, cells := 0, slots := 0, locals := 0 } : Room) s m #[(.ref a1)] below meth c s₁ [] 0 0 := Stand.of_body Bd
  have hs0 : h0 = s.heap := hh.symm
  have e0 : s₁.heap = h0 := by rw [← hh, Bd.state]; rfl
  have N0 := Fr.nil n0
  obtain ⟨f0, hf0⟩ : ∃ f, f = entryFrame m #[(.ref a1)] 1 := ⟨_, rfl⟩
  have pre0 : ∀ t, Steps p.tables e below (s₁.setTop f0) t → Steps p.tables e below (s₁.setTop (entryFrame m #[(.ref a1)] 1)) t := fun t k => hf0 ▸ k
  have K0 : Gx p e below s₁ f0 s₁ (mkF m 0 #[.val (.ref a1)] []) := fun t kt => by rw [hf0]; exact castTop (ef_Emp m a1) kt
  have K1 : Gx p e below s₁ f0 s₁ (mkF m 1 #[.val (.ref a1)] [(.ref a1)]) := fun t kt => K0 t (by
    show Steps p.tables e below (s₁.setTop (mkF m 0 #[.val (.ref a1)] [])) _
    refine XS.aloadN X0.here hx rfl (hb hby d11_0) rfl rfl ?_
    exact kt)
  obtain ⟨T2, X2, e2, st2⟩ := getF X0 hx hZ hown (host := "") (Or.inl (hw _ (List.mem_of_getElem? (i := 22) rfl))) Via.refl e0 pr0 (g := (mkF m 1 #[.val (.ref a1)] [(.ref a1)])) rfl rfl (hb hby d11_1)
  have K3 : Gx p e below s₁ f0 T2 (mkF m 4 #[.val (.ref a1)] [(.ref vA)]) := fun t kt => K1 t (st2 t kt)
  obtain ⟨clq4, Arq4, ckq4, cSq4, cNq4, cHq4, cGq4⟩ := id pr1
  have K5 : Gx p e below s₁ f0 T2 (mkF m 5 #[.val (.ref a1)] [(.int za)]) := fun t kt => K3 t (by
    show Steps p.tables e below (T2.setTop (mkF m 4 #[.val (.ref a1)] [(.ref vA)])) _
    refine X2.arraylength hx (by rw [e2]; exact Arq4.1) (State.isArrayOf_alike hZ.alike Arq4.2.1) (g := (mkF m 4 #[.val (.ref a1)] [(.ref vA)])) rfl rfl (hb hby d11_4) _ ?_
    rw [len_of cSq4 cNq4]
    exact kt)
  by_cases hb6 : za = (0 : Int32)
  · skip
    have K7 : Gx p e below s₁ f0 T2 (mkF m 13 #[.val (.ref a1)] [(.int (1 : Int32))]) := fun t kt => K5 t (by
      show Steps p.tables e below (T2.setTop (mkF m 5 #[.val (.ref a1)] [(.int za)])) _
      refine XS.ifNo X2.here hx rfl (hb hby d11_5) rfl ((if0 _ _).trans (teq hb6).2) ?_
      show Steps p.tables e below (T2.setTop (mkF m 8 #[.val (.ref a1)] [])) _
      refine XS.iconst X2.here hx rfl (hb hby d11_8) ?_
      show Steps p.tables e below (T2.setTop (mkF m 9 #[.val (.ref a1)] [(.int (1 : Int32))])) _
      refine XS.goto X2.here hx rfl (pc0 := 9) (pc' := 13) rfl (hb hby d11_9) (by decide) (by decide) ?_
      exact kt)
    obtain ⟨fs8, hr8, hrun8, hended8, hW8, hsame8⟩ := X2.leave (v := some (.int (1 : Int32))) (fun h => by rw [Bd.returns] at h; cases h)
    refine ⟨_, _, pre0 _ (K7 _ ?_), hrun8, hended8, _, _, rfl, ?_, ⟨_, rfl⟩, hW8, hsame8.mono (by decide) (by decide)⟩
    · exact retN X2 hx (t := .boolean) Bd.returns (by simp) (hb hby d11_13) hr8
    · show QEmp Z a1 vA ka za xa h0 n0 _ T2.heap _
      rw [e2]
      exact ⟨(congrArg some (congrArg Value.int (by first | (simp only [if_pos hb6]; done) | rfl))), N0, rfl⟩
  · skip
    have K9 : Gx p e below s₁ f0 T2 (mkF m 13 #[.val (.ref a1)] [(.int (0 : Int32))]) := fun t kt => K5 t (by
      show Steps p.tables e below (T2.setTop (mkF m 5 #[.val (.ref a1)] [(.int za)])) _
      refine XS.ifYes X2.here hx rfl (pc0 := 5) (pc' := 12) rfl (hb hby d11_5) rfl ((if0 _ _).trans (feq hb6).2) (by decide) (by decide) ?_
      show Steps p.tables e below (T2.setTop (mkF m 12 #[.val (.ref a1)] [])) _
      refine XS.iconst X2.here hx rfl (hb hby d11_12) ?_
      exact kt)
    obtain ⟨fs10, hr10, hrun10, hended10, hW10, hsame10⟩ := X2.leave (v := some (.int (0 : Int32))) (fun h => by rw [Bd.returns] at h; cases h)
    refine ⟨_, _, pre0 _ (K9 _ ?_), hrun10, hended10, _, _, rfl, ?_, ⟨_, rfl⟩, hW10, hsame10.mono (by decide) (by decide)⟩
    · exact retN X2 hx (t := .boolean) Bd.returns (by simp) (hb hby d11_13) hr10
    · show QEmp Z a1 vA ka za xa h0 n0 _ T2.heap _
      rw [e2]
      exact ⟨(congrArg some (congrArg Value.int (by first | (simp only [if_neg hb6]; done) | rfl))), N0, rfl⟩
theorem d6_0 : decode prog_73_method_1_code 0 = .ok (.aload_n 0, 1) := by decide +kernel
theorem d6_1 : decode prog_73_method_1_code 1 = .ok (.invokespecial 1, 3) := by decide +kernel
theorem d6_4 : decode prog_73_method_1_code 4 = .ok (.aload_n 0, 1) := by decide +kernel
theorem d6_5 : decode prog_73_method_1_code 5 = .ok (.bipush 16, 2) := by decide +kernel
theorem d6_7 : decode prog_73_method_1_code 7 = .ok (.anewarray 7, 3) := by decide +kernel
theorem d6_10 : decode prog_73_method_1_code 10 = .ok (.putfield 9, 3) := by decide +kernel
theorem d6_13 : decode prog_73_method_1_code 13 = .ok (.aload_n 0, 1) := by decide +kernel
theorem d6_14 : decode prog_73_method_1_code 14 = .ok (.bipush 16, 2) := by decide +kernel
theorem d6_16 : decode prog_73_method_1_code 16 = .ok (.anewarray 7, 3) := by decide +kernel
theorem d6_19 : decode prog_73_method_1_code 19 = .ok (.putfield 15, 3) := by decide +kernel
theorem d6_22 : decode prog_73_method_1_code 22 = .ok (.aload_n 0, 1) := by decide +kernel
theorem d6_23 : decode prog_73_method_1_code 23 = .ok (.bipush 16, 2) := by decide +kernel
theorem d6_25 : decode prog_73_method_1_code 25 = .ok (.newarray .int, 2) := by decide +kernel
theorem d6_27 : decode prog_73_method_1_code 27 = .ok (.putfield 18, 3) := by decide +kernel
theorem d6_30 : decode prog_73_method_1_code 30 = .ok (.return_, 1) := by decide +kernel
theorem pn_6 : plainName "com/example/stanzacall/stanzacall/xml/Namespaces" = true := by first | (simp [plainName, overriddenIn]; done) | decide +kernel
theorem ef_Ini (m : MethodId) (a1 : Addr) : entryFrame m #[(.ref a1)] 1 = mkF m 0 #[.val (.ref a1)] [] := by first | (simp [entryFrame, mkF, argsToLocals, Value.category]; done) | rfl
def QIni (Z : State) (a1 : Addr) (h0 : Heap) (n0 : Nat) (v : Option Value) (h : Heap) (L : List Loc) : Prop := ∃ pa : Addr, ∃ ua : Addr, ∃ sc : Addr, ∃ kp : ClassId, ∃ ku : ClassId, ∃ ks : ClassId, v = none ∧ Fr n0 L ∧ Keep h0 h [a1] ∧ Exa Z h a1 "com/example/stanzacall/stanzacall/xml/Namespaces" ∧ Fld Z h a1 "com/example/stanzacall/stanzacall/xml/Namespaces" "prefixes" "[Ljava/lang/String;" (.ref pa) ∧ Fld Z h a1 "com/example/stanzacall/stanzacall/xml/Namespaces" "uris" "[Ljava/lang/String;" (.ref ua) ∧ Fld Z h a1 "com/example/stanzacall/stanzacall/xml/Namespaces" "scopes" "[I" (.ref sc) ∧ Fld Z h a1 "com/example/stanzacall/stanzacall/xml/Namespaces" "depth" "I" (.int (0 : Int32)) ∧ Fld Z h a1 "com/example/stanzacall/stanzacall/xml/Namespaces" "count" "I" (.int (0 : Int32)) ∧ Arv Z h pa kp (.object "java/lang/String") (16 : Int32) [.null, .null, .null, .null, .null, .null, .null, .null, .null, .null, .null, .null, .null, .null, .null, .null] .null ∧ Arv Z h ua ku (.object "java/lang/String") (16 : Int32) [.null, .null, .null, .null, .null, .null, .null, .null, .null, .null, .null, .null, .null, .null, .null, .null] .null ∧ Arv Z h sc ks .int (16 : Int32) [(.int (0 : Int32)), (.int (0 : Int32)), (.int (0 : Int32)), (.int (0 : Int32)), (.int (0 : Int32)), (.int (0 : Int32)), (.int (0 : Int32)), (.int (0 : Int32)), (.int (0 : Int32)), (.int (0 : Int32)), (.int (0 : Int32)), (.int (0 : Int32)), (.int (0 : Int32)), (.int (0 : Int32)), (.int (0 : Int32)), (.int (0 : Int32))] (.int (0 : Int32)) ∧ h0.size ≤ pa ∧ h0.size ≤ ua ∧ h0.size ≤ sc ∧ pa ≠ ua ∧ pa ≠ sc ∧ ua ≠ sc ∧ Ovr Z kp "java/lang/String" ∧ Ovr Z ku "java/lang/String"
set_option maxRecDepth 65536 in
set_option maxHeartbeats 40000000 in
theorem rmIni (l : Launch) (Z : State) (a0 : Array Value) (hw : ∀ d ∈ tables_1, d.before a0 Z = true) (ws : List Jvm.Cond) (a1 : Addr) (h0 : Heap) (n0 : Nat) (Z0 : n0 ≤ h0.size) (pr0 : Exa Z h0 a1 "com/example/stanzacall/stanzacall/xml/Namespaces") (pr1 : n0 ≤ a1) (pr2 : Fld Z h0 a1 "com/example/stanzacall/stanzacall/xml/Namespaces" "prefixes" "[Ljava/lang/String;" .null) (pr3 : Fld Z h0 a1 "com/example/stanzacall/stanzacall/xml/Namespaces" "uris" "[Ljava/lang/String;" .null) (pr4 : Fld Z h0 a1 "com/example/stanzacall/stanzacall/xml/Namespaces" "scopes" "[I" .null) (pr5 : Fld Z h0 a1 "com/example/stanzacall/stanzacall/xml/Namespaces" "depth" "I" (.int (0 : Int32))) (pr6 : Fld Z h0 a1 "com/example/stanzacall/stanzacall/xml/Namespaces" "count" "I" (.int (0 : Int32))) :
    MetFree l (⟨"com/example/stanzacall/stanzacall/xml/Namespaces", "<init>", "()V"⟩ : MethodName) (head1 (Jvm.Cond.code (⟨"com/example/stanzacall/stanzacall/xml/Namespaces", "<init>", "()V"⟩ : MethodName) prog_73_method_1_code 1 none :: ws) ({ frames := 1, cells := 3, slots := 48, locals := 12 } : Room)) (fun a U => a = #[(.ref a1)] ∧ Z.Warmed39 U.vm ∧ U.heap = h0) (fun _ _ _ _ _ => True) (fun _ U o U' => ∃ v L, o = .returned v ∧ QIni Z a1 h0 n0 v U'.heap L ∧ FrameEnd U o U' L ({ frames := 1, cells := 3, slots := 48, locals := 12 } : Room).cells ({ frames := 1, cells := 3, slots := 48, locals := 12 } : Room).slots) := by
  refine MetFree.of_bodySF (plainFor_of_name pn_6) hisR ?_
  intro p e s m args below meth c s₁ Bd hml0 hP hK
  obtain ⟨rfl, hZ, hh⟩ := hP
  have hx := Bd.exec
  have hby := Bd.bytes
  have hml : c.maxLocals = 1 := hml0
  have hown : s.vm.findClass "com/example/stanzacall/stanzacall/xml/Namespaces" = some m.cls := findClass_of_methodNamed Bd.named
  have hnm := (name_of_methodNamed Bd.named Bd.method).1
  have X0 : Stand p l e ({ frames := 1, cells := 3, slots := 48, locals := 12 } : Room) s m #[(.ref a1)] below meth c s₁ [] 0 0 := Stand.of_body Bd
  have hs0 : h0 = s.heap := hh.symm
  have e0 : s₁.heap = h0 := by rw [← hh, Bd.state]; rfl
  have N0 := Fr.nil n0
  obtain ⟨f0, hf0⟩ : ∃ f, f = entryFrame m #[(.ref a1)] 1 := ⟨_, rfl⟩
  have pre0 : ∀ t, Steps p.tables e below (s₁.setTop f0) t → Steps p.tables e below (s₁.setTop (entryFrame m #[(.ref a1)] 1)) t := fun t k => hf0 ▸ k
  have K0 : Gx p e below s₁ f0 s₁ (mkF m 0 #[.val (.ref a1)] []) := fun t kt => by rw [hf0]; exact castTop (ef_Ini m a1) kt
  have K1 : Gx p e below s₁ f0 s₁ (mkF m 1 #[.val (.ref a1)] [(.ref a1)]) := fun t kt => K0 t (by
    show Steps p.tables e below (s₁.setTop (mkF m 0 #[.val (.ref a1)] [])) _
    refine XS.aloadN X0.here hx rfl (hb hby d6_0) rfl rfl ?_
    exact kt)
  obtain ⟨T2, X2, e2, st2⟩ := initO X0 hx hZ hown (hw _ (List.mem_of_getElem? (i := 32) rfl)) (hw _ (List.mem_of_getElem? (i := 20) rfl)) (hw _ (List.mem_of_getElem? (i := 21) rfl)) e0 (g := (mkF m 1 #[.val (.ref a1)] [(.ref a1)])) rfl (by rw [hml]; rfl) rfl (hb hby d6_1) (by decide) (W := 0) (by show 2 * 0 + _ ≤ _; exact Nat.le_of_eq rfl) (by decide)
  have K3 : Gx p e below s₁ f0 T2 (mkF m 4 #[.val (.ref a1)] []) := fun t kt => K1 t (st2 t kt)
  have K4 : Gx p e below s₁ f0 T2 (mkF m 7 #[.val (.ref a1)] [(.int (16 : Int32)), (.ref a1)]) := fun t kt => K3 t (by
    show Steps p.tables e below (T2.setTop (mkF m 4 #[.val (.ref a1)] [])) _
    refine XS.aloadN X2.here hx rfl (hb hby d6_4) rfl rfl ?_
    show Steps p.tables e below (T2.setTop (mkF m 5 #[.val (.ref a1)] [(.ref a1)])) _
    refine XS.bipush X2.here hx rfl (hb hby d6_5) ?_
    exact kt)
  obtain ⟨T5, h5, k5, X5, e5, E5, A5, O5, st5⟩ := newR X2 hx hZ hown (hw _ (List.mem_of_getElem? (i := 33) rfl)) (hw _ (List.mem_of_getElem? (i := 34) rfl)) e2 (g := (mkF m 7 #[.val (.ref a1)] [(.int (16 : Int32)), (.ref a1)])) rfl (hb hby d6_7) rfl (by decide) (cap := 16) (by decide) (by decide) (by decide) (by decide)
  obtain ⟨b5, g5⟩ : ∃ z, z = h0.size := ⟨_, rfl⟩
  rw [← g5] at A5 st5
  have V5 : Arv Z h5 b5 k5 (.object "java/lang/String") (16 : Int32) [.null, .null, .null, .null, .null, .null, .null, .null, .null, .null, .null, .null, .null, .null, .null, .null] .null := (Arv.new A5 (by decide)).pad (pad_rep [] .null 16)
  have K6 : Gx p e below s₁ f0 T5 (mkF m 10 #[.val (.ref a1)] [(.ref b5), (.ref a1)]) := fun t kt => K4 t (st5 t kt)
  have f7 : Fld Z h5 a1 "com/example/stanzacall/stanzacall/xml/Namespaces" "prefixes" "[Ljava/lang/String;" .null := (pr2.ext E5)
  have f8 : Exa Z h5 a1 "com/example/stanzacall/stanzacall/xml/Namespaces" := (pr0.ext E5)
  obtain ⟨T9, h9, X9', e9, W9, st9⟩ := putF X5 hx hZ hown (host := "") (Or.inl (hw _ (List.mem_of_getElem? (i := 35) rfl))) Via.refl e5 f7 f8 (Or.inl (hw _ (List.mem_of_getElem? (i := 36) rfl))) (hw _ (List.mem_of_getElem? (i := 27) rfl)) (ty := (.array (.object "java/lang/String"))) (by decide) rfl rfl (g := (mkF m 10 #[.val (.ref a1)] [(.ref b5), (.ref a1)])) rfl rfl (hb hby d6_10)
  obtain ⟨lc9, X9, N9⟩ : ∃ lc, Stand p l e ({ frames := 1, cells := 3, slots := 48, locals := 12 } : Room) s m #[(.ref a1)] below meth c T9 lc 1 16 ∧ Fr n0 lc := ⟨_, X9', Fr.snoc X9' N0 pr1⟩
  have f9_ : Fld Z h9 a1 "com/example/stanzacall/stanzacall/xml/Namespaces" "prefixes" "[Ljava/lang/String;" (.ref b5) := f7.same W9
  have K10 : Gx p e below s₁ f0 T9 (mkF m 13 #[.val (.ref a1)] []) := fun t kt => K6 t (st9 t kt)
  have K11 : Gx p e below s₁ f0 T9 (mkF m 16 #[.val (.ref a1)] [(.int (16 : Int32)), (.ref a1)]) := fun t kt => K10 t (by
    show Steps p.tables e below (T9.setTop (mkF m 13 #[.val (.ref a1)] [])) _
    refine XS.aloadN X9.here hx rfl (hb hby d6_13) rfl rfl ?_
    show Steps p.tables e below (T9.setTop (mkF m 14 #[.val (.ref a1)] [(.ref a1)])) _
    refine XS.bipush X9.here hx rfl (hb hby d6_14) ?_
    exact kt)
  obtain ⟨T12, h12, k12, X12, e12, E12, A12, O12, st12⟩ := newR X9 hx hZ hown (hw _ (List.mem_of_getElem? (i := 33) rfl)) (hw _ (List.mem_of_getElem? (i := 34) rfl)) e9 (g := (mkF m 16 #[.val (.ref a1)] [(.int (16 : Int32)), (.ref a1)])) rfl (hb hby d6_16) rfl (by decide) (cap := 16) (by decide) (by decide) (by decide) (by decide)
  obtain ⟨b12, g12⟩ : ∃ z, z = h9.size := ⟨_, rfl⟩
  rw [← g12] at A12 st12
  have V12 : Arv Z h12 b12 k12 (.object "java/lang/String") (16 : Int32) [.null, .null, .null, .null, .null, .null, .null, .null, .null, .null, .null, .null, .null, .null, .null, .null] .null := (Arv.new A12 (by decide)).pad (pad_rep [] .null 16)
  have K13 : Gx p e below s₁ f0 T12 (mkF m 19 #[.val (.ref a1)] [(.ref b12), (.ref a1)]) := fun t kt => K11 t (st12 t kt)
  have f14 : Fld Z h12 a1 "com/example/stanzacall/stanzacall/xml/Namespaces" "uris" "[Ljava/lang/String;" .null := (((pr3.ext E5).other W9 (Or.inr (slot_ne (Or.inl (hw _ (List.mem_of_getElem? (i := 38) rfl))) (Or.inl (hw _ (List.mem_of_getElem? (i := 36) rfl))) (by decide) (t := (.array (.object "java/lang/String"))) (t' := (.array (.object "java/lang/String"))) (by decide) (by decide)))).ext E12)
  have f15 : Exa Z h12 a1 "com/example/stanzacall/stanzacall/xml/Namespaces" := ((f8.wr W9).ext E12)
  obtain ⟨T16, h16, X16', e16, W16, st16⟩ := putF X12 hx hZ hown (host := "") (Or.inl (hw _ (List.mem_of_getElem? (i := 37) rfl))) Via.refl e12 f14 f15 (Or.inl (hw _ (List.mem_of_getElem? (i := 38) rfl))) (hw _ (List.mem_of_getElem? (i := 27) rfl)) (ty := (.array (.object "java/lang/String"))) (by decide) rfl rfl (g := (mkF m 19 #[.val (.ref a1)] [(.ref b12), (.ref a1)])) rfl rfl (hb hby d6_19)
  obtain ⟨lc16, X16, N16⟩ : ∃ lc, Stand p l e ({ frames := 1, cells := 3, slots := 48, locals := 12 } : Room) s m #[(.ref a1)] below meth c T16 lc 2 32 ∧ Fr n0 lc := ⟨_, X16', Fr.snoc X16' N9 pr1⟩
  have f16_ : Fld Z h16 a1 "com/example/stanzacall/stanzacall/xml/Namespaces" "uris" "[Ljava/lang/String;" (.ref b12) := f14.same W16
  have K17 : Gx p e below s₁ f0 T16 (mkF m 22 #[.val (.ref a1)] []) := fun t kt => K13 t (st16 t kt)
  have K18 : Gx p e below s₁ f0 T16 (mkF m 25 #[.val (.ref a1)] [(.int (16 : Int32)), (.ref a1)]) := fun t kt => K17 t (by
    show Steps p.tables e below (T16.setTop (mkF m 22 #[.val (.ref a1)] [])) _
    refine XS.aloadN X16.here hx rfl (hb hby d6_22) rfl rfl ?_
    show Steps p.tables e below (T16.setTop (mkF m 23 #[.val (.ref a1)] [(.ref a1)])) _
    refine XS.bipush X16.here hx rfl (hb hby d6_23) ?_
    exact kt)
  obtain ⟨T19, h19, k19, X19, e19, E19, A19, st19⟩ := newP X16 hx hZ (hw _ (List.mem_of_getElem? (i := 39) rfl)) e16 (g := (mkF m 25 #[.val (.ref a1)] [(.int (16 : Int32)), (.ref a1)])) rfl (hb hby d6_25) rfl (by decide) (cap := 16) (by decide) (by decide) (by decide) (by decide)
  obtain ⟨b19, g19⟩ : ∃ z, z = h16.size := ⟨_, rfl⟩
  rw [← g19] at A19 st19
  have V19 : Arv Z h19 b19 k19 .int (16 : Int32) [(.int (0 : Int32)), (.int (0 : Int32)), (.int (0 : Int32)), (.int (0 : Int32)), (.int (0 : Int32)), (.int (0 : Int32)), (.int (0 : Int32)), (.int (0 : Int32)), (.int (0 : Int32)), (.int (0 : Int32)), (.int (0 : Int32)), (.int (0 : Int32)), (.int (0 : Int32)), (.int (0 : Int32)), (.int (0 : Int32)), (.int (0 : Int32))] (.int (0 : Int32)) := (Arv.new A19 (by decide)).pad (pad_rep [] (.int (0 : Int32)) 16)
  have K20 : Gx p e below s₁ f0 T19 (mkF m 27 #[.val (.ref a1)] [(.ref b19), (.ref a1)]) := fun t kt => K18 t (st19 t kt)
  have f21 : Fld Z h19 a1 "com/example/stanzacall/stanzacall/xml/Namespaces" "scopes" "[I" .null := (((((pr4.ext E5).other W9 (Or.inr (slot_ne (Or.inl (hw _ (List.mem_of_getElem? (i := 41) rfl))) (Or.inl (hw _ (List.mem_of_getElem? (i := 36) rfl))) (by decide) (t := (.array .int)) (t' := (.array (.object "java/lang/String"))) (by decide) (by decide)))).ext E12).other W16 (Or.inr (slot_ne (Or.inl (hw _ (List.mem_of_getElem? (i := 41) rfl))) (Or.inl (hw _ (List.mem_of_getElem? (i := 38) rfl))) (by decide) (t := (.array .int)) (t' := (.array (.object "java/lang/String"))) (by decide) (by decide)))).ext E19)
  have f22 : Exa Z h19 a1 "com/example/stanzacall/stanzacall/xml/Namespaces" := ((f15.wr W16).ext E19)
  obtain ⟨T23, h23, X23', e23, W23, st23⟩ := putF X19 hx hZ hown (host := "") (Or.inl (hw _ (List.mem_of_getElem? (i := 40) rfl))) Via.refl e19 f21 f22 (Or.inl (hw _ (List.mem_of_getElem? (i := 41) rfl))) (hw _ (List.mem_of_getElem? (i := 27) rfl)) (ty := (.array .int)) (by decide) rfl rfl (g := (mkF m 27 #[.val (.ref a1)] [(.ref b19), (.ref a1)])) rfl rfl (hb hby d6_27)
  obtain ⟨lc23, X23, N23⟩ : ∃ lc, Stand p l e ({ frames := 1, cells := 3, slots := 48, locals := 12 } : Room) s m #[(.ref a1)] below meth c T23 lc 3 48 ∧ Fr n0 lc := ⟨_, X23', Fr.snoc X23' N16 pr1⟩
  have f23_ : Fld Z h23 a1 "com/example/stanzacall/stanzacall/xml/Namespaces" "scopes" "[I" (.ref b19) := f21.same W23
  have K24 : Gx p e below s₁ f0 T23 (mkF m 30 #[.val (.ref a1)] []) := fun t kt => K20 t (st23 t kt)
  have f26 : Fld Z h23 a1 "com/example/stanzacall/stanzacall/xml/Namespaces" "prefixes" "[Ljava/lang/String;" (.ref b5) := ((((f9_.ext E12).other W16 (Or.inr (slot_ne (Or.inl (hw _ (List.mem_of_getElem? (i := 36) rfl))) (Or.inl (hw _ (List.mem_of_getElem? (i := 38) rfl))) (by decide) (t := (.array (.object "java/lang/String"))) (t' := (.array (.object "java/lang/String"))) (by decide) (by decide)))).ext E19).other W23 (Or.inr (slot_ne (Or.inl (hw _ (List.mem_of_getElem? (i := 36) rfl))) (Or.inl (hw _ (List.mem_of_getElem? (i := 41) rfl))) (by decide) (t := (.array (.object "java/lang/String"))) (t' := (.array .int)) (by decide) (by decide))))
  have f27 : Fld Z h23 a1 "com/example/stanzacall/stanzacall/xml/Namespaces" "uris" "[Ljava/lang/String;" (.ref b12) := ((f16_.ext E19).other W23 (Or.inr (slot_ne (Or.inl (hw _ (List.mem_of_getElem? (i := 38) rfl))) (Or.inl (hw _ (List.mem_of_getElem? (i := 41) rfl))) (by decide) (t := (.array (.object "java/lang/String"))) (t' := (.array .int)) (by decide) (by decide))))
  have f28 : Arv Z h23 b5 k5 (.object "java/lang/String") (16 : Int32) [.null, .null, .null, .null, .null, .null, .null, .null, .null, .null, .null, .null, .null, .null, .null, .null] .null := (((((V5.other W9 (Ne.symm (Nat.ne_of_lt (Nat.lt_of_lt_of_le pr0.lt (Nat.le_of_eq g5.symm))))).ext E12).other W16 (Ne.symm (Nat.ne_of_lt (Nat.lt_of_lt_of_le pr0.lt (Nat.le_of_eq g5.symm))))).ext E19).other W23 (Ne.symm (Nat.ne_of_lt (Nat.lt_of_lt_of_le pr0.lt (Nat.le_of_eq g5.symm)))))
  have f29 : Arv Z h23 b12 k12 (.object "java/lang/String") (16 : Int32) [.null, .null, .null, .null, .null, .null, .null, .null, .null, .null, .null, .null, .null, .null, .null, .null] .null := (((V12.other W16 (Ne.symm (Nat.ne_of_lt (Nat.lt_of_lt_of_le f9_.lt (Nat.le_of_eq g12.symm))))).ext E19).other W23 (Ne.symm (Nat.ne_of_lt (Nat.lt_of_lt_of_le f9_.lt (Nat.le_of_eq g12.symm)))))
  have f30 : Arv Z h23 b19 k19 .int (16 : Int32) [(.int (0 : Int32)), (.int (0 : Int32)), (.int (0 : Int32)), (.int (0 : Int32)), (.int (0 : Int32)), (.int (0 : Int32)), (.int (0 : Int32)), (.int (0 : Int32)), (.int (0 : Int32)), (.int (0 : Int32)), (.int (0 : Int32)), (.int (0 : Int32)), (.int (0 : Int32)), (.int (0 : Int32)), (.int (0 : Int32)), (.int (0 : Int32))] (.int (0 : Int32)) := (V19.other W23 (Ne.symm (Nat.ne_of_lt (Nat.lt_of_lt_of_le f16_.lt (Nat.le_of_eq g19.symm)))))
  have kp31 : Keep h0 h23 [a1] := (((((((Keep.refl h0 [a1]).ext E5).wr W9 (Or.inl (List.mem_of_getElem? (i := 0) rfl))).ext E12).wr W16 (Or.inl (List.mem_of_getElem? (i := 0) rfl))).ext E19).wr W23 (Or.inl (List.mem_of_getElem? (i := 0) rfl)))
  have f32 : Exa Z h23 a1 "com/example/stanzacall/stanzacall/xml/Namespaces" := (f22.wr W23)
  have f33 : Fld Z h23 a1 "com/example/stanzacall/stanzacall/xml/Namespaces" "depth" "I" (.int (0 : Int32)) := ((((((pr5.ext E5).other W9 (Or.inr (slot_ne (Or.inl (hw _ (List.mem_of_getElem? (i := 48) rfl))) (Or.inl (hw _ (List.mem_of_getElem? (i := 36) rfl))) (by decide) (t := .int) (t' := (.array (.object "java/lang/String"))) (by decide) (by decide)))).ext E12).other W16 (Or.inr (slot_ne (Or.inl (hw _ (List.mem_of_getElem? (i := 48) rfl))) (Or.inl (hw _ (List.mem_of_getElem? (i := 38) rfl))) (by decide) (t := .int) (t' := (.array (.object "java/lang/String"))) (by decide) (by decide)))).ext E19).other W23 (Or.inr (slot_ne (Or.inl (hw _ (List.mem_of_getElem? (i := 48) rfl))) (Or.inl (hw _ (List.mem_of_getElem? (i := 41) rfl))) (by decide) (t := .int) (t' := (.array .int)) (by decide) (by decide))))
  have f34 : Fld Z h23 a1 "com/example/stanzacall/stanzacall/xml/Namespaces" "count" "I" (.int (0 : Int32)) := ((((((pr6.ext E5).other W9 (Or.inr (slot_ne (Or.inl (hw _ (List.mem_of_getElem? (i := 50) rfl))) (Or.inl (hw _ (List.mem_of_getElem? (i := 36) rfl))) (by decide) (t := .int) (t' := (.array (.object "java/lang/String"))) (by decide) (by decide)))).ext E12).other W16 (Or.inr (slot_ne (Or.inl (hw _ (List.mem_of_getElem? (i := 50) rfl))) (Or.inl (hw _ (List.mem_of_getElem? (i := 38) rfl))) (by decide) (t := .int) (t' := (.array (.object "java/lang/String"))) (by decide) (by decide)))).ext E19).other W23 (Or.inr (slot_ne (Or.inl (hw _ (List.mem_of_getElem? (i := 50) rfl))) (Or.inl (hw _ (List.mem_of_getElem? (i := 41) rfl))) (by decide) (t := .int) (t' := (.array .int)) (by decide) (by decide))))
  obtain ⟨fs25, hr25, hrun25, hended25, hW25, hsame25⟩ := X23.leave (v := none) (fun _ => rfl)
  refine ⟨_, _, pre0 _ (K24 _ ?_), hrun25, hended25, _, _, rfl, ?_, ⟨_, rfl⟩, hW25, hsame25.mono (by decide) (by decide)⟩
  · exact X23.returnOut hx Bd.returns (hb hby d6_30) hr25
  · show QIni Z a1 h0 n0 _ T23.heap _
    rw [e23]
    exact ⟨b5, b12, b19, k5, k12, k19, rfl, N23, kp31, f32, f26, f27, f23_, f33, f34, f28, f29, f30, (Nat.le_trans (Keep.refl h0 [a1]).1 (Nat.le_of_eq g5.symm)), (Nat.le_trans (((Keep.refl h0 [a1]).ext E5).wr W9 (Or.inl (List.mem_of_getElem? (i := 0) rfl))).1 (Nat.le_of_eq g12.symm)), (Nat.le_trans (((((Keep.refl h0 [a1]).ext E5).wr W9 (Or.inl (List.mem_of_getElem? (i := 0) rfl))).ext E12).wr W16 (Or.inl (List.mem_of_getElem? (i := 0) rfl))).1 (Nat.le_of_eq g19.symm)), (Nat.ne_of_lt (Nat.lt_of_lt_of_le (V5.other W9 (Ne.symm (Nat.ne_of_lt (Nat.lt_of_lt_of_le pr0.lt (Nat.le_of_eq g5.symm))))).lt (Nat.le_of_eq g12.symm))), (Nat.ne_of_lt (Nat.lt_of_lt_of_le (((V5.other W9 (Ne.symm (Nat.ne_of_lt (Nat.lt_of_lt_of_le pr0.lt (Nat.le_of_eq g5.symm))))).ext E12).other W16 (Ne.symm (Nat.ne_of_lt (Nat.lt_of_lt_of_le pr0.lt (Nat.le_of_eq g5.symm))))).lt (Nat.le_of_eq g19.symm))), (Nat.ne_of_lt (Nat.lt_of_lt_of_le (V12.other W16 (Ne.symm (Nat.ne_of_lt (Nat.lt_of_lt_of_le f9_.lt (Nat.le_of_eq g12.symm))))).lt (Nat.le_of_eq g19.symm))), O5, O12⟩
theorem d7_0 : decode prog_73_method_2_code 0 = .ok (.aload_n 0, 1) := by decide +kernel
theorem d7_1 : decode prog_73_method_2_code 1 = .ok (.getfield 22, 3) := by decide +kernel
theorem d7_4 : decode prog_73_method_2_code 4 = .ok (.aload_n 0, 1) := by decide +kernel
theorem d7_5 : decode prog_73_method_2_code 5 = .ok (.getfield 18, 3) := by decide +kernel
theorem d7_8 : decode prog_73_method_2_code 8 = .ok (.arraylength, 1) := by decide +kernel
theorem d7_9 : decode prog_73_method_2_code 9 = .ok (.if_icmp .ne 20, 3) := by decide +kernel
theorem d7_29 : decode prog_73_method_2_code 29 = .ok (.aload_n 0, 1) := by decide +kernel
theorem d7_30 : decode prog_73_method_2_code 30 = .ok (.getfield 18, 3) := by decide +kernel
theorem d7_33 : decode prog_73_method_2_code 33 = .ok (.aload_n 0, 1) := by decide +kernel
theorem d7_34 : decode prog_73_method_2_code 34 = .ok (.dup, 1) := by decide +kernel
theorem d7_35 : decode prog_73_method_2_code 35 = .ok (.getfield 22, 3) := by decide +kernel
theorem d7_38 : decode prog_73_method_2_code 38 = .ok (.dup_x1, 1) := by decide +kernel
theorem d7_39 : decode prog_73_method_2_code 39 = .ok (.iconst 1, 1) := by decide +kernel
theorem d7_40 : decode prog_73_method_2_code 40 = .ok (.iadd, 1) := by decide +kernel
theorem d7_41 : decode prog_73_method_2_code 41 = .ok (.putfield 22, 3) := by decide +kernel
theorem d7_44 : decode prog_73_method_2_code 44 = .ok (.aload_n 0, 1) := by decide +kernel
theorem d7_45 : decode prog_73_method_2_code 45 = .ok (.getfield 32, 3) := by decide +kernel
theorem d7_48 : decode prog_73_method_2_code 48 = .ok (.iastore, 1) := by decide +kernel
theorem d7_49 : decode prog_73_method_2_code 49 = .ok (.return_, 1) := by decide +kernel
theorem pn_7 : plainName "com/example/stanzacall/stanzacall/xml/Namespaces" = true := by first | (simp [plainName, overriddenIn]; done) | decide +kernel
theorem ef_Open0 (m : MethodId) (a1 : Addr) : entryFrame m #[(.ref a1)] 1 = mkF m 0 #[.val (.ref a1)] [] := by first | (simp [entryFrame, mkF, argsToLocals, Value.category]; done) | rfl
def QOpen0 (Z : State) (a1 : Addr) (pa : Addr) (ua : Addr) (sc : Addr) (ks : ClassId) (h0 : Heap) (n0 : Nat) (v : Option Value) (h : Heap) (L : List Loc) : Prop := v = none ∧ Fr n0 L ∧ Keep h0 h [a1, sc] ∧ Exa Z h a1 "com/example/stanzacall/stanzacall/xml/Namespaces" ∧ Fld Z h a1 "com/example/stanzacall/stanzacall/xml/Namespaces" "prefixes" "[Ljava/lang/String;" (.ref pa) ∧ Fld Z h a1 "com/example/stanzacall/stanzacall/xml/Namespaces" "uris" "[Ljava/lang/String;" (.ref ua) ∧ Fld Z h a1 "com/example/stanzacall/stanzacall/xml/Namespaces" "scopes" "[I" (.ref sc) ∧ Fld Z h a1 "com/example/stanzacall/stanzacall/xml/Namespaces" "depth" "I" (.int (1 : Int32)) ∧ Fld Z h a1 "com/example/stanzacall/stanzacall/xml/Namespaces" "count" "I" (.int (0 : Int32)) ∧ Arv Z h sc ks .int (16 : Int32) [(.int (0 : Int32)), (.int (0 : Int32)), (.int (0 : Int32)), (.int (0 : Int32)), (.int (0 : Int32)), (.int (0 : Int32)), (.int (0 : Int32)), (.int (0 : Int32)), (.int (0 : Int32)), (.int (0 : Int32)), (.int (0 : Int32)), (.int (0 : Int32)), (.int (0 : Int32)), (.int (0 : Int32)), (.int (0 : Int32)), (.int (0 : Int32))] (.int (0 : Int32))
set_option maxRecDepth 65536 in
set_option maxHeartbeats 40000000 in
theorem rmOpen0 (l : Launch) (Z : State) (a0 : Array Value) (hw : ∀ d ∈ tables_1, d.before a0 Z = true) (ws : List Jvm.Cond) (a1 : Addr) (pa : Addr) (ua : Addr) (sc : Addr) (ks : ClassId) (h0 : Heap) (n0 : Nat) (Z0 : n0 ≤ h0.size) (pr0 : Exa Z h0 a1 "com/example/stanzacall/stanzacall/xml/Namespaces") (pr1 : Fld Z h0 a1 "com/example/stanzacall/stanzacall/xml/Namespaces" "prefixes" "[Ljava/lang/String;" (.ref pa)) (pr2 : Fld Z h0 a1 "com/example/stanzacall/stanzacall/xml/Namespaces" "uris" "[Ljava/lang/String;" (.ref ua)) (pr3 : Fld Z h0 a1 "com/example/stanzacall/stanzacall/xml/Namespaces" "scopes" "[I" (.ref sc)) (pr4 : Fld Z h0 a1 "com/example/stanzacall/stanzacall/xml/Namespaces" "depth" "I" (.int (0 : Int32))) (pr5 : Fld Z h0 a1 "com/example/stanzacall/stanzacall/xml/Namespaces" "count" "I" (.int (0 : Int32))) (pr6 : Arv Z h0 sc ks .int (16 : Int32) [(.int (0 : Int32)), (.int (0 : Int32)), (.int (0 : Int32)), (.int (0 : Int32)), (.int (0 : Int32)), (.int (0 : Int32)), (.int (0 : Int32)), (.int (0 : Int32)), (.int (0 : Int32)), (.int (0 : Int32)), (.int (0 : Int32)), (.int (0 : Int32)), (.int (0 : Int32)), (.int (0 : Int32)), (.int (0 : Int32)), (.int (0 : Int32))] (.int (0 : Int32))) (pr7 : n0 ≤ a1) (pr8 : n0 ≤ sc) (pr9 : a1 ≠ sc) :
    MetFree l (⟨"com/example/stanzacall/stanzacall/xml/Namespaces", "open", "()V"⟩ : MethodName) (head1 (Jvm.Cond.code (⟨"com/example/stanzacall/stanzacall/xml/Namespaces", "open", "()V"⟩ : MethodName) prog_73_method_2_code 1 none :: ws) ({ frames := 0, cells := 0, slots := 0, locals := 0 } : Room)) (fun a U => a = #[(.ref a1)] ∧ Z.Warmed39 U.vm ∧ U.heap = h0) (fun _ _ _ _ _ => True) (fun _ U o U' => ∃ v L, o = .returned v ∧ QOpen0 Z a1 pa ua sc ks h0 n0 v U'.heap L ∧ FrameEnd U o U' L ({ frames := 0, cells := 0, slots := 0, locals := 0 } : Room).cells ({ frames := 0, cells := 0, slots := 0, locals := 0 } : Room).slots) := by
  refine MetFree.of_bodySF (plainFor_of_name pn_7) hisR ?_
  intro p e s m args below meth c s₁ Bd hml0 hP hK
  obtain ⟨rfl, hZ, hh⟩ := hP
  have hx := Bd.exec
  have hby := Bd.bytes
  have hml : c.maxLocals = 1 := hml0
  have hown : s.vm.findClass "com/example/stanzacall/stanzacall/xml/Namespaces" = some m.cls := findClass_of_methodNamed Bd.named
  have hnm := (name_of_methodNamed Bd.named Bd.method).1
  have X0 : Stand p l e ({ frames := 0, cells := 0, slots := 0, locals := 0 } : Room) s m #[(.ref a1)] below meth c s₁ [] 0 0 := Stand.of_body Bd
  have hs0 : h0 = s.heap := hh.symm
  have e0 : s₁.heap = h0 := by rw [← hh, Bd.state]; rfl
  have N0 := Fr.nil n0
  obtain ⟨f0, hf0⟩ : ∃ f, f = entryFrame m #[(.ref a1)] 1 := ⟨_, rfl⟩
  have pre0 : ∀ t, Steps p.tables e below (s₁.setTop f0) t → Steps p.tables e below (s₁.setTop (entryFrame m #[(.ref a1)] 1)) t := fun t k => hf0 ▸ k
  have K0 : Gx p e below s₁ f0 s₁ (mkF m 0 #[.val (.ref a1)] []) := fun t kt => by rw [hf0]; exact castTop (ef_Open0 m a1) kt
  have K1 : Gx p e below s₁ f0 s₁ (mkF m 1 #[.val (.ref a1)] [(.ref a1)]) := fun t kt => K0 t (by
    show Steps p.tables e below (s₁.setTop (mkF m 0 #[.val (.ref a1)] [])) _
    refine XS.aloadN X0.here hx rfl (hb hby d7_0) rfl rfl ?_
    exact kt)
  obtain ⟨T2, X2, e2, st2⟩ := getF X0 hx hZ hown (host := "") (Or.inl (hw _ (List.mem_of_getElem? (i := 47) rfl))) Via.refl e0 pr4 (g := (mkF m 1 #[.val (.ref a1)] [(.ref a1)])) rfl rfl (hb hby d7_1)
  have K3 : Gx p e below s₁ f0 T2 (mkF m 4 #[.val (.ref a1)] [(.int (0 : Int32))]) := fun t kt => K1 t (st2 t kt)
  have K4 : Gx p e below s₁ f0 T2 (mkF m 5 #[.val (.ref a1)] [(.ref a1), (.int (0 : Int32))]) := fun t kt => K3 t (by
    show Steps p.tables e below (T2.setTop (mkF m 4 #[.val (.ref a1)] [(.int (0 : Int32))])) _
    refine XS.aloadN X2.here hx rfl (hb hby d7_4) rfl rfl ?_
    exact kt)
  obtain ⟨T5, X5, e5, st5⟩ := getF X2 hx hZ hown (host := "") (Or.inl (hw _ (List.mem_of_getElem? (i := 40) rfl))) Via.refl e2 pr3 (g := (mkF m 5 #[.val (.ref a1)] [(.ref a1), (.int (0 : Int32))])) rfl rfl (hb hby d7_5)
  have K6 : Gx p e below s₁ f0 T5 (mkF m 8 #[.val (.ref a1)] [(.ref sc), (.int (0 : Int32))]) := fun t kt => K4 t (st5 t kt)
  obtain ⟨clq7, Arq7, ckq7, cSq7, cNq7, cHq7, cGq7⟩ := id pr6
  have K8 : Gx p e below s₁ f0 T5 (mkF m 30 #[.val (.ref a1)] [(.ref a1)]) := fun t kt => K6 t (by
    show Steps p.tables e below (T5.setTop (mkF m 8 #[.val (.ref a1)] [(.ref sc), (.int (0 : Int32))])) _
    refine X5.arraylength hx (by rw [e5]; exact Arq7.1) (State.isArrayOf_alike hZ.alike Arq7.2.1) (g := (mkF m 8 #[.val (.ref a1)] [(.ref sc), (.int (0 : Int32))])) rfl rfl (hb hby d7_8) _ ?_
    rw [len_of cSq7 cNq7]
    show Steps p.tables e below (T5.setTop (mkF m 9 #[.val (.ref a1)] [(.int (16 : Int32)), (.int (0 : Int32))])) _
    refine XS.icmpYes X5.here hx rfl (pc0 := 9) (pc' := 29) rfl (hb hby d7_9) rfl (feq (by decide)).2 (by decide) (by decide) ?_
    show Steps p.tables e below (T5.setTop (mkF m 29 #[.val (.ref a1)] [])) _
    refine XS.aloadN X5.here hx rfl (hb hby d7_29) rfl rfl ?_
    exact kt)
  obtain ⟨T9, X9, e9, st9⟩ := getF X5 hx hZ hown (host := "") (Or.inl (hw _ (List.mem_of_getElem? (i := 40) rfl))) Via.refl e5 pr3 (g := (mkF m 30 #[.val (.ref a1)] [(.ref a1)])) rfl rfl (hb hby d7_30)
  have K10 : Gx p e below s₁ f0 T9 (mkF m 33 #[.val (.ref a1)] [(.ref sc)]) := fun t kt => K8 t (st9 t kt)
  have K11 : Gx p e below s₁ f0 T9 (mkF m 35 #[.val (.ref a1)] [(.ref a1), (.ref a1), (.ref sc)]) := fun t kt => K10 t (by
    show Steps p.tables e below (T9.setTop (mkF m 33 #[.val (.ref a1)] [(.ref sc)])) _
    refine XS.aloadN X9.here hx rfl (hb hby d7_33) rfl rfl ?_
    show Steps p.tables e below (T9.setTop (mkF m 34 #[.val (.ref a1)] [(.ref a1), (.ref sc)])) _
    refine XS.dup X9.here hx rfl (hb hby d7_34) rfl rfl ?_
    exact kt)
  obtain ⟨T12, X12, e12, st12⟩ := getF X9 hx hZ hown (host := "") (Or.inl (hw _ (List.mem_of_getElem? (i := 47) rfl))) Via.refl e9 pr4 (g := (mkF m 35 #[.val (.ref a1)] [(.ref a1), (.ref a1), (.ref sc)])) rfl rfl (hb hby d7_35)
  have K13 : Gx p e below s₁ f0 T12 (mkF m 38 #[.val (.ref a1)] [(.int (0 : Int32)), (.ref a1), (.ref sc)]) := fun t kt => K11 t (st12 t kt)
  have K14 : Gx p e below s₁ f0 T12 (mkF m 41 #[.val (.ref a1)] [(.int (1 : Int32)), (.ref a1), (.int (0 : Int32)), (.ref sc)]) := fun t kt => K13 t (by
    show Steps p.tables e below (T12.setTop (mkF m 38 #[.val (.ref a1)] [(.int (0 : Int32)), (.ref a1), (.ref sc)])) _
    refine XS.dupX1 X12.here hx rfl (hb hby d7_38) rfl rfl rfl ?_
    show Steps p.tables e below (T12.setTop (mkF m 39 #[.val (.ref a1)] [(.int (0 : Int32)), (.ref a1), (.int (0 : Int32)), (.ref sc)])) _
    refine XS.iconst X12.here hx rfl (hb hby d7_39) ?_
    show Steps p.tables e below (T12.setTop (mkF m 40 #[.val (.ref a1)] [(.int (1 : Int32)), (.int (0 : Int32)), (.ref a1), (.int (0 : Int32)), (.ref sc)])) _
    refine XS.iadd X12.here hx rfl (hb hby d7_40) rfl ?_
    exact kt)
  obtain ⟨T15, h15, X15', e15, W15, st15⟩ := putF X12 hx hZ hown (host := "") (Or.inl (hw _ (List.mem_of_getElem? (i := 47) rfl))) Via.refl e12 pr4 pr0 (Or.inl (hw _ (List.mem_of_getElem? (i := 48) rfl))) (hw _ (List.mem_of_getElem? (i := 27) rfl)) (ty := .int) (by decide) rfl rfl (g := (mkF m 41 #[.val (.ref a1)] [(.int (1 : Int32)), (.ref a1), (.int (0 : Int32)), (.ref sc)])) rfl rfl (hb hby d7_41)
  obtain ⟨lc15, X15, N15⟩ : ∃ lc, Stand p l e ({ frames := 0, cells := 0, slots := 0, locals := 0 } : Room) s m #[(.ref a1)] below meth c T15 lc 0 0 ∧ Fr n0 lc := ⟨_, X15', Fr.snoc X15' N0 pr7⟩
  have f15_ : Fld Z h15 a1 "com/example/stanzacall/stanzacall/xml/Namespaces" "depth" "I" (.int (1 : Int32)) := pr4.same W15
  have K16 : Gx p e below s₁ f0 T15 (mkF m 44 #[.val (.ref a1)] [(.int (0 : Int32)), (.ref sc)]) := fun t kt => K14 t (st15 t kt)
  have K17 : Gx p e below s₁ f0 T15 (mkF m 45 #[.val (.ref a1)] [(.ref a1), (.int (0 : Int32)), (.ref sc)]) := fun t kt => K16 t (by
    show Steps p.tables e below (T15.setTop (mkF m 44 #[.val (.ref a1)] [(.int (0 : Int32)), (.ref sc)])) _
    refine XS.aloadN X15.here hx rfl (hb hby d7_44) rfl rfl ?_
    exact kt)
  have f18 : Fld Z h15 a1 "com/example/stanzacall/stanzacall/xml/Namespaces" "count" "I" (.int (0 : Int32)) := (pr5.other W15 (Or.inr (slot_ne (Or.inl (hw _ (List.mem_of_getElem? (i := 50) rfl))) (Or.inl (hw _ (List.mem_of_getElem? (i := 48) rfl))) (by decide) (t := .int) (t' := .int) (by decide) (by decide))))
  obtain ⟨T19, X19, e19, st19⟩ := getF X15 hx hZ hown (host := "") (Or.inl (hw _ (List.mem_of_getElem? (i := 49) rfl))) Via.refl e15 f18 (g := (mkF m 45 #[.val (.ref a1)] [(.ref a1), (.int (0 : Int32)), (.ref sc)])) rfl rfl (hb hby d7_45)
  have K20 : Gx p e below s₁ f0 T19 (mkF m 48 #[.val (.ref a1)] [(.int (0 : Int32)), (.int (0 : Int32)), (.ref sc)]) := fun t kt => K17 t (st19 t kt)
  have f21 : Arv Z h15 sc ks .int (16 : Int32) [(.int (0 : Int32)), (.int (0 : Int32)), (.int (0 : Int32)), (.int (0 : Int32)), (.int (0 : Int32)), (.int (0 : Int32)), (.int (0 : Int32)), (.int (0 : Int32)), (.int (0 : Int32)), (.int (0 : Int32)), (.int (0 : Int32)), (.int (0 : Int32)), (.int (0 : Int32)), (.int (0 : Int32)), (.int (0 : Int32)), (.int (0 : Int32))] (.int (0 : Int32)) := (pr6.other W15 (Ne.symm pr9))
  obtain ⟨clq22, Arq22, ckq22, cSq22, cNq22, cHq22, cGq22⟩ := id f21
  obtain ⟨T23, h23, X23', e23, W23, st23⟩ := stI X19 hx hZ e19 Arq22 (j := (0 : Int32)) (inb_of cSq22 ⟨by decide, by decide⟩) (g := (mkF m 48 #[.val (.ref a1)] [(.int (0 : Int32)), (.int (0 : Int32)), (.ref sc)])) rfl rfl (hb hby d7_48)
  obtain ⟨lc23, X23, N23⟩ : ∃ lc, Stand p l e ({ frames := 0, cells := 0, slots := 0, locals := 0 } : Room) s m #[(.ref a1)] below meth c T23 lc 0 0 ∧ Fr n0 lc := ⟨_, X23', Fr.snoc X23' N15 pr8⟩
  have V23 : Arv Z h23 sc ks .int (16 : Int32) [(.int (0 : Int32)), (.int (0 : Int32)), (.int (0 : Int32)), (.int (0 : Int32)), (.int (0 : Int32)), (.int (0 : Int32)), (.int (0 : Int32)), (.int (0 : Int32)), (.int (0 : Int32)), (.int (0 : Int32)), (.int (0 : Int32)), (.int (0 : Int32)), (.int (0 : Int32)), (.int (0 : Int32)), (.int (0 : Int32)), (.int (0 : Int32))] (.int (0 : Int32)) := Arv.set Arq22 ckq22 cSq22 cNq22 cHq22 cGq22 rfl W23 0 rfl (Nat.le_of_ble_eq_true rfl)
  have K24 : Gx p e below s₁ f0 T23 (mkF m 49 #[.val (.ref a1)] []) := fun t kt => K20 t (st23 t kt)
  have kp26 : Keep h0 h23 [a1, sc] := (((Keep.refl h0 [a1, sc]).wr W15 (Or.inl (List.mem_of_getElem? (i := 0) rfl))).wr W23 (Or.inl (List.mem_of_getElem? (i := 1) rfl)))
  have f27 : Exa Z h23 a1 "com/example/stanzacall/stanzacall/xml/Namespaces" := ((pr0.wr W15).wr W23)
  have f28 : Fld Z h23 a1 "com/example/stanzacall/stanzacall/xml/Namespaces" "prefixes" "[Ljava/lang/String;" (.ref pa) := ((pr1.other W15 (Or.inr (slot_ne (Or.inl (hw _ (List.mem_of_getElem? (i := 36) rfl))) (Or.inl (hw _ (List.mem_of_getElem? (i := 48) rfl))) (by decide) (t := (.array (.object "java/lang/String"))) (t' := .int) (by decide) (by decide)))).other W23 (Or.inl pr9))
  have f29 : Fld Z h23 a1 "com/example/stanzacall/stanzacall/xml/Namespaces" "uris" "[Ljava/lang/String;" (.ref ua) := ((pr2.other W15 (Or.inr (slot_ne (Or.inl (hw _ (List.mem_of_getElem? (i := 38) rfl))) (Or.inl (hw _ (List.mem_of_getElem? (i := 48) rfl))) (by decide) (t := (.array (.object "java/lang/String"))) (t' := .int) (by decide) (by decide)))).other W23 (Or.inl pr9))
  have f30 : Fld Z h23 a1 "com/example/stanzacall/stanzacall/xml/Namespaces" "scopes" "[I" (.ref sc) := ((pr3.other W15 (Or.inr (slot_ne (Or.inl (hw _ (List.mem_of_getElem? (i := 41) rfl))) (Or.inl (hw _ (List.mem_of_getElem? (i := 48) rfl))) (by decide) (t := (.array .int)) (t' := .int) (by decide) (by decide)))).other W23 (Or.inl pr9))
  have f31 : Fld Z h23 a1 "com/example/stanzacall/stanzacall/xml/Namespaces" "depth" "I" (.int (1 : Int32)) := (f15_.other W23 (Or.inl pr9))
  have f32 : Fld Z h23 a1 "com/example/stanzacall/stanzacall/xml/Namespaces" "count" "I" (.int (0 : Int32)) := (f18.other W23 (Or.inl pr9))
  obtain ⟨fs25, hr25, hrun25, hended25, hW25, hsame25⟩ := X23.leave (v := none) (fun _ => rfl)
  refine ⟨_, _, pre0 _ (K24 _ ?_), hrun25, hended25, _, _, rfl, ?_, ⟨_, rfl⟩, hW25, hsame25.mono (by decide) (by decide)⟩
  · exact X23.returnOut hx Bd.returns (hb hby d7_49) hr25
  · show QOpen0 Z a1 pa ua sc ks h0 n0 _ T23.heap _
    rw [e23]
    exact ⟨rfl, N23, kp26, f27, f28, f29, f30, f31, f32, V23⟩
theorem ef_Open1 (m : MethodId) (a1 : Addr) : entryFrame m #[(.ref a1)] 1 = mkF m 0 #[.val (.ref a1)] [] := by first | (simp [entryFrame, mkF, argsToLocals, Value.category]; done) | rfl
def QOpen1 (Z : State) (a1 : Addr) (pa : Addr) (ua : Addr) (sc : Addr) (ks : ClassId) (h0 : Heap) (n0 : Nat) (v : Option Value) (h : Heap) (L : List Loc) : Prop := v = none ∧ Fr n0 L ∧ Keep h0 h [a1, sc] ∧ Exa Z h a1 "com/example/stanzacall/stanzacall/xml/Namespaces" ∧ Fld Z h a1 "com/example/stanzacall/stanzacall/xml/Namespaces" "prefixes" "[Ljava/lang/String;" (.ref pa) ∧ Fld Z h a1 "com/example/stanzacall/stanzacall/xml/Namespaces" "uris" "[Ljava/lang/String;" (.ref ua) ∧ Fld Z h a1 "com/example/stanzacall/stanzacall/xml/Namespaces" "scopes" "[I" (.ref sc) ∧ Fld Z h a1 "com/example/stanzacall/stanzacall/xml/Namespaces" "depth" "I" (.int (2 : Int32)) ∧ Fld Z h a1 "com/example/stanzacall/stanzacall/xml/Namespaces" "count" "I" (.int (1 : Int32)) ∧ Arv Z h sc ks .int (16 : Int32) [(.int (0 : Int32)), (.int (1 : Int32)), (.int (0 : Int32)), (.int (0 : Int32)), (.int (0 : Int32)), (.int (0 : Int32)), (.int (0 : Int32)), (.int (0 : Int32)), (.int (0 : Int32)), (.int (0 : Int32)), (.int (0 : Int32)), (.int (0 : Int32)), (.int (0 : Int32)), (.int (0 : Int32)), (.int (0 : Int32)), (.int (0 : Int32))] (.int (0 : Int32))
set_option maxRecDepth 65536 in
set_option maxHeartbeats 40000000 in
theorem rmOpen1 (l : Launch) (Z : State) (a0 : Array Value) (hw : ∀ d ∈ tables_1, d.before a0 Z = true) (ws : List Jvm.Cond) (a1 : Addr) (pa : Addr) (ua : Addr) (sc : Addr) (ks : ClassId) (h0 : Heap) (n0 : Nat) (Z0 : n0 ≤ h0.size) (pr0 : Exa Z h0 a1 "com/example/stanzacall/stanzacall/xml/Namespaces") (pr1 : Fld Z h0 a1 "com/example/stanzacall/stanzacall/xml/Namespaces" "prefixes" "[Ljava/lang/String;" (.ref pa)) (pr2 : Fld Z h0 a1 "com/example/stanzacall/stanzacall/xml/Namespaces" "uris" "[Ljava/lang/String;" (.ref ua)) (pr3 : Fld Z h0 a1 "com/example/stanzacall/stanzacall/xml/Namespaces" "scopes" "[I" (.ref sc)) (pr4 : Fld Z h0 a1 "com/example/stanzacall/stanzacall/xml/Namespaces" "depth" "I" (.int (1 : Int32))) (pr5 : Fld Z h0 a1 "com/example/stanzacall/stanzacall/xml/Namespaces" "count" "I" (.int (1 : Int32))) (pr6 : Arv Z h0 sc ks .int (16 : Int32) [(.int (0 : Int32)), (.int (0 : Int32)), (.int (0 : Int32)), (.int (0 : Int32)), (.int (0 : Int32)), (.int (0 : Int32)), (.int (0 : Int32)), (.int (0 : Int32)), (.int (0 : Int32)), (.int (0 : Int32)), (.int (0 : Int32)), (.int (0 : Int32)), (.int (0 : Int32)), (.int (0 : Int32)), (.int (0 : Int32)), (.int (0 : Int32))] (.int (0 : Int32))) (pr7 : n0 ≤ a1) (pr8 : n0 ≤ sc) (pr9 : a1 ≠ sc) :
    MetFree l (⟨"com/example/stanzacall/stanzacall/xml/Namespaces", "open", "()V"⟩ : MethodName) (head1 (Jvm.Cond.code (⟨"com/example/stanzacall/stanzacall/xml/Namespaces", "open", "()V"⟩ : MethodName) prog_73_method_2_code 1 none :: ws) ({ frames := 0, cells := 0, slots := 0, locals := 0 } : Room)) (fun a U => a = #[(.ref a1)] ∧ Z.Warmed39 U.vm ∧ U.heap = h0) (fun _ _ _ _ _ => True) (fun _ U o U' => ∃ v L, o = .returned v ∧ QOpen1 Z a1 pa ua sc ks h0 n0 v U'.heap L ∧ FrameEnd U o U' L ({ frames := 0, cells := 0, slots := 0, locals := 0 } : Room).cells ({ frames := 0, cells := 0, slots := 0, locals := 0 } : Room).slots) := by
  refine MetFree.of_bodySF (plainFor_of_name pn_7) hisR ?_
  intro p e s m args below meth c s₁ Bd hml0 hP hK
  obtain ⟨rfl, hZ, hh⟩ := hP
  have hx := Bd.exec
  have hby := Bd.bytes
  have hml : c.maxLocals = 1 := hml0
  have hown : s.vm.findClass "com/example/stanzacall/stanzacall/xml/Namespaces" = some m.cls := findClass_of_methodNamed Bd.named
  have hnm := (name_of_methodNamed Bd.named Bd.method).1
  have X0 : Stand p l e ({ frames := 0, cells := 0, slots := 0, locals := 0 } : Room) s m #[(.ref a1)] below meth c s₁ [] 0 0 := Stand.of_body Bd
  have hs0 : h0 = s.heap := hh.symm
  have e0 : s₁.heap = h0 := by rw [← hh, Bd.state]; rfl
  have N0 := Fr.nil n0
  obtain ⟨f0, hf0⟩ : ∃ f, f = entryFrame m #[(.ref a1)] 1 := ⟨_, rfl⟩
  have pre0 : ∀ t, Steps p.tables e below (s₁.setTop f0) t → Steps p.tables e below (s₁.setTop (entryFrame m #[(.ref a1)] 1)) t := fun t k => hf0 ▸ k
  have K0 : Gx p e below s₁ f0 s₁ (mkF m 0 #[.val (.ref a1)] []) := fun t kt => by rw [hf0]; exact castTop (ef_Open1 m a1) kt
  have K1 : Gx p e below s₁ f0 s₁ (mkF m 1 #[.val (.ref a1)] [(.ref a1)]) := fun t kt => K0 t (by
    show Steps p.tables e below (s₁.setTop (mkF m 0 #[.val (.ref a1)] [])) _
    refine XS.aloadN X0.here hx rfl (hb hby d7_0) rfl rfl ?_
    exact kt)
  obtain ⟨T2, X2, e2, st2⟩ := getF X0 hx hZ hown (host := "") (Or.inl (hw _ (List.mem_of_getElem? (i := 47) rfl))) Via.refl e0 pr4 (g := (mkF m 1 #[.val (.ref a1)] [(.ref a1)])) rfl rfl (hb hby d7_1)
  have K3 : Gx p e below s₁ f0 T2 (mkF m 4 #[.val (.ref a1)] [(.int (1 : Int32))]) := fun t kt => K1 t (st2 t kt)
  have K4 : Gx p e below s₁ f0 T2 (mkF m 5 #[.val (.ref a1)] [(.ref a1), (.int (1 : Int32))]) := fun t kt => K3 t (by
    show Steps p.tables e below (T2.setTop (mkF m 4 #[.val (.ref a1)] [(.int (1 : Int32))])) _
    refine XS.aloadN X2.here hx rfl (hb hby d7_4) rfl rfl ?_
    exact kt)
  obtain ⟨T5, X5, e5, st5⟩ := getF X2 hx hZ hown (host := "") (Or.inl (hw _ (List.mem_of_getElem? (i := 40) rfl))) Via.refl e2 pr3 (g := (mkF m 5 #[.val (.ref a1)] [(.ref a1), (.int (1 : Int32))])) rfl rfl (hb hby d7_5)
  have K6 : Gx p e below s₁ f0 T5 (mkF m 8 #[.val (.ref a1)] [(.ref sc), (.int (1 : Int32))]) := fun t kt => K4 t (st5 t kt)
  obtain ⟨clq7, Arq7, ckq7, cSq7, cNq7, cHq7, cGq7⟩ := id pr6
  have K8 : Gx p e below s₁ f0 T5 (mkF m 30 #[.val (.ref a1)] [(.ref a1)]) := fun t kt => K6 t (by
    show Steps p.tables e below (T5.setTop (mkF m 8 #[.val (.ref a1)] [(.ref sc), (.int (1 : Int32))])) _
    refine X5.arraylength hx (by rw [e5]; exact Arq7.1) (State.isArrayOf_alike hZ.alike Arq7.2.1) (g := (mkF m 8 #[.val (.ref a1)] [(.ref sc), (.int (1 : Int32))])) rfl rfl (hb hby d7_8) _ ?_
    rw [len_of cSq7 cNq7]
    show Steps p.tables e below (T5.setTop (mkF m 9 #[.val (.ref a1)] [(.int (16 : Int32)), (.int (1 : Int32))])) _
    refine XS.icmpYes X5.here hx rfl (pc0 := 9) (pc' := 29) rfl (hb hby d7_9) rfl (feq (by decide)).2 (by decide) (by decide) ?_
    show Steps p.tables e below (T5.setTop (mkF m 29 #[.val (.ref a1)] [])) _
    refine XS.aloadN X5.here hx rfl (hb hby d7_29) rfl rfl ?_
    exact kt)
  obtain ⟨T9, X9, e9, st9⟩ := getF X5 hx hZ hown (host := "") (Or.inl (hw _ (List.mem_of_getElem? (i := 40) rfl))) Via.refl e5 pr3 (g := (mkF m 30 #[.val (.ref a1)] [(.ref a1)])) rfl rfl (hb hby d7_30)
  have K10 : Gx p e below s₁ f0 T9 (mkF m 33 #[.val (.ref a1)] [(.ref sc)]) := fun t kt => K8 t (st9 t kt)
  have K11 : Gx p e below s₁ f0 T9 (mkF m 35 #[.val (.ref a1)] [(.ref a1), (.ref a1), (.ref sc)]) := fun t kt => K10 t (by
    show Steps p.tables e below (T9.setTop (mkF m 33 #[.val (.ref a1)] [(.ref sc)])) _
    refine XS.aloadN X9.here hx rfl (hb hby d7_33) rfl rfl ?_
    show Steps p.tables e below (T9.setTop (mkF m 34 #[.val (.ref a1)] [(.ref a1), (.ref sc)])) _
    refine XS.dup X9.here hx rfl (hb hby d7_34) rfl rfl ?_
    exact kt)
  obtain ⟨T12, X12, e12, st12⟩ := getF X9 hx hZ hown (host := "") (Or.inl (hw _ (List.mem_of_getElem? (i := 47) rfl))) Via.refl e9 pr4 (g := (mkF m 35 #[.val (.ref a1)] [(.ref a1), (.ref a1), (.ref sc)])) rfl rfl (hb hby d7_35)
  have K13 : Gx p e below s₁ f0 T12 (mkF m 38 #[.val (.ref a1)] [(.int (1 : Int32)), (.ref a1), (.ref sc)]) := fun t kt => K11 t (st12 t kt)
  have K14 : Gx p e below s₁ f0 T12 (mkF m 41 #[.val (.ref a1)] [(.int (2 : Int32)), (.ref a1), (.int (1 : Int32)), (.ref sc)]) := fun t kt => K13 t (by
    show Steps p.tables e below (T12.setTop (mkF m 38 #[.val (.ref a1)] [(.int (1 : Int32)), (.ref a1), (.ref sc)])) _
    refine XS.dupX1 X12.here hx rfl (hb hby d7_38) rfl rfl rfl ?_
    show Steps p.tables e below (T12.setTop (mkF m 39 #[.val (.ref a1)] [(.int (1 : Int32)), (.ref a1), (.int (1 : Int32)), (.ref sc)])) _
    refine XS.iconst X12.here hx rfl (hb hby d7_39) ?_
    show Steps p.tables e below (T12.setTop (mkF m 40 #[.val (.ref a1)] [(.int (1 : Int32)), (.int (1 : Int32)), (.ref a1), (.int (1 : Int32)), (.ref sc)])) _
    refine XS.iadd X12.here hx rfl (hb hby d7_40) rfl ?_
    exact kt)
  obtain ⟨T15, h15, X15', e15, W15, st15⟩ := putF X12 hx hZ hown (host := "") (Or.inl (hw _ (List.mem_of_getElem? (i := 47) rfl))) Via.refl e12 pr4 pr0 (Or.inl (hw _ (List.mem_of_getElem? (i := 48) rfl))) (hw _ (List.mem_of_getElem? (i := 27) rfl)) (ty := .int) (by decide) rfl rfl (g := (mkF m 41 #[.val (.ref a1)] [(.int (2 : Int32)), (.ref a1), (.int (1 : Int32)), (.ref sc)])) rfl rfl (hb hby d7_41)
  obtain ⟨lc15, X15, N15⟩ : ∃ lc, Stand p l e ({ frames := 0, cells := 0, slots := 0, locals := 0 } : Room) s m #[(.ref a1)] below meth c T15 lc 0 0 ∧ Fr n0 lc := ⟨_, X15', Fr.snoc X15' N0 pr7⟩
  have f15_ : Fld Z h15 a1 "com/example/stanzacall/stanzacall/xml/Namespaces" "depth" "I" (.int (2 : Int32)) := pr4.same W15
  have K16 : Gx p e below s₁ f0 T15 (mkF m 44 #[.val (.ref a1)] [(.int (1 : Int32)), (.ref sc)]) := fun t kt => K14 t (st15 t kt)
  have K17 : Gx p e below s₁ f0 T15 (mkF m 45 #[.val (.ref a1)] [(.ref a1), (.int (1 : Int32)), (.ref sc)]) := fun t kt => K16 t (by
    show Steps p.tables e below (T15.setTop (mkF m 44 #[.val (.ref a1)] [(.int (1 : Int32)), (.ref sc)])) _
    refine XS.aloadN X15.here hx rfl (hb hby d7_44) rfl rfl ?_
    exact kt)
  have f18 : Fld Z h15 a1 "com/example/stanzacall/stanzacall/xml/Namespaces" "count" "I" (.int (1 : Int32)) := (pr5.other W15 (Or.inr (slot_ne (Or.inl (hw _ (List.mem_of_getElem? (i := 50) rfl))) (Or.inl (hw _ (List.mem_of_getElem? (i := 48) rfl))) (by decide) (t := .int) (t' := .int) (by decide) (by decide))))
  obtain ⟨T19, X19, e19, st19⟩ := getF X15 hx hZ hown (host := "") (Or.inl (hw _ (List.mem_of_getElem? (i := 49) rfl))) Via.refl e15 f18 (g := (mkF m 45 #[.val (.ref a1)] [(.ref a1), (.int (1 : Int32)), (.ref sc)])) rfl rfl (hb hby d7_45)
  have K20 : Gx p e below s₁ f0 T19 (mkF m 48 #[.val (.ref a1)] [(.int (1 : Int32)), (.int (1 : Int32)), (.ref sc)]) := fun t kt => K17 t (st19 t kt)
  have f21 : Arv Z h15 sc ks .int (16 : Int32) [(.int (0 : Int32)), (.int (0 : Int32)), (.int (0 : Int32)), (.int (0 : Int32)), (.int (0 : Int32)), (.int (0 : Int32)), (.int (0 : Int32)), (.int (0 : Int32)), (.int (0 : Int32)), (.int (0 : Int32)), (.int (0 : Int32)), (.int (0 : Int32)), (.int (0 : Int32)), (.int (0 : Int32)), (.int (0 : Int32)), (.int (0 : Int32))] (.int (0 : Int32)) := (pr6.other W15 (Ne.symm pr9))
  obtain ⟨clq22, Arq22, ckq22, cSq22, cNq22, cHq22, cGq22⟩ := id f21
  obtain ⟨T23, h23, X23', e23, W23, st23⟩ := stI X19 hx hZ e19 Arq22 (j := (1 : Int32)) (inb_of cSq22 ⟨by decide, by decide⟩) (g := (mkF m 48 #[.val (.ref a1)] [(.int (1 : Int32)), (.int (1 : Int32)), (.ref sc)])) rfl rfl (hb hby d7_48)
  obtain ⟨lc23, X23, N23⟩ : ∃ lc, Stand p l e ({ frames := 0, cells := 0, slots := 0, locals := 0 } : Room) s m #[(.ref a1)] below meth c T23 lc 0 0 ∧ Fr n0 lc := ⟨_, X23', Fr.snoc X23' N15 pr8⟩
  have V23 : Arv Z h23 sc ks .int (16 : Int32) [(.int (0 : Int32)), (.int (1 : Int32)), (.int (0 : Int32)), (.int (0 : Int32)), (.int (0 : Int32)), (.int (0 : Int32)), (.int (0 : Int32)), (.int (0 : Int32)), (.int (0 : Int32)), (.int (0 : Int32)), (.int (0 : Int32)), (.int (0 : Int32)), (.int (0 : Int32)), (.int (0 : Int32)), (.int (0 : Int32)), (.int (0 : Int32))] (.int (0 : Int32)) := Arv.set Arq22 ckq22 cSq22 cNq22 cHq22 cGq22 rfl W23 1 rfl (Nat.le_of_ble_eq_true rfl)
  have K24 : Gx p e below s₁ f0 T23 (mkF m 49 #[.val (.ref a1)] []) := fun t kt => K20 t (st23 t kt)
  have kp26 : Keep h0 h23 [a1, sc] := (((Keep.refl h0 [a1, sc]).wr W15 (Or.inl (List.mem_of_getElem? (i := 0) rfl))).wr W23 (Or.inl (List.mem_of_getElem? (i := 1) rfl)))
  have f27 : Exa Z h23 a1 "com/example/stanzacall/stanzacall/xml/Namespaces" := ((pr0.wr W15).wr W23)
  have f28 : Fld Z h23 a1 "com/example/stanzacall/stanzacall/xml/Namespaces" "prefixes" "[Ljava/lang/String;" (.ref pa) := ((pr1.other W15 (Or.inr (slot_ne (Or.inl (hw _ (List.mem_of_getElem? (i := 36) rfl))) (Or.inl (hw _ (List.mem_of_getElem? (i := 48) rfl))) (by decide) (t := (.array (.object "java/lang/String"))) (t' := .int) (by decide) (by decide)))).other W23 (Or.inl pr9))
  have f29 : Fld Z h23 a1 "com/example/stanzacall/stanzacall/xml/Namespaces" "uris" "[Ljava/lang/String;" (.ref ua) := ((pr2.other W15 (Or.inr (slot_ne (Or.inl (hw _ (List.mem_of_getElem? (i := 38) rfl))) (Or.inl (hw _ (List.mem_of_getElem? (i := 48) rfl))) (by decide) (t := (.array (.object "java/lang/String"))) (t' := .int) (by decide) (by decide)))).other W23 (Or.inl pr9))
  have f30 : Fld Z h23 a1 "com/example/stanzacall/stanzacall/xml/Namespaces" "scopes" "[I" (.ref sc) := ((pr3.other W15 (Or.inr (slot_ne (Or.inl (hw _ (List.mem_of_getElem? (i := 41) rfl))) (Or.inl (hw _ (List.mem_of_getElem? (i := 48) rfl))) (by decide) (t := (.array .int)) (t' := .int) (by decide) (by decide)))).other W23 (Or.inl pr9))
  have f31 : Fld Z h23 a1 "com/example/stanzacall/stanzacall/xml/Namespaces" "depth" "I" (.int (2 : Int32)) := (f15_.other W23 (Or.inl pr9))
  have f32 : Fld Z h23 a1 "com/example/stanzacall/stanzacall/xml/Namespaces" "count" "I" (.int (1 : Int32)) := (f18.other W23 (Or.inl pr9))
  obtain ⟨fs25, hr25, hrun25, hended25, hW25, hsame25⟩ := X23.leave (v := none) (fun _ => rfl)
  refine ⟨_, _, pre0 _ (K24 _ ?_), hrun25, hended25, _, _, rfl, ?_, ⟨_, rfl⟩, hW25, hsame25.mono (by decide) (by decide)⟩
  · exact X23.returnOut hx Bd.returns (hb hby d7_49) hr25
  · show QOpen1 Z a1 pa ua sc ks h0 n0 _ T23.heap _
    rw [e23]
    exact ⟨rfl, N23, kp26, f27, f28, f29, f30, f31, f32, V23⟩
theorem d13_0 : decode prog_73_method_3_code 0 = .ok (.aload_n 0, 1) := by decide +kernel
theorem d13_1 : decode prog_73_method_3_code 1 = .ok (.aload_n 0, 1) := by decide +kernel
theorem d13_2 : decode prog_73_method_3_code 2 = .ok (.getfield 18, 3) := by decide +kernel
theorem d13_5 : decode prog_73_method_3_code 5 = .ok (.aload_n 0, 1) := by decide +kernel
theorem d13_6 : decode prog_73_method_3_code 6 = .ok (.dup, 1) := by decide +kernel
theorem d13_7 : decode prog_73_method_3_code 7 = .ok (.getfield 22, 3) := by decide +kernel
theorem d13_10 : decode prog_73_method_3_code 10 = .ok (.iconst 1, 1) := by decide +kernel
theorem d13_11 : decode prog_73_method_3_code 11 = .ok (.isub, 1) := by decide +kernel
theorem d13_12 : decode prog_73_method_3_code 12 = .ok (.dup_x1, 1) := by decide +kernel
theorem d13_13 : decode prog_73_method_3_code 13 = .ok (.putfield 22, 3) := by decide +kernel
theorem d13_16 : decode prog_73_method_3_code 16 = .ok (.iaload, 1) := by decide +kernel
theorem d13_17 : decode prog_73_method_3_code 17 = .ok (.putfield 32, 3) := by decide +kernel
theorem d13_20 : decode prog_73_method_3_code 20 = .ok (.return_, 1) := by decide +kernel
theorem pn_13 : plainName "com/example/stanzacall/stanzacall/xml/Namespaces" = true := by first | (simp [plainName, overriddenIn]; done) | decide +kernel
theorem ef_Close1 (m : MethodId) (a1 : Addr) : entryFrame m #[(.ref a1)] 1 = mkF m 0 #[.val (.ref a1)] [] := by first | (simp [entryFrame, mkF, argsToLocals, Value.category]; done) | rfl
def QClose1 (Z : State) (a1 : Addr) (pa : Addr) (ua : Addr) (sc : Addr) (ks : ClassId) (h0 : Heap) (n0 : Nat) (v : Option Value) (h : Heap) (L : List Loc) : Prop := v = none ∧ Fr n0 L ∧ Keep h0 h [a1] ∧ Exa Z h a1 "com/example/stanzacall/stanzacall/xml/Namespaces" ∧ Fld Z h a1 "com/example/stanzacall/stanzacall/xml/Namespaces" "prefixes" "[Ljava/lang/String;" (.ref pa) ∧ Fld Z h a1 "com/example/stanzacall/stanzacall/xml/Namespaces" "uris" "[Ljava/lang/String;" (.ref ua) ∧ Fld Z h a1 "com/example/stanzacall/stanzacall/xml/Namespaces" "scopes" "[I" (.ref sc) ∧ Fld Z h a1 "com/example/stanzacall/stanzacall/xml/Namespaces" "depth" "I" (.int (0 : Int32)) ∧ Fld Z h a1 "com/example/stanzacall/stanzacall/xml/Namespaces" "count" "I" (.int (0 : Int32))
set_option maxRecDepth 65536 in
set_option maxHeartbeats 40000000 in
theorem rmClose1 (l : Launch) (Z : State) (a0 : Array Value) (hw : ∀ d ∈ tables_1, d.before a0 Z = true) (ws : List Jvm.Cond) (a1 : Addr) (pa : Addr) (ua : Addr) (sc : Addr) (ks : ClassId) (h0 : Heap) (n0 : Nat) (Z0 : n0 ≤ h0.size) (pr0 : Exa Z h0 a1 "com/example/stanzacall/stanzacall/xml/Namespaces") (pr1 : Fld Z h0 a1 "com/example/stanzacall/stanzacall/xml/Namespaces" "prefixes" "[Ljava/lang/String;" (.ref pa)) (pr2 : Fld Z h0 a1 "com/example/stanzacall/stanzacall/xml/Namespaces" "uris" "[Ljava/lang/String;" (.ref ua)) (pr3 : Fld Z h0 a1 "com/example/stanzacall/stanzacall/xml/Namespaces" "scopes" "[I" (.ref sc)) (pr4 : Fld Z h0 a1 "com/example/stanzacall/stanzacall/xml/Namespaces" "depth" "I" (.int (1 : Int32))) (pr5 : Fld Z h0 a1 "com/example/stanzacall/stanzacall/xml/Namespaces" "count" "I" (.int (1 : Int32))) (pr6 : Arv Z h0 sc ks .int (16 : Int32) [(.int (0 : Int32)), (.int (1 : Int32)), (.int (0 : Int32)), (.int (0 : Int32)), (.int (0 : Int32)), (.int (0 : Int32)), (.int (0 : Int32)), (.int (0 : Int32)), (.int (0 : Int32)), (.int (0 : Int32)), (.int (0 : Int32)), (.int (0 : Int32)), (.int (0 : Int32)), (.int (0 : Int32)), (.int (0 : Int32)), (.int (0 : Int32))] (.int (0 : Int32))) (pr7 : n0 ≤ a1) (pr8 : a1 ≠ sc) :
    MetFree l (⟨"com/example/stanzacall/stanzacall/xml/Namespaces", "close", "()V"⟩ : MethodName) (head1 (Jvm.Cond.code (⟨"com/example/stanzacall/stanzacall/xml/Namespaces", "close", "()V"⟩ : MethodName) prog_73_method_3_code 1 none :: ws) ({ frames := 0, cells := 0, slots := 0, locals := 0 } : Room)) (fun a U => a = #[(.ref a1)] ∧ Z.Warmed39 U.vm ∧ U.heap = h0) (fun _ _ _ _ _ => True) (fun _ U o U' => ∃ v L, o = .returned v ∧ QClose1 Z a1 pa ua sc ks h0 n0 v U'.heap L ∧ FrameEnd U o U' L ({ frames := 0, cells := 0, slots := 0, locals := 0 } : Room).cells ({ frames := 0, cells := 0, slots := 0, locals := 0 } : Room).slots) := by
  refine MetFree.of_bodySF (plainFor_of_name pn_13) hisR ?_
  intro p e s m args below meth c s₁ Bd hml0 hP hK
  obtain ⟨rfl, hZ, hh⟩ := hP
  have hx := Bd.exec
  have hby := Bd.bytes
  have hml : c.maxLocals = 1 := hml0
  have hown : s.vm.findClass "com/example/stanzacall/stanzacall/xml/Namespaces" = some m.cls := findClass_of_methodNamed Bd.named
  have hnm := (name_of_methodNamed Bd.named Bd.method).1
  have X0 : Stand p l e ({ frames := 0, cells := 0, slots := 0, locals := 0 } : Room) s m #[(.ref a1)] below meth c s₁ [] 0 0 := Stand.of_body Bd
  have hs0 : h0 = s.heap := hh.symm
  have e0 : s₁.heap = h0 := by rw [← hh, Bd.state]; rfl
  have N0 := Fr.nil n0
  obtain ⟨f0, hf0⟩ : ∃ f, f = entryFrame m #[(.ref a1)] 1 := ⟨_, rfl⟩
  have pre0 : ∀ t, Steps p.tables e below (s₁.setTop f0) t → Steps p.tables e below (s₁.setTop (entryFrame m #[(.ref a1)] 1)) t := fun t k => hf0 ▸ k
  have K0 : Gx p e below s₁ f0 s₁ (mkF m 0 #[.val (.ref a1)] []) := fun t kt => by rw [hf0]; exact castTop (ef_Close1 m a1) kt
  have K1 : Gx p e below s₁ f0 s₁ (mkF m 2 #[.val (.ref a1)] [(.ref a1), (.ref a1)]) := fun t kt => K0 t (by
    show Steps p.tables e below (s₁.setTop (mkF m 0 #[.val (.ref a1)] [])) _
    refine XS.aloadN X0.here hx rfl (hb hby d13_0) rfl rfl ?_
    show Steps p.tables e below (s₁.setTop (mkF m 1 #[.val (.ref a1)] [(.ref a1)])) _
    refine XS.aloadN X0.here hx rfl (hb hby d13_1) rfl rfl ?_
    exact kt)
  obtain ⟨T2, X2, e2, st2⟩ := getF X0 hx hZ hown (host := "") (Or.inl (hw _ (List.mem_of_getElem? (i := 40) rfl))) Via.refl e0 pr3 (g := (mkF m 2 #[.val (.ref a1)] [(.ref a1), (.ref a1)])) rfl rfl (hb hby d13_2)
  have K3 : Gx p e below s₁ f0 T2 (mkF m 5 #[.val (.ref a1)] [(.ref sc), (.ref a1)]) := fun t kt => K1 t (st2 t kt)
  have K4 : Gx p e below s₁ f0 T2 (mkF m 7 #[.val (.ref a1)] [(.ref a1), (.ref a1), (.ref sc), (.ref a1)]) := fun t kt => K3 t (by
    show Steps p.tables e below (T2.setTop (mkF m 5 #[.val (.ref a1)] [(.ref sc), (.ref a1)])) _
    refine XS.aloadN X2.here hx rfl (hb hby d13_5) rfl rfl ?_
    show Steps p.tables e below (T2.setTop (mkF m 6 #[.val (.ref a1)] [(.ref a1), (.ref sc), (.ref a1)])) _
    refine XS.dup X2.here hx rfl (hb hby d13_6) rfl rfl ?_
    exact kt)
  obtain ⟨T5, X5, e5, st5⟩ := getF X2 hx hZ hown (host := "") (Or.inl (hw _ (List.mem_of_getElem? (i := 47) rfl))) Via.refl e2 pr4 (g := (mkF m 7 #[.val (.ref a1)] [(.ref a1), (.ref a1), (.ref sc), (.ref a1)])) rfl rfl (hb hby d13_7)
  have K6 : Gx p e below s₁ f0 T5 (mkF m 10 #[.val (.ref a1)] [(.int (1 : Int32)), (.ref a1), (.ref sc), (.ref a1)]) := fun t kt => K4 t (st5 t kt)
  have K7 : Gx p e below s₁ f0 T5 (mkF m 13 #[.val (.ref a1)] [(.int (0 : Int32)), (.ref a1), (.int (0 : Int32)), (.ref sc), (.ref a1)]) := fun t kt => K6 t (by
    show Steps p.tables e below (T5.setTop (mkF m 10 #[.val (.ref a1)] [(.int (1 : Int32)), (.ref a1), (.ref sc), (.ref a1)])) _
    refine XS.iconst X5.here hx rfl (hb hby d13_10) ?_
    show Steps p.tables e below (T5.setTop (mkF m 11 #[.val (.ref a1)] [(.int (1 : Int32)), (.int (1 : Int32)), (.ref a1), (.ref sc), (.ref a1)])) _
    refine XS.isub X5.here hx rfl (hb hby d13_11) rfl ?_
    show Steps p.tables e below (T5.setTop (mkF m 12 #[.val (.ref a1)] [(.int (0 : Int32)), (.ref a1), (.ref sc), (.ref a1)])) _
    refine XS.dupX1 X5.here hx rfl (hb hby d13_12) rfl rfl rfl ?_
    exact kt)
  obtain ⟨T8, h8, X8', e8, W8, st8⟩ := putF X5 hx hZ hown (host := "") (Or.inl (hw _ (List.mem_of_getElem? (i := 47) rfl))) Via.refl e5 pr4 pr0 (Or.inl (hw _ (List.mem_of_getElem? (i := 48) rfl))) (hw _ (List.mem_of_getElem? (i := 27) rfl)) (ty := .int) (by decide) rfl rfl (g := (mkF m 13 #[.val (.ref a1)] [(.int (0 : Int32)), (.ref a1), (.int (0 : Int32)), (.ref sc), (.ref a1)])) rfl rfl (hb hby d13_13)
  obtain ⟨lc8, X8, N8⟩ : ∃ lc, Stand p l e ({ frames := 0, cells := 0, slots := 0, locals := 0 } : Room) s m #[(.ref a1)] below meth c T8 lc 0 0 ∧ Fr n0 lc := ⟨_, X8', Fr.snoc X8' N0 pr7⟩
  have f8_ : Fld Z h8 a1 "com/example/stanzacall/stanzacall/xml/Namespaces" "depth" "I" (.int (0 : Int32)) := pr4.same W8
  have K9 : Gx p e below s₁ f0 T8 (mkF m 16 #[.val (.ref a1)] [(.int (0 : Int32)), (.ref sc), (.ref a1)]) := fun t kt => K7 t (st8 t kt)
  have f10 : Arv Z h8 sc ks .int (16 : Int32) [(.int (0 : Int32)), (.int (1 : Int32)), (.int (0 : Int32)), (.int (0 : Int32)), (.int (0 : Int32)), (.int (0 : Int32)), (.int (0 : Int32)), (.int (0 : Int32)), (.int (0 : Int32)), (.int (0 : Int32)), (.int (0 : Int32)), (.int (0 : Int32)), (.int (0 : Int32)), (.int (0 : Int32)), (.int (0 : Int32)), (.int (0 : Int32))] (.int (0 : Int32)) := (pr6.other W8 (Ne.symm pr8))
  obtain ⟨clq11, Arq11, ckq11, cSq11, cNq11, cHq11, cGq11⟩ := id f10
  have K12 : Gx p e below s₁ f0 T8 (mkF m 17 #[.val (.ref a1)] [(.int (0 : Int32)), (.ref a1)]) := fun t kt => K9 t (by
    show Steps p.tables e below (T8.setTop (mkF m 16 #[.val (.ref a1)] [(.int (0 : Int32)), (.ref sc), (.ref a1)])) _
    refine X8.iaload hx (j := (0 : Int32)) (v := (.int (0 : Int32))) (by rw [e8]; exact Arq11.1) (State.isArrayOf_alike hZ.alike Arq11.2.1) Arq11.2.2 (inb_of cSq11 ⟨by decide, by decide⟩) (Has.at cHq11 (inb_of cSq11 ⟨by decide, by decide⟩) rfl) (g := (mkF m 16 #[.val (.ref a1)] [(.int (0 : Int32)), (.ref sc), (.ref a1)])) rfl rfl (hb hby d13_16) _ ?_
    exact kt)
  have f13 : Fld Z h8 a1 "com/example/stanzacall/stanzacall/xml/Namespaces" "count" "I" (.int (1 : Int32)) := (pr5.other W8 (Or.inr (slot_ne (Or.inl (hw _ (List.mem_of_getElem? (i := 50) rfl))) (Or.inl (hw _ (List.mem_of_getElem? (i := 48) rfl))) (by decide) (t := .int) (t' := .int) (by decide) (by decide))))
  have f14 : Exa Z h8 a1 "com/example/stanzacall/stanzacall/xml/Namespaces" := (pr0.wr W8)
  obtain ⟨T15, h15, X15', e15, W15, st15⟩ := putF X8 hx hZ hown (host := "") (Or.inl (hw _ (List.mem_of_getElem? (i := 49) rfl))) Via.refl e8 f13 f14 (Or.inl (hw _ (List.mem_of_getElem? (i := 50) rfl))) (hw _ (List.mem_of_getElem? (i := 27) rfl)) (ty := .int) (by decide) rfl rfl (g := (mkF m 17 #[.val (.ref a1)] [(.int (0 : Int32)), (.ref a1)])) rfl rfl (hb hby d13_17)
  obtain ⟨lc15, X15, N15⟩ : ∃ lc, Stand p l e ({ frames := 0, cells := 0, slots := 0, locals := 0 } : Room) s m #[(.ref a1)] below meth c T15 lc 0 0 ∧ Fr n0 lc := ⟨_, X15', Fr.snoc X15' N8 pr7⟩
  have f15_ : Fld Z h15 a1 "com/example/stanzacall/stanzacall/xml/Namespaces" "count" "I" (.int (0 : Int32)) := f13.same W15
  have K16 : Gx p e below s₁ f0 T15 (mkF m 20 #[.val (.ref a1)] []) := fun t kt => K12 t (st15 t kt)
  have kp18 : Keep h0 h15 [a1] := (((Keep.refl h0 [a1]).wr W8 (Or.inl (List.mem_of_getElem? (i := 0) rfl))).wr W15 (Or.inl (List.mem_of_getElem? (i := 0) rfl)))
  have f19 : Exa Z h15 a1 "com/example/stanzacall/stanzacall/xml/Namespaces" := (f14.wr W15)
  have f20 : Fld Z h15 a1 "com/example/stanzacall/stanzacall/xml/Namespaces" "prefixes" "[Ljava/lang/String;" (.ref pa) := ((pr1.other W8 (Or.inr (slot_ne (Or.inl (hw _ (List.mem_of_getElem? (i := 36) rfl))) (Or.inl (hw _ (List.mem_of_getElem? (i := 48) rfl))) (by decide) (t := (.array (.object "java/lang/String"))) (t' := .int) (by decide) (by decide)))).other W15 (Or.inr (slot_ne (Or.inl (hw _ (List.mem_of_getElem? (i := 36) rfl))) (Or.inl (hw _ (List.mem_of_getElem? (i := 50) rfl))) (by decide) (t := (.array (.object "java/lang/String"))) (t' := .int) (by decide) (by decide))))
  have f21 : Fld Z h15 a1 "com/example/stanzacall/stanzacall/xml/Namespaces" "uris" "[Ljava/lang/String;" (.ref ua) := ((pr2.other W8 (Or.inr (slot_ne (Or.inl (hw _ (List.mem_of_getElem? (i := 38) rfl))) (Or.inl (hw _ (List.mem_of_getElem? (i := 48) rfl))) (by decide) (t := (.array (.object "java/lang/String"))) (t' := .int) (by decide) (by decide)))).other W15 (Or.inr (slot_ne (Or.inl (hw _ (List.mem_of_getElem? (i := 38) rfl))) (Or.inl (hw _ (List.mem_of_getElem? (i := 50) rfl))) (by decide) (t := (.array (.object "java/lang/String"))) (t' := .int) (by decide) (by decide))))
  have f22 : Fld Z h15 a1 "com/example/stanzacall/stanzacall/xml/Namespaces" "scopes" "[I" (.ref sc) := ((pr3.other W8 (Or.inr (slot_ne (Or.inl (hw _ (List.mem_of_getElem? (i := 41) rfl))) (Or.inl (hw _ (List.mem_of_getElem? (i := 48) rfl))) (by decide) (t := (.array .int)) (t' := .int) (by decide) (by decide)))).other W15 (Or.inr (slot_ne (Or.inl (hw _ (List.mem_of_getElem? (i := 41) rfl))) (Or.inl (hw _ (List.mem_of_getElem? (i := 50) rfl))) (by decide) (t := (.array .int)) (t' := .int) (by decide) (by decide))))
  have f23 : Fld Z h15 a1 "com/example/stanzacall/stanzacall/xml/Namespaces" "depth" "I" (.int (0 : Int32)) := (f8_.other W15 (Or.inr (slot_ne (Or.inl (hw _ (List.mem_of_getElem? (i := 48) rfl))) (Or.inl (hw _ (List.mem_of_getElem? (i := 50) rfl))) (by decide) (t := .int) (t' := .int) (by decide) (by decide))))
  obtain ⟨fs17, hr17, hrun17, hended17, hW17, hsame17⟩ := X15.leave (v := none) (fun _ => rfl)
  refine ⟨_, _, pre0 _ (K16 _ ?_), hrun17, hended17, _, _, rfl, ?_, ⟨_, rfl⟩, hW17, hsame17.mono (by decide) (by decide)⟩
  · exact X15.returnOut hx Bd.returns (hb hby d13_20) hr17
  · show QClose1 Z a1 pa ua sc ks h0 n0 _ T15.heap _
    rw [e15]
    exact ⟨rfl, N15, kp18, f19, f20, f21, f22, f23, f15_⟩
theorem ef_Close2 (m : MethodId) (a1 : Addr) : entryFrame m #[(.ref a1)] 1 = mkF m 0 #[.val (.ref a1)] [] := by first | (simp [entryFrame, mkF, argsToLocals, Value.category]; done) | rfl
def QClose2 (Z : State) (a1 : Addr) (pa : Addr) (ua : Addr) (sc : Addr) (ks : ClassId) (h0 : Heap) (n0 : Nat) (v : Option Value) (h : Heap) (L : List Loc) : Prop := v = none ∧ Fr n0 L ∧ Keep h0 h [a1] ∧ Exa Z h a1 "com/example/stanzacall/stanzacall/xml/Namespaces" ∧ Fld Z h a1 "com/example/stanzacall/stanzacall/xml/Namespaces" "prefixes" "[Ljava/lang/String;" (.ref pa) ∧ Fld Z h a1 "com/example/stanzacall/stanzacall/xml/Namespaces" "uris" "[Ljava/lang/String;" (.ref ua) ∧ Fld Z h a1 "com/example/stanzacall/stanzacall/xml/Namespaces" "scopes" "[I" (.ref sc) ∧ Fld Z h a1 "com/example/stanzacall/stanzacall/xml/Namespaces" "depth" "I" (.int (1 : Int32)) ∧ Fld Z h a1 "com/example/stanzacall/stanzacall/xml/Namespaces" "count" "I" (.int (1 : Int32))
set_option maxRecDepth 65536 in
set_option maxHeartbeats 40000000 in
theorem rmClose2 (l : Launch) (Z : State) (a0 : Array Value) (hw : ∀ d ∈ tables_1, d.before a0 Z = true) (ws : List Jvm.Cond) (a1 : Addr) (pa : Addr) (ua : Addr) (sc : Addr) (ks : ClassId) (h0 : Heap) (n0 : Nat) (Z0 : n0 ≤ h0.size) (pr0 : Exa Z h0 a1 "com/example/stanzacall/stanzacall/xml/Namespaces") (pr1 : Fld Z h0 a1 "com/example/stanzacall/stanzacall/xml/Namespaces" "prefixes" "[Ljava/lang/String;" (.ref pa)) (pr2 : Fld Z h0 a1 "com/example/stanzacall/stanzacall/xml/Namespaces" "uris" "[Ljava/lang/String;" (.ref ua)) (pr3 : Fld Z h0 a1 "com/example/stanzacall/stanzacall/xml/Namespaces" "scopes" "[I" (.ref sc)) (pr4 : Fld Z h0 a1 "com/example/stanzacall/stanzacall/xml/Namespaces" "depth" "I" (.int (2 : Int32))) (pr5 : Fld Z h0 a1 "com/example/stanzacall/stanzacall/xml/Namespaces" "count" "I" (.int (2 : Int32))) (pr6 : Arv Z h0 sc ks .int (16 : Int32) [(.int (0 : Int32)), (.int (1 : Int32)), (.int (0 : Int32)), (.int (0 : Int32)), (.int (0 : Int32)), (.int (0 : Int32)), (.int (0 : Int32)), (.int (0 : Int32)), (.int (0 : Int32)), (.int (0 : Int32)), (.int (0 : Int32)), (.int (0 : Int32)), (.int (0 : Int32)), (.int (0 : Int32)), (.int (0 : Int32)), (.int (0 : Int32))] (.int (0 : Int32))) (pr7 : n0 ≤ a1) (pr8 : a1 ≠ sc) :
    MetFree l (⟨"com/example/stanzacall/stanzacall/xml/Namespaces", "close", "()V"⟩ : MethodName) (head1 (Jvm.Cond.code (⟨"com/example/stanzacall/stanzacall/xml/Namespaces", "close", "()V"⟩ : MethodName) prog_73_method_3_code 1 none :: ws) ({ frames := 0, cells := 0, slots := 0, locals := 0 } : Room)) (fun a U => a = #[(.ref a1)] ∧ Z.Warmed39 U.vm ∧ U.heap = h0) (fun _ _ _ _ _ => True) (fun _ U o U' => ∃ v L, o = .returned v ∧ QClose2 Z a1 pa ua sc ks h0 n0 v U'.heap L ∧ FrameEnd U o U' L ({ frames := 0, cells := 0, slots := 0, locals := 0 } : Room).cells ({ frames := 0, cells := 0, slots := 0, locals := 0 } : Room).slots) := by
  refine MetFree.of_bodySF (plainFor_of_name pn_13) hisR ?_
  intro p e s m args below meth c s₁ Bd hml0 hP hK
  obtain ⟨rfl, hZ, hh⟩ := hP
  have hx := Bd.exec
  have hby := Bd.bytes
  have hml : c.maxLocals = 1 := hml0
  have hown : s.vm.findClass "com/example/stanzacall/stanzacall/xml/Namespaces" = some m.cls := findClass_of_methodNamed Bd.named
  have hnm := (name_of_methodNamed Bd.named Bd.method).1
  have X0 : Stand p l e ({ frames := 0, cells := 0, slots := 0, locals := 0 } : Room) s m #[(.ref a1)] below meth c s₁ [] 0 0 := Stand.of_body Bd
  have hs0 : h0 = s.heap := hh.symm
  have e0 : s₁.heap = h0 := by rw [← hh, Bd.state]; rfl
  have N0 := Fr.nil n0
  obtain ⟨f0, hf0⟩ : ∃ f, f = entryFrame m #[(.ref a1)] 1 := ⟨_, rfl⟩
  have pre0 : ∀ t, Steps p.tables e below (s₁.setTop f0) t → Steps p.tables e below (s₁.setTop (entryFrame m #[(.ref a1)] 1)) t := fun t k => hf0 ▸ k
  have K0 : Gx p e below s₁ f0 s₁ (mkF m 0 #[.val (.ref a1)] []) := fun t kt => by rw [hf0]; exact castTop (ef_Close2 m a1) kt
  have K1 : Gx p e below s₁ f0 s₁ (mkF m 2 #[.val (.ref a1)] [(.ref a1), (.ref a1)]) := fun t kt => K0 t (by
    show Steps p.tables e below (s₁.setTop (mkF m 0 #[.val (.ref a1)] [])) _
    refine XS.aloadN X0.here hx rfl (hb hby d13_0) rfl rfl ?_
    show Steps p.tables e below (s₁.setTop (mkF m 1 #[.val (.ref a1)] [(.ref a1)])) _
    refine XS.aloadN X0.here hx rfl (hb hby d13_1) rfl rfl ?_
    exact kt)
  obtain ⟨T2, X2, e2, st2⟩ := getF X0 hx hZ hown (host := "") (Or.inl (hw _ (List.mem_of_getElem? (i := 40) rfl))) Via.refl e0 pr3 (g := (mkF m 2 #[.val (.ref a1)] [(.ref a1), (.ref a1)])) rfl rfl (hb hby d13_2)
  have K3 : Gx p e below s₁ f0 T2 (mkF m 5 #[.val (.ref a1)] [(.ref sc), (.ref a1)]) := fun t kt => K1 t (st2 t kt)
  have K4 : Gx p e below s₁ f0 T2 (mkF m 7 #[.val (.ref a1)] [(.ref a1), (.ref a1), (.ref sc), (.ref a1)]) := fun t kt => K3 t (by
    show Steps p.tables e below (T2.setTop (mkF m 5 #[.val (.ref a1)] [(.ref sc), (.ref a1)])) _
    refine XS.aloadN X2.here hx rfl (hb hby d13_5) rfl rfl ?_
    show Steps p.tables e below (T2.setTop (mkF m 6 #[.val (.ref a1)] [(.ref a1), (.ref sc), (.ref a1)])) _
    refine XS.dup X2.here hx rfl (hb hby d13_6) rfl rfl ?_
    exact kt)
  obtain ⟨T5, X5, e5, st5⟩ := getF X2 hx hZ hown (host := "") (Or.inl (hw _ (List.mem_of_getElem? (i := 47) rfl))) Via.refl e2 pr4 (g := (mkF m 7 #[.val (.ref a1)] [(.ref a1), (.ref a1), (.ref sc), (.ref a1)])) rfl rfl (hb hby d13_7)
  have K6 : Gx p e below s₁ f0 T5 (mkF m 10 #[.val (.ref a1)] [(.int (2 : Int32)), (.ref a1), (.ref sc), (.ref a1)]) := fun t kt => K4 t (st5 t kt)
  have K7 : Gx p e below s₁ f0 T5 (mkF m 13 #[.val (.ref a1)] [(.int (1 : Int32)), (.ref a1), (.int (1 : Int32)), (.ref sc), (.ref a1)]) := fun t kt => K6 t (by
    show Steps p.tables e below (T5.setTop (mkF m 10 #[.val (.ref a1)] [(.int (2 : Int32)), (.ref a1), (.ref sc), (.ref a1)])) _
    refine XS.iconst X5.here hx rfl (hb hby d13_10) ?_
    show Steps p.tables e below (T5.setTop (mkF m 11 #[.val (.ref a1)] [(.int (1 : Int32)), (.int (2 : Int32)), (.ref a1), (.ref sc), (.ref a1)])) _
    refine XS.isub X5.here hx rfl (hb hby d13_11) rfl ?_
    show Steps p.tables e below (T5.setTop (mkF m 12 #[.val (.ref a1)] [(.int (1 : Int32)), (.ref a1), (.ref sc), (.ref a1)])) _
    refine XS.dupX1 X5.here hx rfl (hb hby d13_12) rfl rfl rfl ?_
    exact kt)
  obtain ⟨T8, h8, X8', e8, W8, st8⟩ := putF X5 hx hZ hown (host := "") (Or.inl (hw _ (List.mem_of_getElem? (i := 47) rfl))) Via.refl e5 pr4 pr0 (Or.inl (hw _ (List.mem_of_getElem? (i := 48) rfl))) (hw _ (List.mem_of_getElem? (i := 27) rfl)) (ty := .int) (by decide) rfl rfl (g := (mkF m 13 #[.val (.ref a1)] [(.int (1 : Int32)), (.ref a1), (.int (1 : Int32)), (.ref sc), (.ref a1)])) rfl rfl (hb hby d13_13)
  obtain ⟨lc8, X8, N8⟩ : ∃ lc, Stand p l e ({ frames := 0, cells := 0, slots := 0, locals := 0 } : Room) s m #[(.ref a1)] below meth c T8 lc 0 0 ∧ Fr n0 lc := ⟨_, X8', Fr.snoc X8' N0 pr7⟩
  have f8_ : Fld Z h8 a1 "com/example/stanzacall/stanzacall/xml/Namespaces" "depth" "I" (.int (1 : Int32)) := pr4.same W8
  have K9 : Gx p e below s₁ f0 T8 (mkF m 16 #[.val (.ref a1)] [(.int (1 : Int32)), (.ref sc), (.ref a1)]) := fun t kt => K7 t (st8 t kt)
  have f10 : Arv Z h8 sc ks .int (16 : Int32) [(.int (0 : Int32)), (.int (1 : Int32)), (.int (0 : Int32)), (.int (0 : Int32)), (.int (0 : Int32)), (.int (0 : Int32)), (.int (0 : Int32)), (.int (0 : Int32)), (.int (0 : Int32)), (.int (0 : Int32)), (.int (0 : Int32)), (.int (0 : Int32)), (.int (0 : Int32)), (.int (0 : Int32)), (.int (0 : Int32)), (.int (0 : Int32))] (.int (0 : Int32)) := (pr6.other W8 (Ne.symm pr8))
  obtain ⟨clq11, Arq11, ckq11, cSq11, cNq11, cHq11, cGq11⟩ := id f10
  have K12 : Gx p e below s₁ f0 T8 (mkF m 17 #[.val (.ref a1)] [(.int (1 : Int32)), (.ref a1)]) := fun t kt => K9 t (by
    show Steps p.tables e below (T8.setTop (mkF m 16 #[.val (.ref a1)] [(.int (1 : Int32)), (.ref sc), (.ref a1)])) _
    refine X8.iaload hx (j := (1 : Int32)) (v := (.int (1 : Int32))) (by rw [e8]; exact Arq11.1) (State.isArrayOf_alike hZ.alike Arq11.2.1) Arq11.2.2 (inb_of cSq11 ⟨by decide, by decide⟩) (Has.at cHq11 (inb_of cSq11 ⟨by decide, by decide⟩) rfl) (g := (mkF m 16 #[.val (.ref a1)] [(.int (1 : Int32)), (.ref sc), (.ref a1)])) rfl rfl (hb hby d13_16) _ ?_
    exact kt)
  have f13 : Fld Z h8 a1 "com/example/stanzacall/stanzacall/xml/Namespaces" "count" "I" (.int (2 : Int32)) := (pr5.other W8 (Or.inr (slot_ne (Or.inl (hw _ (List.mem_of_getElem? (i := 50) rfl))) (Or.inl (hw _ (List.mem_of_getElem? (i := 48) rfl))) (by decide) (t := .int) (t' := .int) (by decide) (by decide))))
  have f14 : Exa Z h8 a1 "com/example/stanzacall/stanzacall/xml/Namespaces" := (pr0.wr W8)
  obtain ⟨T15, h15, X15', e15, W15, st15⟩ := putF X8 hx hZ hown (host := "") (Or.inl (hw _ (List.mem_of_getElem? (i := 49) rfl))) Via.refl e8 f13 f14 (Or.inl (hw _ (List.mem_of_getElem? (i := 50) rfl))) (hw _ (List.mem_of_getElem? (i := 27) rfl)) (ty := .int) (by decide) rfl rfl (g := (mkF m 17 #[.val (.ref a1)] [(.int (1 : Int32)), (.ref a1)])) rfl rfl (hb hby d13_17)
  obtain ⟨lc15, X15, N15⟩ : ∃ lc, Stand p l e ({ frames := 0, cells := 0, slots := 0, locals := 0 } : Room) s m #[(.ref a1)] below meth c T15 lc 0 0 ∧ Fr n0 lc := ⟨_, X15', Fr.snoc X15' N8 pr7⟩
  have f15_ : Fld Z h15 a1 "com/example/stanzacall/stanzacall/xml/Namespaces" "count" "I" (.int (1 : Int32)) := f13.same W15
  have K16 : Gx p e below s₁ f0 T15 (mkF m 20 #[.val (.ref a1)] []) := fun t kt => K12 t (st15 t kt)
  have kp18 : Keep h0 h15 [a1] := (((Keep.refl h0 [a1]).wr W8 (Or.inl (List.mem_of_getElem? (i := 0) rfl))).wr W15 (Or.inl (List.mem_of_getElem? (i := 0) rfl)))
  have f19 : Exa Z h15 a1 "com/example/stanzacall/stanzacall/xml/Namespaces" := (f14.wr W15)
  have f20 : Fld Z h15 a1 "com/example/stanzacall/stanzacall/xml/Namespaces" "prefixes" "[Ljava/lang/String;" (.ref pa) := ((pr1.other W8 (Or.inr (slot_ne (Or.inl (hw _ (List.mem_of_getElem? (i := 36) rfl))) (Or.inl (hw _ (List.mem_of_getElem? (i := 48) rfl))) (by decide) (t := (.array (.object "java/lang/String"))) (t' := .int) (by decide) (by decide)))).other W15 (Or.inr (slot_ne (Or.inl (hw _ (List.mem_of_getElem? (i := 36) rfl))) (Or.inl (hw _ (List.mem_of_getElem? (i := 50) rfl))) (by decide) (t := (.array (.object "java/lang/String"))) (t' := .int) (by decide) (by decide))))
  have f21 : Fld Z h15 a1 "com/example/stanzacall/stanzacall/xml/Namespaces" "uris" "[Ljava/lang/String;" (.ref ua) := ((pr2.other W8 (Or.inr (slot_ne (Or.inl (hw _ (List.mem_of_getElem? (i := 38) rfl))) (Or.inl (hw _ (List.mem_of_getElem? (i := 48) rfl))) (by decide) (t := (.array (.object "java/lang/String"))) (t' := .int) (by decide) (by decide)))).other W15 (Or.inr (slot_ne (Or.inl (hw _ (List.mem_of_getElem? (i := 38) rfl))) (Or.inl (hw _ (List.mem_of_getElem? (i := 50) rfl))) (by decide) (t := (.array (.object "java/lang/String"))) (t' := .int) (by decide) (by decide))))
  have f22 : Fld Z h15 a1 "com/example/stanzacall/stanzacall/xml/Namespaces" "scopes" "[I" (.ref sc) := ((pr3.other W8 (Or.inr (slot_ne (Or.inl (hw _ (List.mem_of_getElem? (i := 41) rfl))) (Or.inl (hw _ (List.mem_of_getElem? (i := 48) rfl))) (by decide) (t := (.array .int)) (t' := .int) (by decide) (by decide)))).other W15 (Or.inr (slot_ne (Or.inl (hw _ (List.mem_of_getElem? (i := 41) rfl))) (Or.inl (hw _ (List.mem_of_getElem? (i := 50) rfl))) (by decide) (t := (.array .int)) (t' := .int) (by decide) (by decide))))
  have f23 : Fld Z h15 a1 "com/example/stanzacall/stanzacall/xml/Namespaces" "depth" "I" (.int (1 : Int32)) := (f8_.other W15 (Or.inr (slot_ne (Or.inl (hw _ (List.mem_of_getElem? (i := 48) rfl))) (Or.inl (hw _ (List.mem_of_getElem? (i := 50) rfl))) (by decide) (t := .int) (t' := .int) (by decide) (by decide))))
  obtain ⟨fs17, hr17, hrun17, hended17, hW17, hsame17⟩ := X15.leave (v := none) (fun _ => rfl)
  refine ⟨_, _, pre0 _ (K16 _ ?_), hrun17, hended17, _, _, rfl, ?_, ⟨_, rfl⟩, hW17, hsame17.mono (by decide) (by decide)⟩
  · exact X15.returnOut hx Bd.returns (hb hby d13_20) hr17
  · show QClose2 Z a1 pa ua sc ks h0 n0 _ T15.heap _
    rw [e15]
    exact ⟨rfl, N15, kp18, f19, f20, f21, f22, f23, f15_⟩
theorem d8_0 : decode prog_73_method_4_code 0 = .ok (.aload_n 0, 1) := by decide +kernel
theorem d8_1 : decode prog_73_method_4_code 1 = .ok (.getfield 18, 3) := by decide +kernel
theorem d8_4 : decode prog_73_method_4_code 4 = .ok (.aload_n 0, 1) := by decide +kernel
theorem d8_5 : decode prog_73_method_4_code 5 = .ok (.getfield 22, 3) := by decide +kernel
theorem d8_8 : decode prog_73_method_4_code 8 = .ok (.iconst 1, 1) := by decide +kernel
theorem d8_9 : decode prog_73_method_4_code 9 = .ok (.isub, 1) := by decide +kernel
theorem d8_10 : decode prog_73_method_4_code 10 = .ok (.iaload, 1) := by decide +kernel
theorem d8_11 : decode prog_73_method_4_code 11 = .ok (.istore_n 3, 1) := by decide +kernel
theorem d8_12 : decode prog_73_method_4_code 12 = .ok (.iload_n 3, 1) := by decide +kernel
theorem d8_13 : decode prog_73_method_4_code 13 = .ok (.aload_n 0, 1) := by decide +kernel
theorem d8_14 : decode prog_73_method_4_code 14 = .ok (.getfield 32, 3) := by decide +kernel
theorem d8_17 : decode prog_73_method_4_code 17 = .ok (.if_icmp .ge 28, 3) := by decide +kernel
theorem d8_45 : decode prog_73_method_4_code 45 = .ok (.aload_n 2, 1) := by decide +kernel
theorem d8_46 : decode prog_73_method_4_code 46 = .ok (.ldc 49, 2) := by decide +kernel
theorem d8_48 : decode prog_73_method_4_code 48 = .ok (.invokevirtual 35, 3) := by decide +kernel
theorem d8_51 : decode prog_73_method_4_code 51 = .ok (.istore_n 3, 1) := by decide +kernel
theorem d8_52 : decode prog_73_method_4_code 52 = .ok (.aload_n 1, 1) := by decide +kernel
theorem d8_53 : decode prog_73_method_4_code 53 = .ok (.ldc 51, 2) := by decide +kernel
theorem d8_55 : decode prog_73_method_4_code 55 = .ok (.invokevirtual 35, 3) := by decide +kernel
theorem d8_58 : decode prog_73_method_4_code 58 = .ok (.iload_n 3, 1) := by decide +kernel
theorem d8_59 : decode prog_73_method_4_code 59 = .ok (.if_icmp .ne 21, 3) := by decide +kernel
theorem d8_62 : decode prog_73_method_4_code 62 = .ok (.aload_n 1, 1) := by decide +kernel
theorem d8_63 : decode prog_73_method_4_code 63 = .ok (.ldc 53, 2) := by decide +kernel
theorem d8_65 : decode prog_73_method_4_code 65 = .ok (.invokevirtual 35, 3) := by decide +kernel
theorem d8_68 : decode prog_73_method_4_code 68 = .ok (.ifCond .ne 12, 3) := by decide +kernel
theorem d8_71 : decode prog_73_method_4_code 71 = .ok (.aload_n 2, 1) := by decide +kernel
theorem d8_72 : decode prog_73_method_4_code 72 = .ok (.ldc 55, 2) := by decide +kernel
theorem d8_74 : decode prog_73_method_4_code 74 = .ok (.invokevirtual 35, 3) := by decide +kernel
theorem d8_77 : decode prog_73_method_4_code 77 = .ok (.ifCond .eq 9, 3) := by decide +kernel
theorem d8_86 : decode prog_73_method_4_code 86 = .ok (.aload_n 2, 1) := by decide +kernel
theorem d8_87 : decode prog_73_method_4_code 87 = .ok (.invokevirtual 59, 3) := by decide +kernel
theorem d8_90 : decode prog_73_method_4_code 90 = .ok (.ifCond .eq 16, 3) := by decide +kernel
theorem d8_93 : decode prog_73_method_4_code 93 = .ok (.aload_n 1, 1) := by decide +kernel
theorem d8_94 : decode prog_73_method_4_code 94 = .ok (.invokevirtual 59, 3) := by decide +kernel
theorem d8_97 : decode prog_73_method_4_code 97 = .ok (.ifCond .ne 9, 3) := by decide +kernel
theorem d8_106 : decode prog_73_method_4_code 106 = .ok (.aload_n 0, 1) := by decide +kernel
theorem d8_107 : decode prog_73_method_4_code 107 = .ok (.getfield 32, 3) := by decide +kernel
theorem d8_110 : decode prog_73_method_4_code 110 = .ok (.aload_n 0, 1) := by decide +kernel
theorem d8_111 : decode prog_73_method_4_code 111 = .ok (.getfield 9, 3) := by decide +kernel
theorem d8_114 : decode prog_73_method_4_code 114 = .ok (.arraylength, 1) := by decide +kernel
theorem d8_115 : decode prog_73_method_4_code 115 = .ok (.if_icmp .ne 43, 3) := by decide +kernel
theorem d8_158 : decode prog_73_method_4_code 158 = .ok (.aload_n 0, 1) := by decide +kernel
theorem d8_159 : decode prog_73_method_4_code 159 = .ok (.getfield 9, 3) := by decide +kernel
theorem d8_162 : decode prog_73_method_4_code 162 = .ok (.aload_n 0, 1) := by decide +kernel
theorem d8_163 : decode prog_73_method_4_code 163 = .ok (.getfield 32, 3) := by decide +kernel
theorem d8_166 : decode prog_73_method_4_code 166 = .ok (.aload_n 1, 1) := by decide +kernel
theorem d8_167 : decode prog_73_method_4_code 167 = .ok (.aastore, 1) := by decide +kernel
theorem d8_168 : decode prog_73_method_4_code 168 = .ok (.aload_n 0, 1) := by decide +kernel
theorem d8_169 : decode prog_73_method_4_code 169 = .ok (.getfield 15, 3) := by decide +kernel
theorem d8_172 : decode prog_73_method_4_code 172 = .ok (.aload_n 0, 1) := by decide +kernel
theorem d8_173 : decode prog_73_method_4_code 173 = .ok (.getfield 32, 3) := by decide +kernel
theorem d8_176 : decode prog_73_method_4_code 176 = .ok (.aload_n 2, 1) := by decide +kernel
theorem d8_177 : decode prog_73_method_4_code 177 = .ok (.aastore, 1) := by decide +kernel
theorem d8_178 : decode prog_73_method_4_code 178 = .ok (.aload_n 0, 1) := by decide +kernel
theorem d8_179 : decode prog_73_method_4_code 179 = .ok (.dup, 1) := by decide +kernel
theorem d8_180 : decode prog_73_method_4_code 180 = .ok (.getfield 32, 3) := by decide +kernel
theorem d8_183 : decode prog_73_method_4_code 183 = .ok (.iconst 1, 1) := by decide +kernel
theorem d8_184 : decode prog_73_method_4_code 184 = .ok (.iadd, 1) := by decide +kernel
theorem d8_185 : decode prog_73_method_4_code 185 = .ok (.putfield 32, 3) := by decide +kernel
theorem d8_188 : decode prog_73_method_4_code 188 = .ok (.return_, 1) := by decide +kernel
theorem pn_8 : plainName "com/example/stanzacall/stanzacall/xml/Namespaces" = true := by first | (simp [plainName, overriddenIn]; done) | decide +kernel
theorem pd__Ljava_lang_Object__Z : parseMethodDescriptor "(Ljava/lang/Object;)Z" = some ⟨[(.object "java/lang/Object")], some .boolean⟩ := by decide +kernel
theorem pd___Z : parseMethodDescriptor "()Z" = some ⟨[], some .boolean⟩ := by decide +kernel
theorem ef_Decl0 (m : MethodId) (a1 : Addr) (a2 : Addr) (a3 : Addr) : entryFrame m #[(.ref a1), (.ref a2), (.ref a3)] 4 = mkF m 0 #[.val (.ref a1), .val (.ref a2), .val (.ref a3), .unset] [] := by first | (simp [entryFrame, mkF, argsToLocals, Value.category]; done) | rfl
def QDecl0 (Z : State) (a1 : Addr) (a2 : Addr) (a3 : Addr) (pa : Addr) (ua : Addr) (sc : Addr) (kp : ClassId) (ku : ClassId) (ks : ClassId) (vB : Addr) (kb : ClassId) (zb : Int32) (xb : List Value) (vC : Addr) (kc_ : ClassId) (zc : Int32) (xc : List Value) (cw : Int32) (h0 : Heap) (n0 : Nat) (v : Option Value) (h : Heap) (L : List Loc) : Prop := v = none ∧ Fr n0 L ∧ Keep h0 h [a1, pa, ua] ∧ Exa Z h a1 "com/example/stanzacall/stanzacall/xml/Namespaces" ∧ Fld Z h a1 "com/example/stanzacall/stanzacall/xml/Namespaces" "prefixes" "[Ljava/lang/String;" (.ref pa) ∧ Fld Z h a1 "com/example/stanzacall/stanzacall/xml/Namespaces" "uris" "[Ljava/lang/String;" (.ref ua) ∧ Fld Z h a1 "com/example/stanzacall/stanzacall/xml/Namespaces" "scopes" "[I" (.ref sc) ∧ Fld Z h a1 "com/example/stanzacall/stanzacall/xml/Namespaces" "depth" "I" (.int (1 : Int32)) ∧ Fld Z h a1 "com/example/stanzacall/stanzacall/xml/Namespaces" "count" "I" (.int (1 : Int32)) ∧ Arv Z h pa kp (.object "java/lang/String") (16 : Int32) [(.ref a2), .null, .null, .null, .null, .null, .null, .null, .null, .null, .null, .null, .null, .null, .null, .null] .null ∧ Arv Z h ua ku (.object "java/lang/String") (16 : Int32) [(.ref a3), .null, .null, .null, .null, .null, .null, .null, .null, .null, .null, .null, .null, .null, .null, .null] .null
set_option maxRecDepth 65536 in
set_option maxHeartbeats 40000000 in
theorem rmDecl0 (l : Launch) (Z : State) (a0 : Array Value) (hw : ∀ d ∈ tables_1, d.before a0 Z = true) (ws : List Jvm.Cond) (a1 : Addr) (a2 : Addr) (a3 : Addr) (pa : Addr) (ua : Addr) (sc : Addr) (kp : ClassId) (ku : ClassId) (ks : ClassId) (vB : Addr) (kb : ClassId) (zb : Int32) (xb : List Value) (vC : Addr) (kc_ : ClassId) (zc : Int32) (xc : List Value) (cw : Int32) (h0 : Heap) (n0 : Nat) (Z0 : n0 ≤ h0.size) (pr0 : Exa Z h0 a1 "com/example/stanzacall/stanzacall/xml/Namespaces") (pr1 : Fld Z h0 a1 "com/example/stanzacall/stanzacall/xml/Namespaces" "prefixes" "[Ljava/lang/String;" (.ref pa)) (pr2 : Fld Z h0 a1 "com/example/stanzacall/stanzacall/xml/Namespaces" "uris" "[Ljava/lang/String;" (.ref ua)) (pr3 : Fld Z h0 a1 "com/example/stanzacall/stanzacall/xml/Namespaces" "scopes" "[I" (.ref sc)) (pr4 : Fld Z h0 a1 "com/example/stanzacall/stanzacall/xml/Namespaces" "depth" "I" (.int (1 : Int32))) (pr5 : Fld Z h0 a1 "com/example/stanzacall/stanzacall/xml/Namespaces" "count" "I" (.int (0 : Int32))) (pr6 : Arv Z h0 pa kp (.object "java/lang/String") (16 : Int32) [.null, .null, .null, .null, .null, .null, .null, .null, .null, .null, .null, .null, .null, .null, .null, .null] .null) (pr7 : Arv Z h0 ua ku (.object "java/lang/String") (16 : Int32) [.null, .null, .null, .null, .null, .null, .null, .null, .null, .null, .null, .null, .null, .null, .null, .null] .null) (pr8 : Arv Z h0 sc ks .int (16 : Int32) [(.int (0 : Int32)), (.int (0 : Int32)), (.int (0 : Int32)), (.int (0 : Int32)), (.int (0 : Int32)), (.int (0 : Int32)), (.int (0 : Int32)), (.int (0 : Int32)), (.int (0 : Int32)), (.int (0 : Int32)), (.int (0 : Int32)), (.int (0 : Int32)), (.int (0 : Int32)), (.int (0 : Int32)), (.int (0 : Int32)), (.int (0 : Int32))] (.int (0 : Int32))) (pr9 : Ovr Z kp "java/lang/String") (pr10 : Ovr Z ku "java/lang/String") (pr11 : Exa Z h0 a2 "java/lang/String") (pr12 : Fld Z h0 a2 "java/lang/String" "coder" "B" (.int (0 : Int32))) (pr13 : Fld Z h0 a2 "java/lang/String" "value" "[B" (.ref vB)) (pr14 : Arv Z h0 vB kb .byte zb xb (.int (0 : Int32))) (pr15 : Exa Z h0 a3 "java/lang/String") (pr16 : Fld Z h0 a3 "java/lang/String" "coder" "B" (.int (0 : Int32))) (pr17 : Fld Z h0 a3 "java/lang/String" "value" "[B" (.ref vC)) (pr18 : Arv Z h0 vC kc_ .byte zc xc (.int (0 : Int32))) (pr19 : Old Z n0 h0) (pr20 : Sta Z Z.heap "java/lang/String" "COMPACT_STRINGS" "Z" (.int cw)) (hcw : ¬ (cw = (0 : Int32))) (pr22 : n0 ≤ a1) (pr23 : n0 ≤ pa) (pr24 : n0 ≤ ua) (pr25 : a1 ≠ pa) (pr26 : a1 ≠ ua) (pr27 : a1 ≠ sc) (pr28 : pa ≠ ua) (pr29 : pa ≠ sc) (pr30 : ua ≠ sc) (hz2 : zb = (0 : Int32) ∨ zb = (1 : Int32)) (hz3 : zc = (0 : Int32) ∨ zc = (1 : Int32)) (hzz : zc = (0 : Int32) → zb = (0 : Int32)) :
    MetFree l (⟨"com/example/stanzacall/stanzacall/xml/Namespaces", "declare", "(Ljava/lang/String;Ljava/lang/String;)V"⟩ : MethodName) (head1 (Jvm.Cond.code (⟨"com/example/stanzacall/stanzacall/xml/Namespaces", "declare", "(Ljava/lang/String;Ljava/lang/String;)V"⟩ : MethodName) prog_73_method_4_code 4 none :: ws) ({ frames := 2, cells := 8, slots := 308, locals := 28 } : Room)) (fun a U => a = #[(.ref a1), (.ref a2), (.ref a3)] ∧ Z.Warmed39 U.vm ∧ U.heap = h0 ∧ CHv Z ELx U.vm h0) (fun _ _ _ _ _ => True) (fun _ U o U' => ∃ v L, o = .returned v ∧ QDecl0 Z a1 a2 a3 pa ua sc kp ku ks vB kb zb xb vC kc_ zc xc cw h0 n0 v U'.heap L ∧ CHr Z ELx U.vm U.heap U'.vm U'.heap ∧ ReturnedEndW U o U' L ({ frames := 2, cells := 8, slots := 308, locals := 28 } : Room).cells ({ frames := 2, cells := 8, slots := 308, locals := 28 } : Room).slots) := by
  refine MetFree.of_bodySF (plainFor_of_name pn_8) hisR ?_
  intro p e s m args below meth c s₁ Bd hml0 hP hK
  obtain ⟨rfl, hZ, hh, hCH⟩ := hP
  have hx := Bd.exec
  have hby := Bd.bytes
  have hml : c.maxLocals = 4 := hml0
  have hown : s.vm.findClass "com/example/stanzacall/stanzacall/xml/Namespaces" = some m.cls := findClass_of_methodNamed Bd.named
  have hnm := (name_of_methodNamed Bd.named Bd.method).1
  have X0 : Stand p l e ({ frames := 2, cells := 8, slots := 308, locals := 28 } : Room) (s.setVm s.vm) m #[(.ref a1), (.ref a2), (.ref a3)] below meth c s₁ [] 0 0 := Stand.of_body Bd
  have hZ : Z.Warmed39 (s.setVm s.vm).vm := hZ
  have hown : (s.setVm s.vm).vm.findClass "com/example/stanzacall/stanzacall/xml/Namespaces" = some m.cls := hown
  have CR0 : CHr Z ELx s.vm h0 s.vm h0 := CHr.refl hCH
  have hS0 : s.Since s.vm h0.size := State.WarmedH.since (State.WarmedH.refl s) _
  have hk0 : h0.size ≤ h0.size := Nat.le_refl _
  have hs0 : h0 = s.heap := hh.symm
  have e0 : s₁.heap = h0 := by rw [← hh, Bd.state]; rfl
  have N0 := Fr.nil n0
  obtain ⟨f0, hf0⟩ : ∃ f, f = entryFrame m #[(.ref a1), (.ref a2), (.ref a3)] 4 := ⟨_, rfl⟩
  have pre0 : ∀ t, Steps p.tables e below (s₁.setTop f0) t → Steps p.tables e below (s₁.setTop (entryFrame m #[(.ref a1), (.ref a2), (.ref a3)] 4)) t := fun t k => hf0 ▸ k
  have K0 : Gx p e below s₁ f0 s₁ (mkF m 0 #[.val (.ref a1), .val (.ref a2), .val (.ref a3), .unset] []) := fun t kt => by rw [hf0]; exact castTop (ef_Decl0 m a1 a2 a3) kt
  have K1 : Gx p e below s₁ f0 s₁ (mkF m 1 #[.val (.ref a1), .val (.ref a2), .val (.ref a3), .unset] [(.ref a1)]) := fun t kt => K0 t (by
    show Steps p.tables e below (s₁.setTop (mkF m 0 #[.val (.ref a1), .val (.ref a2), .val (.ref a3), .unset] [])) _
    refine XS.aloadN X0.here hx rfl (hb hby d8_0) rfl rfl ?_
    exact kt)
  obtain ⟨T2, X2, e2, st2⟩ := getF X0 hx hZ hown (host := "") (Or.inl (hw _ (List.mem_of_getElem? (i := 40) rfl))) Via.refl e0 pr3 (g := (mkF m 1 #[.val (.ref a1), .val (.ref a2), .val (.ref a3), .unset] [(.ref a1)])) rfl rfl (hb hby d8_1)
  have K3 : Gx p e below s₁ f0 T2 (mkF m 4 #[.val (.ref a1), .val (.ref a2), .val (.ref a3), .unset] [(.ref sc)]) := fun t kt => K1 t (st2 t kt)
  have K4 : Gx p e below s₁ f0 T2 (mkF m 5 #[.val (.ref a1), .val (.ref a2), .val (.ref a3), .unset] [(.ref a1), (.ref sc)]) := fun t kt => K3 t (by
    show Steps p.tables e below (T2.setTop (mkF m 4 #[.val (.ref a1), .val (.ref a2), .val (.ref a3), .unset] [(.ref sc)])) _
    refine XS.aloadN X2.here hx rfl (hb hby d8_4) rfl rfl ?_
    exact kt)
  obtain ⟨T5, X5, e5, st5⟩ := getF X2 hx hZ hown (host := "") (Or.inl (hw _ (List.mem_of_getElem? (i := 47) rfl))) Via.refl e2 pr4 (g := (mkF m 5 #[.val (.ref a1), .val (.ref a2), .val (.ref a3), .unset] [(.ref a1), (.ref sc)])) rfl rfl (hb hby d8_5)
  have K6 : Gx p e below s₁ f0 T5 (mkF m 8 #[.val (.ref a1), .val (.ref a2), .val (.ref a3), .unset] [(.int (1 : Int32)), (.ref sc)]) := fun t kt => K4 t (st5 t kt)
  obtain ⟨clq7, Arq7, ckq7, cSq7, cNq7, cHq7, cGq7⟩ := id pr8
  have K8 : Gx p e below s₁ f0 T5 (mkF m 14 #[.val (.ref a1), .val (.ref a2), .val (.ref a3), .val (.int (0 : Int32))] [(.ref a1), (.int (0 : Int32))]) := fun t kt => K6 t (by
    show Steps p.tables e below (T5.setTop (mkF m 8 #[.val (.ref a1), .val (.ref a2), .val (.ref a3), .unset] [(.int (1 : Int32)), (.ref sc)])) _
    refine XS.iconst X5.here hx rfl (hb hby d8_8) ?_
    show Steps p.tables e below (T5.setTop (mkF m 9 #[.val (.ref a1), .val (.ref a2), .val (.ref a3), .unset] [(.int (1 : Int32)), (.int (1 : Int32)), (.ref sc)])) _
    refine XS.isub X5.here hx rfl (hb hby d8_9) rfl ?_
    show Steps p.tables e below (T5.setTop (mkF m 10 #[.val (.ref a1), .val (.ref a2), .val (.ref a3), .unset] [(.int (0 : Int32)), (.ref sc)])) _
    refine X5.iaload hx (j := (0 : Int32)) (v := (.int (0 : Int32))) (by rw [e5]; exact Arq7.1) (State.isArrayOf_alike hZ.alike Arq7.2.1) Arq7.2.2 (inb_of cSq7 ⟨by decide, by decide⟩) (Has.at cHq7 (inb_of cSq7 ⟨by decide, by decide⟩) rfl) (g := (mkF m 10 #[.val (.ref a1), .val (.ref a2), .val (.ref a3), .unset] [(.int (0 : Int32)), (.ref sc)])) rfl rfl (hb hby d8_10) _ ?_
    show Steps p.tables e below (T5.setTop (mkF m 11 #[.val (.ref a1), .val (.ref a2), .val (.ref a3), .unset] [(.int (0 : Int32))])) _
    refine XS.istoreN X5.here hx rfl (hb hby d8_11) rfl (l' := #[.val (.ref a1), .val (.ref a2), .val (.ref a3), .val (.int (0 : Int32))]) rfl ?_
    show Steps p.tables e below (T5.setTop (mkF m 12 #[.val (.ref a1), .val (.ref a2), .val (.ref a3), .val (.int (0 : Int32))] [])) _
    refine XS.iloadN X5.here hx rfl (hb hby d8_12) rfl ?_
    show Steps p.tables e below (T5.setTop (mkF m 13 #[.val (.ref a1), .val (.ref a2), .val (.ref a3), .val (.int (0 : Int32))] [(.int (0 : Int32))])) _
    refine XS.aloadN X5.here hx rfl (hb hby d8_13) rfl rfl ?_
    exact kt)
  obtain ⟨T9, X9, e9, st9⟩ := getF X5 hx hZ hown (host := "") (Or.inl (hw _ (List.mem_of_getElem? (i := 49) rfl))) Via.refl e5 pr5 (g := (mkF m 14 #[.val (.ref a1), .val (.ref a2), .val (.ref a3), .val (.int (0 : Int32))] [(.ref a1), (.int (0 : Int32))])) rfl rfl (hb hby d8_14)
  have K10 : Gx p e below s₁ f0 T9 (mkF m 17 #[.val (.ref a1), .val (.ref a2), .val (.ref a3), .val (.int (0 : Int32))] [(.int (0 : Int32)), (.int (0 : Int32))]) := fun t kt => K8 t (st9 t kt)
  have K11 : Gx p e below s₁ f0 T9 (mkF m 46 #[.val (.ref a1), .val (.ref a2), .val (.ref a3), .val (.int (0 : Int32))] [(.ref a3)]) := fun t kt => K10 t (by
    show Steps p.tables e below (T9.setTop (mkF m 17 #[.val (.ref a1), .val (.ref a2), .val (.ref a3), .val (.int (0 : Int32))] [(.int (0 : Int32)), (.int (0 : Int32))])) _
    refine XS.icmpYes X9.here hx rfl (pc0 := 17) (pc' := 45) rfl (hb hby d8_17) rfl (flt (by decide)).2.1 (by decide) (by decide) ?_
    show Steps p.tables e below (T9.setTop (mkF m 45 #[.val (.ref a1), .val (.ref a2), .val (.ref a3), .val (.int (0 : Int32))] [])) _
    refine XS.aloadN X9.here hx rfl (hb hby d8_45) rfl rfl ?_
    exact kt)
  obtain ⟨sa12, T12, h12, kk12, sb12, kc12, X12, e12, E12, hS12, hk12, hZ, hown, A12, Fc12, Fv12, V12, -, -, CRq12, -, Sf12, st12⟩ := ldcCH (s := s) (vm0 := s.vm) X9 hx hZ hown (hw _ (List.mem_of_getElem? (i := 56) rfl)) (own_wS hw) e9 hS0 hk0 (own_EW hw) (List.mem_of_getElem? (i := 0) rfl) CR0.1 (vs := [(.int (104 : Int32)), (.int (116 : Int32)), (.int (116 : Int32)), (.int (112 : Int32)), (.int (58 : Int32)), (.int (47 : Int32)), (.int (47 : Int32)), (.int (119 : Int32)), (.int (119 : Int32)), (.int (119 : Int32)), (.int (46 : Int32)), (.int (119 : Int32)), (.int (51 : Int32)), (.int (46 : Int32)), (.int (111 : Int32)), (.int (114 : Int32)), (.int (103 : Int32)), (.int (47 : Int32)), (.int (88 : Int32)), (.int (77 : Int32)), (.int (76 : Int32)), (.int (47 : Int32)), (.int (49 : Int32)), (.int (57 : Int32)), (.int (57 : Int32)), (.int (56 : Int32)), (.int (47 : Int32)), (.int (110 : Int32)), (.int (97 : Int32)), (.int (109 : Int32)), (.int (101 : Int32)), (.int (115 : Int32)), (.int (112 : Int32)), (.int (97 : Int32)), (.int (99 : Int32)), (.int (101 : Int32))]) (z := (36 : Int32)) ⟨by decide +kernel, by rfl⟩ (by decide) rfl (g := (mkF m 46 #[.val (.ref a1), .val (.ref a2), .val (.ref a3), .val (.int (0 : Int32))] [(.ref a3)])) rfl (hb hby d8_46) (n := 144) (by decide +kernel) (by decide) (by decide) (by decide)
  have CR13 : CHr Z ELx s.vm h0 T12.vm h12 := CR0.trans CRq12
  have f14 : Exa Z h12 a1 "com/example/stanzacall/stanzacall/xml/Namespaces" := (pr0.ext E12)
  have nn15 := Sf12 a1 (Safe.exa hZ.alike f14 (by decide) (by decide))
  have f16 : Exa Z h12 a2 "java/lang/String" := (pr11.ext E12)
  have f17 : Exa Z h12 a3 "java/lang/String" := (pr15.ext E12)
  have f18 : Arv Z h12 pa kp (.object "java/lang/String") (16 : Int32) [.null, .null, .null, .null, .null, .null, .null, .null, .null, .null, .null, .null, .null, .null, .null, .null] .null := (pr6.ext E12)
  obtain ⟨clq19, Arq19, ckq19, cSq19, cNq19, cHq19, cGq19⟩ := id f18
  have nn20 := Sf12 pa (Safe.arr hZ.alike Arq19 (by decide))
  have f21 : Arv Z h12 sc ks .int (16 : Int32) [(.int (0 : Int32)), (.int (0 : Int32)), (.int (0 : Int32)), (.int (0 : Int32)), (.int (0 : Int32)), (.int (0 : Int32)), (.int (0 : Int32)), (.int (0 : Int32)), (.int (0 : Int32)), (.int (0 : Int32)), (.int (0 : Int32)), (.int (0 : Int32)), (.int (0 : Int32)), (.int (0 : Int32)), (.int (0 : Int32)), (.int (0 : Int32))] (.int (0 : Int32)) := (pr8.ext E12)
  obtain ⟨clq22, Arq22, ckq22, cSq22, cNq22, cHq22, cGq22⟩ := id f21
  have nn23 := Sf12 sc (Safe.arr hZ.alike Arq22 (by decide))
  have f24 : Arv Z h12 ua ku (.object "java/lang/String") (16 : Int32) [.null, .null, .null, .null, .null, .null, .null, .null, .null, .null, .null, .null, .null, .null, .null, .null] .null := (pr7.ext E12)
  obtain ⟨clq25, Arq25, ckq25, cSq25, cNq25, cHq25, cGq25⟩ := id f24
  have nn26 := Sf12 ua (Safe.arr hZ.alike Arq25 (by decide))
  have f27 : Arv Z h12 vB kb .byte zb xb (.int (0 : Int32)) := (pr14.ext E12)
  obtain ⟨clq28, Arq28, ckq28, cSq28, cNq28, cHq28, cGq28⟩ := id f27
  have f29 : Arv Z h12 vC kc_ .byte zc xc (.int (0 : Int32)) := (pr18.ext E12)
  obtain ⟨clq30, Arq30, ckq30, cSq30, cNq30, cHq30, cGq30⟩ := id f29
  have K31 : Gx p e below s₁ f0 T12 (mkF m 48 #[.val (.ref a1), .val (.ref a2), .val (.ref a3), .val (.int (0 : Int32))] [(.ref sa12), (.ref a3)]) := fun t kt => K11 t (st12 t kt)
  have f32 : Fld Z h12 a3 "java/lang/String" "coder" "B" (.int (0 : Int32)) := (pr16.ext E12)
  have f33 : Fld Z h12 a3 "java/lang/String" "value" "[B" (.ref vC) := (pr17.ext E12)
  have f34 : Old Z n0 h12 := (pr19.ext E12)
  have kp35 : Keep h0 h12 [a1, pa, ua] := ((Keep.refl h0 [a1, pa, ua]).ext E12)
  obtain ⟨cq36, kq36, q36a, q36b, q36c⟩ := isOf hZ e12 f17
  obtain ⟨_, _, ⟨T36, L36, k36, n36⟩, -, X36', ⟨Lc36, hQ36, l36, y36, z36⟩, st36⟩ := X12.virtualBack hx (y := (⟨"java/lang/String", "equals", "(Ljava/lang/Object;)Z"⟩ : MethodName)) (z := (⟨"java/lang/String", "equals", "(Ljava/lang/Object;)Z"⟩ : MethodName)) hown (mvT hZ (hw _ (List.mem_of_getElem? (i := 59) rfl))) (mvT hZ (hw _ (List.mem_of_getElem? (i := 60) rfl))) (notFace_of_selects (args := #[]) (mvT hZ (hw _ (List.mem_of_getElem? (i := 62) rfl)))) (mvT hZ (hw _ (List.mem_of_getElem? (i := 62) rfl))) (mvT hZ (hw _ (List.mem_of_getElem? (i := 61) rfl))) (by decide) (backOf (W := 0) (rmEne l Z a0 hw [] a3 sa12 vC sb12 kc_ kc12 zc (36 : Int32) xc [(.int (104 : Int32)), (.int (116 : Int32)), (.int (116 : Int32)), (.int (112 : Int32)), (.int (58 : Int32)), (.int (47 : Int32)), (.int (47 : Int32)), (.int (119 : Int32)), (.int (119 : Int32)), (.int (119 : Int32)), (.int (46 : Int32)), (.int (119 : Int32)), (.int (51 : Int32)), (.int (46 : Int32)), (.int (111 : Int32)), (.int (114 : Int32)), (.int (103 : Int32)), (.int (47 : Int32)), (.int (88 : Int32)), (.int (77 : Int32)), (.int (76 : Int32)), (.int (47 : Int32)), (.int (49 : Int32)), (.int (57 : Int32)), (.int (57 : Int32)), (.int (56 : Int32)), (.int (47 : Int32)), (.int (110 : Int32)), (.int (97 : Int32)), (.int (109 : Int32)), (.int (101 : Int32)), (.int (115 : Int32)), (.int (112 : Int32)), (.int (97 : Int32)), (.int (99 : Int32)), (.int (101 : Int32))] cw h12 n0 (Nat.le_trans Z0 kp35.1) f32 f33 f29 A12 Fc12 Fv12 V12 f34 pr20 hcw (by rcases hz3 with q | q <;> rw [q] <;> decide)) hZ (hw _ (List.mem_of_getElem? (i := 63) rfl)) (hw _ (List.mem_of_getElem? (i := 2) rfl)) (by decide) (by decide)) q36a q36c (g := (mkF m 48 #[.val (.ref a1), .val (.ref a2), .val (.ref a3), .val (.int (0 : Int32))] [(.ref sa12), (.ref a3)])) rfl (by rw [hml]; rfl) (Steps.refl _) (argsL := [(.ref sa12)]) (rest := []) (lenOf pd__Ljava_lang_Object__Z rfl) rfl (by show 2 * 0 + _ ≤ _; exact Nat.le_of_eq rfl) (hb hby d8_48) (fun _ _ => ⟨rfl, e12, (by decide : 2 + 0 ≤ _), (by decide : 148 + 0 ≤ _)⟩)
  dsimp only [Pt.U, Pt.locs, Pt.cells, Pt.slots] at X36' l36 y36 z36 st36 hQ36
  subst l36 y36 z36
  obtain ⟨rfl, N36q, e36⟩ := hQ36
  obtain ⟨lc36, X36, N36⟩ : ∃ lc, Stand p l e ({ frames := 2, cells := 8, slots := 308, locals := 28 } : Room) (s.setVm T12.vm) m #[(.ref a1), (.ref a2), (.ref a3)] below meth c T36 lc 2 148 ∧ Fr n0 lc := ⟨_, X36', Fr.app N0 N36q⟩
  have K37 : Gx p e below s₁ f0 T36 (mkF m 51 #[.val (.ref a1), .val (.ref a2), .val (.ref a3), .val (.int (0 : Int32))] [(.int (0 : Int32))]) := fun t kt => K31 t (st36.trans kt)
  have K38 : Gx p e below s₁ f0 T36 (mkF m 53 #[.val (.ref a1), .val (.ref a2), .val (.ref a3), .val (.int (0 : Int32))] [(.ref a2)]) := fun t kt => K37 t (by
    show Steps p.tables e below (T36.setTop (mkF m 51 #[.val (.ref a1), .val (.ref a2), .val (.ref a3), .val (.int (0 : Int32))] [(.int (0 : Int32))])) _
    refine XS.istoreN X36.here hx rfl (hb hby d8_51) rfl (l' := #[.val (.ref a1), .val (.ref a2), .val (.ref a3), .val (.int (0 : Int32))]) rfl ?_
    show Steps p.tables e below (T36.setTop (mkF m 52 #[.val (.ref a1), .val (.ref a2), .val (.ref a3), .val (.int (0 : Int32))] [])) _
    refine XS.aloadN X36.here hx rfl (hb hby d8_52) rfl rfl ?_
    exact kt)
  obtain ⟨sa39, T39, h39, kk39, sb39, kc39, X39, e39, E39, hS39, hk39, hZ, hown, A39, Fc39, Fv39, V39, -, -, CRq39, -, Sf39, st39⟩ := ldcCH (s := s) (vm0 := T12.vm) X36 hx hZ hown (hw _ (List.mem_of_getElem? (i := 67) rfl)) (own_wS hw) e36 hS12 hk12 (own_EW hw) (List.mem_of_getElem? (i := 1) rfl) CR13.1 (vs := [(.int (120 : Int32)), (.int (109 : Int32)), (.int (108 : Int32))]) (z := (3 : Int32)) ⟨by decide +kernel, by rfl⟩ (by decide) rfl (g := (mkF m 53 #[.val (.ref a1), .val (.ref a2), .val (.ref a3), .val (.int (0 : Int32))] [(.ref a2)])) rfl (hb hby d8_53) (n := 12) (by decide +kernel) (by decide) (by decide) (by decide)
  have CR40 : CHr Z ELx s.vm h0 T39.vm h39 := CR13.trans CRq39
  have f41 : Exa Z h39 a1 "com/example/stanzacall/stanzacall/xml/Namespaces" := (f14.ext E39)
  have nn42 := Sf39 a1 (Safe.exa hZ.alike f41 (by decide) (by decide))
  have f43 : Exa Z h39 a2 "java/lang/String" := (f16.ext E39)
  have f44 : Exa Z h39 a3 "java/lang/String" := (f17.ext E39)
  have f45 : Arv Z h39 pa kp (.object "java/lang/String") (16 : Int32) [.null, .null, .null, .null, .null, .null, .null, .null, .null, .null, .null, .null, .null, .null, .null, .null] .null := (f18.ext E39)
  obtain ⟨clq46, Arq46, ckq46, cSq46, cNq46, cHq46, cGq46⟩ := id f45
  have nn47 := Sf39 pa (Safe.arr hZ.alike Arq46 (by decide))
  have f48 : Exa Z h39 sa12 "java/lang/String" := (A12.ext E39)
  have f49 : Arv Z h39 sb12 kc12 .byte (36 : Int32) [(.int (104 : Int32)), (.int (116 : Int32)), (.int (116 : Int32)), (.int (112 : Int32)), (.int (58 : Int32)), (.int (47 : Int32)), (.int (47 : Int32)), (.int (119 : Int32)), (.int (119 : Int32)), (.int (119 : Int32)), (.int (46 : Int32)), (.int (119 : Int32)), (.int (51 : Int32)), (.int (46 : Int32)), (.int (111 : Int32)), (.int (114 : Int32)), (.int (103 : Int32)), (.int (47 : Int32)), (.int (88 : Int32)), (.int (77 : Int32)), (.int (76 : Int32)), (.int (47 : Int32)), (.int (49 : Int32)), (.int (57 : Int32)), (.int (57 : Int32)), (.int (56 : Int32)), (.int (47 : Int32)), (.int (110 : Int32)), (.int (97 : Int32)), (.int (109 : Int32)), (.int (101 : Int32)), (.int (115 : Int32)), (.int (112 : Int32)), (.int (97 : Int32)), (.int (99 : Int32)), (.int (101 : Int32))] (.int (0 : Int32)) := (V12.ext E39)
  obtain ⟨clq50, Arq50, ckq50, cSq50, cNq50, cHq50, cGq50⟩ := id f49
  have f51 : Arv Z h39 sc ks .int (16 : Int32) [(.int (0 : Int32)), (.int (0 : Int32)), (.int (0 : Int32)), (.int (0 : Int32)), (.int (0 : Int32)), (.int (0 : Int32)), (.int (0 : Int32)), (.int (0 : Int32)), (.int (0 : Int32)), (.int (0 : Int32)), (.int (0 : Int32)), (.int (0 : Int32)), (.int (0 : Int32)), (.int (0 : Int32)), (.int (0 : Int32)), (.int (0 : Int32))] (.int (0 : Int32)) := (f21.ext E39)
  obtain ⟨clq52, Arq52, ckq52, cSq52, cNq52, cHq52, cGq52⟩ := id f51
  have nn53 := Sf39 sc (Safe.arr hZ.alike Arq52 (by decide))
  have f54 : Arv Z h39 ua ku (.object "java/lang/String") (16 : Int32) [.null, .null, .null, .null, .null, .null, .null, .null, .null, .null, .null, .null, .null, .null, .null, .null] .null := (f24.ext E39)
  obtain ⟨clq55, Arq55, ckq55, cSq55, cNq55, cHq55, cGq55⟩ := id f54
  have nn56 := Sf39 ua (Safe.arr hZ.alike Arq55 (by decide))
  have f57 : Arv Z h39 vB kb .byte zb xb (.int (0 : Int32)) := (f27.ext E39)
  obtain ⟨clq58, Arq58, ckq58, cSq58, cNq58, cHq58, cGq58⟩ := id f57
  have f59 : Arv Z h39 vC kc_ .byte zc xc (.int (0 : Int32)) := (f29.ext E39)
  obtain ⟨clq60, Arq60, ckq60, cSq60, cNq60, cHq60, cGq60⟩ := id f59
  have K61 : Gx p e below s₁ f0 T39 (mkF m 55 #[.val (.ref a1), .val (.ref a2), .val (.ref a3), .val (.int (0 : Int32))] [(.ref sa39), (.ref a2)]) := fun t kt => K38 t (st39 t kt)
  have f62 : Fld Z h39 a2 "java/lang/String" "coder" "B" (.int (0 : Int32)) := ((pr12.ext E12).ext E39)
  have f63 : Fld Z h39 a2 "java/lang/String" "value" "[B" (.ref vB) := ((pr13.ext E12).ext E39)
  have f64 : Old Z n0 h39 := (f34.ext E39)
  have kp65 : Keep h0 h39 [a1, pa, ua] := (kp35.ext E39)
  obtain ⟨cq66, kq66, q66a, q66b, q66c⟩ := isOf hZ e39 f43
  obtain ⟨_, _, ⟨T66, L66, k66, n66⟩, -, X66', ⟨Lc66, hQ66, l66, y66, z66⟩, st66⟩ := X39.virtualBack hx (y := (⟨"java/lang/String", "equals", "(Ljava/lang/Object;)Z"⟩ : MethodName)) (z := (⟨"java/lang/String", "equals", "(Ljava/lang/Object;)Z"⟩ : MethodName)) hown (mvT hZ (hw _ (List.mem_of_getElem? (i := 59) rfl))) (mvT hZ (hw _ (List.mem_of_getElem? (i := 60) rfl))) (notFace_of_selects (args := #[]) (mvT hZ (hw _ (List.mem_of_getElem? (i := 62) rfl)))) (mvT hZ (hw _ (List.mem_of_getElem? (i := 62) rfl))) (mvT hZ (hw _ (List.mem_of_getElem? (i := 61) rfl))) (by decide) (backOf (W := 0) (rmEne l Z a0 hw [] a2 sa39 vB sb39 kb kc39 zb (3 : Int32) xb [(.int (120 : Int32)), (.int (109 : Int32)), (.int (108 : Int32))] cw h39 n0 (Nat.le_trans Z0 kp65.1) f62 f63 f57 A39 Fc39 Fv39 V39 f64 pr20 hcw (by rcases hz2 with q | q <;> rw [q] <;> decide)) hZ (hw _ (List.mem_of_getElem? (i := 63) rfl)) (hw _ (List.mem_of_getElem? (i := 2) rfl)) (by decide) (by decide)) q66a q66c (g := (mkF m 55 #[.val (.ref a1), .val (.ref a2), .val (.ref a3), .val (.int (0 : Int32))] [(.ref sa39), (.ref a2)])) rfl (by rw [hml]; rfl) (Steps.refl _) (argsL := [(.ref sa39)]) (rest := []) (lenOf pd__Ljava_lang_Object__Z rfl) rfl (by show 2 * 0 + _ ≤ _; exact Nat.le_of_eq rfl) (hb hby d8_55) (fun _ _ => ⟨rfl, e39, (by decide : 4 + 0 ≤ _), (by decide : 164 + 0 ≤ _)⟩)
  dsimp only [Pt.U, Pt.locs, Pt.cells, Pt.slots] at X66' l66 y66 z66 st66 hQ66
  subst l66 y66 z66
  obtain ⟨rfl, N66q, e66⟩ := hQ66
  obtain ⟨lc66, X66, N66⟩ : ∃ lc, Stand p l e ({ frames := 2, cells := 8, slots := 308, locals := 28 } : Room) (s.setVm T39.vm) m #[(.ref a1), (.ref a2), (.ref a3)] below meth c T66 lc 4 164 ∧ Fr n0 lc := ⟨_, X66', Fr.app N36 N66q⟩
  have K67 : Gx p e below s₁ f0 T66 (mkF m 58 #[.val (.ref a1), .val (.ref a2), .val (.ref a3), .val (.int (0 : Int32))] [(.int (0 : Int32))]) := fun t kt => K61 t (st66.trans kt)
  have K68 : Gx p e below s₁ f0 T66 (mkF m 63 #[.val (.ref a1), .val (.ref a2), .val (.ref a3), .val (.int (0 : Int32))] [(.ref a2)]) := fun t kt => K67 t (by
    show Steps p.tables e below (T66.setTop (mkF m 58 #[.val (.ref a1), .val (.ref a2), .val (.ref a3), .val (.int (0 : Int32))] [(.int (0 : Int32))])) _
    refine XS.iloadN X66.here hx rfl (hb hby d8_58) rfl ?_
    show Steps p.tables e below (T66.setTop (mkF m 59 #[.val (.ref a1), .val (.ref a2), .val (.ref a3), .val (.int (0 : Int32))] [(.int (0 : Int32)), (.int (0 : Int32))])) _
    refine XS.icmpNo X66.here hx rfl (hb hby d8_59) rfl (teq (by decide)).2 ?_
    show Steps p.tables e below (T66.setTop (mkF m 62 #[.val (.ref a1), .val (.ref a2), .val (.ref a3), .val (.int (0 : Int32))] [])) _
    refine XS.aloadN X66.here hx rfl (hb hby d8_62) rfl rfl ?_
    exact kt)
  obtain ⟨sa69, T69, h69, kk69, sb69, kc69, X69, e69, E69, hS69, hk69, hZ, hown, A69, Fc69, Fv69, V69, -, -, CRq69, -, Sf69, st69⟩ := ldcCH (s := s) (vm0 := T39.vm) X66 hx hZ hown (hw _ (List.mem_of_getElem? (i := 68) rfl)) (own_wS hw) e66 hS39 hk39 (own_EW hw) (List.mem_of_getElem? (i := 2) rfl) CR40.1 (vs := [(.int (120 : Int32)), (.int (109 : Int32)), (.int (108 : Int32)), (.int (110 : Int32)), (.int (115 : Int32))]) (z := (5 : Int32)) ⟨by decide +kernel, by rfl⟩ (by decide) rfl (g := (mkF m 63 #[.val (.ref a1), .val (.ref a2), .val (.ref a3), .val (.int (0 : Int32))] [(.ref a2)])) rfl (hb hby d8_63) (n := 20) (by decide +kernel) (by decide) (by decide) (by decide)
  have CR70 : CHr Z ELx s.vm h0 T69.vm h69 := CR40.trans CRq69
  have f71 : Exa Z h69 a1 "com/example/stanzacall/stanzacall/xml/Namespaces" := (f41.ext E69)
  have nn72 := Sf69 a1 (Safe.exa hZ.alike f71 (by decide) (by decide))
  have f73 : Exa Z h69 a2 "java/lang/String" := (f43.ext E69)
  have f74 : Exa Z h69 a3 "java/lang/String" := (f44.ext E69)
  have f75 : Arv Z h69 pa kp (.object "java/lang/String") (16 : Int32) [.null, .null, .null, .null, .null, .null, .null, .null, .null, .null, .null, .null, .null, .null, .null, .null] .null := (f45.ext E69)
  obtain ⟨clq76, Arq76, ckq76, cSq76, cNq76, cHq76, cGq76⟩ := id f75
  have nn77 := Sf69 pa (Safe.arr hZ.alike Arq76 (by decide))
  have f78 : Exa Z h69 sa12 "java/lang/String" := (f48.ext E69)
  have f79 : Exa Z h69 sa39 "java/lang/String" := (A39.ext E69)
  have f80 : Arv Z h69 sb12 kc12 .byte (36 : Int32) [(.int (104 : Int32)), (.int (116 : Int32)), (.int (116 : Int32)), (.int (112 : Int32)), (.int (58 : Int32)), (.int (47 : Int32)), (.int (47 : Int32)), (.int (119 : Int32)), (.int (119 : Int32)), (.int (119 : Int32)), (.int (46 : Int32)), (.int (119 : Int32)), (.int (51 : Int32)), (.int (46 : Int32)), (.int (111 : Int32)), (.int (114 : Int32)), (.int (103 : Int32)), (.int (47 : Int32)), (.int (88 : Int32)), (.int (77 : Int32)), (.int (76 : Int32)), (.int (47 : Int32)), (.int (49 : Int32)), (.int (57 : Int32)), (.int (57 : Int32)), (.int (56 : Int32)), (.int (47 : Int32)), (.int (110 : Int32)), (.int (97 : Int32)), (.int (109 : Int32)), (.int (101 : Int32)), (.int (115 : Int32)), (.int (112 : Int32)), (.int (97 : Int32)), (.int (99 : Int32)), (.int (101 : Int32))] (.int (0 : Int32)) := (f49.ext E69)
  obtain ⟨clq81, Arq81, ckq81, cSq81, cNq81, cHq81, cGq81⟩ := id f80
  have f82 : Arv Z h69 sb39 kc39 .byte (3 : Int32) [(.int (120 : Int32)), (.int (109 : Int32)), (.int (108 : Int32))] (.int (0 : Int32)) := (V39.ext E69)
  obtain ⟨clq83, Arq83, ckq83, cSq83, cNq83, cHq83, cGq83⟩ := id f82
  have f84 : Arv Z h69 sc ks .int (16 : Int32) [(.int (0 : Int32)), (.int (0 : Int32)), (.int (0 : Int32)), (.int (0 : Int32)), (.int (0 : Int32)), (.int (0 : Int32)), (.int (0 : Int32)), (.int (0 : Int32)), (.int (0 : Int32)), (.int (0 : Int32)), (.int (0 : Int32)), (.int (0 : Int32)), (.int (0 : Int32)), (.int (0 : Int32)), (.int (0 : Int32)), (.int (0 : Int32))] (.int (0 : Int32)) := (f51.ext E69)
  obtain ⟨clq85, Arq85, ckq85, cSq85, cNq85, cHq85, cGq85⟩ := id f84
  have nn86 := Sf69 sc (Safe.arr hZ.alike Arq85 (by decide))
  have f87 : Arv Z h69 ua ku (.object "java/lang/String") (16 : Int32) [.null, .null, .null, .null, .null, .null, .null, .null, .null, .null, .null, .null, .null, .null, .null, .null] .null := (f54.ext E69)
  obtain ⟨clq88, Arq88, ckq88, cSq88, cNq88, cHq88, cGq88⟩ := id f87
  have nn89 := Sf69 ua (Safe.arr hZ.alike Arq88 (by decide))
  have f90 : Arv Z h69 vB kb .byte zb xb (.int (0 : Int32)) := (f57.ext E69)
  obtain ⟨clq91, Arq91, ckq91, cSq91, cNq91, cHq91, cGq91⟩ := id f90
  have f92 : Arv Z h69 vC kc_ .byte zc xc (.int (0 : Int32)) := (f59.ext E69)
  obtain ⟨clq93, Arq93, ckq93, cSq93, cNq93, cHq93, cGq93⟩ := id f92
  have K94 : Gx p e below s₁ f0 T69 (mkF m 65 #[.val (.ref a1), .val (.ref a2), .val (.ref a3), .val (.int (0 : Int32))] [(.ref sa69), (.ref a2)]) := fun t kt => K68 t (st69 t kt)
  have f95 : Fld Z h69 a2 "java/lang/String" "coder" "B" (.int (0 : Int32)) := (f62.ext E69)
  have f96 : Fld Z h69 a2 "java/lang/String" "value" "[B" (.ref vB) := (f63.ext E69)
  have f97 : Old Z n0 h69 := (f64.ext E69)
  have kp98 : Keep h0 h69 [a1, pa, ua] := (kp65.ext E69)
  obtain ⟨cq99, kq99, q99a, q99b, q99c⟩ := isOf hZ e69 f73
  obtain ⟨_, _, ⟨T99, L99, k99, n99⟩, -, X99', ⟨Lc99, hQ99, l99, y99, z99⟩, st99⟩ := X69.virtualBack hx (y := (⟨"java/lang/String", "equals", "(Ljava/lang/Object;)Z"⟩ : MethodName)) (z := (⟨"java/lang/String", "equals", "(Ljava/lang/Object;)Z"⟩ : MethodName)) hown (mvT hZ (hw _ (List.mem_of_getElem? (i := 59) rfl))) (mvT hZ (hw _ (List.mem_of_getElem? (i := 60) rfl))) (notFace_of_selects (args := #[]) (mvT hZ (hw _ (List.mem_of_getElem? (i := 62) rfl)))) (mvT hZ (hw _ (List.mem_of_getElem? (i := 62) rfl))) (mvT hZ (hw _ (List.mem_of_getElem? (i := 61) rfl))) (by decide) (backOf (W := 0) (rmEne l Z a0 hw [] a2 sa69 vB sb69 kb kc69 zb (5 : Int32) xb [(.int (120 : Int32)), (.int (109 : Int32)), (.int (108 : Int32)), (.int (110 : Int32)), (.int (115 : Int32))] cw h69 n0 (Nat.le_trans Z0 kp98.1) f95 f96 f90 A69 Fc69 Fv69 V69 f97 pr20 hcw (by rcases hz2 with q | q <;> rw [q] <;> decide)) hZ (hw _ (List.mem_of_getElem? (i := 63) rfl)) (hw _ (List.mem_of_getElem? (i := 2) rfl)) (by decide) (by decide)) q99a q99c (g := (mkF m 65 #[.val (.ref a1), .val (.ref a2), .val (.ref a3), .val (.int (0 : Int32))] [(.ref sa69), (.ref a2)])) rfl (by rw [hml]; rfl) (Steps.refl _) (argsL := [(.ref sa69)]) (rest := []) (lenOf pd__Ljava_lang_Object__Z rfl) rfl (by show 2 * 0 + _ ≤ _; exact Nat.le_of_eq rfl) (hb hby d8_65) (fun _ _ => ⟨rfl, e69, (by decide : 6 + 0 ≤ _), (by decide : 188 + 0 ≤ _)⟩)
  dsimp only [Pt.U, Pt.locs, Pt.cells, Pt.slots] at X99' l99 y99 z99 st99 hQ99
  subst l99 y99 z99
  obtain ⟨rfl, N99q, e99⟩ := hQ99
  obtain ⟨lc99, X99, N99⟩ : ∃ lc, Stand p l e ({ frames := 2, cells := 8, slots := 308, locals := 28 } : Room) (s.setVm T69.vm) m #[(.ref a1), (.ref a2), (.ref a3)] below meth c T99 lc 6 188 ∧ Fr n0 lc := ⟨_, X99', Fr.app N66 N99q⟩
  have K100 : Gx p e below s₁ f0 T99 (mkF m 68 #[.val (.ref a1), .val (.ref a2), .val (.ref a3), .val (.int (0 : Int32))] [(.int (0 : Int32))]) := fun t kt => K94 t (st99.trans kt)
  have K101 : Gx p e below s₁ f0 T99 (mkF m 72 #[.val (.ref a1), .val (.ref a2), .val (.ref a3), .val (.int (0 : Int32))] [(.ref a3)]) := fun t kt => K100 t (by
    show Steps p.tables e below (T99.setTop (mkF m 68 #[.val (.ref a1), .val (.ref a2), .val (.ref a3), .val (.int (0 : Int32))] [(.int (0 : Int32))])) _
    refine XS.ifNo X99.here hx rfl (hb hby d8_68) rfl ((if0 _ _).trans (teq (by decide)).2) ?_
    show Steps p.tables e below (T99.setTop (mkF m 71 #[.val (.ref a1), .val (.ref a2), .val (.ref a3), .val (.int (0 : Int32))] [])) _
    refine XS.aloadN X99.here hx rfl (hb hby d8_71) rfl rfl ?_
    exact kt)
  obtain ⟨sa102, T102, h102, kk102, sb102, kc102, X102, e102, E102, hS102, hk102, hZ, hown, A102, Fc102, Fv102, V102, -, -, CRq102, -, Sf102, st102⟩ := ldcCH (s := s) (vm0 := T69.vm) X99 hx hZ hown (hw _ (List.mem_of_getElem? (i := 69) rfl)) (own_wS hw) e99 hS69 hk69 (own_EW hw) (List.mem_of_getElem? (i := 3) rfl) CR70.1 (vs := [(.int (104 : Int32)), (.int (116 : Int32)), (.int (116 : Int32)), (.int (112 : Int32)), (.int (58 : Int32)), (.int (47 : Int32)), (.int (47 : Int32)), (.int (119 : Int32)), (.int (119 : Int32)), (.int (119 : Int32)), (.int (46 : Int32)), (.int (119 : Int32)), (.int (51 : Int32)), (.int (46 : Int32)), (.int (111 : Int32)), (.int (114 : Int32)), (.int (103 : Int32)), (.int (47 : Int32)), (.int (50 : Int32)), (.int (48 : Int32)), (.int (48 : Int32)), (.int (48 : Int32)), (.int (47 : Int32)), (.int (120 : Int32)), (.int (109 : Int32)), (.int (108 : Int32)), (.int (110 : Int32)), (.int (115 : Int32)), (.int (47 : Int32))]) (z := (29 : Int32)) ⟨by decide +kernel, by rfl⟩ (by decide) rfl (g := (mkF m 72 #[.val (.ref a1), .val (.ref a2), .val (.ref a3), .val (.int (0 : Int32))] [(.ref a3)])) rfl (hb hby d8_72) (n := 116) (by decide +kernel) (by decide) (by decide) (by decide)
  have CR103 : CHr Z ELx s.vm h0 T102.vm h102 := CR70.trans CRq102
  have f104 : Exa Z h102 a1 "com/example/stanzacall/stanzacall/xml/Namespaces" := (f71.ext E102)
  have nn105 := Sf102 a1 (Safe.exa hZ.alike f104 (by decide) (by decide))
  have f106 : Exa Z h102 a2 "java/lang/String" := (f73.ext E102)
  have f107 : Exa Z h102 a3 "java/lang/String" := (f74.ext E102)
  have f108 : Arv Z h102 pa kp (.object "java/lang/String") (16 : Int32) [.null, .null, .null, .null, .null, .null, .null, .null, .null, .null, .null, .null, .null, .null, .null, .null] .null := (f75.ext E102)
  obtain ⟨clq109, Arq109, ckq109, cSq109, cNq109, cHq109, cGq109⟩ := id f108
  have nn110 := Sf102 pa (Safe.arr hZ.alike Arq109 (by decide))
  have f111 : Exa Z h102 sa12 "java/lang/String" := (f78.ext E102)
  have f112 : Exa Z h102 sa39 "java/lang/String" := (f79.ext E102)
  have f113 : Exa Z h102 sa69 "java/lang/String" := (A69.ext E102)
  have f114 : Arv Z h102 sb12 kc12 .byte (36 : Int32) [(.int (104 : Int32)), (.int (116 : Int32)), (.int (116 : Int32)), (.int (112 : Int32)), (.int (58 : Int32)), (.int (47 : Int32)), (.int (47 : Int32)), (.int (119 : Int32)), (.int (119 : Int32)), (.int (119 : Int32)), (.int (46 : Int32)), (.int (119 : Int32)), (.int (51 : Int32)), (.int (46 : Int32)), (.int (111 : Int32)), (.int (114 : Int32)), (.int (103 : Int32)), (.int (47 : Int32)), (.int (88 : Int32)), (.int (77 : Int32)), (.int (76 : Int32)), (.int (47 : Int32)), (.int (49 : Int32)), (.int (57 : Int32)), (.int (57 : Int32)), (.int (56 : Int32)), (.int (47 : Int32)), (.int (110 : Int32)), (.int (97 : Int32)), (.int (109 : Int32)), (.int (101 : Int32)), (.int (115 : Int32)), (.int (112 : Int32)), (.int (97 : Int32)), (.int (99 : Int32)), (.int (101 : Int32))] (.int (0 : Int32)) := (f80.ext E102)
  obtain ⟨clq115, Arq115, ckq115, cSq115, cNq115, cHq115, cGq115⟩ := id f114
  have f116 : Arv Z h102 sb39 kc39 .byte (3 : Int32) [(.int (120 : Int32)), (.int (109 : Int32)), (.int (108 : Int32))] (.int (0 : Int32)) := (f82.ext E102)
  obtain ⟨clq117, Arq117, ckq117, cSq117, cNq117, cHq117, cGq117⟩ := id f116
  have f118 : Arv Z h102 sb69 kc69 .byte (5 : Int32) [(.int (120 : Int32)), (.int (109 : Int32)), (.int (108 : Int32)), (.int (110 : Int32)), (.int (115 : Int32))] (.int (0 : Int32)) := (V69.ext E102)
  obtain ⟨clq119, Arq119, ckq119, cSq119, cNq119, cHq119, cGq119⟩ := id f118
  have f120 : Arv Z h102 sc ks .int (16 : Int32) [(.int (0 : Int32)), (.int (0 : Int32)), (.int (0 : Int32)), (.int (0 : Int32)), (.int (0 : Int32)), (.int (0 : Int32)), (.int (0 : Int32)), (.int (0 : Int32)), (.int (0 : Int32)), (.int (0 : Int32)), (.int (0 : Int32)), (.int (0 : Int32)), (.int (0 : Int32)), (.int (0 : Int32)), (.int (0 : Int32)), (.int (0 : Int32))] (.int (0 : Int32)) := (f84.ext E102)
  obtain ⟨clq121, Arq121, ckq121, cSq121, cNq121, cHq121, cGq121⟩ := id f120
  have nn122 := Sf102 sc (Safe.arr hZ.alike Arq121 (by decide))
  have f123 : Arv Z h102 ua ku (.object "java/lang/String") (16 : Int32) [.null, .null, .null, .null, .null, .null, .null, .null, .null, .null, .null, .null, .null, .null, .null, .null] .null := (f87.ext E102)
  obtain ⟨clq124, Arq124, ckq124, cSq124, cNq124, cHq124, cGq124⟩ := id f123
  have nn125 := Sf102 ua (Safe.arr hZ.alike Arq124 (by decide))
  have f126 : Arv Z h102 vB kb .byte zb xb (.int (0 : Int32)) := (f90.ext E102)
  obtain ⟨clq127, Arq127, ckq127, cSq127, cNq127, cHq127, cGq127⟩ := id f126
  have f128 : Arv Z h102 vC kc_ .byte zc xc (.int (0 : Int32)) := (f92.ext E102)
  obtain ⟨clq129, Arq129, ckq129, cSq129, cNq129, cHq129, cGq129⟩ := id f128
  have K130 : Gx p e below s₁ f0 T102 (mkF m 74 #[.val (.ref a1), .val (.ref a2), .val (.ref a3), .val (.int (0 : Int32))] [(.ref sa102), (.ref a3)]) := fun t kt => K101 t (st102 t kt)
  have f131 : Fld Z h102 a3 "java/lang/String" "coder" "B" (.int (0 : Int32)) := (((f32.ext E39).ext E69).ext E102)
  have f132 : Fld Z h102 a3 "java/lang/String" "value" "[B" (.ref vC) := (((f33.ext E39).ext E69).ext E102)
  have f133 : Old Z n0 h102 := (f97.ext E102)
  have kp134 : Keep h0 h102 [a1, pa, ua] := (kp98.ext E102)
  obtain ⟨cq135, kq135, q135a, q135b, q135c⟩ := isOf hZ e102 f107
  obtain ⟨_, _, ⟨T135, L135, k135, n135⟩, -, X135', ⟨Lc135, hQ135, l135, y135, z135⟩, st135⟩ := X102.virtualBack hx (y := (⟨"java/lang/String", "equals", "(Ljava/lang/Object;)Z"⟩ : MethodName)) (z := (⟨"java/lang/String", "equals", "(Ljava/lang/Object;)Z"⟩ : MethodName)) hown (mvT hZ (hw _ (List.mem_of_getElem? (i := 59) rfl))) (mvT hZ (hw _ (List.mem_of_getElem? (i := 60) rfl))) (notFace_of_selects (args := #[]) (mvT hZ (hw _ (List.mem_of_getElem? (i := 62) rfl)))) (mvT hZ (hw _ (List.mem_of_getElem? (i := 62) rfl))) (mvT hZ (hw _ (List.mem_of_getElem? (i := 61) rfl))) (by decide) (backOf (W := 0) (rmEne l Z a0 hw [] a3 sa102 vC sb102 kc_ kc102 zc (29 : Int32) xc [(.int (104 : Int32)), (.int (116 : Int32)), (.int (116 : Int32)), (.int (112 : Int32)), (.int (58 : Int32)), (.int (47 : Int32)), (.int (47 : Int32)), (.int (119 : Int32)), (.int (119 : Int32)), (.int (119 : Int32)), (.int (46 : Int32)), (.int (119 : Int32)), (.int (51 : Int32)), (.int (46 : Int32)), (.int (111 : Int32)), (.int (114 : Int32)), (.int (103 : Int32)), (.int (47 : Int32)), (.int (50 : Int32)), (.int (48 : Int32)), (.int (48 : Int32)), (.int (48 : Int32)), (.int (47 : Int32)), (.int (120 : Int32)), (.int (109 : Int32)), (.int (108 : Int32)), (.int (110 : Int32)), (.int (115 : Int32)), (.int (47 : Int32))] cw h102 n0 (Nat.le_trans Z0 kp134.1) f131 f132 f128 A102 Fc102 Fv102 V102 f133 pr20 hcw (by rcases hz3 with q | q <;> rw [q] <;> decide)) hZ (hw _ (List.mem_of_getElem? (i := 63) rfl)) (hw _ (List.mem_of_getElem? (i := 2) rfl)) (by decide) (by decide)) q135a q135c (g := (mkF m 74 #[.val (.ref a1), .val (.ref a2), .val (.ref a3), .val (.int (0 : Int32))] [(.ref sa102), (.ref a3)])) rfl (by rw [hml]; rfl) (Steps.refl _) (argsL := [(.ref sa102)]) (rest := []) (lenOf pd__Ljava_lang_Object__Z rfl) rfl (by show 2 * 0 + _ ≤ _; exact Nat.le_of_eq rfl) (hb hby d8_74) (fun _ _ => ⟨rfl, e102, (by decide : 8 + 0 ≤ _), (by decide : 308 + 0 ≤ _)⟩)
  dsimp only [Pt.U, Pt.locs, Pt.cells, Pt.slots] at X135' l135 y135 z135 st135 hQ135
  subst l135 y135 z135
  obtain ⟨rfl, N135q, e135⟩ := hQ135
  obtain ⟨lc135, X135, N135⟩ : ∃ lc, Stand p l e ({ frames := 2, cells := 8, slots := 308, locals := 28 } : Room) (s.setVm T102.vm) m #[(.ref a1), (.ref a2), (.ref a3)] below meth c T135 lc 8 308 ∧ Fr n0 lc := ⟨_, X135', Fr.app N99 N135q⟩
  have K136 : Gx p e below s₁ f0 T135 (mkF m 77 #[.val (.ref a1), .val (.ref a2), .val (.ref a3), .val (.int (0 : Int32))] [(.int (0 : Int32))]) := fun t kt => K130 t (st135.trans kt)
  have K137 : Gx p e below s₁ f0 T135 (mkF m 87 #[.val (.ref a1), .val (.ref a2), .val (.ref a3), .val (.int (0 : Int32))] [(.ref a3)]) := fun t kt => K136 t (by
    show Steps p.tables e below (T135.setTop (mkF m 77 #[.val (.ref a1), .val (.ref a2), .val (.ref a3), .val (.int (0 : Int32))] [(.int (0 : Int32))])) _
    refine XS.ifYes X135.here hx rfl (pc0 := 77) (pc' := 86) rfl (hb hby d8_77) rfl ((if0 _ _).trans (teq (by decide)).1) (by decide) (by decide) ?_
    show Steps p.tables e below (T135.setTop (mkF m 86 #[.val (.ref a1), .val (.ref a2), .val (.ref a3), .val (.int (0 : Int32))] [])) _
    refine XS.aloadN X135.here hx rfl (hb hby d8_86) rfl rfl ?_
    exact kt)
  obtain ⟨cq138, kq138, q138a, q138b, q138c⟩ := isOf hZ e135 f107
  obtain ⟨_, _, ⟨T138, L138, k138, n138⟩, -, X138', ⟨Lc138, hQ138, l138, y138, z138⟩, st138⟩ := X135.virtualBack hx (y := (⟨"java/lang/String", "isEmpty", "()Z"⟩ : MethodName)) (z := (⟨"java/lang/String", "isEmpty", "()Z"⟩ : MethodName)) hown (mvT hZ (hw _ (List.mem_of_getElem? (i := 70) rfl))) (mvT hZ (hw _ (List.mem_of_getElem? (i := 71) rfl))) (notFace_of_selects (args := #[]) (mvT hZ (hw _ (List.mem_of_getElem? (i := 73) rfl)))) (mvT hZ (hw _ (List.mem_of_getElem? (i := 73) rfl))) (mvT hZ (hw _ (List.mem_of_getElem? (i := 72) rfl))) (by decide) (backOf (W := 0) (rmEmp l Z a0 hw [] a3 vC kc_ zc xc h102 n0 (Nat.le_trans Z0 kp134.1) f132 f128) hZ (hw _ (List.mem_of_getElem? (i := 74) rfl)) (hw _ (List.mem_of_getElem? (i := 2) rfl)) (by decide) (by decide)) q138a q138c (g := (mkF m 87 #[.val (.ref a1), .val (.ref a2), .val (.ref a3), .val (.int (0 : Int32))] [(.ref a3)])) rfl (by rw [hml]; rfl) (Steps.refl _) (argsL := []) (rest := []) (lenOf pd___Z rfl) rfl (by show 2 * 0 + _ ≤ _; exact Nat.le_of_eq rfl) (hb hby d8_87) (fun _ _ => ⟨rfl, e135, (by decide : 8 + 0 ≤ _), (by decide : 308 + 0 ≤ _)⟩)
  dsimp only [Pt.U, Pt.locs, Pt.cells, Pt.slots] at X138' l138 y138 z138 st138 hQ138
  subst l138 y138 z138
  obtain ⟨rfl, N138q, e138⟩ := hQ138
  obtain ⟨lc138, X138, N138⟩ : ∃ lc, Stand p l e ({ frames := 2, cells := 8, slots := 308, locals := 28 } : Room) (s.setVm T102.vm) m #[(.ref a1), (.ref a2), (.ref a3)] below meth c T138 lc 8 308 ∧ Fr n0 lc := ⟨_, X138', Fr.app N135 N138q⟩
  have K139 : Gx p e below s₁ f0 T138 (mkF m 90 #[.val (.ref a1), .val (.ref a2), .val (.ref a3), .val (.int (0 : Int32))] [(.int (if zc = (0 : Int32) then (1 : Int32) else (0 : Int32)))]) := fun t kt => K137 t (st138.trans kt)
  by_cases hzc : zc = (0 : Int32)
  · skip
    rw [(if_pos hzc : (if zc = (0 : Int32) then (1 : Int32) else (0 : Int32)) = (1 : Int32))] at K139
    have K140 : Gx p e below s₁ f0 T138 (mkF m 94 #[.val (.ref a1), .val (.ref a2), .val (.ref a3), .val (.int (0 : Int32))] [(.ref a2)]) := fun t kt => K139 t (by
      show Steps p.tables e below (T138.setTop (mkF m 90 #[.val (.ref a1), .val (.ref a2), .val (.ref a3), .val (.int (0 : Int32))] [(.int (1 : Int32))])) _
      refine XS.ifNo X138.here hx rfl (hb hby d8_90) rfl ((if0 _ _).trans (feq (by decide)).1) ?_
      show Steps p.tables e below (T138.setTop (mkF m 93 #[.val (.ref a1), .val (.ref a2), .val (.ref a3), .val (.int (0 : Int32))] [])) _
      refine XS.aloadN X138.here hx rfl (hb hby d8_93) rfl rfl ?_
      exact kt)
    have f141 : Fld Z h102 a2 "java/lang/String" "value" "[B" (.ref vB) := (f96.ext E102)
    obtain ⟨cq142, kq142, q142a, q142b, q142c⟩ := isOf hZ e138 f106
    obtain ⟨_, _, ⟨T142, L142, k142, n142⟩, -, X142', ⟨Lc142, hQ142, l142, y142, z142⟩, st142⟩ := X138.virtualBack hx (y := (⟨"java/lang/String", "isEmpty", "()Z"⟩ : MethodName)) (z := (⟨"java/lang/String", "isEmpty", "()Z"⟩ : MethodName)) hown (mvT hZ (hw _ (List.mem_of_getElem? (i := 70) rfl))) (mvT hZ (hw _ (List.mem_of_getElem? (i := 71) rfl))) (notFace_of_selects (args := #[]) (mvT hZ (hw _ (List.mem_of_getElem? (i := 73) rfl)))) (mvT hZ (hw _ (List.mem_of_getElem? (i := 73) rfl))) (mvT hZ (hw _ (List.mem_of_getElem? (i := 72) rfl))) (by decide) (backOf (W := 0) (rmEmp l Z a0 hw [] a2 vB kb zb xb h102 n0 (Nat.le_trans Z0 kp134.1) f141 f126) hZ (hw _ (List.mem_of_getElem? (i := 74) rfl)) (hw _ (List.mem_of_getElem? (i := 2) rfl)) (by decide) (by decide)) q142a q142c (g := (mkF m 94 #[.val (.ref a1), .val (.ref a2), .val (.ref a3), .val (.int (0 : Int32))] [(.ref a2)])) rfl (by rw [hml]; rfl) (Steps.refl _) (argsL := []) (rest := []) (lenOf pd___Z rfl) rfl (by show 2 * 0 + _ ≤ _; exact Nat.le_of_eq rfl) (hb hby d8_94) (fun _ _ => ⟨rfl, e138, (by decide : 8 + 0 ≤ _), (by decide : 308 + 0 ≤ _)⟩)
    dsimp only [Pt.U, Pt.locs, Pt.cells, Pt.slots] at X142' l142 y142 z142 st142 hQ142
    subst l142 y142 z142
    obtain ⟨rfl, N142q, e142⟩ := hQ142
    obtain ⟨lc142, X142, N142⟩ : ∃ lc, Stand p l e ({ frames := 2, cells := 8, slots := 308, locals := 28 } : Room) (s.setVm T102.vm) m #[(.ref a1), (.ref a2), (.ref a3)] below meth c T142 lc 8 308 ∧ Fr n0 lc := ⟨_, X142', Fr.app N138 N142q⟩
    have K143 : Gx p e below s₁ f0 T142 (mkF m 97 #[.val (.ref a1), .val (.ref a2), .val (.ref a3), .val (.int (0 : Int32))] [(.int (if zb = (0 : Int32) then (1 : Int32) else (0 : Int32)))]) := fun t kt => K140 t (st142.trans kt)
    rw [(if_pos (hzz hzc) : (if zb = (0 : Int32) then (1 : Int32) else (0 : Int32)) = (1 : Int32))] at K143
    have K144 : Gx p e below s₁ f0 T142 (mkF m 107 #[.val (.ref a1), .val (.ref a2), .val (.ref a3), .val (.int (0 : Int32))] [(.ref a1)]) := fun t kt => K143 t (by
      show Steps p.tables e below (T142.setTop (mkF m 97 #[.val (.ref a1), .val (.ref a2), .val (.ref a3), .val (.int (0 : Int32))] [(.int (1 : Int32))])) _
      refine XS.ifYes X142.here hx rfl (pc0 := 97) (pc' := 106) rfl (hb hby d8_97) rfl ((if0 _ _).trans (feq (by decide)).2) (by decide) (by decide) ?_
      show Steps p.tables e below (T142.setTop (mkF m 106 #[.val (.ref a1), .val (.ref a2), .val (.ref a3), .val (.int (0 : Int32))] [])) _
      refine XS.aloadN X142.here hx rfl (hb hby d8_106) rfl rfl ?_
      exact kt)
    have f145 : Fld Z h102 a1 "com/example/stanzacall/stanzacall/xml/Namespaces" "count" "I" (.int (0 : Int32)) := ((((pr5.ext E12).ext E39).ext E69).ext E102)
    obtain ⟨T146, X146, e146, st146⟩ := getF X142 hx hZ hown (host := "") (Or.inl (hw _ (List.mem_of_getElem? (i := 49) rfl))) Via.refl e142 f145 (g := (mkF m 107 #[.val (.ref a1), .val (.ref a2), .val (.ref a3), .val (.int (0 : Int32))] [(.ref a1)])) rfl rfl (hb hby d8_107)
    have K147 : Gx p e below s₁ f0 T146 (mkF m 110 #[.val (.ref a1), .val (.ref a2), .val (.ref a3), .val (.int (0 : Int32))] [(.int (0 : Int32))]) := fun t kt => K144 t (st146 t kt)
    have K148 : Gx p e below s₁ f0 T146 (mkF m 111 #[.val (.ref a1), .val (.ref a2), .val (.ref a3), .val (.int (0 : Int32))] [(.ref a1), (.int (0 : Int32))]) := fun t kt => K147 t (by
      show Steps p.tables e below (T146.setTop (mkF m 110 #[.val (.ref a1), .val (.ref a2), .val (.ref a3), .val (.int (0 : Int32))] [(.int (0 : Int32))])) _
      refine XS.aloadN X146.here hx rfl (hb hby d8_110) rfl rfl ?_
      exact kt)
    have f149 : Fld Z h102 a1 "com/example/stanzacall/stanzacall/xml/Namespaces" "prefixes" "[Ljava/lang/String;" (.ref pa) := ((((pr1.ext E12).ext E39).ext E69).ext E102)
    obtain ⟨T150, X150, e150, st150⟩ := getF X146 hx hZ hown (host := "") (Or.inl (hw _ (List.mem_of_getElem? (i := 35) rfl))) Via.refl e146 f149 (g := (mkF m 111 #[.val (.ref a1), .val (.ref a2), .val (.ref a3), .val (.int (0 : Int32))] [(.ref a1), (.int (0 : Int32))])) rfl rfl (hb hby d8_111)
    have K151 : Gx p e below s₁ f0 T150 (mkF m 114 #[.val (.ref a1), .val (.ref a2), .val (.ref a3), .val (.int (0 : Int32))] [(.ref pa), (.int (0 : Int32))]) := fun t kt => K148 t (st150 t kt)
    have K152 : Gx p e below s₁ f0 T150 (mkF m 159 #[.val (.ref a1), .val (.ref a2), .val (.ref a3), .val (.int (0 : Int32))] [(.ref a1)]) := fun t kt => K151 t (by
      show Steps p.tables e below (T150.setTop (mkF m 114 #[.val (.ref a1), .val (.ref a2), .val (.ref a3), .val (.int (0 : Int32))] [(.ref pa), (.int (0 : Int32))])) _
      refine X150.arraylength hx (by rw [e150]; exact Arq109.1) (State.isArrayOf_alike hZ.alike Arq109.2.1) (g := (mkF m 114 #[.val (.ref a1), .val (.ref a2), .val (.ref a3), .val (.int (0 : Int32))] [(.ref pa), (.int (0 : Int32))])) rfl rfl (hb hby d8_114) _ ?_
      rw [len_of cSq109 cNq109]
      show Steps p.tables e below (T150.setTop (mkF m 115 #[.val (.ref a1), .val (.ref a2), .val (.ref a3), .val (.int (0 : Int32))] [(.int (16 : Int32)), (.int (0 : Int32))])) _
      refine XS.icmpYes X150.here hx rfl (pc0 := 115) (pc' := 158) rfl (hb hby d8_115) rfl (feq (by decide)).2 (by decide) (by decide) ?_
      show Steps p.tables e below (T150.setTop (mkF m 158 #[.val (.ref a1), .val (.ref a2), .val (.ref a3), .val (.int (0 : Int32))] [])) _
      refine XS.aloadN X150.here hx rfl (hb hby d8_158) rfl rfl ?_
      exact kt)
    obtain ⟨T153, X153, e153, st153⟩ := getF X150 hx hZ hown (host := "") (Or.inl (hw _ (List.mem_of_getElem? (i := 35) rfl))) Via.refl e150 f149 (g := (mkF m 159 #[.val (.ref a1), .val (.ref a2), .val (.ref a3), .val (.int (0 : Int32))] [(.ref a1)])) rfl rfl (hb hby d8_159)
    have K154 : Gx p e below s₁ f0 T153 (mkF m 162 #[.val (.ref a1), .val (.ref a2), .val (.ref a3), .val (.int (0 : Int32))] [(.ref pa)]) := fun t kt => K152 t (st153 t kt)
    have K155 : Gx p e below s₁ f0 T153 (mkF m 163 #[.val (.ref a1), .val (.ref a2), .val (.ref a3), .val (.int (0 : Int32))] [(.ref a1), (.ref pa)]) := fun t kt => K154 t (by
      show Steps p.tables e below (T153.setTop (mkF m 162 #[.val (.ref a1), .val (.ref a2), .val (.ref a3), .val (.int (0 : Int32))] [(.ref pa)])) _
      refine XS.aloadN X153.here hx rfl (hb hby d8_162) rfl rfl ?_
      exact kt)
    obtain ⟨T156, X156, e156, st156⟩ := getF X153 hx hZ hown (host := "") (Or.inl (hw _ (List.mem_of_getElem? (i := 49) rfl))) Via.refl e153 f145 (g := (mkF m 163 #[.val (.ref a1), .val (.ref a2), .val (.ref a3), .val (.int (0 : Int32))] [(.ref a1), (.ref pa)])) rfl rfl (hb hby d8_163)
    have K157 : Gx p e below s₁ f0 T156 (mkF m 166 #[.val (.ref a1), .val (.ref a2), .val (.ref a3), .val (.int (0 : Int32))] [(.int (0 : Int32)), (.ref pa)]) := fun t kt => K155 t (st156 t kt)
    have K158 : Gx p e below s₁ f0 T156 (mkF m 167 #[.val (.ref a1), .val (.ref a2), .val (.ref a3), .val (.int (0 : Int32))] [(.ref a2), (.int (0 : Int32)), (.ref pa)]) := fun t kt => K157 t (by
      show Steps p.tables e below (T156.setTop (mkF m 166 #[.val (.ref a1), .val (.ref a2), .val (.ref a3), .val (.int (0 : Int32))] [(.int (0 : Int32)), (.ref pa)])) _
      refine XS.aloadN X156.here hx rfl (hb hby d8_166) rfl rfl ?_
      exact kt)
    obtain ⟨T159, h159, X159', e159, W159, st159⟩ := stR X156 hx hZ e156 Arq109 (j := (0 : Int32)) (inb_of cSq109 ⟨by decide, by decide⟩) rfl (Sto.ofV Arq109 ckq109 pr9 (Ins.self f106)) (g := (mkF m 167 #[.val (.ref a1), .val (.ref a2), .val (.ref a3), .val (.int (0 : Int32))] [(.ref a2), (.int (0 : Int32)), (.ref pa)])) rfl rfl (hb hby d8_167)
    obtain ⟨lc159, X159, N159⟩ : ∃ lc, Stand p l e ({ frames := 2, cells := 8, slots := 308, locals := 28 } : Room) (s.setVm T102.vm) m #[(.ref a1), (.ref a2), (.ref a3)] below meth c T159 lc 8 308 ∧ Fr n0 lc := ⟨_, X159', Fr.snoc X159' N142 pr23⟩
    have CR160 : CHr Z ELx s.vm h0 T102.vm h159 := CR103.trans (CHr.wr W159 (Safe.arr hZ.alike Arq109 (by decide)) CR103.1)
    have V159 : Arv Z h159 pa kp (.object "java/lang/String") (16 : Int32) [(.ref a2), .null, .null, .null, .null, .null, .null, .null, .null, .null, .null, .null, .null, .null, .null, .null] .null := Arv.set Arq109 ckq109 cSq109 cNq109 cHq109 cGq109 rfl W159 0 rfl (Nat.le_of_ble_eq_true rfl)
    have K161 : Gx p e below s₁ f0 T159 (mkF m 168 #[.val (.ref a1), .val (.ref a2), .val (.ref a3), .val (.int (0 : Int32))] []) := fun t kt => K158 t (st159 t kt)
    have K162 : Gx p e below s₁ f0 T159 (mkF m 169 #[.val (.ref a1), .val (.ref a2), .val (.ref a3), .val (.int (0 : Int32))] [(.ref a1)]) := fun t kt => K161 t (by
      show Steps p.tables e below (T159.setTop (mkF m 168 #[.val (.ref a1), .val (.ref a2), .val (.ref a3), .val (.int (0 : Int32))] [])) _
      refine XS.aloadN X159.here hx rfl (hb hby d8_168) rfl rfl ?_
      exact kt)
    have f163 : Fld Z h159 a1 "com/example/stanzacall/stanzacall/xml/Namespaces" "uris" "[Ljava/lang/String;" (.ref ua) := (((((pr2.ext E12).ext E39).ext E69).ext E102).other W159 (Or.inl pr25))
    obtain ⟨T164, X164, e164, st164⟩ := getF X159 hx hZ hown (host := "") (Or.inl (hw _ (List.mem_of_getElem? (i := 37) rfl))) Via.refl e159 f163 (g := (mkF m 169 #[.val (.ref a1), .val (.ref a2), .val (.ref a3), .val (.int (0 : Int32))] [(.ref a1)])) rfl rfl (hb hby d8_169)
    have K165 : Gx p e below s₁ f0 T164 (mkF m 172 #[.val (.ref a1), .val (.ref a2), .val (.ref a3), .val (.int (0 : Int32))] [(.ref ua)]) := fun t kt => K162 t (st164 t kt)
    have K166 : Gx p e below s₁ f0 T164 (mkF m 173 #[.val (.ref a1), .val (.ref a2), .val (.ref a3), .val (.int (0 : Int32))] [(.ref a1), (.ref ua)]) := fun t kt => K165 t (by
      show Steps p.tables e below (T164.setTop (mkF m 172 #[.val (.ref a1), .val (.ref a2), .val (.ref a3), .val (.int (0 : Int32))] [(.ref ua)])) _
      refine XS.aloadN X164.here hx rfl (hb hby d8_172) rfl rfl ?_
      exact kt)
    have f167 : Fld Z h159 a1 "com/example/stanzacall/stanzacall/xml/Namespaces" "count" "I" (.int (0 : Int32)) := (f145.other W159 (Or.inl pr25))
    obtain ⟨T168, X168, e168, st168⟩ := getF X164 hx hZ hown (host := "") (Or.inl (hw _ (List.mem_of_getElem? (i := 49) rfl))) Via.refl e164 f167 (g := (mkF m 173 #[.val (.ref a1), .val (.ref a2), .val (.ref a3), .val (.int (0 : Int32))] [(.ref a1), (.ref ua)])) rfl rfl (hb hby d8_173)
    have K169 : Gx p e below s₁ f0 T168 (mkF m 176 #[.val (.ref a1), .val (.ref a2), .val (.ref a3), .val (.int (0 : Int32))] [(.int (0 : Int32)), (.ref ua)]) := fun t kt => K166 t (st168 t kt)
    have K170 : Gx p e below s₁ f0 T168 (mkF m 177 #[.val (.ref a1), .val (.ref a2), .val (.ref a3), .val (.int (0 : Int32))] [(.ref a3), (.int (0 : Int32)), (.ref ua)]) := fun t kt => K169 t (by
      show Steps p.tables e below (T168.setTop (mkF m 176 #[.val (.ref a1), .val (.ref a2), .val (.ref a3), .val (.int (0 : Int32))] [(.int (0 : Int32)), (.ref ua)])) _
      refine XS.aloadN X168.here hx rfl (hb hby d8_176) rfl rfl ?_
      exact kt)
    have f171 : Arv Z h159 ua ku (.object "java/lang/String") (16 : Int32) [.null, .null, .null, .null, .null, .null, .null, .null, .null, .null, .null, .null, .null, .null, .null, .null] .null := (f123.other W159 (Ne.symm pr28))
    obtain ⟨clq172, Arq172, ckq172, cSq172, cNq172, cHq172, cGq172⟩ := id f171
    have f174 : Exa Z h159 a3 "java/lang/String" := (f107.wr W159)
    obtain ⟨T173, h173, X173', e173, W173, st173⟩ := stR X168 hx hZ e168 Arq172 (j := (0 : Int32)) (inb_of cSq172 ⟨by decide, by decide⟩) rfl (Sto.ofV Arq172 ckq172 pr10 (Ins.self f174)) (g := (mkF m 177 #[.val (.ref a1), .val (.ref a2), .val (.ref a3), .val (.int (0 : Int32))] [(.ref a3), (.int (0 : Int32)), (.ref ua)])) rfl rfl (hb hby d8_177)
    obtain ⟨lc173, X173, N173⟩ : ∃ lc, Stand p l e ({ frames := 2, cells := 8, slots := 308, locals := 28 } : Room) (s.setVm T102.vm) m #[(.ref a1), (.ref a2), (.ref a3)] below meth c T173 lc 8 308 ∧ Fr n0 lc := ⟨_, X173', Fr.snoc X173' N159 pr24⟩
    have CR175 : CHr Z ELx s.vm h0 T102.vm h173 := CR160.trans (CHr.wr W173 (Safe.arr hZ.alike Arq172 (by decide)) CR160.1)
    have V173 : Arv Z h173 ua ku (.object "java/lang/String") (16 : Int32) [(.ref a3), .null, .null, .null, .null, .null, .null, .null, .null, .null, .null, .null, .null, .null, .null, .null] .null := Arv.set Arq172 ckq172 cSq172 cNq172 cHq172 cGq172 rfl W173 0 rfl (Nat.le_of_ble_eq_true rfl)
    have K176 : Gx p e below s₁ f0 T173 (mkF m 178 #[.val (.ref a1), .val (.ref a2), .val (.ref a3), .val (.int (0 : Int32))] []) := fun t kt => K170 t (st173 t kt)
    have K177 : Gx p e below s₁ f0 T173 (mkF m 180 #[.val (.ref a1), .val (.ref a2), .val (.ref a3), .val (.int (0 : Int32))] [(.ref a1), (.ref a1)]) := fun t kt => K176 t (by
      show Steps p.tables e below (T173.setTop (mkF m 178 #[.val (.ref a1), .val (.ref a2), .val (.ref a3), .val (.int (0 : Int32))] [])) _
      refine XS.aloadN X173.here hx rfl (hb hby d8_178) rfl rfl ?_
      show Steps p.tables e below (T173.setTop (mkF m 179 #[.val (.ref a1), .val (.ref a2), .val (.ref a3), .val (.int (0 : Int32))] [(.ref a1)])) _
      refine XS.dup X173.here hx rfl (hb hby d8_179) rfl rfl ?_
      exact kt)
    have f178 : Fld Z h173 a1 "com/example/stanzacall/stanzacall/xml/Namespaces" "count" "I" (.int (0 : Int32)) := (f167.other W173 (Or.inl pr26))
    obtain ⟨T179, X179, e179, st179⟩ := getF X173 hx hZ hown (host := "") (Or.inl (hw _ (List.mem_of_getElem? (i := 49) rfl))) Via.refl e173 f178 (g := (mkF m 180 #[.val (.ref a1), .val (.ref a2), .val (.ref a3), .val (.int (0 : Int32))] [(.ref a1), (.ref a1)])) rfl rfl (hb hby d8_180)
    have K180 : Gx p e below s₁ f0 T179 (mkF m 183 #[.val (.ref a1), .val (.ref a2), .val (.ref a3), .val (.int (0 : Int32))] [(.int (0 : Int32)), (.ref a1)]) := fun t kt => K177 t (st179 t kt)
    have K181 : Gx p e below s₁ f0 T179 (mkF m 185 #[.val (.ref a1), .val (.ref a2), .val (.ref a3), .val (.int (0 : Int32))] [(.int (1 : Int32)), (.ref a1)]) := fun t kt => K180 t (by
      show Steps p.tables e below (T179.setTop (mkF m 183 #[.val (.ref a1), .val (.ref a2), .val (.ref a3), .val (.int (0 : Int32))] [(.int (0 : Int32)), (.ref a1)])) _
      refine XS.iconst X179.here hx rfl (hb hby d8_183) ?_
      show Steps p.tables e below (T179.setTop (mkF m 184 #[.val (.ref a1), .val (.ref a2), .val (.ref a3), .val (.int (0 : Int32))] [(.int (1 : Int32)), (.int (0 : Int32)), (.ref a1)])) _
      refine XS.iadd X179.here hx rfl (hb hby d8_184) rfl ?_
      exact kt)
    have f182 : Exa Z h173 a1 "com/example/stanzacall/stanzacall/xml/Namespaces" := ((f104.wr W159).wr W173)
    obtain ⟨T183, h183, X183', e183, W183, st183⟩ := putF X179 hx hZ hown (host := "") (Or.inl (hw _ (List.mem_of_getElem? (i := 49) rfl))) Via.refl e179 f178 f182 (Or.inl (hw _ (List.mem_of_getElem? (i := 50) rfl))) (hw _ (List.mem_of_getElem? (i := 27) rfl)) (ty := .int) (by decide) rfl rfl (g := (mkF m 185 #[.val (.ref a1), .val (.ref a2), .val (.ref a3), .val (.int (0 : Int32))] [(.int (1 : Int32)), (.ref a1)])) rfl rfl (hb hby d8_185)
    obtain ⟨lc183, X183, N183⟩ : ∃ lc, Stand p l e ({ frames := 2, cells := 8, slots := 308, locals := 28 } : Room) (s.setVm T102.vm) m #[(.ref a1), (.ref a2), (.ref a3)] below meth c T183 lc 8 308 ∧ Fr n0 lc := ⟨_, X183', Fr.snoc X183' N173 pr22⟩
    have CR184 : CHr Z ELx s.vm h0 T102.vm h183 := CR175.trans (CHr.wr W183 (Safe.exa hZ.alike f182 (by decide) (by decide)) CR175.1)
    have f183_ : Fld Z h183 a1 "com/example/stanzacall/stanzacall/xml/Namespaces" "count" "I" (.int (1 : Int32)) := f178.same W183
    have K185 : Gx p e below s₁ f0 T183 (mkF m 188 #[.val (.ref a1), .val (.ref a2), .val (.ref a3), .val (.int (0 : Int32))] []) := fun t kt => K181 t (st183 t kt)
    have kp187 : Keep h0 h183 [a1, pa, ua] := (((kp134.wr W159 (Or.inl (List.mem_of_getElem? (i := 1) rfl))).wr W173 (Or.inl (List.mem_of_getElem? (i := 2) rfl))).wr W183 (Or.inl (List.mem_of_getElem? (i := 0) rfl)))
    have f188 : Exa Z h183 a1 "com/example/stanzacall/stanzacall/xml/Namespaces" := (f182.wr W183)
    have f189 : Fld Z h183 a1 "com/example/stanzacall/stanzacall/xml/Namespaces" "prefixes" "[Ljava/lang/String;" (.ref pa) := (((f149.other W159 (Or.inl pr25)).other W173 (Or.inl pr26)).other W183 (Or.inr (slot_ne (Or.inl (hw _ (List.mem_of_getElem? (i := 36) rfl))) (Or.inl (hw _ (List.mem_of_getElem? (i := 50) rfl))) (by decide) (t := (.array (.object "java/lang/String"))) (t' := .int) (by decide) (by decide))))
    have f190 : Fld Z h183 a1 "com/example/stanzacall/stanzacall/xml/Namespaces" "uris" "[Ljava/lang/String;" (.ref ua) := ((f163.other W173 (Or.inl pr26)).other W183 (Or.inr (slot_ne (Or.inl (hw _ (List.mem_of_getElem? (i := 38) rfl))) (Or.inl (hw _ (List.mem_of_getElem? (i := 50) rfl))) (by decide) (t := (.array (.object "java/lang/String"))) (t' := .int) (by decide) (by decide))))
    have f191 : Fld Z h183 a1 "com/example/stanzacall/stanzacall/xml/Namespaces" "scopes" "[I" (.ref sc) := (((((((pr3.ext E12).ext E39).ext E69).ext E102).other W159 (Or.inl pr25)).other W173 (Or.inl pr26)).other W183 (Or.inr (slot_ne (Or.inl (hw _ (List.mem_of_getElem? (i := 41) rfl))) (Or.inl (hw _ (List.mem_of_getElem? (i := 50) rfl))) (by decide) (t := (.array .int)) (t' := .int) (by decide) (by decide))))
    have f192 : Fld Z h183 a1 "com/example/stanzacall/stanzacall/xml/Namespaces" "depth" "I" (.int (1 : Int32)) := (((((((pr4.ext E12).ext E39).ext E69).ext E102).other W159 (Or.inl pr25)).other W173 (Or.inl pr26)).other W183 (Or.inr (slot_ne (Or.inl (hw _ (List.mem_of_getElem? (i := 48) rfl))) (Or.inl (hw _ (List.mem_of_getElem? (i := 50) rfl))) (by decide) (t := .int) (t' := .int) (by decide) (by decide))))
    have f193 : Arv Z h183 pa kp (.object "java/lang/String") (16 : Int32) [(.ref a2), .null, .null, .null, .null, .null, .null, .null, .null, .null, .null, .null, .null, .null, .null, .null] .null := ((V159.other W173 pr28).other W183 (Ne.symm pr25))
    have f194 : Arv Z h183 ua ku (.object "java/lang/String") (16 : Int32) [(.ref a3), .null, .null, .null, .null, .null, .null, .null, .null, .null, .null, .null, .null, .null, .null, .null] .null := (V173.other W183 (Ne.symm pr26))
    have CR186_ := CR184.trans (CHv.at X183 hZ (own_EW hw) CR184.1)
    obtain ⟨fs186, hr186, hrun186, hended186, hRW186⟩ := X183.leaveW hS102 (show _ ≤ T183.heap.size by rw [e183]; exact (Nat.le_trans (Nat.le_trans (Nat.le_trans hk102 (Keep.of_wr W159).1) (Keep.of_wr W173).1) (Keep.of_wr W183).1)) (v := none) (fun _ => rfl)
    refine ⟨_, _, pre0 _ (K185 _ ?_), hrun186, hended186, _, _, rfl, ?_, ?_, hRW186.1, hRW186.2.1, hRW186.2.2.1, hRW186.2.2.2.mono (by decide) (by decide)⟩
    · exact X183.returnOut hx Bd.returns (hb hby d8_188) hr186
    · show QDecl0 Z a1 a2 a3 pa ua sc kp ku ks vB kb zb xb vC kc_ zc xc cw h0 n0 _ T183.heap _
      rw [e183]
      exact ⟨rfl, N183, kp187, f188, f189, f190, f191, f192, f183_, f193, f194⟩
    · show CHr Z ELx s.vm s.heap T183.vm T183.heap
      rw [e183]
      exact hs0 ▸ CR186_
  · skip
    rw [(if_neg hzc : (if zc = (0 : Int32) then (1 : Int32) else (0 : Int32)) = (0 : Int32))] at K139
    have K195 : Gx p e below s₁ f0 T138 (mkF m 107 #[.val (.ref a1), .val (.ref a2), .val (.ref a3), .val (.int (0 : Int32))] [(.ref a1)]) := fun t kt => K139 t (by
      show Steps p.tables e below (T138.setTop (mkF m 90 #[.val (.ref a1), .val (.ref a2), .val (.ref a3), .val (.int (0 : Int32))] [(.int (0 : Int32))])) _
      refine XS.ifYes X138.here hx rfl (pc0 := 90) (pc' := 106) rfl (hb hby d8_90) rfl ((if0 _ _).trans (teq (by decide)).1) (by decide) (by decide) ?_
      show Steps p.tables e below (T138.setTop (mkF m 106 #[.val (.ref a1), .val (.ref a2), .val (.ref a3), .val (.int (0 : Int32))] [])) _
      refine XS.aloadN X138.here hx rfl (hb hby d8_106) rfl rfl ?_
      exact kt)
    have f196 : Fld Z h102 a1 "com/example/stanzacall/stanzacall/xml/Namespaces" "count" "I" (.int (0 : Int32)) := ((((pr5.ext E12).ext E39).ext E69).ext E102)
    obtain ⟨T197, X197, e197, st197⟩ := getF X138 hx hZ hown (host := "") (Or.inl (hw _ (List.mem_of_getElem? (i := 49) rfl))) Via.refl e138 f196 (g := (mkF m 107 #[.val (.ref a1), .val (.ref a2), .val (.ref a3), .val (.int (0 : Int32))] [(.ref a1)])) rfl rfl (hb hby d8_107)
    have K198 : Gx p e below s₁ f0 T197 (mkF m 110 #[.val (.ref a1), .val (.ref a2), .val (.ref a3), .val (.int (0 : Int32))] [(.int (0 : Int32))]) := fun t kt => K195 t (st197 t kt)
    have K199 : Gx p e below s₁ f0 T197 (mkF m 111 #[.val (.ref a1), .val (.ref a2), .val (.ref a3), .val (.int (0 : Int32))] [(.ref a1), (.int (0 : Int32))]) := fun t kt => K198 t (by
      show Steps p.tables e below (T197.setTop (mkF m 110 #[.val (.ref a1), .val (.ref a2), .val (.ref a3), .val (.int (0 : Int32))] [(.int (0 : Int32))])) _
      refine XS.aloadN X197.here hx rfl (hb hby d8_110) rfl rfl ?_
      exact kt)
    have f200 : Fld Z h102 a1 "com/example/stanzacall/stanzacall/xml/Namespaces" "prefixes" "[Ljava/lang/String;" (.ref pa) := ((((pr1.ext E12).ext E39).ext E69).ext E102)
    obtain ⟨T201, X201, e201, st201⟩ := getF X197 hx hZ hown (host := "") (Or.inl (hw _ (List.mem_of_getElem? (i := 35) rfl))) Via.refl e197 f200 (g := (mkF m 111 #[.val (.ref a1), .val (.ref a2), .val (.ref a3), .val (.int (0 : Int32))] [(.ref a1), (.int (0 : Int32))])) rfl rfl (hb hby d8_111)
    have K202 : Gx p e below s₁ f0 T201 (mkF m 114 #[.val (.ref a1), .val (.ref a2), .val (.ref a3), .val (.int (0 : Int32))] [(.ref pa), (.int (0 : Int32))]) := fun t kt => K199 t (st201 t kt)
    have K203 : Gx p e below s₁ f0 T201 (mkF m 159 #[.val (.ref a1), .val (.ref a2), .val (.ref a3), .val (.int (0 : Int32))] [(.ref a1)]) := fun t kt => K202 t (by
      show Steps p.tables e below (T201.setTop (mkF m 114 #[.val (.ref a1), .val (.ref a2), .val (.ref a3), .val (.int (0 : Int32))] [(.ref pa), (.int (0 : Int32))])) _
      refine X201.arraylength hx (by rw [e201]; exact Arq109.1) (State.isArrayOf_alike hZ.alike Arq109.2.1) (g := (mkF m 114 #[.val (.ref a1), .val (.ref a2), .val (.ref a3), .val (.int (0 : Int32))] [(.ref pa), (.int (0 : Int32))])) rfl rfl (hb hby d8_114) _ ?_
      rw [len_of cSq109 cNq109]
      show Steps p.tables e below (T201.setTop (mkF m 115 #[.val (.ref a1), .val (.ref a2), .val (.ref a3), .val (.int (0 : Int32))] [(.int (16 : Int32)), (.int (0 : Int32))])) _
      refine XS.icmpYes X201.here hx rfl (pc0 := 115) (pc' := 158) rfl (hb hby d8_115) rfl (feq (by decide)).2 (by decide) (by decide) ?_
      show Steps p.tables e below (T201.setTop (mkF m 158 #[.val (.ref a1), .val (.ref a2), .val (.ref a3), .val (.int (0 : Int32))] [])) _
      refine XS.aloadN X201.here hx rfl (hb hby d8_158) rfl rfl ?_
      exact kt)
    obtain ⟨T204, X204, e204, st204⟩ := getF X201 hx hZ hown (host := "") (Or.inl (hw _ (List.mem_of_getElem? (i := 35) rfl))) Via.refl e201 f200 (g := (mkF m 159 #[.val (.ref a1), .val (.ref a2), .val (.ref a3), .val (.int (0 : Int32))] [(.ref a1)])) rfl rfl (hb hby d8_159)
    have K205 : Gx p e below s₁ f0 T204 (mkF m 162 #[.val (.ref a1), .val (.ref a2), .val (.ref a3), .val (.int (0 : Int32))] [(.ref pa)]) := fun t kt => K203 t (st204 t kt)
    have K206 : Gx p e below s₁ f0 T204 (mkF m 163 #[.val (.ref a1), .val (.ref a2), .val (.ref a3), .val (.int (0 : Int32))] [(.ref a1), (.ref pa)]) := fun t kt => K205 t (by
      show Steps p.tables e below (T204.setTop (mkF m 162 #[.val (.ref a1), .val (.ref a2), .val (.ref a3), .val (.int (0 : Int32))] [(.ref pa)])) _
      refine XS.aloadN X204.here hx rfl (hb hby d8_162) rfl rfl ?_
      exact kt)
    obtain ⟨T207, X207, e207, st207⟩ := getF X204 hx hZ hown (host := "") (Or.inl (hw _ (List.mem_of_getElem? (i := 49) rfl))) Via.refl e204 f196 (g := (mkF m 163 #[.val (.ref a1), .val (.ref a2), .val (.ref a3), .val (.int (0 : Int32))] [(.ref a1), (.ref pa)])) rfl rfl (hb hby d8_163)
    have K208 : Gx p e below s₁ f0 T207 (mkF m 166 #[.val (.ref a1), .val (.ref a2), .val (.ref a3), .val (.int (0 : Int32))] [(.int (0 : Int32)), (.ref pa)]) := fun t kt => K206 t (st207 t kt)
    have K209 : Gx p e below s₁ f0 T207 (mkF m 167 #[.val (.ref a1), .val (.ref a2), .val (.ref a3), .val (.int (0 : Int32))] [(.ref a2), (.int (0 : Int32)), (.ref pa)]) := fun t kt => K208 t (by
      show Steps p.tables e below (T207.setTop (mkF m 166 #[.val (.ref a1), .val (.ref a2), .val (.ref a3), .val (.int (0 : Int32))] [(.int (0 : Int32)), (.ref pa)])) _
      refine XS.aloadN X207.here hx rfl (hb hby d8_166) rfl rfl ?_
      exact kt)
    obtain ⟨T210, h210, X210', e210, W210, st210⟩ := stR X207 hx hZ e207 Arq109 (j := (0 : Int32)) (inb_of cSq109 ⟨by decide, by decide⟩) rfl (Sto.ofV Arq109 ckq109 pr9 (Ins.self f106)) (g := (mkF m 167 #[.val (.ref a1), .val (.ref a2), .val (.ref a3), .val (.int (0 : Int32))] [(.ref a2), (.int (0 : Int32)), (.ref pa)])) rfl rfl (hb hby d8_167)
    obtain ⟨lc210, X210, N210⟩ : ∃ lc, Stand p l e ({ frames := 2, cells := 8, slots := 308, locals := 28 } : Room) (s.setVm T102.vm) m #[(.ref a1), (.ref a2), (.ref a3)] below meth c T210 lc 8 308 ∧ Fr n0 lc := ⟨_, X210', Fr.snoc X210' N138 pr23⟩
    have CR211 : CHr Z ELx s.vm h0 T102.vm h210 := CR103.trans (CHr.wr W210 (Safe.arr hZ.alike Arq109 (by decide)) CR103.1)
    have V210 : Arv Z h210 pa kp (.object "java/lang/String") (16 : Int32) [(.ref a2), .null, .null, .null, .null, .null, .null, .null, .null, .null, .null, .null, .null, .null, .null, .null] .null := Arv.set Arq109 ckq109 cSq109 cNq109 cHq109 cGq109 rfl W210 0 rfl (Nat.le_of_ble_eq_true rfl)
    have K212 : Gx p e below s₁ f0 T210 (mkF m 168 #[.val (.ref a1), .val (.ref a2), .val (.ref a3), .val (.int (0 : Int32))] []) := fun t kt => K209 t (st210 t kt)
    have K213 : Gx p e below s₁ f0 T210 (mkF m 169 #[.val (.ref a1), .val (.ref a2), .val (.ref a3), .val (.int (0 : Int32))] [(.ref a1)]) := fun t kt => K212 t (by
      show Steps p.tables e below (T210.setTop (mkF m 168 #[.val (.ref a1), .val (.ref a2), .val (.ref a3), .val (.int (0 : Int32))] [])) _
      refine XS.aloadN X210.here hx rfl (hb hby d8_168) rfl rfl ?_
      exact kt)
    have f214 : Fld Z h210 a1 "com/example/stanzacall/stanzacall/xml/Namespaces" "uris" "[Ljava/lang/String;" (.ref ua) := (((((pr2.ext E12).ext E39).ext E69).ext E102).other W210 (Or.inl pr25))
    obtain ⟨T215, X215, e215, st215⟩ := getF X210 hx hZ hown (host := "") (Or.inl (hw _ (List.mem_of_getElem? (i := 37) rfl))) Via.refl e210 f214 (g := (mkF m 169 #[.val (.ref a1), .val (.ref a2), .val (.ref a3), .val (.int (0 : Int32))] [(.ref a1)])) rfl rfl (hb hby d8_169)
    have K216 : Gx p e below s₁ f0 T215 (mkF m 172 #[.val (.ref a1), .val (.ref a2), .val (.ref a3), .val (.int (0 : Int32))] [(.ref ua)]) := fun t kt => K213 t (st215 t kt)
    have K217 : Gx p e below s₁ f0 T215 (mkF m 173 #[.val (.ref a1), .val (.ref a2), .val (.ref a3), .val (.int (0 : Int32))] [(.ref a1), (.ref ua)]) := fun t kt => K216 t (by
      show Steps p.tables e below (T215.setTop (mkF m 172 #[.val (.ref a1), .val (.ref a2), .val (.ref a3), .val (.int (0 : Int32))] [(.ref ua)])) _
      refine XS.aloadN X215.here hx rfl (hb hby d8_172) rfl rfl ?_
      exact kt)
    have f218 : Fld Z h210 a1 "com/example/stanzacall/stanzacall/xml/Namespaces" "count" "I" (.int (0 : Int32)) := (f196.other W210 (Or.inl pr25))
    obtain ⟨T219, X219, e219, st219⟩ := getF X215 hx hZ hown (host := "") (Or.inl (hw _ (List.mem_of_getElem? (i := 49) rfl))) Via.refl e215 f218 (g := (mkF m 173 #[.val (.ref a1), .val (.ref a2), .val (.ref a3), .val (.int (0 : Int32))] [(.ref a1), (.ref ua)])) rfl rfl (hb hby d8_173)
    have K220 : Gx p e below s₁ f0 T219 (mkF m 176 #[.val (.ref a1), .val (.ref a2), .val (.ref a3), .val (.int (0 : Int32))] [(.int (0 : Int32)), (.ref ua)]) := fun t kt => K217 t (st219 t kt)
    have K221 : Gx p e below s₁ f0 T219 (mkF m 177 #[.val (.ref a1), .val (.ref a2), .val (.ref a3), .val (.int (0 : Int32))] [(.ref a3), (.int (0 : Int32)), (.ref ua)]) := fun t kt => K220 t (by
      show Steps p.tables e below (T219.setTop (mkF m 176 #[.val (.ref a1), .val (.ref a2), .val (.ref a3), .val (.int (0 : Int32))] [(.int (0 : Int32)), (.ref ua)])) _
      refine XS.aloadN X219.here hx rfl (hb hby d8_176) rfl rfl ?_
      exact kt)
    have f222 : Arv Z h210 ua ku (.object "java/lang/String") (16 : Int32) [.null, .null, .null, .null, .null, .null, .null, .null, .null, .null, .null, .null, .null, .null, .null, .null] .null := (f123.other W210 (Ne.symm pr28))
    obtain ⟨clq223, Arq223, ckq223, cSq223, cNq223, cHq223, cGq223⟩ := id f222
    have f225 : Exa Z h210 a3 "java/lang/String" := (f107.wr W210)
    obtain ⟨T224, h224, X224', e224, W224, st224⟩ := stR X219 hx hZ e219 Arq223 (j := (0 : Int32)) (inb_of cSq223 ⟨by decide, by decide⟩) rfl (Sto.ofV Arq223 ckq223 pr10 (Ins.self f225)) (g := (mkF m 177 #[.val (.ref a1), .val (.ref a2), .val (.ref a3), .val (.int (0 : Int32))] [(.ref a3), (.int (0 : Int32)), (.ref ua)])) rfl rfl (hb hby d8_177)
    obtain ⟨lc224, X224, N224⟩ : ∃ lc, Stand p l e ({ frames := 2, cells := 8, slots := 308, locals := 28 } : Room) (s.setVm T102.vm) m #[(.ref a1), (.ref a2), (.ref a3)] below meth c T224 lc 8 308 ∧ Fr n0 lc := ⟨_, X224', Fr.snoc X224' N210 pr24⟩
    have CR226 : CHr Z ELx s.vm h0 T102.vm h224 := CR211.trans (CHr.wr W224 (Safe.arr hZ.alike Arq223 (by decide)) CR211.1)
    have V224 : Arv Z h224 ua ku (.object "java/lang/String") (16 : Int32) [(.ref a3), .null, .null, .null, .null, .null, .null, .null, .null, .null, .null, .null, .null, .null, .null, .null] .null := Arv.set Arq223 ckq223 cSq223 cNq223 cHq223 cGq223 rfl W224 0 rfl (Nat.le_of_ble_eq_true rfl)
    have K227 : Gx p e below s₁ f0 T224 (mkF m 178 #[.val (.ref a1), .val (.ref a2), .val (.ref a3), .val (.int (0 : Int32))] []) := fun t kt => K221 t (st224 t kt)
    have K228 : Gx p e below s₁ f0 T224 (mkF m 180 #[.val (.ref a1), .val (.ref a2), .val (.ref a3), .val (.int (0 : Int32))] [(.ref a1), (.ref a1)]) := fun t kt => K227 t (by
      show Steps p.tables e below (T224.setTop (mkF m 178 #[.val (.ref a1), .val (.ref a2), .val (.ref a3), .val (.int (0 : Int32))] [])) _
      refine XS.aloadN X224.here hx rfl (hb hby d8_178) rfl rfl ?_
      show Steps p.tables e below (T224.setTop (mkF m 179 #[.val (.ref a1), .val (.ref a2), .val (.ref a3), .val (.int (0 : Int32))] [(.ref a1)])) _
      refine XS.dup X224.here hx rfl (hb hby d8_179) rfl rfl ?_
      exact kt)
    have f229 : Fld Z h224 a1 "com/example/stanzacall/stanzacall/xml/Namespaces" "count" "I" (.int (0 : Int32)) := (f218.other W224 (Or.inl pr26))
    obtain ⟨T230, X230, e230, st230⟩ := getF X224 hx hZ hown (host := "") (Or.inl (hw _ (List.mem_of_getElem? (i := 49) rfl))) Via.refl e224 f229 (g := (mkF m 180 #[.val (.ref a1), .val (.ref a2), .val (.ref a3), .val (.int (0 : Int32))] [(.ref a1), (.ref a1)])) rfl rfl (hb hby d8_180)
    have K231 : Gx p e below s₁ f0 T230 (mkF m 183 #[.val (.ref a1), .val (.ref a2), .val (.ref a3), .val (.int (0 : Int32))] [(.int (0 : Int32)), (.ref a1)]) := fun t kt => K228 t (st230 t kt)
    have K232 : Gx p e below s₁ f0 T230 (mkF m 185 #[.val (.ref a1), .val (.ref a2), .val (.ref a3), .val (.int (0 : Int32))] [(.int (1 : Int32)), (.ref a1)]) := fun t kt => K231 t (by
      show Steps p.tables e below (T230.setTop (mkF m 183 #[.val (.ref a1), .val (.ref a2), .val (.ref a3), .val (.int (0 : Int32))] [(.int (0 : Int32)), (.ref a1)])) _
      refine XS.iconst X230.here hx rfl (hb hby d8_183) ?_
      show Steps p.tables e below (T230.setTop (mkF m 184 #[.val (.ref a1), .val (.ref a2), .val (.ref a3), .val (.int (0 : Int32))] [(.int (1 : Int32)), (.int (0 : Int32)), (.ref a1)])) _
      refine XS.iadd X230.here hx rfl (hb hby d8_184) rfl ?_
      exact kt)
    have f233 : Exa Z h224 a1 "com/example/stanzacall/stanzacall/xml/Namespaces" := ((f104.wr W210).wr W224)
    obtain ⟨T234, h234, X234', e234, W234, st234⟩ := putF X230 hx hZ hown (host := "") (Or.inl (hw _ (List.mem_of_getElem? (i := 49) rfl))) Via.refl e230 f229 f233 (Or.inl (hw _ (List.mem_of_getElem? (i := 50) rfl))) (hw _ (List.mem_of_getElem? (i := 27) rfl)) (ty := .int) (by decide) rfl rfl (g := (mkF m 185 #[.val (.ref a1), .val (.ref a2), .val (.ref a3), .val (.int (0 : Int32))] [(.int (1 : Int32)), (.ref a1)])) rfl rfl (hb hby d8_185)
    obtain ⟨lc234, X234, N234⟩ : ∃ lc, Stand p l e ({ frames := 2, cells := 8, slots := 308, locals := 28 } : Room) (s.setVm T102.vm) m #[(.ref a1), (.ref a2), (.ref a3)] below meth c T234 lc 8 308 ∧ Fr n0 lc := ⟨_, X234', Fr.snoc X234' N224 pr22⟩
    have CR235 : CHr Z ELx s.vm h0 T102.vm h234 := CR226.trans (CHr.wr W234 (Safe.exa hZ.alike f233 (by decide) (by decide)) CR226.1)
    have f234_ : Fld Z h234 a1 "com/example/stanzacall/stanzacall/xml/Namespaces" "count" "I" (.int (1 : Int32)) := f229.same W234
    have K236 : Gx p e below s₁ f0 T234 (mkF m 188 #[.val (.ref a1), .val (.ref a2), .val (.ref a3), .val (.int (0 : Int32))] []) := fun t kt => K232 t (st234 t kt)
    have kp238 : Keep h0 h234 [a1, pa, ua] := (((kp134.wr W210 (Or.inl (List.mem_of_getElem? (i := 1) rfl))).wr W224 (Or.inl (List.mem_of_getElem? (i := 2) rfl))).wr W234 (Or.inl (List.mem_of_getElem? (i := 0) rfl)))
    have f239 : Exa Z h234 a1 "com/example/stanzacall/stanzacall/xml/Namespaces" := (f233.wr W234)
    have f240 : Fld Z h234 a1 "com/example/stanzacall/stanzacall/xml/Namespaces" "prefixes" "[Ljava/lang/String;" (.ref pa) := (((f200.other W210 (Or.inl pr25)).other W224 (Or.inl pr26)).other W234 (Or.inr (slot_ne (Or.inl (hw _ (List.mem_of_getElem? (i := 36) rfl))) (Or.inl (hw _ (List.mem_of_getElem? (i := 50) rfl))) (by decide) (t := (.array (.object "java/lang/String"))) (t' := .int) (by decide) (by decide))))
    have f241 : Fld Z h234 a1 "com/example/stanzacall/stanzacall/xml/Namespaces" "uris" "[Ljava/lang/String;" (.ref ua) := ((f214.other W224 (Or.inl pr26)).other W234 (Or.inr (slot_ne (Or.inl (hw _ (List.mem_of_getElem? (i := 38) rfl))) (Or.inl (hw _ (List.mem_of_getElem? (i := 50) rfl))) (by decide) (t := (.array (.object "java/lang/String"))) (t' := .int) (by decide) (by decide))))
    have f242 : Fld Z h234 a1 "com/example/stanzacall/stanzacall/xml/Namespaces" "scopes" "[I" (.ref sc) := (((((((pr3.ext E12).ext E39).ext E69).ext E102).other W210 (Or.inl pr25)).other W224 (Or.inl pr26)).other W234 (Or.inr (slot_ne (Or.inl (hw _ (List.mem_of_getElem? (i := 41) rfl))) (Or.inl (hw _ (List.mem_of_getElem? (i := 50) rfl))) (by decide) (t := (.array .int)) (t' := .int) (by decide) (by decide))))
    have f243 : Fld Z h234 a1 "com/example/stanzacall/stanzacall/xml/Namespaces" "depth" "I" (.int (1 : Int32)) := (((((((pr4.ext E12).ext E39).ext E69).ext E102).other W210 (Or.inl pr25)).other W224 (Or.inl pr26)).other W234 (Or.inr (slot_ne (Or.inl (hw _ (List.mem_of_getElem? (i := 48) rfl))) (Or.inl (hw _ (List.mem_of_getElem? (i := 50) rfl))) (by decide) (t := .int) (t' := .int) (by decide) (by decide))))
    have f244 : Arv Z h234 pa kp (.object "java/lang/String") (16 : Int32) [(.ref a2), .null, .null, .null, .null, .null, .null, .null, .null, .null, .null, .null, .null, .null, .null, .null] .null := ((V210.other W224 pr28).other W234 (Ne.symm pr25))
    have f245 : Arv Z h234 ua ku (.object "java/lang/String") (16 : Int32) [(.ref a3), .null, .null, .null, .null, .null, .null, .null, .null, .null, .null, .null, .null, .null, .null, .null] .null := (V224.other W234 (Ne.symm pr26))
    have CR237_ := CR235.trans (CHv.at X234 hZ (own_EW hw) CR235.1)
    obtain ⟨fs237, hr237, hrun237, hended237, hRW237⟩ := X234.leaveW hS102 (show _ ≤ T234.heap.size by rw [e234]; exact (Nat.le_trans (Nat.le_trans (Nat.le_trans hk102 (Keep.of_wr W210).1) (Keep.of_wr W224).1) (Keep.of_wr W234).1)) (v := none) (fun _ => rfl)
    refine ⟨_, _, pre0 _ (K236 _ ?_), hrun237, hended237, _, _, rfl, ?_, ?_, hRW237.1, hRW237.2.1, hRW237.2.2.1, hRW237.2.2.2.mono (by decide) (by decide)⟩
    · exact X234.returnOut hx Bd.returns (hb hby d8_188) hr237
    · show QDecl0 Z a1 a2 a3 pa ua sc kp ku ks vB kb zb xb vC kc_ zc xc cw h0 n0 _ T234.heap _
      rw [e234]
      exact ⟨rfl, N234, kp238, f239, f240, f241, f242, f243, f234_, f244, f245⟩
    · show CHr Z ELx s.vm s.heap T234.vm T234.heap
      rw [e234]
      exact hs0 ▸ CR237_
theorem ef_Decl1 (m : MethodId) (a1 : Addr) (a2 : Addr) (a3 : Addr) : entryFrame m #[(.ref a1), (.ref a2), (.ref a3)] 4 = mkF m 0 #[.val (.ref a1), .val (.ref a2), .val (.ref a3), .unset] [] := by first | (simp [entryFrame, mkF, argsToLocals, Value.category]; done) | rfl
def QDecl1 (Z : State) (a1 : Addr) (a2 : Addr) (a3 : Addr) (pa : Addr) (ua : Addr) (sc : Addr) (kp : ClassId) (ku : ClassId) (ks : ClassId) (p0 : Addr) (u0 : Addr) (vB : Addr) (kb : ClassId) (zb : Int32) (xb : List Value) (vC : Addr) (kc_ : ClassId) (zc : Int32) (xc : List Value) (cw : Int32) (h0 : Heap) (n0 : Nat) (v : Option Value) (h : Heap) (L : List Loc) : Prop := v = none ∧ Fr n0 L ∧ Keep h0 h [a1, pa, ua] ∧ Exa Z h a1 "com/example/stanzacall/stanzacall/xml/Namespaces" ∧ Fld Z h a1 "com/example/stanzacall/stanzacall/xml/Namespaces" "prefixes" "[Ljava/lang/String;" (.ref pa) ∧ Fld Z h a1 "com/example/stanzacall/stanzacall/xml/Namespaces" "uris" "[Ljava/lang/String;" (.ref ua) ∧ Fld Z h a1 "com/example/stanzacall/stanzacall/xml/Namespaces" "scopes" "[I" (.ref sc) ∧ Fld Z h a1 "com/example/stanzacall/stanzacall/xml/Namespaces" "depth" "I" (.int (2 : Int32)) ∧ Fld Z h a1 "com/example/stanzacall/stanzacall/xml/Namespaces" "count" "I" (.int (2 : Int32)) ∧ Arv Z h pa kp (.object "java/lang/String") (16 : Int32) [(.ref p0), (.ref a2), .null, .null, .null, .null, .null, .null, .null, .null, .null, .null, .null, .null, .null, .null] .null ∧ Arv Z h ua ku (.object "java/lang/String") (16 : Int32) [(.ref u0), (.ref a3), .null, .null, .null, .null, .null, .null, .null, .null, .null, .null, .null, .null, .null, .null] .null
set_option maxRecDepth 65536 in
set_option maxHeartbeats 40000000 in
theorem rmDecl1 (l : Launch) (Z : State) (a0 : Array Value) (hw : ∀ d ∈ tables_1, d.before a0 Z = true) (ws : List Jvm.Cond) (a1 : Addr) (a2 : Addr) (a3 : Addr) (pa : Addr) (ua : Addr) (sc : Addr) (kp : ClassId) (ku : ClassId) (ks : ClassId) (p0 : Addr) (u0 : Addr) (vB : Addr) (kb : ClassId) (zb : Int32) (xb : List Value) (vC : Addr) (kc_ : ClassId) (zc : Int32) (xc : List Value) (cw : Int32) (h0 : Heap) (n0 : Nat) (Z0 : n0 ≤ h0.size) (pr0 : Exa Z h0 a1 "com/example/stanzacall/stanzacall/xml/Namespaces") (pr1 : Fld Z h0 a1 "com/example/stanzacall/stanzacall/xml/Namespaces" "prefixes" "[Ljava/lang/String;" (.ref pa)) (pr2 : Fld Z h0 a1 "com/example/stanzacall/stanzacall/xml/Namespaces" "uris" "[Ljava/lang/String;" (.ref ua)) (pr3 : Fld Z h0 a1 "com/example/stanzacall/stanzacall/xml/Namespaces" "scopes" "[I" (.ref sc)) (pr4 : Fld Z h0 a1 "com/example/stanzacall/stanzacall/xml/Namespaces" "depth" "I" (.int (2 : Int32))) (pr5 : Fld Z h0 a1 "com/example/stanzacall/stanzacall/xml/Namespaces" "count" "I" (.int (1 : Int32))) (pr6 : Arv Z h0 pa kp (.object "java/lang/String") (16 : Int32) [(.ref p0), .null, .null, .null, .null, .null, .null, .null, .null, .null, .null, .null, .null, .null, .null, .null] .null) (pr7 : Arv Z h0 ua ku (.object "java/lang/String") (16 : Int32) [(.ref u0), .null, .null, .null, .null, .null, .null, .null, .null, .null, .null, .null, .null, .null, .null, .null] .null) (pr8 : Arv Z h0 sc ks .int (16 : Int32) [(.int (0 : Int32)), (.int (1 : Int32)), (.int (0 : Int32)), (.int (0 : Int32)), (.int (0 : Int32)), (.int (0 : Int32)), (.int (0 : Int32)), (.int (0 : Int32)), (.int (0 : Int32)), (.int (0 : Int32)), (.int (0 : Int32)), (.int (0 : Int32)), (.int (0 : Int32)), (.int (0 : Int32)), (.int (0 : Int32)), (.int (0 : Int32))] (.int (0 : Int32))) (pr9 : Ovr Z kp "java/lang/String") (pr10 : Ovr Z ku "java/lang/String") (pr11 : Exa Z h0 a2 "java/lang/String") (pr12 : Fld Z h0 a2 "java/lang/String" "coder" "B" (.int (0 : Int32))) (pr13 : Fld Z h0 a2 "java/lang/String" "value" "[B" (.ref vB)) (pr14 : Arv Z h0 vB kb .byte zb xb (.int (0 : Int32))) (pr15 : Exa Z h0 a3 "java/lang/String") (pr16 : Fld Z h0 a3 "java/lang/String" "coder" "B" (.int (0 : Int32))) (pr17 : Fld Z h0 a3 "java/lang/String" "value" "[B" (.ref vC)) (pr18 : Arv Z h0 vC kc_ .byte zc xc (.int (0 : Int32))) (pr19 : Old Z n0 h0) (pr20 : Sta Z Z.heap "java/lang/String" "COMPACT_STRINGS" "Z" (.int cw)) (hcw : ¬ (cw = (0 : Int32))) (pr22 : n0 ≤ a1) (pr23 : n0 ≤ pa) (pr24 : n0 ≤ ua) (pr25 : a1 ≠ pa) (pr26 : a1 ≠ ua) (pr27 : a1 ≠ sc) (pr28 : pa ≠ ua) (pr29 : pa ≠ sc) (pr30 : ua ≠ sc) (hz2 : zb = (0 : Int32) ∨ zb = (1 : Int32)) (hz3 : zc = (0 : Int32) ∨ zc = (1 : Int32)) (hzz : zc = (0 : Int32) → zb = (0 : Int32)) :
    MetFree l (⟨"com/example/stanzacall/stanzacall/xml/Namespaces", "declare", "(Ljava/lang/String;Ljava/lang/String;)V"⟩ : MethodName) (head1 (Jvm.Cond.code (⟨"com/example/stanzacall/stanzacall/xml/Namespaces", "declare", "(Ljava/lang/String;Ljava/lang/String;)V"⟩ : MethodName) prog_73_method_4_code 4 none :: ws) ({ frames := 2, cells := 8, slots := 308, locals := 28 } : Room)) (fun a U => a = #[(.ref a1), (.ref a2), (.ref a3)] ∧ Z.Warmed39 U.vm ∧ U.heap = h0 ∧ CHv Z ELx U.vm h0) (fun _ _ _ _ _ => True) (fun _ U o U' => ∃ v L, o = .returned v ∧ QDecl1 Z a1 a2 a3 pa ua sc kp ku ks p0 u0 vB kb zb xb vC kc_ zc xc cw h0 n0 v U'.heap L ∧ CHr Z ELx U.vm U.heap U'.vm U'.heap ∧ ReturnedEndW U o U' L ({ frames := 2, cells := 8, slots := 308, locals := 28 } : Room).cells ({ frames := 2, cells := 8, slots := 308, locals := 28 } : Room).slots) := by
  refine MetFree.of_bodySF (plainFor_of_name pn_8) hisR ?_
  intro p e s m args below meth c s₁ Bd hml0 hP hK
  obtain ⟨rfl, hZ, hh, hCH⟩ := hP
  have hx := Bd.exec
  have hby := Bd.bytes
  have hml : c.maxLocals = 4 := hml0
  have hown : s.vm.findClass "com/example/stanzacall/stanzacall/xml/Namespaces" = some m.cls := findClass_of_methodNamed Bd.named
  have hnm := (name_of_methodNamed Bd.named Bd.method).1
  have X0 : Stand p l e ({ frames := 2, cells := 8, slots := 308, locals := 28 } : Room) (s.setVm s.vm) m #[(.ref a1), (.ref a2), (.ref a3)] below meth c s₁ [] 0 0 := Stand.of_body Bd
  have hZ : Z.Warmed39 (s.setVm s.vm).vm := hZ
  have hown : (s.setVm s.vm).vm.findClass "com/example/stanzacall/stanzacall/xml/Namespaces" = some m.cls := hown
  have CR0 : CHr Z ELx s.vm h0 s.vm h0 := CHr.refl hCH
  have hS0 : s.Since s.vm h0.size := State.WarmedH.since (State.WarmedH.refl s) _
  have hk0 : h0.size ≤ h0.size := Nat.le_refl _
  have hs0 : h0 = s.heap := hh.symm
  have e0 : s₁.heap = h0 := by rw [← hh, Bd.state]; rfl
  have N0 := Fr.nil n0
  obtain ⟨f0, hf0⟩ : ∃ f, f = entryFrame m #[(.ref a1), (.ref a2), (.ref a3)] 4 := ⟨_, rfl⟩
  have pre0 : ∀ t, Steps p.tables e below (s₁.setTop f0) t → Steps p.tables e below (s₁.setTop (entryFrame m #[(.ref a1), (.ref a2), (.ref a3)] 4)) t := fun t k => hf0 ▸ k
  have K0 : Gx p e below s₁ f0 s₁ (mkF m 0 #[.val (.ref a1), .val (.ref a2), .val (.ref a3), .unset] []) := fun t kt => by rw [hf0]; exact castTop (ef_Decl1 m a1 a2 a3) kt
  have K1 : Gx p e below s₁ f0 s₁ (mkF m 1 #[.val (.ref a1), .val (.ref a2), .val (.ref a3), .unset] [(.ref a1)]) := fun t kt => K0 t (by
    show Steps p.tables e below (s₁.setTop (mkF m 0 #[.val (.ref a1), .val (.ref a2), .val (.ref a3), .unset] [])) _
    refine XS.aloadN X0.here hx rfl (hb hby d8_0) rfl rfl ?_
    exact kt)
  obtain ⟨T2, X2, e2, st2⟩ := getF X0 hx hZ hown (host := "") (Or.inl (hw _ (List.mem_of_getElem? (i := 40) rfl))) Via.refl e0 pr3 (g := (mkF m 1 #[.val (.ref a1), .val (.ref a2), .val (.ref a3), .unset] [(.ref a1)])) rfl rfl (hb hby d8_1)
  have K3 : Gx p e below s₁ f0 T2 (mkF m 4 #[.val (.ref a1), .val (.ref a2), .val (.ref a3), .unset] [(.ref sc)]) := fun t kt => K1 t (st2 t kt)
  have K4 : Gx p e below s₁ f0 T2 (mkF m 5 #[.val (.ref a1), .val (.ref a2), .val (.ref a3), .unset] [(.ref a1), (.ref sc)]) := fun t kt => K3 t (by
    show Steps p.tables e below (T2.setTop (mkF m 4 #[.val (.ref a1), .val (.ref a2), .val (.ref a3), .unset] [(.ref sc)])) _
    refine XS.aloadN X2.here hx rfl (hb hby d8_4) rfl rfl ?_
    exact kt)
  obtain ⟨T5, X5, e5, st5⟩ := getF X2 hx hZ hown (host := "") (Or.inl (hw _ (List.mem_of_getElem? (i := 47) rfl))) Via.refl e2 pr4 (g := (mkF m 5 #[.val (.ref a1), .val (.ref a2), .val (.ref a3), .unset] [(.ref a1), (.ref sc)])) rfl rfl (hb hby d8_5)
  have K6 : Gx p e below s₁ f0 T5 (mkF m 8 #[.val (.ref a1), .val (.ref a2), .val (.ref a3), .unset] [(.int (2 : Int32)), (.ref sc)]) := fun t kt => K4 t (st5 t kt)
  obtain ⟨clq7, Arq7, ckq7, cSq7, cNq7, cHq7, cGq7⟩ := id pr8
  have K8 : Gx p e below s₁ f0 T5 (mkF m 14 #[.val (.ref a1), .val (.ref a2), .val (.ref a3), .val (.int (1 : Int32))] [(.ref a1), (.int (1 : Int32))]) := fun t kt => K6 t (by
    show Steps p.tables e below (T5.setTop (mkF m 8 #[.val (.ref a1), .val (.ref a2), .val (.ref a3), .unset] [(.int (2 : Int32)), (.ref sc)])) _
    refine XS.iconst X5.here hx rfl (hb hby d8_8) ?_
    show Steps p.tables e below (T5.setTop (mkF m 9 #[.val (.ref a1), .val (.ref a2), .val (.ref a3), .unset] [(.int (1 : Int32)), (.int (2 : Int32)), (.ref sc)])) _
    refine XS.isub X5.here hx rfl (hb hby d8_9) rfl ?_
    show Steps p.tables e below (T5.setTop (mkF m 10 #[.val (.ref a1), .val (.ref a2), .val (.ref a3), .unset] [(.int (1 : Int32)), (.ref sc)])) _
    refine X5.iaload hx (j := (1 : Int32)) (v := (.int (1 : Int32))) (by rw [e5]; exact Arq7.1) (State.isArrayOf_alike hZ.alike Arq7.2.1) Arq7.2.2 (inb_of cSq7 ⟨by decide, by decide⟩) (Has.at cHq7 (inb_of cSq7 ⟨by decide, by decide⟩) rfl) (g := (mkF m 10 #[.val (.ref a1), .val (.ref a2), .val (.ref a3), .unset] [(.int (1 : Int32)), (.ref sc)])) rfl rfl (hb hby d8_10) _ ?_
    show Steps p.tables e below (T5.setTop (mkF m 11 #[.val (.ref a1), .val (.ref a2), .val (.ref a3), .unset] [(.int (1 : Int32))])) _
    refine XS.istoreN X5.here hx rfl (hb hby d8_11) rfl (l' := #[.val (.ref a1), .val (.ref a2), .val (.ref a3), .val (.int (1 : Int32))]) rfl ?_
    show Steps p.tables e below (T5.setTop (mkF m 12 #[.val (.ref a1), .val (.ref a2), .val (.ref a3), .val (.int (1 : Int32))] [])) _
    refine XS.iloadN X5.here hx rfl (hb hby d8_12) rfl ?_
    show Steps p.tables e below (T5.setTop (mkF m 13 #[.val (.ref a1), .val (.ref a2), .val (.ref a3), .val (.int (1 : Int32))] [(.int (1 : Int32))])) _
    refine XS.aloadN X5.here hx rfl (hb hby d8_13) rfl rfl ?_
    exact kt)
  obtain ⟨T9, X9, e9, st9⟩ := getF X5 hx hZ hown (host := "") (Or.inl (hw _ (List.mem_of_getElem? (i := 49) rfl))) Via.refl e5 pr5 (g := (mkF m 14 #[.val (.ref a1), .val (.ref a2), .val (.ref a3), .val (.int (1 : Int32))] [(.ref a1), (.int (1 : Int32))])) rfl rfl (hb hby d8_14)
  have K10 : Gx p e below s₁ f0 T9 (mkF m 17 #[.val (.ref a1), .val (.ref a2), .val (.ref a3), .val (.int (1 : Int32))] [(.int (1 : Int32)), (.int (1 : Int32))]) := fun t kt => K8 t (st9 t kt)
  have K11 : Gx p e below s₁ f0 T9 (mkF m 46 #[.val (.ref a1), .val (.ref a2), .val (.ref a3), .val (.int (1 : Int32))] [(.ref a3)]) := fun t kt => K10 t (by
    show Steps p.tables e below (T9.setTop (mkF m 17 #[.val (.ref a1), .val (.ref a2), .val (.ref a3), .val (.int (1 : Int32))] [(.int (1 : Int32)), (.int (1 : Int32))])) _
    refine XS.icmpYes X9.here hx rfl (pc0 := 17) (pc' := 45) rfl (hb hby d8_17) rfl (flt (by decide)).2.1 (by decide) (by decide) ?_
    show Steps p.tables e below (T9.setTop (mkF m 45 #[.val (.ref a1), .val (.ref a2), .val (.ref a3), .val (.int (1 : Int32))] [])) _
    refine XS.aloadN X9.here hx rfl (hb hby d8_45) rfl rfl ?_
    exact kt)
  obtain ⟨sa12, T12, h12, kk12, sb12, kc12, X12, e12, E12, hS12, hk12, hZ, hown, A12, Fc12, Fv12, V12, -, -, CRq12, -, Sf12, st12⟩ := ldcCH (s := s) (vm0 := s.vm) X9 hx hZ hown (hw _ (List.mem_of_getElem? (i := 56) rfl)) (own_wS hw) e9 hS0 hk0 (own_EW hw) (List.mem_of_getElem? (i := 0) rfl) CR0.1 (vs := [(.int (104 : Int32)), (.int (116 : Int32)), (.int (116 : Int32)), (.int (112 : Int32)), (.int (58 : Int32)), (.int (47 : Int32)), (.int (47 : Int32)), (.int (119 : Int32)), (.int (119 : Int32)), (.int (119 : Int32)), (.int (46 : Int32)), (.int (119 : Int32)), (.int (51 : Int32)), (.int (46 : Int32)), (.int (111 : Int32)), (.int (114 : Int32)), (.int (103 : Int32)), (.int (47 : Int32)), (.int (88 : Int32)), (.int (77 : Int32)), (.int (76 : Int32)), (.int (47 : Int32)), (.int (49 : Int32)), (.int (57 : Int32)), (.int (57 : Int32)), (.int (56 : Int32)), (.int (47 : Int32)), (.int (110 : Int32)), (.int (97 : Int32)), (.int (109 : Int32)), (.int (101 : Int32)), (.int (115 : Int32)), (.int (112 : Int32)), (.int (97 : Int32)), (.int (99 : Int32)), (.int (101 : Int32))]) (z := (36 : Int32)) ⟨by decide +kernel, by rfl⟩ (by decide) rfl (g := (mkF m 46 #[.val (.ref a1), .val (.ref a2), .val (.ref a3), .val (.int (1 : Int32))] [(.ref a3)])) rfl (hb hby d8_46) (n := 144) (by decide +kernel) (by decide) (by decide) (by decide)
  have CR13 : CHr Z ELx s.vm h0 T12.vm h12 := CR0.trans CRq12
  have f14 : Exa Z h12 a1 "com/example/stanzacall/stanzacall/xml/Namespaces" := (pr0.ext E12)
  have nn15 := Sf12 a1 (Safe.exa hZ.alike f14 (by decide) (by decide))
  have f16 : Exa Z h12 a2 "java/lang/String" := (pr11.ext E12)
  have f17 : Exa Z h12 a3 "java/lang/String" := (pr15.ext E12)
  have f18 : Arv Z h12 pa kp (.object "java/lang/String") (16 : Int32) [(.ref p0), .null, .null, .null, .null, .null, .null, .null, .null, .null, .null, .null, .null, .null, .null, .null] .null := (pr6.ext E12)
  obtain ⟨clq19, Arq19, ckq19, cSq19, cNq19, cHq19, cGq19⟩ := id f18
  have nn20 := Sf12 pa (Safe.arr hZ.alike Arq19 (by decide))
  have f21 : Arv Z h12 sc ks .int (16 : Int32) [(.int (0 : Int32)), (.int (1 : Int32)), (.int (0 : Int32)), (.int (0 : Int32)), (.int (0 : Int32)), (.int (0 : Int32)), (.int (0 : Int32)), (.int (0 : Int32)), (.int (0 : Int32)), (.int (0 : Int32)), (.int (0 : Int32)), (.int (0 : Int32)), (.int (0 : Int32)), (.int (0 : Int32)), (.int (0 : Int32)), (.int (0 : Int32))] (.int (0 : Int32)) := (pr8.ext E12)
  obtain ⟨clq22, Arq22, ckq22, cSq22, cNq22, cHq22, cGq22⟩ := id f21
  have nn23 := Sf12 sc (Safe.arr hZ.alike Arq22 (by decide))
  have f24 : Arv Z h12 ua ku (.object "java/lang/String") (16 : Int32) [(.ref u0), .null, .null, .null, .null, .null, .null, .null, .null, .null, .null, .null, .null, .null, .null, .null] .null := (pr7.ext E12)
  obtain ⟨clq25, Arq25, ckq25, cSq25, cNq25, cHq25, cGq25⟩ := id f24
  have nn26 := Sf12 ua (Safe.arr hZ.alike Arq25 (by decide))
  have f27 : Arv Z h12 vB kb .byte zb xb (.int (0 : Int32)) := (pr14.ext E12)
  obtain ⟨clq28, Arq28, ckq28, cSq28, cNq28, cHq28, cGq28⟩ := id f27
  have f29 : Arv Z h12 vC kc_ .byte zc xc (.int (0 : Int32)) := (pr18.ext E12)
  obtain ⟨clq30, Arq30, ckq30, cSq30, cNq30, cHq30, cGq30⟩ := id f29
  have K31 : Gx p e below s₁ f0 T12 (mkF m 48 #[.val (.ref a1), .val (.ref a2), .val (.ref a3), .val (.int (1 : Int32))] [(.ref sa12), (.ref a3)]) := fun t kt => K11 t (st12 t kt)
  have f32 : Fld Z h12 a3 "java/lang/String" "coder" "B" (.int (0 : Int32)) := (pr16.ext E12)
  have f33 : Fld Z h12 a3 "java/lang/String" "value" "[B" (.ref vC) := (pr17.ext E12)
  have f34 : Old Z n0 h12 := (pr19.ext E12)
  have kp35 : Keep h0 h12 [a1, pa, ua] := ((Keep.refl h0 [a1, pa, ua]).ext E12)
  obtain ⟨cq36, kq36, q36a, q36b, q36c⟩ := isOf hZ e12 f17
  obtain ⟨_, _, ⟨T36, L36, k36, n36⟩, -, X36', ⟨Lc36, hQ36, l36, y36, z36⟩, st36⟩ := X12.virtualBack hx (y := (⟨"java/lang/String", "equals", "(Ljava/lang/Object;)Z"⟩ : MethodName)) (z := (⟨"java/lang/String", "equals", "(Ljava/lang/Object;)Z"⟩ : MethodName)) hown (mvT hZ (hw _ (List.mem_of_getElem? (i := 59) rfl))) (mvT hZ (hw _ (List.mem_of_getElem? (i := 60) rfl))) (notFace_of_selects (args := #[]) (mvT hZ (hw _ (List.mem_of_getElem? (i := 62) rfl)))) (mvT hZ (hw _ (List.mem_of_getElem? (i := 62) rfl))) (mvT hZ (hw _ (List.mem_of_getElem? (i := 61) rfl))) (by decide) (backOf (W := 0) (rmEne l Z a0 hw [] a3 sa12 vC sb12 kc_ kc12 zc (36 : Int32) xc [(.int (104 : Int32)), (.int (116 : Int32)), (.int (116 : Int32)), (.int (112 : Int32)), (.int (58 : Int32)), (.int (47 : Int32)), (.int (47 : Int32)), (.int (119 : Int32)), (.int (119 : Int32)), (.int (119 : Int32)), (.int (46 : Int32)), (.int (119 : Int32)), (.int (51 : Int32)), (.int (46 : Int32)), (.int (111 : Int32)), (.int (114 : Int32)), (.int (103 : Int32)), (.int (47 : Int32)), (.int (88 : Int32)), (.int (77 : Int32)), (.int (76 : Int32)), (.int (47 : Int32)), (.int (49 : Int32)), (.int (57 : Int32)), (.int (57 : Int32)), (.int (56 : Int32)), (.int (47 : Int32)), (.int (110 : Int32)), (.int (97 : Int32)), (.int (109 : Int32)), (.int (101 : Int32)), (.int (115 : Int32)), (.int (112 : Int32)), (.int (97 : Int32)), (.int (99 : Int32)), (.int (101 : Int32))] cw h12 n0 (Nat.le_trans Z0 kp35.1) f32 f33 f29 A12 Fc12 Fv12 V12 f34 pr20 hcw (by rcases hz3 with q | q <;> rw [q] <;> decide)) hZ (hw _ (List.mem_of_getElem? (i := 63) rfl)) (hw _ (List.mem_of_getElem? (i := 2) rfl)) (by decide) (by decide)) q36a q36c (g := (mkF m 48 #[.val (.ref a1), .val (.ref a2), .val (.ref a3), .val (.int (1 : Int32))] [(.ref sa12), (.ref a3)])) rfl (by rw [hml]; rfl) (Steps.refl _) (argsL := [(.ref sa12)]) (rest := []) (lenOf pd__Ljava_lang_Object__Z rfl) rfl (by show 2 * 0 + _ ≤ _; exact Nat.le_of_eq rfl) (hb hby d8_48) (fun _ _ => ⟨rfl, e12, (by decide : 2 + 0 ≤ _), (by decide : 148 + 0 ≤ _)⟩)
  dsimp only [Pt.U, Pt.locs, Pt.cells, Pt.slots] at X36' l36 y36 z36 st36 hQ36
  subst l36 y36 z36
  obtain ⟨rfl, N36q, e36⟩ := hQ36
  obtain ⟨lc36, X36, N36⟩ : ∃ lc, Stand p l e ({ frames := 2, cells := 8, slots := 308, locals := 28 } : Room) (s.setVm T12.vm) m #[(.ref a1), (.ref a2), (.ref a3)] below meth c T36 lc 2 148 ∧ Fr n0 lc := ⟨_, X36', Fr.app N0 N36q⟩
  have K37 : Gx p e below s₁ f0 T36 (mkF m 51 #[.val (.ref a1), .val (.ref a2), .val (.ref a3), .val (.int (1 : Int32))] [(.int (0 : Int32))]) := fun t kt => K31 t (st36.trans kt)
  have K38 : Gx p e below s₁ f0 T36 (mkF m 53 #[.val (.ref a1), .val (.ref a2), .val (.ref a3), .val (.int (0 : Int32))] [(.ref a2)]) := fun t kt => K37 t (by
    show Steps p.tables e below (T36.setTop (mkF m 51 #[.val (.ref a1), .val (.ref a2), .val (.ref a3), .val (.int (1 : Int32))] [(.int (0 : Int32))])) _
    refine XS.istoreN X36.here hx rfl (hb hby d8_51) rfl (l' := #[.val (.ref a1), .val (.ref a2), .val (.ref a3), .val (.int (0 : Int32))]) rfl ?_
    show Steps p.tables e below (T36.setTop (mkF m 52 #[.val (.ref a1), .val (.ref a2), .val (.ref a3), .val (.int (0 : Int32))] [])) _
    refine XS.aloadN X36.here hx rfl (hb hby d8_52) rfl rfl ?_
    exact kt)
  obtain ⟨sa39, T39, h39, kk39, sb39, kc39, X39, e39, E39, hS39, hk39, hZ, hown, A39, Fc39, Fv39, V39, -, -, CRq39, -, Sf39, st39⟩ := ldcCH (s := s) (vm0 := T12.vm) X36 hx hZ hown (hw _ (List.mem_of_getElem? (i := 67) rfl)) (own_wS hw) e36 hS12 hk12 (own_EW hw) (List.mem_of_getElem? (i := 1) rfl) CR13.1 (vs := [(.int (120 : Int32)), (.int (109 : Int32)), (.int (108 : Int32))]) (z := (3 : Int32)) ⟨by decide +kernel, by rfl⟩ (by decide) rfl (g := (mkF m 53 #[.val (.ref a1), .val (.ref a2), .val (.ref a3), .val (.int (0 : Int32))] [(.ref a2)])) rfl (hb hby d8_53) (n := 12) (by decide +kernel) (by decide) (by decide) (by decide)
  have CR40 : CHr Z ELx s.vm h0 T39.vm h39 := CR13.trans CRq39
  have f41 : Exa Z h39 a1 "com/example/stanzacall/stanzacall/xml/Namespaces" := (f14.ext E39)
  have nn42 := Sf39 a1 (Safe.exa hZ.alike f41 (by decide) (by decide))
  have f43 : Exa Z h39 a2 "java/lang/String" := (f16.ext E39)
  have f44 : Exa Z h39 a3 "java/lang/String" := (f17.ext E39)
  have f45 : Arv Z h39 pa kp (.object "java/lang/String") (16 : Int32) [(.ref p0), .null, .null, .null, .null, .null, .null, .null, .null, .null, .null, .null, .null, .null, .null, .null] .null := (f18.ext E39)
  obtain ⟨clq46, Arq46, ckq46, cSq46, cNq46, cHq46, cGq46⟩ := id f45
  have nn47 := Sf39 pa (Safe.arr hZ.alike Arq46 (by decide))
  have f48 : Exa Z h39 sa12 "java/lang/String" := (A12.ext E39)
  have f49 : Arv Z h39 sb12 kc12 .byte (36 : Int32) [(.int (104 : Int32)), (.int (116 : Int32)), (.int (116 : Int32)), (.int (112 : Int32)), (.int (58 : Int32)), (.int (47 : Int32)), (.int (47 : Int32)), (.int (119 : Int32)), (.int (119 : Int32)), (.int (119 : Int32)), (.int (46 : Int32)), (.int (119 : Int32)), (.int (51 : Int32)), (.int (46 : Int32)), (.int (111 : Int32)), (.int (114 : Int32)), (.int (103 : Int32)), (.int (47 : Int32)), (.int (88 : Int32)), (.int (77 : Int32)), (.int (76 : Int32)), (.int (47 : Int32)), (.int (49 : Int32)), (.int (57 : Int32)), (.int (57 : Int32)), (.int (56 : Int32)), (.int (47 : Int32)), (.int (110 : Int32)), (.int (97 : Int32)), (.int (109 : Int32)), (.int (101 : Int32)), (.int (115 : Int32)), (.int (112 : Int32)), (.int (97 : Int32)), (.int (99 : Int32)), (.int (101 : Int32))] (.int (0 : Int32)) := (V12.ext E39)
  obtain ⟨clq50, Arq50, ckq50, cSq50, cNq50, cHq50, cGq50⟩ := id f49
  have f51 : Arv Z h39 sc ks .int (16 : Int32) [(.int (0 : Int32)), (.int (1 : Int32)), (.int (0 : Int32)), (.int (0 : Int32)), (.int (0 : Int32)), (.int (0 : Int32)), (.int (0 : Int32)), (.int (0 : Int32)), (.int (0 : Int32)), (.int (0 : Int32)), (.int (0 : Int32)), (.int (0 : Int32)), (.int (0 : Int32)), (.int (0 : Int32)), (.int (0 : Int32)), (.int (0 : Int32))] (.int (0 : Int32)) := (f21.ext E39)
  obtain ⟨clq52, Arq52, ckq52, cSq52, cNq52, cHq52, cGq52⟩ := id f51
  have nn53 := Sf39 sc (Safe.arr hZ.alike Arq52 (by decide))
  have f54 : Arv Z h39 ua ku (.object "java/lang/String") (16 : Int32) [(.ref u0), .null, .null, .null, .null, .null, .null, .null, .null, .null, .null, .null, .null, .null, .null, .null] .null := (f24.ext E39)
  obtain ⟨clq55, Arq55, ckq55, cSq55, cNq55, cHq55, cGq55⟩ := id f54
  have nn56 := Sf39 ua (Safe.arr hZ.alike Arq55 (by decide))
  have f57 : Arv Z h39 vB kb .byte zb xb (.int (0 : Int32)) := (f27.ext E39)
  obtain ⟨clq58, Arq58, ckq58, cSq58, cNq58, cHq58, cGq58⟩ := id f57
  have f59 : Arv Z h39 vC kc_ .byte zc xc (.int (0 : Int32)) := (f29.ext E39)
  obtain ⟨clq60, Arq60, ckq60, cSq60, cNq60, cHq60, cGq60⟩ := id f59
  have K61 : Gx p e below s₁ f0 T39 (mkF m 55 #[.val (.ref a1), .val (.ref a2), .val (.ref a3), .val (.int (0 : Int32))] [(.ref sa39), (.ref a2)]) := fun t kt => K38 t (st39 t kt)
  have f62 : Fld Z h39 a2 "java/lang/String" "coder" "B" (.int (0 : Int32)) := ((pr12.ext E12).ext E39)
  have f63 : Fld Z h39 a2 "java/lang/String" "value" "[B" (.ref vB) := ((pr13.ext E12).ext E39)
  have f64 : Old Z n0 h39 := (f34.ext E39)
  have kp65 : Keep h0 h39 [a1, pa, ua] := (kp35.ext E39)
  obtain ⟨cq66, kq66, q66a, q66b, q66c⟩ := isOf hZ e39 f43
  obtain ⟨_, _, ⟨T66, L66, k66, n66⟩, -, X66', ⟨Lc66, hQ66, l66, y66, z66⟩, st66⟩ := X39.virtualBack hx (y := (⟨"java/lang/String", "equals", "(Ljava/lang/Object;)Z"⟩ : MethodName)) (z := (⟨"java/lang/String", "equals", "(Ljava/lang/Object;)Z"⟩ : MethodName)) hown (mvT hZ (hw _ (List.mem_of_getElem? (i := 59) rfl))) (mvT hZ (hw _ (List.mem_of_getElem? (i := 60) rfl))) (notFace_of_selects (args := #[]) (mvT hZ (hw _ (List.mem_of_getElem? (i := 62) rfl)))) (mvT hZ (hw _ (List.mem_of_getElem? (i := 62) rfl))) (mvT hZ (hw _ (List.mem_of_getElem? (i := 61) rfl))) (by decide) (backOf (W := 0) (rmEne l Z a0 hw [] a2 sa39 vB sb39 kb kc39 zb (3 : Int32) xb [(.int (120 : Int32)), (.int (109 : Int32)), (.int (108 : Int32))] cw h39 n0 (Nat.le_trans Z0 kp65.1) f62 f63 f57 A39 Fc39 Fv39 V39 f64 pr20 hcw (by rcases hz2 with q | q <;> rw [q] <;> decide)) hZ (hw _ (List.mem_of_getElem? (i := 63) rfl)) (hw _ (List.mem_of_getElem? (i := 2) rfl)) (by decide) (by decide)) q66a q66c (g := (mkF m 55 #[.val (.ref a1), .val (.ref a2), .val (.ref a3), .val (.int (0 : Int32))] [(.ref sa39), (.ref a2)])) rfl (by rw [hml]; rfl) (Steps.refl _) (argsL := [(.ref sa39)]) (rest := []) (lenOf pd__Ljava_lang_Object__Z rfl) rfl (by show 2 * 0 + _ ≤ _; exact Nat.le_of_eq rfl) (hb hby d8_55) (fun _ _ => ⟨rfl, e39, (by decide : 4 + 0 ≤ _), (by decide : 164 + 0 ≤ _)⟩)
  dsimp only [Pt.U, Pt.locs, Pt.cells, Pt.slots] at X66' l66 y66 z66 st66 hQ66
  subst l66 y66 z66
  obtain ⟨rfl, N66q, e66⟩ := hQ66
  obtain ⟨lc66, X66, N66⟩ : ∃ lc, Stand p l e ({ frames := 2, cells := 8, slots := 308, locals := 28 } : Room) (s.setVm T39.vm) m #[(.ref a1), (.ref a2), (.ref a3)] below meth c T66 lc 4 164 ∧ Fr n0 lc := ⟨_, X66', Fr.app N36 N66q⟩
  have K67 : Gx p e below s₁ f0 T66 (mkF m 58 #[.val (.ref a1), .val (.ref a2), .val (.ref a3), .val (.int (0 : Int32))] [(.int (0 : Int32))]) := fun t kt => K61 t (st66.trans kt)
  have K68 : Gx p e below s₁ f0 T66 (mkF m 63 #[.val (.ref a1), .val (.ref a2), .val (.ref a3), .val (.int (0 : Int32))] [(.ref a2)]) := fun t kt => K67 t (by
    show Steps p.tables e below (T66.setTop (mkF m 58 #[.val (.ref a1), .val (.ref a2), .val (.ref a3), .val (.int (0 : Int32))] [(.int (0 : Int32))])) _
    refine XS.iloadN X66.here hx rfl (hb hby d8_58) rfl ?_
    show Steps p.tables e below (T66.setTop (mkF m 59 #[.val (.ref a1), .val (.ref a2), .val (.ref a3), .val (.int (0 : Int32))] [(.int (0 : Int32)), (.int (0 : Int32))])) _
    refine XS.icmpNo X66.here hx rfl (hb hby d8_59) rfl (teq (by decide)).2 ?_
    show Steps p.tables e below (T66.setTop (mkF m 62 #[.val (.ref a1), .val (.ref a2), .val (.ref a3), .val (.int (0 : Int32))] [])) _
    refine XS.aloadN X66.here hx rfl (hb hby d8_62) rfl rfl ?_
    exact kt)
  obtain ⟨sa69, T69, h69, kk69, sb69, kc69, X69, e69, E69, hS69, hk69, hZ, hown, A69, Fc69, Fv69, V69, -, -, CRq69, -, Sf69, st69⟩ := ldcCH (s := s) (vm0 := T39.vm) X66 hx hZ hown (hw _ (List.mem_of_getElem? (i := 68) rfl)) (own_wS hw) e66 hS39 hk39 (own_EW hw) (List.mem_of_getElem? (i := 2) rfl) CR40.1 (vs := [(.int (120 : Int32)), (.int (109 : Int32)), (.int (108 : Int32)), (.int (110 : Int32)), (.int (115 : Int32))]) (z := (5 : Int32)) ⟨by decide +kernel, by rfl⟩ (by decide) rfl (g := (mkF m 63 #[.val (.ref a1), .val (.ref a2), .val (.ref a3), .val (.int (0 : Int32))] [(.ref a2)])) rfl (hb hby d8_63) (n := 20) (by decide +kernel) (by decide) (by decide) (by decide)
  have CR70 : CHr Z ELx s.vm h0 T69.vm h69 := CR40.trans CRq69
  have f71 : Exa Z h69 a1 "com/example/stanzacall/stanzacall/xml/Namespaces" := (f41.ext E69)
  have nn72 := Sf69 a1 (Safe.exa hZ.alike f71 (by decide) (by decide))
  have f73 : Exa Z h69 a2 "java/lang/String" := (f43.ext E69)
  have f74 : Exa Z h69 a3 "java/lang/String" := (f44.ext E69)
  have f75 : Arv Z h69 pa kp (.object "java/lang/String") (16 : Int32) [(.ref p0), .null, .null, .null, .null, .null, .null, .null, .null, .null, .null, .null, .null, .null, .null, .null] .null := (f45.ext E69)
  obtain ⟨clq76, Arq76, ckq76, cSq76, cNq76, cHq76, cGq76⟩ := id f75
  have nn77 := Sf69 pa (Safe.arr hZ.alike Arq76 (by decide))
  have f78 : Exa Z h69 sa12 "java/lang/String" := (f48.ext E69)
  have f79 : Exa Z h69 sa39 "java/lang/String" := (A39.ext E69)
  have f80 : Arv Z h69 sb12 kc12 .byte (36 : Int32) [(.int (104 : Int32)), (.int (116 : Int32)), (.int (116 : Int32)), (.int (112 : Int32)), (.int (58 : Int32)), (.int (47 : Int32)), (.int (47 : Int32)), (.int (119 : Int32)), (.int (119 : Int32)), (.int (119 : Int32)), (.int (46 : Int32)), (.int (119 : Int32)), (.int (51 : Int32)), (.int (46 : Int32)), (.int (111 : Int32)), (.int (114 : Int32)), (.int (103 : Int32)), (.int (47 : Int32)), (.int (88 : Int32)), (.int (77 : Int32)), (.int (76 : Int32)), (.int (47 : Int32)), (.int (49 : Int32)), (.int (57 : Int32)), (.int (57 : Int32)), (.int (56 : Int32)), (.int (47 : Int32)), (.int (110 : Int32)), (.int (97 : Int32)), (.int (109 : Int32)), (.int (101 : Int32)), (.int (115 : Int32)), (.int (112 : Int32)), (.int (97 : Int32)), (.int (99 : Int32)), (.int (101 : Int32))] (.int (0 : Int32)) := (f49.ext E69)
  obtain ⟨clq81, Arq81, ckq81, cSq81, cNq81, cHq81, cGq81⟩ := id f80
  have f82 : Arv Z h69 sb39 kc39 .byte (3 : Int32) [(.int (120 : Int32)), (.int (109 : Int32)), (.int (108 : Int32))] (.int (0 : Int32)) := (V39.ext E69)
  obtain ⟨clq83, Arq83, ckq83, cSq83, cNq83, cHq83, cGq83⟩ := id f82
  have f84 : Arv Z h69 sc ks .int (16 : Int32) [(.int (0 : Int32)), (.int (1 : Int32)), (.int (0 : Int32)), (.int (0 : Int32)), (.int (0 : Int32)), (.int (0 : Int32)), (.int (0 : Int32)), (.int (0 : Int32)), (.int (0 : Int32)), (.int (0 : Int32)), (.int (0 : Int32)), (.int (0 : Int32)), (.int (0 : Int32)), (.int (0 : Int32)), (.int (0 : Int32)), (.int (0 : Int32))] (.int (0 : Int32)) := (f51.ext E69)
  obtain ⟨clq85, Arq85, ckq85, cSq85, cNq85, cHq85, cGq85⟩ := id f84
  have nn86 := Sf69 sc (Safe.arr hZ.alike Arq85 (by decide))
  have f87 : Arv Z h69 ua ku (.object "java/lang/String") (16 : Int32) [(.ref u0), .null, .null, .null, .null, .null, .null, .null, .null, .null, .null, .null, .null, .null, .null, .null] .null := (f54.ext E69)
  obtain ⟨clq88, Arq88, ckq88, cSq88, cNq88, cHq88, cGq88⟩ := id f87
  have nn89 := Sf69 ua (Safe.arr hZ.alike Arq88 (by decide))
  have f90 : Arv Z h69 vB kb .byte zb xb (.int (0 : Int32)) := (f57.ext E69)
  obtain ⟨clq91, Arq91, ckq91, cSq91, cNq91, cHq91, cGq91⟩ := id f90
  have f92 : Arv Z h69 vC kc_ .byte zc xc (.int (0 : Int32)) := (f59.ext E69)
  obtain ⟨clq93, Arq93, ckq93, cSq93, cNq93, cHq93, cGq93⟩ := id f92
  have K94 : Gx p e below s₁ f0 T69 (mkF m 65 #[.val (.ref a1), .val (.ref a2), .val (.ref a3), .val (.int (0 : Int32))] [(.ref sa69), (.ref a2)]) := fun t kt => K68 t (st69 t kt)
  have f95 : Fld Z h69 a2 "java/lang/String" "coder" "B" (.int (0 : Int32)) := (f62.ext E69)
  have f96 : Fld Z h69 a2 "java/lang/String" "value" "[B" (.ref vB) := (f63.ext E69)
  have f97 : Old Z n0 h69 := (f64.ext E69)
  have kp98 : Keep h0 h69 [a1, pa, ua] := (kp65.ext E69)
  obtain ⟨cq99, kq99, q99a, q99b, q99c⟩ := isOf hZ e69 f73
  obtain ⟨_, _, ⟨T99, L99, k99, n99⟩, -, X99', ⟨Lc99, hQ99, l99, y99, z99⟩, st99⟩ := X69.virtualBack hx (y := (⟨"java/lang/String", "equals", "(Ljava/lang/Object;)Z"⟩ : MethodName)) (z := (⟨"java/lang/String", "equals", "(Ljava/lang/Object;)Z"⟩ : MethodName)) hown (mvT hZ (hw _ (List.mem_of_getElem? (i := 59) rfl))) (mvT hZ (hw _ (List.mem_of_getElem? (i := 60) rfl))) (notFace_of_selects (args := #[]) (mvT hZ (hw _ (List.mem_of_getElem? (i := 62) rfl)))) (mvT hZ (hw _ (List.mem_of_getElem? (i := 62) rfl))) (mvT hZ (hw _ (List.mem_of_getElem? (i := 61) rfl))) (by decide) (backOf (W := 0) (rmEne l Z a0 hw [] a2 sa69 vB sb69 kb kc69 zb (5 : Int32) xb [(.int (120 : Int32)), (.int (109 : Int32)), (.int (108 : Int32)), (.int (110 : Int32)), (.int (115 : Int32))] cw h69 n0 (Nat.le_trans Z0 kp98.1) f95 f96 f90 A69 Fc69 Fv69 V69 f97 pr20 hcw (by rcases hz2 with q | q <;> rw [q] <;> decide)) hZ (hw _ (List.mem_of_getElem? (i := 63) rfl)) (hw _ (List.mem_of_getElem? (i := 2) rfl)) (by decide) (by decide)) q99a q99c (g := (mkF m 65 #[.val (.ref a1), .val (.ref a2), .val (.ref a3), .val (.int (0 : Int32))] [(.ref sa69), (.ref a2)])) rfl (by rw [hml]; rfl) (Steps.refl _) (argsL := [(.ref sa69)]) (rest := []) (lenOf pd__Ljava_lang_Object__Z rfl) rfl (by show 2 * 0 + _ ≤ _; exact Nat.le_of_eq rfl) (hb hby d8_65) (fun _ _ => ⟨rfl, e69, (by decide : 6 + 0 ≤ _), (by decide : 188 + 0 ≤ _)⟩)
  dsimp only [Pt.U, Pt.locs, Pt.cells, Pt.slots] at X99' l99 y99 z99 st99 hQ99
  subst l99 y99 z99
  obtain ⟨rfl, N99q, e99⟩ := hQ99
  obtain ⟨lc99, X99, N99⟩ : ∃ lc, Stand p l e ({ frames := 2, cells := 8, slots := 308, locals := 28 } : Room) (s.setVm T69.vm) m #[(.ref a1), (.ref a2), (.ref a3)] below meth c T99 lc 6 188 ∧ Fr n0 lc := ⟨_, X99', Fr.app N66 N99q⟩
  have K100 : Gx p e below s₁ f0 T99 (mkF m 68 #[.val (.ref a1), .val (.ref a2), .val (.ref a3), .val (.int (0 : Int32))] [(.int (0 : Int32))]) := fun t kt => K94 t (st99.trans kt)
  have K101 : Gx p e below s₁ f0 T99 (mkF m 72 #[.val (.ref a1), .val (.ref a2), .val (.ref a3), .val (.int (0 : Int32))] [(.ref a3)]) := fun t kt => K100 t (by
    show Steps p.tables e below (T99.setTop (mkF m 68 #[.val (.ref a1), .val (.ref a2), .val (.ref a3), .val (.int (0 : Int32))] [(.int (0 : Int32))])) _
    refine XS.ifNo X99.here hx rfl (hb hby d8_68) rfl ((if0 _ _).trans (teq (by decide)).2) ?_
    show Steps p.tables e below (T99.setTop (mkF m 71 #[.val (.ref a1), .val (.ref a2), .val (.ref a3), .val (.int (0 : Int32))] [])) _
    refine XS.aloadN X99.here hx rfl (hb hby d8_71) rfl rfl ?_
    exact kt)
  obtain ⟨sa102, T102, h102, kk102, sb102, kc102, X102, e102, E102, hS102, hk102, hZ, hown, A102, Fc102, Fv102, V102, -, -, CRq102, -, Sf102, st102⟩ := ldcCH (s := s) (vm0 := T69.vm) X99 hx hZ hown (hw _ (List.mem_of_getElem? (i := 69) rfl)) (own_wS hw) e99 hS69 hk69 (own_EW hw) (List.mem_of_getElem? (i := 3) rfl) CR70.1 (vs := [(.int (104 : Int32)), (.int (116 : Int32)), (.int (116 : Int32)), (.int (112 : Int32)), (.int (58 : Int32)), (.int (47 : Int32)), (.int (47 : Int32)), (.int (119 : Int32)), (.int (119 : Int32)), (.int (119 : Int32)), (.int (46 : Int32)), (.int (119 : Int32)), (.int (51 : Int32)), (.int (46 : Int32)), (.int (111 : Int32)), (.int (114 : Int32)), (.int (103 : Int32)), (.int (47 : Int32)), (.int (50 : Int32)), (.int (48 : Int32)), (.int (48 : Int32)), (.int (48 : Int32)), (.int (47 : Int32)), (.int (120 : Int32)), (.int (109 : Int32)), (.int (108 : Int32)), (.int (110 : Int32)), (.int (115 : Int32)), (.int (47 : Int32))]) (z := (29 : Int32)) ⟨by decide +kernel, by rfl⟩ (by decide) rfl (g := (mkF m 72 #[.val (.ref a1), .val (.ref a2), .val (.ref a3), .val (.int (0 : Int32))] [(.ref a3)])) rfl (hb hby d8_72) (n := 116) (by decide +kernel) (by decide) (by decide) (by decide)
  have CR103 : CHr Z ELx s.vm h0 T102.vm h102 := CR70.trans CRq102
  have f104 : Exa Z h102 a1 "com/example/stanzacall/stanzacall/xml/Namespaces" := (f71.ext E102)
  have nn105 := Sf102 a1 (Safe.exa hZ.alike f104 (by decide) (by decide))
  have f106 : Exa Z h102 a2 "java/lang/String" := (f73.ext E102)
  have f107 : Exa Z h102 a3 "java/lang/String" := (f74.ext E102)
  have f108 : Arv Z h102 pa kp (.object "java/lang/String") (16 : Int32) [(.ref p0), .null, .null, .null, .null, .null, .null, .null, .null, .null, .null, .null, .null, .null, .null, .null] .null := (f75.ext E102)
  obtain ⟨clq109, Arq109, ckq109, cSq109, cNq109, cHq109, cGq109⟩ := id f108
  have nn110 := Sf102 pa (Safe.arr hZ.alike Arq109 (by decide))
  have f111 : Exa Z h102 sa12 "java/lang/String" := (f78.ext E102)
  have f112 : Exa Z h102 sa39 "java/lang/String" := (f79.ext E102)
  have f113 : Exa Z h102 sa69 "java/lang/String" := (A69.ext E102)
  have f114 : Arv Z h102 sb12 kc12 .byte (36 : Int32) [(.int (104 : Int32)), (.int (116 : Int32)), (.int (116 : Int32)), (.int (112 : Int32)), (.int (58 : Int32)), (.int (47 : Int32)), (.int (47 : Int32)), (.int (119 : Int32)), (.int (119 : Int32)), (.int (119 : Int32)), (.int (46 : Int32)), (.int (119 : Int32)), (.int (51 : Int32)), (.int (46 : Int32)), (.int (111 : Int32)), (.int (114 : Int32)), (.int (103 : Int32)), (.int (47 : Int32)), (.int (88 : Int32)), (.int (77 : Int32)), (.int (76 : Int32)), (.int (47 : Int32)), (.int (49 : Int32)), (.int (57 : Int32)), (.int (57 : Int32)), (.int (56 : Int32)), (.int (47 : Int32)), (.int (110 : Int32)), (.int (97 : Int32)), (.int (109 : Int32)), (.int (101 : Int32)), (.int (115 : Int32)), (.int (112 : Int32)), (.int (97 : Int32)), (.int (99 : Int32)), (.int (101 : Int32))] (.int (0 : Int32)) := (f80.ext E102)
  obtain ⟨clq115, Arq115, ckq115, cSq115, cNq115, cHq115, cGq115⟩ := id f114
  have f116 : Arv Z h102 sb39 kc39 .byte (3 : Int32) [(.int (120 : Int32)), (.int (109 : Int32)), (.int (108 : Int32))] (.int (0 : Int32)) := (f82.ext E102)
  obtain ⟨clq117, Arq117, ckq117, cSq117, cNq117, cHq117, cGq117⟩ := id f116
  have f118 : Arv Z h102 sb69 kc69 .byte (5 : Int32) [(.int (120 : Int32)), (.int (109 : Int32)), (.int (108 : Int32)), (.int (110 : Int32)), (.int (115 : Int32))] (.int (0 : Int32)) := (V69.ext E102)
  obtain ⟨clq119, Arq119, ckq119, cSq119, cNq119, cHq119, cGq119⟩ := id f118
  have f120 : Arv Z h102 sc ks .int (16 : Int32) [(.int (0 : Int32)), (.int (1 : Int32)), (.int (0 : Int32)), (.int (0 : Int32)), (.int (0 : Int32)), (.int (0 : Int32)), (.int (0 : Int32)), (.int (0 : Int32)), (.int (0 : Int32)), (.int (0 : Int32)), (.int (0 : Int32)), (.int (0 : Int32)), (.int (0 : Int32)), (.int (0 : Int32)), (.int (0 : Int32)), (.int (0 : Int32))] (.int (0 : Int32)) := (f84.ext E102)
  obtain ⟨clq121, Arq121, ckq121, cSq121, cNq121, cHq121, cGq121⟩ := id f120
  have nn122 := Sf102 sc (Safe.arr hZ.alike Arq121 (by decide))
  have f123 : Arv Z h102 ua ku (.object "java/lang/String") (16 : Int32) [(.ref u0), .null, .null, .null, .null, .null, .null, .null, .null, .null, .null, .null, .null, .null, .null, .null] .null := (f87.ext E102)
  obtain ⟨clq124, Arq124, ckq124, cSq124, cNq124, cHq124, cGq124⟩ := id f123
  have nn125 := Sf102 ua (Safe.arr hZ.alike Arq124 (by decide))
  have f126 : Arv Z h102 vB kb .byte zb xb (.int (0 : Int32)) := (f90.ext E102)
  obtain ⟨clq127, Arq127, ckq127, cSq127, cNq127, cHq127, cGq127⟩ := id f126
  have f128 : Arv Z h102 vC kc_ .byte zc xc (.int (0 : Int32)) := (f92.ext E102)
  obtain ⟨clq129, Arq129, ckq129, cSq129, cNq129, cHq129, cGq129⟩ := id f128
  have K130 : Gx p e below s₁ f0 T102 (mkF m 74 #[.val (.ref a1), .val (.ref a2), .val (.ref a3), .val (.int (0 : Int32))] [(.ref sa102), (.ref a3)]) := fun t kt => K101 t (st102 t kt)
  have f131 : Fld Z h102 a3 "java/lang/String" "coder" "B" (.int (0 : Int32)) := (((f32.ext E39).ext E69).ext E102)
  have f132 : Fld Z h102 a3 "java/lang/String" "value" "[B" (.ref vC) := (((f33.ext E39).ext E69).ext E102)
  have f133 : Old Z n0 h102 := (f97.ext E102)
  have kp134 : Keep h0 h102 [a1, pa, ua] := (kp98.ext E102)
  obtain ⟨cq135, kq135, q135a, q135b, q135c⟩ := isOf hZ e102 f107
  obtain ⟨_, _, ⟨T135, L135, k135, n135⟩, -, X135', ⟨Lc135, hQ135, l135, y135, z135⟩, st135⟩ := X102.virtualBack hx (y := (⟨"java/lang/String", "equals", "(Ljava/lang/Object;)Z"⟩ : MethodName)) (z := (⟨"java/lang/String", "equals", "(Ljava/lang/Object;)Z"⟩ : MethodName)) hown (mvT hZ (hw _ (List.mem_of_getElem? (i := 59) rfl))) (mvT hZ (hw _ (List.mem_of_getElem? (i := 60) rfl))) (notFace_of_selects (args := #[]) (mvT hZ (hw _ (List.mem_of_getElem? (i := 62) rfl)))) (mvT hZ (hw _ (List.mem_of_getElem? (i := 62) rfl))) (mvT hZ (hw _ (List.mem_of_getElem? (i := 61) rfl))) (by decide) (backOf (W := 0) (rmEne l Z a0 hw [] a3 sa102 vC sb102 kc_ kc102 zc (29 : Int32) xc [(.int (104 : Int32)), (.int (116 : Int32)), (.int (116 : Int32)), (.int (112 : Int32)), (.int (58 : Int32)), (.int (47 : Int32)), (.int (47 : Int32)), (.int (119 : Int32)), (.int (119 : Int32)), (.int (119 : Int32)), (.int (46 : Int32)), (.int (119 : Int32)), (.int (51 : Int32)), (.int (46 : Int32)), (.int (111 : Int32)), (.int (114 : Int32)), (.int (103 : Int32)), (.int (47 : Int32)), (.int (50 : Int32)), (.int (48 : Int32)), (.int (48 : Int32)), (.int (48 : Int32)), (.int (47 : Int32)), (.int (120 : Int32)), (.int (109 : Int32)), (.int (108 : Int32)), (.int (110 : Int32)), (.int (115 : Int32)), (.int (47 : Int32))] cw h102 n0 (Nat.le_trans Z0 kp134.1) f131 f132 f128 A102 Fc102 Fv102 V102 f133 pr20 hcw (by rcases hz3 with q | q <;> rw [q] <;> decide)) hZ (hw _ (List.mem_of_getElem? (i := 63) rfl)) (hw _ (List.mem_of_getElem? (i := 2) rfl)) (by decide) (by decide)) q135a q135c (g := (mkF m 74 #[.val (.ref a1), .val (.ref a2), .val (.ref a3), .val (.int (0 : Int32))] [(.ref sa102), (.ref a3)])) rfl (by rw [hml]; rfl) (Steps.refl _) (argsL := [(.ref sa102)]) (rest := []) (lenOf pd__Ljava_lang_Object__Z rfl) rfl (by show 2 * 0 + _ ≤ _; exact Nat.le_of_eq rfl) (hb hby d8_74) (fun _ _ => ⟨rfl, e102, (by decide : 8 + 0 ≤ _), (by decide : 308 + 0 ≤ _)⟩)
  dsimp only [Pt.U, Pt.locs, Pt.cells, Pt.slots] at X135' l135 y135 z135 st135 hQ135
  subst l135 y135 z135
  obtain ⟨rfl, N135q, e135⟩ := hQ135
  obtain ⟨lc135, X135, N135⟩ : ∃ lc, Stand p l e ({ frames := 2, cells := 8, slots := 308, locals := 28 } : Room) (s.setVm T102.vm) m #[(.ref a1), (.ref a2), (.ref a3)] below meth c T135 lc 8 308 ∧ Fr n0 lc := ⟨_, X135', Fr.app N99 N135q⟩
  have K136 : Gx p e below s₁ f0 T135 (mkF m 77 #[.val (.ref a1), .val (.ref a2), .val (.ref a3), .val (.int (0 : Int32))] [(.int (0 : Int32))]) := fun t kt => K130 t (st135.trans kt)
  have K137 : Gx p e below s₁ f0 T135 (mkF m 87 #[.val (.ref a1), .val (.ref a2), .val (.ref a3), .val (.int (0 : Int32))] [(.ref a3)]) := fun t kt => K136 t (by
    show Steps p.tables e below (T135.setTop (mkF m 77 #[.val (.ref a1), .val (.ref a2), .val (.ref a3), .val (.int (0 : Int32))] [(.int (0 : Int32))])) _
    refine XS.ifYes X135.here hx rfl (pc0 := 77) (pc' := 86) rfl (hb hby d8_77) rfl ((if0 _ _).trans (teq (by decide)).1) (by decide) (by decide) ?_
    show Steps p.tables e below (T135.setTop (mkF m 86 #[.val (.ref a1), .val (.ref a2), .val (.ref a3), .val (.int (0 : Int32))] [])) _
    refine XS.aloadN X135.here hx rfl (hb hby d8_86) rfl rfl ?_
    exact kt)
  obtain ⟨cq138, kq138, q138a, q138b, q138c⟩ := isOf hZ e135 f107
  obtain ⟨_, _, ⟨T138, L138, k138, n138⟩, -, X138', ⟨Lc138, hQ138, l138, y138, z138⟩, st138⟩ := X135.virtualBack hx (y := (⟨"java/lang/String", "isEmpty", "()Z"⟩ : MethodName)) (z := (⟨"java/lang/String", "isEmpty", "()Z"⟩ : MethodName)) hown (mvT hZ (hw _ (List.mem_of_getElem? (i := 70) rfl))) (mvT hZ (hw _ (List.mem_of_getElem? (i := 71) rfl))) (notFace_of_selects (args := #[]) (mvT hZ (hw _ (List.mem_of_getElem? (i := 73) rfl)))) (mvT hZ (hw _ (List.mem_of_getElem? (i := 73) rfl))) (mvT hZ (hw _ (List.mem_of_getElem? (i := 72) rfl))) (by decide) (backOf (W := 0) (rmEmp l Z a0 hw [] a3 vC kc_ zc xc h102 n0 (Nat.le_trans Z0 kp134.1) f132 f128) hZ (hw _ (List.mem_of_getElem? (i := 74) rfl)) (hw _ (List.mem_of_getElem? (i := 2) rfl)) (by decide) (by decide)) q138a q138c (g := (mkF m 87 #[.val (.ref a1), .val (.ref a2), .val (.ref a3), .val (.int (0 : Int32))] [(.ref a3)])) rfl (by rw [hml]; rfl) (Steps.refl _) (argsL := []) (rest := []) (lenOf pd___Z rfl) rfl (by show 2 * 0 + _ ≤ _; exact Nat.le_of_eq rfl) (hb hby d8_87) (fun _ _ => ⟨rfl, e135, (by decide : 8 + 0 ≤ _), (by decide : 308 + 0 ≤ _)⟩)
  dsimp only [Pt.U, Pt.locs, Pt.cells, Pt.slots] at X138' l138 y138 z138 st138 hQ138
  subst l138 y138 z138
  obtain ⟨rfl, N138q, e138⟩ := hQ138
  obtain ⟨lc138, X138, N138⟩ : ∃ lc, Stand p l e ({ frames := 2, cells := 8, slots := 308, locals := 28 } : Room) (s.setVm T102.vm) m #[(.ref a1), (.ref a2), (.ref a3)] below meth c T138 lc 8 308 ∧ Fr n0 lc := ⟨_, X138', Fr.app N135 N138q⟩
  have K139 : Gx p e below s₁ f0 T138 (mkF m 90 #[.val (.ref a1), .val (.ref a2), .val (.ref a3), .val (.int (0 : Int32))] [(.int (if zc = (0 : Int32) then (1 : Int32) else (0 : Int32)))]) := fun t kt => K137 t (st138.trans kt)
  by_cases hzc : zc = (0 : Int32)
  · skip
    rw [(if_pos hzc : (if zc = (0 : Int32) then (1 : Int32) else (0 : Int32)) = (1 : Int32))] at K139
    have K140 : Gx p e below s₁ f0 T138 (mkF m 94 #[.val (.ref a1), .val (.ref a2), .val (.ref a3), .val (.int (0 : Int32))] [(.ref a2)]) := fun t kt => K139 t (by
      show Steps p.tables e below (T138.setTop (mkF m 90 #[.val (.ref a1), .val (.ref a2), .val (.ref a3), .val (.int (0 : Int32))] [(.int (1 : Int32))])) _
      refine XS.ifNo X138.here hx rfl (hb hby d8_90) rfl ((if0 _ _).trans (feq (by decide)).1) ?_
      show Steps p.tables e below (T138.setTop (mkF m 93 #[.val (.ref a1), .val (.ref a2), .val (.ref a3), .val (.int (0 : Int32))] [])) _
      refine XS.aloadN X138.here hx rfl (hb hby d8_93) rfl rfl ?_
      exact kt)
    have f141 : Fld Z h102 a2 "java/lang/String" "value" "[B" (.ref vB) := (f96.ext E102)
    obtain ⟨cq142, kq142, q142a, q142b, q142c⟩ := isOf hZ e138 f106
    obtain ⟨_, _, ⟨T142, L142, k142, n142⟩, -, X142', ⟨Lc142, hQ142, l142, y142, z142⟩, st142⟩ := X138.virtualBack hx (y := (⟨"java/lang/String", "isEmpty", "()Z"⟩ : MethodName)) (z := (⟨"java/lang/String", "isEmpty", "()Z"⟩ : MethodName)) hown (mvT hZ (hw _ (List.mem_of_getElem? (i := 70) rfl))) (mvT hZ (hw _ (List.mem_of_getElem? (i := 71) rfl))) (notFace_of_selects (args := #[]) (mvT hZ (hw _ (List.mem_of_getElem? (i := 73) rfl)))) (mvT hZ (hw _ (List.mem_of_getElem? (i := 73) rfl))) (mvT hZ (hw _ (List.mem_of_getElem? (i := 72) rfl))) (by decide) (backOf (W := 0) (rmEmp l Z a0 hw [] a2 vB kb zb xb h102 n0 (Nat.le_trans Z0 kp134.1) f141 f126) hZ (hw _ (List.mem_of_getElem? (i := 74) rfl)) (hw _ (List.mem_of_getElem? (i := 2) rfl)) (by decide) (by decide)) q142a q142c (g := (mkF m 94 #[.val (.ref a1), .val (.ref a2), .val (.ref a3), .val (.int (0 : Int32))] [(.ref a2)])) rfl (by rw [hml]; rfl) (Steps.refl _) (argsL := []) (rest := []) (lenOf pd___Z rfl) rfl (by show 2 * 0 + _ ≤ _; exact Nat.le_of_eq rfl) (hb hby d8_94) (fun _ _ => ⟨rfl, e138, (by decide : 8 + 0 ≤ _), (by decide : 308 + 0 ≤ _)⟩)
    dsimp only [Pt.U, Pt.locs, Pt.cells, Pt.slots] at X142' l142 y142 z142 st142 hQ142
    subst l142 y142 z142
    obtain ⟨rfl, N142q, e142⟩ := hQ142
    obtain ⟨lc142, X142, N142⟩ : ∃ lc, Stand p l e ({ frames := 2, cells := 8, slots := 308, locals := 28 } : Room) (s.setVm T102.vm) m #[(.ref a1), (.ref a2), (.ref a3)] below meth c T142 lc 8 308 ∧ Fr n0 lc := ⟨_, X142', Fr.app N138 N142q⟩
    have K143 : Gx p e below s₁ f0 T142 (mkF m 97 #[.val (.ref a1), .val (.ref a2), .val (.ref a3), .val (.int (0 : Int32))] [(.int (if zb = (0 : Int32) then (1 : Int32) else (0 : Int32)))]) := fun t kt => K140 t (st142.trans kt)
    rw [(if_pos (hzz hzc) : (if zb = (0 : Int32) then (1 : Int32) else (0 : Int32)) = (1 : Int32))] at K143
    have K144 : Gx p e below s₁ f0 T142 (mkF m 107 #[.val (.ref a1), .val (.ref a2), .val (.ref a3), .val (.int (0 : Int32))] [(.ref a1)]) := fun t kt => K143 t (by
      show Steps p.tables e below (T142.setTop (mkF m 97 #[.val (.ref a1), .val (.ref a2), .val (.ref a3), .val (.int (0 : Int32))] [(.int (1 : Int32))])) _
      refine XS.ifYes X142.here hx rfl (pc0 := 97) (pc' := 106) rfl (hb hby d8_97) rfl ((if0 _ _).trans (feq (by decide)).2) (by decide) (by decide) ?_
      show Steps p.tables e below (T142.setTop (mkF m 106 #[.val (.ref a1), .val (.ref a2), .val (.ref a3), .val (.int (0 : Int32))] [])) _
      refine XS.aloadN X142.here hx rfl (hb hby d8_106) rfl rfl ?_
      exact kt)
    have f145 : Fld Z h102 a1 "com/example/stanzacall/stanzacall/xml/Namespaces" "count" "I" (.int (1 : Int32)) := ((((pr5.ext E12).ext E39).ext E69).ext E102)
    obtain ⟨T146, X146, e146, st146⟩ := getF X142 hx hZ hown (host := "") (Or.inl (hw _ (List.mem_of_getElem? (i := 49) rfl))) Via.refl e142 f145 (g := (mkF m 107 #[.val (.ref a1), .val (.ref a2), .val (.ref a3), .val (.int (0 : Int32))] [(.ref a1)])) rfl rfl (hb hby d8_107)
    have K147 : Gx p e below s₁ f0 T146 (mkF m 110 #[.val (.ref a1), .val (.ref a2), .val (.ref a3), .val (.int (0 : Int32))] [(.int (1 : Int32))]) := fun t kt => K144 t (st146 t kt)
    have K148 : Gx p e below s₁ f0 T146 (mkF m 111 #[.val (.ref a1), .val (.ref a2), .val (.ref a3), .val (.int (0 : Int32))] [(.ref a1), (.int (1 : Int32))]) := fun t kt => K147 t (by
      show Steps p.tables e below (T146.setTop (mkF m 110 #[.val (.ref a1), .val (.ref a2), .val (.ref a3), .val (.int (0 : Int32))] [(.int (1 : Int32))])) _
      refine XS.aloadN X146.here hx rfl (hb hby d8_110) rfl rfl ?_
      exact kt)
    have f149 : Fld Z h102 a1 "com/example/stanzacall/stanzacall/xml/Namespaces" "prefixes" "[Ljava/lang/String;" (.ref pa) := ((((pr1.ext E12).ext E39).ext E69).ext E102)
    obtain ⟨T150, X150, e150, st150⟩ := getF X146 hx hZ hown (host := "") (Or.inl (hw _ (List.mem_of_getElem? (i := 35) rfl))) Via.refl e146 f149 (g := (mkF m 111 #[.val (.ref a1), .val (.ref a2), .val (.ref a3), .val (.int (0 : Int32))] [(.ref a1), (.int (1 : Int32))])) rfl rfl (hb hby d8_111)
    have K151 : Gx p e below s₁ f0 T150 (mkF m 114 #[.val (.ref a1), .val (.ref a2), .val (.ref a3), .val (.int (0 : Int32))] [(.ref pa), (.int (1 : Int32))]) := fun t kt => K148 t (st150 t kt)
    have K152 : Gx p e below s₁ f0 T150 (mkF m 159 #[.val (.ref a1), .val (.ref a2), .val (.ref a3), .val (.int (0 : Int32))] [(.ref a1)]) := fun t kt => K151 t (by
      show Steps p.tables e below (T150.setTop (mkF m 114 #[.val (.ref a1), .val (.ref a2), .val (.ref a3), .val (.int (0 : Int32))] [(.ref pa), (.int (1 : Int32))])) _
      refine X150.arraylength hx (by rw [e150]; exact Arq109.1) (State.isArrayOf_alike hZ.alike Arq109.2.1) (g := (mkF m 114 #[.val (.ref a1), .val (.ref a2), .val (.ref a3), .val (.int (0 : Int32))] [(.ref pa), (.int (1 : Int32))])) rfl rfl (hb hby d8_114) _ ?_
      rw [len_of cSq109 cNq109]
      show Steps p.tables e below (T150.setTop (mkF m 115 #[.val (.ref a1), .val (.ref a2), .val (.ref a3), .val (.int (0 : Int32))] [(.int (16 : Int32)), (.int (1 : Int32))])) _
      refine XS.icmpYes X150.here hx rfl (pc0 := 115) (pc' := 158) rfl (hb hby d8_115) rfl (feq (by decide)).2 (by decide) (by decide) ?_
      show Steps p.tables e below (T150.setTop (mkF m 158 #[.val (.ref a1), .val (.ref a2), .val (.ref a3), .val (.int (0 : Int32))] [])) _
      refine XS.aloadN X150.here hx rfl (hb hby d8_158) rfl rfl ?_
      exact kt)
    obtain ⟨T153, X153, e153, st153⟩ := getF X150 hx hZ hown (host := "") (Or.inl (hw _ (List.mem_of_getElem? (i := 35) rfl))) Via.refl e150 f149 (g := (mkF m 159 #[.val (.ref a1), .val (.ref a2), .val (.ref a3), .val (.int (0 : Int32))] [(.ref a1)])) rfl rfl (hb hby d8_159)
    have K154 : Gx p e below s₁ f0 T153 (mkF m 162 #[.val (.ref a1), .val (.ref a2), .val (.ref a3), .val (.int (0 : Int32))] [(.ref pa)]) := fun t kt => K152 t (st153 t kt)
    have K155 : Gx p e below s₁ f0 T153 (mkF m 163 #[.val (.ref a1), .val (.ref a2), .val (.ref a3), .val (.int (0 : Int32))] [(.ref a1), (.ref pa)]) := fun t kt => K154 t (by
      show Steps p.tables e below (T153.setTop (mkF m 162 #[.val (.ref a1), .val (.ref a2), .val (.ref a3), .val (.int (0 : Int32))] [(.ref pa)])) _
      refine XS.aloadN X153.here hx rfl (hb hby d8_162) rfl rfl ?_
      exact kt)
    obtain ⟨T156, X156, e156, st156⟩ := getF X153 hx hZ hown (host := "") (Or.inl (hw _ (List.mem_of_getElem? (i := 49) rfl))) Via.refl e153 f145 (g := (mkF m 163 #[.val (.ref a1), .val (.ref a2), .val (.ref a3), .val (.int (0 : Int32))] [(.ref a1), (.ref pa)])) rfl rfl (hb hby d8_163)
    have K157 : Gx p e below s₁ f0 T156 (mkF m 166 #[.val (.ref a1), .val (.ref a2), .val (.ref a3), .val (.int (0 : Int32))] [(.int (1 : Int32)), (.ref pa)]) := fun t kt => K155 t (st156 t kt)
    have K158 : Gx p e below s₁ f0 T156 (mkF m 167 #[.val (.ref a1), .val (.ref a2), .val (.ref a3), .val (.int (0 : Int32))] [(.ref a2), (.int (1 : Int32)), (.ref pa)]) := fun t kt => K157 t (by
      show Steps p.tables e below (T156.setTop (mkF m 166 #[.val (.ref a1), .val (.ref a2), .val (.ref a3), .val (.int (0 : Int32))] [(.int (1 : Int32)), (.ref pa)])) _
      refine XS.aloadN X156.here hx rfl (hb hby d8_166) rfl rfl ?_
      exact kt)
    obtain ⟨T159, h159, X159', e159, W159, st159⟩ := stR X156 hx hZ e156 Arq109 (j := (1 : Int32)) (inb_of cSq109 ⟨by decide, by decide⟩) rfl (Sto.ofV Arq109 ckq109 pr9 (Ins.self f106)) (g := (mkF m 167 #[.val (.ref a1), .val (.ref a2), .val (.ref a3), .val (.int (0 : Int32))] [(.ref a2), (.int (1 : Int32)), (.ref pa)])) rfl rfl (hb hby d8_167)
    obtain ⟨lc159, X159, N159⟩ : ∃ lc, Stand p l e ({ frames := 2, cells := 8, slots := 308, locals := 28 } : Room) (s.setVm T102.vm) m #[(.ref a1), (.ref a2), (.ref a3)] below meth c T159 lc 8 308 ∧ Fr n0 lc := ⟨_, X159', Fr.snoc X159' N142 pr23⟩
    have CR160 : CHr Z ELx s.vm h0 T102.vm h159 := CR103.trans (CHr.wr W159 (Safe.arr hZ.alike Arq109 (by decide)) CR103.1)
    have V159 : Arv Z h159 pa kp (.object "java/lang/String") (16 : Int32) [(.ref p0), (.ref a2), .null, .null, .null, .null, .null, .null, .null, .null, .null, .null, .null, .null, .null, .null] .null := Arv.set Arq109 ckq109 cSq109 cNq109 cHq109 cGq109 rfl W159 1 rfl (Nat.le_of_ble_eq_true rfl)
    have K161 : Gx p e below s₁ f0 T159 (mkF m 168 #[.val (.ref a1), .val (.ref a2), .val (.ref a3), .val (.int (0 : Int32))] []) := fun t kt => K158 t (st159 t kt)
    have K162 : Gx p e below s₁ f0 T159 (mkF m 169 #[.val (.ref a1), .val (.ref a2), .val (.ref a3), .val (.int (0 : Int32))] [(.ref a1)]) := fun t kt => K161 t (by
      show Steps p.tables e below (T159.setTop (mkF m 168 #[.val (.ref a1), .val (.ref a2), .val (.ref a3), .val (.int (0 : Int32))] [])) _
      refine XS.aloadN X159.here hx rfl (hb hby d8_168) rfl rfl ?_
      exact kt)
    have f163 : Fld Z h159 a1 "com/example/stanzacall/stanzacall/xml/Namespaces" "uris" "[Ljava/lang/String;" (.ref ua) := (((((pr2.ext E12).ext E39).ext E69).ext E102).other W159 (Or.inl pr25))
    obtain ⟨T164, X164, e164, st164⟩ := getF X159 hx hZ hown (host := "") (Or.inl (hw _ (List.mem_of_getElem? (i := 37) rfl))) Via.refl e159 f163 (g := (mkF m 169 #[.val (.ref a1), .val (.ref a2), .val (.ref a3), .val (.int (0 : Int32))] [(.ref a1)])) rfl rfl (hb hby d8_169)
    have K165 : Gx p e below s₁ f0 T164 (mkF m 172 #[.val (.ref a1), .val (.ref a2), .val (.ref a3), .val (.int (0 : Int32))] [(.ref ua)]) := fun t kt => K162 t (st164 t kt)
    have K166 : Gx p e below s₁ f0 T164 (mkF m 173 #[.val (.ref a1), .val (.ref a2), .val (.ref a3), .val (.int (0 : Int32))] [(.ref a1), (.ref ua)]) := fun t kt => K165 t (by
      show Steps p.tables e below (T164.setTop (mkF m 172 #[.val (.ref a1), .val (.ref a2), .val (.ref a3), .val (.int (0 : Int32))] [(.ref ua)])) _
      refine XS.aloadN X164.here hx rfl (hb hby d8_172) rfl rfl ?_
      exact kt)
    have f167 : Fld Z h159 a1 "com/example/stanzacall/stanzacall/xml/Namespaces" "count" "I" (.int (1 : Int32)) := (f145.other W159 (Or.inl pr25))
    obtain ⟨T168, X168, e168, st168⟩ := getF X164 hx hZ hown (host := "") (Or.inl (hw _ (List.mem_of_getElem? (i := 49) rfl))) Via.refl e164 f167 (g := (mkF m 173 #[.val (.ref a1), .val (.ref a2), .val (.ref a3), .val (.int (0 : Int32))] [(.ref a1), (.ref ua)])) rfl rfl (hb hby d8_173)
    have K169 : Gx p e below s₁ f0 T168 (mkF m 176 #[.val (.ref a1), .val (.ref a2), .val (.ref a3), .val (.int (0 : Int32))] [(.int (1 : Int32)), (.ref ua)]) := fun t kt => K166 t (st168 t kt)
    have K170 : Gx p e below s₁ f0 T168 (mkF m 177 #[.val (.ref a1), .val (.ref a2), .val (.ref a3), .val (.int (0 : Int32))] [(.ref a3), (.int (1 : Int32)), (.ref ua)]) := fun t kt => K169 t (by
      show Steps p.tables e below (T168.setTop (mkF m 176 #[.val (.ref a1), .val (.ref a2), .val (.ref a3), .val (.int (0 : Int32))] [(.int (1 : Int32)), (.ref ua)])) _
      refine XS.aloadN X168.here hx rfl (hb hby d8_176) rfl rfl ?_
      exact kt)
    have f171 : Arv Z h159 ua ku (.object "java/lang/String") (16 : Int32) [(.ref u0), .null, .null, .null, .null, .null, .null, .null, .null, .null, .null, .null, .null, .null, .null, .null] .null := (f123.other W159 (Ne.symm pr28))
    obtain ⟨clq172, Arq172, ckq172, cSq172, cNq172, cHq172, cGq172⟩ := id f171
    have f174 : Exa Z h159 a3 "java/lang/String" := (f107.wr W159)
    obtain ⟨T173, h173, X173', e173, W173, st173⟩ := stR X168 hx hZ e168 Arq172 (j := (1 : Int32)) (inb_of cSq172 ⟨by decide, by decide⟩) rfl (Sto.ofV Arq172 ckq172 pr10 (Ins.self f174)) (g := (mkF m 177 #[.val (.ref a1), .val (.ref a2), .val (.ref a3), .val (.int (0 : Int32))] [(.ref a3), (.int (1 : Int32)), (.ref ua)])) rfl rfl (hb hby d8_177)
    obtain ⟨lc173, X173, N173⟩ : ∃ lc, Stand p l e ({ frames := 2, cells := 8, slots := 308, locals := 28 } : Room) (s.setVm T102.vm) m #[(.ref a1), (.ref a2), (.ref a3)] below meth c T173 lc 8 308 ∧ Fr n0 lc := ⟨_, X173', Fr.snoc X173' N159 pr24⟩
    have CR175 : CHr Z ELx s.vm h0 T102.vm h173 := CR160.trans (CHr.wr W173 (Safe.arr hZ.alike Arq172 (by decide)) CR160.1)
    have V173 : Arv Z h173 ua ku (.object "java/lang/String") (16 : Int32) [(.ref u0), (.ref a3), .null, .null, .null, .null, .null, .null, .null, .null, .null, .null, .null, .null, .null, .null] .null := Arv.set Arq172 ckq172 cSq172 cNq172 cHq172 cGq172 rfl W173 1 rfl (Nat.le_of_ble_eq_true rfl)
    have K176 : Gx p e below s₁ f0 T173 (mkF m 178 #[.val (.ref a1), .val (.ref a2), .val (.ref a3), .val (.int (0 : Int32))] []) := fun t kt => K170 t (st173 t kt)
    have K177 : Gx p e below s₁ f0 T173 (mkF m 180 #[.val (.ref a1), .val (.ref a2), .val (.ref a3), .val (.int (0 : Int32))] [(.ref a1), (.ref a1)]) := fun t kt => K176 t (by
      show Steps p.tables e below (T173.setTop (mkF m 178 #[.val (.ref a1), .val (.ref a2), .val (.ref a3), .val (.int (0 : Int32))] [])) _
      refine XS.aloadN X173.here hx rfl (hb hby d8_178) rfl rfl ?_
      show Steps p.tables e below (T173.setTop (mkF m 179 #[.val (.ref a1), .val (.ref a2), .val (.ref a3), .val (.int (0 : Int32))] [(.ref a1)])) _
      refine XS.dup X173.here hx rfl (hb hby d8_179) rfl rfl ?_
      exact kt)
    have f178 : Fld Z h173 a1 "com/example/stanzacall/stanzacall/xml/Namespaces" "count" "I" (.int (1 : Int32)) := (f167.other W173 (Or.inl pr26))
    obtain ⟨T179, X179, e179, st179⟩ := getF X173 hx hZ hown (host := "") (Or.inl (hw _ (List.mem_of_getElem? (i := 49) rfl))) Via.refl e173 f178 (g := (mkF m 180 #[.val (.ref a1), .val (.ref a2), .val (.ref a3), .val (.int (0 : Int32))] [(.ref a1), (.ref a1)])) rfl rfl (hb hby d8_180)
    have K180 : Gx p e below s₁ f0 T179 (mkF m 183 #[.val (.ref a1), .val (.ref a2), .val (.ref a3), .val (.int (0 : Int32))] [(.int (1 : Int32)), (.ref a1)]) := fun t kt => K177 t (st179 t kt)
    have K181 : Gx p e below s₁ f0 T179 (mkF m 185 #[.val (.ref a1), .val (.ref a2), .val (.ref a3), .val (.int (0 : Int32))] [(.int (2 : Int32)), (.ref a1)]) := fun t kt => K180 t (by
      show Steps p.tables e below (T179.setTop (mkF m 183 #[.val (.ref a1), .val (.ref a2), .val (.ref a3), .val (.int (0 : Int32))] [(.int (1 : Int32)), (.ref a1)])) _
      refine XS.iconst X179.here hx rfl (hb hby d8_183) ?_
      show Steps p.tables e below (T179.setTop (mkF m 184 #[.val (.ref a1), .val (.ref a2), .val (.ref a3), .val (.int (0 : Int32))] [(.int (1 : Int32)), (.int (1 : Int32)), (.ref a1)])) _
      refine XS.iadd X179.here hx rfl (hb hby d8_184) rfl ?_
      exact kt)
    have f182 : Exa Z h173 a1 "com/example/stanzacall/stanzacall/xml/Namespaces" := ((f104.wr W159).wr W173)
    obtain ⟨T183, h183, X183', e183, W183, st183⟩ := putF X179 hx hZ hown (host := "") (Or.inl (hw _ (List.mem_of_getElem? (i := 49) rfl))) Via.refl e179 f178 f182 (Or.inl (hw _ (List.mem_of_getElem? (i := 50) rfl))) (hw _ (List.mem_of_getElem? (i := 27) rfl)) (ty := .int) (by decide) rfl rfl (g := (mkF m 185 #[.val (.ref a1), .val (.ref a2), .val (.ref a3), .val (.int (0 : Int32))] [(.int (2 : Int32)), (.ref a1)])) rfl rfl (hb hby d8_185)
    obtain ⟨lc183, X183, N183⟩ : ∃ lc, Stand p l e ({ frames := 2, cells := 8, slots := 308, locals := 28 } : Room) (s.setVm T102.vm) m #[(.ref a1), (.ref a2), (.ref a3)] below meth c T183 lc 8 308 ∧ Fr n0 lc := ⟨_, X183', Fr.snoc X183' N173 pr22⟩
    have CR184 : CHr Z ELx s.vm h0 T102.vm h183 := CR175.trans (CHr.wr W183 (Safe.exa hZ.alike f182 (by decide) (by decide)) CR175.1)
    have f183_ : Fld Z h183 a1 "com/example/stanzacall/stanzacall/xml/Namespaces" "count" "I" (.int (2 : Int32)) := f178.same W183
    have K185 : Gx p e below s₁ f0 T183 (mkF m 188 #[.val (.ref a1), .val (.ref a2), .val (.ref a3), .val (.int (0 : Int32))] []) := fun t kt => K181 t (st183 t kt)
    have kp187 : Keep h0 h183 [a1, pa, ua] := (((kp134.wr W159 (Or.inl (List.mem_of_getElem? (i := 1) rfl))).wr W173 (Or.inl (List.mem_of_getElem? (i := 2) rfl))).wr W183 (Or.inl (List.mem_of_getElem? (i := 0) rfl)))
    have f188 : Exa Z h183 a1 "com/example/stanzacall/stanzacall/xml/Namespaces" := (f182.wr W183)
    have f189 : Fld Z h183 a1 "com/example/stanzacall/stanzacall/xml/Namespaces" "prefixes" "[Ljava/lang/String;" (.ref pa) := (((f149.other W159 (Or.inl pr25)).other W173 (Or.inl pr26)).other W183 (Or.inr (slot_ne (Or.inl (hw _ (List.mem_of_getElem? (i := 36) rfl))) (Or.inl (hw _ (List.mem_of_getElem? (i := 50) rfl))) (by decide) (t := (.array (.object "java/lang/String"))) (t' := .int) (by decide) (by decide))))
    have f190 : Fld Z h183 a1 "com/example/stanzacall/stanzacall/xml/Namespaces" "uris" "[Ljava/lang/String;" (.ref ua) := ((f163.other W173 (Or.inl pr26)).other W183 (Or.inr (slot_ne (Or.inl (hw _ (List.mem_of_getElem? (i := 38) rfl))) (Or.inl (hw _ (List.mem_of_getElem? (i := 50) rfl))) (by decide) (t := (.array (.object "java/lang/String"))) (t' := .int) (by decide) (by decide))))
    have f191 : Fld Z h183 a1 "com/example/stanzacall/stanzacall/xml/Namespaces" "scopes" "[I" (.ref sc) := (((((((pr3.ext E12).ext E39).ext E69).ext E102).other W159 (Or.inl pr25)).other W173 (Or.inl pr26)).other W183 (Or.inr (slot_ne (Or.inl (hw _ (List.mem_of_getElem? (i := 41) rfl))) (Or.inl (hw _ (List.mem_of_getElem? (i := 50) rfl))) (by decide) (t := (.array .int)) (t' := .int) (by decide) (by decide))))
    have f192 : Fld Z h183 a1 "com/example/stanzacall/stanzacall/xml/Namespaces" "depth" "I" (.int (2 : Int32)) := (((((((pr4.ext E12).ext E39).ext E69).ext E102).other W159 (Or.inl pr25)).other W173 (Or.inl pr26)).other W183 (Or.inr (slot_ne (Or.inl (hw _ (List.mem_of_getElem? (i := 48) rfl))) (Or.inl (hw _ (List.mem_of_getElem? (i := 50) rfl))) (by decide) (t := .int) (t' := .int) (by decide) (by decide))))
    have f193 : Arv Z h183 pa kp (.object "java/lang/String") (16 : Int32) [(.ref p0), (.ref a2), .null, .null, .null, .null, .null, .null, .null, .null, .null, .null, .null, .null, .null, .null] .null := ((V159.other W173 pr28).other W183 (Ne.symm pr25))
    have f194 : Arv Z h183 ua ku (.object "java/lang/String") (16 : Int32) [(.ref u0), (.ref a3), .null, .null, .null, .null, .null, .null, .null, .null, .null, .null, .null, .null, .null, .null] .null := (V173.other W183 (Ne.symm pr26))
    have CR186_ := CR184.trans (CHv.at X183 hZ (own_EW hw) CR184.1)
    obtain ⟨fs186, hr186, hrun186, hended186, hRW186⟩ := X183.leaveW hS102 (show _ ≤ T183.heap.size by rw [e183]; exact (Nat.le_trans (Nat.le_trans (Nat.le_trans hk102 (Keep.of_wr W159).1) (Keep.of_wr W173).1) (Keep.of_wr W183).1)) (v := none) (fun _ => rfl)
    refine ⟨_, _, pre0 _ (K185 _ ?_), hrun186, hended186, _, _, rfl, ?_, ?_, hRW186.1, hRW186.2.1, hRW186.2.2.1, hRW186.2.2.2.mono (by decide) (by decide)⟩
    · exact X183.returnOut hx Bd.returns (hb hby d8_188) hr186
    · show QDecl1 Z a1 a2 a3 pa ua sc kp ku ks p0 u0 vB kb zb xb vC kc_ zc xc cw h0 n0 _ T183.heap _
      rw [e183]
      exact ⟨rfl, N183, kp187, f188, f189, f190, f191, f192, f183_, f193, f194⟩
    · show CHr Z ELx s.vm s.heap T183.vm T183.heap
      rw [e183]
      exact hs0 ▸ CR186_
  · skip
    rw [(if_neg hzc : (if zc = (0 : Int32) then (1 : Int32) else (0 : Int32)) = (0 : Int32))] at K139
    have K195 : Gx p e below s₁ f0 T138 (mkF m 107 #[.val (.ref a1), .val (.ref a2), .val (.ref a3), .val (.int (0 : Int32))] [(.ref a1)]) := fun t kt => K139 t (by
      show Steps p.tables e below (T138.setTop (mkF m 90 #[.val (.ref a1), .val (.ref a2), .val (.ref a3), .val (.int (0 : Int32))] [(.int (0 : Int32))])) _
      refine XS.ifYes X138.here hx rfl (pc0 := 90) (pc' := 106) rfl (hb hby d8_90) rfl ((if0 _ _).trans (teq (by decide)).1) (by decide) (by decide) ?_
      show Steps p.tables e below (T138.setTop (mkF m 106 #[.val (.ref a1), .val (.ref a2), .val (.ref a3), .val (.int (0 : Int32))] [])) _
      refine XS.aloadN X138.here hx rfl (hb hby d8_106) rfl rfl ?_
      exact kt)
    have f196 : Fld Z h102 a1 "com/example/stanzacall/stanzacall/xml/Namespaces" "count" "I" (.int (1 : Int32)) := ((((pr5.ext E12).ext E39).ext E69).ext E102)
    obtain ⟨T197, X197, e197, st197⟩ := getF X138 hx hZ hown (host := "") (Or.inl (hw _ (List.mem_of_getElem? (i := 49) rfl))) Via.refl e138 f196 (g := (mkF m 107 #[.val (.ref a1), .val (.ref a2), .val (.ref a3), .val (.int (0 : Int32))] [(.ref a1)])) rfl rfl (hb hby d8_107)
    have K198 : Gx p e below s₁ f0 T197 (mkF m 110 #[.val (.ref a1), .val (.ref a2), .val (.ref a3), .val (.int (0 : Int32))] [(.int (1 : Int32))]) := fun t kt => K195 t (st197 t kt)
    have K199 : Gx p e below s₁ f0 T197 (mkF m 111 #[.val (.ref a1), .val (.ref a2), .val (.ref a3), .val (.int (0 : Int32))] [(.ref a1), (.int (1 : Int32))]) := fun t kt => K198 t (by
      show Steps p.tables e below (T197.setTop (mkF m 110 #[.val (.ref a1), .val (.ref a2), .val (.ref a3), .val (.int (0 : Int32))] [(.int (1 : Int32))])) _
      refine XS.aloadN X197.here hx rfl (hb hby d8_110) rfl rfl ?_
      exact kt)
    have f200 : Fld Z h102 a1 "com/example/stanzacall/stanzacall/xml/Namespaces" "prefixes" "[Ljava/lang/String;" (.ref pa) := ((((pr1.ext E12).ext E39).ext E69).ext E102)
    obtain ⟨T201, X201, e201, st201⟩ := getF X197 hx hZ hown (host := "") (Or.inl (hw _ (List.mem_of_getElem? (i := 35) rfl))) Via.refl e197 f200 (g := (mkF m 111 #[.val (.ref a1), .val (.ref a2), .val (.ref a3), .val (.int (0 : Int32))] [(.ref a1), (.int (1 : Int32))])) rfl rfl (hb hby d8_111)
    have K202 : Gx p e below s₁ f0 T201 (mkF m 114 #[.val (.ref a1), .val (.ref a2), .val (.ref a3), .val (.int (0 : Int32))] [(.ref pa), (.int (1 : Int32))]) := fun t kt => K199 t (st201 t kt)
    have K203 : Gx p e below s₁ f0 T201 (mkF m 159 #[.val (.ref a1), .val (.ref a2), .val (.ref a3), .val (.int (0 : Int32))] [(.ref a1)]) := fun t kt => K202 t (by
      show Steps p.tables e below (T201.setTop (mkF m 114 #[.val (.ref a1), .val (.ref a2), .val (.ref a3), .val (.int (0 : Int32))] [(.ref pa), (.int (1 : Int32))])) _
      refine X201.arraylength hx (by rw [e201]; exact Arq109.1) (State.isArrayOf_alike hZ.alike Arq109.2.1) (g := (mkF m 114 #[.val (.ref a1), .val (.ref a2), .val (.ref a3), .val (.int (0 : Int32))] [(.ref pa), (.int (1 : Int32))])) rfl rfl (hb hby d8_114) _ ?_
      rw [len_of cSq109 cNq109]
      show Steps p.tables e below (T201.setTop (mkF m 115 #[.val (.ref a1), .val (.ref a2), .val (.ref a3), .val (.int (0 : Int32))] [(.int (16 : Int32)), (.int (1 : Int32))])) _
      refine XS.icmpYes X201.here hx rfl (pc0 := 115) (pc' := 158) rfl (hb hby d8_115) rfl (feq (by decide)).2 (by decide) (by decide) ?_
      show Steps p.tables e below (T201.setTop (mkF m 158 #[.val (.ref a1), .val (.ref a2), .val (.ref a3), .val (.int (0 : Int32))] [])) _
      refine XS.aloadN X201.here hx rfl (hb hby d8_158) rfl rfl ?_
      exact kt)
    obtain ⟨T204, X204, e204, st204⟩ := getF X201 hx hZ hown (host := "") (Or.inl (hw _ (List.mem_of_getElem? (i := 35) rfl))) Via.refl e201 f200 (g := (mkF m 159 #[.val (.ref a1), .val (.ref a2), .val (.ref a3), .val (.int (0 : Int32))] [(.ref a1)])) rfl rfl (hb hby d8_159)
    have K205 : Gx p e below s₁ f0 T204 (mkF m 162 #[.val (.ref a1), .val (.ref a2), .val (.ref a3), .val (.int (0 : Int32))] [(.ref pa)]) := fun t kt => K203 t (st204 t kt)
    have K206 : Gx p e below s₁ f0 T204 (mkF m 163 #[.val (.ref a1), .val (.ref a2), .val (.ref a3), .val (.int (0 : Int32))] [(.ref a1), (.ref pa)]) := fun t kt => K205 t (by
      show Steps p.tables e below (T204.setTop (mkF m 162 #[.val (.ref a1), .val (.ref a2), .val (.ref a3), .val (.int (0 : Int32))] [(.ref pa)])) _
      refine XS.aloadN X204.here hx rfl (hb hby d8_162) rfl rfl ?_
      exact kt)
    obtain ⟨T207, X207, e207, st207⟩ := getF X204 hx hZ hown (host := "") (Or.inl (hw _ (List.mem_of_getElem? (i := 49) rfl))) Via.refl e204 f196 (g := (mkF m 163 #[.val (.ref a1), .val (.ref a2), .val (.ref a3), .val (.int (0 : Int32))] [(.ref a1), (.ref pa)])) rfl rfl (hb hby d8_163)
    have K208 : Gx p e below s₁ f0 T207 (mkF m 166 #[.val (.ref a1), .val (.ref a2), .val (.ref a3), .val (.int (0 : Int32))] [(.int (1 : Int32)), (.ref pa)]) := fun t kt => K206 t (st207 t kt)
    have K209 : Gx p e below s₁ f0 T207 (mkF m 167 #[.val (.ref a1), .val (.ref a2), .val (.ref a3), .val (.int (0 : Int32))] [(.ref a2), (.int (1 : Int32)), (.ref pa)]) := fun t kt => K208 t (by
      show Steps p.tables e below (T207.setTop (mkF m 166 #[.val (.ref a1), .val (.ref a2), .val (.ref a3), .val (.int (0 : Int32))] [(.int (1 : Int32)), (.ref pa)])) _
      refine XS.aloadN X207.here hx rfl (hb hby d8_166) rfl rfl ?_
      exact kt)
    obtain ⟨T210, h210, X210', e210, W210, st210⟩ := stR X207 hx hZ e207 Arq109 (j := (1 : Int32)) (inb_of cSq109 ⟨by decide, by decide⟩) rfl (Sto.ofV Arq109 ckq109 pr9 (Ins.self f106)) (g := (mkF m 167 #[.val (.ref a1), .val (.ref a2), .val (.ref a3), .val (.int (0 : Int32))] [(.ref a2), (.int (1 : Int32)), (.ref pa)])) rfl rfl (hb hby d8_167)
    obtain ⟨lc210, X210, N210⟩ : ∃ lc, Stand p l e ({ frames := 2, cells := 8, slots := 308, locals := 28 } : Room) (s.setVm T102.vm) m #[(.ref a1), (.ref a2), (.ref a3)] below meth c T210 lc 8 308 ∧ Fr n0 lc := ⟨_, X210', Fr.snoc X210' N138 pr23⟩
    have CR211 : CHr Z ELx s.vm h0 T102.vm h210 := CR103.trans (CHr.wr W210 (Safe.arr hZ.alike Arq109 (by decide)) CR103.1)
    have V210 : Arv Z h210 pa kp (.object "java/lang/String") (16 : Int32) [(.ref p0), (.ref a2), .null, .null, .null, .null, .null, .null, .null, .null, .null, .null, .null, .null, .null, .null] .null := Arv.set Arq109 ckq109 cSq109 cNq109 cHq109 cGq109 rfl W210 1 rfl (Nat.le_of_ble_eq_true rfl)
    have K212 : Gx p e below s₁ f0 T210 (mkF m 168 #[.val (.ref a1), .val (.ref a2), .val (.ref a3), .val (.int (0 : Int32))] []) := fun t kt => K209 t (st210 t kt)
    have K213 : Gx p e below s₁ f0 T210 (mkF m 169 #[.val (.ref a1), .val (.ref a2), .val (.ref a3), .val (.int (0 : Int32))] [(.ref a1)]) := fun t kt => K212 t (by
      show Steps p.tables e below (T210.setTop (mkF m 168 #[.val (.ref a1), .val (.ref a2), .val (.ref a3), .val (.int (0 : Int32))] [])) _
      refine XS.aloadN X210.here hx rfl (hb hby d8_168) rfl rfl ?_
      exact kt)
    have f214 : Fld Z h210 a1 "com/example/stanzacall/stanzacall/xml/Namespaces" "uris" "[Ljava/lang/String;" (.ref ua) := (((((pr2.ext E12).ext E39).ext E69).ext E102).other W210 (Or.inl pr25))
    obtain ⟨T215, X215, e215, st215⟩ := getF X210 hx hZ hown (host := "") (Or.inl (hw _ (List.mem_of_getElem? (i := 37) rfl))) Via.refl e210 f214 (g := (mkF m 169 #[.val (.ref a1), .val (.ref a2), .val (.ref a3), .val (.int (0 : Int32))] [(.ref a1)])) rfl rfl (hb hby d8_169)
    have K216 : Gx p e below s₁ f0 T215 (mkF m 172 #[.val (.ref a1), .val (.ref a2), .val (.ref a3), .val (.int (0 : Int32))] [(.ref ua)]) := fun t kt => K213 t (st215 t kt)
    have K217 : Gx p e below s₁ f0 T215 (mkF m 173 #[.val (.ref a1), .val (.ref a2), .val (.ref a3), .val (.int (0 : Int32))] [(.ref a1), (.ref ua)]) := fun t kt => K216 t (by
      show Steps p.tables e below (T215.setTop (mkF m 172 #[.val (.ref a1), .val (.ref a2), .val (.ref a3), .val (.int (0 : Int32))] [(.ref ua)])) _
      refine XS.aloadN X215.here hx rfl (hb hby d8_172) rfl rfl ?_
      exact kt)
    have f218 : Fld Z h210 a1 "com/example/stanzacall/stanzacall/xml/Namespaces" "count" "I" (.int (1 : Int32)) := (f196.other W210 (Or.inl pr25))
    obtain ⟨T219, X219, e219, st219⟩ := getF X215 hx hZ hown (host := "") (Or.inl (hw _ (List.mem_of_getElem? (i := 49) rfl))) Via.refl e215 f218 (g := (mkF m 173 #[.val (.ref a1), .val (.ref a2), .val (.ref a3), .val (.int (0 : Int32))] [(.ref a1), (.ref ua)])) rfl rfl (hb hby d8_173)
    have K220 : Gx p e below s₁ f0 T219 (mkF m 176 #[.val (.ref a1), .val (.ref a2), .val (.ref a3), .val (.int (0 : Int32))] [(.int (1 : Int32)), (.ref ua)]) := fun t kt => K217 t (st219 t kt)
    have K221 : Gx p e below s₁ f0 T219 (mkF m 177 #[.val (.ref a1), .val (.ref a2), .val (.ref a3), .val (.int (0 : Int32))] [(.ref a3), (.int (1 : Int32)), (.ref ua)]) := fun t kt => K220 t (by
      show Steps p.tables e below (T219.setTop (mkF m 176 #[.val (.ref a1), .val (.ref a2), .val (.ref a3), .val (.int (0 : Int32))] [(.int (1 : Int32)), (.ref ua)])) _
      refine XS.aloadN X219.here hx rfl (hb hby d8_176) rfl rfl ?_
      exact kt)
    have f222 : Arv Z h210 ua ku (.object "java/lang/String") (16 : Int32) [(.ref u0), .null, .null, .null, .null, .null, .null, .null, .null, .null, .null, .null, .null, .null, .null, .null] .null := (f123.other W210 (Ne.symm pr28))
    obtain ⟨clq223, Arq223, ckq223, cSq223, cNq223, cHq223, cGq223⟩ := id f222
    have f225 : Exa Z h210 a3 "java/lang/String" := (f107.wr W210)
    obtain ⟨T224, h224, X224', e224, W224, st224⟩ := stR X219 hx hZ e219 Arq223 (j := (1 : Int32)) (inb_of cSq223 ⟨by decide, by decide⟩) rfl (Sto.ofV Arq223 ckq223 pr10 (Ins.self f225)) (g := (mkF m 177 #[.val (.ref a1), .val (.ref a2), .val (.ref a3), .val (.int (0 : Int32))] [(.ref a3), (.int (1 : Int32)), (.ref ua)])) rfl rfl (hb hby d8_177)
    obtain ⟨lc224, X224, N224⟩ : ∃ lc, Stand p l e ({ frames := 2, cells := 8, slots := 308, locals := 28 } : Room) (s.setVm T102.vm) m #[(.ref a1), (.ref a2), (.ref a3)] below meth c T224 lc 8 308 ∧ Fr n0 lc := ⟨_, X224', Fr.snoc X224' N210 pr24⟩
    have CR226 : CHr Z ELx s.vm h0 T102.vm h224 := CR211.trans (CHr.wr W224 (Safe.arr hZ.alike Arq223 (by decide)) CR211.1)
    have V224 : Arv Z h224 ua ku (.object "java/lang/String") (16 : Int32) [(.ref u0), (.ref a3), .null, .null, .null, .null, .null, .null, .null, .null, .null, .null, .null, .null, .null, .null] .null := Arv.set Arq223 ckq223 cSq223 cNq223 cHq223 cGq223 rfl W224 1 rfl (Nat.le_of_ble_eq_true rfl)
    have K227 : Gx p e below s₁ f0 T224 (mkF m 178 #[.val (.ref a1), .val (.ref a2), .val (.ref a3), .val (.int (0 : Int32))] []) := fun t kt => K221 t (st224 t kt)
    have K228 : Gx p e below s₁ f0 T224 (mkF m 180 #[.val (.ref a1), .val (.ref a2), .val (.ref a3), .val (.int (0 : Int32))] [(.ref a1), (.ref a1)]) := fun t kt => K227 t (by
      show Steps p.tables e below (T224.setTop (mkF m 178 #[.val (.ref a1), .val (.ref a2), .val (.ref a3), .val (.int (0 : Int32))] [])) _
      refine XS.aloadN X224.here hx rfl (hb hby d8_178) rfl rfl ?_
      show Steps p.tables e below (T224.setTop (mkF m 179 #[.val (.ref a1), .val (.ref a2), .val (.ref a3), .val (.int (0 : Int32))] [(.ref a1)])) _
      refine XS.dup X224.here hx rfl (hb hby d8_179) rfl rfl ?_
      exact kt)
    have f229 : Fld Z h224 a1 "com/example/stanzacall/stanzacall/xml/Namespaces" "count" "I" (.int (1 : Int32)) := (f218.other W224 (Or.inl pr26))
    obtain ⟨T230, X230, e230, st230⟩ := getF X224 hx hZ hown (host := "") (Or.inl (hw _ (List.mem_of_getElem? (i := 49) rfl))) Via.refl e224 f229 (g := (mkF m 180 #[.val (.ref a1), .val (.ref a2), .val (.ref a3), .val (.int (0 : Int32))] [(.ref a1), (.ref a1)])) rfl rfl (hb hby d8_180)
    have K231 : Gx p e below s₁ f0 T230 (mkF m 183 #[.val (.ref a1), .val (.ref a2), .val (.ref a3), .val (.int (0 : Int32))] [(.int (1 : Int32)), (.ref a1)]) := fun t kt => K228 t (st230 t kt)
    have K232 : Gx p e below s₁ f0 T230 (mkF m 185 #[.val (.ref a1), .val (.ref a2), .val (.ref a3), .val (.int (0 : Int32))] [(.int (2 : Int32)), (.ref a1)]) := fun t kt => K231 t (by
      show Steps p.tables e below (T230.setTop (mkF m 183 #[.val (.ref a1), .val (.ref a2), .val (.ref a3), .val (.int (0 : Int32))] [(.int (1 : Int32)), (.ref a1)])) _
      refine XS.iconst X230.here hx rfl (hb hby d8_183) ?_
      show Steps p.tables e below (T230.setTop (mkF m 184 #[.val (.ref a1), .val (.ref a2), .val (.ref a3), .val (.int (0 : Int32))] [(.int (1 : Int32)), (.int (1 : Int32)), (.ref a1)])) _
      refine XS.iadd X230.here hx rfl (hb hby d8_184) rfl ?_
      exact kt)
    have f233 : Exa Z h224 a1 "com/example/stanzacall/stanzacall/xml/Namespaces" := ((f104.wr W210).wr W224)
    obtain ⟨T234, h234, X234', e234, W234, st234⟩ := putF X230 hx hZ hown (host := "") (Or.inl (hw _ (List.mem_of_getElem? (i := 49) rfl))) Via.refl e230 f229 f233 (Or.inl (hw _ (List.mem_of_getElem? (i := 50) rfl))) (hw _ (List.mem_of_getElem? (i := 27) rfl)) (ty := .int) (by decide) rfl rfl (g := (mkF m 185 #[.val (.ref a1), .val (.ref a2), .val (.ref a3), .val (.int (0 : Int32))] [(.int (2 : Int32)), (.ref a1)])) rfl rfl (hb hby d8_185)
    obtain ⟨lc234, X234, N234⟩ : ∃ lc, Stand p l e ({ frames := 2, cells := 8, slots := 308, locals := 28 } : Room) (s.setVm T102.vm) m #[(.ref a1), (.ref a2), (.ref a3)] below meth c T234 lc 8 308 ∧ Fr n0 lc := ⟨_, X234', Fr.snoc X234' N224 pr22⟩
    have CR235 : CHr Z ELx s.vm h0 T102.vm h234 := CR226.trans (CHr.wr W234 (Safe.exa hZ.alike f233 (by decide) (by decide)) CR226.1)
    have f234_ : Fld Z h234 a1 "com/example/stanzacall/stanzacall/xml/Namespaces" "count" "I" (.int (2 : Int32)) := f229.same W234
    have K236 : Gx p e below s₁ f0 T234 (mkF m 188 #[.val (.ref a1), .val (.ref a2), .val (.ref a3), .val (.int (0 : Int32))] []) := fun t kt => K232 t (st234 t kt)
    have kp238 : Keep h0 h234 [a1, pa, ua] := (((kp134.wr W210 (Or.inl (List.mem_of_getElem? (i := 1) rfl))).wr W224 (Or.inl (List.mem_of_getElem? (i := 2) rfl))).wr W234 (Or.inl (List.mem_of_getElem? (i := 0) rfl)))
    have f239 : Exa Z h234 a1 "com/example/stanzacall/stanzacall/xml/Namespaces" := (f233.wr W234)
    have f240 : Fld Z h234 a1 "com/example/stanzacall/stanzacall/xml/Namespaces" "prefixes" "[Ljava/lang/String;" (.ref pa) := (((f200.other W210 (Or.inl pr25)).other W224 (Or.inl pr26)).other W234 (Or.inr (slot_ne (Or.inl (hw _ (List.mem_of_getElem? (i := 36) rfl))) (Or.inl (hw _ (List.mem_of_getElem? (i := 50) rfl))) (by decide) (t := (.array (.object "java/lang/String"))) (t' := .int) (by decide) (by decide))))
    have f241 : Fld Z h234 a1 "com/example/stanzacall/stanzacall/xml/Namespaces" "uris" "[Ljava/lang/String;" (.ref ua) := ((f214.other W224 (Or.inl pr26)).other W234 (Or.inr (slot_ne (Or.inl (hw _ (List.mem_of_getElem? (i := 38) rfl))) (Or.inl (hw _ (List.mem_of_getElem? (i := 50) rfl))) (by decide) (t := (.array (.object "java/lang/String"))) (t' := .int) (by decide) (by decide))))
    have f242 : Fld Z h234 a1 "com/example/stanzacall/stanzacall/xml/Namespaces" "scopes" "[I" (.ref sc) := (((((((pr3.ext E12).ext E39).ext E69).ext E102).other W210 (Or.inl pr25)).other W224 (Or.inl pr26)).other W234 (Or.inr (slot_ne (Or.inl (hw _ (List.mem_of_getElem? (i := 41) rfl))) (Or.inl (hw _ (List.mem_of_getElem? (i := 50) rfl))) (by decide) (t := (.array .int)) (t' := .int) (by decide) (by decide))))
    have f243 : Fld Z h234 a1 "com/example/stanzacall/stanzacall/xml/Namespaces" "depth" "I" (.int (2 : Int32)) := (((((((pr4.ext E12).ext E39).ext E69).ext E102).other W210 (Or.inl pr25)).other W224 (Or.inl pr26)).other W234 (Or.inr (slot_ne (Or.inl (hw _ (List.mem_of_getElem? (i := 48) rfl))) (Or.inl (hw _ (List.mem_of_getElem? (i := 50) rfl))) (by decide) (t := .int) (t' := .int) (by decide) (by decide))))
    have f244 : Arv Z h234 pa kp (.object "java/lang/String") (16 : Int32) [(.ref p0), (.ref a2), .null, .null, .null, .null, .null, .null, .null, .null, .null, .null, .null, .null, .null, .null] .null := ((V210.other W224 pr28).other W234 (Ne.symm pr25))
    have f245 : Arv Z h234 ua ku (.object "java/lang/String") (16 : Int32) [(.ref u0), (.ref a3), .null, .null, .null, .null, .null, .null, .null, .null, .null, .null, .null, .null, .null, .null] .null := (V224.other W234 (Ne.symm pr26))
    have CR237_ := CR235.trans (CHv.at X234 hZ (own_EW hw) CR235.1)
    obtain ⟨fs237, hr237, hrun237, hended237, hRW237⟩ := X234.leaveW hS102 (show _ ≤ T234.heap.size by rw [e234]; exact (Nat.le_trans (Nat.le_trans (Nat.le_trans hk102 (Keep.of_wr W210).1) (Keep.of_wr W224).1) (Keep.of_wr W234).1)) (v := none) (fun _ => rfl)
    refine ⟨_, _, pre0 _ (K236 _ ?_), hrun237, hended237, _, _, rfl, ?_, ?_, hRW237.1, hRW237.2.1, hRW237.2.2.1, hRW237.2.2.2.mono (by decide) (by decide)⟩
    · exact X234.returnOut hx Bd.returns (hb hby d8_188) hr237
    · show QDecl1 Z a1 a2 a3 pa ua sc kp ku ks p0 u0 vB kb zb xb vC kc_ zc xc cw h0 n0 _ T234.heap _
      rw [e234]
      exact ⟨rfl, N234, kp238, f239, f240, f241, f242, f243, f234_, f244, f245⟩
    · show CHr Z ELx s.vm s.heap T234.vm T234.heap
      rw [e234]
      exact hs0 ▸ CR237_
theorem d12_0 : decode prog_73_method_5_code 0 = .ok (.aload_n 0, 1) := by decide +kernel
theorem d12_1 : decode prog_73_method_5_code 1 = .ok (.getfield 32, 3) := by decide +kernel
theorem d12_4 : decode prog_73_method_5_code 4 = .ok (.iconst 1, 1) := by decide +kernel
theorem d12_5 : decode prog_73_method_5_code 5 = .ok (.isub, 1) := by decide +kernel
theorem d12_6 : decode prog_73_method_5_code 6 = .ok (.istore_n 2, 1) := by decide +kernel
theorem d12_7 : decode prog_73_method_5_code 7 = .ok (.iload_n 2, 1) := by decide +kernel
theorem d12_8 : decode prog_73_method_5_code 8 = .ok (.ifCond .lt 29, 3) := by decide +kernel
theorem d12_11 : decode prog_73_method_5_code 11 = .ok (.aload_n 0, 1) := by decide +kernel
theorem d12_12 : decode prog_73_method_5_code 12 = .ok (.getfield 9, 3) := by decide +kernel
theorem d12_15 : decode prog_73_method_5_code 15 = .ok (.iload_n 2, 1) := by decide +kernel
theorem d12_16 : decode prog_73_method_5_code 16 = .ok (.aaload, 1) := by decide +kernel
theorem d12_17 : decode prog_73_method_5_code 17 = .ok (.aload_n 1, 1) := by decide +kernel
theorem d12_18 : decode prog_73_method_5_code 18 = .ok (.invokevirtual 35, 3) := by decide +kernel
theorem d12_21 : decode prog_73_method_5_code 21 = .ok (.ifCond .eq 10, 3) := by decide +kernel
theorem d12_24 : decode prog_73_method_5_code 24 = .ok (.aload_n 0, 1) := by decide +kernel
theorem d12_25 : decode prog_73_method_5_code 25 = .ok (.getfield 15, 3) := by decide +kernel
theorem d12_28 : decode prog_73_method_5_code 28 = .ok (.iload_n 2, 1) := by decide +kernel
theorem d12_29 : decode prog_73_method_5_code 29 = .ok (.aaload, 1) := by decide +kernel
theorem d12_30 : decode prog_73_method_5_code 30 = .ok (.areturn, 1) := by decide +kernel
theorem pn_12 : plainName "com/example/stanzacall/stanzacall/xml/Namespaces" = true := by first | (simp [plainName, overriddenIn]; done) | decide +kernel
theorem ef_Uri2 (m : MethodId) (a1 : Addr) (a2 : Addr) : entryFrame m #[(.ref a1), (.ref a2)] 3 = mkF m 0 #[.val (.ref a1), .val (.ref a2), .unset] [] := by first | (simp [entryFrame, mkF, argsToLocals, Value.category]; done) | rfl
def QUri2 (Z : State) (a1 : Addr) (a2 : Addr) (pa : Addr) (ua : Addr) (kp : ClassId) (ku : ClassId) (p0 : Addr) (u0 : Addr) (ux : Addr) (h0 : Heap) (n0 : Nat) (v : Option Value) (h : Heap) (L : List Loc) : Prop := v = some (.ref ux) ∧ Fr n0 L ∧ h = h0
set_option maxRecDepth 65536 in
set_option maxHeartbeats 40000000 in
theorem rmUri2 (l : Launch) (Z : State) (a0 : Array Value) (hw : ∀ d ∈ tables_1, d.before a0 Z = true) (ws : List Jvm.Cond) (a1 : Addr) (a2 : Addr) (pa : Addr) (ua : Addr) (kp : ClassId) (ku : ClassId) (p0 : Addr) (u0 : Addr) (ux : Addr) (h0 : Heap) (n0 : Nat) (Z0 : n0 ≤ h0.size) (pr0 : Exa Z h0 a1 "com/example/stanzacall/stanzacall/xml/Namespaces") (pr1 : Fld Z h0 a1 "com/example/stanzacall/stanzacall/xml/Namespaces" "prefixes" "[Ljava/lang/String;" (.ref pa)) (pr2 : Fld Z h0 a1 "com/example/stanzacall/stanzacall/xml/Namespaces" "uris" "[Ljava/lang/String;" (.ref ua)) (pr3 : Fld Z h0 a1 "com/example/stanzacall/stanzacall/xml/Namespaces" "count" "I" (.int (2 : Int32))) (pr4 : Arv Z h0 pa kp (.object "java/lang/String") (16 : Int32) [(.ref p0), (.ref a2), .null, .null, .null, .null, .null, .null, .null, .null, .null, .null, .null, .null, .null, .null] .null) (pr5 : Arv Z h0 ua ku (.object "java/lang/String") (16 : Int32) [(.ref u0), (.ref ux), .null, .null, .null, .null, .null, .null, .null, .null, .null, .null, .null, .null, .null, .null] .null) (pr6 : Exa Z h0 a2 "java/lang/String") :
    MetFree l (⟨"com/example/stanzacall/stanzacall/xml/Namespaces", "uri", "(Ljava/lang/String;)Ljava/lang/String;"⟩ : MethodName) (head1 (Jvm.Cond.code (⟨"com/example/stanzacall/stanzacall/xml/Namespaces", "uri", "(Ljava/lang/String;)Ljava/lang/String;"⟩ : MethodName) prog_73_method_5_code 3 (some (.object "java/lang/String")) :: ws) ({ frames := 1, cells := 0, slots := 0, locals := 14 } : Room)) (fun a U => a = #[(.ref a1), (.ref a2)] ∧ Z.Warmed39 U.vm ∧ U.heap = h0) (fun _ _ _ _ _ => True) (fun _ U o U' => ∃ v L, o = .returned v ∧ QUri2 Z a1 a2 pa ua kp ku p0 u0 ux h0 n0 v U'.heap L ∧ FrameEnd U o U' L ({ frames := 1, cells := 0, slots := 0, locals := 14 } : Room).cells ({ frames := 1, cells := 0, slots := 0, locals := 14 } : Room).slots) := by
  refine MetFree.of_bodySF (plainFor_of_name pn_12) hisR ?_
  intro p e s m args below meth c s₁ Bd hml0 hP hK
  obtain ⟨rfl, hZ, hh⟩ := hP
  have hx := Bd.exec
  have hby := Bd.bytes
  have hml : c.maxLocals = 3 := hml0
  have hown : s.vm.findClass "com/example/stanzacall/stanzacall/xml/Namespaces" = some m.cls := findClass_of_methodNamed Bd.named
  have hnm := (name_of_methodNamed Bd.named Bd.method).1
  have X0 : Stand p l e ({ frames := 1, cells := 0, slots := 0, locals := 14 } : Room) s m #[(.ref a1), (.ref a2)] below meth c s₁ [] 0 0 := Stand.of_body Bd
  have hs0 : h0 = s.heap := hh.symm
  have e0 : s₁.heap = h0 := by rw [← hh, Bd.state]; rfl
  have N0 := Fr.nil n0
  obtain ⟨f0, hf0⟩ : ∃ f, f = entryFrame m #[(.ref a1), (.ref a2)] 3 := ⟨_, rfl⟩
  have pre0 : ∀ t, Steps p.tables e below (s₁.setTop f0) t → Steps p.tables e below (s₁.setTop (entryFrame m #[(.ref a1), (.ref a2)] 3)) t := fun t k => hf0 ▸ k
  have K0 : Gx p e below s₁ f0 s₁ (mkF m 0 #[.val (.ref a1), .val (.ref a2), .unset] []) := fun t kt => by rw [hf0]; exact castTop (ef_Uri2 m a1 a2) kt
  have K1 : Gx p e below s₁ f0 s₁ (mkF m 1 #[.val (.ref a1), .val (.ref a2), .unset] [(.ref a1)]) := fun t kt => K0 t (by
    show Steps p.tables e below (s₁.setTop (mkF m 0 #[.val (.ref a1), .val (.ref a2), .unset] [])) _
    refine XS.aloadN X0.here hx rfl (hb hby d12_0) rfl rfl ?_
    exact kt)
  obtain ⟨T2, X2, e2, st2⟩ := getF X0 hx hZ hown (host := "") (Or.inl (hw _ (List.mem_of_getElem? (i := 49) rfl))) Via.refl e0 pr3 (g := (mkF m 1 #[.val (.ref a1), .val (.ref a2), .unset] [(.ref a1)])) rfl rfl (hb hby d12_1)
  have K3 : Gx p e below s₁ f0 T2 (mkF m 4 #[.val (.ref a1), .val (.ref a2), .unset] [(.int (2 : Int32))]) := fun t kt => K1 t (st2 t kt)
  have K4 : Gx p e below s₁ f0 T2 (mkF m 12 #[.val (.ref a1), .val (.ref a2), .val (.int (1 : Int32))] [(.ref a1)]) := fun t kt => K3 t (by
    show Steps p.tables e below (T2.setTop (mkF m 4 #[.val (.ref a1), .val (.ref a2), .unset] [(.int (2 : Int32))])) _
    refine XS.iconst X2.here hx rfl (hb hby d12_4) ?_
    show Steps p.tables e below (T2.setTop (mkF m 5 #[.val (.ref a1), .val (.ref a2), .unset] [(.int (1 : Int32)), (.int (2 : Int32))])) _
    refine XS.isub X2.here hx rfl (hb hby d12_5) rfl ?_
    show Steps p.tables e below (T2.setTop (mkF m 6 #[.val (.ref a1), .val (.ref a2), .unset] [(.int (1 : Int32))])) _
    refine XS.istoreN X2.here hx rfl (hb hby d12_6) rfl (l' := #[.val (.ref a1), .val (.ref a2), .val (.int (1 : Int32))]) rfl ?_
    show Steps p.tables e below (T2.setTop (mkF m 7 #[.val (.ref a1), .val (.ref a2), .val (.int (1 : Int32))] [])) _
    refine XS.iloadN X2.here hx rfl (hb hby d12_7) rfl ?_
    show Steps p.tables e below (T2.setTop (mkF m 8 #[.val (.ref a1), .val (.ref a2), .val (.int (1 : Int32))] [(.int (1 : Int32))])) _
    refine XS.ifNo X2.here hx rfl (hb hby d12_8) rfl ((if0 _ _).trans (flt (by decide)).1) ?_
    show Steps p.tables e below (T2.setTop (mkF m 11 #[.val (.ref a1), .val (.ref a2), .val (.int (1 : Int32))] [])) _
    refine XS.aloadN X2.here hx rfl (hb hby d12_11) rfl rfl ?_
    exact kt)
  obtain ⟨T5, X5, e5, st5⟩ := getF X2 hx hZ hown (host := "") (Or.inl (hw _ (List.mem_of_getElem? (i := 35) rfl))) Via.refl e2 pr1 (g := (mkF m 12 #[.val (.ref a1), .val (.ref a2), .val (.int (1 : Int32))] [(.ref a1)])) rfl rfl (hb hby d12_12)
  have K6 : Gx p e below s₁ f0 T5 (mkF m 15 #[.val (.ref a1), .val (.ref a2), .val (.int (1 : Int32))] [(.ref pa)]) := fun t kt => K4 t (st5 t kt)
  obtain ⟨clq7, Arq7, ckq7, cSq7, cNq7, cHq7, cGq7⟩ := id pr4
  have K8 : Gx p e below s₁ f0 T5 (mkF m 18 #[.val (.ref a1), .val (.ref a2), .val (.int (1 : Int32))] [(.ref a2), (.ref a2)]) := fun t kt => K6 t (by
    show Steps p.tables e below (T5.setTop (mkF m 15 #[.val (.ref a1), .val (.ref a2), .val (.int (1 : Int32))] [(.ref pa)])) _
    refine XS.iloadN X5.here hx rfl (hb hby d12_15) rfl ?_
    show Steps p.tables e below (T5.setTop (mkF m 16 #[.val (.ref a1), .val (.ref a2), .val (.int (1 : Int32))] [(.int (1 : Int32)), (.ref pa)])) _
    refine X5.aaload hx (j := (1 : Int32)) (v := (.ref a2)) (by rw [e5]; exact Arq7.1) (State.isArrayOf_alike hZ.alike Arq7.2.1) rfl Arq7.2.2 (inb_of cSq7 ⟨by decide, by decide⟩) (Has.at cHq7 (inb_of cSq7 ⟨by decide, by decide⟩) rfl) (g := (mkF m 16 #[.val (.ref a1), .val (.ref a2), .val (.int (1 : Int32))] [(.int (1 : Int32)), (.ref pa)])) rfl rfl (hb hby d12_16) _ ?_
    show Steps p.tables e below (T5.setTop (mkF m 17 #[.val (.ref a1), .val (.ref a2), .val (.int (1 : Int32))] [(.ref a2)])) _
    refine XS.aloadN X5.here hx rfl (hb hby d12_17) rfl rfl ?_
    exact kt)
  obtain ⟨cq9, kq9, q9a, q9b, q9c⟩ := isOf hZ e5 pr6
  obtain ⟨_, _, ⟨T9, L9, k9, n9⟩, -, X9', ⟨Lc9, hQ9, l9, y9, z9⟩, st9⟩ := X5.virtualBack hx (y := (⟨"java/lang/String", "equals", "(Ljava/lang/Object;)Z"⟩ : MethodName)) (z := (⟨"java/lang/String", "equals", "(Ljava/lang/Object;)Z"⟩ : MethodName)) hown (mvT hZ (hw _ (List.mem_of_getElem? (i := 59) rfl))) (mvT hZ (hw _ (List.mem_of_getElem? (i := 60) rfl))) (notFace_of_selects (args := #[]) (mvT hZ (hw _ (List.mem_of_getElem? (i := 62) rfl)))) (mvT hZ (hw _ (List.mem_of_getElem? (i := 62) rfl))) (mvT hZ (hw _ (List.mem_of_getElem? (i := 61) rfl))) (by decide) (backOf (W := 0) (rmErf l Z a0 hw [] a2 h0 n0 (Nat.le_trans Z0 (Keep.refl h0 []).1) ) hZ (hw _ (List.mem_of_getElem? (i := 63) rfl)) (hw _ (List.mem_of_getElem? (i := 2) rfl)) (by decide) (by decide)) q9a q9c (g := (mkF m 18 #[.val (.ref a1), .val (.ref a2), .val (.int (1 : Int32))] [(.ref a2), (.ref a2)])) rfl (by rw [hml]; rfl) (Steps.refl _) (argsL := [(.ref a2)]) (rest := []) (lenOf pd__Ljava_lang_Object__Z rfl) rfl (by show 2 * 0 + _ ≤ _; exact Nat.le_of_eq rfl) (hb hby d12_18) (fun _ _ => ⟨rfl, e5, (by decide : 0 + 0 ≤ _), (by decide : 0 + 0 ≤ _)⟩)
  dsimp only [Pt.U, Pt.locs, Pt.cells, Pt.slots] at X9' l9 y9 z9 st9 hQ9
  subst l9 y9 z9
  obtain ⟨rfl, N9q, e9⟩ := hQ9
  obtain ⟨lc9, X9, N9⟩ : ∃ lc, Stand p l e ({ frames := 1, cells := 0, slots := 0, locals := 14 } : Room) s m #[(.ref a1), (.ref a2)] below meth c T9 lc 0 0 ∧ Fr n0 lc := ⟨_, X9', Fr.app N0 N9q⟩
  have K10 : Gx p e below s₁ f0 T9 (mkF m 21 #[.val (.ref a1), .val (.ref a2), .val (.int (1 : Int32))] [(.int (1 : Int32))]) := fun t kt => K8 t (st9.trans kt)
  have K11 : Gx p e below s₁ f0 T9 (mkF m 25 #[.val (.ref a1), .val (.ref a2), .val (.int (1 : Int32))] [(.ref a1)]) := fun t kt => K10 t (by
    show Steps p.tables e below (T9.setTop (mkF m 21 #[.val (.ref a1), .val (.ref a2), .val (.int (1 : Int32))] [(.int (1 : Int32))])) _
    refine XS.ifNo X9.here hx rfl (hb hby d12_21) rfl ((if0 _ _).trans (feq (by decide)).1) ?_
    show Steps p.tables e below (T9.setTop (mkF m 24 #[.val (.ref a1), .val (.ref a2), .val (.int (1 : Int32))] [])) _
    refine XS.aloadN X9.here hx rfl (hb hby d12_24) rfl rfl ?_
    exact kt)
  obtain ⟨T12, X12, e12, st12⟩ := getF X9 hx hZ hown (host := "") (Or.inl (hw _ (List.mem_of_getElem? (i := 37) rfl))) Via.refl e9 pr2 (g := (mkF m 25 #[.val (.ref a1), .val (.ref a2), .val (.int (1 : Int32))] [(.ref a1)])) rfl rfl (hb hby d12_25)
  have K13 : Gx p e below s₁ f0 T12 (mkF m 28 #[.val (.ref a1), .val (.ref a2), .val (.int (1 : Int32))] [(.ref ua)]) := fun t kt => K11 t (st12 t kt)
  obtain ⟨clq14, Arq14, ckq14, cSq14, cNq14, cHq14, cGq14⟩ := id pr5
  have K15 : Gx p e below s₁ f0 T12 (mkF m 30 #[.val (.ref a1), .val (.ref a2), .val (.int (1 : Int32))] [(.ref ux)]) := fun t kt => K13 t (by
    show Steps p.tables e below (T12.setTop (mkF m 28 #[.val (.ref a1), .val (.ref a2), .val (.int (1 : Int32))] [(.ref ua)])) _
    refine XS.iloadN X12.here hx rfl (hb hby d12_28) rfl ?_
    show Steps p.tables e below (T12.setTop (mkF m 29 #[.val (.ref a1), .val (.ref a2), .val (.int (1 : Int32))] [(.int (1 : Int32)), (.ref ua)])) _
    refine X12.aaload hx (j := (1 : Int32)) (v := (.ref ux)) (by rw [e12]; exact Arq14.1) (State.isArrayOf_alike hZ.alike Arq14.2.1) rfl Arq14.2.2 (inb_of cSq14 ⟨by decide, by decide⟩) (Has.at cHq14 (inb_of cSq14 ⟨by decide, by decide⟩) rfl) (g := (mkF m 29 #[.val (.ref a1), .val (.ref a2), .val (.int (1 : Int32))] [(.int (1 : Int32)), (.ref ua)])) rfl rfl (hb hby d12_29) _ ?_
    exact kt)
  obtain ⟨fs16, hr16, hrun16, hended16, hW16, hsame16⟩ := X12.leave (v := some (.ref ux)) (fun h => by rw [Bd.returns] at h; cases h)
  refine ⟨_, _, pre0 _ (K15 _ ?_), hrun16, hended16, _, _, rfl, ?_, ⟨_, rfl⟩, hW16, hsame16.mono (by decide) (by decide)⟩
  · show Steps p.tables e below (T12.setTop (mkF m 30 #[.val (.ref a1), .val (.ref a2), .val (.int (1 : Int32))] [(.ref ux)])) _
    jvm_step X12.here [X12.here.top, hx, (hb hby d12_30), X12.method', Bd.returns, Value.isRef, FieldType.isReference]
    first | (intro acts; rw [hr16 _ acts rfl rfl rfl]) | rw [hr16 _ _ rfl rfl rfl]
    exact Steps.refl _
  · show QUri2 Z a1 a2 pa ua kp ku p0 u0 ux h0 n0 _ T12.heap _
    rw [e12]
    exact ⟨rfl, N9, rfl⟩
theorem ef_Uri1 (m : MethodId) (a1 : Addr) (p0 : Addr) : entryFrame m #[(.ref a1), (.ref p0)] 3 = mkF m 0 #[.val (.ref a1), .val (.ref p0), .unset] [] := by first | (simp [entryFrame, mkF, argsToLocals, Value.category]; done) | rfl
def QUri1 (Z : State) (a1 : Addr) (p0 : Addr) (pa : Addr) (ua : Addr) (kp : ClassId) (ku : ClassId) (u0 : Addr) (px : Addr) (uy : Addr) (h0 : Heap) (n0 : Nat) (v : Option Value) (h : Heap) (L : List Loc) : Prop := v = some (.ref u0) ∧ Fr n0 L ∧ h = h0
set_option maxRecDepth 65536 in
set_option maxHeartbeats 40000000 in
theorem rmUri1 (l : Launch) (Z : State) (a0 : Array Value) (hw : ∀ d ∈ tables_1, d.before a0 Z = true) (ws : List Jvm.Cond) (a1 : Addr) (p0 : Addr) (pa : Addr) (ua : Addr) (kp : ClassId) (ku : ClassId) (u0 : Addr) (px : Addr) (uy : Addr) (h0 : Heap) (n0 : Nat) (Z0 : n0 ≤ h0.size) (pr0 : Exa Z h0 a1 "com/example/stanzacall/stanzacall/xml/Namespaces") (pr1 : Fld Z h0 a1 "com/example/stanzacall/stanzacall/xml/Namespaces" "prefixes" "[Ljava/lang/String;" (.ref pa)) (pr2 : Fld Z h0 a1 "com/example/stanzacall/stanzacall/xml/Namespaces" "uris" "[Ljava/lang/String;" (.ref ua)) (pr3 : Fld Z h0 a1 "com/example/stanzacall/stanzacall/xml/Namespaces" "count" "I" (.int (1 : Int32))) (pr4 : Arv Z h0 pa kp (.object "java/lang/String") (16 : Int32) [(.ref p0), (.ref px), .null, .null, .null, .null, .null, .null, .null, .null, .null, .null, .null, .null, .null, .null] .null) (pr5 : Arv Z h0 ua ku (.object "java/lang/String") (16 : Int32) [(.ref u0), (.ref uy), .null, .null, .null, .null, .null, .null, .null, .null, .null, .null, .null, .null, .null, .null] .null) (pr6 : Exa Z h0 p0 "java/lang/String") :
    MetFree l (⟨"com/example/stanzacall/stanzacall/xml/Namespaces", "uri", "(Ljava/lang/String;)Ljava/lang/String;"⟩ : MethodName) (head1 (Jvm.Cond.code (⟨"com/example/stanzacall/stanzacall/xml/Namespaces", "uri", "(Ljava/lang/String;)Ljava/lang/String;"⟩ : MethodName) prog_73_method_5_code 3 (some (.object "java/lang/String")) :: ws) ({ frames := 1, cells := 0, slots := 0, locals := 14 } : Room)) (fun a U => a = #[(.ref a1), (.ref p0)] ∧ Z.Warmed39 U.vm ∧ U.heap = h0) (fun _ _ _ _ _ => True) (fun _ U o U' => ∃ v L, o = .returned v ∧ QUri1 Z a1 p0 pa ua kp ku u0 px uy h0 n0 v U'.heap L ∧ FrameEnd U o U' L ({ frames := 1, cells := 0, slots := 0, locals := 14 } : Room).cells ({ frames := 1, cells := 0, slots := 0, locals := 14 } : Room).slots) := by
  refine MetFree.of_bodySF (plainFor_of_name pn_12) hisR ?_
  intro p e s m args below meth c s₁ Bd hml0 hP hK
  obtain ⟨rfl, hZ, hh⟩ := hP
  have hx := Bd.exec
  have hby := Bd.bytes
  have hml : c.maxLocals = 3 := hml0
  have hown : s.vm.findClass "com/example/stanzacall/stanzacall/xml/Namespaces" = some m.cls := findClass_of_methodNamed Bd.named
  have hnm := (name_of_methodNamed Bd.named Bd.method).1
  have X0 : Stand p l e ({ frames := 1, cells := 0, slots := 0, locals := 14 } : Room) s m #[(.ref a1), (.ref p0)] below meth c s₁ [] 0 0 := Stand.of_body Bd
  have hs0 : h0 = s.heap := hh.symm
  have e0 : s₁.heap = h0 := by rw [← hh, Bd.state]; rfl
  have N0 := Fr.nil n0
  obtain ⟨f0, hf0⟩ : ∃ f, f = entryFrame m #[(.ref a1), (.ref p0)] 3 := ⟨_, rfl⟩
  have pre0 : ∀ t, Steps p.tables e below (s₁.setTop f0) t → Steps p.tables e below (s₁.setTop (entryFrame m #[(.ref a1), (.ref p0)] 3)) t := fun t k => hf0 ▸ k
  have K0 : Gx p e below s₁ f0 s₁ (mkF m 0 #[.val (.ref a1), .val (.ref p0), .unset] []) := fun t kt => by rw [hf0]; exact castTop (ef_Uri1 m a1 p0) kt
  have K1 : Gx p e below s₁ f0 s₁ (mkF m 1 #[.val (.ref a1), .val (.ref p0), .unset] [(.ref a1)]) := fun t kt => K0 t (by
    show Steps p.tables e below (s₁.setTop (mkF m 0 #[.val (.ref a1), .val (.ref p0), .unset] [])) _
    refine XS.aloadN X0.here hx rfl (hb hby d12_0) rfl rfl ?_
    exact kt)
  obtain ⟨T2, X2, e2, st2⟩ := getF X0 hx hZ hown (host := "") (Or.inl (hw _ (List.mem_of_getElem? (i := 49) rfl))) Via.refl e0 pr3 (g := (mkF m 1 #[.val (.ref a1), .val (.ref p0), .unset] [(.ref a1)])) rfl rfl (hb hby d12_1)
  have K3 : Gx p e below s₁ f0 T2 (mkF m 4 #[.val (.ref a1), .val (.ref p0), .unset] [(.int (1 : Int32))]) := fun t kt => K1 t (st2 t kt)
  have K4 : Gx p e below s₁ f0 T2 (mkF m 12 #[.val (.ref a1), .val (.ref p0), .val (.int (0 : Int32))] [(.ref a1)]) := fun t kt => K3 t (by
    show Steps p.tables e below (T2.setTop (mkF m 4 #[.val (.ref a1), .val (.ref p0), .unset] [(.int (1 : Int32))])) _
    refine XS.iconst X2.here hx rfl (hb hby d12_4) ?_
    show Steps p.tables e below (T2.setTop (mkF m 5 #[.val (.ref a1), .val (.ref p0), .unset] [(.int (1 : Int32)), (.int (1 : Int32))])) _
    refine XS.isub X2.here hx rfl (hb hby d12_5) rfl ?_
    show Steps p.tables e below (T2.setTop (mkF m 6 #[.val (.ref a1), .val (.ref p0), .unset] [(.int (0 : Int32))])) _
    refine XS.istoreN X2.here hx rfl (hb hby d12_6) rfl (l' := #[.val (.ref a1), .val (.ref p0), .val (.int (0 : Int32))]) rfl ?_
    show Steps p.tables e below (T2.setTop (mkF m 7 #[.val (.ref a1), .val (.ref p0), .val (.int (0 : Int32))] [])) _
    refine XS.iloadN X2.here hx rfl (hb hby d12_7) rfl ?_
    show Steps p.tables e below (T2.setTop (mkF m 8 #[.val (.ref a1), .val (.ref p0), .val (.int (0 : Int32))] [(.int (0 : Int32))])) _
    refine XS.ifNo X2.here hx rfl (hb hby d12_8) rfl ((if0 _ _).trans (flt (by decide)).1) ?_
    show Steps p.tables e below (T2.setTop (mkF m 11 #[.val (.ref a1), .val (.ref p0), .val (.int (0 : Int32))] [])) _
    refine XS.aloadN X2.here hx rfl (hb hby d12_11) rfl rfl ?_
    exact kt)
  obtain ⟨T5, X5, e5, st5⟩ := getF X2 hx hZ hown (host := "") (Or.inl (hw _ (List.mem_of_getElem? (i := 35) rfl))) Via.refl e2 pr1 (g := (mkF m 12 #[.val (.ref a1), .val (.ref p0), .val (.int (0 : Int32))] [(.ref a1)])) rfl rfl (hb hby d12_12)
  have K6 : Gx p e below s₁ f0 T5 (mkF m 15 #[.val (.ref a1), .val (.ref p0), .val (.int (0 : Int32))] [(.ref pa)]) := fun t kt => K4 t (st5 t kt)
  obtain ⟨clq7, Arq7, ckq7, cSq7, cNq7, cHq7, cGq7⟩ := id pr4
  have K8 : Gx p e below s₁ f0 T5 (mkF m 18 #[.val (.ref a1), .val (.ref p0), .val (.int (0 : Int32))] [(.ref p0), (.ref p0)]) := fun t kt => K6 t (by
    show Steps p.tables e below (T5.setTop (mkF m 15 #[.val (.ref a1), .val (.ref p0), .val (.int (0 : Int32))] [(.ref pa)])) _
    refine XS.iloadN X5.here hx rfl (hb hby d12_15) rfl ?_
    show Steps p.tables e below (T5.setTop (mkF m 16 #[.val (.ref a1), .val (.ref p0), .val (.int (0 : Int32))] [(.int (0 : Int32)), (.ref pa)])) _
    refine X5.aaload hx (j := (0 : Int32)) (v := (.ref p0)) (by rw [e5]; exact Arq7.1) (State.isArrayOf_alike hZ.alike Arq7.2.1) rfl Arq7.2.2 (inb_of cSq7 ⟨by decide, by decide⟩) (Has.at cHq7 (inb_of cSq7 ⟨by decide, by decide⟩) rfl) (g := (mkF m 16 #[.val (.ref a1), .val (.ref p0), .val (.int (0 : Int32))] [(.int (0 : Int32)), (.ref pa)])) rfl rfl (hb hby d12_16) _ ?_
    show Steps p.tables e below (T5.setTop (mkF m 17 #[.val (.ref a1), .val (.ref p0), .val (.int (0 : Int32))] [(.ref p0)])) _
    refine XS.aloadN X5.here hx rfl (hb hby d12_17) rfl rfl ?_
    exact kt)
  obtain ⟨cq9, kq9, q9a, q9b, q9c⟩ := isOf hZ e5 pr6
  obtain ⟨_, _, ⟨T9, L9, k9, n9⟩, -, X9', ⟨Lc9, hQ9, l9, y9, z9⟩, st9⟩ := X5.virtualBack hx (y := (⟨"java/lang/String", "equals", "(Ljava/lang/Object;)Z"⟩ : MethodName)) (z := (⟨"java/lang/String", "equals", "(Ljava/lang/Object;)Z"⟩ : MethodName)) hown (mvT hZ (hw _ (List.mem_of_getElem? (i := 59) rfl))) (mvT hZ (hw _ (List.mem_of_getElem? (i := 60) rfl))) (notFace_of_selects (args := #[]) (mvT hZ (hw _ (List.mem_of_getElem? (i := 62) rfl)))) (mvT hZ (hw _ (List.mem_of_getElem? (i := 62) rfl))) (mvT hZ (hw _ (List.mem_of_getElem? (i := 61) rfl))) (by decide) (backOf (W := 0) (rmErf l Z a0 hw [] p0 h0 n0 (Nat.le_trans Z0 (Keep.refl h0 []).1) ) hZ (hw _ (List.mem_of_getElem? (i := 63) rfl)) (hw _ (List.mem_of_getElem? (i := 2) rfl)) (by decide) (by decide)) q9a q9c (g := (mkF m 18 #[.val (.ref a1), .val (.ref p0), .val (.int (0 : Int32))] [(.ref p0), (.ref p0)])) rfl (by rw [hml]; rfl) (Steps.refl _) (argsL := [(.ref p0)]) (rest := []) (lenOf pd__Ljava_lang_Object__Z rfl) rfl (by show 2 * 0 + _ ≤ _; exact Nat.le_of_eq rfl) (hb hby d12_18) (fun _ _ => ⟨rfl, e5, (by decide : 0 + 0 ≤ _), (by decide : 0 + 0 ≤ _)⟩)
  dsimp only [Pt.U, Pt.locs, Pt.cells, Pt.slots] at X9' l9 y9 z9 st9 hQ9
  subst l9 y9 z9
  obtain ⟨rfl, N9q, e9⟩ := hQ9
  obtain ⟨lc9, X9, N9⟩ : ∃ lc, Stand p l e ({ frames := 1, cells := 0, slots := 0, locals := 14 } : Room) s m #[(.ref a1), (.ref p0)] below meth c T9 lc 0 0 ∧ Fr n0 lc := ⟨_, X9', Fr.app N0 N9q⟩
  have K10 : Gx p e below s₁ f0 T9 (mkF m 21 #[.val (.ref a1), .val (.ref p0), .val (.int (0 : Int32))] [(.int (1 : Int32))]) := fun t kt => K8 t (st9.trans kt)
  have K11 : Gx p e below s₁ f0 T9 (mkF m 25 #[.val (.ref a1), .val (.ref p0), .val (.int (0 : Int32))] [(.ref a1)]) := fun t kt => K10 t (by
    show Steps p.tables e below (T9.setTop (mkF m 21 #[.val (.ref a1), .val (.ref p0), .val (.int (0 : Int32))] [(.int (1 : Int32))])) _
    refine XS.ifNo X9.here hx rfl (hb hby d12_21) rfl ((if0 _ _).trans (feq (by decide)).1) ?_
    show Steps p.tables e below (T9.setTop (mkF m 24 #[.val (.ref a1), .val (.ref p0), .val (.int (0 : Int32))] [])) _
    refine XS.aloadN X9.here hx rfl (hb hby d12_24) rfl rfl ?_
    exact kt)
  obtain ⟨T12, X12, e12, st12⟩ := getF X9 hx hZ hown (host := "") (Or.inl (hw _ (List.mem_of_getElem? (i := 37) rfl))) Via.refl e9 pr2 (g := (mkF m 25 #[.val (.ref a1), .val (.ref p0), .val (.int (0 : Int32))] [(.ref a1)])) rfl rfl (hb hby d12_25)
  have K13 : Gx p e below s₁ f0 T12 (mkF m 28 #[.val (.ref a1), .val (.ref p0), .val (.int (0 : Int32))] [(.ref ua)]) := fun t kt => K11 t (st12 t kt)
  obtain ⟨clq14, Arq14, ckq14, cSq14, cNq14, cHq14, cGq14⟩ := id pr5
  have K15 : Gx p e below s₁ f0 T12 (mkF m 30 #[.val (.ref a1), .val (.ref p0), .val (.int (0 : Int32))] [(.ref u0)]) := fun t kt => K13 t (by
    show Steps p.tables e below (T12.setTop (mkF m 28 #[.val (.ref a1), .val (.ref p0), .val (.int (0 : Int32))] [(.ref ua)])) _
    refine XS.iloadN X12.here hx rfl (hb hby d12_28) rfl ?_
    show Steps p.tables e below (T12.setTop (mkF m 29 #[.val (.ref a1), .val (.ref p0), .val (.int (0 : Int32))] [(.int (0 : Int32)), (.ref ua)])) _
    refine X12.aaload hx (j := (0 : Int32)) (v := (.ref u0)) (by rw [e12]; exact Arq14.1) (State.isArrayOf_alike hZ.alike Arq14.2.1) rfl Arq14.2.2 (inb_of cSq14 ⟨by decide, by decide⟩) (Has.at cHq14 (inb_of cSq14 ⟨by decide, by decide⟩) rfl) (g := (mkF m 29 #[.val (.ref a1), .val (.ref p0), .val (.int (0 : Int32))] [(.int (0 : Int32)), (.ref ua)])) rfl rfl (hb hby d12_29) _ ?_
    exact kt)
  obtain ⟨fs16, hr16, hrun16, hended16, hW16, hsame16⟩ := X12.leave (v := some (.ref u0)) (fun h => by rw [Bd.returns] at h; cases h)
  refine ⟨_, _, pre0 _ (K15 _ ?_), hrun16, hended16, _, _, rfl, ?_, ⟨_, rfl⟩, hW16, hsame16.mono (by decide) (by decide)⟩
  · show Steps p.tables e below (T12.setTop (mkF m 30 #[.val (.ref a1), .val (.ref p0), .val (.int (0 : Int32))] [(.ref u0)])) _
    jvm_step X12.here [X12.here.top, hx, (hb hby d12_30), X12.method', Bd.returns, Value.isRef, FieldType.isReference]
    first | (intro acts; rw [hr16 _ acts rfl rfl rfl]) | rw [hr16 _ _ rfl rfl rfl]
    exact Steps.refl _
  · show QUri1 Z a1 p0 pa ua kp ku u0 px uy h0 n0 _ T12.heap _
    rw [e12]
    exact ⟨rfl, N9, rfl⟩
theorem ef_Ur1a (m : MethodId) (a1 : Addr) (a2 : Addr) : entryFrame m #[(.ref a1), (.ref a2)] 3 = mkF m 0 #[.val (.ref a1), .val (.ref a2), .unset] [] := by first | (simp [entryFrame, mkF, argsToLocals, Value.category]; done) | rfl
def QUr1a (Z : State) (a1 : Addr) (a2 : Addr) (pa : Addr) (ua : Addr) (kp : ClassId) (ku : ClassId) (p0 : Addr) (u0 : Addr) (px : Addr) (uy : Addr) (vA : Addr) (ka : ClassId) (za : Int32) (xa : List Value) (vB : Addr) (kb : ClassId) (zb : Int32) (xb : List Value) (cw : Int32) (h0 : Heap) (n0 : Nat) (v : Option Value) (h : Heap) (L : List Loc) : Prop := v = some (.ref u0) ∧ Fr n0 L ∧ h = h0
set_option maxRecDepth 65536 in
set_option maxHeartbeats 40000000 in
theorem rmUr1a (l : Launch) (Z : State) (a0 : Array Value) (hw : ∀ d ∈ tables_1, d.before a0 Z = true) (ws : List Jvm.Cond) (a1 : Addr) (a2 : Addr) (pa : Addr) (ua : Addr) (kp : ClassId) (ku : ClassId) (p0 : Addr) (u0 : Addr) (px : Addr) (uy : Addr) (vA : Addr) (ka : ClassId) (za : Int32) (xa : List Value) (vB : Addr) (kb : ClassId) (zb : Int32) (xb : List Value) (cw : Int32) (h0 : Heap) (n0 : Nat) (Z0 : n0 ≤ h0.size) (pr0 : Exa Z h0 a1 "com/example/stanzacall/stanzacall/xml/Namespaces") (pr1 : Fld Z h0 a1 "com/example/stanzacall/stanzacall/xml/Namespaces" "prefixes" "[Ljava/lang/String;" (.ref pa)) (pr2 : Fld Z h0 a1 "com/example/stanzacall/stanzacall/xml/Namespaces" "uris" "[Ljava/lang/String;" (.ref ua)) (pr3 : Fld Z h0 a1 "com/example/stanzacall/stanzacall/xml/Namespaces" "count" "I" (.int (1 : Int32))) (pr4 : Arv Z h0 pa kp (.object "java/lang/String") (16 : Int32) [(.ref p0), (.ref px), .null, .null, .null, .null, .null, .null, .null, .null, .null, .null, .null, .null, .null, .null] .null) (pr5 : Arv Z h0 ua ku (.object "java/lang/String") (16 : Int32) [(.ref u0), (.ref uy), .null, .null, .null, .null, .null, .null, .null, .null, .null, .null, .null, .null, .null, .null] .null) (pr6 : Exa Z h0 p0 "java/lang/String") (pr7 : Fld Z h0 p0 "java/lang/String" "coder" "B" (.int (0 : Int32))) (pr8 : Fld Z h0 p0 "java/lang/String" "value" "[B" (.ref vA)) (pr9 : Arv Z h0 vA ka .byte za xa (.int (0 : Int32))) (pr10 : Exa Z h0 a2 "java/lang/String") (pr11 : Fld Z h0 a2 "java/lang/String" "coder" "B" (.int (0 : Int32))) (pr12 : Fld Z h0 a2 "java/lang/String" "value" "[B" (.ref vB)) (pr13 : Arv Z h0 vB kb .byte zb xb (.int (0 : Int32))) (pr14 : Old Z n0 h0) (pr15 : Sta Z Z.heap "java/lang/String" "COMPACT_STRINGS" "Z" (.int cw)) (hcw : ¬ (cw = (0 : Int32))) (hz1 : za = (0 : Int32)) (hz2 : zb = (0 : Int32)) :
    MetFree l (⟨"com/example/stanzacall/stanzacall/xml/Namespaces", "uri", "(Ljava/lang/String;)Ljava/lang/String;"⟩ : MethodName) (head1 (Jvm.Cond.code (⟨"com/example/stanzacall/stanzacall/xml/Namespaces", "uri", "(Ljava/lang/String;)Ljava/lang/String;"⟩ : MethodName) prog_73_method_5_code 3 (some (.object "java/lang/String")) :: ws) ({ frames := 2, cells := 0, slots := 0, locals := 28 } : Room)) (fun a U => a = #[(.ref a1), (.ref a2)] ∧ Z.Warmed39 U.vm ∧ U.heap = h0) (fun _ _ _ _ _ => True) (fun _ U o U' => ∃ v L, o = .returned v ∧ QUr1a Z a1 a2 pa ua kp ku p0 u0 px uy vA ka za xa vB kb zb xb cw h0 n0 v U'.heap L ∧ FrameEnd U o U' L ({ frames := 2, cells := 0, slots := 0, locals := 28 } : Room).cells ({ frames := 2, cells := 0, slots := 0, locals := 28 } : Room).slots) := by
  refine MetFree.of_bodySF (plainFor_of_name pn_12) hisR ?_
  intro p e s m args below meth c s₁ Bd hml0 hP hK
  obtain ⟨rfl, hZ, hh⟩ := hP
  have hx := Bd.exec
  have hby := Bd.bytes
  have hml : c.maxLocals = 3 := hml0
  have hown : s.vm.findClass "com/example/stanzacall/stanzacall/xml/Namespaces" = some m.cls := findClass_of_methodNamed Bd.named
  have hnm := (name_of_methodNamed Bd.named Bd.method).1
  have X0 : Stand p l e ({ frames := 2, cells := 0, slots := 0, locals := 28 } : Room) s m #[(.ref a1), (.ref a2)] below meth c s₁ [] 0 0 := Stand.of_body Bd
  have hs0 : h0 = s.heap := hh.symm
  have e0 : s₁.heap = h0 := by rw [← hh, Bd.state]; rfl
  have N0 := Fr.nil n0
  obtain ⟨f0, hf0⟩ : ∃ f, f = entryFrame m #[(.ref a1), (.ref a2)] 3 := ⟨_, rfl⟩
  have pre0 : ∀ t, Steps p.tables e below (s₁.setTop f0) t → Steps p.tables e below (s₁.setTop (entryFrame m #[(.ref a1), (.ref a2)] 3)) t := fun t k => hf0 ▸ k
  have K0 : Gx p e below s₁ f0 s₁ (mkF m 0 #[.val (.ref a1), .val (.ref a2), .unset] []) := fun t kt => by rw [hf0]; exact castTop (ef_Ur1a m a1 a2) kt
  have K1 : Gx p e below s₁ f0 s₁ (mkF m 1 #[.val (.ref a1), .val (.ref a2), .unset] [(.ref a1)]) := fun t kt => K0 t (by
    show Steps p.tables e below (s₁.setTop (mkF m 0 #[.val (.ref a1), .val (.ref a2), .unset] [])) _
    refine XS.aloadN X0.here hx rfl (hb hby d12_0) rfl rfl ?_
    exact kt)
  obtain ⟨T2, X2, e2, st2⟩ := getF X0 hx hZ hown (host := "") (Or.inl (hw _ (List.mem_of_getElem? (i := 49) rfl))) Via.refl e0 pr3 (g := (mkF m 1 #[.val (.ref a1), .val (.ref a2), .unset] [(.ref a1)])) rfl rfl (hb hby d12_1)
  have K3 : Gx p e below s₁ f0 T2 (mkF m 4 #[.val (.ref a1), .val (.ref a2), .unset] [(.int (1 : Int32))]) := fun t kt => K1 t (st2 t kt)
  have K4 : Gx p e below s₁ f0 T2 (mkF m 12 #[.val (.ref a1), .val (.ref a2), .val (.int (0 : Int32))] [(.ref a1)]) := fun t kt => K3 t (by
    show Steps p.tables e below (T2.setTop (mkF m 4 #[.val (.ref a1), .val (.ref a2), .unset] [(.int (1 : Int32))])) _
    refine XS.iconst X2.here hx rfl (hb hby d12_4) ?_
    show Steps p.tables e below (T2.setTop (mkF m 5 #[.val (.ref a1), .val (.ref a2), .unset] [(.int (1 : Int32)), (.int (1 : Int32))])) _
    refine XS.isub X2.here hx rfl (hb hby d12_5) rfl ?_
    show Steps p.tables e below (T2.setTop (mkF m 6 #[.val (.ref a1), .val (.ref a2), .unset] [(.int (0 : Int32))])) _
    refine XS.istoreN X2.here hx rfl (hb hby d12_6) rfl (l' := #[.val (.ref a1), .val (.ref a2), .val (.int (0 : Int32))]) rfl ?_
    show Steps p.tables e below (T2.setTop (mkF m 7 #[.val (.ref a1), .val (.ref a2), .val (.int (0 : Int32))] [])) _
    refine XS.iloadN X2.here hx rfl (hb hby d12_7) rfl ?_
    show Steps p.tables e below (T2.setTop (mkF m 8 #[.val (.ref a1), .val (.ref a2), .val (.int (0 : Int32))] [(.int (0 : Int32))])) _
    refine XS.ifNo X2.here hx rfl (hb hby d12_8) rfl ((if0 _ _).trans (flt (by decide)).1) ?_
    show Steps p.tables e below (T2.setTop (mkF m 11 #[.val (.ref a1), .val (.ref a2), .val (.int (0 : Int32))] [])) _
    refine XS.aloadN X2.here hx rfl (hb hby d12_11) rfl rfl ?_
    exact kt)
  obtain ⟨T5, X5, e5, st5⟩ := getF X2 hx hZ hown (host := "") (Or.inl (hw _ (List.mem_of_getElem? (i := 35) rfl))) Via.refl e2 pr1 (g := (mkF m 12 #[.val (.ref a1), .val (.ref a2), .val (.int (0 : Int32))] [(.ref a1)])) rfl rfl (hb hby d12_12)
  have K6 : Gx p e below s₁ f0 T5 (mkF m 15 #[.val (.ref a1), .val (.ref a2), .val (.int (0 : Int32))] [(.ref pa)]) := fun t kt => K4 t (st5 t kt)
  obtain ⟨clq7, Arq7, ckq7, cSq7, cNq7, cHq7, cGq7⟩ := id pr4
  have K8 : Gx p e below s₁ f0 T5 (mkF m 18 #[.val (.ref a1), .val (.ref a2), .val (.int (0 : Int32))] [(.ref a2), (.ref p0)]) := fun t kt => K6 t (by
    show Steps p.tables e below (T5.setTop (mkF m 15 #[.val (.ref a1), .val (.ref a2), .val (.int (0 : Int32))] [(.ref pa)])) _
    refine XS.iloadN X5.here hx rfl (hb hby d12_15) rfl ?_
    show Steps p.tables e below (T5.setTop (mkF m 16 #[.val (.ref a1), .val (.ref a2), .val (.int (0 : Int32))] [(.int (0 : Int32)), (.ref pa)])) _
    refine X5.aaload hx (j := (0 : Int32)) (v := (.ref p0)) (by rw [e5]; exact Arq7.1) (State.isArrayOf_alike hZ.alike Arq7.2.1) rfl Arq7.2.2 (inb_of cSq7 ⟨by decide, by decide⟩) (Has.at cHq7 (inb_of cSq7 ⟨by decide, by decide⟩) rfl) (g := (mkF m 16 #[.val (.ref a1), .val (.ref a2), .val (.int (0 : Int32))] [(.int (0 : Int32)), (.ref pa)])) rfl rfl (hb hby d12_16) _ ?_
    show Steps p.tables e below (T5.setTop (mkF m 17 #[.val (.ref a1), .val (.ref a2), .val (.int (0 : Int32))] [(.ref p0)])) _
    refine XS.aloadN X5.here hx rfl (hb hby d12_17) rfl rfl ?_
    exact kt)
  obtain ⟨cq9, kq9, q9a, q9b, q9c⟩ := isOf hZ e5 pr6
  obtain ⟨_, _, ⟨T9, L9, k9, n9⟩, -, X9', ⟨Lc9, hQ9, l9, y9, z9⟩, st9⟩ := X5.virtualBack hx (y := (⟨"java/lang/String", "equals", "(Ljava/lang/Object;)Z"⟩ : MethodName)) (z := (⟨"java/lang/String", "equals", "(Ljava/lang/Object;)Z"⟩ : MethodName)) hown (mvT hZ (hw _ (List.mem_of_getElem? (i := 59) rfl))) (mvT hZ (hw _ (List.mem_of_getElem? (i := 60) rfl))) (notFace_of_selects (args := #[]) (mvT hZ (hw _ (List.mem_of_getElem? (i := 62) rfl)))) (mvT hZ (hw _ (List.mem_of_getElem? (i := 62) rfl))) (mvT hZ (hw _ (List.mem_of_getElem? (i := 61) rfl))) (by decide) (backOf (W := 0) (rmE00 l Z a0 hw [] p0 a2 vA vB ka kb za zb xa xb cw h0 n0 (Nat.le_trans Z0 (Keep.refl h0 []).1) pr7 pr8 pr9 pr10 pr11 pr12 pr13 pr14 pr15 hcw hz1 hz2) hZ (hw _ (List.mem_of_getElem? (i := 63) rfl)) (hw _ (List.mem_of_getElem? (i := 2) rfl)) (by decide) (by decide)) q9a q9c (g := (mkF m 18 #[.val (.ref a1), .val (.ref a2), .val (.int (0 : Int32))] [(.ref a2), (.ref p0)])) rfl (by rw [hml]; rfl) (Steps.refl _) (argsL := [(.ref a2)]) (rest := []) (lenOf pd__Ljava_lang_Object__Z rfl) rfl (by show 2 * 0 + _ ≤ _; exact Nat.le_of_eq rfl) (hb hby d12_18) (fun _ _ => ⟨rfl, e5, (by decide : 0 + 0 ≤ _), (by decide : 0 + 0 ≤ _)⟩)
  dsimp only [Pt.U, Pt.locs, Pt.cells, Pt.slots] at X9' l9 y9 z9 st9 hQ9
  subst l9 y9 z9
  obtain ⟨rfl, N9q, e9⟩ := hQ9
  obtain ⟨lc9, X9, N9⟩ : ∃ lc, Stand p l e ({ frames := 2, cells := 0, slots := 0, locals := 28 } : Room) s m #[(.ref a1), (.ref a2)] below meth c T9 lc 0 0 ∧ Fr n0 lc := ⟨_, X9', Fr.app N0 N9q⟩
  have K10 : Gx p e below s₁ f0 T9 (mkF m 21 #[.val (.ref a1), .val (.ref a2), .val (.int (0 : Int32))] [(.int (1 : Int32))]) := fun t kt => K8 t (st9.trans kt)
  have K11 : Gx p e below s₁ f0 T9 (mkF m 25 #[.val (.ref a1), .val (.ref a2), .val (.int (0 : Int32))] [(.ref a1)]) := fun t kt => K10 t (by
    show Steps p.tables e below (T9.setTop (mkF m 21 #[.val (.ref a1), .val (.ref a2), .val (.int (0 : Int32))] [(.int (1 : Int32))])) _
    refine XS.ifNo X9.here hx rfl (hb hby d12_21) rfl ((if0 _ _).trans (feq (by decide)).1) ?_
    show Steps p.tables e below (T9.setTop (mkF m 24 #[.val (.ref a1), .val (.ref a2), .val (.int (0 : Int32))] [])) _
    refine XS.aloadN X9.here hx rfl (hb hby d12_24) rfl rfl ?_
    exact kt)
  obtain ⟨T12, X12, e12, st12⟩ := getF X9 hx hZ hown (host := "") (Or.inl (hw _ (List.mem_of_getElem? (i := 37) rfl))) Via.refl e9 pr2 (g := (mkF m 25 #[.val (.ref a1), .val (.ref a2), .val (.int (0 : Int32))] [(.ref a1)])) rfl rfl (hb hby d12_25)
  have K13 : Gx p e below s₁ f0 T12 (mkF m 28 #[.val (.ref a1), .val (.ref a2), .val (.int (0 : Int32))] [(.ref ua)]) := fun t kt => K11 t (st12 t kt)
  obtain ⟨clq14, Arq14, ckq14, cSq14, cNq14, cHq14, cGq14⟩ := id pr5
  have K15 : Gx p e below s₁ f0 T12 (mkF m 30 #[.val (.ref a1), .val (.ref a2), .val (.int (0 : Int32))] [(.ref u0)]) := fun t kt => K13 t (by
    show Steps p.tables e below (T12.setTop (mkF m 28 #[.val (.ref a1), .val (.ref a2), .val (.int (0 : Int32))] [(.ref ua)])) _
    refine XS.iloadN X12.here hx rfl (hb hby d12_28) rfl ?_
    show Steps p.tables e below (T12.setTop (mkF m 29 #[.val (.ref a1), .val (.ref a2), .val (.int (0 : Int32))] [(.int (0 : Int32)), (.ref ua)])) _
    refine X12.aaload hx (j := (0 : Int32)) (v := (.ref u0)) (by rw [e12]; exact Arq14.1) (State.isArrayOf_alike hZ.alike Arq14.2.1) rfl Arq14.2.2 (inb_of cSq14 ⟨by decide, by decide⟩) (Has.at cHq14 (inb_of cSq14 ⟨by decide, by decide⟩) rfl) (g := (mkF m 29 #[.val (.ref a1), .val (.ref a2), .val (.int (0 : Int32))] [(.int (0 : Int32)), (.ref ua)])) rfl rfl (hb hby d12_29) _ ?_
    exact kt)
  obtain ⟨fs16, hr16, hrun16, hended16, hW16, hsame16⟩ := X12.leave (v := some (.ref u0)) (fun h => by rw [Bd.returns] at h; cases h)
  refine ⟨_, _, pre0 _ (K15 _ ?_), hrun16, hended16, _, _, rfl, ?_, ⟨_, rfl⟩, hW16, hsame16.mono (by decide) (by decide)⟩
  · show Steps p.tables e below (T12.setTop (mkF m 30 #[.val (.ref a1), .val (.ref a2), .val (.int (0 : Int32))] [(.ref u0)])) _
    jvm_step X12.here [X12.here.top, hx, (hb hby d12_30), X12.method', Bd.returns, Value.isRef, FieldType.isReference]
    first | (intro acts; rw [hr16 _ acts rfl rfl rfl]) | rw [hr16 _ _ rfl rfl rfl]
    exact Steps.refl _
  · show QUr1a Z a1 a2 pa ua kp ku p0 u0 px uy vA ka za xa vB kb zb xb cw h0 n0 _ T12.heap _
    rw [e12]
    exact ⟨rfl, N9, rfl⟩
theorem d12_31 : decode prog_73_method_5_code 31 = .ok (.iinc 2 (-1), 3) := by decide +kernel
theorem d12_34 : decode prog_73_method_5_code 34 = .ok (.goto (-27), 3) := by decide +kernel
theorem d12_37 : decode prog_73_method_5_code 37 = .ok (.aload_n 1, 1) := by decide +kernel
theorem d12_38 : decode prog_73_method_5_code 38 = .ok (.invokevirtual 59, 3) := by decide +kernel
theorem d12_41 : decode prog_73_method_5_code 41 = .ok (.ifCond .eq 9, 3) := by decide +kernel
theorem d12_44 : decode prog_73_method_5_code 44 = .ok (.ldc 69, 2) := by decide +kernel
theorem d12_46 : decode prog_73_method_5_code 46 = .ok (.astore_n 2, 1) := by decide +kernel
theorem d12_47 : decode prog_73_method_5_code 47 = .ok (.goto 28, 3) := by decide +kernel
theorem d12_75 : decode prog_73_method_5_code 75 = .ok (.aload_n 2, 1) := by decide +kernel
theorem d12_76 : decode prog_73_method_5_code 76 = .ok (.areturn, 1) := by decide +kernel
theorem ef_Ur1b (m : MethodId) (a1 : Addr) (a2 : Addr) : entryFrame m #[(.ref a1), (.ref a2)] 3 = mkF m 0 #[.val (.ref a1), .val (.ref a2), .unset] [] := by first | (simp [entryFrame, mkF, argsToLocals, Value.category]; done) | rfl
def QUr1b (Z : State) (a1 : Addr) (a2 : Addr) (pa : Addr) (ua : Addr) (kp : ClassId) (ku : ClassId) (p0 : Addr) (u0 : Addr) (px : Addr) (uy : Addr) (vA : Addr) (ka : ClassId) (za : Int32) (xa : List Value) (vB : Addr) (kb : ClassId) (zb : Int32) (xb : List Value) (cw : Int32) (h0 : Heap) (n0 : Nat) (v : Option Value) (h : Heap) (L : List Loc) : Prop := ∃ rr : Addr, ∃ rv : Addr, ∃ rk : ClassId, v = some (.ref rr) ∧ Fr n0 L ∧ Keep h0 h [] ∧ Exa Z h rr "java/lang/String" ∧ Fld Z h rr "java/lang/String" "coder" "B" (.int (0 : Int32)) ∧ Fld Z h rr "java/lang/String" "value" "[B" (.ref rv) ∧ Arv Z h rv rk .byte (0 : Int32) [] (.int (0 : Int32))
set_option maxRecDepth 65536 in
set_option maxHeartbeats 40000000 in
theorem rmUr1b (l : Launch) (Z : State) (a0 : Array Value) (hw : ∀ d ∈ tables_1, d.before a0 Z = true) (ws : List Jvm.Cond) (a1 : Addr) (a2 : Addr) (pa : Addr) (ua : Addr) (kp : ClassId) (ku : ClassId) (p0 : Addr) (u0 : Addr) (px : Addr) (uy : Addr) (vA : Addr) (ka : ClassId) (za : Int32) (xa : List Value) (vB : Addr) (kb : ClassId) (zb : Int32) (xb : List Value) (cw : Int32) (h0 : Heap) (n0 : Nat) (Z0 : n0 ≤ h0.size) (pr0 : Exa Z h0 a1 "com/example/stanzacall/stanzacall/xml/Namespaces") (pr1 : Fld Z h0 a1 "com/example/stanzacall/stanzacall/xml/Namespaces" "prefixes" "[Ljava/lang/String;" (.ref pa)) (pr2 : Fld Z h0 a1 "com/example/stanzacall/stanzacall/xml/Namespaces" "uris" "[Ljava/lang/String;" (.ref ua)) (pr3 : Fld Z h0 a1 "com/example/stanzacall/stanzacall/xml/Namespaces" "count" "I" (.int (1 : Int32))) (pr4 : Arv Z h0 pa kp (.object "java/lang/String") (16 : Int32) [(.ref p0), (.ref px), .null, .null, .null, .null, .null, .null, .null, .null, .null, .null, .null, .null, .null, .null] .null) (pr5 : Arv Z h0 ua ku (.object "java/lang/String") (16 : Int32) [(.ref u0), (.ref uy), .null, .null, .null, .null, .null, .null, .null, .null, .null, .null, .null, .null, .null, .null] .null) (pr6 : Exa Z h0 p0 "java/lang/String") (pr7 : Fld Z h0 p0 "java/lang/String" "coder" "B" (.int (0 : Int32))) (pr8 : Fld Z h0 p0 "java/lang/String" "value" "[B" (.ref vA)) (pr9 : Arv Z h0 vA ka .byte za xa (.int (0 : Int32))) (pr10 : Exa Z h0 a2 "java/lang/String") (pr11 : Fld Z h0 a2 "java/lang/String" "coder" "B" (.int (0 : Int32))) (pr12 : Fld Z h0 a2 "java/lang/String" "value" "[B" (.ref vB)) (pr13 : Arv Z h0 vB kb .byte zb xb (.int (0 : Int32))) (pr14 : Old Z n0 h0) (pr15 : Sta Z Z.heap "java/lang/String" "COMPACT_STRINGS" "Z" (.int cw)) (hcw : ¬ (cw = (0 : Int32))) (hz1 : za = (1 : Int32)) (hz2 : zb = (0 : Int32)) :
    MetFree l (⟨"com/example/stanzacall/stanzacall/xml/Namespaces", "uri", "(Ljava/lang/String;)Ljava/lang/String;"⟩ : MethodName) (head1 (Jvm.Cond.code (⟨"com/example/stanzacall/stanzacall/xml/Namespaces", "uri", "(Ljava/lang/String;)Ljava/lang/String;"⟩ : MethodName) prog_73_method_5_code 3 (some (.object "java/lang/String")) :: ws) ({ frames := 2, cells := 2, slots := 4, locals := 28 } : Room)) (fun a U => a = #[(.ref a1), (.ref a2)] ∧ Z.Warmed39 U.vm ∧ U.heap = h0 ∧ CHv Z ELx U.vm h0) (fun _ _ _ _ _ => True) (fun _ U o U' => ∃ v L, o = .returned v ∧ QUr1b Z a1 a2 pa ua kp ku p0 u0 px uy vA ka za xa vB kb zb xb cw h0 n0 v U'.heap L ∧ CHr Z ELx U.vm U.heap U'.vm U'.heap ∧ ReturnedEndW U o U' L ({ frames := 2, cells := 2, slots := 4, locals := 28 } : Room).cells ({ frames := 2, cells := 2, slots := 4, locals := 28 } : Room).slots) := by
  refine MetFree.of_bodySF (plainFor_of_name pn_12) hisR ?_
  intro p e s m args below meth c s₁ Bd hml0 hP hK
  obtain ⟨rfl, hZ, hh, hCH⟩ := hP
  have hx := Bd.exec
  have hby := Bd.bytes
  have hml : c.maxLocals = 3 := hml0
  have hown : s.vm.findClass "com/example/stanzacall/stanzacall/xml/Namespaces" = some m.cls := findClass_of_methodNamed Bd.named
  have hnm := (name_of_methodNamed Bd.named Bd.method).1
  have X0 : Stand p l e ({ frames := 2, cells := 2, slots := 4, locals := 28 } : Room) (s.setVm s.vm) m #[(.ref a1), (.ref a2)] below meth c s₁ [] 0 0 := Stand.of_body Bd
  have hZ : Z.Warmed39 (s.setVm s.vm).vm := hZ
  have hown : (s.setVm s.vm).vm.findClass "com/example/stanzacall/stanzacall/xml/Namespaces" = some m.cls := hown
  have CR0 : CHr Z ELx s.vm h0 s.vm h0 := CHr.refl hCH
  have hS0 : s.Since s.vm h0.size := State.WarmedH.since (State.WarmedH.refl s) _
  have hk0 : h0.size ≤ h0.size := Nat.le_refl _
  have hs0 : h0 = s.heap := hh.symm
  have e0 : s₁.heap = h0 := by rw [← hh, Bd.state]; rfl
  have N0 := Fr.nil n0
  obtain ⟨f0, hf0⟩ : ∃ f, f = entryFrame m #[(.ref a1), (.ref a2)] 3 := ⟨_, rfl⟩
  have pre0 : ∀ t, Steps p.tables e below (s₁.setTop f0) t → Steps p.tables e below (s₁.setTop (entryFrame m #[(.ref a1), (.ref a2)] 3)) t := fun t k => hf0 ▸ k
  have K0 : Gx p e below s₁ f0 s₁ (mkF m 0 #[.val (.ref a1), .val (.ref a2), .unset] []) := fun t kt => by rw [hf0]; exact castTop (ef_Ur1b m a1 a2) kt
  have K1 : Gx p e below s₁ f0 s₁ (mkF m 1 #[.val (.ref a1), .val (.ref a2), .unset] [(.ref a1)]) := fun t kt => K0 t (by
    show Steps p.tables e below (s₁.setTop (mkF m 0 #[.val (.ref a1), .val (.ref a2), .unset] [])) _
    refine XS.aloadN X0.here hx rfl (hb hby d12_0) rfl rfl ?_
    exact kt)
  obtain ⟨T2, X2, e2, st2⟩ := getF X0 hx hZ hown (host := "") (Or.inl (hw _ (List.mem_of_getElem? (i := 49) rfl))) Via.refl e0 pr3 (g := (mkF m 1 #[.val (.ref a1), .val (.ref a2), .unset] [(.ref a1)])) rfl rfl (hb hby d12_1)
  have K3 : Gx p e below s₁ f0 T2 (mkF m 4 #[.val (.ref a1), .val (.ref a2), .unset] [(.int (1 : Int32))]) := fun t kt => K1 t (st2 t kt)
  have K4 : Gx p e below s₁ f0 T2 (mkF m 12 #[.val (.ref a1), .val (.ref a2), .val (.int (0 : Int32))] [(.ref a1)]) := fun t kt => K3 t (by
    show Steps p.tables e below (T2.setTop (mkF m 4 #[.val (.ref a1), .val (.ref a2), .unset] [(.int (1 : Int32))])) _
    refine XS.iconst X2.here hx rfl (hb hby d12_4) ?_
    show Steps p.tables e below (T2.setTop (mkF m 5 #[.val (.ref a1), .val (.ref a2), .unset] [(.int (1 : Int32)), (.int (1 : Int32))])) _
    refine XS.isub X2.here hx rfl (hb hby d12_5) rfl ?_
    show Steps p.tables e below (T2.setTop (mkF m 6 #[.val (.ref a1), .val (.ref a2), .unset] [(.int (0 : Int32))])) _
    refine XS.istoreN X2.here hx rfl (hb hby d12_6) rfl (l' := #[.val (.ref a1), .val (.ref a2), .val (.int (0 : Int32))]) rfl ?_
    show Steps p.tables e below (T2.setTop (mkF m 7 #[.val (.ref a1), .val (.ref a2), .val (.int (0 : Int32))] [])) _
    refine XS.iloadN X2.here hx rfl (hb hby d12_7) rfl ?_
    show Steps p.tables e below (T2.setTop (mkF m 8 #[.val (.ref a1), .val (.ref a2), .val (.int (0 : Int32))] [(.int (0 : Int32))])) _
    refine XS.ifNo X2.here hx rfl (hb hby d12_8) rfl ((if0 _ _).trans (flt (by decide)).1) ?_
    show Steps p.tables e below (T2.setTop (mkF m 11 #[.val (.ref a1), .val (.ref a2), .val (.int (0 : Int32))] [])) _
    refine XS.aloadN X2.here hx rfl (hb hby d12_11) rfl rfl ?_
    exact kt)
  obtain ⟨T5, X5, e5, st5⟩ := getF X2 hx hZ hown (host := "") (Or.inl (hw _ (List.mem_of_getElem? (i := 35) rfl))) Via.refl e2 pr1 (g := (mkF m 12 #[.val (.ref a1), .val (.ref a2), .val (.int (0 : Int32))] [(.ref a1)])) rfl rfl (hb hby d12_12)
  have K6 : Gx p e below s₁ f0 T5 (mkF m 15 #[.val (.ref a1), .val (.ref a2), .val (.int (0 : Int32))] [(.ref pa)]) := fun t kt => K4 t (st5 t kt)
  obtain ⟨clq7, Arq7, ckq7, cSq7, cNq7, cHq7, cGq7⟩ := id pr4
  have K8 : Gx p e below s₁ f0 T5 (mkF m 18 #[.val (.ref a1), .val (.ref a2), .val (.int (0 : Int32))] [(.ref a2), (.ref p0)]) := fun t kt => K6 t (by
    show Steps p.tables e below (T5.setTop (mkF m 15 #[.val (.ref a1), .val (.ref a2), .val (.int (0 : Int32))] [(.ref pa)])) _
    refine XS.iloadN X5.here hx rfl (hb hby d12_15) rfl ?_
    show Steps p.tables e below (T5.setTop (mkF m 16 #[.val (.ref a1), .val (.ref a2), .val (.int (0 : Int32))] [(.int (0 : Int32)), (.ref pa)])) _
    refine X5.aaload hx (j := (0 : Int32)) (v := (.ref p0)) (by rw [e5]; exact Arq7.1) (State.isArrayOf_alike hZ.alike Arq7.2.1) rfl Arq7.2.2 (inb_of cSq7 ⟨by decide, by decide⟩) (Has.at cHq7 (inb_of cSq7 ⟨by decide, by decide⟩) rfl) (g := (mkF m 16 #[.val (.ref a1), .val (.ref a2), .val (.int (0 : Int32))] [(.int (0 : Int32)), (.ref pa)])) rfl rfl (hb hby d12_16) _ ?_
    show Steps p.tables e below (T5.setTop (mkF m 17 #[.val (.ref a1), .val (.ref a2), .val (.int (0 : Int32))] [(.ref p0)])) _
    refine XS.aloadN X5.here hx rfl (hb hby d12_17) rfl rfl ?_
    exact kt)
  obtain ⟨cq9, kq9, q9a, q9b, q9c⟩ := isOf hZ e5 pr6
  obtain ⟨_, _, ⟨T9, L9, k9, n9⟩, -, X9', ⟨Lc9, hQ9, l9, y9, z9⟩, st9⟩ := X5.virtualBack hx (y := (⟨"java/lang/String", "equals", "(Ljava/lang/Object;)Z"⟩ : MethodName)) (z := (⟨"java/lang/String", "equals", "(Ljava/lang/Object;)Z"⟩ : MethodName)) hown (mvT hZ (hw _ (List.mem_of_getElem? (i := 59) rfl))) (mvT hZ (hw _ (List.mem_of_getElem? (i := 60) rfl))) (notFace_of_selects (args := #[]) (mvT hZ (hw _ (List.mem_of_getElem? (i := 62) rfl)))) (mvT hZ (hw _ (List.mem_of_getElem? (i := 62) rfl))) (mvT hZ (hw _ (List.mem_of_getElem? (i := 61) rfl))) (by decide) (backOf (W := 0) (rmEne l Z a0 hw [] p0 a2 vA vB ka kb za zb xa xb cw h0 n0 (Nat.le_trans Z0 (Keep.refl h0 []).1) pr7 pr8 pr9 pr10 pr11 pr12 pr13 pr14 pr15 hcw (by rw [hz1, hz2]; decide)) hZ (hw _ (List.mem_of_getElem? (i := 63) rfl)) (hw _ (List.mem_of_getElem? (i := 2) rfl)) (by decide) (by decide)) q9a q9c (g := (mkF m 18 #[.val (.ref a1), .val (.ref a2), .val (.int (0 : Int32))] [(.ref a2), (.ref p0)])) rfl (by rw [hml]; rfl) (Steps.refl _) (argsL := [(.ref a2)]) (rest := []) (lenOf pd__Ljava_lang_Object__Z rfl) rfl (by show 2 * 0 + _ ≤ _; exact Nat.le_of_eq rfl) (hb hby d12_18) (fun _ _ => ⟨rfl, e5, (by decide : 0 + 0 ≤ _), (by decide : 0 + 0 ≤ _)⟩)
  dsimp only [Pt.U, Pt.locs, Pt.cells, Pt.slots] at X9' l9 y9 z9 st9 hQ9
  subst l9 y9 z9
  obtain ⟨rfl, N9q, e9⟩ := hQ9
  obtain ⟨lc9, X9, N9⟩ : ∃ lc, Stand p l e ({ frames := 2, cells := 2, slots := 4, locals := 28 } : Room) (s.setVm s.vm) m #[(.ref a1), (.ref a2)] below meth c T9 lc 0 0 ∧ Fr n0 lc := ⟨_, X9', Fr.app N0 N9q⟩
  have K10 : Gx p e below s₁ f0 T9 (mkF m 21 #[.val (.ref a1), .val (.ref a2), .val (.int (0 : Int32))] [(.int (0 : Int32))]) := fun t kt => K8 t (st9.trans kt)
  have K11 : Gx p e below s₁ f0 T9 (mkF m 38 #[.val (.ref a1), .val (.ref a2), .val (.int (-1 : Int32))] [(.ref a2)]) := fun t kt => K10 t (by
    show Steps p.tables e below (T9.setTop (mkF m 21 #[.val (.ref a1), .val (.ref a2), .val (.int (0 : Int32))] [(.int (0 : Int32))])) _
    refine XS.ifYes X9.here hx rfl (pc0 := 21) (pc' := 31) rfl (hb hby d12_21) rfl ((if0 _ _).trans (teq (by decide)).1) (by decide) (by decide) ?_
    show Steps p.tables e below (T9.setTop (mkF m 31 #[.val (.ref a1), .val (.ref a2), .val (.int (0 : Int32))] [])) _
    refine XS.iinc X9.here hx rfl (hb hby d12_31) rfl (l' := #[.val (.ref a1), .val (.ref a2), .val (.int (-1 : Int32))]) rfl ?_
    show Steps p.tables e below (T9.setTop (mkF m 34 #[.val (.ref a1), .val (.ref a2), .val (.int (-1 : Int32))] [])) _
    refine XS.goto X9.here hx rfl (pc0 := 34) (pc' := 7) rfl (hb hby d12_34) (by decide) (by decide) ?_
    show Steps p.tables e below (T9.setTop (mkF m 7 #[.val (.ref a1), .val (.ref a2), .val (.int (-1 : Int32))] [])) _
    refine XS.iloadN X9.here hx rfl (hb hby d12_7) rfl ?_
    show Steps p.tables e below (T9.setTop (mkF m 8 #[.val (.ref a1), .val (.ref a2), .val (.int (-1 : Int32))] [(.int (-1 : Int32))])) _
    refine XS.ifYes X9.here hx rfl (pc0 := 8) (pc' := 37) rfl (hb hby d12_8) rfl ((if0 _ _).trans (tlt (by decide)).1) (by decide) (by decide) ?_
    show Steps p.tables e below (T9.setTop (mkF m 37 #[.val (.ref a1), .val (.ref a2), .val (.int (-1 : Int32))] [])) _
    refine XS.aloadN X9.here hx rfl (hb hby d12_37) rfl rfl ?_
    exact kt)
  obtain ⟨cq12, kq12, q12a, q12b, q12c⟩ := isOf hZ e9 pr10
  obtain ⟨_, _, ⟨T12, L12, k12, n12⟩, -, X12', ⟨Lc12, hQ12, l12, y12, z12⟩, st12⟩ := X9.virtualBack hx (y := (⟨"java/lang/String", "isEmpty", "()Z"⟩ : MethodName)) (z := (⟨"java/lang/String", "isEmpty", "()Z"⟩ : MethodName)) hown (mvT hZ (hw _ (List.mem_of_getElem? (i := 70) rfl))) (mvT hZ (hw _ (List.mem_of_getElem? (i := 71) rfl))) (notFace_of_selects (args := #[]) (mvT hZ (hw _ (List.mem_of_getElem? (i := 73) rfl)))) (mvT hZ (hw _ (List.mem_of_getElem? (i := 73) rfl))) (mvT hZ (hw _ (List.mem_of_getElem? (i := 72) rfl))) (by decide) (backOf (W := 0) (rmEmp l Z a0 hw [] a2 vB kb zb xb h0 n0 (Nat.le_trans Z0 (Keep.refl h0 []).1) pr12 pr13) hZ (hw _ (List.mem_of_getElem? (i := 74) rfl)) (hw _ (List.mem_of_getElem? (i := 2) rfl)) (by decide) (by decide)) q12a q12c (g := (mkF m 38 #[.val (.ref a1), .val (.ref a2), .val (.int (-1 : Int32))] [(.ref a2)])) rfl (by rw [hml]; rfl) (Steps.refl _) (argsL := []) (rest := []) (lenOf pd___Z rfl) rfl (by show 2 * 0 + _ ≤ _; exact Nat.le_of_eq rfl) (hb hby d12_38) (fun _ _ => ⟨rfl, e9, (by decide : 0 + 0 ≤ _), (by decide : 0 + 0 ≤ _)⟩)
  dsimp only [Pt.U, Pt.locs, Pt.cells, Pt.slots] at X12' l12 y12 z12 st12 hQ12
  subst l12 y12 z12
  obtain ⟨rfl, N12q, e12⟩ := hQ12
  obtain ⟨lc12, X12, N12⟩ : ∃ lc, Stand p l e ({ frames := 2, cells := 2, slots := 4, locals := 28 } : Room) (s.setVm s.vm) m #[(.ref a1), (.ref a2)] below meth c T12 lc 0 0 ∧ Fr n0 lc := ⟨_, X12', Fr.app N9 N12q⟩
  have K13 : Gx p e below s₁ f0 T12 (mkF m 41 #[.val (.ref a1), .val (.ref a2), .val (.int (-1 : Int32))] [(.int (if zb = (0 : Int32) then (1 : Int32) else (0 : Int32)))]) := fun t kt => K11 t (st12.trans kt)
  rw [(if_pos hz2 : (if zb = (0 : Int32) then (1 : Int32) else (0 : Int32)) = (1 : Int32))] at K13
  have K14 : Gx p e below s₁ f0 T12 (mkF m 44 #[.val (.ref a1), .val (.ref a2), .val (.int (-1 : Int32))] []) := fun t kt => K13 t (by
    show Steps p.tables e below (T12.setTop (mkF m 41 #[.val (.ref a1), .val (.ref a2), .val (.int (-1 : Int32))] [(.int (1 : Int32))])) _
    refine XS.ifNo X12.here hx rfl (hb hby d12_41) rfl ((if0 _ _).trans (feq (by decide)).1) ?_
    exact kt)
  obtain ⟨sa15, T15, h15, kk15, sb15, kc15, X15, e15, E15, hS15, hk15, hZ, hown, A15, Fc15, Fv15, V15, -, -, CRq15, -, Sf15, st15⟩ := ldcCH (s := s) (vm0 := s.vm) X12 hx hZ hown (hw _ (List.mem_of_getElem? (i := 86) rfl)) (own_wS hw) e12 hS0 hk0 (own_EW hw) (List.mem_of_getElem? (i := 4) rfl) CR0.1 (vs := []) (z := (0 : Int32)) ⟨by decide +kernel, by rfl⟩ (by decide) rfl (g := (mkF m 44 #[.val (.ref a1), .val (.ref a2), .val (.int (-1 : Int32))] [])) rfl (hb hby d12_44) (n := 0) (by decide +kernel) (by decide) (by decide) (by decide)
  have CR16 : CHr Z ELx s.vm h0 T15.vm h15 := CR0.trans CRq15
  have f17 : Exa Z h15 a1 "com/example/stanzacall/stanzacall/xml/Namespaces" := (pr0.ext E15)
  have nn18 := Sf15 a1 (Safe.exa hZ.alike f17 (by decide) (by decide))
  have f19 : Exa Z h15 a2 "java/lang/String" := (pr10.ext E15)
  have f20 : Exa Z h15 p0 "java/lang/String" := (pr6.ext E15)
  have f21 : Arv Z h15 pa kp (.object "java/lang/String") (16 : Int32) [(.ref p0), (.ref px), .null, .null, .null, .null, .null, .null, .null, .null, .null, .null, .null, .null, .null, .null] .null := (pr4.ext E15)
  obtain ⟨clq22, Arq22, ckq22, cSq22, cNq22, cHq22, cGq22⟩ := id f21
  have nn23 := Sf15 pa (Safe.arr hZ.alike Arq22 (by decide))
  have f24 : Arv Z h15 ua ku (.object "java/lang/String") (16 : Int32) [(.ref u0), (.ref uy), .null, .null, .null, .null, .null, .null, .null, .null, .null, .null, .null, .null, .null, .null] .null := (pr5.ext E15)
  obtain ⟨clq25, Arq25, ckq25, cSq25, cNq25, cHq25, cGq25⟩ := id f24
  have nn26 := Sf15 ua (Safe.arr hZ.alike Arq25 (by decide))
  have f27 : Arv Z h15 vA ka .byte za xa (.int (0 : Int32)) := (pr9.ext E15)
  obtain ⟨clq28, Arq28, ckq28, cSq28, cNq28, cHq28, cGq28⟩ := id f27
  have f29 : Arv Z h15 vB kb .byte zb xb (.int (0 : Int32)) := (pr13.ext E15)
  obtain ⟨clq30, Arq30, ckq30, cSq30, cNq30, cHq30, cGq30⟩ := id f29
  have K31 : Gx p e below s₁ f0 T15 (mkF m 46 #[.val (.ref a1), .val (.ref a2), .val (.int (-1 : Int32))] [(.ref sa15)]) := fun t kt => K14 t (st15 t kt)
  have K32 : Gx p e below s₁ f0 T15 (mkF m 76 #[.val (.ref a1), .val (.ref a2), .val (.ref sa15)] [(.ref sa15)]) := fun t kt => K31 t (by
    show Steps p.tables e below (T15.setTop (mkF m 46 #[.val (.ref a1), .val (.ref a2), .val (.int (-1 : Int32))] [(.ref sa15)])) _
    refine XS.astoreN X15.here hx rfl (hb hby d12_46) rfl rfl (l' := #[.val (.ref a1), .val (.ref a2), .val (.ref sa15)]) rfl ?_
    show Steps p.tables e below (T15.setTop (mkF m 47 #[.val (.ref a1), .val (.ref a2), .val (.ref sa15)] [])) _
    refine XS.goto X15.here hx rfl (pc0 := 47) (pc' := 75) rfl (hb hby d12_47) (by decide) (by decide) ?_
    show Steps p.tables e below (T15.setTop (mkF m 75 #[.val (.ref a1), .val (.ref a2), .val (.ref sa15)] [])) _
    refine XS.aloadN X15.here hx rfl (hb hby d12_75) rfl rfl ?_
    exact kt)
  have kp34 : Keep h0 h15 [] := ((Keep.refl h0 []).ext E15)
  have CR33_ := CR16.trans (CHv.at X15 hZ (own_EW hw) CR16.1)
  obtain ⟨fs33, hr33, hrun33, hended33, hRW33⟩ := X15.leaveW hS15 (show _ ≤ T15.heap.size by rw [e15]; exact hk15) (v := some (.ref sa15)) (fun h => by rw [Bd.returns] at h; cases h)
  refine ⟨_, _, pre0 _ (K32 _ ?_), hrun33, hended33, _, _, rfl, ?_, ?_, hRW33.1, hRW33.2.1, hRW33.2.2.1, hRW33.2.2.2.mono (by decide) (by decide)⟩
  · show Steps p.tables e below (T15.setTop (mkF m 76 #[.val (.ref a1), .val (.ref a2), .val (.ref sa15)] [(.ref sa15)])) _
    jvm_step X15.here [X15.here.top, hx, (hb hby d12_76), X15.method', Bd.returns, Value.isRef, FieldType.isReference]
    first | (intro acts; rw [hr33 _ acts rfl rfl rfl]) | rw [hr33 _ _ rfl rfl rfl]
    exact Steps.refl _
  · show QUr1b Z a1 a2 pa ua kp ku p0 u0 px uy vA ka za xa vB kb zb xb cw h0 n0 _ T15.heap _
    rw [e15]
    exact ⟨sa15, sb15, kc15, rfl, N12, kp34, A15, Fc15, Fv15, V15⟩
  · show CHr Z ELx s.vm s.heap T15.vm T15.heap
    rw [e15]
    exact hs0 ▸ CR33_
theorem ef_Uri0 (m : MethodId) (a1 : Addr) (a2 : Addr) : entryFrame m #[(.ref a1), (.ref a2)] 3 = mkF m 0 #[.val (.ref a1), .val (.ref a2), .unset] [] := by first | (simp [entryFrame, mkF, argsToLocals, Value.category]; done) | rfl
def QUri0 (Z : State) (a1 : Addr) (a2 : Addr) (vB : Addr) (kb : ClassId) (zb : Int32) (xb : List Value) (h0 : Heap) (n0 : Nat) (v : Option Value) (h : Heap) (L : List Loc) : Prop := ∃ rr : Addr, ∃ rv : Addr, ∃ rk : ClassId, v = some (.ref rr) ∧ Fr n0 L ∧ Keep h0 h [] ∧ Exa Z h rr "java/lang/String" ∧ Fld Z h rr "java/lang/String" "coder" "B" (.int (0 : Int32)) ∧ Fld Z h rr "java/lang/String" "value" "[B" (.ref rv) ∧ Arv Z h rv rk .byte (0 : Int32) [] (.int (0 : Int32))
set_option maxRecDepth 65536 in
set_option maxHeartbeats 40000000 in
theorem rmUri0 (l : Launch) (Z : State) (a0 : Array Value) (hw : ∀ d ∈ tables_1, d.before a0 Z = true) (ws : List Jvm.Cond) (a1 : Addr) (a2 : Addr) (vB : Addr) (kb : ClassId) (zb : Int32) (xb : List Value) (h0 : Heap) (n0 : Nat) (Z0 : n0 ≤ h0.size) (pr0 : Exa Z h0 a1 "com/example/stanzacall/stanzacall/xml/Namespaces") (pr1 : Fld Z h0 a1 "com/example/stanzacall/stanzacall/xml/Namespaces" "count" "I" (.int (0 : Int32))) (pr2 : Exa Z h0 a2 "java/lang/String") (pr3 : Fld Z h0 a2 "java/lang/String" "coder" "B" (.int (0 : Int32))) (pr4 : Fld Z h0 a2 "java/lang/String" "value" "[B" (.ref vB)) (pr5 : Arv Z h0 vB kb .byte zb xb (.int (0 : Int32))) (hz2 : zb = (0 : Int32)) :
    MetFree l (⟨"com/example/stanzacall/stanzacall/xml/Namespaces", "uri", "(Ljava/lang/String;)Ljava/lang/String;"⟩ : MethodName) (head1 (Jvm.Cond.code (⟨"com/example/stanzacall/stanzacall/xml/Namespaces", "uri", "(Ljava/lang/String;)Ljava/lang/String;"⟩ : MethodName) prog_73_method_5_code 3 (some (.object "java/lang/String")) :: ws) ({ frames := 1, cells := 2, slots := 4, locals := 12 } : Room)) (fun a U => a = #[(.ref a1), (.ref a2)] ∧ Z.Warmed39 U.vm ∧ U.heap = h0 ∧ CHv Z ELx U.vm h0) (fun _ _ _ _ _ => True) (fun _ U o U' => ∃ v L, o = .returned v ∧ QUri0 Z a1 a2 vB kb zb xb h0 n0 v U'.heap L ∧ CHr Z ELx U.vm U.heap U'.vm U'.heap ∧ ReturnedEndW U o U' L ({ frames := 1, cells := 2, slots := 4, locals := 12 } : Room).cells ({ frames := 1, cells := 2, slots := 4, locals := 12 } : Room).slots) := by
  refine MetFree.of_bodySF (plainFor_of_name pn_12) hisR ?_
  intro p e s m args below meth c s₁ Bd hml0 hP hK
  obtain ⟨rfl, hZ, hh, hCH⟩ := hP
  have hx := Bd.exec
  have hby := Bd.bytes
  have hml : c.maxLocals = 3 := hml0
  have hown : s.vm.findClass "com/example/stanzacall/stanzacall/xml/Namespaces" = some m.cls := findClass_of_methodNamed Bd.named
  have hnm := (name_of_methodNamed Bd.named Bd.method).1
  have X0 : Stand p l e ({ frames := 1, cells := 2, slots := 4, locals := 12 } : Room) (s.setVm s.vm) m #[(.ref a1), (.ref a2)] below meth c s₁ [] 0 0 := Stand.of_body Bd
  have hZ : Z.Warmed39 (s.setVm s.vm).vm := hZ
  have hown : (s.setVm s.vm).vm.findClass "com/example/stanzacall/stanzacall/xml/Namespaces" = some m.cls := hown
  have CR0 : CHr Z ELx s.vm h0 s.vm h0 := CHr.refl hCH
  have hS0 : s.Since s.vm h0.size := State.WarmedH.since (State.WarmedH.refl s) _
  have hk0 : h0.size ≤ h0.size := Nat.le_refl _
  have hs0 : h0 = s.heap := hh.symm
  have e0 : s₁.heap = h0 := by rw [← hh, Bd.state]; rfl
  have N0 := Fr.nil n0
  obtain ⟨f0, hf0⟩ : ∃ f, f = entryFrame m #[(.ref a1), (.ref a2)] 3 := ⟨_, rfl⟩
  have pre0 : ∀ t, Steps p.tables e below (s₁.setTop f0) t → Steps p.tables e below (s₁.setTop (entryFrame m #[(.ref a1), (.ref a2)] 3)) t := fun t k => hf0 ▸ k
  have K0 : Gx p e below s₁ f0 s₁ (mkF m 0 #[.val (.ref a1), .val (.ref a2), .unset] []) := fun t kt => by rw [hf0]; exact castTop (ef_Uri0 m a1 a2) kt
  have K1 : Gx p e below s₁ f0 s₁ (mkF m 1 #[.val (.ref a1), .val (.ref a2), .unset] [(.ref a1)]) := fun t kt => K0 t (by
    show Steps p.tables e below (s₁.setTop (mkF m 0 #[.val (.ref a1), .val (.ref a2), .unset] [])) _
    refine XS.aloadN X0.here hx rfl (hb hby d12_0) rfl rfl ?_
    exact kt)
  obtain ⟨T2, X2, e2, st2⟩ := getF X0 hx hZ hown (host := "") (Or.inl (hw _ (List.mem_of_getElem? (i := 49) rfl))) Via.refl e0 pr1 (g := (mkF m 1 #[.val (.ref a1), .val (.ref a2), .unset] [(.ref a1)])) rfl rfl (hb hby d12_1)
  have K3 : Gx p e below s₁ f0 T2 (mkF m 4 #[.val (.ref a1), .val (.ref a2), .unset] [(.int (0 : Int32))]) := fun t kt => K1 t (st2 t kt)
  have K4 : Gx p e below s₁ f0 T2 (mkF m 38 #[.val (.ref a1), .val (.ref a2), .val (.int (-1 : Int32))] [(.ref a2)]) := fun t kt => K3 t (by
    show Steps p.tables e below (T2.setTop (mkF m 4 #[.val (.ref a1), .val (.ref a2), .unset] [(.int (0 : Int32))])) _
    refine XS.iconst X2.here hx rfl (hb hby d12_4) ?_
    show Steps p.tables e below (T2.setTop (mkF m 5 #[.val (.ref a1), .val (.ref a2), .unset] [(.int (1 : Int32)), (.int (0 : Int32))])) _
    refine XS.isub X2.here hx rfl (hb hby d12_5) rfl ?_
    show Steps p.tables e below (T2.setTop (mkF m 6 #[.val (.ref a1), .val (.ref a2), .unset] [(.int (-1 : Int32))])) _
    refine XS.istoreN X2.here hx rfl (hb hby d12_6) rfl (l' := #[.val (.ref a1), .val (.ref a2), .val (.int (-1 : Int32))]) rfl ?_
    show Steps p.tables e below (T2.setTop (mkF m 7 #[.val (.ref a1), .val (.ref a2), .val (.int (-1 : Int32))] [])) _
    refine XS.iloadN X2.here hx rfl (hb hby d12_7) rfl ?_
    show Steps p.tables e below (T2.setTop (mkF m 8 #[.val (.ref a1), .val (.ref a2), .val (.int (-1 : Int32))] [(.int (-1 : Int32))])) _
    refine XS.ifYes X2.here hx rfl (pc0 := 8) (pc' := 37) rfl (hb hby d12_8) rfl ((if0 _ _).trans (tlt (by decide)).1) (by decide) (by decide) ?_
    show Steps p.tables e below (T2.setTop (mkF m 37 #[.val (.ref a1), .val (.ref a2), .val (.int (-1 : Int32))] [])) _
    refine XS.aloadN X2.here hx rfl (hb hby d12_37) rfl rfl ?_
    exact kt)
  obtain ⟨cq5, kq5, q5a, q5b, q5c⟩ := isOf hZ e2 pr2
  obtain ⟨_, _, ⟨T5, L5, k5, n5⟩, -, X5', ⟨Lc5, hQ5, l5, y5, z5⟩, st5⟩ := X2.virtualBack hx (y := (⟨"java/lang/String", "isEmpty", "()Z"⟩ : MethodName)) (z := (⟨"java/lang/String", "isEmpty", "()Z"⟩ : MethodName)) hown (mvT hZ (hw _ (List.mem_of_getElem? (i := 70) rfl))) (mvT hZ (hw _ (List.mem_of_getElem? (i := 71) rfl))) (notFace_of_selects (args := #[]) (mvT hZ (hw _ (List.mem_of_getElem? (i := 73) rfl)))) (mvT hZ (hw _ (List.mem_of_getElem? (i := 73) rfl))) (mvT hZ (hw _ (List.mem_of_getElem? (i := 72) rfl))) (by decide) (backOf (W := 0) (rmEmp l Z a0 hw [] a2 vB kb zb xb h0 n0 (Nat.le_trans Z0 (Keep.refl h0 []).1) pr4 pr5) hZ (hw _ (List.mem_of_getElem? (i := 74) rfl)) (hw _ (List.mem_of_getElem? (i := 2) rfl)) (by decide) (by decide)) q5a q5c (g := (mkF m 38 #[.val (.ref a1), .val (.ref a2), .val (.int (-1 : Int32))] [(.ref a2)])) rfl (by rw [hml]; rfl) (Steps.refl _) (argsL := []) (rest := []) (lenOf pd___Z rfl) rfl (by show 2 * 0 + _ ≤ _; exact Nat.le_of_eq rfl) (hb hby d12_38) (fun _ _ => ⟨rfl, e2, (by decide : 0 + 0 ≤ _), (by decide : 0 + 0 ≤ _)⟩)
  dsimp only [Pt.U, Pt.locs, Pt.cells, Pt.slots] at X5' l5 y5 z5 st5 hQ5
  subst l5 y5 z5
  obtain ⟨rfl, N5q, e5⟩ := hQ5
  obtain ⟨lc5, X5, N5⟩ : ∃ lc, Stand p l e ({ frames := 1, cells := 2, slots := 4, locals := 12 } : Room) (s.setVm s.vm) m #[(.ref a1), (.ref a2)] below meth c T5 lc 0 0 ∧ Fr n0 lc := ⟨_, X5', Fr.app N0 N5q⟩
  have K6 : Gx p e below s₁ f0 T5 (mkF m 41 #[.val (.ref a1), .val (.ref a2), .val (.int (-1 : Int32))] [(.int (if zb = (0 : Int32) then (1 : Int32) else (0 : Int32)))]) := fun t kt => K4 t (st5.trans kt)
  rw [(if_pos hz2 : (if zb = (0 : Int32) then (1 : Int32) else (0 : Int32)) = (1 : Int32))] at K6
  have K7 : Gx p e below s₁ f0 T5 (mkF m 44 #[.val (.ref a1), .val (.ref a2), .val (.int (-1 : Int32))] []) := fun t kt => K6 t (by
    show Steps p.tables e below (T5.setTop (mkF m 41 #[.val (.ref a1), .val (.ref a2), .val (.int (-1 : Int32))] [(.int (1 : Int32))])) _
    refine XS.ifNo X5.here hx rfl (hb hby d12_41) rfl ((if0 _ _).trans (feq (by decide)).1) ?_
    exact kt)
  obtain ⟨sa8, T8, h8, kk8, sb8, kc8, X8, e8, E8, hS8, hk8, hZ, hown, A8, Fc8, Fv8, V8, -, -, CRq8, -, Sf8, st8⟩ := ldcCH (s := s) (vm0 := s.vm) X5 hx hZ hown (hw _ (List.mem_of_getElem? (i := 86) rfl)) (own_wS hw) e5 hS0 hk0 (own_EW hw) (List.mem_of_getElem? (i := 4) rfl) CR0.1 (vs := []) (z := (0 : Int32)) ⟨by decide +kernel, by rfl⟩ (by decide) rfl (g := (mkF m 44 #[.val (.ref a1), .val (.ref a2), .val (.int (-1 : Int32))] [])) rfl (hb hby d12_44) (n := 0) (by decide +kernel) (by decide) (by decide) (by decide)
  have CR9 : CHr Z ELx s.vm h0 T8.vm h8 := CR0.trans CRq8
  have f10 : Exa Z h8 a1 "com/example/stanzacall/stanzacall/xml/Namespaces" := (pr0.ext E8)
  have nn11 := Sf8 a1 (Safe.exa hZ.alike f10 (by decide) (by decide))
  have f12 : Exa Z h8 a2 "java/lang/String" := (pr2.ext E8)
  have f13 : Arv Z h8 vB kb .byte zb xb (.int (0 : Int32)) := (pr5.ext E8)
  obtain ⟨clq14, Arq14, ckq14, cSq14, cNq14, cHq14, cGq14⟩ := id f13
  have K15 : Gx p e below s₁ f0 T8 (mkF m 46 #[.val (.ref a1), .val (.ref a2), .val (.int (-1 : Int32))] [(.ref sa8)]) := fun t kt => K7 t (st8 t kt)
  have K16 : Gx p e below s₁ f0 T8 (mkF m 76 #[.val (.ref a1), .val (.ref a2), .val (.ref sa8)] [(.ref sa8)]) := fun t kt => K15 t (by
    show Steps p.tables e below (T8.setTop (mkF m 46 #[.val (.ref a1), .val (.ref a2), .val (.int (-1 : Int32))] [(.ref sa8)])) _
    refine XS.astoreN X8.here hx rfl (hb hby d12_46) rfl rfl (l' := #[.val (.ref a1), .val (.ref a2), .val (.ref sa8)]) rfl ?_
    show Steps p.tables e below (T8.setTop (mkF m 47 #[.val (.ref a1), .val (.ref a2), .val (.ref sa8)] [])) _
    refine XS.goto X8.here hx rfl (pc0 := 47) (pc' := 75) rfl (hb hby d12_47) (by decide) (by decide) ?_
    show Steps p.tables e below (T8.setTop (mkF m 75 #[.val (.ref a1), .val (.ref a2), .val (.ref sa8)] [])) _
    refine XS.aloadN X8.here hx rfl (hb hby d12_75) rfl rfl ?_
    exact kt)
  have kp18 : Keep h0 h8 [] := ((Keep.refl h0 []).ext E8)
  have CR17_ := CR9.trans (CHv.at X8 hZ (own_EW hw) CR9.1)
  obtain ⟨fs17, hr17, hrun17, hended17, hRW17⟩ := X8.leaveW hS8 (show _ ≤ T8.heap.size by rw [e8]; exact hk8) (v := some (.ref sa8)) (fun h => by rw [Bd.returns] at h; cases h)
  refine ⟨_, _, pre0 _ (K16 _ ?_), hrun17, hended17, _, _, rfl, ?_, ?_, hRW17.1, hRW17.2.1, hRW17.2.2.1, hRW17.2.2.2.mono (by decide) (by decide)⟩
  · show Steps p.tables e below (T8.setTop (mkF m 76 #[.val (.ref a1), .val (.ref a2), .val (.ref sa8)] [(.ref sa8)])) _
    jvm_step X8.here [X8.here.top, hx, (hb hby d12_76), X8.method', Bd.returns, Value.isRef, FieldType.isReference]
    first | (intro acts; rw [hr17 _ acts rfl rfl rfl]) | rw [hr17 _ _ rfl rfl rfl]
    exact Steps.refl _
  · show QUri0 Z a1 a2 vB kb zb xb h0 n0 _ T8.heap _
    rw [e8]
    exact ⟨sa8, sb8, kc8, rfl, N5, kp18, A8, Fc8, Fv8, V8⟩
  · show CHr Z ELx s.vm s.heap T8.vm T8.heap
    rw [e8]
    exact hs0 ▸ CR17_
theorem pd___V : parseMethodDescriptor "()V" = some ⟨[], none⟩ := by decide +kernel
theorem pd__Ljava_lang_String_Ljava_lang_String__V : parseMethodDescriptor "(Ljava/lang/String;Ljava/lang/String;)V" = some ⟨[(.object "java/lang/String"), (.object "java/lang/String")], none⟩ := by decide +kernel
theorem pd__Ljava_lang_String__Ljava_lang_String_ : parseMethodDescriptor "(Ljava/lang/String;)Ljava/lang/String;" = some ⟨[(.object "java/lang/String")], some (.object "java/lang/String")⟩ := by decide +kernel
set_option maxRecDepth 65536 in
set_option maxHeartbeats 40000000 in
theorem tlE {p : Program} {l : Launch} {e : Env} {s : State} {m : MethodId} {below : List Frame} {meth : Method} {c : Code} {T0 : State} {lc0 : List Loc} {vm0 : Vm} {k0 : Nat} {h0 : Heap} {n0 : Nat} (Z : State) (a0 : Array Value) (hw : ∀ d ∈ tables_1, d.before a0 Z = true) {p1 : Int32} {p2 : Int32} {p3 : Int32} {p4 : Int32} {p5 : Int32} {sa : Addr} {sva : Addr} {ska : ClassId} {sza : Int32} {sxa : List Value} {sb : Addr} {svb : Addr} {skb : ClassId} {szb : Int32} {sxb : List Value} {sc : Addr} {svc : Addr} {skc : ClassId} {szc : Int32} {sxc : List Value} {sd : Addr} {svd : Addr} {skd : ClassId} {szd : Int32} {sxd : List Value} {cw : Int32} {wq : Int32} (Z0 : n0 ≤ h0.size)
    (X0 : Stand p l e room_1 (s.setVm vm0) m #[(.int p1), (.int p2), (.int p3), (.int p4), (.int p5)] below meth c T0 lc0 8 40) (hx : p.tables.exec = Jvm.exec) (hby : c.code = code) (hml : c.maxLocals = 17) (hown : (s.setVm vm0).vm.findClass "com/example/stanzacall/stanzacall/xml/NamespacesClosePinLaw" = some m.cls) (hZ : Z.Warmed39 (s.setVm vm0).vm) (hret : meth.sig.returnType = some .boolean) (hlk : meth.locks = false) (e0 : T0.heap = h0) (N0 : Fr n0 lc0) (hS0 : s.Since vm0 k0) (hk0 : k0 ≤ h0.size) (CR0 : CHr Z ELx s.vm s.heap vm0 h0) (pr0 : Exa Z h0 sa "java/lang/String") (pr1 : Fld Z h0 sa "java/lang/String" "coder" "B" (.int (0 : Int32))) (pr2 : Fld Z h0 sa "java/lang/String" "value" "[B" (.ref sva)) (pr3 : Arv Z h0 sva ska .byte sza sxa (.int (0 : Int32))) (pr4 : Exa Z h0 sb "java/lang/String") (pr5 : Fld Z h0 sb "java/lang/String" "coder" "B" (.int (0 : Int32))) (pr6 : Fld Z h0 sb "java/lang/String" "value" "[B" (.ref svb)) (pr7 : Arv Z h0 svb skb .byte szb sxb (.int (0 : Int32))) (pr8 : Exa Z h0 sc "java/lang/String") (pr9 : Fld Z h0 sc "java/lang/String" "coder" "B" (.int (0 : Int32))) (pr10 : Fld Z h0 sc "java/lang/String" "value" "[B" (.ref svc)) (pr11 : Arv Z h0 svc skc .byte szc sxc (.int (0 : Int32))) (pr12 : Exa Z h0 sd "java/lang/String") (pr13 : Fld Z h0 sd "java/lang/String" "coder" "B" (.int (0 : Int32))) (pr14 : Fld Z h0 sd "java/lang/String" "value" "[B" (.ref svd)) (pr15 : Arv Z h0 svd skd .byte szd sxd (.int (0 : Int32))) (pr16 : Old Z n0 h0) (pr17 : Sta Z Z.heap "java/lang/String" "COMPACT_STRINGS" "Z" (.int cw)) (hcw : ¬ (cw = (0 : Int32))) (hza : sza = (0 : Int32) ∨ sza = (1 : Int32)) (hzb : szb = (0 : Int32) ∨ szb = (1 : Int32)) (hzc : szc = (0 : Int32) ∨ szc = (1 : Int32)) (hzd : szd = (0 : Int32) ∨ szd = (1 : Int32)) (hac : szc = (0 : Int32) → sza = (0 : Int32)) (hbd : szd = (0 : Int32) → szb = (0 : Int32)) (hpe : sza = (0 : Int32)) :
    ∃ t o, Steps p.tables e below (T0.setTop (mkF m 128 #[.val (.int p1), .val (.int p2), .val (.int p3), .val (.int p4), .val (.int p5), .val (.int (1 : Int32)), .val (.int wq), .val (.ref sa), .val (.ref sb), .val (.ref sc), .val (.ref sd), .unset, .unset, .unset, .unset, .unset, .unset] [])) t ∧ t.status = .running ∧ Ended t below o ∧ ∃ v L, o = .returned v ∧ (v = some (.int (1 : Int32)) ∧ Fr n0 L) ∧ CHr Z ELx s.vm s.heap t.vm t.heap ∧ ReturnedEndW s o t L room_1.cells room_1.slots := by
  obtain ⟨f0, hf0⟩ : ∃ f, f = (mkF m 128 #[.val (.int p1), .val (.int p2), .val (.int p3), .val (.int p4), .val (.int p5), .val (.int (1 : Int32)), .val (.int wq), .val (.ref sa), .val (.ref sb), .val (.ref sc), .val (.ref sd), .unset, .unset, .unset, .unset, .unset, .unset] []) := ⟨_, rfl⟩
  have pre0 : ∀ t, Steps p.tables e below (T0.setTop f0) t → Steps p.tables e below (T0.setTop (mkF m 128 #[.val (.int p1), .val (.int p2), .val (.int p3), .val (.int p4), .val (.int p5), .val (.int (1 : Int32)), .val (.int wq), .val (.ref sa), .val (.ref sb), .val (.ref sc), .val (.ref sd), .unset, .unset, .unset, .unset, .unset, .unset] [])) t := fun t k => hf0 ▸ k
  have K0 : Gx p e below T0 f0 T0 (mkF m 128 #[.val (.int p1), .val (.int p2), .val (.int p3), .val (.int p4), .val (.int p5), .val (.int (1 : Int32)), .val (.int wq), .val (.ref sa), .val (.ref sb), .val (.ref sc), .val (.ref sd), .unset, .unset, .unset, .unset, .unset, .unset] []) := fun t kt => by rw [hf0]; exact kt
  obtain ⟨T1, h1, X1, e1, E1, A1, D1, -, st1⟩ := newO X0 hx hZ hown (hw _ (List.mem_of_getElem? (i := 26) rfl)) (hw _ (List.mem_of_getElem? (i := 27) rfl)) (hw _ (List.mem_of_getElem? (i := 28) rfl)) e0 (g := (mkF m 128 #[.val (.int p1), .val (.int p2), .val (.int p3), .val (.int p4), .val (.int p5), .val (.int (1 : Int32)), .val (.int wq), .val (.ref sa), .val (.ref sb), .val (.ref sc), .val (.ref sd), .unset, .unset, .unset, .unset, .unset, .unset] [])) rfl (hb hby at_128) (by decide) (by decide)
  obtain ⟨b1, g1⟩ : ∃ z, z = h0.size := ⟨_, rfl⟩
  rw [← g1] at A1 D1 st1
  have CR2 : CHr Z ELx s.vm s.heap vm0 h1 := CR0.trans (CHr.ext E1 CR0.1)
  have f3 : Fld Z h1 b1 "com/example/stanzacall/stanzacall/xml/Namespaces" "prefixes" "[Ljava/lang/String;" .null := D1 (Or.inl (hw _ (List.mem_of_getElem? (i := 36) rfl))) (ty := (.array (.object "java/lang/String"))) (by decide)
  have f4 : Fld Z h1 b1 "com/example/stanzacall/stanzacall/xml/Namespaces" "uris" "[Ljava/lang/String;" .null := D1 (Or.inl (hw _ (List.mem_of_getElem? (i := 38) rfl))) (ty := (.array (.object "java/lang/String"))) (by decide)
  have f5 : Fld Z h1 b1 "com/example/stanzacall/stanzacall/xml/Namespaces" "scopes" "[I" .null := D1 (Or.inl (hw _ (List.mem_of_getElem? (i := 41) rfl))) (ty := (.array .int)) (by decide)
  have f6 : Fld Z h1 b1 "com/example/stanzacall/stanzacall/xml/Namespaces" "depth" "I" (.int (0 : Int32)) := D1 (Or.inl (hw _ (List.mem_of_getElem? (i := 48) rfl))) (ty := .int) (by decide)
  have f7 : Fld Z h1 b1 "com/example/stanzacall/stanzacall/xml/Namespaces" "count" "I" (.int (0 : Int32)) := D1 (Or.inl (hw _ (List.mem_of_getElem? (i := 50) rfl))) (ty := .int) (by decide)
  have K8 : Gx p e below T0 f0 T1 (mkF m 131 #[.val (.int p1), .val (.int p2), .val (.int p3), .val (.int p4), .val (.int p5), .val (.int (1 : Int32)), .val (.int wq), .val (.ref sa), .val (.ref sb), .val (.ref sc), .val (.ref sd), .unset, .unset, .unset, .unset, .unset, .unset] [(.ref b1)]) := fun t kt => K0 t (st1 t kt)
  have K9 : Gx p e below T0 f0 T1 (mkF m 132 #[.val (.int p1), .val (.int p2), .val (.int p3), .val (.int p4), .val (.int p5), .val (.int (1 : Int32)), .val (.int wq), .val (.ref sa), .val (.ref sb), .val (.ref sc), .val (.ref sd), .unset, .unset, .unset, .unset, .unset, .unset] [(.ref b1), (.ref b1)]) := fun t kt => K8 t (by
    show Steps p.tables e below (T1.setTop (mkF m 131 #[.val (.int p1), .val (.int p2), .val (.int p3), .val (.int p4), .val (.int p5), .val (.int (1 : Int32)), .val (.int wq), .val (.ref sa), .val (.ref sb), .val (.ref sc), .val (.ref sd), .unset, .unset, .unset, .unset, .unset, .unset] [(.ref b1)])) _
    refine XS.dup X1.here hx rfl (hb hby at_131) rfl rfl ?_
    exact kt)
  have kp10 : Keep h0 h1 [] := ((Keep.refl h0 []).ext E1)
  obtain ⟨_, _, ⟨T11, L11, k11, n11⟩, -, X11', ⟨Lc11, hQ11, l11, y11, z11⟩, st11⟩ := X1.specialBack hx (y := (⟨"com/example/stanzacall/stanzacall/xml/Namespaces", "<init>", "()V"⟩ : MethodName)) rfl hown (mvT hZ (hw _ (List.mem_of_getElem? (i := 29) rfl))) (mvT hZ (hw _ (List.mem_of_getElem? (i := 30) rfl))) (mvT hZ (hw _ (List.mem_of_getElem? (i := 31) rfl))) (by decide) (backOf (W := 1) (rmIni l Z a0 hw [] b1 h1 n0 (Nat.le_trans Z0 kp10.1) A1 (Nat.le_trans Z0 (Nat.le_trans (Keep.refl h0 []).1 (Nat.le_of_eq g1.symm))) f3 f4 f5 f6 f7) hZ (hw _ (List.mem_of_getElem? (i := 31) rfl)) (hw _ (List.mem_of_getElem? (i := 28) rfl)) (by decide) (by decide)) (g := (mkF m 132 #[.val (.int p1), .val (.int p2), .val (.int p3), .val (.int p4), .val (.int p5), .val (.int (1 : Int32)), .val (.int wq), .val (.ref sa), .val (.ref sb), .val (.ref sc), .val (.ref sd), .unset, .unset, .unset, .unset, .unset, .unset] [(.ref b1), (.ref b1)])) rfl (by rw [hml]; rfl) (Steps.refl _) (a := b1) (argsL := []) (rest := [(.ref b1)]) (lenOf pd___V rfl) rfl (by show 2 * 0 + _ ≤ _; exact Nat.le_of_eq rfl) (hb hby at_132) (fun _ _ => ⟨rfl, e1, (by decide : 9 + 3 ≤ _), (by decide : 45 + 48 ≤ _)⟩)
  dsimp only [Pt.U, Pt.locs, Pt.cells, Pt.slots] at X11' l11 y11 z11 st11 hQ11
  subst l11 y11 z11
  obtain ⟨h11, e11⟩ : ∃ z, T11.heap = z := ⟨_, rfl⟩
  rw [e11] at hQ11
  obtain ⟨pa_11, ua_11, sc_11, kp_11, ku_11, ks_11, rfl, N11q, Kc11, f12, f13, f14, f15, f16, f17, f18, f19, f20, f21, f22, f23, f24, f25, f26, f27, f28⟩ := hQ11
  obtain ⟨lc11, X11, N11⟩ : ∃ lc, Stand p l e room_1 (s.setVm vm0) m #[(.int p1), (.int p2), (.int p3), (.int p4), (.int p5)] below meth c T11 lc 12 93 ∧ Fr n0 lc := ⟨_, X11', Fr.app N0 N11q⟩
  have CR29 : CHr Z ELx s.vm s.heap vm0 h11 := CR2.trans (CHr.keep Kc11 (allS (Safe.exa hZ.alike A1 (by decide) (by decide)) all0) CR2.1)
  have K30 : Gx p e below T0 f0 T11 (mkF m 135 #[.val (.int p1), .val (.int p2), .val (.int p3), .val (.int p4), .val (.int p5), .val (.int (1 : Int32)), .val (.int wq), .val (.ref sa), .val (.ref sb), .val (.ref sc), .val (.ref sd), .unset, .unset, .unset, .unset, .unset, .unset] [(.ref b1)]) := fun t kt => K9 t (st11.trans kt)
  have K31 : Gx p e below T0 f0 T11 (mkF m 139 #[.val (.int p1), .val (.int p2), .val (.int p3), .val (.int p4), .val (.int p5), .val (.int (1 : Int32)), .val (.int wq), .val (.ref sa), .val (.ref sb), .val (.ref sc), .val (.ref sd), .val (.ref b1), .unset, .unset, .unset, .unset, .unset] [(.ref b1)]) := fun t kt => K30 t (by
    show Steps p.tables e below (T11.setTop (mkF m 135 #[.val (.int p1), .val (.int p2), .val (.int p3), .val (.int p4), .val (.int p5), .val (.int (1 : Int32)), .val (.int wq), .val (.ref sa), .val (.ref sb), .val (.ref sc), .val (.ref sd), .unset, .unset, .unset, .unset, .unset, .unset] [(.ref b1)])) _
    refine XS.astore X11.here hx rfl (hb hby at_135) rfl rfl (l' := #[.val (.int p1), .val (.int p2), .val (.int p3), .val (.int p4), .val (.int p5), .val (.int (1 : Int32)), .val (.int wq), .val (.ref sa), .val (.ref sb), .val (.ref sc), .val (.ref sd), .val (.ref b1), .unset, .unset, .unset, .unset, .unset]) rfl ?_
    show Steps p.tables e below (T11.setTop (mkF m 137 #[.val (.int p1), .val (.int p2), .val (.int p3), .val (.int p4), .val (.int p5), .val (.int (1 : Int32)), .val (.int wq), .val (.ref sa), .val (.ref sb), .val (.ref sc), .val (.ref sd), .val (.ref b1), .unset, .unset, .unset, .unset, .unset] [])) _
    refine XS.aload X11.here hx rfl (hb hby at_137) rfl rfl ?_
    exact kt)
  have kp32 : Keep h0 h11 [] := (Keep.trans kp10 Kc11 (allS (Or.inr (Nat.le_trans (Keep.refl h0 []).1 (Nat.le_of_eq g1.symm))) all0))
  obtain ⟨cq33, kq33, q33a, q33b, q33c⟩ := isOf hZ e11 f12
  obtain ⟨_, _, ⟨T33, L33, k33, n33⟩, -, X33', ⟨Lc33, hQ33, l33, y33, z33⟩, st33⟩ := X11.virtualBack hx (y := (⟨"com/example/stanzacall/stanzacall/xml/Namespaces", "open", "()V"⟩ : MethodName)) (z := (⟨"com/example/stanzacall/stanzacall/xml/Namespaces", "open", "()V"⟩ : MethodName)) hown (mvT hZ (hw _ (List.mem_of_getElem? (i := 42) rfl))) (mvT hZ (hw _ (List.mem_of_getElem? (i := 43) rfl))) (notFace_of_selects (args := #[]) (mvT hZ (hw _ (List.mem_of_getElem? (i := 45) rfl)))) (mvT hZ (hw _ (List.mem_of_getElem? (i := 45) rfl))) (mvT hZ (hw _ (List.mem_of_getElem? (i := 44) rfl))) (by decide) (backOf (W := 0) (rmOpen0 l Z a0 hw [] b1 pa_11 ua_11 sc_11 ks_11 h11 n0 (Nat.le_trans Z0 kp32.1) f12 f13 f14 f15 f16 f17 f20 (Nat.le_trans Z0 (Nat.le_trans (Keep.refl h0 []).1 (Nat.le_of_eq g1.symm))) (Nat.le_trans Z0 (Nat.le_trans kp10.1 f23)) (Nat.ne_of_lt (Nat.lt_of_lt_of_le A1.lt f23))) hZ (hw _ (List.mem_of_getElem? (i := 46) rfl)) (hw _ (List.mem_of_getElem? (i := 28) rfl)) (by decide) (by decide)) q33a q33c (g := (mkF m 139 #[.val (.int p1), .val (.int p2), .val (.int p3), .val (.int p4), .val (.int p5), .val (.int (1 : Int32)), .val (.int wq), .val (.ref sa), .val (.ref sb), .val (.ref sc), .val (.ref sd), .val (.ref b1), .unset, .unset, .unset, .unset, .unset] [(.ref b1)])) rfl (by rw [hml]; rfl) (Steps.refl _) (argsL := []) (rest := []) (lenOf pd___V rfl) rfl (by show 2 * 0 + _ ≤ _; exact Nat.le_of_eq rfl) (hb hby at_139) (fun _ _ => ⟨rfl, e11, (by decide : 12 + 0 ≤ _), (by decide : 93 + 0 ≤ _)⟩)
  dsimp only [Pt.U, Pt.locs, Pt.cells, Pt.slots] at X33' l33 y33 z33 st33 hQ33
  subst l33 y33 z33
  obtain ⟨clq34, Arq34, ckq34, cSq34, cNq34, cHq34, cGq34⟩ := id f20
  obtain ⟨h33, e33⟩ : ∃ z, T33.heap = z := ⟨_, rfl⟩
  rw [e33] at hQ33
  obtain ⟨rfl, N33q, Kc33, f35, f36, f37, f38, f39, f40, f41⟩ := hQ33
  obtain ⟨lc33, X33, N33⟩ : ∃ lc, Stand p l e room_1 (s.setVm vm0) m #[(.int p1), (.int p2), (.int p3), (.int p4), (.int p5)] below meth c T33 lc 12 93 ∧ Fr n0 lc := ⟨_, X33', Fr.app N11 N33q⟩
  have CR42 : CHr Z ELx s.vm s.heap vm0 h33 := CR29.trans (CHr.keep Kc33 (allS (Safe.exa hZ.alike f12 (by decide) (by decide)) (allS (Safe.arr hZ.alike Arq34 (by decide)) all0)) CR29.1)
  have K43 : Gx p e below T0 f0 T33 (mkF m 142 #[.val (.int p1), .val (.int p2), .val (.int p3), .val (.int p4), .val (.int p5), .val (.int (1 : Int32)), .val (.int wq), .val (.ref sa), .val (.ref sb), .val (.ref sc), .val (.ref sd), .val (.ref b1), .unset, .unset, .unset, .unset, .unset] []) := fun t kt => K31 t (st33.trans kt)
  have K44 : Gx p e below T0 f0 T33 (mkF m 148 #[.val (.int p1), .val (.int p2), .val (.int p3), .val (.int p4), .val (.int p5), .val (.int (1 : Int32)), .val (.int wq), .val (.ref sa), .val (.ref sb), .val (.ref sc), .val (.ref sd), .val (.ref b1), .unset, .unset, .unset, .unset, .unset] [(.ref sc), (.ref sa), (.ref b1)]) := fun t kt => K43 t (by
    show Steps p.tables e below (T33.setTop (mkF m 142 #[.val (.int p1), .val (.int p2), .val (.int p3), .val (.int p4), .val (.int p5), .val (.int (1 : Int32)), .val (.int wq), .val (.ref sa), .val (.ref sb), .val (.ref sc), .val (.ref sd), .val (.ref b1), .unset, .unset, .unset, .unset, .unset] [])) _
    refine XS.aload X33.here hx rfl (hb hby at_142) rfl rfl ?_
    show Steps p.tables e below (T33.setTop (mkF m 144 #[.val (.int p1), .val (.int p2), .val (.int p3), .val (.int p4), .val (.int p5), .val (.int (1 : Int32)), .val (.int wq), .val (.ref sa), .val (.ref sb), .val (.ref sc), .val (.ref sd), .val (.ref b1), .unset, .unset, .unset, .unset, .unset] [(.ref b1)])) _
    refine XS.aload X33.here hx rfl (hb hby at_144) rfl rfl ?_
    show Steps p.tables e below (T33.setTop (mkF m 146 #[.val (.int p1), .val (.int p2), .val (.int p3), .val (.int p4), .val (.int p5), .val (.int (1 : Int32)), .val (.int wq), .val (.ref sa), .val (.ref sb), .val (.ref sc), .val (.ref sd), .val (.ref b1), .unset, .unset, .unset, .unset, .unset] [(.ref sa), (.ref b1)])) _
    refine XS.aload X33.here hx rfl (hb hby at_146) rfl rfl ?_
    exact kt)
  have f45 : Arv Z h33 pa_11 kp_11 (.object "java/lang/String") (16 : Int32) [.null, .null, .null, .null, .null, .null, .null, .null, .null, .null, .null, .null, .null, .null, .null, .null] .null := (f18.keep Kc33 (ninS (Ne.symm (Nat.ne_of_lt (Nat.lt_of_lt_of_le A1.lt f21))) (ninS f25 nin0)))
  have f46 : Arv Z h33 ua_11 ku_11 (.object "java/lang/String") (16 : Int32) [.null, .null, .null, .null, .null, .null, .null, .null, .null, .null, .null, .null, .null, .null, .null, .null] .null := (f19.keep Kc33 (ninS (Ne.symm (Nat.ne_of_lt (Nat.lt_of_lt_of_le A1.lt f22))) (ninS f26 nin0)))
  have f47 : Exa Z h33 sa "java/lang/String" := (((pr0.ext E1).keep Kc11).keep Kc33)
  have f48 : Fld Z h33 sa "java/lang/String" "coder" "B" (.int (0 : Int32)) := (((pr1.ext E1).keep Kc11 (ninS (Nat.ne_of_lt (Nat.lt_of_lt_of_le pr0.lt (Nat.le_of_eq g1.symm))) nin0)).keep Kc33 (ninS (Nat.ne_of_lt (Nat.lt_of_lt_of_le pr0.lt (Nat.le_of_eq g1.symm))) (ninS (Nat.ne_of_lt (Nat.lt_of_lt_of_le (pr0.ext E1).lt f23)) nin0)))
  have f49 : Fld Z h33 sa "java/lang/String" "value" "[B" (.ref sva) := (((pr2.ext E1).keep Kc11 (ninS (Nat.ne_of_lt (Nat.lt_of_lt_of_le pr0.lt (Nat.le_of_eq g1.symm))) nin0)).keep Kc33 (ninS (Nat.ne_of_lt (Nat.lt_of_lt_of_le pr0.lt (Nat.le_of_eq g1.symm))) (ninS (Nat.ne_of_lt (Nat.lt_of_lt_of_le (pr0.ext E1).lt f23)) nin0)))
  have f50 : Arv Z h33 sva ska .byte sza sxa (.int (0 : Int32)) := (((pr3.ext E1).keep Kc11 (ninS (Nat.ne_of_lt (Nat.lt_of_lt_of_le pr3.lt (Nat.le_of_eq g1.symm))) nin0)).keep Kc33 (ninS (Nat.ne_of_lt (Nat.lt_of_lt_of_le pr3.lt (Nat.le_of_eq g1.symm))) (ninS (Nat.ne_of_lt (Nat.lt_of_lt_of_le (pr3.ext E1).lt f23)) nin0)))
  have f51 : Exa Z h33 sc "java/lang/String" := (((pr8.ext E1).keep Kc11).keep Kc33)
  have f52 : Fld Z h33 sc "java/lang/String" "coder" "B" (.int (0 : Int32)) := (((pr9.ext E1).keep Kc11 (ninS (Nat.ne_of_lt (Nat.lt_of_lt_of_le pr8.lt (Nat.le_of_eq g1.symm))) nin0)).keep Kc33 (ninS (Nat.ne_of_lt (Nat.lt_of_lt_of_le pr8.lt (Nat.le_of_eq g1.symm))) (ninS (Nat.ne_of_lt (Nat.lt_of_lt_of_le (pr8.ext E1).lt f23)) nin0)))
  have f53 : Fld Z h33 sc "java/lang/String" "value" "[B" (.ref svc) := (((pr10.ext E1).keep Kc11 (ninS (Nat.ne_of_lt (Nat.lt_of_lt_of_le pr8.lt (Nat.le_of_eq g1.symm))) nin0)).keep Kc33 (ninS (Nat.ne_of_lt (Nat.lt_of_lt_of_le pr8.lt (Nat.le_of_eq g1.symm))) (ninS (Nat.ne_of_lt (Nat.lt_of_lt_of_le (pr8.ext E1).lt f23)) nin0)))
  have f54 : Arv Z h33 svc skc .byte szc sxc (.int (0 : Int32)) := (((pr11.ext E1).keep Kc11 (ninS (Nat.ne_of_lt (Nat.lt_of_lt_of_le pr11.lt (Nat.le_of_eq g1.symm))) nin0)).keep Kc33 (ninS (Nat.ne_of_lt (Nat.lt_of_lt_of_le pr11.lt (Nat.le_of_eq g1.symm))) (ninS (Nat.ne_of_lt (Nat.lt_of_lt_of_le (pr11.ext E1).lt f23)) nin0)))
  have f55 : Old Z n0 h33 := (((pr16.ext E1).keep Kc11 (allS (Nat.le_trans Z0 (Nat.le_trans (Keep.refl h0 []).1 (Nat.le_of_eq g1.symm))) all0)).keep Kc33 (allS (Nat.le_trans Z0 (Nat.le_trans (Keep.refl h0 []).1 (Nat.le_of_eq g1.symm))) (allS (Nat.le_trans Z0 (Nat.le_trans kp10.1 f23)) all0)))
  have kp56 : Keep h0 h33 [] := (Keep.trans kp32 Kc33 (allS (Or.inr (Nat.le_trans (Keep.refl h0 []).1 (Nat.le_of_eq g1.symm))) (allS (Or.inr (Nat.le_trans kp10.1 f23)) all0)))
  obtain ⟨cq57, kq57, q57a, q57b, q57c⟩ := isOf hZ e33 f35
  obtain ⟨_, _, ⟨T57, L57, k57, n57⟩, -, X57', hSq57, gq57, ⟨Lc57, hQ57, l57, y57, z57, CRq57⟩, st57⟩ := X33.virtualBackS hx (y := (⟨"com/example/stanzacall/stanzacall/xml/Namespaces", "declare", "(Ljava/lang/String;Ljava/lang/String;)V"⟩ : MethodName)) (z := (⟨"com/example/stanzacall/stanzacall/xml/Namespaces", "declare", "(Ljava/lang/String;Ljava/lang/String;)V"⟩ : MethodName)) hown (mvT hZ (hw _ (List.mem_of_getElem? (i := 51) rfl))) (mvT hZ (hw _ (List.mem_of_getElem? (i := 52) rfl))) (notFace_of_selects (args := #[]) (mvT hZ (hw _ (List.mem_of_getElem? (i := 54) rfl)))) (mvT hZ (hw _ (List.mem_of_getElem? (i := 54) rfl))) (mvT hZ (hw _ (List.mem_of_getElem? (i := 53) rfl))) (by decide) (backOfSH (s := s) (vm0 := vm0) (W := 0) (rmDecl0 l Z a0 hw [] b1 sa sc pa_11 ua_11 sc_11 kp_11 ku_11 ks_11 sva ska sza sxa svc skc szc sxc cw h33 n0 (Nat.le_trans Z0 kp56.1) f35 f36 f37 f38 f39 f40 f45 f46 f41 f27 f28 f47 f48 f49 f50 f51 f52 f53 f54 f55 pr17 hcw (Nat.le_trans Z0 (Nat.le_trans (Keep.refl h0 []).1 (Nat.le_of_eq g1.symm))) (Nat.le_trans Z0 (Nat.le_trans kp10.1 f21)) (Nat.le_trans Z0 (Nat.le_trans kp10.1 f22)) (Nat.ne_of_lt (Nat.lt_of_lt_of_le A1.lt f21)) (Nat.ne_of_lt (Nat.lt_of_lt_of_le A1.lt f22)) (Nat.ne_of_lt (Nat.lt_of_lt_of_le A1.lt f23)) f24 f25 f26 hza hzc hac) hZ (hw _ (List.mem_of_getElem? (i := 55) rfl)) (hw _ (List.mem_of_getElem? (i := 28) rfl)) (by decide) (by decide) (own_EW hw) CR42.1) q57a q57c (g := (mkF m 148 #[.val (.int p1), .val (.int p2), .val (.int p3), .val (.int p4), .val (.int p5), .val (.int (1 : Int32)), .val (.int wq), .val (.ref sa), .val (.ref sb), .val (.ref sc), .val (.ref sd), .val (.ref b1), .unset, .unset, .unset, .unset, .unset] [(.ref sc), (.ref sa), (.ref b1)])) rfl (by rw [hml]; rfl) (Steps.refl _) (argsL := [(.ref sa), (.ref sc)]) (rest := []) (lenOf pd__Ljava_lang_String_Ljava_lang_String__V rfl) rfl (by show 2 * 0 + _ ≤ _; exact Nat.le_of_eq rfl) (hb hby at_148) (fun _ _ => ⟨rfl, e33, (by decide : 12 + 8 ≤ _), (by decide : 93 + 308 ≤ _)⟩)
  dsimp only [Pt.U, Pt.locs, Pt.cells, Pt.slots] at X57' l57 y57 z57 st57 hQ57 CRq57 hSq57 gq57
  subst l57 y57 z57
  obtain ⟨X57', hS57, hZ, hown⟩ := rebS hS0 (show _ ≤ T33.heap.size by rw [e33]; exact (Nat.le_trans (Nat.le_trans (Nat.le_trans hk0 E1.1) Kc11.1) Kc33.1)) X57' hSq57 gq57 hZ hown
  obtain ⟨h57, e57⟩ : ∃ z, T57.heap = z := ⟨_, rfl⟩
  rw [e57] at hQ57 CRq57
  obtain ⟨rfl, N57q, Kc57, f58, f59, f60, f61, f62, f63, f64, f65⟩ := hQ57
  obtain ⟨lc57, X57, N57⟩ : ∃ lc, Stand p l e room_1 (s.setVm T57.vm) m #[(.int p1), (.int p2), (.int p3), (.int p4), (.int p5)] below meth c T57 lc 20 401 ∧ Fr n0 lc := ⟨_, X57', Fr.app N33 N57q⟩
  have CR66 : CHr Z ELx s.vm s.heap T57.vm h57 := CR42.trans CRq57
  have K67 : Gx p e below T0 f0 T57 (mkF m 151 #[.val (.int p1), .val (.int p2), .val (.int p3), .val (.int p4), .val (.int p5), .val (.int (1 : Int32)), .val (.int wq), .val (.ref sa), .val (.ref sb), .val (.ref sc), .val (.ref sd), .val (.ref b1), .unset, .unset, .unset, .unset, .unset] []) := fun t kt => K44 t (st57.trans kt)
  have K68 : Gx p e below T0 f0 T57 (mkF m 153 #[.val (.int p1), .val (.int p2), .val (.int p3), .val (.int p4), .val (.int p5), .val (.int (1 : Int32)), .val (.int wq), .val (.ref sa), .val (.ref sb), .val (.ref sc), .val (.ref sd), .val (.ref b1), .unset, .unset, .unset, .unset, .unset] [(.ref b1)]) := fun t kt => K67 t (by
    show Steps p.tables e below (T57.setTop (mkF m 151 #[.val (.int p1), .val (.int p2), .val (.int p3), .val (.int p4), .val (.int p5), .val (.int (1 : Int32)), .val (.int wq), .val (.ref sa), .val (.ref sb), .val (.ref sc), .val (.ref sd), .val (.ref b1), .unset, .unset, .unset, .unset, .unset] [])) _
    refine XS.aload X57.here hx rfl (hb hby at_151) rfl rfl ?_
    exact kt)
  have f69 : Arv Z h57 sc_11 ks_11 .int (16 : Int32) [(.int (0 : Int32)), (.int (0 : Int32)), (.int (0 : Int32)), (.int (0 : Int32)), (.int (0 : Int32)), (.int (0 : Int32)), (.int (0 : Int32)), (.int (0 : Int32)), (.int (0 : Int32)), (.int (0 : Int32)), (.int (0 : Int32)), (.int (0 : Int32)), (.int (0 : Int32)), (.int (0 : Int32)), (.int (0 : Int32)), (.int (0 : Int32))] (.int (0 : Int32)) := (f41.keep Kc57 (ninS (Ne.symm (Nat.ne_of_lt (Nat.lt_of_lt_of_le A1.lt f23))) (ninS (Ne.symm f25) (ninS (Ne.symm f26) nin0))))
  have kp70 : Keep h0 h57 [] := (Keep.trans kp56 Kc57 (allS (Or.inr (Nat.le_trans (Keep.refl h0 []).1 (Nat.le_of_eq g1.symm))) (allS (Or.inr (Nat.le_trans kp10.1 f21)) (allS (Or.inr (Nat.le_trans kp10.1 f22)) all0))))
  obtain ⟨cq71, kq71, q71a, q71b, q71c⟩ := isOf hZ e57 f58
  obtain ⟨_, _, ⟨T71, L71, k71, n71⟩, -, X71', ⟨Lc71, hQ71, l71, y71, z71⟩, st71⟩ := X57.virtualBack hx (y := (⟨"com/example/stanzacall/stanzacall/xml/Namespaces", "open", "()V"⟩ : MethodName)) (z := (⟨"com/example/stanzacall/stanzacall/xml/Namespaces", "open", "()V"⟩ : MethodName)) hown (mvT hZ (hw _ (List.mem_of_getElem? (i := 42) rfl))) (mvT hZ (hw _ (List.mem_of_getElem? (i := 43) rfl))) (notFace_of_selects (args := #[]) (mvT hZ (hw _ (List.mem_of_getElem? (i := 45) rfl)))) (mvT hZ (hw _ (List.mem_of_getElem? (i := 45) rfl))) (mvT hZ (hw _ (List.mem_of_getElem? (i := 44) rfl))) (by decide) (backOf (W := 0) (rmOpen1 l Z a0 hw [] b1 pa_11 ua_11 sc_11 ks_11 h57 n0 (Nat.le_trans Z0 kp70.1) f58 f59 f60 f61 f62 f63 f69 (Nat.le_trans Z0 (Nat.le_trans (Keep.refl h0 []).1 (Nat.le_of_eq g1.symm))) (Nat.le_trans Z0 (Nat.le_trans kp10.1 f23)) (Nat.ne_of_lt (Nat.lt_of_lt_of_le A1.lt f23))) hZ (hw _ (List.mem_of_getElem? (i := 46) rfl)) (hw _ (List.mem_of_getElem? (i := 28) rfl)) (by decide) (by decide)) q71a q71c (g := (mkF m 153 #[.val (.int p1), .val (.int p2), .val (.int p3), .val (.int p4), .val (.int p5), .val (.int (1 : Int32)), .val (.int wq), .val (.ref sa), .val (.ref sb), .val (.ref sc), .val (.ref sd), .val (.ref b1), .unset, .unset, .unset, .unset, .unset] [(.ref b1)])) rfl (by rw [hml]; rfl) (Steps.refl _) (argsL := []) (rest := []) (lenOf pd___V rfl) rfl (by show 2 * 0 + _ ≤ _; exact Nat.le_of_eq rfl) (hb hby at_153) (fun _ _ => ⟨rfl, e57, (by decide : 20 + 0 ≤ _), (by decide : 401 + 0 ≤ _)⟩)
  dsimp only [Pt.U, Pt.locs, Pt.cells, Pt.slots] at X71' l71 y71 z71 st71 hQ71
  subst l71 y71 z71
  obtain ⟨clq72, Arq72, ckq72, cSq72, cNq72, cHq72, cGq72⟩ := id f69
  obtain ⟨h71, e71⟩ : ∃ z, T71.heap = z := ⟨_, rfl⟩
  rw [e71] at hQ71
  obtain ⟨rfl, N71q, Kc71, f73, f74, f75, f76, f77, f78, f79⟩ := hQ71
  obtain ⟨lc71, X71, N71⟩ : ∃ lc, Stand p l e room_1 (s.setVm T57.vm) m #[(.int p1), (.int p2), (.int p3), (.int p4), (.int p5)] below meth c T71 lc 20 401 ∧ Fr n0 lc := ⟨_, X71', Fr.app N57 N71q⟩
  have CR80 : CHr Z ELx s.vm s.heap T57.vm h71 := CR66.trans (CHr.keep Kc71 (allS (Safe.exa hZ.alike f58 (by decide) (by decide)) (allS (Safe.arr hZ.alike Arq72 (by decide)) all0)) CR66.1)
  have K81 : Gx p e below T0 f0 T71 (mkF m 156 #[.val (.int p1), .val (.int p2), .val (.int p3), .val (.int p4), .val (.int p5), .val (.int (1 : Int32)), .val (.int wq), .val (.ref sa), .val (.ref sb), .val (.ref sc), .val (.ref sd), .val (.ref b1), .unset, .unset, .unset, .unset, .unset] []) := fun t kt => K68 t (st71.trans kt)
  have K82 : Gx p e below T0 f0 T71 (mkF m 162 #[.val (.int p1), .val (.int p2), .val (.int p3), .val (.int p4), .val (.int p5), .val (.int (1 : Int32)), .val (.int wq), .val (.ref sa), .val (.ref sb), .val (.ref sc), .val (.ref sd), .val (.ref b1), .unset, .unset, .unset, .unset, .unset] [(.ref sd), (.ref sb), (.ref b1)]) := fun t kt => K81 t (by
    show Steps p.tables e below (T71.setTop (mkF m 156 #[.val (.int p1), .val (.int p2), .val (.int p3), .val (.int p4), .val (.int p5), .val (.int (1 : Int32)), .val (.int wq), .val (.ref sa), .val (.ref sb), .val (.ref sc), .val (.ref sd), .val (.ref b1), .unset, .unset, .unset, .unset, .unset] [])) _
    refine XS.aload X71.here hx rfl (hb hby at_156) rfl rfl ?_
    show Steps p.tables e below (T71.setTop (mkF m 158 #[.val (.int p1), .val (.int p2), .val (.int p3), .val (.int p4), .val (.int p5), .val (.int (1 : Int32)), .val (.int wq), .val (.ref sa), .val (.ref sb), .val (.ref sc), .val (.ref sd), .val (.ref b1), .unset, .unset, .unset, .unset, .unset] [(.ref b1)])) _
    refine XS.aload X71.here hx rfl (hb hby at_158) rfl rfl ?_
    show Steps p.tables e below (T71.setTop (mkF m 160 #[.val (.int p1), .val (.int p2), .val (.int p3), .val (.int p4), .val (.int p5), .val (.int (1 : Int32)), .val (.int wq), .val (.ref sa), .val (.ref sb), .val (.ref sc), .val (.ref sd), .val (.ref b1), .unset, .unset, .unset, .unset, .unset] [(.ref sb), (.ref b1)])) _
    refine XS.aload X71.here hx rfl (hb hby at_160) rfl rfl ?_
    exact kt)
  have f83 : Arv Z h71 pa_11 kp_11 (.object "java/lang/String") (16 : Int32) [(.ref sa), .null, .null, .null, .null, .null, .null, .null, .null, .null, .null, .null, .null, .null, .null, .null] .null := (f64.keep Kc71 (ninS (Ne.symm (Nat.ne_of_lt (Nat.lt_of_lt_of_le A1.lt f21))) (ninS f25 nin0)))
  have f84 : Arv Z h71 ua_11 ku_11 (.object "java/lang/String") (16 : Int32) [(.ref sc), .null, .null, .null, .null, .null, .null, .null, .null, .null, .null, .null, .null, .null, .null, .null] .null := (f65.keep Kc71 (ninS (Ne.symm (Nat.ne_of_lt (Nat.lt_of_lt_of_le A1.lt f22))) (ninS f26 nin0)))
  have f85 : Exa Z h71 sb "java/lang/String" := (((((pr4.ext E1).keep Kc11).keep Kc33).keep Kc57).keep Kc71)
  have f86 : Fld Z h71 sb "java/lang/String" "coder" "B" (.int (0 : Int32)) := (((((pr5.ext E1).keep Kc11 (ninS (Nat.ne_of_lt (Nat.lt_of_lt_of_le pr4.lt (Nat.le_of_eq g1.symm))) nin0)).keep Kc33 (ninS (Nat.ne_of_lt (Nat.lt_of_lt_of_le pr4.lt (Nat.le_of_eq g1.symm))) (ninS (Nat.ne_of_lt (Nat.lt_of_lt_of_le (pr4.ext E1).lt f23)) nin0))).keep Kc57 (ninS (Nat.ne_of_lt (Nat.lt_of_lt_of_le pr4.lt (Nat.le_of_eq g1.symm))) (ninS (Nat.ne_of_lt (Nat.lt_of_lt_of_le (pr4.ext E1).lt f21)) (ninS (Nat.ne_of_lt (Nat.lt_of_lt_of_le (pr4.ext E1).lt f22)) nin0)))).keep Kc71 (ninS (Nat.ne_of_lt (Nat.lt_of_lt_of_le pr4.lt (Nat.le_of_eq g1.symm))) (ninS (Nat.ne_of_lt (Nat.lt_of_lt_of_le (pr4.ext E1).lt f23)) nin0)))
  have f87 : Fld Z h71 sb "java/lang/String" "value" "[B" (.ref svb) := (((((pr6.ext E1).keep Kc11 (ninS (Nat.ne_of_lt (Nat.lt_of_lt_of_le pr4.lt (Nat.le_of_eq g1.symm))) nin0)).keep Kc33 (ninS (Nat.ne_of_lt (Nat.lt_of_lt_of_le pr4.lt (Nat.le_of_eq g1.symm))) (ninS (Nat.ne_of_lt (Nat.lt_of_lt_of_le (pr4.ext E1).lt f23)) nin0))).keep Kc57 (ninS (Nat.ne_of_lt (Nat.lt_of_lt_of_le pr4.lt (Nat.le_of_eq g1.symm))) (ninS (Nat.ne_of_lt (Nat.lt_of_lt_of_le (pr4.ext E1).lt f21)) (ninS (Nat.ne_of_lt (Nat.lt_of_lt_of_le (pr4.ext E1).lt f22)) nin0)))).keep Kc71 (ninS (Nat.ne_of_lt (Nat.lt_of_lt_of_le pr4.lt (Nat.le_of_eq g1.symm))) (ninS (Nat.ne_of_lt (Nat.lt_of_lt_of_le (pr4.ext E1).lt f23)) nin0)))
  have f88 : Arv Z h71 svb skb .byte szb sxb (.int (0 : Int32)) := (((((pr7.ext E1).keep Kc11 (ninS (Nat.ne_of_lt (Nat.lt_of_lt_of_le pr7.lt (Nat.le_of_eq g1.symm))) nin0)).keep Kc33 (ninS (Nat.ne_of_lt (Nat.lt_of_lt_of_le pr7.lt (Nat.le_of_eq g1.symm))) (ninS (Nat.ne_of_lt (Nat.lt_of_lt_of_le (pr7.ext E1).lt f23)) nin0))).keep Kc57 (ninS (Nat.ne_of_lt (Nat.lt_of_lt_of_le pr7.lt (Nat.le_of_eq g1.symm))) (ninS (Nat.ne_of_lt (Nat.lt_of_lt_of_le (pr7.ext E1).lt f21)) (ninS (Nat.ne_of_lt (Nat.lt_of_lt_of_le (pr7.ext E1).lt f22)) nin0)))).keep Kc71 (ninS (Nat.ne_of_lt (Nat.lt_of_lt_of_le pr7.lt (Nat.le_of_eq g1.symm))) (ninS (Nat.ne_of_lt (Nat.lt_of_lt_of_le (pr7.ext E1).lt f23)) nin0)))
  have f89 : Exa Z h71 sd "java/lang/String" := (((((pr12.ext E1).keep Kc11).keep Kc33).keep Kc57).keep Kc71)
  have f90 : Fld Z h71 sd "java/lang/String" "coder" "B" (.int (0 : Int32)) := (((((pr13.ext E1).keep Kc11 (ninS (Nat.ne_of_lt (Nat.lt_of_lt_of_le pr12.lt (Nat.le_of_eq g1.symm))) nin0)).keep Kc33 (ninS (Nat.ne_of_lt (Nat.lt_of_lt_of_le pr12.lt (Nat.le_of_eq g1.symm))) (ninS (Nat.ne_of_lt (Nat.lt_of_lt_of_le (pr12.ext E1).lt f23)) nin0))).keep Kc57 (ninS (Nat.ne_of_lt (Nat.lt_of_lt_of_le pr12.lt (Nat.le_of_eq g1.symm))) (ninS (Nat.ne_of_lt (Nat.lt_of_lt_of_le (pr12.ext E1).lt f21)) (ninS (Nat.ne_of_lt (Nat.lt_of_lt_of_le (pr12.ext E1).lt f22)) nin0)))).keep Kc71 (ninS (Nat.ne_of_lt (Nat.lt_of_lt_of_le pr12.lt (Nat.le_of_eq g1.symm))) (ninS (Nat.ne_of_lt (Nat.lt_of_lt_of_le (pr12.ext E1).lt f23)) nin0)))
  have f91 : Fld Z h71 sd "java/lang/String" "value" "[B" (.ref svd) := (((((pr14.ext E1).keep Kc11 (ninS (Nat.ne_of_lt (Nat.lt_of_lt_of_le pr12.lt (Nat.le_of_eq g1.symm))) nin0)).keep Kc33 (ninS (Nat.ne_of_lt (Nat.lt_of_lt_of_le pr12.lt (Nat.le_of_eq g1.symm))) (ninS (Nat.ne_of_lt (Nat.lt_of_lt_of_le (pr12.ext E1).lt f23)) nin0))).keep Kc57 (ninS (Nat.ne_of_lt (Nat.lt_of_lt_of_le pr12.lt (Nat.le_of_eq g1.symm))) (ninS (Nat.ne_of_lt (Nat.lt_of_lt_of_le (pr12.ext E1).lt f21)) (ninS (Nat.ne_of_lt (Nat.lt_of_lt_of_le (pr12.ext E1).lt f22)) nin0)))).keep Kc71 (ninS (Nat.ne_of_lt (Nat.lt_of_lt_of_le pr12.lt (Nat.le_of_eq g1.symm))) (ninS (Nat.ne_of_lt (Nat.lt_of_lt_of_le (pr12.ext E1).lt f23)) nin0)))
  have f92 : Arv Z h71 svd skd .byte szd sxd (.int (0 : Int32)) := (((((pr15.ext E1).keep Kc11 (ninS (Nat.ne_of_lt (Nat.lt_of_lt_of_le pr15.lt (Nat.le_of_eq g1.symm))) nin0)).keep Kc33 (ninS (Nat.ne_of_lt (Nat.lt_of_lt_of_le pr15.lt (Nat.le_of_eq g1.symm))) (ninS (Nat.ne_of_lt (Nat.lt_of_lt_of_le (pr15.ext E1).lt f23)) nin0))).keep Kc57 (ninS (Nat.ne_of_lt (Nat.lt_of_lt_of_le pr15.lt (Nat.le_of_eq g1.symm))) (ninS (Nat.ne_of_lt (Nat.lt_of_lt_of_le (pr15.ext E1).lt f21)) (ninS (Nat.ne_of_lt (Nat.lt_of_lt_of_le (pr15.ext E1).lt f22)) nin0)))).keep Kc71 (ninS (Nat.ne_of_lt (Nat.lt_of_lt_of_le pr15.lt (Nat.le_of_eq g1.symm))) (ninS (Nat.ne_of_lt (Nat.lt_of_lt_of_le (pr15.ext E1).lt f23)) nin0)))
  have f93 : Old Z n0 h71 := ((f55.keep Kc57 (allS (Nat.le_trans Z0 (Nat.le_trans (Keep.refl h0 []).1 (Nat.le_of_eq g1.symm))) (allS (Nat.le_trans Z0 (Nat.le_trans kp10.1 f21)) (allS (Nat.le_trans Z0 (Nat.le_trans kp10.1 f22)) all0)))).keep Kc71 (allS (Nat.le_trans Z0 (Nat.le_trans (Keep.refl h0 []).1 (Nat.le_of_eq g1.symm))) (allS (Nat.le_trans Z0 (Nat.le_trans kp10.1 f23)) all0)))
  have kp94 : Keep h0 h71 [] := (Keep.trans kp70 Kc71 (allS (Or.inr (Nat.le_trans (Keep.refl h0 []).1 (Nat.le_of_eq g1.symm))) (allS (Or.inr (Nat.le_trans kp10.1 f23)) all0)))
  obtain ⟨cq95, kq95, q95a, q95b, q95c⟩ := isOf hZ e71 f73
  obtain ⟨_, _, ⟨T95, L95, k95, n95⟩, -, X95', hSq95, gq95, ⟨Lc95, hQ95, l95, y95, z95, CRq95⟩, st95⟩ := X71.virtualBackS hx (y := (⟨"com/example/stanzacall/stanzacall/xml/Namespaces", "declare", "(Ljava/lang/String;Ljava/lang/String;)V"⟩ : MethodName)) (z := (⟨"com/example/stanzacall/stanzacall/xml/Namespaces", "declare", "(Ljava/lang/String;Ljava/lang/String;)V"⟩ : MethodName)) hown (mvT hZ (hw _ (List.mem_of_getElem? (i := 51) rfl))) (mvT hZ (hw _ (List.mem_of_getElem? (i := 52) rfl))) (notFace_of_selects (args := #[]) (mvT hZ (hw _ (List.mem_of_getElem? (i := 54) rfl)))) (mvT hZ (hw _ (List.mem_of_getElem? (i := 54) rfl))) (mvT hZ (hw _ (List.mem_of_getElem? (i := 53) rfl))) (by decide) (backOfSH (s := s) (vm0 := T57.vm) (W := 0) (rmDecl1 l Z a0 hw [] b1 sb sd pa_11 ua_11 sc_11 kp_11 ku_11 ks_11 sa sc svb skb szb sxb svd skd szd sxd cw h71 n0 (Nat.le_trans Z0 kp94.1) f73 f74 f75 f76 f77 f78 f83 f84 f79 f27 f28 f85 f86 f87 f88 f89 f90 f91 f92 f93 pr17 hcw (Nat.le_trans Z0 (Nat.le_trans (Keep.refl h0 []).1 (Nat.le_of_eq g1.symm))) (Nat.le_trans Z0 (Nat.le_trans kp10.1 f21)) (Nat.le_trans Z0 (Nat.le_trans kp10.1 f22)) (Nat.ne_of_lt (Nat.lt_of_lt_of_le A1.lt f21)) (Nat.ne_of_lt (Nat.lt_of_lt_of_le A1.lt f22)) (Nat.ne_of_lt (Nat.lt_of_lt_of_le A1.lt f23)) f24 f25 f26 hzb hzd hbd) hZ (hw _ (List.mem_of_getElem? (i := 55) rfl)) (hw _ (List.mem_of_getElem? (i := 28) rfl)) (by decide) (by decide) (own_EW hw) CR80.1) q95a q95c (g := (mkF m 162 #[.val (.int p1), .val (.int p2), .val (.int p3), .val (.int p4), .val (.int p5), .val (.int (1 : Int32)), .val (.int wq), .val (.ref sa), .val (.ref sb), .val (.ref sc), .val (.ref sd), .val (.ref b1), .unset, .unset, .unset, .unset, .unset] [(.ref sd), (.ref sb), (.ref b1)])) rfl (by rw [hml]; rfl) (Steps.refl _) (argsL := [(.ref sb), (.ref sd)]) (rest := []) (lenOf pd__Ljava_lang_String_Ljava_lang_String__V rfl) rfl (by show 2 * 0 + _ ≤ _; exact Nat.le_of_eq rfl) (hb hby at_162) (fun _ _ => ⟨rfl, e71, (by decide : 20 + 8 ≤ _), (by decide : 401 + 308 ≤ _)⟩)
  dsimp only [Pt.U, Pt.locs, Pt.cells, Pt.slots] at X95' l95 y95 z95 st95 hQ95 CRq95 hSq95 gq95
  subst l95 y95 z95
  obtain ⟨X95', hS95, hZ, hown⟩ := rebS hS57 (show _ ≤ T71.heap.size by rw [e71]; exact (Nat.le_trans (Nat.le_of_eq (congrArg Array.size e57)) Kc71.1)) X95' hSq95 gq95 hZ hown
  obtain ⟨h95, e95⟩ : ∃ z, T95.heap = z := ⟨_, rfl⟩
  rw [e95] at hQ95 CRq95
  obtain ⟨rfl, N95q, Kc95, f96, f97, f98, f99, f100, f101, f102, f103⟩ := hQ95
  obtain ⟨lc95, X95, N95⟩ : ∃ lc, Stand p l e room_1 (s.setVm T95.vm) m #[(.int p1), (.int p2), (.int p3), (.int p4), (.int p5)] below meth c T95 lc 28 709 ∧ Fr n0 lc := ⟨_, X95', Fr.app N71 N95q⟩
  have CR104 : CHr Z ELx s.vm s.heap T95.vm h95 := CR80.trans CRq95
  have K105 : Gx p e below T0 f0 T95 (mkF m 165 #[.val (.int p1), .val (.int p2), .val (.int p3), .val (.int p4), .val (.int p5), .val (.int (1 : Int32)), .val (.int wq), .val (.ref sa), .val (.ref sb), .val (.ref sc), .val (.ref sd), .val (.ref b1), .unset, .unset, .unset, .unset, .unset] []) := fun t kt => K82 t (st95.trans kt)
  have K106 : Gx p e below T0 f0 T95 (mkF m 169 #[.val (.int p1), .val (.int p2), .val (.int p3), .val (.int p4), .val (.int p5), .val (.int (1 : Int32)), .val (.int wq), .val (.ref sa), .val (.ref sb), .val (.ref sc), .val (.ref sd), .val (.ref b1), .unset, .unset, .unset, .unset, .unset] [(.ref sb), (.ref b1)]) := fun t kt => K105 t (by
    show Steps p.tables e below (T95.setTop (mkF m 165 #[.val (.int p1), .val (.int p2), .val (.int p3), .val (.int p4), .val (.int p5), .val (.int (1 : Int32)), .val (.int wq), .val (.ref sa), .val (.ref sb), .val (.ref sc), .val (.ref sd), .val (.ref b1), .unset, .unset, .unset, .unset, .unset] [])) _
    refine XS.aload X95.here hx rfl (hb hby at_165) rfl rfl ?_
    show Steps p.tables e below (T95.setTop (mkF m 167 #[.val (.int p1), .val (.int p2), .val (.int p3), .val (.int p4), .val (.int p5), .val (.int (1 : Int32)), .val (.int wq), .val (.ref sa), .val (.ref sb), .val (.ref sc), .val (.ref sd), .val (.ref b1), .unset, .unset, .unset, .unset, .unset] [(.ref b1)])) _
    refine XS.aload X95.here hx rfl (hb hby at_167) rfl rfl ?_
    exact kt)
  have f107 : Exa Z h95 sb "java/lang/String" := (f85.keep Kc95)
  have kp108 : Keep h0 h95 [] := (Keep.trans kp94 Kc95 (allS (Or.inr (Nat.le_trans (Keep.refl h0 []).1 (Nat.le_of_eq g1.symm))) (allS (Or.inr (Nat.le_trans kp10.1 f21)) (allS (Or.inr (Nat.le_trans kp10.1 f22)) all0))))
  obtain ⟨cq109, kq109, q109a, q109b, q109c⟩ := isOf hZ e95 f96
  obtain ⟨_, _, ⟨T109, L109, k109, n109⟩, -, X109', ⟨Lc109, hQ109, l109, y109, z109⟩, st109⟩ := X95.virtualBack hx (y := (⟨"com/example/stanzacall/stanzacall/xml/Namespaces", "uri", "(Ljava/lang/String;)Ljava/lang/String;"⟩ : MethodName)) (z := (⟨"com/example/stanzacall/stanzacall/xml/Namespaces", "uri", "(Ljava/lang/String;)Ljava/lang/String;"⟩ : MethodName)) hown (mvT hZ (hw _ (List.mem_of_getElem? (i := 75) rfl))) (mvT hZ (hw _ (List.mem_of_getElem? (i := 76) rfl))) (notFace_of_selects (args := #[]) (mvT hZ (hw _ (List.mem_of_getElem? (i := 78) rfl)))) (mvT hZ (hw _ (List.mem_of_getElem? (i := 78) rfl))) (mvT hZ (hw _ (List.mem_of_getElem? (i := 77) rfl))) (by decide) (backOf (W := 0) (rmUri2 l Z a0 hw [] b1 sb pa_11 ua_11 kp_11 ku_11 sa sc sd h95 n0 (Nat.le_trans Z0 kp108.1) f96 f97 f98 f101 f102 f103 f107) hZ (hw _ (List.mem_of_getElem? (i := 79) rfl)) (hw _ (List.mem_of_getElem? (i := 28) rfl)) (by decide) (by decide)) q109a q109c (g := (mkF m 169 #[.val (.int p1), .val (.int p2), .val (.int p3), .val (.int p4), .val (.int p5), .val (.int (1 : Int32)), .val (.int wq), .val (.ref sa), .val (.ref sb), .val (.ref sc), .val (.ref sd), .val (.ref b1), .unset, .unset, .unset, .unset, .unset] [(.ref sb), (.ref b1)])) rfl (by rw [hml]; rfl) (Steps.refl _) (argsL := [(.ref sb)]) (rest := []) (lenOf pd__Ljava_lang_String__Ljava_lang_String_ rfl) rfl (by show 2 * 0 + _ ≤ _; exact Nat.le_of_eq rfl) (hb hby at_169) (fun _ _ => ⟨rfl, e95, (by decide : 28 + 0 ≤ _), (by decide : 709 + 0 ≤ _)⟩)
  dsimp only [Pt.U, Pt.locs, Pt.cells, Pt.slots] at X109' l109 y109 z109 st109 hQ109
  subst l109 y109 z109
  obtain ⟨rfl, N109q, e109⟩ := hQ109
  obtain ⟨lc109, X109, N109⟩ : ∃ lc, Stand p l e room_1 (s.setVm T95.vm) m #[(.int p1), (.int p2), (.int p3), (.int p4), (.int p5)] below meth c T109 lc 28 709 ∧ Fr n0 lc := ⟨_, X109', Fr.app N95 N109q⟩
  have K110 : Gx p e below T0 f0 T109 (mkF m 172 #[.val (.int p1), .val (.int p2), .val (.int p3), .val (.int p4), .val (.int p5), .val (.int (1 : Int32)), .val (.int wq), .val (.ref sa), .val (.ref sb), .val (.ref sc), .val (.ref sd), .val (.ref b1), .unset, .unset, .unset, .unset, .unset] [(.ref sd)]) := fun t kt => K106 t (st109.trans kt)
  have K111 : Gx p e below T0 f0 T109 (mkF m 176 #[.val (.int p1), .val (.int p2), .val (.int p3), .val (.int p4), .val (.int p5), .val (.int (1 : Int32)), .val (.int wq), .val (.ref sa), .val (.ref sb), .val (.ref sc), .val (.ref sd), .val (.ref b1), .val (.ref sd), .unset, .unset, .unset, .unset] [(.ref b1)]) := fun t kt => K110 t (by
    show Steps p.tables e below (T109.setTop (mkF m 172 #[.val (.int p1), .val (.int p2), .val (.int p3), .val (.int p4), .val (.int p5), .val (.int (1 : Int32)), .val (.int wq), .val (.ref sa), .val (.ref sb), .val (.ref sc), .val (.ref sd), .val (.ref b1), .unset, .unset, .unset, .unset, .unset] [(.ref sd)])) _
    refine XS.astore X109.here hx rfl (hb hby at_172) rfl rfl (l' := #[.val (.int p1), .val (.int p2), .val (.int p3), .val (.int p4), .val (.int p5), .val (.int (1 : Int32)), .val (.int wq), .val (.ref sa), .val (.ref sb), .val (.ref sc), .val (.ref sd), .val (.ref b1), .val (.ref sd), .unset, .unset, .unset, .unset]) rfl ?_
    show Steps p.tables e below (T109.setTop (mkF m 174 #[.val (.int p1), .val (.int p2), .val (.int p3), .val (.int p4), .val (.int p5), .val (.int (1 : Int32)), .val (.int wq), .val (.ref sa), .val (.ref sb), .val (.ref sc), .val (.ref sd), .val (.ref b1), .val (.ref sd), .unset, .unset, .unset, .unset] [])) _
    refine XS.aload X109.here hx rfl (hb hby at_174) rfl rfl ?_
    exact kt)
  have f112 : Arv Z h95 sc_11 ks_11 .int (16 : Int32) [(.int (0 : Int32)), (.int (1 : Int32)), (.int (0 : Int32)), (.int (0 : Int32)), (.int (0 : Int32)), (.int (0 : Int32)), (.int (0 : Int32)), (.int (0 : Int32)), (.int (0 : Int32)), (.int (0 : Int32)), (.int (0 : Int32)), (.int (0 : Int32)), (.int (0 : Int32)), (.int (0 : Int32)), (.int (0 : Int32)), (.int (0 : Int32))] (.int (0 : Int32)) := (f79.keep Kc95 (ninS (Ne.symm (Nat.ne_of_lt (Nat.lt_of_lt_of_le A1.lt f23))) (ninS (Ne.symm f25) (ninS (Ne.symm f26) nin0))))
  obtain ⟨cq113, kq113, q113a, q113b, q113c⟩ := isOf hZ e109 f96
  obtain ⟨_, _, ⟨T113, L113, k113, n113⟩, -, X113', ⟨Lc113, hQ113, l113, y113, z113⟩, st113⟩ := X109.virtualBack hx (y := (⟨"com/example/stanzacall/stanzacall/xml/Namespaces", "close", "()V"⟩ : MethodName)) (z := (⟨"com/example/stanzacall/stanzacall/xml/Namespaces", "close", "()V"⟩ : MethodName)) hown (mvT hZ (hw _ (List.mem_of_getElem? (i := 80) rfl))) (mvT hZ (hw _ (List.mem_of_getElem? (i := 81) rfl))) (notFace_of_selects (args := #[]) (mvT hZ (hw _ (List.mem_of_getElem? (i := 83) rfl)))) (mvT hZ (hw _ (List.mem_of_getElem? (i := 83) rfl))) (mvT hZ (hw _ (List.mem_of_getElem? (i := 82) rfl))) (by decide) (backOf (W := 0) (rmClose2 l Z a0 hw [] b1 pa_11 ua_11 sc_11 ks_11 h95 n0 (Nat.le_trans Z0 kp108.1) f96 f97 f98 f99 f100 f101 f112 (Nat.le_trans Z0 (Nat.le_trans (Keep.refl h0 []).1 (Nat.le_of_eq g1.symm))) (Nat.ne_of_lt (Nat.lt_of_lt_of_le A1.lt f23))) hZ (hw _ (List.mem_of_getElem? (i := 84) rfl)) (hw _ (List.mem_of_getElem? (i := 28) rfl)) (by decide) (by decide)) q113a q113c (g := (mkF m 176 #[.val (.int p1), .val (.int p2), .val (.int p3), .val (.int p4), .val (.int p5), .val (.int (1 : Int32)), .val (.int wq), .val (.ref sa), .val (.ref sb), .val (.ref sc), .val (.ref sd), .val (.ref b1), .val (.ref sd), .unset, .unset, .unset, .unset] [(.ref b1)])) rfl (by rw [hml]; rfl) (Steps.refl _) (argsL := []) (rest := []) (lenOf pd___V rfl) rfl (by show 2 * 0 + _ ≤ _; exact Nat.le_of_eq rfl) (hb hby at_176) (fun _ _ => ⟨rfl, e109, (by decide : 28 + 0 ≤ _), (by decide : 709 + 0 ≤ _)⟩)
  dsimp only [Pt.U, Pt.locs, Pt.cells, Pt.slots] at X113' l113 y113 z113 st113 hQ113
  subst l113 y113 z113
  obtain ⟨h113, e113⟩ : ∃ z, T113.heap = z := ⟨_, rfl⟩
  rw [e113] at hQ113
  obtain ⟨rfl, N113q, Kc113, f114, f115, f116, f117, f118, f119⟩ := hQ113
  obtain ⟨lc113, X113, N113⟩ : ∃ lc, Stand p l e room_1 (s.setVm T95.vm) m #[(.int p1), (.int p2), (.int p3), (.int p4), (.int p5)] below meth c T113 lc 28 709 ∧ Fr n0 lc := ⟨_, X113', Fr.app N109 N113q⟩
  have CR120 : CHr Z ELx s.vm s.heap T95.vm h113 := CR104.trans (CHr.keep Kc113 (allS (Safe.exa hZ.alike f96 (by decide) (by decide)) all0) CR104.1)
  have K121 : Gx p e below T0 f0 T113 (mkF m 179 #[.val (.int p1), .val (.int p2), .val (.int p3), .val (.int p4), .val (.int p5), .val (.int (1 : Int32)), .val (.int wq), .val (.ref sa), .val (.ref sb), .val (.ref sc), .val (.ref sd), .val (.ref b1), .val (.ref sd), .unset, .unset, .unset, .unset] []) := fun t kt => K111 t (st113.trans kt)
  have K122 : Gx p e below T0 f0 T113 (mkF m 183 #[.val (.int p1), .val (.int p2), .val (.int p3), .val (.int p4), .val (.int p5), .val (.int (1 : Int32)), .val (.int wq), .val (.ref sa), .val (.ref sb), .val (.ref sc), .val (.ref sd), .val (.ref b1), .val (.ref sd), .unset, .unset, .unset, .unset] [(.ref sa), (.ref b1)]) := fun t kt => K121 t (by
    show Steps p.tables e below (T113.setTop (mkF m 179 #[.val (.int p1), .val (.int p2), .val (.int p3), .val (.int p4), .val (.int p5), .val (.int (1 : Int32)), .val (.int wq), .val (.ref sa), .val (.ref sb), .val (.ref sc), .val (.ref sd), .val (.ref b1), .val (.ref sd), .unset, .unset, .unset, .unset] [])) _
    refine XS.aload X113.here hx rfl (hb hby at_179) rfl rfl ?_
    show Steps p.tables e below (T113.setTop (mkF m 181 #[.val (.int p1), .val (.int p2), .val (.int p3), .val (.int p4), .val (.int p5), .val (.int (1 : Int32)), .val (.int wq), .val (.ref sa), .val (.ref sb), .val (.ref sc), .val (.ref sd), .val (.ref b1), .val (.ref sd), .unset, .unset, .unset, .unset] [(.ref b1)])) _
    refine XS.aload X113.here hx rfl (hb hby at_181) rfl rfl ?_
    exact kt)
  have f123 : Arv Z h113 pa_11 kp_11 (.object "java/lang/String") (16 : Int32) [(.ref sa), (.ref sb), .null, .null, .null, .null, .null, .null, .null, .null, .null, .null, .null, .null, .null, .null] .null := (f102.keep Kc113 (ninS (Ne.symm (Nat.ne_of_lt (Nat.lt_of_lt_of_le A1.lt f21))) nin0))
  have f124 : Arv Z h113 ua_11 ku_11 (.object "java/lang/String") (16 : Int32) [(.ref sc), (.ref sd), .null, .null, .null, .null, .null, .null, .null, .null, .null, .null, .null, .null, .null, .null] .null := (f103.keep Kc113 (ninS (Ne.symm (Nat.ne_of_lt (Nat.lt_of_lt_of_le A1.lt f22))) nin0))
  have f125 : Exa Z h113 sa "java/lang/String" := ((((f47.keep Kc57).keep Kc71).keep Kc95).keep Kc113)
  have kp126 : Keep h0 h113 [] := (Keep.trans kp108 Kc113 (allS (Or.inr (Nat.le_trans (Keep.refl h0 []).1 (Nat.le_of_eq g1.symm))) all0))
  obtain ⟨cq127, kq127, q127a, q127b, q127c⟩ := isOf hZ e113 f114
  obtain ⟨_, _, ⟨T127, L127, k127, n127⟩, -, X127', ⟨Lc127, hQ127, l127, y127, z127⟩, st127⟩ := X113.virtualBack hx (y := (⟨"com/example/stanzacall/stanzacall/xml/Namespaces", "uri", "(Ljava/lang/String;)Ljava/lang/String;"⟩ : MethodName)) (z := (⟨"com/example/stanzacall/stanzacall/xml/Namespaces", "uri", "(Ljava/lang/String;)Ljava/lang/String;"⟩ : MethodName)) hown (mvT hZ (hw _ (List.mem_of_getElem? (i := 75) rfl))) (mvT hZ (hw _ (List.mem_of_getElem? (i := 76) rfl))) (notFace_of_selects (args := #[]) (mvT hZ (hw _ (List.mem_of_getElem? (i := 78) rfl)))) (mvT hZ (hw _ (List.mem_of_getElem? (i := 78) rfl))) (mvT hZ (hw _ (List.mem_of_getElem? (i := 77) rfl))) (by decide) (backOf (W := 0) (rmUri1 l Z a0 hw [] b1 sa pa_11 ua_11 kp_11 ku_11 sc sb sd h113 n0 (Nat.le_trans Z0 kp126.1) f114 f115 f116 f119 f123 f124 f125) hZ (hw _ (List.mem_of_getElem? (i := 79) rfl)) (hw _ (List.mem_of_getElem? (i := 28) rfl)) (by decide) (by decide)) q127a q127c (g := (mkF m 183 #[.val (.int p1), .val (.int p2), .val (.int p3), .val (.int p4), .val (.int p5), .val (.int (1 : Int32)), .val (.int wq), .val (.ref sa), .val (.ref sb), .val (.ref sc), .val (.ref sd), .val (.ref b1), .val (.ref sd), .unset, .unset, .unset, .unset] [(.ref sa), (.ref b1)])) rfl (by rw [hml]; rfl) (Steps.refl _) (argsL := [(.ref sa)]) (rest := []) (lenOf pd__Ljava_lang_String__Ljava_lang_String_ rfl) rfl (by show 2 * 0 + _ ≤ _; exact Nat.le_of_eq rfl) (hb hby at_183) (fun _ _ => ⟨rfl, e113, (by decide : 28 + 0 ≤ _), (by decide : 709 + 0 ≤ _)⟩)
  dsimp only [Pt.U, Pt.locs, Pt.cells, Pt.slots] at X127' l127 y127 z127 st127 hQ127
  subst l127 y127 z127
  obtain ⟨rfl, N127q, e127⟩ := hQ127
  obtain ⟨lc127, X127, N127⟩ : ∃ lc, Stand p l e room_1 (s.setVm T95.vm) m #[(.int p1), (.int p2), (.int p3), (.int p4), (.int p5)] below meth c T127 lc 28 709 ∧ Fr n0 lc := ⟨_, X127', Fr.app N113 N127q⟩
  have K128 : Gx p e below T0 f0 T127 (mkF m 186 #[.val (.int p1), .val (.int p2), .val (.int p3), .val (.int p4), .val (.int p5), .val (.int (1 : Int32)), .val (.int wq), .val (.ref sa), .val (.ref sb), .val (.ref sc), .val (.ref sd), .val (.ref b1), .val (.ref sd), .unset, .unset, .unset, .unset] [(.ref sc)]) := fun t kt => K122 t (st127.trans kt)
  have K129 : Gx p e below T0 f0 T127 (mkF m 190 #[.val (.int p1), .val (.int p2), .val (.int p3), .val (.int p4), .val (.int p5), .val (.int (1 : Int32)), .val (.int wq), .val (.ref sa), .val (.ref sb), .val (.ref sc), .val (.ref sd), .val (.ref b1), .val (.ref sd), .val (.ref sc), .unset, .unset, .unset] [(.ref b1)]) := fun t kt => K128 t (by
    show Steps p.tables e below (T127.setTop (mkF m 186 #[.val (.int p1), .val (.int p2), .val (.int p3), .val (.int p4), .val (.int p5), .val (.int (1 : Int32)), .val (.int wq), .val (.ref sa), .val (.ref sb), .val (.ref sc), .val (.ref sd), .val (.ref b1), .val (.ref sd), .unset, .unset, .unset, .unset] [(.ref sc)])) _
    refine XS.astore X127.here hx rfl (hb hby at_186) rfl rfl (l' := #[.val (.int p1), .val (.int p2), .val (.int p3), .val (.int p4), .val (.int p5), .val (.int (1 : Int32)), .val (.int wq), .val (.ref sa), .val (.ref sb), .val (.ref sc), .val (.ref sd), .val (.ref b1), .val (.ref sd), .val (.ref sc), .unset, .unset, .unset]) rfl ?_
    show Steps p.tables e below (T127.setTop (mkF m 188 #[.val (.int p1), .val (.int p2), .val (.int p3), .val (.int p4), .val (.int p5), .val (.int (1 : Int32)), .val (.int wq), .val (.ref sa), .val (.ref sb), .val (.ref sc), .val (.ref sd), .val (.ref b1), .val (.ref sd), .val (.ref sc), .unset, .unset, .unset] [])) _
    refine XS.aload X127.here hx rfl (hb hby at_188) rfl rfl ?_
    exact kt)
  obtain ⟨sa130, T130, h130, kk130, sb130, kc130, X130, e130, E130, hS130, hk130, hZ, hown, A130, Fc130, Fv130, V130, -, -, CRq130, -, Sf130, st130⟩ := ldcCH (s := s) (vm0 := T95.vm) X127 hx hZ hown (hw _ (List.mem_of_getElem? (i := 85) rfl)) (own_wS hw) e127 hS95 (Nat.le_trans (Nat.le_of_eq (congrArg Array.size e95)) Kc113.1) (own_EW hw) (List.mem_of_getElem? (i := 5) rfl) CR120.1 (vs := []) (z := (0 : Int32)) ⟨by decide +kernel, by rfl⟩ (by decide) rfl (g := (mkF m 190 #[.val (.int p1), .val (.int p2), .val (.int p3), .val (.int p4), .val (.int p5), .val (.int (1 : Int32)), .val (.int wq), .val (.ref sa), .val (.ref sb), .val (.ref sc), .val (.ref sd), .val (.ref b1), .val (.ref sd), .val (.ref sc), .unset, .unset, .unset] [(.ref b1)])) rfl (hb hby at_190) (n := 0) (by decide +kernel) (by decide) (by decide) (by decide)
  have CR131 : CHr Z ELx s.vm s.heap T130.vm h130 := CR120.trans CRq130
  have f132 : Exa Z h130 b1 "com/example/stanzacall/stanzacall/xml/Namespaces" := (f114.ext E130)
  have nn133 := Sf130 b1 (Safe.exa hZ.alike f132 (by decide) (by decide))
  have f134 : Arv Z h130 pa_11 kp_11 (.object "java/lang/String") (16 : Int32) [(.ref sa), (.ref sb), .null, .null, .null, .null, .null, .null, .null, .null, .null, .null, .null, .null, .null, .null] .null := (f123.ext E130)
  obtain ⟨clq135, Arq135, ckq135, cSq135, cNq135, cHq135, cGq135⟩ := id f134
  have nn136 := Sf130 pa_11 (Safe.arr hZ.alike Arq135 (by decide))
  have f137 : Exa Z h130 sa "java/lang/String" := (f125.ext E130)
  have f138 : Exa Z h130 sb "java/lang/String" := ((f107.keep Kc113).ext E130)
  have f139 : Exa Z h130 sc "java/lang/String" := (((((f51.keep Kc57).keep Kc71).keep Kc95).keep Kc113).ext E130)
  have f140 : Arv Z h130 sc_11 ks_11 .int (16 : Int32) [(.int (0 : Int32)), (.int (1 : Int32)), (.int (0 : Int32)), (.int (0 : Int32)), (.int (0 : Int32)), (.int (0 : Int32)), (.int (0 : Int32)), (.int (0 : Int32)), (.int (0 : Int32)), (.int (0 : Int32)), (.int (0 : Int32)), (.int (0 : Int32)), (.int (0 : Int32)), (.int (0 : Int32)), (.int (0 : Int32)), (.int (0 : Int32))] (.int (0 : Int32)) := ((f112.keep Kc113 (ninS (Ne.symm (Nat.ne_of_lt (Nat.lt_of_lt_of_le A1.lt f23))) nin0)).ext E130)
  obtain ⟨clq141, Arq141, ckq141, cSq141, cNq141, cHq141, cGq141⟩ := id f140
  have nn142 := Sf130 sc_11 (Safe.arr hZ.alike Arq141 (by decide))
  have f143 : Exa Z h130 sd "java/lang/String" := (((f89.keep Kc95).keep Kc113).ext E130)
  have f144 : Arv Z h130 sva ska .byte sza sxa (.int (0 : Int32)) := (((((f50.keep Kc57 (ninS (Nat.ne_of_lt (Nat.lt_of_lt_of_le pr3.lt (Nat.le_of_eq g1.symm))) (ninS (Nat.ne_of_lt (Nat.lt_of_lt_of_le (pr3.ext E1).lt f21)) (ninS (Nat.ne_of_lt (Nat.lt_of_lt_of_le (pr3.ext E1).lt f22)) nin0)))).keep Kc71 (ninS (Nat.ne_of_lt (Nat.lt_of_lt_of_le pr3.lt (Nat.le_of_eq g1.symm))) (ninS (Nat.ne_of_lt (Nat.lt_of_lt_of_le (pr3.ext E1).lt f23)) nin0))).keep Kc95 (ninS (Nat.ne_of_lt (Nat.lt_of_lt_of_le pr3.lt (Nat.le_of_eq g1.symm))) (ninS (Nat.ne_of_lt (Nat.lt_of_lt_of_le (pr3.ext E1).lt f21)) (ninS (Nat.ne_of_lt (Nat.lt_of_lt_of_le (pr3.ext E1).lt f22)) nin0)))).keep Kc113 (ninS (Nat.ne_of_lt (Nat.lt_of_lt_of_le pr3.lt (Nat.le_of_eq g1.symm))) nin0)).ext E130)
  obtain ⟨clq145, Arq145, ckq145, cSq145, cNq145, cHq145, cGq145⟩ := id f144
  have f146 : Arv Z h130 svb skb .byte szb sxb (.int (0 : Int32)) := (((f88.keep Kc95 (ninS (Nat.ne_of_lt (Nat.lt_of_lt_of_le pr7.lt (Nat.le_of_eq g1.symm))) (ninS (Nat.ne_of_lt (Nat.lt_of_lt_of_le (pr7.ext E1).lt f21)) (ninS (Nat.ne_of_lt (Nat.lt_of_lt_of_le (pr7.ext E1).lt f22)) nin0)))).keep Kc113 (ninS (Nat.ne_of_lt (Nat.lt_of_lt_of_le pr7.lt (Nat.le_of_eq g1.symm))) nin0)).ext E130)
  obtain ⟨clq147, Arq147, ckq147, cSq147, cNq147, cHq147, cGq147⟩ := id f146
  have f148 : Arv Z h130 svc skc .byte szc sxc (.int (0 : Int32)) := (((((f54.keep Kc57 (ninS (Nat.ne_of_lt (Nat.lt_of_lt_of_le pr11.lt (Nat.le_of_eq g1.symm))) (ninS (Nat.ne_of_lt (Nat.lt_of_lt_of_le (pr11.ext E1).lt f21)) (ninS (Nat.ne_of_lt (Nat.lt_of_lt_of_le (pr11.ext E1).lt f22)) nin0)))).keep Kc71 (ninS (Nat.ne_of_lt (Nat.lt_of_lt_of_le pr11.lt (Nat.le_of_eq g1.symm))) (ninS (Nat.ne_of_lt (Nat.lt_of_lt_of_le (pr11.ext E1).lt f23)) nin0))).keep Kc95 (ninS (Nat.ne_of_lt (Nat.lt_of_lt_of_le pr11.lt (Nat.le_of_eq g1.symm))) (ninS (Nat.ne_of_lt (Nat.lt_of_lt_of_le (pr11.ext E1).lt f21)) (ninS (Nat.ne_of_lt (Nat.lt_of_lt_of_le (pr11.ext E1).lt f22)) nin0)))).keep Kc113 (ninS (Nat.ne_of_lt (Nat.lt_of_lt_of_le pr11.lt (Nat.le_of_eq g1.symm))) nin0)).ext E130)
  obtain ⟨clq149, Arq149, ckq149, cSq149, cNq149, cHq149, cGq149⟩ := id f148
  have f150 : Arv Z h130 svd skd .byte szd sxd (.int (0 : Int32)) := (((f92.keep Kc95 (ninS (Nat.ne_of_lt (Nat.lt_of_lt_of_le pr15.lt (Nat.le_of_eq g1.symm))) (ninS (Nat.ne_of_lt (Nat.lt_of_lt_of_le (pr15.ext E1).lt f21)) (ninS (Nat.ne_of_lt (Nat.lt_of_lt_of_le (pr15.ext E1).lt f22)) nin0)))).keep Kc113 (ninS (Nat.ne_of_lt (Nat.lt_of_lt_of_le pr15.lt (Nat.le_of_eq g1.symm))) nin0)).ext E130)
  obtain ⟨clq151, Arq151, ckq151, cSq151, cNq151, cHq151, cGq151⟩ := id f150
  have f152 : Arv Z h130 ua_11 ku_11 (.object "java/lang/String") (16 : Int32) [(.ref sc), (.ref sd), .null, .null, .null, .null, .null, .null, .null, .null, .null, .null, .null, .null, .null, .null] .null := (f124.ext E130)
  obtain ⟨clq153, Arq153, ckq153, cSq153, cNq153, cHq153, cGq153⟩ := id f152
  have nn154 := Sf130 ua_11 (Safe.arr hZ.alike Arq153 (by decide))
  have K155 : Gx p e below T0 f0 T130 (mkF m 192 #[.val (.int p1), .val (.int p2), .val (.int p3), .val (.int p4), .val (.int p5), .val (.int (1 : Int32)), .val (.int wq), .val (.ref sa), .val (.ref sb), .val (.ref sc), .val (.ref sd), .val (.ref b1), .val (.ref sd), .val (.ref sc), .unset, .unset, .unset] [(.ref sa130), (.ref b1)]) := fun t kt => K129 t (st130 t kt)
  have f156 : Fld Z h130 b1 "com/example/stanzacall/stanzacall/xml/Namespaces" "prefixes" "[Ljava/lang/String;" (.ref pa_11) := (f115.ext E130)
  have f157 : Fld Z h130 b1 "com/example/stanzacall/stanzacall/xml/Namespaces" "uris" "[Ljava/lang/String;" (.ref ua_11) := (f116.ext E130)
  have f158 : Fld Z h130 b1 "com/example/stanzacall/stanzacall/xml/Namespaces" "count" "I" (.int (1 : Int32)) := (f119.ext E130)
  have f159 : Fld Z h130 sa "java/lang/String" "coder" "B" (.int (0 : Int32)) := (((((f48.keep Kc57 (ninS (Nat.ne_of_lt (Nat.lt_of_lt_of_le pr0.lt (Nat.le_of_eq g1.symm))) (ninS (Nat.ne_of_lt (Nat.lt_of_lt_of_le (pr0.ext E1).lt f21)) (ninS (Nat.ne_of_lt (Nat.lt_of_lt_of_le (pr0.ext E1).lt f22)) nin0)))).keep Kc71 (ninS (Nat.ne_of_lt (Nat.lt_of_lt_of_le pr0.lt (Nat.le_of_eq g1.symm))) (ninS (Nat.ne_of_lt (Nat.lt_of_lt_of_le (pr0.ext E1).lt f23)) nin0))).keep Kc95 (ninS (Nat.ne_of_lt (Nat.lt_of_lt_of_le pr0.lt (Nat.le_of_eq g1.symm))) (ninS (Nat.ne_of_lt (Nat.lt_of_lt_of_le (pr0.ext E1).lt f21)) (ninS (Nat.ne_of_lt (Nat.lt_of_lt_of_le (pr0.ext E1).lt f22)) nin0)))).keep Kc113 (ninS (Nat.ne_of_lt (Nat.lt_of_lt_of_le pr0.lt (Nat.le_of_eq g1.symm))) nin0)).ext E130)
  have f160 : Fld Z h130 sa "java/lang/String" "value" "[B" (.ref sva) := (((((f49.keep Kc57 (ninS (Nat.ne_of_lt (Nat.lt_of_lt_of_le pr0.lt (Nat.le_of_eq g1.symm))) (ninS (Nat.ne_of_lt (Nat.lt_of_lt_of_le (pr0.ext E1).lt f21)) (ninS (Nat.ne_of_lt (Nat.lt_of_lt_of_le (pr0.ext E1).lt f22)) nin0)))).keep Kc71 (ninS (Nat.ne_of_lt (Nat.lt_of_lt_of_le pr0.lt (Nat.le_of_eq g1.symm))) (ninS (Nat.ne_of_lt (Nat.lt_of_lt_of_le (pr0.ext E1).lt f23)) nin0))).keep Kc95 (ninS (Nat.ne_of_lt (Nat.lt_of_lt_of_le pr0.lt (Nat.le_of_eq g1.symm))) (ninS (Nat.ne_of_lt (Nat.lt_of_lt_of_le (pr0.ext E1).lt f21)) (ninS (Nat.ne_of_lt (Nat.lt_of_lt_of_le (pr0.ext E1).lt f22)) nin0)))).keep Kc113 (ninS (Nat.ne_of_lt (Nat.lt_of_lt_of_le pr0.lt (Nat.le_of_eq g1.symm))) nin0)).ext E130)
  have f161 : Old Z n0 h130 := (((f93.keep Kc95 (allS (Nat.le_trans Z0 (Nat.le_trans (Keep.refl h0 []).1 (Nat.le_of_eq g1.symm))) (allS (Nat.le_trans Z0 (Nat.le_trans kp10.1 f21)) (allS (Nat.le_trans Z0 (Nat.le_trans kp10.1 f22)) all0)))).keep Kc113 (allS (Nat.le_trans Z0 (Nat.le_trans (Keep.refl h0 []).1 (Nat.le_of_eq g1.symm))) all0)).ext E130)
  have kp162 : Keep h0 h130 [] := (kp126.ext E130)
  obtain ⟨cq163, kq163, q163a, q163b, q163c⟩ := isOf hZ e130 f132
  obtain ⟨_, _, ⟨T163, L163, k163, n163⟩, -, X163', ⟨Lc163, hQ163, l163, y163, z163⟩, st163⟩ := X130.virtualBack hx (y := (⟨"com/example/stanzacall/stanzacall/xml/Namespaces", "uri", "(Ljava/lang/String;)Ljava/lang/String;"⟩ : MethodName)) (z := (⟨"com/example/stanzacall/stanzacall/xml/Namespaces", "uri", "(Ljava/lang/String;)Ljava/lang/String;"⟩ : MethodName)) hown (mvT hZ (hw _ (List.mem_of_getElem? (i := 75) rfl))) (mvT hZ (hw _ (List.mem_of_getElem? (i := 76) rfl))) (notFace_of_selects (args := #[]) (mvT hZ (hw _ (List.mem_of_getElem? (i := 78) rfl)))) (mvT hZ (hw _ (List.mem_of_getElem? (i := 78) rfl))) (mvT hZ (hw _ (List.mem_of_getElem? (i := 77) rfl))) (by decide) (backOf (W := 0) (rmUr1a l Z a0 hw [] b1 sa130 pa_11 ua_11 kp_11 ku_11 sa sc sb sd sva ska sza sxa sb130 kc130 (0 : Int32) [] cw h130 n0 (Nat.le_trans Z0 kp162.1) f132 f156 f157 f158 f134 f152 f137 f159 f160 f144 A130 Fc130 Fv130 V130 f161 pr17 hcw hpe rfl) hZ (hw _ (List.mem_of_getElem? (i := 79) rfl)) (hw _ (List.mem_of_getElem? (i := 28) rfl)) (by decide) (by decide)) q163a q163c (g := (mkF m 192 #[.val (.int p1), .val (.int p2), .val (.int p3), .val (.int p4), .val (.int p5), .val (.int (1 : Int32)), .val (.int wq), .val (.ref sa), .val (.ref sb), .val (.ref sc), .val (.ref sd), .val (.ref b1), .val (.ref sd), .val (.ref sc), .unset, .unset, .unset] [(.ref sa130), (.ref b1)])) rfl (by rw [hml]; rfl) (Steps.refl _) (argsL := [(.ref sa130)]) (rest := []) (lenOf pd__Ljava_lang_String__Ljava_lang_String_ rfl) rfl (by show 2 * 0 + _ ≤ _; exact Nat.le_of_eq rfl) (hb hby at_192) (fun _ _ => ⟨rfl, e130, (by decide : 30 + 0 ≤ _), (by decide : 713 + 0 ≤ _)⟩)
  dsimp only [Pt.U, Pt.locs, Pt.cells, Pt.slots] at X163' l163 y163 z163 st163 hQ163
  subst l163 y163 z163
  obtain ⟨rfl, N163q, e163⟩ := hQ163
  obtain ⟨lc163, X163, N163⟩ : ∃ lc, Stand p l e room_1 (s.setVm T130.vm) m #[(.int p1), (.int p2), (.int p3), (.int p4), (.int p5)] below meth c T163 lc 30 713 ∧ Fr n0 lc := ⟨_, X163', Fr.app N127 N163q⟩
  have K164 : Gx p e below T0 f0 T163 (mkF m 195 #[.val (.int p1), .val (.int p2), .val (.int p3), .val (.int p4), .val (.int p5), .val (.int (1 : Int32)), .val (.int wq), .val (.ref sa), .val (.ref sb), .val (.ref sc), .val (.ref sd), .val (.ref b1), .val (.ref sd), .val (.ref sc), .unset, .unset, .unset] [(.ref sc)]) := fun t kt => K155 t (st163.trans kt)
  have K165 : Gx p e below T0 f0 T163 (mkF m 199 #[.val (.int p1), .val (.int p2), .val (.int p3), .val (.int p4), .val (.int p5), .val (.int (1 : Int32)), .val (.int wq), .val (.ref sa), .val (.ref sb), .val (.ref sc), .val (.ref sd), .val (.ref b1), .val (.ref sd), .val (.ref sc), .val (.ref sc), .unset, .unset] [(.ref b1)]) := fun t kt => K164 t (by
    show Steps p.tables e below (T163.setTop (mkF m 195 #[.val (.int p1), .val (.int p2), .val (.int p3), .val (.int p4), .val (.int p5), .val (.int (1 : Int32)), .val (.int wq), .val (.ref sa), .val (.ref sb), .val (.ref sc), .val (.ref sd), .val (.ref b1), .val (.ref sd), .val (.ref sc), .unset, .unset, .unset] [(.ref sc)])) _
    refine XS.astore X163.here hx rfl (hb hby at_195) rfl rfl (l' := #[.val (.int p1), .val (.int p2), .val (.int p3), .val (.int p4), .val (.int p5), .val (.int (1 : Int32)), .val (.int wq), .val (.ref sa), .val (.ref sb), .val (.ref sc), .val (.ref sd), .val (.ref b1), .val (.ref sd), .val (.ref sc), .val (.ref sc), .unset, .unset]) rfl ?_
    show Steps p.tables e below (T163.setTop (mkF m 197 #[.val (.int p1), .val (.int p2), .val (.int p3), .val (.int p4), .val (.int p5), .val (.int (1 : Int32)), .val (.int wq), .val (.ref sa), .val (.ref sb), .val (.ref sc), .val (.ref sd), .val (.ref b1), .val (.ref sd), .val (.ref sc), .val (.ref sc), .unset, .unset] [])) _
    refine XS.aload X163.here hx rfl (hb hby at_197) rfl rfl ?_
    exact kt)
  have f166 : Fld Z h130 b1 "com/example/stanzacall/stanzacall/xml/Namespaces" "scopes" "[I" (.ref sc_11) := (f117.ext E130)
  have f167 : Fld Z h130 b1 "com/example/stanzacall/stanzacall/xml/Namespaces" "depth" "I" (.int (1 : Int32)) := (f118.ext E130)
  obtain ⟨cq168, kq168, q168a, q168b, q168c⟩ := isOf hZ e163 f132
  obtain ⟨_, _, ⟨T168, L168, k168, n168⟩, -, X168', ⟨Lc168, hQ168, l168, y168, z168⟩, st168⟩ := X163.virtualBack hx (y := (⟨"com/example/stanzacall/stanzacall/xml/Namespaces", "close", "()V"⟩ : MethodName)) (z := (⟨"com/example/stanzacall/stanzacall/xml/Namespaces", "close", "()V"⟩ : MethodName)) hown (mvT hZ (hw _ (List.mem_of_getElem? (i := 80) rfl))) (mvT hZ (hw _ (List.mem_of_getElem? (i := 81) rfl))) (notFace_of_selects (args := #[]) (mvT hZ (hw _ (List.mem_of_getElem? (i := 83) rfl)))) (mvT hZ (hw _ (List.mem_of_getElem? (i := 83) rfl))) (mvT hZ (hw _ (List.mem_of_getElem? (i := 82) rfl))) (by decide) (backOf (W := 0) (rmClose1 l Z a0 hw [] b1 pa_11 ua_11 sc_11 ks_11 h130 n0 (Nat.le_trans Z0 kp162.1) f132 f156 f157 f166 f167 f158 f140 (Nat.le_trans Z0 (Nat.le_trans (Keep.refl h0 []).1 (Nat.le_of_eq g1.symm))) (Nat.ne_of_lt (Nat.lt_of_lt_of_le A1.lt f23))) hZ (hw _ (List.mem_of_getElem? (i := 84) rfl)) (hw _ (List.mem_of_getElem? (i := 28) rfl)) (by decide) (by decide)) q168a q168c (g := (mkF m 199 #[.val (.int p1), .val (.int p2), .val (.int p3), .val (.int p4), .val (.int p5), .val (.int (1 : Int32)), .val (.int wq), .val (.ref sa), .val (.ref sb), .val (.ref sc), .val (.ref sd), .val (.ref b1), .val (.ref sd), .val (.ref sc), .val (.ref sc), .unset, .unset] [(.ref b1)])) rfl (by rw [hml]; rfl) (Steps.refl _) (argsL := []) (rest := []) (lenOf pd___V rfl) rfl (by show 2 * 0 + _ ≤ _; exact Nat.le_of_eq rfl) (hb hby at_199) (fun _ _ => ⟨rfl, e163, (by decide : 30 + 0 ≤ _), (by decide : 713 + 0 ≤ _)⟩)
  dsimp only [Pt.U, Pt.locs, Pt.cells, Pt.slots] at X168' l168 y168 z168 st168 hQ168
  subst l168 y168 z168
  obtain ⟨h168, e168⟩ : ∃ z, T168.heap = z := ⟨_, rfl⟩
  rw [e168] at hQ168
  obtain ⟨rfl, N168q, Kc168, f169, f170, f171, f172, f173, f174⟩ := hQ168
  obtain ⟨lc168, X168, N168⟩ : ∃ lc, Stand p l e room_1 (s.setVm T130.vm) m #[(.int p1), (.int p2), (.int p3), (.int p4), (.int p5)] below meth c T168 lc 30 713 ∧ Fr n0 lc := ⟨_, X168', Fr.app N163 N168q⟩
  have CR175 : CHr Z ELx s.vm s.heap T130.vm h168 := CR131.trans (CHr.keep Kc168 (allS (Safe.exa hZ.alike f132 (by decide) (by decide)) all0) CR131.1)
  have K176 : Gx p e below T0 f0 T168 (mkF m 202 #[.val (.int p1), .val (.int p2), .val (.int p3), .val (.int p4), .val (.int p5), .val (.int (1 : Int32)), .val (.int wq), .val (.ref sa), .val (.ref sb), .val (.ref sc), .val (.ref sd), .val (.ref b1), .val (.ref sd), .val (.ref sc), .val (.ref sc), .unset, .unset] []) := fun t kt => K165 t (st168.trans kt)
  have K177 : Gx p e below T0 f0 T168 (mkF m 204 #[.val (.int p1), .val (.int p2), .val (.int p3), .val (.int p4), .val (.int p5), .val (.int (1 : Int32)), .val (.int wq), .val (.ref sa), .val (.ref sb), .val (.ref sc), .val (.ref sd), .val (.ref b1), .val (.ref sd), .val (.ref sc), .val (.ref sc), .unset, .unset] [(.ref b1)]) := fun t kt => K176 t (by
    show Steps p.tables e below (T168.setTop (mkF m 202 #[.val (.int p1), .val (.int p2), .val (.int p3), .val (.int p4), .val (.int p5), .val (.int (1 : Int32)), .val (.int wq), .val (.ref sa), .val (.ref sb), .val (.ref sc), .val (.ref sd), .val (.ref b1), .val (.ref sd), .val (.ref sc), .val (.ref sc), .unset, .unset] [])) _
    refine XS.aload X168.here hx rfl (hb hby at_202) rfl rfl ?_
    exact kt)
  obtain ⟨sa178, T178, h178, kk178, sb178, kc178, X178, e178, E178, hS178, hk178, hZ, hown, A178, Fc178, Fv178, V178, -, -, CRq178, -, Sf178, st178⟩ := ldcCH (s := s) (vm0 := T130.vm) X168 hx hZ hown (hw _ (List.mem_of_getElem? (i := 85) rfl)) (own_wS hw) e168 hS130 (Nat.le_trans hk130 Kc168.1) (own_EW hw) (List.mem_of_getElem? (i := 5) rfl) CR175.1 (vs := []) (z := (0 : Int32)) ⟨by decide +kernel, by rfl⟩ (by decide) rfl (g := (mkF m 204 #[.val (.int p1), .val (.int p2), .val (.int p3), .val (.int p4), .val (.int p5), .val (.int (1 : Int32)), .val (.int wq), .val (.ref sa), .val (.ref sb), .val (.ref sc), .val (.ref sd), .val (.ref b1), .val (.ref sd), .val (.ref sc), .val (.ref sc), .unset, .unset] [(.ref b1)])) rfl (hb hby at_204) (n := 0) (by decide +kernel) (by decide) (by decide) (by decide)
  have CR179 : CHr Z ELx s.vm s.heap T178.vm h178 := CR175.trans CRq178
  have f180 : Exa Z h178 b1 "com/example/stanzacall/stanzacall/xml/Namespaces" := (f169.ext E178)
  have nn181 := Sf178 b1 (Safe.exa hZ.alike f180 (by decide) (by decide))
  have f182 : Arv Z h178 pa_11 kp_11 (.object "java/lang/String") (16 : Int32) [(.ref sa), (.ref sb), .null, .null, .null, .null, .null, .null, .null, .null, .null, .null, .null, .null, .null, .null] .null := ((f134.keep Kc168 (ninS (Ne.symm (Nat.ne_of_lt (Nat.lt_of_lt_of_le A1.lt f21))) nin0)).ext E178)
  obtain ⟨clq183, Arq183, ckq183, cSq183, cNq183, cHq183, cGq183⟩ := id f182
  have nn184 := Sf178 pa_11 (Safe.arr hZ.alike Arq183 (by decide))
  have f185 : Exa Z h178 sa "java/lang/String" := ((f137.keep Kc168).ext E178)
  have f186 : Exa Z h178 sa130 "java/lang/String" := ((A130.keep Kc168).ext E178)
  have f187 : Exa Z h178 sb "java/lang/String" := ((f138.keep Kc168).ext E178)
  have f188 : Arv Z h178 sb130 kc130 .byte (0 : Int32) [] (.int (0 : Int32)) := ((V130.keep Kc168 (ninS (Ne.symm nn133.2) nin0)).ext E178)
  obtain ⟨clq189, Arq189, ckq189, cSq189, cNq189, cHq189, cGq189⟩ := id f188
  have f190 : Exa Z h178 sc "java/lang/String" := ((f139.keep Kc168).ext E178)
  have f191 : Arv Z h178 sc_11 ks_11 .int (16 : Int32) [(.int (0 : Int32)), (.int (1 : Int32)), (.int (0 : Int32)), (.int (0 : Int32)), (.int (0 : Int32)), (.int (0 : Int32)), (.int (0 : Int32)), (.int (0 : Int32)), (.int (0 : Int32)), (.int (0 : Int32)), (.int (0 : Int32)), (.int (0 : Int32)), (.int (0 : Int32)), (.int (0 : Int32)), (.int (0 : Int32)), (.int (0 : Int32))] (.int (0 : Int32)) := ((f140.keep Kc168 (ninS (Ne.symm (Nat.ne_of_lt (Nat.lt_of_lt_of_le A1.lt f23))) nin0)).ext E178)
  obtain ⟨clq192, Arq192, ckq192, cSq192, cNq192, cHq192, cGq192⟩ := id f191
  have nn193 := Sf178 sc_11 (Safe.arr hZ.alike Arq192 (by decide))
  have f194 : Exa Z h178 sd "java/lang/String" := ((f143.keep Kc168).ext E178)
  have f195 : Arv Z h178 sva ska .byte sza sxa (.int (0 : Int32)) := ((f144.keep Kc168 (ninS (Nat.ne_of_lt (Nat.lt_of_lt_of_le pr3.lt (Nat.le_of_eq g1.symm))) nin0)).ext E178)
  obtain ⟨clq196, Arq196, ckq196, cSq196, cNq196, cHq196, cGq196⟩ := id f195
  have f197 : Arv Z h178 svb skb .byte szb sxb (.int (0 : Int32)) := ((f146.keep Kc168 (ninS (Nat.ne_of_lt (Nat.lt_of_lt_of_le pr7.lt (Nat.le_of_eq g1.symm))) nin0)).ext E178)
  obtain ⟨clq198, Arq198, ckq198, cSq198, cNq198, cHq198, cGq198⟩ := id f197
  have f199 : Arv Z h178 svc skc .byte szc sxc (.int (0 : Int32)) := ((f148.keep Kc168 (ninS (Nat.ne_of_lt (Nat.lt_of_lt_of_le pr11.lt (Nat.le_of_eq g1.symm))) nin0)).ext E178)
  obtain ⟨clq200, Arq200, ckq200, cSq200, cNq200, cHq200, cGq200⟩ := id f199
  have f201 : Arv Z h178 svd skd .byte szd sxd (.int (0 : Int32)) := ((f150.keep Kc168 (ninS (Nat.ne_of_lt (Nat.lt_of_lt_of_le pr15.lt (Nat.le_of_eq g1.symm))) nin0)).ext E178)
  obtain ⟨clq202, Arq202, ckq202, cSq202, cNq202, cHq202, cGq202⟩ := id f201
  have f203 : Arv Z h178 ua_11 ku_11 (.object "java/lang/String") (16 : Int32) [(.ref sc), (.ref sd), .null, .null, .null, .null, .null, .null, .null, .null, .null, .null, .null, .null, .null, .null] .null := ((f152.keep Kc168 (ninS (Ne.symm (Nat.ne_of_lt (Nat.lt_of_lt_of_le A1.lt f22))) nin0)).ext E178)
  obtain ⟨clq204, Arq204, ckq204, cSq204, cNq204, cHq204, cGq204⟩ := id f203
  have nn205 := Sf178 ua_11 (Safe.arr hZ.alike Arq204 (by decide))
  have K206 : Gx p e below T0 f0 T178 (mkF m 206 #[.val (.int p1), .val (.int p2), .val (.int p3), .val (.int p4), .val (.int p5), .val (.int (1 : Int32)), .val (.int wq), .val (.ref sa), .val (.ref sb), .val (.ref sc), .val (.ref sd), .val (.ref b1), .val (.ref sd), .val (.ref sc), .val (.ref sc), .unset, .unset] [(.ref sa178), (.ref b1)]) := fun t kt => K177 t (st178 t kt)
  have f207 : Fld Z h178 b1 "com/example/stanzacall/stanzacall/xml/Namespaces" "count" "I" (.int (0 : Int32)) := (f174.ext E178)
  have kp208 : Keep h0 h178 [] := ((Keep.trans kp162 Kc168 (allS (Or.inr (Nat.le_trans (Keep.refl h0 []).1 (Nat.le_of_eq g1.symm))) all0)).ext E178)
  obtain ⟨cq209, kq209, q209a, q209b, q209c⟩ := isOf hZ e178 f180
  obtain ⟨_, _, ⟨T209, L209, k209, n209⟩, -, X209', hSq209, gq209, ⟨Lc209, hQ209, l209, y209, z209, CRq209⟩, st209⟩ := X178.virtualBackS hx (y := (⟨"com/example/stanzacall/stanzacall/xml/Namespaces", "uri", "(Ljava/lang/String;)Ljava/lang/String;"⟩ : MethodName)) (z := (⟨"com/example/stanzacall/stanzacall/xml/Namespaces", "uri", "(Ljava/lang/String;)Ljava/lang/String;"⟩ : MethodName)) hown (mvT hZ (hw _ (List.mem_of_getElem? (i := 75) rfl))) (mvT hZ (hw _ (List.mem_of_getElem? (i := 76) rfl))) (notFace_of_selects (args := #[]) (mvT hZ (hw _ (List.mem_of_getElem? (i := 78) rfl)))) (mvT hZ (hw _ (List.mem_of_getElem? (i := 78) rfl))) (mvT hZ (hw _ (List.mem_of_getElem? (i := 77) rfl))) (by decide) (backOfSH (s := s) (vm0 := T178.vm) (W := 0) (rmUri0 l Z a0 hw [] b1 sa178 sb178 kc178 (0 : Int32) [] h178 n0 (Nat.le_trans Z0 kp208.1) f180 f207 A178 Fc178 Fv178 V178 rfl) hZ (hw _ (List.mem_of_getElem? (i := 79) rfl)) (hw _ (List.mem_of_getElem? (i := 28) rfl)) (by decide) (by decide) (own_EW hw) CR179.1) q209a q209c (g := (mkF m 206 #[.val (.int p1), .val (.int p2), .val (.int p3), .val (.int p4), .val (.int p5), .val (.int (1 : Int32)), .val (.int wq), .val (.ref sa), .val (.ref sb), .val (.ref sc), .val (.ref sd), .val (.ref b1), .val (.ref sd), .val (.ref sc), .val (.ref sc), .unset, .unset] [(.ref sa178), (.ref b1)])) rfl (by rw [hml]; rfl) (Steps.refl _) (argsL := [(.ref sa178)]) (rest := []) (lenOf pd__Ljava_lang_String__Ljava_lang_String_ rfl) rfl (by show 2 * 0 + _ ≤ _; exact Nat.le_of_eq rfl) (hb hby at_206) (fun _ _ => ⟨rfl, e178, (by decide : 32 + 2 ≤ _), (by decide : 717 + 4 ≤ _)⟩)
  dsimp only [Pt.U, Pt.locs, Pt.cells, Pt.slots] at X209' l209 y209 z209 st209 hQ209 CRq209 hSq209 gq209
  subst l209 y209 z209
  obtain ⟨X209', hS209, hZ, hown⟩ := rebS hS178 (show _ ≤ T178.heap.size by rw [e178]; exact hk178) X209' hSq209 gq209 hZ hown
  obtain ⟨h209, e209⟩ : ∃ z, T209.heap = z := ⟨_, rfl⟩
  rw [e209] at hQ209 CRq209
  obtain ⟨rr_209, rv_209, rk_209, rfl, N209q, Kc209, f210, f211, f212, f213⟩ := hQ209
  obtain ⟨lc209, X209, N209⟩ : ∃ lc, Stand p l e room_1 (s.setVm T209.vm) m #[(.int p1), (.int p2), (.int p3), (.int p4), (.int p5)] below meth c T209 lc 34 721 ∧ Fr n0 lc := ⟨_, X209', Fr.app N168 N209q⟩
  have CR214 : CHr Z ELx s.vm s.heap T209.vm h209 := CR179.trans CRq209
  have K215 : Gx p e below T0 f0 T209 (mkF m 209 #[.val (.int p1), .val (.int p2), .val (.int p3), .val (.int p4), .val (.int p5), .val (.int (1 : Int32)), .val (.int wq), .val (.ref sa), .val (.ref sb), .val (.ref sc), .val (.ref sd), .val (.ref b1), .val (.ref sd), .val (.ref sc), .val (.ref sc), .unset, .unset] [(.ref rr_209)]) := fun t kt => K206 t (st209.trans kt)
  have K216 : Gx p e below T0 f0 T209 (mkF m 229 #[.val (.int p1), .val (.int p2), .val (.int p3), .val (.int p4), .val (.int p5), .val (.int (1 : Int32)), .val (.int wq), .val (.ref sa), .val (.ref sb), .val (.ref sc), .val (.ref sd), .val (.ref b1), .val (.ref sd), .val (.ref sc), .val (.ref sc), .val (.ref rr_209), .val (.ref sc)] [(.ref sd), (.ref sd)]) := fun t kt => K215 t (by
    show Steps p.tables e below (T209.setTop (mkF m 209 #[.val (.int p1), .val (.int p2), .val (.int p3), .val (.int p4), .val (.int p5), .val (.int (1 : Int32)), .val (.int wq), .val (.ref sa), .val (.ref sb), .val (.ref sc), .val (.ref sd), .val (.ref b1), .val (.ref sd), .val (.ref sc), .val (.ref sc), .unset, .unset] [(.ref rr_209)])) _
    refine XS.astore X209.here hx rfl (hb hby at_209) rfl rfl (l' := #[.val (.int p1), .val (.int p2), .val (.int p3), .val (.int p4), .val (.int p5), .val (.int (1 : Int32)), .val (.int wq), .val (.ref sa), .val (.ref sb), .val (.ref sc), .val (.ref sd), .val (.ref b1), .val (.ref sd), .val (.ref sc), .val (.ref sc), .val (.ref rr_209), .unset]) rfl ?_
    show Steps p.tables e below (T209.setTop (mkF m 211 #[.val (.int p1), .val (.int p2), .val (.int p3), .val (.int p4), .val (.int p5), .val (.int (1 : Int32)), .val (.int wq), .val (.ref sa), .val (.ref sb), .val (.ref sc), .val (.ref sd), .val (.ref b1), .val (.ref sd), .val (.ref sc), .val (.ref sc), .val (.ref rr_209), .unset] [])) _
    refine XS.iload X209.here hx rfl (hb hby at_211) rfl ?_
    show Steps p.tables e below (T209.setTop (mkF m 213 #[.val (.int p1), .val (.int p2), .val (.int p3), .val (.int p4), .val (.int p5), .val (.int (1 : Int32)), .val (.int wq), .val (.ref sa), .val (.ref sb), .val (.ref sc), .val (.ref sd), .val (.ref b1), .val (.ref sd), .val (.ref sc), .val (.ref sc), .val (.ref rr_209), .unset] [(.int (1 : Int32))])) _
    refine XS.ifNo X209.here hx rfl (hb hby at_213) rfl ((if0 _ _).trans (feq (by decide)).1) ?_
    show Steps p.tables e below (T209.setTop (mkF m 216 #[.val (.int p1), .val (.int p2), .val (.int p3), .val (.int p4), .val (.int p5), .val (.int (1 : Int32)), .val (.int wq), .val (.ref sa), .val (.ref sb), .val (.ref sc), .val (.ref sd), .val (.ref b1), .val (.ref sd), .val (.ref sc), .val (.ref sc), .val (.ref rr_209), .unset] [])) _
    refine XS.aload X209.here hx rfl (hb hby at_216) rfl rfl ?_
    show Steps p.tables e below (T209.setTop (mkF m 218 #[.val (.int p1), .val (.int p2), .val (.int p3), .val (.int p4), .val (.int p5), .val (.int (1 : Int32)), .val (.int wq), .val (.ref sa), .val (.ref sb), .val (.ref sc), .val (.ref sd), .val (.ref b1), .val (.ref sd), .val (.ref sc), .val (.ref sc), .val (.ref rr_209), .unset] [(.ref sc)])) _
    refine XS.goto X209.here hx rfl (pc0 := 218) (pc' := 223) rfl (hb hby at_218) (by decide) (by decide) ?_
    show Steps p.tables e below (T209.setTop (mkF m 223 #[.val (.int p1), .val (.int p2), .val (.int p3), .val (.int p4), .val (.int p5), .val (.int (1 : Int32)), .val (.int wq), .val (.ref sa), .val (.ref sb), .val (.ref sc), .val (.ref sd), .val (.ref b1), .val (.ref sd), .val (.ref sc), .val (.ref sc), .val (.ref rr_209), .unset] [(.ref sc)])) _
    refine XS.astore X209.here hx rfl (hb hby at_223) rfl rfl (l' := #[.val (.int p1), .val (.int p2), .val (.int p3), .val (.int p4), .val (.int p5), .val (.int (1 : Int32)), .val (.int wq), .val (.ref sa), .val (.ref sb), .val (.ref sc), .val (.ref sd), .val (.ref b1), .val (.ref sd), .val (.ref sc), .val (.ref sc), .val (.ref rr_209), .val (.ref sc)]) rfl ?_
    show Steps p.tables e below (T209.setTop (mkF m 225 #[.val (.int p1), .val (.int p2), .val (.int p3), .val (.int p4), .val (.int p5), .val (.int (1 : Int32)), .val (.int wq), .val (.ref sa), .val (.ref sb), .val (.ref sc), .val (.ref sd), .val (.ref b1), .val (.ref sd), .val (.ref sc), .val (.ref sc), .val (.ref rr_209), .val (.ref sc)] [])) _
    refine XS.aload X209.here hx rfl (hb hby at_225) rfl rfl ?_
    show Steps p.tables e below (T209.setTop (mkF m 227 #[.val (.int p1), .val (.int p2), .val (.int p3), .val (.int p4), .val (.int p5), .val (.int (1 : Int32)), .val (.int wq), .val (.ref sa), .val (.ref sb), .val (.ref sc), .val (.ref sd), .val (.ref b1), .val (.ref sd), .val (.ref sc), .val (.ref sc), .val (.ref rr_209), .val (.ref sc)] [(.ref sd)])) _
    refine XS.aload X209.here hx rfl (hb hby at_227) rfl rfl ?_
    exact kt)
  have kp217 : Keep h0 h209 [] := (Keep.trans kp208 Kc209 all0)
  have f219 : Exa Z h209 sd "java/lang/String" := (f194.keep Kc209)
  obtain ⟨cq218, kq218, q218a, q218b, q218c⟩ := isOf hZ e209 f219
  obtain ⟨_, _, ⟨T218, L218, k218, n218⟩, -, X218', ⟨Lc218, hQ218, l218, y218, z218⟩, st218⟩ := X209.virtualBack hx (y := (⟨"java/lang/String", "equals", "(Ljava/lang/Object;)Z"⟩ : MethodName)) (z := (⟨"java/lang/String", "equals", "(Ljava/lang/Object;)Z"⟩ : MethodName)) hown (mvT hZ (hw _ (List.mem_of_getElem? (i := 87) rfl))) (mvT hZ (hw _ (List.mem_of_getElem? (i := 60) rfl))) (notFace_of_selects (args := #[]) (mvT hZ (hw _ (List.mem_of_getElem? (i := 62) rfl)))) (mvT hZ (hw _ (List.mem_of_getElem? (i := 62) rfl))) (mvT hZ (hw _ (List.mem_of_getElem? (i := 61) rfl))) (by decide) (backOf (W := 0) (rmErf l Z a0 hw [] sd h209 n0 (Nat.le_trans Z0 kp217.1) ) hZ (hw _ (List.mem_of_getElem? (i := 63) rfl)) (hw _ (List.mem_of_getElem? (i := 2) rfl)) (by decide) (by decide)) q218a q218c (g := (mkF m 229 #[.val (.int p1), .val (.int p2), .val (.int p3), .val (.int p4), .val (.int p5), .val (.int (1 : Int32)), .val (.int wq), .val (.ref sa), .val (.ref sb), .val (.ref sc), .val (.ref sd), .val (.ref b1), .val (.ref sd), .val (.ref sc), .val (.ref sc), .val (.ref rr_209), .val (.ref sc)] [(.ref sd), (.ref sd)])) rfl (by rw [hml]; rfl) (Steps.refl _) (argsL := [(.ref sd)]) (rest := []) (lenOf pd__Ljava_lang_Object__Z rfl) rfl (by show 2 * 0 + _ ≤ _; exact Nat.le_of_eq rfl) (hb hby at_229) (fun _ _ => ⟨rfl, e209, (by decide : 34 + 0 ≤ _), (by decide : 721 + 0 ≤ _)⟩)
  dsimp only [Pt.U, Pt.locs, Pt.cells, Pt.slots] at X218' l218 y218 z218 st218 hQ218
  subst l218 y218 z218
  obtain ⟨rfl, N218q, e218⟩ := hQ218
  obtain ⟨lc218, X218, N218⟩ : ∃ lc, Stand p l e room_1 (s.setVm T209.vm) m #[(.int p1), (.int p2), (.int p3), (.int p4), (.int p5)] below meth c T218 lc 34 721 ∧ Fr n0 lc := ⟨_, X218', Fr.app N209 N218q⟩
  have K220 : Gx p e below T0 f0 T218 (mkF m 232 #[.val (.int p1), .val (.int p2), .val (.int p3), .val (.int p4), .val (.int p5), .val (.int (1 : Int32)), .val (.int wq), .val (.ref sa), .val (.ref sb), .val (.ref sc), .val (.ref sd), .val (.ref b1), .val (.ref sd), .val (.ref sc), .val (.ref sc), .val (.ref rr_209), .val (.ref sc)] [(.int (1 : Int32))]) := fun t kt => K216 t (st218.trans kt)
  have K221 : Gx p e below T0 f0 T218 (mkF m 239 #[.val (.int p1), .val (.int p2), .val (.int p3), .val (.int p4), .val (.int p5), .val (.int (1 : Int32)), .val (.int wq), .val (.ref sa), .val (.ref sb), .val (.ref sc), .val (.ref sd), .val (.ref b1), .val (.ref sd), .val (.ref sc), .val (.ref sc), .val (.ref rr_209), .val (.ref sc)] [(.ref sc), (.ref sc)]) := fun t kt => K220 t (by
    show Steps p.tables e below (T218.setTop (mkF m 232 #[.val (.int p1), .val (.int p2), .val (.int p3), .val (.int p4), .val (.int p5), .val (.int (1 : Int32)), .val (.int wq), .val (.ref sa), .val (.ref sb), .val (.ref sc), .val (.ref sd), .val (.ref b1), .val (.ref sd), .val (.ref sc), .val (.ref sc), .val (.ref rr_209), .val (.ref sc)] [(.int (1 : Int32))])) _
    refine XS.ifNo X218.here hx rfl (hb hby at_232) rfl ((if0 _ _).trans (feq (by decide)).1) ?_
    show Steps p.tables e below (T218.setTop (mkF m 235 #[.val (.int p1), .val (.int p2), .val (.int p3), .val (.int p4), .val (.int p5), .val (.int (1 : Int32)), .val (.int wq), .val (.ref sa), .val (.ref sb), .val (.ref sc), .val (.ref sd), .val (.ref b1), .val (.ref sd), .val (.ref sc), .val (.ref sc), .val (.ref rr_209), .val (.ref sc)] [])) _
    refine XS.aload X218.here hx rfl (hb hby at_235) rfl rfl ?_
    show Steps p.tables e below (T218.setTop (mkF m 237 #[.val (.int p1), .val (.int p2), .val (.int p3), .val (.int p4), .val (.int p5), .val (.int (1 : Int32)), .val (.int wq), .val (.ref sa), .val (.ref sb), .val (.ref sc), .val (.ref sd), .val (.ref b1), .val (.ref sd), .val (.ref sc), .val (.ref sc), .val (.ref rr_209), .val (.ref sc)] [(.ref sc)])) _
    refine XS.aload X218.here hx rfl (hb hby at_237) rfl rfl ?_
    exact kt)
  have f223 : Exa Z h209 sc "java/lang/String" := (f190.keep Kc209)
  obtain ⟨cq222, kq222, q222a, q222b, q222c⟩ := isOf hZ e218 f223
  obtain ⟨_, _, ⟨T222, L222, k222, n222⟩, -, X222', ⟨Lc222, hQ222, l222, y222, z222⟩, st222⟩ := X218.virtualBack hx (y := (⟨"java/lang/String", "equals", "(Ljava/lang/Object;)Z"⟩ : MethodName)) (z := (⟨"java/lang/String", "equals", "(Ljava/lang/Object;)Z"⟩ : MethodName)) hown (mvT hZ (hw _ (List.mem_of_getElem? (i := 87) rfl))) (mvT hZ (hw _ (List.mem_of_getElem? (i := 60) rfl))) (notFace_of_selects (args := #[]) (mvT hZ (hw _ (List.mem_of_getElem? (i := 62) rfl)))) (mvT hZ (hw _ (List.mem_of_getElem? (i := 62) rfl))) (mvT hZ (hw _ (List.mem_of_getElem? (i := 61) rfl))) (by decide) (backOf (W := 0) (rmErf l Z a0 hw [] sc h209 n0 (Nat.le_trans Z0 kp217.1) ) hZ (hw _ (List.mem_of_getElem? (i := 63) rfl)) (hw _ (List.mem_of_getElem? (i := 2) rfl)) (by decide) (by decide)) q222a q222c (g := (mkF m 239 #[.val (.int p1), .val (.int p2), .val (.int p3), .val (.int p4), .val (.int p5), .val (.int (1 : Int32)), .val (.int wq), .val (.ref sa), .val (.ref sb), .val (.ref sc), .val (.ref sd), .val (.ref b1), .val (.ref sd), .val (.ref sc), .val (.ref sc), .val (.ref rr_209), .val (.ref sc)] [(.ref sc), (.ref sc)])) rfl (by rw [hml]; rfl) (Steps.refl _) (argsL := [(.ref sc)]) (rest := []) (lenOf pd__Ljava_lang_Object__Z rfl) rfl (by show 2 * 0 + _ ≤ _; exact Nat.le_of_eq rfl) (hb hby at_239) (fun _ _ => ⟨rfl, e218, (by decide : 34 + 0 ≤ _), (by decide : 721 + 0 ≤ _)⟩)
  dsimp only [Pt.U, Pt.locs, Pt.cells, Pt.slots] at X222' l222 y222 z222 st222 hQ222
  subst l222 y222 z222
  obtain ⟨rfl, N222q, e222⟩ := hQ222
  obtain ⟨lc222, X222, N222⟩ : ∃ lc, Stand p l e room_1 (s.setVm T209.vm) m #[(.int p1), (.int p2), (.int p3), (.int p4), (.int p5)] below meth c T222 lc 34 721 ∧ Fr n0 lc := ⟨_, X222', Fr.app N218 N222q⟩
  have K224 : Gx p e below T0 f0 T222 (mkF m 242 #[.val (.int p1), .val (.int p2), .val (.int p3), .val (.int p4), .val (.int p5), .val (.int (1 : Int32)), .val (.int wq), .val (.ref sa), .val (.ref sb), .val (.ref sc), .val (.ref sd), .val (.ref b1), .val (.ref sd), .val (.ref sc), .val (.ref sc), .val (.ref rr_209), .val (.ref sc)] [(.int (1 : Int32))]) := fun t kt => K221 t (st222.trans kt)
  have K225 : Gx p e below T0 f0 T222 (mkF m 249 #[.val (.int p1), .val (.int p2), .val (.int p3), .val (.int p4), .val (.int p5), .val (.int (1 : Int32)), .val (.int wq), .val (.ref sa), .val (.ref sb), .val (.ref sc), .val (.ref sd), .val (.ref b1), .val (.ref sd), .val (.ref sc), .val (.ref sc), .val (.ref rr_209), .val (.ref sc)] [(.ref sc), (.ref sc)]) := fun t kt => K224 t (by
    show Steps p.tables e below (T222.setTop (mkF m 242 #[.val (.int p1), .val (.int p2), .val (.int p3), .val (.int p4), .val (.int p5), .val (.int (1 : Int32)), .val (.int wq), .val (.ref sa), .val (.ref sb), .val (.ref sc), .val (.ref sd), .val (.ref b1), .val (.ref sd), .val (.ref sc), .val (.ref sc), .val (.ref rr_209), .val (.ref sc)] [(.int (1 : Int32))])) _
    refine XS.ifNo X222.here hx rfl (hb hby at_242) rfl ((if0 _ _).trans (feq (by decide)).1) ?_
    show Steps p.tables e below (T222.setTop (mkF m 245 #[.val (.int p1), .val (.int p2), .val (.int p3), .val (.int p4), .val (.int p5), .val (.int (1 : Int32)), .val (.int wq), .val (.ref sa), .val (.ref sb), .val (.ref sc), .val (.ref sd), .val (.ref b1), .val (.ref sd), .val (.ref sc), .val (.ref sc), .val (.ref rr_209), .val (.ref sc)] [])) _
    refine XS.aload X222.here hx rfl (hb hby at_245) rfl rfl ?_
    show Steps p.tables e below (T222.setTop (mkF m 247 #[.val (.int p1), .val (.int p2), .val (.int p3), .val (.int p4), .val (.int p5), .val (.int (1 : Int32)), .val (.int wq), .val (.ref sa), .val (.ref sb), .val (.ref sc), .val (.ref sd), .val (.ref b1), .val (.ref sd), .val (.ref sc), .val (.ref sc), .val (.ref rr_209), .val (.ref sc)] [(.ref sc)])) _
    refine XS.aload X222.here hx rfl (hb hby at_247) rfl rfl ?_
    exact kt)
  obtain ⟨cq226, kq226, q226a, q226b, q226c⟩ := isOf hZ e222 f223
  obtain ⟨_, _, ⟨T226, L226, k226, n226⟩, -, X226', ⟨Lc226, hQ226, l226, y226, z226⟩, st226⟩ := X222.virtualBack hx (y := (⟨"java/lang/String", "equals", "(Ljava/lang/Object;)Z"⟩ : MethodName)) (z := (⟨"java/lang/String", "equals", "(Ljava/lang/Object;)Z"⟩ : MethodName)) hown (mvT hZ (hw _ (List.mem_of_getElem? (i := 87) rfl))) (mvT hZ (hw _ (List.mem_of_getElem? (i := 60) rfl))) (notFace_of_selects (args := #[]) (mvT hZ (hw _ (List.mem_of_getElem? (i := 62) rfl)))) (mvT hZ (hw _ (List.mem_of_getElem? (i := 62) rfl))) (mvT hZ (hw _ (List.mem_of_getElem? (i := 61) rfl))) (by decide) (backOf (W := 0) (rmErf l Z a0 hw [] sc h209 n0 (Nat.le_trans Z0 kp217.1) ) hZ (hw _ (List.mem_of_getElem? (i := 63) rfl)) (hw _ (List.mem_of_getElem? (i := 2) rfl)) (by decide) (by decide)) q226a q226c (g := (mkF m 249 #[.val (.int p1), .val (.int p2), .val (.int p3), .val (.int p4), .val (.int p5), .val (.int (1 : Int32)), .val (.int wq), .val (.ref sa), .val (.ref sb), .val (.ref sc), .val (.ref sd), .val (.ref b1), .val (.ref sd), .val (.ref sc), .val (.ref sc), .val (.ref rr_209), .val (.ref sc)] [(.ref sc), (.ref sc)])) rfl (by rw [hml]; rfl) (Steps.refl _) (argsL := [(.ref sc)]) (rest := []) (lenOf pd__Ljava_lang_Object__Z rfl) rfl (by show 2 * 0 + _ ≤ _; exact Nat.le_of_eq rfl) (hb hby at_249) (fun _ _ => ⟨rfl, e222, (by decide : 34 + 0 ≤ _), (by decide : 721 + 0 ≤ _)⟩)
  dsimp only [Pt.U, Pt.locs, Pt.cells, Pt.slots] at X226' l226 y226 z226 st226 hQ226
  subst l226 y226 z226
  obtain ⟨rfl, N226q, e226⟩ := hQ226
  obtain ⟨lc226, X226, N226⟩ : ∃ lc, Stand p l e room_1 (s.setVm T209.vm) m #[(.int p1), (.int p2), (.int p3), (.int p4), (.int p5)] below meth c T226 lc 34 721 ∧ Fr n0 lc := ⟨_, X226', Fr.app N222 N226q⟩
  have K227 : Gx p e below T0 f0 T226 (mkF m 252 #[.val (.int p1), .val (.int p2), .val (.int p3), .val (.int p4), .val (.int p5), .val (.int (1 : Int32)), .val (.int wq), .val (.ref sa), .val (.ref sb), .val (.ref sc), .val (.ref sd), .val (.ref b1), .val (.ref sd), .val (.ref sc), .val (.ref sc), .val (.ref rr_209), .val (.ref sc)] [(.int (1 : Int32))]) := fun t kt => K225 t (st226.trans kt)
  have K228 : Gx p e below T0 f0 T226 (mkF m 257 #[.val (.int p1), .val (.int p2), .val (.int p3), .val (.int p4), .val (.int p5), .val (.int (1 : Int32)), .val (.int wq), .val (.ref sa), .val (.ref sb), .val (.ref sc), .val (.ref sd), .val (.ref b1), .val (.ref sd), .val (.ref sc), .val (.ref sc), .val (.ref rr_209), .val (.ref sc)] [(.ref rr_209)]) := fun t kt => K227 t (by
    show Steps p.tables e below (T226.setTop (mkF m 252 #[.val (.int p1), .val (.int p2), .val (.int p3), .val (.int p4), .val (.int p5), .val (.int (1 : Int32)), .val (.int wq), .val (.ref sa), .val (.ref sb), .val (.ref sc), .val (.ref sd), .val (.ref b1), .val (.ref sd), .val (.ref sc), .val (.ref sc), .val (.ref rr_209), .val (.ref sc)] [(.int (1 : Int32))])) _
    refine XS.ifNo X226.here hx rfl (hb hby at_252) rfl ((if0 _ _).trans (feq (by decide)).1) ?_
    show Steps p.tables e below (T226.setTop (mkF m 255 #[.val (.int p1), .val (.int p2), .val (.int p3), .val (.int p4), .val (.int p5), .val (.int (1 : Int32)), .val (.int wq), .val (.ref sa), .val (.ref sb), .val (.ref sc), .val (.ref sd), .val (.ref b1), .val (.ref sd), .val (.ref sc), .val (.ref sc), .val (.ref rr_209), .val (.ref sc)] [])) _
    refine XS.aload X226.here hx rfl (hb hby at_255) rfl rfl ?_
    exact kt)
  obtain ⟨sa229, T229, h229, kk229, sb229, kc229, X229, e229, E229, hS229, hk229, hZ, hown, A229, Fc229, Fv229, V229, -, -, CRq229, -, Sf229, st229⟩ := ldcCH (s := s) (vm0 := T209.vm) X226 hx hZ hown (hw _ (List.mem_of_getElem? (i := 85) rfl)) (own_wS hw) e226 hS209 (Nat.le_of_eq (congrArg Array.size e209)) (own_EW hw) (List.mem_of_getElem? (i := 5) rfl) CR214.1 (vs := []) (z := (0 : Int32)) ⟨by decide +kernel, by rfl⟩ (by decide) rfl (g := (mkF m 257 #[.val (.int p1), .val (.int p2), .val (.int p3), .val (.int p4), .val (.int p5), .val (.int (1 : Int32)), .val (.int wq), .val (.ref sa), .val (.ref sb), .val (.ref sc), .val (.ref sd), .val (.ref b1), .val (.ref sd), .val (.ref sc), .val (.ref sc), .val (.ref rr_209), .val (.ref sc)] [(.ref rr_209)])) rfl (hb hby at_257) (n := 0) (by decide +kernel) (by decide) (by decide) (by decide)
  have CR230 : CHr Z ELx s.vm s.heap T229.vm h229 := CR214.trans CRq229
  have f231 : Exa Z h229 b1 "com/example/stanzacall/stanzacall/xml/Namespaces" := ((f180.keep Kc209).ext E229)
  have nn232 := Sf229 b1 (Safe.exa hZ.alike f231 (by decide) (by decide))
  have f233 : Arv Z h229 pa_11 kp_11 (.object "java/lang/String") (16 : Int32) [(.ref sa), (.ref sb), .null, .null, .null, .null, .null, .null, .null, .null, .null, .null, .null, .null, .null, .null] .null := ((f182.keep Kc209 nin0).ext E229)
  obtain ⟨clq234, Arq234, ckq234, cSq234, cNq234, cHq234, cGq234⟩ := id f233
  have nn235 := Sf229 pa_11 (Safe.arr hZ.alike Arq234 (by decide))
  have f236 : Exa Z h229 rr_209 "java/lang/String" := (f210.ext E229)
  have f237 : Arv Z h229 rv_209 rk_209 .byte (0 : Int32) [] (.int (0 : Int32)) := (f213.ext E229)
  obtain ⟨clq238, Arq238, ckq238, cSq238, cNq238, cHq238, cGq238⟩ := id f237
  have f239 : Exa Z h229 sa "java/lang/String" := ((f185.keep Kc209).ext E229)
  have f240 : Exa Z h229 sa130 "java/lang/String" := ((f186.keep Kc209).ext E229)
  have f241 : Exa Z h229 sa178 "java/lang/String" := ((A178.keep Kc209).ext E229)
  have f242 : Exa Z h229 sb "java/lang/String" := ((f187.keep Kc209).ext E229)
  have f243 : Arv Z h229 sb130 kc130 .byte (0 : Int32) [] (.int (0 : Int32)) := ((f188.keep Kc209 nin0).ext E229)
  obtain ⟨clq244, Arq244, ckq244, cSq244, cNq244, cHq244, cGq244⟩ := id f243
  have f245 : Arv Z h229 sb178 kc178 .byte (0 : Int32) [] (.int (0 : Int32)) := ((V178.keep Kc209 nin0).ext E229)
  obtain ⟨clq246, Arq246, ckq246, cSq246, cNq246, cHq246, cGq246⟩ := id f245
  have f247 : Exa Z h229 sc "java/lang/String" := (f223.ext E229)
  have f248 : Arv Z h229 sc_11 ks_11 .int (16 : Int32) [(.int (0 : Int32)), (.int (1 : Int32)), (.int (0 : Int32)), (.int (0 : Int32)), (.int (0 : Int32)), (.int (0 : Int32)), (.int (0 : Int32)), (.int (0 : Int32)), (.int (0 : Int32)), (.int (0 : Int32)), (.int (0 : Int32)), (.int (0 : Int32)), (.int (0 : Int32)), (.int (0 : Int32)), (.int (0 : Int32)), (.int (0 : Int32))] (.int (0 : Int32)) := ((f191.keep Kc209 nin0).ext E229)
  obtain ⟨clq249, Arq249, ckq249, cSq249, cNq249, cHq249, cGq249⟩ := id f248
  have nn250 := Sf229 sc_11 (Safe.arr hZ.alike Arq249 (by decide))
  have f251 : Exa Z h229 sd "java/lang/String" := (f219.ext E229)
  have f252 : Arv Z h229 sva ska .byte sza sxa (.int (0 : Int32)) := ((f195.keep Kc209 nin0).ext E229)
  obtain ⟨clq253, Arq253, ckq253, cSq253, cNq253, cHq253, cGq253⟩ := id f252
  have f254 : Arv Z h229 svb skb .byte szb sxb (.int (0 : Int32)) := ((f197.keep Kc209 nin0).ext E229)
  obtain ⟨clq255, Arq255, ckq255, cSq255, cNq255, cHq255, cGq255⟩ := id f254
  have f256 : Arv Z h229 svc skc .byte szc sxc (.int (0 : Int32)) := ((f199.keep Kc209 nin0).ext E229)
  obtain ⟨clq257, Arq257, ckq257, cSq257, cNq257, cHq257, cGq257⟩ := id f256
  have f258 : Arv Z h229 svd skd .byte szd sxd (.int (0 : Int32)) := ((f201.keep Kc209 nin0).ext E229)
  obtain ⟨clq259, Arq259, ckq259, cSq259, cNq259, cHq259, cGq259⟩ := id f258
  have f260 : Arv Z h229 ua_11 ku_11 (.object "java/lang/String") (16 : Int32) [(.ref sc), (.ref sd), .null, .null, .null, .null, .null, .null, .null, .null, .null, .null, .null, .null, .null, .null] .null := ((f203.keep Kc209 nin0).ext E229)
  obtain ⟨clq261, Arq261, ckq261, cSq261, cNq261, cHq261, cGq261⟩ := id f260
  have nn262 := Sf229 ua_11 (Safe.arr hZ.alike Arq261 (by decide))
  have K263 : Gx p e below T0 f0 T229 (mkF m 259 #[.val (.int p1), .val (.int p2), .val (.int p3), .val (.int p4), .val (.int p5), .val (.int (1 : Int32)), .val (.int wq), .val (.ref sa), .val (.ref sb), .val (.ref sc), .val (.ref sd), .val (.ref b1), .val (.ref sd), .val (.ref sc), .val (.ref sc), .val (.ref rr_209), .val (.ref sc)] [(.ref sa229), (.ref rr_209)]) := fun t kt => K228 t (st229 t kt)
  have f264 : Fld Z h229 rr_209 "java/lang/String" "coder" "B" (.int (0 : Int32)) := (f211.ext E229)
  have f265 : Fld Z h229 rr_209 "java/lang/String" "value" "[B" (.ref rv_209) := (f212.ext E229)
  have f266 : Old Z n0 h229 := ((((f161.keep Kc168 (allS (Nat.le_trans Z0 (Nat.le_trans (Keep.refl h0 []).1 (Nat.le_of_eq g1.symm))) all0)).ext E178).keep Kc209 all0).ext E229)
  have kp267 : Keep h0 h229 [] := (kp217.ext E229)
  obtain ⟨cq268, kq268, q268a, q268b, q268c⟩ := isOf hZ e229 f236
  obtain ⟨_, _, ⟨T268, L268, k268, n268⟩, -, X268', ⟨Lc268, hQ268, l268, y268, z268⟩, st268⟩ := X229.virtualBack hx (y := (⟨"java/lang/String", "equals", "(Ljava/lang/Object;)Z"⟩ : MethodName)) (z := (⟨"java/lang/String", "equals", "(Ljava/lang/Object;)Z"⟩ : MethodName)) hown (mvT hZ (hw _ (List.mem_of_getElem? (i := 87) rfl))) (mvT hZ (hw _ (List.mem_of_getElem? (i := 60) rfl))) (notFace_of_selects (args := #[]) (mvT hZ (hw _ (List.mem_of_getElem? (i := 62) rfl)))) (mvT hZ (hw _ (List.mem_of_getElem? (i := 62) rfl))) (mvT hZ (hw _ (List.mem_of_getElem? (i := 61) rfl))) (by decide) (backOf (W := 0) (rmE00 l Z a0 hw [] rr_209 sa229 rv_209 sb229 rk_209 kc229 (0 : Int32) (0 : Int32) [] [] cw h229 n0 (Nat.le_trans Z0 kp267.1) f264 f265 f237 A229 Fc229 Fv229 V229 f266 pr17 hcw rfl rfl) hZ (hw _ (List.mem_of_getElem? (i := 63) rfl)) (hw _ (List.mem_of_getElem? (i := 2) rfl)) (by decide) (by decide)) q268a q268c (g := (mkF m 259 #[.val (.int p1), .val (.int p2), .val (.int p3), .val (.int p4), .val (.int p5), .val (.int (1 : Int32)), .val (.int wq), .val (.ref sa), .val (.ref sb), .val (.ref sc), .val (.ref sd), .val (.ref b1), .val (.ref sd), .val (.ref sc), .val (.ref sc), .val (.ref rr_209), .val (.ref sc)] [(.ref sa229), (.ref rr_209)])) rfl (by rw [hml]; rfl) (Steps.refl _) (argsL := [(.ref sa229)]) (rest := []) (lenOf pd__Ljava_lang_Object__Z rfl) rfl (by show 2 * 0 + _ ≤ _; exact Nat.le_of_eq rfl) (hb hby at_259) (fun _ _ => ⟨rfl, e229, (by decide : 36 + 0 ≤ _), (by decide : 725 + 0 ≤ _)⟩)
  dsimp only [Pt.U, Pt.locs, Pt.cells, Pt.slots] at X268' l268 y268 z268 st268 hQ268
  subst l268 y268 z268
  obtain ⟨rfl, N268q, e268⟩ := hQ268
  obtain ⟨lc268, X268, N268⟩ : ∃ lc, Stand p l e room_1 (s.setVm T229.vm) m #[(.int p1), (.int p2), (.int p3), (.int p4), (.int p5)] below meth c T268 lc 36 725 ∧ Fr n0 lc := ⟨_, X268', Fr.app N226 N268q⟩
  have K269 : Gx p e below T0 f0 T268 (mkF m 262 #[.val (.int p1), .val (.int p2), .val (.int p3), .val (.int p4), .val (.int p5), .val (.int (1 : Int32)), .val (.int wq), .val (.ref sa), .val (.ref sb), .val (.ref sc), .val (.ref sd), .val (.ref b1), .val (.ref sd), .val (.ref sc), .val (.ref sc), .val (.ref rr_209), .val (.ref sc)] [(.int (1 : Int32))]) := fun t kt => K263 t (st268.trans kt)
  have K270 : Gx p e below T0 f0 T268 (mkF m 270 #[.val (.int p1), .val (.int p2), .val (.int p3), .val (.int p4), .val (.int p5), .val (.int (1 : Int32)), .val (.int wq), .val (.ref sa), .val (.ref sb), .val (.ref sc), .val (.ref sd), .val (.ref b1), .val (.ref sd), .val (.ref sc), .val (.ref sc), .val (.ref rr_209), .val (.ref sc)] [(.int (1 : Int32))]) := fun t kt => K269 t (by
    show Steps p.tables e below (T268.setTop (mkF m 262 #[.val (.int p1), .val (.int p2), .val (.int p3), .val (.int p4), .val (.int p5), .val (.int (1 : Int32)), .val (.int wq), .val (.ref sa), .val (.ref sb), .val (.ref sc), .val (.ref sd), .val (.ref b1), .val (.ref sd), .val (.ref sc), .val (.ref sc), .val (.ref rr_209), .val (.ref sc)] [(.int (1 : Int32))])) _
    refine XS.ifNo X268.here hx rfl (hb hby at_262) rfl ((if0 _ _).trans (feq (by decide)).1) ?_
    show Steps p.tables e below (T268.setTop (mkF m 265 #[.val (.int p1), .val (.int p2), .val (.int p3), .val (.int p4), .val (.int p5), .val (.int (1 : Int32)), .val (.int wq), .val (.ref sa), .val (.ref sb), .val (.ref sc), .val (.ref sd), .val (.ref b1), .val (.ref sd), .val (.ref sc), .val (.ref sc), .val (.ref rr_209), .val (.ref sc)] [])) _
    refine XS.iconst X268.here hx rfl (hb hby at_265) ?_
    show Steps p.tables e below (T268.setTop (mkF m 266 #[.val (.int p1), .val (.int p2), .val (.int p3), .val (.int p4), .val (.int p5), .val (.int (1 : Int32)), .val (.int wq), .val (.ref sa), .val (.ref sb), .val (.ref sc), .val (.ref sd), .val (.ref b1), .val (.ref sd), .val (.ref sc), .val (.ref sc), .val (.ref rr_209), .val (.ref sc)] [(.int (1 : Int32))])) _
    refine XS.goto X268.here hx rfl (pc0 := 266) (pc' := 270) rfl (hb hby at_266) (by decide) (by decide) ?_
    exact kt)
  have CR271_ := CR230.trans (CHv.at X268 hZ (own_EW hw) CR230.1)
  obtain ⟨fs271, hr271, hrun271, hended271, hRW271⟩ := X268.leaveW hS229 (show _ ≤ T268.heap.size by rw [e268]; exact hk229) (v := some (.int (1 : Int32))) (fun h => by rw [hret] at h; cases h)
  refine ⟨_, _, pre0 _ (K270 _ ?_), hrun271, hended271, _, _, rfl, ?_, ?_, hRW271.1, hRW271.2.1, hRW271.2.2.1, hRW271.2.2.2.mono (by decide) (by decide)⟩
  · exact retN X268 hx (t := .boolean) hret (by simp) (hb hby at_270) hr271
  · exact ⟨rfl, N268⟩
  · show CHr Z ELx s.vm s.heap T268.vm T268.heap
    rw [e268]
    exact CR271_
set_option maxRecDepth 65536 in
set_option maxHeartbeats 40000000 in
theorem tlN {p : Program} {l : Launch} {e : Env} {s : State} {m : MethodId} {below : List Frame} {meth : Method} {c : Code} {T0 : State} {lc0 : List Loc} {vm0 : Vm} {k0 : Nat} {h0 : Heap} {n0 : Nat} (Z : State) (a0 : Array Value) (hw : ∀ d ∈ tables_1, d.before a0 Z = true) {p1 : Int32} {p2 : Int32} {p3 : Int32} {p4 : Int32} {p5 : Int32} {sa : Addr} {sva : Addr} {ska : ClassId} {sza : Int32} {sxa : List Value} {sb : Addr} {svb : Addr} {skb : ClassId} {szb : Int32} {sxb : List Value} {sc : Addr} {svc : Addr} {skc : ClassId} {szc : Int32} {sxc : List Value} {sd : Addr} {svd : Addr} {skd : ClassId} {szd : Int32} {sxd : List Value} {cw : Int32} {wq : Int32} (Z0 : n0 ≤ h0.size)
    (X0 : Stand p l e room_1 (s.setVm vm0) m #[(.int p1), (.int p2), (.int p3), (.int p4), (.int p5)] below meth c T0 lc0 8 40) (hx : p.tables.exec = Jvm.exec) (hby : c.code = code) (hml : c.maxLocals = 17) (hown : (s.setVm vm0).vm.findClass "com/example/stanzacall/stanzacall/xml/NamespacesClosePinLaw" = some m.cls) (hZ : Z.Warmed39 (s.setVm vm0).vm) (hret : meth.sig.returnType = some .boolean) (hlk : meth.locks = false) (e0 : T0.heap = h0) (N0 : Fr n0 lc0) (hS0 : s.Since vm0 k0) (hk0 : k0 ≤ h0.size) (CR0 : CHr Z ELx s.vm s.heap vm0 h0) (pr0 : Exa Z h0 sa "java/lang/String") (pr1 : Fld Z h0 sa "java/lang/String" "coder" "B" (.int (0 : Int32))) (pr2 : Fld Z h0 sa "java/lang/String" "value" "[B" (.ref sva)) (pr3 : Arv Z h0 sva ska .byte sza sxa (.int (0 : Int32))) (pr4 : Exa Z h0 sb "java/lang/String") (pr5 : Fld Z h0 sb "java/lang/String" "coder" "B" (.int (0 : Int32))) (pr6 : Fld Z h0 sb "java/lang/String" "value" "[B" (.ref svb)) (pr7 : Arv Z h0 svb skb .byte szb sxb (.int (0 : Int32))) (pr8 : Exa Z h0 sc "java/lang/String") (pr9 : Fld Z h0 sc "java/lang/String" "coder" "B" (.int (0 : Int32))) (pr10 : Fld Z h0 sc "java/lang/String" "value" "[B" (.ref svc)) (pr11 : Arv Z h0 svc skc .byte szc sxc (.int (0 : Int32))) (pr12 : Exa Z h0 sd "java/lang/String") (pr13 : Fld Z h0 sd "java/lang/String" "coder" "B" (.int (0 : Int32))) (pr14 : Fld Z h0 sd "java/lang/String" "value" "[B" (.ref svd)) (pr15 : Arv Z h0 svd skd .byte szd sxd (.int (0 : Int32))) (pr16 : Old Z n0 h0) (pr17 : Sta Z Z.heap "java/lang/String" "COMPACT_STRINGS" "Z" (.int cw)) (hcw : ¬ (cw = (0 : Int32))) (hza : sza = (0 : Int32) ∨ sza = (1 : Int32)) (hzb : szb = (0 : Int32) ∨ szb = (1 : Int32)) (hzc : szc = (0 : Int32) ∨ szc = (1 : Int32)) (hzd : szd = (0 : Int32) ∨ szd = (1 : Int32)) (hac : szc = (0 : Int32) → sza = (0 : Int32)) (hbd : szd = (0 : Int32) → szb = (0 : Int32)) (hpe : sza = (1 : Int32)) :
    ∃ t o, Steps p.tables e below (T0.setTop (mkF m 128 #[.val (.int p1), .val (.int p2), .val (.int p3), .val (.int p4), .val (.int p5), .val (.int (0 : Int32)), .val (.int wq), .val (.ref sa), .val (.ref sb), .val (.ref sc), .val (.ref sd), .unset, .unset, .unset, .unset, .unset, .unset] [])) t ∧ t.status = .running ∧ Ended t below o ∧ ∃ v L, o = .returned v ∧ (v = some (.int (1 : Int32)) ∧ Fr n0 L) ∧ CHr Z ELx s.vm s.heap t.vm t.heap ∧ ReturnedEndW s o t L room_1.cells room_1.slots := by
  obtain ⟨f0, hf0⟩ : ∃ f, f = (mkF m 128 #[.val (.int p1), .val (.int p2), .val (.int p3), .val (.int p4), .val (.int p5), .val (.int (0 : Int32)), .val (.int wq), .val (.ref sa), .val (.ref sb), .val (.ref sc), .val (.ref sd), .unset, .unset, .unset, .unset, .unset, .unset] []) := ⟨_, rfl⟩
  have pre0 : ∀ t, Steps p.tables e below (T0.setTop f0) t → Steps p.tables e below (T0.setTop (mkF m 128 #[.val (.int p1), .val (.int p2), .val (.int p3), .val (.int p4), .val (.int p5), .val (.int (0 : Int32)), .val (.int wq), .val (.ref sa), .val (.ref sb), .val (.ref sc), .val (.ref sd), .unset, .unset, .unset, .unset, .unset, .unset] [])) t := fun t k => hf0 ▸ k
  have K0 : Gx p e below T0 f0 T0 (mkF m 128 #[.val (.int p1), .val (.int p2), .val (.int p3), .val (.int p4), .val (.int p5), .val (.int (0 : Int32)), .val (.int wq), .val (.ref sa), .val (.ref sb), .val (.ref sc), .val (.ref sd), .unset, .unset, .unset, .unset, .unset, .unset] []) := fun t kt => by rw [hf0]; exact kt
  obtain ⟨T1, h1, X1, e1, E1, A1, D1, -, st1⟩ := newO X0 hx hZ hown (hw _ (List.mem_of_getElem? (i := 26) rfl)) (hw _ (List.mem_of_getElem? (i := 27) rfl)) (hw _ (List.mem_of_getElem? (i := 28) rfl)) e0 (g := (mkF m 128 #[.val (.int p1), .val (.int p2), .val (.int p3), .val (.int p4), .val (.int p5), .val (.int (0 : Int32)), .val (.int wq), .val (.ref sa), .val (.ref sb), .val (.ref sc), .val (.ref sd), .unset, .unset, .unset, .unset, .unset, .unset] [])) rfl (hb hby at_128) (by decide) (by decide)
  obtain ⟨b1, g1⟩ : ∃ z, z = h0.size := ⟨_, rfl⟩
  rw [← g1] at A1 D1 st1
  have CR2 : CHr Z ELx s.vm s.heap vm0 h1 := CR0.trans (CHr.ext E1 CR0.1)
  have f3 : Fld Z h1 b1 "com/example/stanzacall/stanzacall/xml/Namespaces" "prefixes" "[Ljava/lang/String;" .null := D1 (Or.inl (hw _ (List.mem_of_getElem? (i := 36) rfl))) (ty := (.array (.object "java/lang/String"))) (by decide)
  have f4 : Fld Z h1 b1 "com/example/stanzacall/stanzacall/xml/Namespaces" "uris" "[Ljava/lang/String;" .null := D1 (Or.inl (hw _ (List.mem_of_getElem? (i := 38) rfl))) (ty := (.array (.object "java/lang/String"))) (by decide)
  have f5 : Fld Z h1 b1 "com/example/stanzacall/stanzacall/xml/Namespaces" "scopes" "[I" .null := D1 (Or.inl (hw _ (List.mem_of_getElem? (i := 41) rfl))) (ty := (.array .int)) (by decide)
  have f6 : Fld Z h1 b1 "com/example/stanzacall/stanzacall/xml/Namespaces" "depth" "I" (.int (0 : Int32)) := D1 (Or.inl (hw _ (List.mem_of_getElem? (i := 48) rfl))) (ty := .int) (by decide)
  have f7 : Fld Z h1 b1 "com/example/stanzacall/stanzacall/xml/Namespaces" "count" "I" (.int (0 : Int32)) := D1 (Or.inl (hw _ (List.mem_of_getElem? (i := 50) rfl))) (ty := .int) (by decide)
  have K8 : Gx p e below T0 f0 T1 (mkF m 131 #[.val (.int p1), .val (.int p2), .val (.int p3), .val (.int p4), .val (.int p5), .val (.int (0 : Int32)), .val (.int wq), .val (.ref sa), .val (.ref sb), .val (.ref sc), .val (.ref sd), .unset, .unset, .unset, .unset, .unset, .unset] [(.ref b1)]) := fun t kt => K0 t (st1 t kt)
  have K9 : Gx p e below T0 f0 T1 (mkF m 132 #[.val (.int p1), .val (.int p2), .val (.int p3), .val (.int p4), .val (.int p5), .val (.int (0 : Int32)), .val (.int wq), .val (.ref sa), .val (.ref sb), .val (.ref sc), .val (.ref sd), .unset, .unset, .unset, .unset, .unset, .unset] [(.ref b1), (.ref b1)]) := fun t kt => K8 t (by
    show Steps p.tables e below (T1.setTop (mkF m 131 #[.val (.int p1), .val (.int p2), .val (.int p3), .val (.int p4), .val (.int p5), .val (.int (0 : Int32)), .val (.int wq), .val (.ref sa), .val (.ref sb), .val (.ref sc), .val (.ref sd), .unset, .unset, .unset, .unset, .unset, .unset] [(.ref b1)])) _
    refine XS.dup X1.here hx rfl (hb hby at_131) rfl rfl ?_
    exact kt)
  have kp10 : Keep h0 h1 [] := ((Keep.refl h0 []).ext E1)
  obtain ⟨_, _, ⟨T11, L11, k11, n11⟩, -, X11', ⟨Lc11, hQ11, l11, y11, z11⟩, st11⟩ := X1.specialBack hx (y := (⟨"com/example/stanzacall/stanzacall/xml/Namespaces", "<init>", "()V"⟩ : MethodName)) rfl hown (mvT hZ (hw _ (List.mem_of_getElem? (i := 29) rfl))) (mvT hZ (hw _ (List.mem_of_getElem? (i := 30) rfl))) (mvT hZ (hw _ (List.mem_of_getElem? (i := 31) rfl))) (by decide) (backOf (W := 1) (rmIni l Z a0 hw [] b1 h1 n0 (Nat.le_trans Z0 kp10.1) A1 (Nat.le_trans Z0 (Nat.le_trans (Keep.refl h0 []).1 (Nat.le_of_eq g1.symm))) f3 f4 f5 f6 f7) hZ (hw _ (List.mem_of_getElem? (i := 31) rfl)) (hw _ (List.mem_of_getElem? (i := 28) rfl)) (by decide) (by decide)) (g := (mkF m 132 #[.val (.int p1), .val (.int p2), .val (.int p3), .val (.int p4), .val (.int p5), .val (.int (0 : Int32)), .val (.int wq), .val (.ref sa), .val (.ref sb), .val (.ref sc), .val (.ref sd), .unset, .unset, .unset, .unset, .unset, .unset] [(.ref b1), (.ref b1)])) rfl (by rw [hml]; rfl) (Steps.refl _) (a := b1) (argsL := []) (rest := [(.ref b1)]) (lenOf pd___V rfl) rfl (by show 2 * 0 + _ ≤ _; exact Nat.le_of_eq rfl) (hb hby at_132) (fun _ _ => ⟨rfl, e1, (by decide : 9 + 3 ≤ _), (by decide : 45 + 48 ≤ _)⟩)
  dsimp only [Pt.U, Pt.locs, Pt.cells, Pt.slots] at X11' l11 y11 z11 st11 hQ11
  subst l11 y11 z11
  obtain ⟨h11, e11⟩ : ∃ z, T11.heap = z := ⟨_, rfl⟩
  rw [e11] at hQ11
  obtain ⟨pa_11, ua_11, sc_11, kp_11, ku_11, ks_11, rfl, N11q, Kc11, f12, f13, f14, f15, f16, f17, f18, f19, f20, f21, f22, f23, f24, f25, f26, f27, f28⟩ := hQ11
  obtain ⟨lc11, X11, N11⟩ : ∃ lc, Stand p l e room_1 (s.setVm vm0) m #[(.int p1), (.int p2), (.int p3), (.int p4), (.int p5)] below meth c T11 lc 12 93 ∧ Fr n0 lc := ⟨_, X11', Fr.app N0 N11q⟩
  have CR29 : CHr Z ELx s.vm s.heap vm0 h11 := CR2.trans (CHr.keep Kc11 (allS (Safe.exa hZ.alike A1 (by decide) (by decide)) all0) CR2.1)
  have K30 : Gx p e below T0 f0 T11 (mkF m 135 #[.val (.int p1), .val (.int p2), .val (.int p3), .val (.int p4), .val (.int p5), .val (.int (0 : Int32)), .val (.int wq), .val (.ref sa), .val (.ref sb), .val (.ref sc), .val (.ref sd), .unset, .unset, .unset, .unset, .unset, .unset] [(.ref b1)]) := fun t kt => K9 t (st11.trans kt)
  have K31 : Gx p e below T0 f0 T11 (mkF m 139 #[.val (.int p1), .val (.int p2), .val (.int p3), .val (.int p4), .val (.int p5), .val (.int (0 : Int32)), .val (.int wq), .val (.ref sa), .val (.ref sb), .val (.ref sc), .val (.ref sd), .val (.ref b1), .unset, .unset, .unset, .unset, .unset] [(.ref b1)]) := fun t kt => K30 t (by
    show Steps p.tables e below (T11.setTop (mkF m 135 #[.val (.int p1), .val (.int p2), .val (.int p3), .val (.int p4), .val (.int p5), .val (.int (0 : Int32)), .val (.int wq), .val (.ref sa), .val (.ref sb), .val (.ref sc), .val (.ref sd), .unset, .unset, .unset, .unset, .unset, .unset] [(.ref b1)])) _
    refine XS.astore X11.here hx rfl (hb hby at_135) rfl rfl (l' := #[.val (.int p1), .val (.int p2), .val (.int p3), .val (.int p4), .val (.int p5), .val (.int (0 : Int32)), .val (.int wq), .val (.ref sa), .val (.ref sb), .val (.ref sc), .val (.ref sd), .val (.ref b1), .unset, .unset, .unset, .unset, .unset]) rfl ?_
    show Steps p.tables e below (T11.setTop (mkF m 137 #[.val (.int p1), .val (.int p2), .val (.int p3), .val (.int p4), .val (.int p5), .val (.int (0 : Int32)), .val (.int wq), .val (.ref sa), .val (.ref sb), .val (.ref sc), .val (.ref sd), .val (.ref b1), .unset, .unset, .unset, .unset, .unset] [])) _
    refine XS.aload X11.here hx rfl (hb hby at_137) rfl rfl ?_
    exact kt)
  have kp32 : Keep h0 h11 [] := (Keep.trans kp10 Kc11 (allS (Or.inr (Nat.le_trans (Keep.refl h0 []).1 (Nat.le_of_eq g1.symm))) all0))
  obtain ⟨cq33, kq33, q33a, q33b, q33c⟩ := isOf hZ e11 f12
  obtain ⟨_, _, ⟨T33, L33, k33, n33⟩, -, X33', ⟨Lc33, hQ33, l33, y33, z33⟩, st33⟩ := X11.virtualBack hx (y := (⟨"com/example/stanzacall/stanzacall/xml/Namespaces", "open", "()V"⟩ : MethodName)) (z := (⟨"com/example/stanzacall/stanzacall/xml/Namespaces", "open", "()V"⟩ : MethodName)) hown (mvT hZ (hw _ (List.mem_of_getElem? (i := 42) rfl))) (mvT hZ (hw _ (List.mem_of_getElem? (i := 43) rfl))) (notFace_of_selects (args := #[]) (mvT hZ (hw _ (List.mem_of_getElem? (i := 45) rfl)))) (mvT hZ (hw _ (List.mem_of_getElem? (i := 45) rfl))) (mvT hZ (hw _ (List.mem_of_getElem? (i := 44) rfl))) (by decide) (backOf (W := 0) (rmOpen0 l Z a0 hw [] b1 pa_11 ua_11 sc_11 ks_11 h11 n0 (Nat.le_trans Z0 kp32.1) f12 f13 f14 f15 f16 f17 f20 (Nat.le_trans Z0 (Nat.le_trans (Keep.refl h0 []).1 (Nat.le_of_eq g1.symm))) (Nat.le_trans Z0 (Nat.le_trans kp10.1 f23)) (Nat.ne_of_lt (Nat.lt_of_lt_of_le A1.lt f23))) hZ (hw _ (List.mem_of_getElem? (i := 46) rfl)) (hw _ (List.mem_of_getElem? (i := 28) rfl)) (by decide) (by decide)) q33a q33c (g := (mkF m 139 #[.val (.int p1), .val (.int p2), .val (.int p3), .val (.int p4), .val (.int p5), .val (.int (0 : Int32)), .val (.int wq), .val (.ref sa), .val (.ref sb), .val (.ref sc), .val (.ref sd), .val (.ref b1), .unset, .unset, .unset, .unset, .unset] [(.ref b1)])) rfl (by rw [hml]; rfl) (Steps.refl _) (argsL := []) (rest := []) (lenOf pd___V rfl) rfl (by show 2 * 0 + _ ≤ _; exact Nat.le_of_eq rfl) (hb hby at_139) (fun _ _ => ⟨rfl, e11, (by decide : 12 + 0 ≤ _), (by decide : 93 + 0 ≤ _)⟩)
  dsimp only [Pt.U, Pt.locs, Pt.cells, Pt.slots] at X33' l33 y33 z33 st33 hQ33
  subst l33 y33 z33
  obtain ⟨clq34, Arq34, ckq34, cSq34, cNq34, cHq34, cGq34⟩ := id f20
  obtain ⟨h33, e33⟩ : ∃ z, T33.heap = z := ⟨_, rfl⟩
  rw [e33] at hQ33
  obtain ⟨rfl, N33q, Kc33, f35, f36, f37, f38, f39, f40, f41⟩ := hQ33
  obtain ⟨lc33, X33, N33⟩ : ∃ lc, Stand p l e room_1 (s.setVm vm0) m #[(.int p1), (.int p2), (.int p3), (.int p4), (.int p5)] below meth c T33 lc 12 93 ∧ Fr n0 lc := ⟨_, X33', Fr.app N11 N33q⟩
  have CR42 : CHr Z ELx s.vm s.heap vm0 h33 := CR29.trans (CHr.keep Kc33 (allS (Safe.exa hZ.alike f12 (by decide) (by decide)) (allS (Safe.arr hZ.alike Arq34 (by decide)) all0)) CR29.1)
  have K43 : Gx p e below T0 f0 T33 (mkF m 142 #[.val (.int p1), .val (.int p2), .val (.int p3), .val (.int p4), .val (.int p5), .val (.int (0 : Int32)), .val (.int wq), .val (.ref sa), .val (.ref sb), .val (.ref sc), .val (.ref sd), .val (.ref b1), .unset, .unset, .unset, .unset, .unset] []) := fun t kt => K31 t (st33.trans kt)
  have K44 : Gx p e below T0 f0 T33 (mkF m 148 #[.val (.int p1), .val (.int p2), .val (.int p3), .val (.int p4), .val (.int p5), .val (.int (0 : Int32)), .val (.int wq), .val (.ref sa), .val (.ref sb), .val (.ref sc), .val (.ref sd), .val (.ref b1), .unset, .unset, .unset, .unset, .unset] [(.ref sc), (.ref sa), (.ref b1)]) := fun t kt => K43 t (by
    show Steps p.tables e below (T33.setTop (mkF m 142 #[.val (.int p1), .val (.int p2), .val (.int p3), .val (.int p4), .val (.int p5), .val (.int (0 : Int32)), .val (.int wq), .val (.ref sa), .val (.ref sb), .val (.ref sc), .val (.ref sd), .val (.ref b1), .unset, .unset, .unset, .unset, .unset] [])) _
    refine XS.aload X33.here hx rfl (hb hby at_142) rfl rfl ?_
    show Steps p.tables e below (T33.setTop (mkF m 144 #[.val (.int p1), .val (.int p2), .val (.int p3), .val (.int p4), .val (.int p5), .val (.int (0 : Int32)), .val (.int wq), .val (.ref sa), .val (.ref sb), .val (.ref sc), .val (.ref sd), .val (.ref b1), .unset, .unset, .unset, .unset, .unset] [(.ref b1)])) _
    refine XS.aload X33.here hx rfl (hb hby at_144) rfl rfl ?_
    show Steps p.tables e below (T33.setTop (mkF m 146 #[.val (.int p1), .val (.int p2), .val (.int p3), .val (.int p4), .val (.int p5), .val (.int (0 : Int32)), .val (.int wq), .val (.ref sa), .val (.ref sb), .val (.ref sc), .val (.ref sd), .val (.ref b1), .unset, .unset, .unset, .unset, .unset] [(.ref sa), (.ref b1)])) _
    refine XS.aload X33.here hx rfl (hb hby at_146) rfl rfl ?_
    exact kt)
  have f45 : Arv Z h33 pa_11 kp_11 (.object "java/lang/String") (16 : Int32) [.null, .null, .null, .null, .null, .null, .null, .null, .null, .null, .null, .null, .null, .null, .null, .null] .null := (f18.keep Kc33 (ninS (Ne.symm (Nat.ne_of_lt (Nat.lt_of_lt_of_le A1.lt f21))) (ninS f25 nin0)))
  have f46 : Arv Z h33 ua_11 ku_11 (.object "java/lang/String") (16 : Int32) [.null, .null, .null, .null, .null, .null, .null, .null, .null, .null, .null, .null, .null, .null, .null, .null] .null := (f19.keep Kc33 (ninS (Ne.symm (Nat.ne_of_lt (Nat.lt_of_lt_of_le A1.lt f22))) (ninS f26 nin0)))
  have f47 : Exa Z h33 sa "java/lang/String" := (((pr0.ext E1).keep Kc11).keep Kc33)
  have f48 : Fld Z h33 sa "java/lang/String" "coder" "B" (.int (0 : Int32)) := (((pr1.ext E1).keep Kc11 (ninS (Nat.ne_of_lt (Nat.lt_of_lt_of_le pr0.lt (Nat.le_of_eq g1.symm))) nin0)).keep Kc33 (ninS (Nat.ne_of_lt (Nat.lt_of_lt_of_le pr0.lt (Nat.le_of_eq g1.symm))) (ninS (Nat.ne_of_lt (Nat.lt_of_lt_of_le (pr0.ext E1).lt f23)) nin0)))
  have f49 : Fld Z h33 sa "java/lang/String" "value" "[B" (.ref sva) := (((pr2.ext E1).keep Kc11 (ninS (Nat.ne_of_lt (Nat.lt_of_lt_of_le pr0.lt (Nat.le_of_eq g1.symm))) nin0)).keep Kc33 (ninS (Nat.ne_of_lt (Nat.lt_of_lt_of_le pr0.lt (Nat.le_of_eq g1.symm))) (ninS (Nat.ne_of_lt (Nat.lt_of_lt_of_le (pr0.ext E1).lt f23)) nin0)))
  have f50 : Arv Z h33 sva ska .byte sza sxa (.int (0 : Int32)) := (((pr3.ext E1).keep Kc11 (ninS (Nat.ne_of_lt (Nat.lt_of_lt_of_le pr3.lt (Nat.le_of_eq g1.symm))) nin0)).keep Kc33 (ninS (Nat.ne_of_lt (Nat.lt_of_lt_of_le pr3.lt (Nat.le_of_eq g1.symm))) (ninS (Nat.ne_of_lt (Nat.lt_of_lt_of_le (pr3.ext E1).lt f23)) nin0)))
  have f51 : Exa Z h33 sc "java/lang/String" := (((pr8.ext E1).keep Kc11).keep Kc33)
  have f52 : Fld Z h33 sc "java/lang/String" "coder" "B" (.int (0 : Int32)) := (((pr9.ext E1).keep Kc11 (ninS (Nat.ne_of_lt (Nat.lt_of_lt_of_le pr8.lt (Nat.le_of_eq g1.symm))) nin0)).keep Kc33 (ninS (Nat.ne_of_lt (Nat.lt_of_lt_of_le pr8.lt (Nat.le_of_eq g1.symm))) (ninS (Nat.ne_of_lt (Nat.lt_of_lt_of_le (pr8.ext E1).lt f23)) nin0)))
  have f53 : Fld Z h33 sc "java/lang/String" "value" "[B" (.ref svc) := (((pr10.ext E1).keep Kc11 (ninS (Nat.ne_of_lt (Nat.lt_of_lt_of_le pr8.lt (Nat.le_of_eq g1.symm))) nin0)).keep Kc33 (ninS (Nat.ne_of_lt (Nat.lt_of_lt_of_le pr8.lt (Nat.le_of_eq g1.symm))) (ninS (Nat.ne_of_lt (Nat.lt_of_lt_of_le (pr8.ext E1).lt f23)) nin0)))
  have f54 : Arv Z h33 svc skc .byte szc sxc (.int (0 : Int32)) := (((pr11.ext E1).keep Kc11 (ninS (Nat.ne_of_lt (Nat.lt_of_lt_of_le pr11.lt (Nat.le_of_eq g1.symm))) nin0)).keep Kc33 (ninS (Nat.ne_of_lt (Nat.lt_of_lt_of_le pr11.lt (Nat.le_of_eq g1.symm))) (ninS (Nat.ne_of_lt (Nat.lt_of_lt_of_le (pr11.ext E1).lt f23)) nin0)))
  have f55 : Old Z n0 h33 := (((pr16.ext E1).keep Kc11 (allS (Nat.le_trans Z0 (Nat.le_trans (Keep.refl h0 []).1 (Nat.le_of_eq g1.symm))) all0)).keep Kc33 (allS (Nat.le_trans Z0 (Nat.le_trans (Keep.refl h0 []).1 (Nat.le_of_eq g1.symm))) (allS (Nat.le_trans Z0 (Nat.le_trans kp10.1 f23)) all0)))
  have kp56 : Keep h0 h33 [] := (Keep.trans kp32 Kc33 (allS (Or.inr (Nat.le_trans (Keep.refl h0 []).1 (Nat.le_of_eq g1.symm))) (allS (Or.inr (Nat.le_trans kp10.1 f23)) all0)))
  obtain ⟨cq57, kq57, q57a, q57b, q57c⟩ := isOf hZ e33 f35
  obtain ⟨_, _, ⟨T57, L57, k57, n57⟩, -, X57', hSq57, gq57, ⟨Lc57, hQ57, l57, y57, z57, CRq57⟩, st57⟩ := X33.virtualBackS hx (y := (⟨"com/example/stanzacall/stanzacall/xml/Namespaces", "declare", "(Ljava/lang/String;Ljava/lang/String;)V"⟩ : MethodName)) (z := (⟨"com/example/stanzacall/stanzacall/xml/Namespaces", "declare", "(Ljava/lang/String;Ljava/lang/String;)V"⟩ : MethodName)) hown (mvT hZ (hw _ (List.mem_of_getElem? (i := 51) rfl))) (mvT hZ (hw _ (List.mem_of_getElem? (i := 52) rfl))) (notFace_of_selects (args := #[]) (mvT hZ (hw _ (List.mem_of_getElem? (i := 54) rfl)))) (mvT hZ (hw _ (List.mem_of_getElem? (i := 54) rfl))) (mvT hZ (hw _ (List.mem_of_getElem? (i := 53) rfl))) (by decide) (backOfSH (s := s) (vm0 := vm0) (W := 0) (rmDecl0 l Z a0 hw [] b1 sa sc pa_11 ua_11 sc_11 kp_11 ku_11 ks_11 sva ska sza sxa svc skc szc sxc cw h33 n0 (Nat.le_trans Z0 kp56.1) f35 f36 f37 f38 f39 f40 f45 f46 f41 f27 f28 f47 f48 f49 f50 f51 f52 f53 f54 f55 pr17 hcw (Nat.le_trans Z0 (Nat.le_trans (Keep.refl h0 []).1 (Nat.le_of_eq g1.symm))) (Nat.le_trans Z0 (Nat.le_trans kp10.1 f21)) (Nat.le_trans Z0 (Nat.le_trans kp10.1 f22)) (Nat.ne_of_lt (Nat.lt_of_lt_of_le A1.lt f21)) (Nat.ne_of_lt (Nat.lt_of_lt_of_le A1.lt f22)) (Nat.ne_of_lt (Nat.lt_of_lt_of_le A1.lt f23)) f24 f25 f26 hza hzc hac) hZ (hw _ (List.mem_of_getElem? (i := 55) rfl)) (hw _ (List.mem_of_getElem? (i := 28) rfl)) (by decide) (by decide) (own_EW hw) CR42.1) q57a q57c (g := (mkF m 148 #[.val (.int p1), .val (.int p2), .val (.int p3), .val (.int p4), .val (.int p5), .val (.int (0 : Int32)), .val (.int wq), .val (.ref sa), .val (.ref sb), .val (.ref sc), .val (.ref sd), .val (.ref b1), .unset, .unset, .unset, .unset, .unset] [(.ref sc), (.ref sa), (.ref b1)])) rfl (by rw [hml]; rfl) (Steps.refl _) (argsL := [(.ref sa), (.ref sc)]) (rest := []) (lenOf pd__Ljava_lang_String_Ljava_lang_String__V rfl) rfl (by show 2 * 0 + _ ≤ _; exact Nat.le_of_eq rfl) (hb hby at_148) (fun _ _ => ⟨rfl, e33, (by decide : 12 + 8 ≤ _), (by decide : 93 + 308 ≤ _)⟩)
  dsimp only [Pt.U, Pt.locs, Pt.cells, Pt.slots] at X57' l57 y57 z57 st57 hQ57 CRq57 hSq57 gq57
  subst l57 y57 z57
  obtain ⟨X57', hS57, hZ, hown⟩ := rebS hS0 (show _ ≤ T33.heap.size by rw [e33]; exact (Nat.le_trans (Nat.le_trans (Nat.le_trans hk0 E1.1) Kc11.1) Kc33.1)) X57' hSq57 gq57 hZ hown
  obtain ⟨h57, e57⟩ : ∃ z, T57.heap = z := ⟨_, rfl⟩
  rw [e57] at hQ57 CRq57
  obtain ⟨rfl, N57q, Kc57, f58, f59, f60, f61, f62, f63, f64, f65⟩ := hQ57
  obtain ⟨lc57, X57, N57⟩ : ∃ lc, Stand p l e room_1 (s.setVm T57.vm) m #[(.int p1), (.int p2), (.int p3), (.int p4), (.int p5)] below meth c T57 lc 20 401 ∧ Fr n0 lc := ⟨_, X57', Fr.app N33 N57q⟩
  have CR66 : CHr Z ELx s.vm s.heap T57.vm h57 := CR42.trans CRq57
  have K67 : Gx p e below T0 f0 T57 (mkF m 151 #[.val (.int p1), .val (.int p2), .val (.int p3), .val (.int p4), .val (.int p5), .val (.int (0 : Int32)), .val (.int wq), .val (.ref sa), .val (.ref sb), .val (.ref sc), .val (.ref sd), .val (.ref b1), .unset, .unset, .unset, .unset, .unset] []) := fun t kt => K44 t (st57.trans kt)
  have K68 : Gx p e below T0 f0 T57 (mkF m 153 #[.val (.int p1), .val (.int p2), .val (.int p3), .val (.int p4), .val (.int p5), .val (.int (0 : Int32)), .val (.int wq), .val (.ref sa), .val (.ref sb), .val (.ref sc), .val (.ref sd), .val (.ref b1), .unset, .unset, .unset, .unset, .unset] [(.ref b1)]) := fun t kt => K67 t (by
    show Steps p.tables e below (T57.setTop (mkF m 151 #[.val (.int p1), .val (.int p2), .val (.int p3), .val (.int p4), .val (.int p5), .val (.int (0 : Int32)), .val (.int wq), .val (.ref sa), .val (.ref sb), .val (.ref sc), .val (.ref sd), .val (.ref b1), .unset, .unset, .unset, .unset, .unset] [])) _
    refine XS.aload X57.here hx rfl (hb hby at_151) rfl rfl ?_
    exact kt)
  have f69 : Arv Z h57 sc_11 ks_11 .int (16 : Int32) [(.int (0 : Int32)), (.int (0 : Int32)), (.int (0 : Int32)), (.int (0 : Int32)), (.int (0 : Int32)), (.int (0 : Int32)), (.int (0 : Int32)), (.int (0 : Int32)), (.int (0 : Int32)), (.int (0 : Int32)), (.int (0 : Int32)), (.int (0 : Int32)), (.int (0 : Int32)), (.int (0 : Int32)), (.int (0 : Int32)), (.int (0 : Int32))] (.int (0 : Int32)) := (f41.keep Kc57 (ninS (Ne.symm (Nat.ne_of_lt (Nat.lt_of_lt_of_le A1.lt f23))) (ninS (Ne.symm f25) (ninS (Ne.symm f26) nin0))))
  have kp70 : Keep h0 h57 [] := (Keep.trans kp56 Kc57 (allS (Or.inr (Nat.le_trans (Keep.refl h0 []).1 (Nat.le_of_eq g1.symm))) (allS (Or.inr (Nat.le_trans kp10.1 f21)) (allS (Or.inr (Nat.le_trans kp10.1 f22)) all0))))
  obtain ⟨cq71, kq71, q71a, q71b, q71c⟩ := isOf hZ e57 f58
  obtain ⟨_, _, ⟨T71, L71, k71, n71⟩, -, X71', ⟨Lc71, hQ71, l71, y71, z71⟩, st71⟩ := X57.virtualBack hx (y := (⟨"com/example/stanzacall/stanzacall/xml/Namespaces", "open", "()V"⟩ : MethodName)) (z := (⟨"com/example/stanzacall/stanzacall/xml/Namespaces", "open", "()V"⟩ : MethodName)) hown (mvT hZ (hw _ (List.mem_of_getElem? (i := 42) rfl))) (mvT hZ (hw _ (List.mem_of_getElem? (i := 43) rfl))) (notFace_of_selects (args := #[]) (mvT hZ (hw _ (List.mem_of_getElem? (i := 45) rfl)))) (mvT hZ (hw _ (List.mem_of_getElem? (i := 45) rfl))) (mvT hZ (hw _ (List.mem_of_getElem? (i := 44) rfl))) (by decide) (backOf (W := 0) (rmOpen1 l Z a0 hw [] b1 pa_11 ua_11 sc_11 ks_11 h57 n0 (Nat.le_trans Z0 kp70.1) f58 f59 f60 f61 f62 f63 f69 (Nat.le_trans Z0 (Nat.le_trans (Keep.refl h0 []).1 (Nat.le_of_eq g1.symm))) (Nat.le_trans Z0 (Nat.le_trans kp10.1 f23)) (Nat.ne_of_lt (Nat.lt_of_lt_of_le A1.lt f23))) hZ (hw _ (List.mem_of_getElem? (i := 46) rfl)) (hw _ (List.mem_of_getElem? (i := 28) rfl)) (by decide) (by decide)) q71a q71c (g := (mkF m 153 #[.val (.int p1), .val (.int p2), .val (.int p3), .val (.int p4), .val (.int p5), .val (.int (0 : Int32)), .val (.int wq), .val (.ref sa), .val (.ref sb), .val (.ref sc), .val (.ref sd), .val (.ref b1), .unset, .unset, .unset, .unset, .unset] [(.ref b1)])) rfl (by rw [hml]; rfl) (Steps.refl _) (argsL := []) (rest := []) (lenOf pd___V rfl) rfl (by show 2 * 0 + _ ≤ _; exact Nat.le_of_eq rfl) (hb hby at_153) (fun _ _ => ⟨rfl, e57, (by decide : 20 + 0 ≤ _), (by decide : 401 + 0 ≤ _)⟩)
  dsimp only [Pt.U, Pt.locs, Pt.cells, Pt.slots] at X71' l71 y71 z71 st71 hQ71
  subst l71 y71 z71
  obtain ⟨clq72, Arq72, ckq72, cSq72, cNq72, cHq72, cGq72⟩ := id f69
  obtain ⟨h71, e71⟩ : ∃ z, T71.heap = z := ⟨_, rfl⟩
  rw [e71] at hQ71
  obtain ⟨rfl, N71q, Kc71, f73, f74, f75, f76, f77, f78, f79⟩ := hQ71
  obtain ⟨lc71, X71, N71⟩ : ∃ lc, Stand p l e room_1 (s.setVm T57.vm) m #[(.int p1), (.int p2), (.int p3), (.int p4), (.int p5)] below meth c T71 lc 20 401 ∧ Fr n0 lc := ⟨_, X71', Fr.app N57 N71q⟩
  have CR80 : CHr Z ELx s.vm s.heap T57.vm h71 := CR66.trans (CHr.keep Kc71 (allS (Safe.exa hZ.alike f58 (by decide) (by decide)) (allS (Safe.arr hZ.alike Arq72 (by decide)) all0)) CR66.1)
  have K81 : Gx p e below T0 f0 T71 (mkF m 156 #[.val (.int p1), .val (.int p2), .val (.int p3), .val (.int p4), .val (.int p5), .val (.int (0 : Int32)), .val (.int wq), .val (.ref sa), .val (.ref sb), .val (.ref sc), .val (.ref sd), .val (.ref b1), .unset, .unset, .unset, .unset, .unset] []) := fun t kt => K68 t (st71.trans kt)
  have K82 : Gx p e below T0 f0 T71 (mkF m 162 #[.val (.int p1), .val (.int p2), .val (.int p3), .val (.int p4), .val (.int p5), .val (.int (0 : Int32)), .val (.int wq), .val (.ref sa), .val (.ref sb), .val (.ref sc), .val (.ref sd), .val (.ref b1), .unset, .unset, .unset, .unset, .unset] [(.ref sd), (.ref sb), (.ref b1)]) := fun t kt => K81 t (by
    show Steps p.tables e below (T71.setTop (mkF m 156 #[.val (.int p1), .val (.int p2), .val (.int p3), .val (.int p4), .val (.int p5), .val (.int (0 : Int32)), .val (.int wq), .val (.ref sa), .val (.ref sb), .val (.ref sc), .val (.ref sd), .val (.ref b1), .unset, .unset, .unset, .unset, .unset] [])) _
    refine XS.aload X71.here hx rfl (hb hby at_156) rfl rfl ?_
    show Steps p.tables e below (T71.setTop (mkF m 158 #[.val (.int p1), .val (.int p2), .val (.int p3), .val (.int p4), .val (.int p5), .val (.int (0 : Int32)), .val (.int wq), .val (.ref sa), .val (.ref sb), .val (.ref sc), .val (.ref sd), .val (.ref b1), .unset, .unset, .unset, .unset, .unset] [(.ref b1)])) _
    refine XS.aload X71.here hx rfl (hb hby at_158) rfl rfl ?_
    show Steps p.tables e below (T71.setTop (mkF m 160 #[.val (.int p1), .val (.int p2), .val (.int p3), .val (.int p4), .val (.int p5), .val (.int (0 : Int32)), .val (.int wq), .val (.ref sa), .val (.ref sb), .val (.ref sc), .val (.ref sd), .val (.ref b1), .unset, .unset, .unset, .unset, .unset] [(.ref sb), (.ref b1)])) _
    refine XS.aload X71.here hx rfl (hb hby at_160) rfl rfl ?_
    exact kt)
  have f83 : Arv Z h71 pa_11 kp_11 (.object "java/lang/String") (16 : Int32) [(.ref sa), .null, .null, .null, .null, .null, .null, .null, .null, .null, .null, .null, .null, .null, .null, .null] .null := (f64.keep Kc71 (ninS (Ne.symm (Nat.ne_of_lt (Nat.lt_of_lt_of_le A1.lt f21))) (ninS f25 nin0)))
  have f84 : Arv Z h71 ua_11 ku_11 (.object "java/lang/String") (16 : Int32) [(.ref sc), .null, .null, .null, .null, .null, .null, .null, .null, .null, .null, .null, .null, .null, .null, .null] .null := (f65.keep Kc71 (ninS (Ne.symm (Nat.ne_of_lt (Nat.lt_of_lt_of_le A1.lt f22))) (ninS f26 nin0)))
  have f85 : Exa Z h71 sb "java/lang/String" := (((((pr4.ext E1).keep Kc11).keep Kc33).keep Kc57).keep Kc71)
  have f86 : Fld Z h71 sb "java/lang/String" "coder" "B" (.int (0 : Int32)) := (((((pr5.ext E1).keep Kc11 (ninS (Nat.ne_of_lt (Nat.lt_of_lt_of_le pr4.lt (Nat.le_of_eq g1.symm))) nin0)).keep Kc33 (ninS (Nat.ne_of_lt (Nat.lt_of_lt_of_le pr4.lt (Nat.le_of_eq g1.symm))) (ninS (Nat.ne_of_lt (Nat.lt_of_lt_of_le (pr4.ext E1).lt f23)) nin0))).keep Kc57 (ninS (Nat.ne_of_lt (Nat.lt_of_lt_of_le pr4.lt (Nat.le_of_eq g1.symm))) (ninS (Nat.ne_of_lt (Nat.lt_of_lt_of_le (pr4.ext E1).lt f21)) (ninS (Nat.ne_of_lt (Nat.lt_of_lt_of_le (pr4.ext E1).lt f22)) nin0)))).keep Kc71 (ninS (Nat.ne_of_lt (Nat.lt_of_lt_of_le pr4.lt (Nat.le_of_eq g1.symm))) (ninS (Nat.ne_of_lt (Nat.lt_of_lt_of_le (pr4.ext E1).lt f23)) nin0)))
  have f87 : Fld Z h71 sb "java/lang/String" "value" "[B" (.ref svb) := (((((pr6.ext E1).keep Kc11 (ninS (Nat.ne_of_lt (Nat.lt_of_lt_of_le pr4.lt (Nat.le_of_eq g1.symm))) nin0)).keep Kc33 (ninS (Nat.ne_of_lt (Nat.lt_of_lt_of_le pr4.lt (Nat.le_of_eq g1.symm))) (ninS (Nat.ne_of_lt (Nat.lt_of_lt_of_le (pr4.ext E1).lt f23)) nin0))).keep Kc57 (ninS (Nat.ne_of_lt (Nat.lt_of_lt_of_le pr4.lt (Nat.le_of_eq g1.symm))) (ninS (Nat.ne_of_lt (Nat.lt_of_lt_of_le (pr4.ext E1).lt f21)) (ninS (Nat.ne_of_lt (Nat.lt_of_lt_of_le (pr4.ext E1).lt f22)) nin0)))).keep Kc71 (ninS (Nat.ne_of_lt (Nat.lt_of_lt_of_le pr4.lt (Nat.le_of_eq g1.symm))) (ninS (Nat.ne_of_lt (Nat.lt_of_lt_of_le (pr4.ext E1).lt f23)) nin0)))
  have f88 : Arv Z h71 svb skb .byte szb sxb (.int (0 : Int32)) := (((((pr7.ext E1).keep Kc11 (ninS (Nat.ne_of_lt (Nat.lt_of_lt_of_le pr7.lt (Nat.le_of_eq g1.symm))) nin0)).keep Kc33 (ninS (Nat.ne_of_lt (Nat.lt_of_lt_of_le pr7.lt (Nat.le_of_eq g1.symm))) (ninS (Nat.ne_of_lt (Nat.lt_of_lt_of_le (pr7.ext E1).lt f23)) nin0))).keep Kc57 (ninS (Nat.ne_of_lt (Nat.lt_of_lt_of_le pr7.lt (Nat.le_of_eq g1.symm))) (ninS (Nat.ne_of_lt (Nat.lt_of_lt_of_le (pr7.ext E1).lt f21)) (ninS (Nat.ne_of_lt (Nat.lt_of_lt_of_le (pr7.ext E1).lt f22)) nin0)))).keep Kc71 (ninS (Nat.ne_of_lt (Nat.lt_of_lt_of_le pr7.lt (Nat.le_of_eq g1.symm))) (ninS (Nat.ne_of_lt (Nat.lt_of_lt_of_le (pr7.ext E1).lt f23)) nin0)))
  have f89 : Exa Z h71 sd "java/lang/String" := (((((pr12.ext E1).keep Kc11).keep Kc33).keep Kc57).keep Kc71)
  have f90 : Fld Z h71 sd "java/lang/String" "coder" "B" (.int (0 : Int32)) := (((((pr13.ext E1).keep Kc11 (ninS (Nat.ne_of_lt (Nat.lt_of_lt_of_le pr12.lt (Nat.le_of_eq g1.symm))) nin0)).keep Kc33 (ninS (Nat.ne_of_lt (Nat.lt_of_lt_of_le pr12.lt (Nat.le_of_eq g1.symm))) (ninS (Nat.ne_of_lt (Nat.lt_of_lt_of_le (pr12.ext E1).lt f23)) nin0))).keep Kc57 (ninS (Nat.ne_of_lt (Nat.lt_of_lt_of_le pr12.lt (Nat.le_of_eq g1.symm))) (ninS (Nat.ne_of_lt (Nat.lt_of_lt_of_le (pr12.ext E1).lt f21)) (ninS (Nat.ne_of_lt (Nat.lt_of_lt_of_le (pr12.ext E1).lt f22)) nin0)))).keep Kc71 (ninS (Nat.ne_of_lt (Nat.lt_of_lt_of_le pr12.lt (Nat.le_of_eq g1.symm))) (ninS (Nat.ne_of_lt (Nat.lt_of_lt_of_le (pr12.ext E1).lt f23)) nin0)))
  have f91 : Fld Z h71 sd "java/lang/String" "value" "[B" (.ref svd) := (((((pr14.ext E1).keep Kc11 (ninS (Nat.ne_of_lt (Nat.lt_of_lt_of_le pr12.lt (Nat.le_of_eq g1.symm))) nin0)).keep Kc33 (ninS (Nat.ne_of_lt (Nat.lt_of_lt_of_le pr12.lt (Nat.le_of_eq g1.symm))) (ninS (Nat.ne_of_lt (Nat.lt_of_lt_of_le (pr12.ext E1).lt f23)) nin0))).keep Kc57 (ninS (Nat.ne_of_lt (Nat.lt_of_lt_of_le pr12.lt (Nat.le_of_eq g1.symm))) (ninS (Nat.ne_of_lt (Nat.lt_of_lt_of_le (pr12.ext E1).lt f21)) (ninS (Nat.ne_of_lt (Nat.lt_of_lt_of_le (pr12.ext E1).lt f22)) nin0)))).keep Kc71 (ninS (Nat.ne_of_lt (Nat.lt_of_lt_of_le pr12.lt (Nat.le_of_eq g1.symm))) (ninS (Nat.ne_of_lt (Nat.lt_of_lt_of_le (pr12.ext E1).lt f23)) nin0)))
  have f92 : Arv Z h71 svd skd .byte szd sxd (.int (0 : Int32)) := (((((pr15.ext E1).keep Kc11 (ninS (Nat.ne_of_lt (Nat.lt_of_lt_of_le pr15.lt (Nat.le_of_eq g1.symm))) nin0)).keep Kc33 (ninS (Nat.ne_of_lt (Nat.lt_of_lt_of_le pr15.lt (Nat.le_of_eq g1.symm))) (ninS (Nat.ne_of_lt (Nat.lt_of_lt_of_le (pr15.ext E1).lt f23)) nin0))).keep Kc57 (ninS (Nat.ne_of_lt (Nat.lt_of_lt_of_le pr15.lt (Nat.le_of_eq g1.symm))) (ninS (Nat.ne_of_lt (Nat.lt_of_lt_of_le (pr15.ext E1).lt f21)) (ninS (Nat.ne_of_lt (Nat.lt_of_lt_of_le (pr15.ext E1).lt f22)) nin0)))).keep Kc71 (ninS (Nat.ne_of_lt (Nat.lt_of_lt_of_le pr15.lt (Nat.le_of_eq g1.symm))) (ninS (Nat.ne_of_lt (Nat.lt_of_lt_of_le (pr15.ext E1).lt f23)) nin0)))
  have f93 : Old Z n0 h71 := ((f55.keep Kc57 (allS (Nat.le_trans Z0 (Nat.le_trans (Keep.refl h0 []).1 (Nat.le_of_eq g1.symm))) (allS (Nat.le_trans Z0 (Nat.le_trans kp10.1 f21)) (allS (Nat.le_trans Z0 (Nat.le_trans kp10.1 f22)) all0)))).keep Kc71 (allS (Nat.le_trans Z0 (Nat.le_trans (Keep.refl h0 []).1 (Nat.le_of_eq g1.symm))) (allS (Nat.le_trans Z0 (Nat.le_trans kp10.1 f23)) all0)))
  have kp94 : Keep h0 h71 [] := (Keep.trans kp70 Kc71 (allS (Or.inr (Nat.le_trans (Keep.refl h0 []).1 (Nat.le_of_eq g1.symm))) (allS (Or.inr (Nat.le_trans kp10.1 f23)) all0)))
  obtain ⟨cq95, kq95, q95a, q95b, q95c⟩ := isOf hZ e71 f73
  obtain ⟨_, _, ⟨T95, L95, k95, n95⟩, -, X95', hSq95, gq95, ⟨Lc95, hQ95, l95, y95, z95, CRq95⟩, st95⟩ := X71.virtualBackS hx (y := (⟨"com/example/stanzacall/stanzacall/xml/Namespaces", "declare", "(Ljava/lang/String;Ljava/lang/String;)V"⟩ : MethodName)) (z := (⟨"com/example/stanzacall/stanzacall/xml/Namespaces", "declare", "(Ljava/lang/String;Ljava/lang/String;)V"⟩ : MethodName)) hown (mvT hZ (hw _ (List.mem_of_getElem? (i := 51) rfl))) (mvT hZ (hw _ (List.mem_of_getElem? (i := 52) rfl))) (notFace_of_selects (args := #[]) (mvT hZ (hw _ (List.mem_of_getElem? (i := 54) rfl)))) (mvT hZ (hw _ (List.mem_of_getElem? (i := 54) rfl))) (mvT hZ (hw _ (List.mem_of_getElem? (i := 53) rfl))) (by decide) (backOfSH (s := s) (vm0 := T57.vm) (W := 0) (rmDecl1 l Z a0 hw [] b1 sb sd pa_11 ua_11 sc_11 kp_11 ku_11 ks_11 sa sc svb skb szb sxb svd skd szd sxd cw h71 n0 (Nat.le_trans Z0 kp94.1) f73 f74 f75 f76 f77 f78 f83 f84 f79 f27 f28 f85 f86 f87 f88 f89 f90 f91 f92 f93 pr17 hcw (Nat.le_trans Z0 (Nat.le_trans (Keep.refl h0 []).1 (Nat.le_of_eq g1.symm))) (Nat.le_trans Z0 (Nat.le_trans kp10.1 f21)) (Nat.le_trans Z0 (Nat.le_trans kp10.1 f22)) (Nat.ne_of_lt (Nat.lt_of_lt_of_le A1.lt f21)) (Nat.ne_of_lt (Nat.lt_of_lt_of_le A1.lt f22)) (Nat.ne_of_lt (Nat.lt_of_lt_of_le A1.lt f23)) f24 f25 f26 hzb hzd hbd) hZ (hw _ (List.mem_of_getElem? (i := 55) rfl)) (hw _ (List.mem_of_getElem? (i := 28) rfl)) (by decide) (by decide) (own_EW hw) CR80.1) q95a q95c (g := (mkF m 162 #[.val (.int p1), .val (.int p2), .val (.int p3), .val (.int p4), .val (.int p5), .val (.int (0 : Int32)), .val (.int wq), .val (.ref sa), .val (.ref sb), .val (.ref sc), .val (.ref sd), .val (.ref b1), .unset, .unset, .unset, .unset, .unset] [(.ref sd), (.ref sb), (.ref b1)])) rfl (by rw [hml]; rfl) (Steps.refl _) (argsL := [(.ref sb), (.ref sd)]) (rest := []) (lenOf pd__Ljava_lang_String_Ljava_lang_String__V rfl) rfl (by show 2 * 0 + _ ≤ _; exact Nat.le_of_eq rfl) (hb hby at_162) (fun _ _ => ⟨rfl, e71, (by decide : 20 + 8 ≤ _), (by decide : 401 + 308 ≤ _)⟩)
  dsimp only [Pt.U, Pt.locs, Pt.cells, Pt.slots] at X95' l95 y95 z95 st95 hQ95 CRq95 hSq95 gq95
  subst l95 y95 z95
  obtain ⟨X95', hS95, hZ, hown⟩ := rebS hS57 (show _ ≤ T71.heap.size by rw [e71]; exact (Nat.le_trans (Nat.le_of_eq (congrArg Array.size e57)) Kc71.1)) X95' hSq95 gq95 hZ hown
  obtain ⟨h95, e95⟩ : ∃ z, T95.heap = z := ⟨_, rfl⟩
  rw [e95] at hQ95 CRq95
  obtain ⟨rfl, N95q, Kc95, f96, f97, f98, f99, f100, f101, f102, f103⟩ := hQ95
  obtain ⟨lc95, X95, N95⟩ : ∃ lc, Stand p l e room_1 (s.setVm T95.vm) m #[(.int p1), (.int p2), (.int p3), (.int p4), (.int p5)] below meth c T95 lc 28 709 ∧ Fr n0 lc := ⟨_, X95', Fr.app N71 N95q⟩
  have CR104 : CHr Z ELx s.vm s.heap T95.vm h95 := CR80.trans CRq95
  have K105 : Gx p e below T0 f0 T95 (mkF m 165 #[.val (.int p1), .val (.int p2), .val (.int p3), .val (.int p4), .val (.int p5), .val (.int (0 : Int32)), .val (.int wq), .val (.ref sa), .val (.ref sb), .val (.ref sc), .val (.ref sd), .val (.ref b1), .unset, .unset, .unset, .unset, .unset] []) := fun t kt => K82 t (st95.trans kt)
  have K106 : Gx p e below T0 f0 T95 (mkF m 169 #[.val (.int p1), .val (.int p2), .val (.int p3), .val (.int p4), .val (.int p5), .val (.int (0 : Int32)), .val (.int wq), .val (.ref sa), .val (.ref sb), .val (.ref sc), .val (.ref sd), .val (.ref b1), .unset, .unset, .unset, .unset, .unset] [(.ref sb), (.ref b1)]) := fun t kt => K105 t (by
    show Steps p.tables e below (T95.setTop (mkF m 165 #[.val (.int p1), .val (.int p2), .val (.int p3), .val (.int p4), .val (.int p5), .val (.int (0 : Int32)), .val (.int wq), .val (.ref sa), .val (.ref sb), .val (.ref sc), .val (.ref sd), .val (.ref b1), .unset, .unset, .unset, .unset, .unset] [])) _
    refine XS.aload X95.here hx rfl (hb hby at_165) rfl rfl ?_
    show Steps p.tables e below (T95.setTop (mkF m 167 #[.val (.int p1), .val (.int p2), .val (.int p3), .val (.int p4), .val (.int p5), .val (.int (0 : Int32)), .val (.int wq), .val (.ref sa), .val (.ref sb), .val (.ref sc), .val (.ref sd), .val (.ref b1), .unset, .unset, .unset, .unset, .unset] [(.ref b1)])) _
    refine XS.aload X95.here hx rfl (hb hby at_167) rfl rfl ?_
    exact kt)
  have f107 : Exa Z h95 sb "java/lang/String" := (f85.keep Kc95)
  have kp108 : Keep h0 h95 [] := (Keep.trans kp94 Kc95 (allS (Or.inr (Nat.le_trans (Keep.refl h0 []).1 (Nat.le_of_eq g1.symm))) (allS (Or.inr (Nat.le_trans kp10.1 f21)) (allS (Or.inr (Nat.le_trans kp10.1 f22)) all0))))
  obtain ⟨cq109, kq109, q109a, q109b, q109c⟩ := isOf hZ e95 f96
  obtain ⟨_, _, ⟨T109, L109, k109, n109⟩, -, X109', ⟨Lc109, hQ109, l109, y109, z109⟩, st109⟩ := X95.virtualBack hx (y := (⟨"com/example/stanzacall/stanzacall/xml/Namespaces", "uri", "(Ljava/lang/String;)Ljava/lang/String;"⟩ : MethodName)) (z := (⟨"com/example/stanzacall/stanzacall/xml/Namespaces", "uri", "(Ljava/lang/String;)Ljava/lang/String;"⟩ : MethodName)) hown (mvT hZ (hw _ (List.mem_of_getElem? (i := 75) rfl))) (mvT hZ (hw _ (List.mem_of_getElem? (i := 76) rfl))) (notFace_of_selects (args := #[]) (mvT hZ (hw _ (List.mem_of_getElem? (i := 78) rfl)))) (mvT hZ (hw _ (List.mem_of_getElem? (i := 78) rfl))) (mvT hZ (hw _ (List.mem_of_getElem? (i := 77) rfl))) (by decide) (backOf (W := 0) (rmUri2 l Z a0 hw [] b1 sb pa_11 ua_11 kp_11 ku_11 sa sc sd h95 n0 (Nat.le_trans Z0 kp108.1) f96 f97 f98 f101 f102 f103 f107) hZ (hw _ (List.mem_of_getElem? (i := 79) rfl)) (hw _ (List.mem_of_getElem? (i := 28) rfl)) (by decide) (by decide)) q109a q109c (g := (mkF m 169 #[.val (.int p1), .val (.int p2), .val (.int p3), .val (.int p4), .val (.int p5), .val (.int (0 : Int32)), .val (.int wq), .val (.ref sa), .val (.ref sb), .val (.ref sc), .val (.ref sd), .val (.ref b1), .unset, .unset, .unset, .unset, .unset] [(.ref sb), (.ref b1)])) rfl (by rw [hml]; rfl) (Steps.refl _) (argsL := [(.ref sb)]) (rest := []) (lenOf pd__Ljava_lang_String__Ljava_lang_String_ rfl) rfl (by show 2 * 0 + _ ≤ _; exact Nat.le_of_eq rfl) (hb hby at_169) (fun _ _ => ⟨rfl, e95, (by decide : 28 + 0 ≤ _), (by decide : 709 + 0 ≤ _)⟩)
  dsimp only [Pt.U, Pt.locs, Pt.cells, Pt.slots] at X109' l109 y109 z109 st109 hQ109
  subst l109 y109 z109
  obtain ⟨rfl, N109q, e109⟩ := hQ109
  obtain ⟨lc109, X109, N109⟩ : ∃ lc, Stand p l e room_1 (s.setVm T95.vm) m #[(.int p1), (.int p2), (.int p3), (.int p4), (.int p5)] below meth c T109 lc 28 709 ∧ Fr n0 lc := ⟨_, X109', Fr.app N95 N109q⟩
  have K110 : Gx p e below T0 f0 T109 (mkF m 172 #[.val (.int p1), .val (.int p2), .val (.int p3), .val (.int p4), .val (.int p5), .val (.int (0 : Int32)), .val (.int wq), .val (.ref sa), .val (.ref sb), .val (.ref sc), .val (.ref sd), .val (.ref b1), .unset, .unset, .unset, .unset, .unset] [(.ref sd)]) := fun t kt => K106 t (st109.trans kt)
  have K111 : Gx p e below T0 f0 T109 (mkF m 176 #[.val (.int p1), .val (.int p2), .val (.int p3), .val (.int p4), .val (.int p5), .val (.int (0 : Int32)), .val (.int wq), .val (.ref sa), .val (.ref sb), .val (.ref sc), .val (.ref sd), .val (.ref b1), .val (.ref sd), .unset, .unset, .unset, .unset] [(.ref b1)]) := fun t kt => K110 t (by
    show Steps p.tables e below (T109.setTop (mkF m 172 #[.val (.int p1), .val (.int p2), .val (.int p3), .val (.int p4), .val (.int p5), .val (.int (0 : Int32)), .val (.int wq), .val (.ref sa), .val (.ref sb), .val (.ref sc), .val (.ref sd), .val (.ref b1), .unset, .unset, .unset, .unset, .unset] [(.ref sd)])) _
    refine XS.astore X109.here hx rfl (hb hby at_172) rfl rfl (l' := #[.val (.int p1), .val (.int p2), .val (.int p3), .val (.int p4), .val (.int p5), .val (.int (0 : Int32)), .val (.int wq), .val (.ref sa), .val (.ref sb), .val (.ref sc), .val (.ref sd), .val (.ref b1), .val (.ref sd), .unset, .unset, .unset, .unset]) rfl ?_
    show Steps p.tables e below (T109.setTop (mkF m 174 #[.val (.int p1), .val (.int p2), .val (.int p3), .val (.int p4), .val (.int p5), .val (.int (0 : Int32)), .val (.int wq), .val (.ref sa), .val (.ref sb), .val (.ref sc), .val (.ref sd), .val (.ref b1), .val (.ref sd), .unset, .unset, .unset, .unset] [])) _
    refine XS.aload X109.here hx rfl (hb hby at_174) rfl rfl ?_
    exact kt)
  have f112 : Arv Z h95 sc_11 ks_11 .int (16 : Int32) [(.int (0 : Int32)), (.int (1 : Int32)), (.int (0 : Int32)), (.int (0 : Int32)), (.int (0 : Int32)), (.int (0 : Int32)), (.int (0 : Int32)), (.int (0 : Int32)), (.int (0 : Int32)), (.int (0 : Int32)), (.int (0 : Int32)), (.int (0 : Int32)), (.int (0 : Int32)), (.int (0 : Int32)), (.int (0 : Int32)), (.int (0 : Int32))] (.int (0 : Int32)) := (f79.keep Kc95 (ninS (Ne.symm (Nat.ne_of_lt (Nat.lt_of_lt_of_le A1.lt f23))) (ninS (Ne.symm f25) (ninS (Ne.symm f26) nin0))))
  obtain ⟨cq113, kq113, q113a, q113b, q113c⟩ := isOf hZ e109 f96
  obtain ⟨_, _, ⟨T113, L113, k113, n113⟩, -, X113', ⟨Lc113, hQ113, l113, y113, z113⟩, st113⟩ := X109.virtualBack hx (y := (⟨"com/example/stanzacall/stanzacall/xml/Namespaces", "close", "()V"⟩ : MethodName)) (z := (⟨"com/example/stanzacall/stanzacall/xml/Namespaces", "close", "()V"⟩ : MethodName)) hown (mvT hZ (hw _ (List.mem_of_getElem? (i := 80) rfl))) (mvT hZ (hw _ (List.mem_of_getElem? (i := 81) rfl))) (notFace_of_selects (args := #[]) (mvT hZ (hw _ (List.mem_of_getElem? (i := 83) rfl)))) (mvT hZ (hw _ (List.mem_of_getElem? (i := 83) rfl))) (mvT hZ (hw _ (List.mem_of_getElem? (i := 82) rfl))) (by decide) (backOf (W := 0) (rmClose2 l Z a0 hw [] b1 pa_11 ua_11 sc_11 ks_11 h95 n0 (Nat.le_trans Z0 kp108.1) f96 f97 f98 f99 f100 f101 f112 (Nat.le_trans Z0 (Nat.le_trans (Keep.refl h0 []).1 (Nat.le_of_eq g1.symm))) (Nat.ne_of_lt (Nat.lt_of_lt_of_le A1.lt f23))) hZ (hw _ (List.mem_of_getElem? (i := 84) rfl)) (hw _ (List.mem_of_getElem? (i := 28) rfl)) (by decide) (by decide)) q113a q113c (g := (mkF m 176 #[.val (.int p1), .val (.int p2), .val (.int p3), .val (.int p4), .val (.int p5), .val (.int (0 : Int32)), .val (.int wq), .val (.ref sa), .val (.ref sb), .val (.ref sc), .val (.ref sd), .val (.ref b1), .val (.ref sd), .unset, .unset, .unset, .unset] [(.ref b1)])) rfl (by rw [hml]; rfl) (Steps.refl _) (argsL := []) (rest := []) (lenOf pd___V rfl) rfl (by show 2 * 0 + _ ≤ _; exact Nat.le_of_eq rfl) (hb hby at_176) (fun _ _ => ⟨rfl, e109, (by decide : 28 + 0 ≤ _), (by decide : 709 + 0 ≤ _)⟩)
  dsimp only [Pt.U, Pt.locs, Pt.cells, Pt.slots] at X113' l113 y113 z113 st113 hQ113
  subst l113 y113 z113
  obtain ⟨h113, e113⟩ : ∃ z, T113.heap = z := ⟨_, rfl⟩
  rw [e113] at hQ113
  obtain ⟨rfl, N113q, Kc113, f114, f115, f116, f117, f118, f119⟩ := hQ113
  obtain ⟨lc113, X113, N113⟩ : ∃ lc, Stand p l e room_1 (s.setVm T95.vm) m #[(.int p1), (.int p2), (.int p3), (.int p4), (.int p5)] below meth c T113 lc 28 709 ∧ Fr n0 lc := ⟨_, X113', Fr.app N109 N113q⟩
  have CR120 : CHr Z ELx s.vm s.heap T95.vm h113 := CR104.trans (CHr.keep Kc113 (allS (Safe.exa hZ.alike f96 (by decide) (by decide)) all0) CR104.1)
  have K121 : Gx p e below T0 f0 T113 (mkF m 179 #[.val (.int p1), .val (.int p2), .val (.int p3), .val (.int p4), .val (.int p5), .val (.int (0 : Int32)), .val (.int wq), .val (.ref sa), .val (.ref sb), .val (.ref sc), .val (.ref sd), .val (.ref b1), .val (.ref sd), .unset, .unset, .unset, .unset] []) := fun t kt => K111 t (st113.trans kt)
  have K122 : Gx p e below T0 f0 T113 (mkF m 183 #[.val (.int p1), .val (.int p2), .val (.int p3), .val (.int p4), .val (.int p5), .val (.int (0 : Int32)), .val (.int wq), .val (.ref sa), .val (.ref sb), .val (.ref sc), .val (.ref sd), .val (.ref b1), .val (.ref sd), .unset, .unset, .unset, .unset] [(.ref sa), (.ref b1)]) := fun t kt => K121 t (by
    show Steps p.tables e below (T113.setTop (mkF m 179 #[.val (.int p1), .val (.int p2), .val (.int p3), .val (.int p4), .val (.int p5), .val (.int (0 : Int32)), .val (.int wq), .val (.ref sa), .val (.ref sb), .val (.ref sc), .val (.ref sd), .val (.ref b1), .val (.ref sd), .unset, .unset, .unset, .unset] [])) _
    refine XS.aload X113.here hx rfl (hb hby at_179) rfl rfl ?_
    show Steps p.tables e below (T113.setTop (mkF m 181 #[.val (.int p1), .val (.int p2), .val (.int p3), .val (.int p4), .val (.int p5), .val (.int (0 : Int32)), .val (.int wq), .val (.ref sa), .val (.ref sb), .val (.ref sc), .val (.ref sd), .val (.ref b1), .val (.ref sd), .unset, .unset, .unset, .unset] [(.ref b1)])) _
    refine XS.aload X113.here hx rfl (hb hby at_181) rfl rfl ?_
    exact kt)
  have f123 : Arv Z h113 pa_11 kp_11 (.object "java/lang/String") (16 : Int32) [(.ref sa), (.ref sb), .null, .null, .null, .null, .null, .null, .null, .null, .null, .null, .null, .null, .null, .null] .null := (f102.keep Kc113 (ninS (Ne.symm (Nat.ne_of_lt (Nat.lt_of_lt_of_le A1.lt f21))) nin0))
  have f124 : Arv Z h113 ua_11 ku_11 (.object "java/lang/String") (16 : Int32) [(.ref sc), (.ref sd), .null, .null, .null, .null, .null, .null, .null, .null, .null, .null, .null, .null, .null, .null] .null := (f103.keep Kc113 (ninS (Ne.symm (Nat.ne_of_lt (Nat.lt_of_lt_of_le A1.lt f22))) nin0))
  have f125 : Exa Z h113 sa "java/lang/String" := ((((f47.keep Kc57).keep Kc71).keep Kc95).keep Kc113)
  have kp126 : Keep h0 h113 [] := (Keep.trans kp108 Kc113 (allS (Or.inr (Nat.le_trans (Keep.refl h0 []).1 (Nat.le_of_eq g1.symm))) all0))
  obtain ⟨cq127, kq127, q127a, q127b, q127c⟩ := isOf hZ e113 f114
  obtain ⟨_, _, ⟨T127, L127, k127, n127⟩, -, X127', ⟨Lc127, hQ127, l127, y127, z127⟩, st127⟩ := X113.virtualBack hx (y := (⟨"com/example/stanzacall/stanzacall/xml/Namespaces", "uri", "(Ljava/lang/String;)Ljava/lang/String;"⟩ : MethodName)) (z := (⟨"com/example/stanzacall/stanzacall/xml/Namespaces", "uri", "(Ljava/lang/String;)Ljava/lang/String;"⟩ : MethodName)) hown (mvT hZ (hw _ (List.mem_of_getElem? (i := 75) rfl))) (mvT hZ (hw _ (List.mem_of_getElem? (i := 76) rfl))) (notFace_of_selects (args := #[]) (mvT hZ (hw _ (List.mem_of_getElem? (i := 78) rfl)))) (mvT hZ (hw _ (List.mem_of_getElem? (i := 78) rfl))) (mvT hZ (hw _ (List.mem_of_getElem? (i := 77) rfl))) (by decide) (backOf (W := 0) (rmUri1 l Z a0 hw [] b1 sa pa_11 ua_11 kp_11 ku_11 sc sb sd h113 n0 (Nat.le_trans Z0 kp126.1) f114 f115 f116 f119 f123 f124 f125) hZ (hw _ (List.mem_of_getElem? (i := 79) rfl)) (hw _ (List.mem_of_getElem? (i := 28) rfl)) (by decide) (by decide)) q127a q127c (g := (mkF m 183 #[.val (.int p1), .val (.int p2), .val (.int p3), .val (.int p4), .val (.int p5), .val (.int (0 : Int32)), .val (.int wq), .val (.ref sa), .val (.ref sb), .val (.ref sc), .val (.ref sd), .val (.ref b1), .val (.ref sd), .unset, .unset, .unset, .unset] [(.ref sa), (.ref b1)])) rfl (by rw [hml]; rfl) (Steps.refl _) (argsL := [(.ref sa)]) (rest := []) (lenOf pd__Ljava_lang_String__Ljava_lang_String_ rfl) rfl (by show 2 * 0 + _ ≤ _; exact Nat.le_of_eq rfl) (hb hby at_183) (fun _ _ => ⟨rfl, e113, (by decide : 28 + 0 ≤ _), (by decide : 709 + 0 ≤ _)⟩)
  dsimp only [Pt.U, Pt.locs, Pt.cells, Pt.slots] at X127' l127 y127 z127 st127 hQ127
  subst l127 y127 z127
  obtain ⟨rfl, N127q, e127⟩ := hQ127
  obtain ⟨lc127, X127, N127⟩ : ∃ lc, Stand p l e room_1 (s.setVm T95.vm) m #[(.int p1), (.int p2), (.int p3), (.int p4), (.int p5)] below meth c T127 lc 28 709 ∧ Fr n0 lc := ⟨_, X127', Fr.app N113 N127q⟩
  have K128 : Gx p e below T0 f0 T127 (mkF m 186 #[.val (.int p1), .val (.int p2), .val (.int p3), .val (.int p4), .val (.int p5), .val (.int (0 : Int32)), .val (.int wq), .val (.ref sa), .val (.ref sb), .val (.ref sc), .val (.ref sd), .val (.ref b1), .val (.ref sd), .unset, .unset, .unset, .unset] [(.ref sc)]) := fun t kt => K122 t (st127.trans kt)
  have K129 : Gx p e below T0 f0 T127 (mkF m 190 #[.val (.int p1), .val (.int p2), .val (.int p3), .val (.int p4), .val (.int p5), .val (.int (0 : Int32)), .val (.int wq), .val (.ref sa), .val (.ref sb), .val (.ref sc), .val (.ref sd), .val (.ref b1), .val (.ref sd), .val (.ref sc), .unset, .unset, .unset] [(.ref b1)]) := fun t kt => K128 t (by
    show Steps p.tables e below (T127.setTop (mkF m 186 #[.val (.int p1), .val (.int p2), .val (.int p3), .val (.int p4), .val (.int p5), .val (.int (0 : Int32)), .val (.int wq), .val (.ref sa), .val (.ref sb), .val (.ref sc), .val (.ref sd), .val (.ref b1), .val (.ref sd), .unset, .unset, .unset, .unset] [(.ref sc)])) _
    refine XS.astore X127.here hx rfl (hb hby at_186) rfl rfl (l' := #[.val (.int p1), .val (.int p2), .val (.int p3), .val (.int p4), .val (.int p5), .val (.int (0 : Int32)), .val (.int wq), .val (.ref sa), .val (.ref sb), .val (.ref sc), .val (.ref sd), .val (.ref b1), .val (.ref sd), .val (.ref sc), .unset, .unset, .unset]) rfl ?_
    show Steps p.tables e below (T127.setTop (mkF m 188 #[.val (.int p1), .val (.int p2), .val (.int p3), .val (.int p4), .val (.int p5), .val (.int (0 : Int32)), .val (.int wq), .val (.ref sa), .val (.ref sb), .val (.ref sc), .val (.ref sd), .val (.ref b1), .val (.ref sd), .val (.ref sc), .unset, .unset, .unset] [])) _
    refine XS.aload X127.here hx rfl (hb hby at_188) rfl rfl ?_
    exact kt)
  obtain ⟨sa130, T130, h130, kk130, sb130, kc130, X130, e130, E130, hS130, hk130, hZ, hown, A130, Fc130, Fv130, V130, -, -, CRq130, -, Sf130, st130⟩ := ldcCH (s := s) (vm0 := T95.vm) X127 hx hZ hown (hw _ (List.mem_of_getElem? (i := 85) rfl)) (own_wS hw) e127 hS95 (Nat.le_trans (Nat.le_of_eq (congrArg Array.size e95)) Kc113.1) (own_EW hw) (List.mem_of_getElem? (i := 5) rfl) CR120.1 (vs := []) (z := (0 : Int32)) ⟨by decide +kernel, by rfl⟩ (by decide) rfl (g := (mkF m 190 #[.val (.int p1), .val (.int p2), .val (.int p3), .val (.int p4), .val (.int p5), .val (.int (0 : Int32)), .val (.int wq), .val (.ref sa), .val (.ref sb), .val (.ref sc), .val (.ref sd), .val (.ref b1), .val (.ref sd), .val (.ref sc), .unset, .unset, .unset] [(.ref b1)])) rfl (hb hby at_190) (n := 0) (by decide +kernel) (by decide) (by decide) (by decide)
  have CR131 : CHr Z ELx s.vm s.heap T130.vm h130 := CR120.trans CRq130
  have f132 : Exa Z h130 b1 "com/example/stanzacall/stanzacall/xml/Namespaces" := (f114.ext E130)
  have nn133 := Sf130 b1 (Safe.exa hZ.alike f132 (by decide) (by decide))
  have f134 : Arv Z h130 pa_11 kp_11 (.object "java/lang/String") (16 : Int32) [(.ref sa), (.ref sb), .null, .null, .null, .null, .null, .null, .null, .null, .null, .null, .null, .null, .null, .null] .null := (f123.ext E130)
  obtain ⟨clq135, Arq135, ckq135, cSq135, cNq135, cHq135, cGq135⟩ := id f134
  have nn136 := Sf130 pa_11 (Safe.arr hZ.alike Arq135 (by decide))
  have f137 : Exa Z h130 sa "java/lang/String" := (f125.ext E130)
  have f138 : Exa Z h130 sb "java/lang/String" := ((f107.keep Kc113).ext E130)
  have f139 : Exa Z h130 sc "java/lang/String" := (((((f51.keep Kc57).keep Kc71).keep Kc95).keep Kc113).ext E130)
  have f140 : Arv Z h130 sc_11 ks_11 .int (16 : Int32) [(.int (0 : Int32)), (.int (1 : Int32)), (.int (0 : Int32)), (.int (0 : Int32)), (.int (0 : Int32)), (.int (0 : Int32)), (.int (0 : Int32)), (.int (0 : Int32)), (.int (0 : Int32)), (.int (0 : Int32)), (.int (0 : Int32)), (.int (0 : Int32)), (.int (0 : Int32)), (.int (0 : Int32)), (.int (0 : Int32)), (.int (0 : Int32))] (.int (0 : Int32)) := ((f112.keep Kc113 (ninS (Ne.symm (Nat.ne_of_lt (Nat.lt_of_lt_of_le A1.lt f23))) nin0)).ext E130)
  obtain ⟨clq141, Arq141, ckq141, cSq141, cNq141, cHq141, cGq141⟩ := id f140
  have nn142 := Sf130 sc_11 (Safe.arr hZ.alike Arq141 (by decide))
  have f143 : Exa Z h130 sd "java/lang/String" := (((f89.keep Kc95).keep Kc113).ext E130)
  have f144 : Arv Z h130 sva ska .byte sza sxa (.int (0 : Int32)) := (((((f50.keep Kc57 (ninS (Nat.ne_of_lt (Nat.lt_of_lt_of_le pr3.lt (Nat.le_of_eq g1.symm))) (ninS (Nat.ne_of_lt (Nat.lt_of_lt_of_le (pr3.ext E1).lt f21)) (ninS (Nat.ne_of_lt (Nat.lt_of_lt_of_le (pr3.ext E1).lt f22)) nin0)))).keep Kc71 (ninS (Nat.ne_of_lt (Nat.lt_of_lt_of_le pr3.lt (Nat.le_of_eq g1.symm))) (ninS (Nat.ne_of_lt (Nat.lt_of_lt_of_le (pr3.ext E1).lt f23)) nin0))).keep Kc95 (ninS (Nat.ne_of_lt (Nat.lt_of_lt_of_le pr3.lt (Nat.le_of_eq g1.symm))) (ninS (Nat.ne_of_lt (Nat.lt_of_lt_of_le (pr3.ext E1).lt f21)) (ninS (Nat.ne_of_lt (Nat.lt_of_lt_of_le (pr3.ext E1).lt f22)) nin0)))).keep Kc113 (ninS (Nat.ne_of_lt (Nat.lt_of_lt_of_le pr3.lt (Nat.le_of_eq g1.symm))) nin0)).ext E130)
  obtain ⟨clq145, Arq145, ckq145, cSq145, cNq145, cHq145, cGq145⟩ := id f144
  have f146 : Arv Z h130 svb skb .byte szb sxb (.int (0 : Int32)) := (((f88.keep Kc95 (ninS (Nat.ne_of_lt (Nat.lt_of_lt_of_le pr7.lt (Nat.le_of_eq g1.symm))) (ninS (Nat.ne_of_lt (Nat.lt_of_lt_of_le (pr7.ext E1).lt f21)) (ninS (Nat.ne_of_lt (Nat.lt_of_lt_of_le (pr7.ext E1).lt f22)) nin0)))).keep Kc113 (ninS (Nat.ne_of_lt (Nat.lt_of_lt_of_le pr7.lt (Nat.le_of_eq g1.symm))) nin0)).ext E130)
  obtain ⟨clq147, Arq147, ckq147, cSq147, cNq147, cHq147, cGq147⟩ := id f146
  have f148 : Arv Z h130 svc skc .byte szc sxc (.int (0 : Int32)) := (((((f54.keep Kc57 (ninS (Nat.ne_of_lt (Nat.lt_of_lt_of_le pr11.lt (Nat.le_of_eq g1.symm))) (ninS (Nat.ne_of_lt (Nat.lt_of_lt_of_le (pr11.ext E1).lt f21)) (ninS (Nat.ne_of_lt (Nat.lt_of_lt_of_le (pr11.ext E1).lt f22)) nin0)))).keep Kc71 (ninS (Nat.ne_of_lt (Nat.lt_of_lt_of_le pr11.lt (Nat.le_of_eq g1.symm))) (ninS (Nat.ne_of_lt (Nat.lt_of_lt_of_le (pr11.ext E1).lt f23)) nin0))).keep Kc95 (ninS (Nat.ne_of_lt (Nat.lt_of_lt_of_le pr11.lt (Nat.le_of_eq g1.symm))) (ninS (Nat.ne_of_lt (Nat.lt_of_lt_of_le (pr11.ext E1).lt f21)) (ninS (Nat.ne_of_lt (Nat.lt_of_lt_of_le (pr11.ext E1).lt f22)) nin0)))).keep Kc113 (ninS (Nat.ne_of_lt (Nat.lt_of_lt_of_le pr11.lt (Nat.le_of_eq g1.symm))) nin0)).ext E130)
  obtain ⟨clq149, Arq149, ckq149, cSq149, cNq149, cHq149, cGq149⟩ := id f148
  have f150 : Arv Z h130 svd skd .byte szd sxd (.int (0 : Int32)) := (((f92.keep Kc95 (ninS (Nat.ne_of_lt (Nat.lt_of_lt_of_le pr15.lt (Nat.le_of_eq g1.symm))) (ninS (Nat.ne_of_lt (Nat.lt_of_lt_of_le (pr15.ext E1).lt f21)) (ninS (Nat.ne_of_lt (Nat.lt_of_lt_of_le (pr15.ext E1).lt f22)) nin0)))).keep Kc113 (ninS (Nat.ne_of_lt (Nat.lt_of_lt_of_le pr15.lt (Nat.le_of_eq g1.symm))) nin0)).ext E130)
  obtain ⟨clq151, Arq151, ckq151, cSq151, cNq151, cHq151, cGq151⟩ := id f150
  have f152 : Arv Z h130 ua_11 ku_11 (.object "java/lang/String") (16 : Int32) [(.ref sc), (.ref sd), .null, .null, .null, .null, .null, .null, .null, .null, .null, .null, .null, .null, .null, .null] .null := (f124.ext E130)
  obtain ⟨clq153, Arq153, ckq153, cSq153, cNq153, cHq153, cGq153⟩ := id f152
  have nn154 := Sf130 ua_11 (Safe.arr hZ.alike Arq153 (by decide))
  have K155 : Gx p e below T0 f0 T130 (mkF m 192 #[.val (.int p1), .val (.int p2), .val (.int p3), .val (.int p4), .val (.int p5), .val (.int (0 : Int32)), .val (.int wq), .val (.ref sa), .val (.ref sb), .val (.ref sc), .val (.ref sd), .val (.ref b1), .val (.ref sd), .val (.ref sc), .unset, .unset, .unset] [(.ref sa130), (.ref b1)]) := fun t kt => K129 t (st130 t kt)
  have f156 : Fld Z h130 b1 "com/example/stanzacall/stanzacall/xml/Namespaces" "prefixes" "[Ljava/lang/String;" (.ref pa_11) := (f115.ext E130)
  have f157 : Fld Z h130 b1 "com/example/stanzacall/stanzacall/xml/Namespaces" "uris" "[Ljava/lang/String;" (.ref ua_11) := (f116.ext E130)
  have f158 : Fld Z h130 b1 "com/example/stanzacall/stanzacall/xml/Namespaces" "count" "I" (.int (1 : Int32)) := (f119.ext E130)
  have f159 : Fld Z h130 sa "java/lang/String" "coder" "B" (.int (0 : Int32)) := (((((f48.keep Kc57 (ninS (Nat.ne_of_lt (Nat.lt_of_lt_of_le pr0.lt (Nat.le_of_eq g1.symm))) (ninS (Nat.ne_of_lt (Nat.lt_of_lt_of_le (pr0.ext E1).lt f21)) (ninS (Nat.ne_of_lt (Nat.lt_of_lt_of_le (pr0.ext E1).lt f22)) nin0)))).keep Kc71 (ninS (Nat.ne_of_lt (Nat.lt_of_lt_of_le pr0.lt (Nat.le_of_eq g1.symm))) (ninS (Nat.ne_of_lt (Nat.lt_of_lt_of_le (pr0.ext E1).lt f23)) nin0))).keep Kc95 (ninS (Nat.ne_of_lt (Nat.lt_of_lt_of_le pr0.lt (Nat.le_of_eq g1.symm))) (ninS (Nat.ne_of_lt (Nat.lt_of_lt_of_le (pr0.ext E1).lt f21)) (ninS (Nat.ne_of_lt (Nat.lt_of_lt_of_le (pr0.ext E1).lt f22)) nin0)))).keep Kc113 (ninS (Nat.ne_of_lt (Nat.lt_of_lt_of_le pr0.lt (Nat.le_of_eq g1.symm))) nin0)).ext E130)
  have f160 : Fld Z h130 sa "java/lang/String" "value" "[B" (.ref sva) := (((((f49.keep Kc57 (ninS (Nat.ne_of_lt (Nat.lt_of_lt_of_le pr0.lt (Nat.le_of_eq g1.symm))) (ninS (Nat.ne_of_lt (Nat.lt_of_lt_of_le (pr0.ext E1).lt f21)) (ninS (Nat.ne_of_lt (Nat.lt_of_lt_of_le (pr0.ext E1).lt f22)) nin0)))).keep Kc71 (ninS (Nat.ne_of_lt (Nat.lt_of_lt_of_le pr0.lt (Nat.le_of_eq g1.symm))) (ninS (Nat.ne_of_lt (Nat.lt_of_lt_of_le (pr0.ext E1).lt f23)) nin0))).keep Kc95 (ninS (Nat.ne_of_lt (Nat.lt_of_lt_of_le pr0.lt (Nat.le_of_eq g1.symm))) (ninS (Nat.ne_of_lt (Nat.lt_of_lt_of_le (pr0.ext E1).lt f21)) (ninS (Nat.ne_of_lt (Nat.lt_of_lt_of_le (pr0.ext E1).lt f22)) nin0)))).keep Kc113 (ninS (Nat.ne_of_lt (Nat.lt_of_lt_of_le pr0.lt (Nat.le_of_eq g1.symm))) nin0)).ext E130)
  have f161 : Old Z n0 h130 := (((f93.keep Kc95 (allS (Nat.le_trans Z0 (Nat.le_trans (Keep.refl h0 []).1 (Nat.le_of_eq g1.symm))) (allS (Nat.le_trans Z0 (Nat.le_trans kp10.1 f21)) (allS (Nat.le_trans Z0 (Nat.le_trans kp10.1 f22)) all0)))).keep Kc113 (allS (Nat.le_trans Z0 (Nat.le_trans (Keep.refl h0 []).1 (Nat.le_of_eq g1.symm))) all0)).ext E130)
  have kp162 : Keep h0 h130 [] := (kp126.ext E130)
  obtain ⟨cq163, kq163, q163a, q163b, q163c⟩ := isOf hZ e130 f132
  obtain ⟨_, _, ⟨T163, L163, k163, n163⟩, -, X163', hSq163, gq163, ⟨Lc163, hQ163, l163, y163, z163, CRq163⟩, st163⟩ := X130.virtualBackS hx (y := (⟨"com/example/stanzacall/stanzacall/xml/Namespaces", "uri", "(Ljava/lang/String;)Ljava/lang/String;"⟩ : MethodName)) (z := (⟨"com/example/stanzacall/stanzacall/xml/Namespaces", "uri", "(Ljava/lang/String;)Ljava/lang/String;"⟩ : MethodName)) hown (mvT hZ (hw _ (List.mem_of_getElem? (i := 75) rfl))) (mvT hZ (hw _ (List.mem_of_getElem? (i := 76) rfl))) (notFace_of_selects (args := #[]) (mvT hZ (hw _ (List.mem_of_getElem? (i := 78) rfl)))) (mvT hZ (hw _ (List.mem_of_getElem? (i := 78) rfl))) (mvT hZ (hw _ (List.mem_of_getElem? (i := 77) rfl))) (by decide) (backOfSH (s := s) (vm0 := T130.vm) (W := 0) (rmUr1b l Z a0 hw [] b1 sa130 pa_11 ua_11 kp_11 ku_11 sa sc sb sd sva ska sza sxa sb130 kc130 (0 : Int32) [] cw h130 n0 (Nat.le_trans Z0 kp162.1) f132 f156 f157 f158 f134 f152 f137 f159 f160 f144 A130 Fc130 Fv130 V130 f161 pr17 hcw hpe rfl) hZ (hw _ (List.mem_of_getElem? (i := 79) rfl)) (hw _ (List.mem_of_getElem? (i := 28) rfl)) (by decide) (by decide) (own_EW hw) CR131.1) q163a q163c (g := (mkF m 192 #[.val (.int p1), .val (.int p2), .val (.int p3), .val (.int p4), .val (.int p5), .val (.int (0 : Int32)), .val (.int wq), .val (.ref sa), .val (.ref sb), .val (.ref sc), .val (.ref sd), .val (.ref b1), .val (.ref sd), .val (.ref sc), .unset, .unset, .unset] [(.ref sa130), (.ref b1)])) rfl (by rw [hml]; rfl) (Steps.refl _) (argsL := [(.ref sa130)]) (rest := []) (lenOf pd__Ljava_lang_String__Ljava_lang_String_ rfl) rfl (by show 2 * 0 + _ ≤ _; exact Nat.le_of_eq rfl) (hb hby at_192) (fun _ _ => ⟨rfl, e130, (by decide : 30 + 2 ≤ _), (by decide : 713 + 4 ≤ _)⟩)
  dsimp only [Pt.U, Pt.locs, Pt.cells, Pt.slots] at X163' l163 y163 z163 st163 hQ163 CRq163 hSq163 gq163
  subst l163 y163 z163
  obtain ⟨X163', hS163, hZ, hown⟩ := rebS hS130 (show _ ≤ T130.heap.size by rw [e130]; exact hk130) X163' hSq163 gq163 hZ hown
  obtain ⟨h163, e163⟩ : ∃ z, T163.heap = z := ⟨_, rfl⟩
  rw [e163] at hQ163 CRq163
  obtain ⟨rr_163, rv_163, rk_163, rfl, N163q, Kc163, f164, f165, f166, f167⟩ := hQ163
  obtain ⟨lc163, X163, N163⟩ : ∃ lc, Stand p l e room_1 (s.setVm T163.vm) m #[(.int p1), (.int p2), (.int p3), (.int p4), (.int p5)] below meth c T163 lc 32 717 ∧ Fr n0 lc := ⟨_, X163', Fr.app N127 N163q⟩
  have CR168 : CHr Z ELx s.vm s.heap T163.vm h163 := CR131.trans CRq163
  have K169 : Gx p e below T0 f0 T163 (mkF m 195 #[.val (.int p1), .val (.int p2), .val (.int p3), .val (.int p4), .val (.int p5), .val (.int (0 : Int32)), .val (.int wq), .val (.ref sa), .val (.ref sb), .val (.ref sc), .val (.ref sd), .val (.ref b1), .val (.ref sd), .val (.ref sc), .unset, .unset, .unset] [(.ref rr_163)]) := fun t kt => K155 t (st163.trans kt)
  have K170 : Gx p e below T0 f0 T163 (mkF m 199 #[.val (.int p1), .val (.int p2), .val (.int p3), .val (.int p4), .val (.int p5), .val (.int (0 : Int32)), .val (.int wq), .val (.ref sa), .val (.ref sb), .val (.ref sc), .val (.ref sd), .val (.ref b1), .val (.ref sd), .val (.ref sc), .val (.ref rr_163), .unset, .unset] [(.ref b1)]) := fun t kt => K169 t (by
    show Steps p.tables e below (T163.setTop (mkF m 195 #[.val (.int p1), .val (.int p2), .val (.int p3), .val (.int p4), .val (.int p5), .val (.int (0 : Int32)), .val (.int wq), .val (.ref sa), .val (.ref sb), .val (.ref sc), .val (.ref sd), .val (.ref b1), .val (.ref sd), .val (.ref sc), .unset, .unset, .unset] [(.ref rr_163)])) _
    refine XS.astore X163.here hx rfl (hb hby at_195) rfl rfl (l' := #[.val (.int p1), .val (.int p2), .val (.int p3), .val (.int p4), .val (.int p5), .val (.int (0 : Int32)), .val (.int wq), .val (.ref sa), .val (.ref sb), .val (.ref sc), .val (.ref sd), .val (.ref b1), .val (.ref sd), .val (.ref sc), .val (.ref rr_163), .unset, .unset]) rfl ?_
    show Steps p.tables e below (T163.setTop (mkF m 197 #[.val (.int p1), .val (.int p2), .val (.int p3), .val (.int p4), .val (.int p5), .val (.int (0 : Int32)), .val (.int wq), .val (.ref sa), .val (.ref sb), .val (.ref sc), .val (.ref sd), .val (.ref b1), .val (.ref sd), .val (.ref sc), .val (.ref rr_163), .unset, .unset] [])) _
    refine XS.aload X163.here hx rfl (hb hby at_197) rfl rfl ?_
    exact kt)
  have f171 : Exa Z h163 b1 "com/example/stanzacall/stanzacall/xml/Namespaces" := (f132.keep Kc163)
  have f172 : Fld Z h163 b1 "com/example/stanzacall/stanzacall/xml/Namespaces" "prefixes" "[Ljava/lang/String;" (.ref pa_11) := (f156.keep Kc163 nin0)
  have f173 : Fld Z h163 b1 "com/example/stanzacall/stanzacall/xml/Namespaces" "uris" "[Ljava/lang/String;" (.ref ua_11) := (f157.keep Kc163 nin0)
  have f174 : Fld Z h163 b1 "com/example/stanzacall/stanzacall/xml/Namespaces" "scopes" "[I" (.ref sc_11) := ((f117.ext E130).keep Kc163 nin0)
  have f175 : Fld Z h163 b1 "com/example/stanzacall/stanzacall/xml/Namespaces" "depth" "I" (.int (1 : Int32)) := ((f118.ext E130).keep Kc163 nin0)
  have f176 : Fld Z h163 b1 "com/example/stanzacall/stanzacall/xml/Namespaces" "count" "I" (.int (1 : Int32)) := (f158.keep Kc163 nin0)
  have f177 : Arv Z h163 sc_11 ks_11 .int (16 : Int32) [(.int (0 : Int32)), (.int (1 : Int32)), (.int (0 : Int32)), (.int (0 : Int32)), (.int (0 : Int32)), (.int (0 : Int32)), (.int (0 : Int32)), (.int (0 : Int32)), (.int (0 : Int32)), (.int (0 : Int32)), (.int (0 : Int32)), (.int (0 : Int32)), (.int (0 : Int32)), (.int (0 : Int32)), (.int (0 : Int32)), (.int (0 : Int32))] (.int (0 : Int32)) := (f140.keep Kc163 nin0)
  have kp178 : Keep h0 h163 [] := (Keep.trans kp162 Kc163 all0)
  obtain ⟨cq179, kq179, q179a, q179b, q179c⟩ := isOf hZ e163 f171
  obtain ⟨_, _, ⟨T179, L179, k179, n179⟩, -, X179', ⟨Lc179, hQ179, l179, y179, z179⟩, st179⟩ := X163.virtualBack hx (y := (⟨"com/example/stanzacall/stanzacall/xml/Namespaces", "close", "()V"⟩ : MethodName)) (z := (⟨"com/example/stanzacall/stanzacall/xml/Namespaces", "close", "()V"⟩ : MethodName)) hown (mvT hZ (hw _ (List.mem_of_getElem? (i := 80) rfl))) (mvT hZ (hw _ (List.mem_of_getElem? (i := 81) rfl))) (notFace_of_selects (args := #[]) (mvT hZ (hw _ (List.mem_of_getElem? (i := 83) rfl)))) (mvT hZ (hw _ (List.mem_of_getElem? (i := 83) rfl))) (mvT hZ (hw _ (List.mem_of_getElem? (i := 82) rfl))) (by decide) (backOf (W := 0) (rmClose1 l Z a0 hw [] b1 pa_11 ua_11 sc_11 ks_11 h163 n0 (Nat.le_trans Z0 kp178.1) f171 f172 f173 f174 f175 f176 f177 (Nat.le_trans Z0 (Nat.le_trans (Keep.refl h0 []).1 (Nat.le_of_eq g1.symm))) (Nat.ne_of_lt (Nat.lt_of_lt_of_le A1.lt f23))) hZ (hw _ (List.mem_of_getElem? (i := 84) rfl)) (hw _ (List.mem_of_getElem? (i := 28) rfl)) (by decide) (by decide)) q179a q179c (g := (mkF m 199 #[.val (.int p1), .val (.int p2), .val (.int p3), .val (.int p4), .val (.int p5), .val (.int (0 : Int32)), .val (.int wq), .val (.ref sa), .val (.ref sb), .val (.ref sc), .val (.ref sd), .val (.ref b1), .val (.ref sd), .val (.ref sc), .val (.ref rr_163), .unset, .unset] [(.ref b1)])) rfl (by rw [hml]; rfl) (Steps.refl _) (argsL := []) (rest := []) (lenOf pd___V rfl) rfl (by show 2 * 0 + _ ≤ _; exact Nat.le_of_eq rfl) (hb hby at_199) (fun _ _ => ⟨rfl, e163, (by decide : 32 + 0 ≤ _), (by decide : 717 + 0 ≤ _)⟩)
  dsimp only [Pt.U, Pt.locs, Pt.cells, Pt.slots] at X179' l179 y179 z179 st179 hQ179
  subst l179 y179 z179
  obtain ⟨h179, e179⟩ : ∃ z, T179.heap = z := ⟨_, rfl⟩
  rw [e179] at hQ179
  obtain ⟨rfl, N179q, Kc179, f180, f181, f182, f183, f184, f185⟩ := hQ179
  obtain ⟨lc179, X179, N179⟩ : ∃ lc, Stand p l e room_1 (s.setVm T163.vm) m #[(.int p1), (.int p2), (.int p3), (.int p4), (.int p5)] below meth c T179 lc 32 717 ∧ Fr n0 lc := ⟨_, X179', Fr.app N163 N179q⟩
  have CR186 : CHr Z ELx s.vm s.heap T163.vm h179 := CR168.trans (CHr.keep Kc179 (allS (Safe.exa hZ.alike f171 (by decide) (by decide)) all0) CR168.1)
  have K187 : Gx p e below T0 f0 T179 (mkF m 202 #[.val (.int p1), .val (.int p2), .val (.int p3), .val (.int p4), .val (.int p5), .val (.int (0 : Int32)), .val (.int wq), .val (.ref sa), .val (.ref sb), .val (.ref sc), .val (.ref sd), .val (.ref b1), .val (.ref sd), .val (.ref sc), .val (.ref rr_163), .unset, .unset] []) := fun t kt => K170 t (st179.trans kt)
  have K188 : Gx p e below T0 f0 T179 (mkF m 204 #[.val (.int p1), .val (.int p2), .val (.int p3), .val (.int p4), .val (.int p5), .val (.int (0 : Int32)), .val (.int wq), .val (.ref sa), .val (.ref sb), .val (.ref sc), .val (.ref sd), .val (.ref b1), .val (.ref sd), .val (.ref sc), .val (.ref rr_163), .unset, .unset] [(.ref b1)]) := fun t kt => K187 t (by
    show Steps p.tables e below (T179.setTop (mkF m 202 #[.val (.int p1), .val (.int p2), .val (.int p3), .val (.int p4), .val (.int p5), .val (.int (0 : Int32)), .val (.int wq), .val (.ref sa), .val (.ref sb), .val (.ref sc), .val (.ref sd), .val (.ref b1), .val (.ref sd), .val (.ref sc), .val (.ref rr_163), .unset, .unset] [])) _
    refine XS.aload X179.here hx rfl (hb hby at_202) rfl rfl ?_
    exact kt)
  obtain ⟨sa189, T189, h189, kk189, sb189, kc189, X189, e189, E189, hS189, hk189, hZ, hown, A189, Fc189, Fv189, V189, -, -, CRq189, -, Sf189, st189⟩ := ldcCH (s := s) (vm0 := T163.vm) X179 hx hZ hown (hw _ (List.mem_of_getElem? (i := 85) rfl)) (own_wS hw) e179 hS163 (Nat.le_trans (Nat.le_of_eq (congrArg Array.size e163)) Kc179.1) (own_EW hw) (List.mem_of_getElem? (i := 5) rfl) CR186.1 (vs := []) (z := (0 : Int32)) ⟨by decide +kernel, by rfl⟩ (by decide) rfl (g := (mkF m 204 #[.val (.int p1), .val (.int p2), .val (.int p3), .val (.int p4), .val (.int p5), .val (.int (0 : Int32)), .val (.int wq), .val (.ref sa), .val (.ref sb), .val (.ref sc), .val (.ref sd), .val (.ref b1), .val (.ref sd), .val (.ref sc), .val (.ref rr_163), .unset, .unset] [(.ref b1)])) rfl (hb hby at_204) (n := 0) (by decide +kernel) (by decide) (by decide) (by decide)
  have CR190 : CHr Z ELx s.vm s.heap T189.vm h189 := CR186.trans CRq189
  have f191 : Exa Z h189 b1 "com/example/stanzacall/stanzacall/xml/Namespaces" := (f180.ext E189)
  have nn192 := Sf189 b1 (Safe.exa hZ.alike f191 (by decide) (by decide))
  have f193 : Arv Z h189 pa_11 kp_11 (.object "java/lang/String") (16 : Int32) [(.ref sa), (.ref sb), .null, .null, .null, .null, .null, .null, .null, .null, .null, .null, .null, .null, .null, .null] .null := (((f134.keep Kc163 nin0).keep Kc179 (ninS (Ne.symm (Nat.ne_of_lt (Nat.lt_of_lt_of_le A1.lt f21))) nin0)).ext E189)
  obtain ⟨clq194, Arq194, ckq194, cSq194, cNq194, cHq194, cGq194⟩ := id f193
  have nn195 := Sf189 pa_11 (Safe.arr hZ.alike Arq194 (by decide))
  have f196 : Exa Z h189 rr_163 "java/lang/String" := ((f164.keep Kc179).ext E189)
  have f197 : Arv Z h189 rv_163 rk_163 .byte (0 : Int32) [] (.int (0 : Int32)) := ((f167.keep Kc179 (ninS (Ne.symm (Exa.neArv f171 f167 (hw _ (List.mem_of_getElem? (i := 27) rfl)))) nin0)).ext E189)
  obtain ⟨clq198, Arq198, ckq198, cSq198, cNq198, cHq198, cGq198⟩ := id f197
  have f199 : Exa Z h189 sa "java/lang/String" := (((f137.keep Kc163).keep Kc179).ext E189)
  have f200 : Exa Z h189 sa130 "java/lang/String" := (((A130.keep Kc163).keep Kc179).ext E189)
  have f201 : Exa Z h189 sb "java/lang/String" := (((f138.keep Kc163).keep Kc179).ext E189)
  have f202 : Arv Z h189 sb130 kc130 .byte (0 : Int32) [] (.int (0 : Int32)) := (((V130.keep Kc163 nin0).keep Kc179 (ninS (Ne.symm nn133.2) nin0)).ext E189)
  obtain ⟨clq203, Arq203, ckq203, cSq203, cNq203, cHq203, cGq203⟩ := id f202
  have f204 : Exa Z h189 sc "java/lang/String" := (((f139.keep Kc163).keep Kc179).ext E189)
  have f205 : Arv Z h189 sc_11 ks_11 .int (16 : Int32) [(.int (0 : Int32)), (.int (1 : Int32)), (.int (0 : Int32)), (.int (0 : Int32)), (.int (0 : Int32)), (.int (0 : Int32)), (.int (0 : Int32)), (.int (0 : Int32)), (.int (0 : Int32)), (.int (0 : Int32)), (.int (0 : Int32)), (.int (0 : Int32)), (.int (0 : Int32)), (.int (0 : Int32)), (.int (0 : Int32)), (.int (0 : Int32))] (.int (0 : Int32)) := ((f177.keep Kc179 (ninS (Ne.symm (Nat.ne_of_lt (Nat.lt_of_lt_of_le A1.lt f23))) nin0)).ext E189)
  obtain ⟨clq206, Arq206, ckq206, cSq206, cNq206, cHq206, cGq206⟩ := id f205
  have nn207 := Sf189 sc_11 (Safe.arr hZ.alike Arq206 (by decide))
  have f208 : Exa Z h189 sd "java/lang/String" := (((f143.keep Kc163).keep Kc179).ext E189)
  have f209 : Arv Z h189 sva ska .byte sza sxa (.int (0 : Int32)) := (((f144.keep Kc163 nin0).keep Kc179 (ninS (Nat.ne_of_lt (Nat.lt_of_lt_of_le pr3.lt (Nat.le_of_eq g1.symm))) nin0)).ext E189)
  obtain ⟨clq210, Arq210, ckq210, cSq210, cNq210, cHq210, cGq210⟩ := id f209
  have f211 : Arv Z h189 svb skb .byte szb sxb (.int (0 : Int32)) := (((f146.keep Kc163 nin0).keep Kc179 (ninS (Nat.ne_of_lt (Nat.lt_of_lt_of_le pr7.lt (Nat.le_of_eq g1.symm))) nin0)).ext E189)
  obtain ⟨clq212, Arq212, ckq212, cSq212, cNq212, cHq212, cGq212⟩ := id f211
  have f213 : Arv Z h189 svc skc .byte szc sxc (.int (0 : Int32)) := (((f148.keep Kc163 nin0).keep Kc179 (ninS (Nat.ne_of_lt (Nat.lt_of_lt_of_le pr11.lt (Nat.le_of_eq g1.symm))) nin0)).ext E189)
  obtain ⟨clq214, Arq214, ckq214, cSq214, cNq214, cHq214, cGq214⟩ := id f213
  have f215 : Arv Z h189 svd skd .byte szd sxd (.int (0 : Int32)) := (((f150.keep Kc163 nin0).keep Kc179 (ninS (Nat.ne_of_lt (Nat.lt_of_lt_of_le pr15.lt (Nat.le_of_eq g1.symm))) nin0)).ext E189)
  obtain ⟨clq216, Arq216, ckq216, cSq216, cNq216, cHq216, cGq216⟩ := id f215
  have f217 : Arv Z h189 ua_11 ku_11 (.object "java/lang/String") (16 : Int32) [(.ref sc), (.ref sd), .null, .null, .null, .null, .null, .null, .null, .null, .null, .null, .null, .null, .null, .null] .null := (((f152.keep Kc163 nin0).keep Kc179 (ninS (Ne.symm (Nat.ne_of_lt (Nat.lt_of_lt_of_le A1.lt f22))) nin0)).ext E189)
  obtain ⟨clq218, Arq218, ckq218, cSq218, cNq218, cHq218, cGq218⟩ := id f217
  have nn219 := Sf189 ua_11 (Safe.arr hZ.alike Arq218 (by decide))
  have K220 : Gx p e below T0 f0 T189 (mkF m 206 #[.val (.int p1), .val (.int p2), .val (.int p3), .val (.int p4), .val (.int p5), .val (.int (0 : Int32)), .val (.int wq), .val (.ref sa), .val (.ref sb), .val (.ref sc), .val (.ref sd), .val (.ref b1), .val (.ref sd), .val (.ref sc), .val (.ref rr_163), .unset, .unset] [(.ref sa189), (.ref b1)]) := fun t kt => K188 t (st189 t kt)
  have f221 : Fld Z h189 b1 "com/example/stanzacall/stanzacall/xml/Namespaces" "count" "I" (.int (0 : Int32)) := (f185.ext E189)
  have kp222 : Keep h0 h189 [] := ((Keep.trans kp178 Kc179 (allS (Or.inr (Nat.le_trans (Keep.refl h0 []).1 (Nat.le_of_eq g1.symm))) all0)).ext E189)
  obtain ⟨cq223, kq223, q223a, q223b, q223c⟩ := isOf hZ e189 f191
  obtain ⟨_, _, ⟨T223, L223, k223, n223⟩, -, X223', hSq223, gq223, ⟨Lc223, hQ223, l223, y223, z223, CRq223⟩, st223⟩ := X189.virtualBackS hx (y := (⟨"com/example/stanzacall/stanzacall/xml/Namespaces", "uri", "(Ljava/lang/String;)Ljava/lang/String;"⟩ : MethodName)) (z := (⟨"com/example/stanzacall/stanzacall/xml/Namespaces", "uri", "(Ljava/lang/String;)Ljava/lang/String;"⟩ : MethodName)) hown (mvT hZ (hw _ (List.mem_of_getElem? (i := 75) rfl))) (mvT hZ (hw _ (List.mem_of_getElem? (i := 76) rfl))) (notFace_of_selects (args := #[]) (mvT hZ (hw _ (List.mem_of_getElem? (i := 78) rfl)))) (mvT hZ (hw _ (List.mem_of_getElem? (i := 78) rfl))) (mvT hZ (hw _ (List.mem_of_getElem? (i := 77) rfl))) (by decide) (backOfSH (s := s) (vm0 := T189.vm) (W := 0) (rmUri0 l Z a0 hw [] b1 sa189 sb189 kc189 (0 : Int32) [] h189 n0 (Nat.le_trans Z0 kp222.1) f191 f221 A189 Fc189 Fv189 V189 rfl) hZ (hw _ (List.mem_of_getElem? (i := 79) rfl)) (hw _ (List.mem_of_getElem? (i := 28) rfl)) (by decide) (by decide) (own_EW hw) CR190.1) q223a q223c (g := (mkF m 206 #[.val (.int p1), .val (.int p2), .val (.int p3), .val (.int p4), .val (.int p5), .val (.int (0 : Int32)), .val (.int wq), .val (.ref sa), .val (.ref sb), .val (.ref sc), .val (.ref sd), .val (.ref b1), .val (.ref sd), .val (.ref sc), .val (.ref rr_163), .unset, .unset] [(.ref sa189), (.ref b1)])) rfl (by rw [hml]; rfl) (Steps.refl _) (argsL := [(.ref sa189)]) (rest := []) (lenOf pd__Ljava_lang_String__Ljava_lang_String_ rfl) rfl (by show 2 * 0 + _ ≤ _; exact Nat.le_of_eq rfl) (hb hby at_206) (fun _ _ => ⟨rfl, e189, (by decide : 34 + 2 ≤ _), (by decide : 721 + 4 ≤ _)⟩)
  dsimp only [Pt.U, Pt.locs, Pt.cells, Pt.slots] at X223' l223 y223 z223 st223 hQ223 CRq223 hSq223 gq223
  subst l223 y223 z223
  obtain ⟨X223', hS223, hZ, hown⟩ := rebS hS189 (show _ ≤ T189.heap.size by rw [e189]; exact hk189) X223' hSq223 gq223 hZ hown
  obtain ⟨h223, e223⟩ : ∃ z, T223.heap = z := ⟨_, rfl⟩
  rw [e223] at hQ223 CRq223
  obtain ⟨rr_223, rv_223, rk_223, rfl, N223q, Kc223, f224, f225, f226, f227⟩ := hQ223
  obtain ⟨lc223, X223, N223⟩ : ∃ lc, Stand p l e room_1 (s.setVm T223.vm) m #[(.int p1), (.int p2), (.int p3), (.int p4), (.int p5)] below meth c T223 lc 36 725 ∧ Fr n0 lc := ⟨_, X223', Fr.app N179 N223q⟩
  have CR228 : CHr Z ELx s.vm s.heap T223.vm h223 := CR190.trans CRq223
  have K229 : Gx p e below T0 f0 T223 (mkF m 209 #[.val (.int p1), .val (.int p2), .val (.int p3), .val (.int p4), .val (.int p5), .val (.int (0 : Int32)), .val (.int wq), .val (.ref sa), .val (.ref sb), .val (.ref sc), .val (.ref sd), .val (.ref b1), .val (.ref sd), .val (.ref sc), .val (.ref rr_163), .unset, .unset] [(.ref rr_223)]) := fun t kt => K220 t (st223.trans kt)
  have K230 : Gx p e below T0 f0 T223 (mkF m 221 #[.val (.int p1), .val (.int p2), .val (.int p3), .val (.int p4), .val (.int p5), .val (.int (0 : Int32)), .val (.int wq), .val (.ref sa), .val (.ref sb), .val (.ref sc), .val (.ref sd), .val (.ref b1), .val (.ref sd), .val (.ref sc), .val (.ref rr_163), .val (.ref rr_223), .unset] []) := fun t kt => K229 t (by
    show Steps p.tables e below (T223.setTop (mkF m 209 #[.val (.int p1), .val (.int p2), .val (.int p3), .val (.int p4), .val (.int p5), .val (.int (0 : Int32)), .val (.int wq), .val (.ref sa), .val (.ref sb), .val (.ref sc), .val (.ref sd), .val (.ref b1), .val (.ref sd), .val (.ref sc), .val (.ref rr_163), .unset, .unset] [(.ref rr_223)])) _
    refine XS.astore X223.here hx rfl (hb hby at_209) rfl rfl (l' := #[.val (.int p1), .val (.int p2), .val (.int p3), .val (.int p4), .val (.int p5), .val (.int (0 : Int32)), .val (.int wq), .val (.ref sa), .val (.ref sb), .val (.ref sc), .val (.ref sd), .val (.ref b1), .val (.ref sd), .val (.ref sc), .val (.ref rr_163), .val (.ref rr_223), .unset]) rfl ?_
    show Steps p.tables e below (T223.setTop (mkF m 211 #[.val (.int p1), .val (.int p2), .val (.int p3), .val (.int p4), .val (.int p5), .val (.int (0 : Int32)), .val (.int wq), .val (.ref sa), .val (.ref sb), .val (.ref sc), .val (.ref sd), .val (.ref b1), .val (.ref sd), .val (.ref sc), .val (.ref rr_163), .val (.ref rr_223), .unset] [])) _
    refine XS.iload X223.here hx rfl (hb hby at_211) rfl ?_
    show Steps p.tables e below (T223.setTop (mkF m 213 #[.val (.int p1), .val (.int p2), .val (.int p3), .val (.int p4), .val (.int p5), .val (.int (0 : Int32)), .val (.int wq), .val (.ref sa), .val (.ref sb), .val (.ref sc), .val (.ref sd), .val (.ref b1), .val (.ref sd), .val (.ref sc), .val (.ref rr_163), .val (.ref rr_223), .unset] [(.int (0 : Int32))])) _
    refine XS.ifYes X223.here hx rfl (pc0 := 213) (pc' := 221) rfl (hb hby at_213) rfl ((if0 _ _).trans (teq (by decide)).1) (by decide) (by decide) ?_
    exact kt)
  obtain ⟨sa231, T231, h231, kk231, sb231, kc231, X231, e231, E231, hS231, hk231, hZ, hown, A231, Fc231, Fv231, V231, -, -, CRq231, -, Sf231, st231⟩ := ldcCH (s := s) (vm0 := T223.vm) X223 hx hZ hown (hw _ (List.mem_of_getElem? (i := 85) rfl)) (own_wS hw) e223 hS223 (Nat.le_of_eq (congrArg Array.size e223)) (own_EW hw) (List.mem_of_getElem? (i := 5) rfl) CR228.1 (vs := []) (z := (0 : Int32)) ⟨by decide +kernel, by rfl⟩ (by decide) rfl (g := (mkF m 221 #[.val (.int p1), .val (.int p2), .val (.int p3), .val (.int p4), .val (.int p5), .val (.int (0 : Int32)), .val (.int wq), .val (.ref sa), .val (.ref sb), .val (.ref sc), .val (.ref sd), .val (.ref b1), .val (.ref sd), .val (.ref sc), .val (.ref rr_163), .val (.ref rr_223), .unset] [])) rfl (hb hby at_221) (n := 0) (by decide +kernel) (by decide) (by decide) (by decide)
  have CR232 : CHr Z ELx s.vm s.heap T231.vm h231 := CR228.trans CRq231
  have f233 : Exa Z h231 b1 "com/example/stanzacall/stanzacall/xml/Namespaces" := ((f191.keep Kc223).ext E231)
  have nn234 := Sf231 b1 (Safe.exa hZ.alike f233 (by decide) (by decide))
  have f235 : Arv Z h231 pa_11 kp_11 (.object "java/lang/String") (16 : Int32) [(.ref sa), (.ref sb), .null, .null, .null, .null, .null, .null, .null, .null, .null, .null, .null, .null, .null, .null] .null := ((f193.keep Kc223 nin0).ext E231)
  obtain ⟨clq236, Arq236, ckq236, cSq236, cNq236, cHq236, cGq236⟩ := id f235
  have nn237 := Sf231 pa_11 (Safe.arr hZ.alike Arq236 (by decide))
  have f238 : Exa Z h231 rr_163 "java/lang/String" := ((f196.keep Kc223).ext E231)
  have f239 : Exa Z h231 rr_223 "java/lang/String" := (f224.ext E231)
  have f240 : Arv Z h231 rv_163 rk_163 .byte (0 : Int32) [] (.int (0 : Int32)) := ((f197.keep Kc223 nin0).ext E231)
  obtain ⟨clq241, Arq241, ckq241, cSq241, cNq241, cHq241, cGq241⟩ := id f240
  have f242 : Arv Z h231 rv_223 rk_223 .byte (0 : Int32) [] (.int (0 : Int32)) := (f227.ext E231)
  obtain ⟨clq243, Arq243, ckq243, cSq243, cNq243, cHq243, cGq243⟩ := id f242
  have f244 : Exa Z h231 sa "java/lang/String" := ((f199.keep Kc223).ext E231)
  have f245 : Exa Z h231 sa130 "java/lang/String" := ((f200.keep Kc223).ext E231)
  have f246 : Exa Z h231 sa189 "java/lang/String" := ((A189.keep Kc223).ext E231)
  have f247 : Exa Z h231 sb "java/lang/String" := ((f201.keep Kc223).ext E231)
  have f248 : Arv Z h231 sb130 kc130 .byte (0 : Int32) [] (.int (0 : Int32)) := ((f202.keep Kc223 nin0).ext E231)
  obtain ⟨clq249, Arq249, ckq249, cSq249, cNq249, cHq249, cGq249⟩ := id f248
  have f250 : Arv Z h231 sb189 kc189 .byte (0 : Int32) [] (.int (0 : Int32)) := ((V189.keep Kc223 nin0).ext E231)
  obtain ⟨clq251, Arq251, ckq251, cSq251, cNq251, cHq251, cGq251⟩ := id f250
  have f252 : Exa Z h231 sc "java/lang/String" := ((f204.keep Kc223).ext E231)
  have f253 : Arv Z h231 sc_11 ks_11 .int (16 : Int32) [(.int (0 : Int32)), (.int (1 : Int32)), (.int (0 : Int32)), (.int (0 : Int32)), (.int (0 : Int32)), (.int (0 : Int32)), (.int (0 : Int32)), (.int (0 : Int32)), (.int (0 : Int32)), (.int (0 : Int32)), (.int (0 : Int32)), (.int (0 : Int32)), (.int (0 : Int32)), (.int (0 : Int32)), (.int (0 : Int32)), (.int (0 : Int32))] (.int (0 : Int32)) := ((f205.keep Kc223 nin0).ext E231)
  obtain ⟨clq254, Arq254, ckq254, cSq254, cNq254, cHq254, cGq254⟩ := id f253
  have nn255 := Sf231 sc_11 (Safe.arr hZ.alike Arq254 (by decide))
  have f256 : Exa Z h231 sd "java/lang/String" := ((f208.keep Kc223).ext E231)
  have f257 : Arv Z h231 sva ska .byte sza sxa (.int (0 : Int32)) := ((f209.keep Kc223 nin0).ext E231)
  obtain ⟨clq258, Arq258, ckq258, cSq258, cNq258, cHq258, cGq258⟩ := id f257
  have f259 : Arv Z h231 svb skb .byte szb sxb (.int (0 : Int32)) := ((f211.keep Kc223 nin0).ext E231)
  obtain ⟨clq260, Arq260, ckq260, cSq260, cNq260, cHq260, cGq260⟩ := id f259
  have f261 : Arv Z h231 svc skc .byte szc sxc (.int (0 : Int32)) := ((f213.keep Kc223 nin0).ext E231)
  obtain ⟨clq262, Arq262, ckq262, cSq262, cNq262, cHq262, cGq262⟩ := id f261
  have f263 : Arv Z h231 svd skd .byte szd sxd (.int (0 : Int32)) := ((f215.keep Kc223 nin0).ext E231)
  obtain ⟨clq264, Arq264, ckq264, cSq264, cNq264, cHq264, cGq264⟩ := id f263
  have f265 : Arv Z h231 ua_11 ku_11 (.object "java/lang/String") (16 : Int32) [(.ref sc), (.ref sd), .null, .null, .null, .null, .null, .null, .null, .null, .null, .null, .null, .null, .null, .null] .null := ((f217.keep Kc223 nin0).ext E231)
  obtain ⟨clq266, Arq266, ckq266, cSq266, cNq266, cHq266, cGq266⟩ := id f265
  have nn267 := Sf231 ua_11 (Safe.arr hZ.alike Arq266 (by decide))
  have K268 : Gx p e below T0 f0 T231 (mkF m 223 #[.val (.int p1), .val (.int p2), .val (.int p3), .val (.int p4), .val (.int p5), .val (.int (0 : Int32)), .val (.int wq), .val (.ref sa), .val (.ref sb), .val (.ref sc), .val (.ref sd), .val (.ref b1), .val (.ref sd), .val (.ref sc), .val (.ref rr_163), .val (.ref rr_223), .unset] [(.ref sa231)]) := fun t kt => K230 t (st231 t kt)
  have K269 : Gx p e below T0 f0 T231 (mkF m 229 #[.val (.int p1), .val (.int p2), .val (.int p3), .val (.int p4), .val (.int p5), .val (.int (0 : Int32)), .val (.int wq), .val (.ref sa), .val (.ref sb), .val (.ref sc), .val (.ref sd), .val (.ref b1), .val (.ref sd), .val (.ref sc), .val (.ref rr_163), .val (.ref rr_223), .val (.ref sa231)] [(.ref sd), (.ref sd)]) := fun t kt => K268 t (by
    show Steps p.tables e below (T231.setTop (mkF m 223 #[.val (.int p1), .val (.int p2), .val (.int p3), .val (.int p4), .val (.int p5), .val (.int (0 : Int32)), .val (.int wq), .val (.ref sa), .val (.ref sb), .val (.ref sc), .val (.ref sd), .val (.ref b1), .val (.ref sd), .val (.ref sc), .val (.ref rr_163), .val (.ref rr_223), .unset] [(.ref sa231)])) _
    refine XS.astore X231.here hx rfl (hb hby at_223) rfl rfl (l' := #[.val (.int p1), .val (.int p2), .val (.int p3), .val (.int p4), .val (.int p5), .val (.int (0 : Int32)), .val (.int wq), .val (.ref sa), .val (.ref sb), .val (.ref sc), .val (.ref sd), .val (.ref b1), .val (.ref sd), .val (.ref sc), .val (.ref rr_163), .val (.ref rr_223), .val (.ref sa231)]) rfl ?_
    show Steps p.tables e below (T231.setTop (mkF m 225 #[.val (.int p1), .val (.int p2), .val (.int p3), .val (.int p4), .val (.int p5), .val (.int (0 : Int32)), .val (.int wq), .val (.ref sa), .val (.ref sb), .val (.ref sc), .val (.ref sd), .val (.ref b1), .val (.ref sd), .val (.ref sc), .val (.ref rr_163), .val (.ref rr_223), .val (.ref sa231)] [])) _
    refine XS.aload X231.here hx rfl (hb hby at_225) rfl rfl ?_
    show Steps p.tables e below (T231.setTop (mkF m 227 #[.val (.int p1), .val (.int p2), .val (.int p3), .val (.int p4), .val (.int p5), .val (.int (0 : Int32)), .val (.int wq), .val (.ref sa), .val (.ref sb), .val (.ref sc), .val (.ref sd), .val (.ref b1), .val (.ref sd), .val (.ref sc), .val (.ref rr_163), .val (.ref rr_223), .val (.ref sa231)] [(.ref sd)])) _
    refine XS.aload X231.here hx rfl (hb hby at_227) rfl rfl ?_
    exact kt)
  have kp270 : Keep h0 h231 [] := ((Keep.trans kp222 Kc223 all0).ext E231)
  obtain ⟨cq271, kq271, q271a, q271b, q271c⟩ := isOf hZ e231 f256
  obtain ⟨_, _, ⟨T271, L271, k271, n271⟩, -, X271', ⟨Lc271, hQ271, l271, y271, z271⟩, st271⟩ := X231.virtualBack hx (y := (⟨"java/lang/String", "equals", "(Ljava/lang/Object;)Z"⟩ : MethodName)) (z := (⟨"java/lang/String", "equals", "(Ljava/lang/Object;)Z"⟩ : MethodName)) hown (mvT hZ (hw _ (List.mem_of_getElem? (i := 87) rfl))) (mvT hZ (hw _ (List.mem_of_getElem? (i := 60) rfl))) (notFace_of_selects (args := #[]) (mvT hZ (hw _ (List.mem_of_getElem? (i := 62) rfl)))) (mvT hZ (hw _ (List.mem_of_getElem? (i := 62) rfl))) (mvT hZ (hw _ (List.mem_of_getElem? (i := 61) rfl))) (by decide) (backOf (W := 0) (rmErf l Z a0 hw [] sd h231 n0 (Nat.le_trans Z0 kp270.1) ) hZ (hw _ (List.mem_of_getElem? (i := 63) rfl)) (hw _ (List.mem_of_getElem? (i := 2) rfl)) (by decide) (by decide)) q271a q271c (g := (mkF m 229 #[.val (.int p1), .val (.int p2), .val (.int p3), .val (.int p4), .val (.int p5), .val (.int (0 : Int32)), .val (.int wq), .val (.ref sa), .val (.ref sb), .val (.ref sc), .val (.ref sd), .val (.ref b1), .val (.ref sd), .val (.ref sc), .val (.ref rr_163), .val (.ref rr_223), .val (.ref sa231)] [(.ref sd), (.ref sd)])) rfl (by rw [hml]; rfl) (Steps.refl _) (argsL := [(.ref sd)]) (rest := []) (lenOf pd__Ljava_lang_Object__Z rfl) rfl (by show 2 * 0 + _ ≤ _; exact Nat.le_of_eq rfl) (hb hby at_229) (fun _ _ => ⟨rfl, e231, (by decide : 38 + 0 ≤ _), (by decide : 729 + 0 ≤ _)⟩)
  dsimp only [Pt.U, Pt.locs, Pt.cells, Pt.slots] at X271' l271 y271 z271 st271 hQ271
  subst l271 y271 z271
  obtain ⟨rfl, N271q, e271⟩ := hQ271
  obtain ⟨lc271, X271, N271⟩ : ∃ lc, Stand p l e room_1 (s.setVm T231.vm) m #[(.int p1), (.int p2), (.int p3), (.int p4), (.int p5)] below meth c T271 lc 38 729 ∧ Fr n0 lc := ⟨_, X271', Fr.app N223 N271q⟩
  have K272 : Gx p e below T0 f0 T271 (mkF m 232 #[.val (.int p1), .val (.int p2), .val (.int p3), .val (.int p4), .val (.int p5), .val (.int (0 : Int32)), .val (.int wq), .val (.ref sa), .val (.ref sb), .val (.ref sc), .val (.ref sd), .val (.ref b1), .val (.ref sd), .val (.ref sc), .val (.ref rr_163), .val (.ref rr_223), .val (.ref sa231)] [(.int (1 : Int32))]) := fun t kt => K269 t (st271.trans kt)
  have K273 : Gx p e below T0 f0 T271 (mkF m 239 #[.val (.int p1), .val (.int p2), .val (.int p3), .val (.int p4), .val (.int p5), .val (.int (0 : Int32)), .val (.int wq), .val (.ref sa), .val (.ref sb), .val (.ref sc), .val (.ref sd), .val (.ref b1), .val (.ref sd), .val (.ref sc), .val (.ref rr_163), .val (.ref rr_223), .val (.ref sa231)] [(.ref sc), (.ref sc)]) := fun t kt => K272 t (by
    show Steps p.tables e below (T271.setTop (mkF m 232 #[.val (.int p1), .val (.int p2), .val (.int p3), .val (.int p4), .val (.int p5), .val (.int (0 : Int32)), .val (.int wq), .val (.ref sa), .val (.ref sb), .val (.ref sc), .val (.ref sd), .val (.ref b1), .val (.ref sd), .val (.ref sc), .val (.ref rr_163), .val (.ref rr_223), .val (.ref sa231)] [(.int (1 : Int32))])) _
    refine XS.ifNo X271.here hx rfl (hb hby at_232) rfl ((if0 _ _).trans (feq (by decide)).1) ?_
    show Steps p.tables e below (T271.setTop (mkF m 235 #[.val (.int p1), .val (.int p2), .val (.int p3), .val (.int p4), .val (.int p5), .val (.int (0 : Int32)), .val (.int wq), .val (.ref sa), .val (.ref sb), .val (.ref sc), .val (.ref sd), .val (.ref b1), .val (.ref sd), .val (.ref sc), .val (.ref rr_163), .val (.ref rr_223), .val (.ref sa231)] [])) _
    refine XS.aload X271.here hx rfl (hb hby at_235) rfl rfl ?_
    show Steps p.tables e below (T271.setTop (mkF m 237 #[.val (.int p1), .val (.int p2), .val (.int p3), .val (.int p4), .val (.int p5), .val (.int (0 : Int32)), .val (.int wq), .val (.ref sa), .val (.ref sb), .val (.ref sc), .val (.ref sd), .val (.ref b1), .val (.ref sd), .val (.ref sc), .val (.ref rr_163), .val (.ref rr_223), .val (.ref sa231)] [(.ref sc)])) _
    refine XS.aload X271.here hx rfl (hb hby at_237) rfl rfl ?_
    exact kt)
  obtain ⟨cq274, kq274, q274a, q274b, q274c⟩ := isOf hZ e271 f252
  obtain ⟨_, _, ⟨T274, L274, k274, n274⟩, -, X274', ⟨Lc274, hQ274, l274, y274, z274⟩, st274⟩ := X271.virtualBack hx (y := (⟨"java/lang/String", "equals", "(Ljava/lang/Object;)Z"⟩ : MethodName)) (z := (⟨"java/lang/String", "equals", "(Ljava/lang/Object;)Z"⟩ : MethodName)) hown (mvT hZ (hw _ (List.mem_of_getElem? (i := 87) rfl))) (mvT hZ (hw _ (List.mem_of_getElem? (i := 60) rfl))) (notFace_of_selects (args := #[]) (mvT hZ (hw _ (List.mem_of_getElem? (i := 62) rfl)))) (mvT hZ (hw _ (List.mem_of_getElem? (i := 62) rfl))) (mvT hZ (hw _ (List.mem_of_getElem? (i := 61) rfl))) (by decide) (backOf (W := 0) (rmErf l Z a0 hw [] sc h231 n0 (Nat.le_trans Z0 kp270.1) ) hZ (hw _ (List.mem_of_getElem? (i := 63) rfl)) (hw _ (List.mem_of_getElem? (i := 2) rfl)) (by decide) (by decide)) q274a q274c (g := (mkF m 239 #[.val (.int p1), .val (.int p2), .val (.int p3), .val (.int p4), .val (.int p5), .val (.int (0 : Int32)), .val (.int wq), .val (.ref sa), .val (.ref sb), .val (.ref sc), .val (.ref sd), .val (.ref b1), .val (.ref sd), .val (.ref sc), .val (.ref rr_163), .val (.ref rr_223), .val (.ref sa231)] [(.ref sc), (.ref sc)])) rfl (by rw [hml]; rfl) (Steps.refl _) (argsL := [(.ref sc)]) (rest := []) (lenOf pd__Ljava_lang_Object__Z rfl) rfl (by show 2 * 0 + _ ≤ _; exact Nat.le_of_eq rfl) (hb hby at_239) (fun _ _ => ⟨rfl, e271, (by decide : 38 + 0 ≤ _), (by decide : 729 + 0 ≤ _)⟩)
  dsimp only [Pt.U, Pt.locs, Pt.cells, Pt.slots] at X274' l274 y274 z274 st274 hQ274
  subst l274 y274 z274
  obtain ⟨rfl, N274q, e274⟩ := hQ274
  obtain ⟨lc274, X274, N274⟩ : ∃ lc, Stand p l e room_1 (s.setVm T231.vm) m #[(.int p1), (.int p2), (.int p3), (.int p4), (.int p5)] below meth c T274 lc 38 729 ∧ Fr n0 lc := ⟨_, X274', Fr.app N271 N274q⟩
  have K275 : Gx p e below T0 f0 T274 (mkF m 242 #[.val (.int p1), .val (.int p2), .val (.int p3), .val (.int p4), .val (.int p5), .val (.int (0 : Int32)), .val (.int wq), .val (.ref sa), .val (.ref sb), .val (.ref sc), .val (.ref sd), .val (.ref b1), .val (.ref sd), .val (.ref sc), .val (.ref rr_163), .val (.ref rr_223), .val (.ref sa231)] [(.int (1 : Int32))]) := fun t kt => K273 t (st274.trans kt)
  have K276 : Gx p e below T0 f0 T274 (mkF m 249 #[.val (.int p1), .val (.int p2), .val (.int p3), .val (.int p4), .val (.int p5), .val (.int (0 : Int32)), .val (.int wq), .val (.ref sa), .val (.ref sb), .val (.ref sc), .val (.ref sd), .val (.ref b1), .val (.ref sd), .val (.ref sc), .val (.ref rr_163), .val (.ref rr_223), .val (.ref sa231)] [(.ref sa231), (.ref rr_163)]) := fun t kt => K275 t (by
    show Steps p.tables e below (T274.setTop (mkF m 242 #[.val (.int p1), .val (.int p2), .val (.int p3), .val (.int p4), .val (.int p5), .val (.int (0 : Int32)), .val (.int wq), .val (.ref sa), .val (.ref sb), .val (.ref sc), .val (.ref sd), .val (.ref b1), .val (.ref sd), .val (.ref sc), .val (.ref rr_163), .val (.ref rr_223), .val (.ref sa231)] [(.int (1 : Int32))])) _
    refine XS.ifNo X274.here hx rfl (hb hby at_242) rfl ((if0 _ _).trans (feq (by decide)).1) ?_
    show Steps p.tables e below (T274.setTop (mkF m 245 #[.val (.int p1), .val (.int p2), .val (.int p3), .val (.int p4), .val (.int p5), .val (.int (0 : Int32)), .val (.int wq), .val (.ref sa), .val (.ref sb), .val (.ref sc), .val (.ref sd), .val (.ref b1), .val (.ref sd), .val (.ref sc), .val (.ref rr_163), .val (.ref rr_223), .val (.ref sa231)] [])) _
    refine XS.aload X274.here hx rfl (hb hby at_245) rfl rfl ?_
    show Steps p.tables e below (T274.setTop (mkF m 247 #[.val (.int p1), .val (.int p2), .val (.int p3), .val (.int p4), .val (.int p5), .val (.int (0 : Int32)), .val (.int wq), .val (.ref sa), .val (.ref sb), .val (.ref sc), .val (.ref sd), .val (.ref b1), .val (.ref sd), .val (.ref sc), .val (.ref rr_163), .val (.ref rr_223), .val (.ref sa231)] [(.ref rr_163)])) _
    refine XS.aload X274.here hx rfl (hb hby at_247) rfl rfl ?_
    exact kt)
  have f277 : Fld Z h231 rr_163 "java/lang/String" "coder" "B" (.int (0 : Int32)) := ((((f165.keep Kc179 (ninS (ne_exa f164 f171 (by decide)) nin0)).ext E189).keep Kc223 nin0).ext E231)
  have f278 : Fld Z h231 rr_163 "java/lang/String" "value" "[B" (.ref rv_163) := ((((f166.keep Kc179 (ninS (ne_exa f164 f171 (by decide)) nin0)).ext E189).keep Kc223 nin0).ext E231)
  have f279 : Old Z n0 h231 := (((((f161.keep Kc163 all0).keep Kc179 (allS (Nat.le_trans Z0 (Nat.le_trans (Keep.refl h0 []).1 (Nat.le_of_eq g1.symm))) all0)).ext E189).keep Kc223 all0).ext E231)
  obtain ⟨cq280, kq280, q280a, q280b, q280c⟩ := isOf hZ e274 f238
  obtain ⟨_, _, ⟨T280, L280, k280, n280⟩, -, X280', ⟨Lc280, hQ280, l280, y280, z280⟩, st280⟩ := X274.virtualBack hx (y := (⟨"java/lang/String", "equals", "(Ljava/lang/Object;)Z"⟩ : MethodName)) (z := (⟨"java/lang/String", "equals", "(Ljava/lang/Object;)Z"⟩ : MethodName)) hown (mvT hZ (hw _ (List.mem_of_getElem? (i := 87) rfl))) (mvT hZ (hw _ (List.mem_of_getElem? (i := 60) rfl))) (notFace_of_selects (args := #[]) (mvT hZ (hw _ (List.mem_of_getElem? (i := 62) rfl)))) (mvT hZ (hw _ (List.mem_of_getElem? (i := 62) rfl))) (mvT hZ (hw _ (List.mem_of_getElem? (i := 61) rfl))) (by decide) (backOf (W := 0) (rmE00 l Z a0 hw [] rr_163 sa231 rv_163 sb231 rk_163 kc231 (0 : Int32) (0 : Int32) [] [] cw h231 n0 (Nat.le_trans Z0 kp270.1) f277 f278 f240 A231 Fc231 Fv231 V231 f279 pr17 hcw rfl rfl) hZ (hw _ (List.mem_of_getElem? (i := 63) rfl)) (hw _ (List.mem_of_getElem? (i := 2) rfl)) (by decide) (by decide)) q280a q280c (g := (mkF m 249 #[.val (.int p1), .val (.int p2), .val (.int p3), .val (.int p4), .val (.int p5), .val (.int (0 : Int32)), .val (.int wq), .val (.ref sa), .val (.ref sb), .val (.ref sc), .val (.ref sd), .val (.ref b1), .val (.ref sd), .val (.ref sc), .val (.ref rr_163), .val (.ref rr_223), .val (.ref sa231)] [(.ref sa231), (.ref rr_163)])) rfl (by rw [hml]; rfl) (Steps.refl _) (argsL := [(.ref sa231)]) (rest := []) (lenOf pd__Ljava_lang_Object__Z rfl) rfl (by show 2 * 0 + _ ≤ _; exact Nat.le_of_eq rfl) (hb hby at_249) (fun _ _ => ⟨rfl, e274, (by decide : 38 + 0 ≤ _), (by decide : 729 + 0 ≤ _)⟩)
  dsimp only [Pt.U, Pt.locs, Pt.cells, Pt.slots] at X280' l280 y280 z280 st280 hQ280
  subst l280 y280 z280
  obtain ⟨rfl, N280q, e280⟩ := hQ280
  obtain ⟨lc280, X280, N280⟩ : ∃ lc, Stand p l e room_1 (s.setVm T231.vm) m #[(.int p1), (.int p2), (.int p3), (.int p4), (.int p5)] below meth c T280 lc 38 729 ∧ Fr n0 lc := ⟨_, X280', Fr.app N274 N280q⟩
  have K281 : Gx p e below T0 f0 T280 (mkF m 252 #[.val (.int p1), .val (.int p2), .val (.int p3), .val (.int p4), .val (.int p5), .val (.int (0 : Int32)), .val (.int wq), .val (.ref sa), .val (.ref sb), .val (.ref sc), .val (.ref sd), .val (.ref b1), .val (.ref sd), .val (.ref sc), .val (.ref rr_163), .val (.ref rr_223), .val (.ref sa231)] [(.int (1 : Int32))]) := fun t kt => K276 t (st280.trans kt)
  have K282 : Gx p e below T0 f0 T280 (mkF m 257 #[.val (.int p1), .val (.int p2), .val (.int p3), .val (.int p4), .val (.int p5), .val (.int (0 : Int32)), .val (.int wq), .val (.ref sa), .val (.ref sb), .val (.ref sc), .val (.ref sd), .val (.ref b1), .val (.ref sd), .val (.ref sc), .val (.ref rr_163), .val (.ref rr_223), .val (.ref sa231)] [(.ref rr_223)]) := fun t kt => K281 t (by
    show Steps p.tables e below (T280.setTop (mkF m 252 #[.val (.int p1), .val (.int p2), .val (.int p3), .val (.int p4), .val (.int p5), .val (.int (0 : Int32)), .val (.int wq), .val (.ref sa), .val (.ref sb), .val (.ref sc), .val (.ref sd), .val (.ref b1), .val (.ref sd), .val (.ref sc), .val (.ref rr_163), .val (.ref rr_223), .val (.ref sa231)] [(.int (1 : Int32))])) _
    refine XS.ifNo X280.here hx rfl (hb hby at_252) rfl ((if0 _ _).trans (feq (by decide)).1) ?_
    show Steps p.tables e below (T280.setTop (mkF m 255 #[.val (.int p1), .val (.int p2), .val (.int p3), .val (.int p4), .val (.int p5), .val (.int (0 : Int32)), .val (.int wq), .val (.ref sa), .val (.ref sb), .val (.ref sc), .val (.ref sd), .val (.ref b1), .val (.ref sd), .val (.ref sc), .val (.ref rr_163), .val (.ref rr_223), .val (.ref sa231)] [])) _
    refine XS.aload X280.here hx rfl (hb hby at_255) rfl rfl ?_
    exact kt)
  obtain ⟨sa283, T283, h283, kk283, sb283, kc283, X283, e283, E283, hS283, hk283, hZ, hown, A283, Fc283, Fv283, V283, -, -, CRq283, -, Sf283, st283⟩ := ldcCH (s := s) (vm0 := T231.vm) X280 hx hZ hown (hw _ (List.mem_of_getElem? (i := 85) rfl)) (own_wS hw) e280 hS231 hk231 (own_EW hw) (List.mem_of_getElem? (i := 5) rfl) CR232.1 (vs := []) (z := (0 : Int32)) ⟨by decide +kernel, by rfl⟩ (by decide) rfl (g := (mkF m 257 #[.val (.int p1), .val (.int p2), .val (.int p3), .val (.int p4), .val (.int p5), .val (.int (0 : Int32)), .val (.int wq), .val (.ref sa), .val (.ref sb), .val (.ref sc), .val (.ref sd), .val (.ref b1), .val (.ref sd), .val (.ref sc), .val (.ref rr_163), .val (.ref rr_223), .val (.ref sa231)] [(.ref rr_223)])) rfl (hb hby at_257) (n := 0) (by decide +kernel) (by decide) (by decide) (by decide)
  have CR284 : CHr Z ELx s.vm s.heap T283.vm h283 := CR232.trans CRq283
  have f285 : Exa Z h283 b1 "com/example/stanzacall/stanzacall/xml/Namespaces" := (f233.ext E283)
  have nn286 := Sf283 b1 (Safe.exa hZ.alike f285 (by decide) (by decide))
  have f287 : Arv Z h283 pa_11 kp_11 (.object "java/lang/String") (16 : Int32) [(.ref sa), (.ref sb), .null, .null, .null, .null, .null, .null, .null, .null, .null, .null, .null, .null, .null, .null] .null := (f235.ext E283)
  obtain ⟨clq288, Arq288, ckq288, cSq288, cNq288, cHq288, cGq288⟩ := id f287
  have nn289 := Sf283 pa_11 (Safe.arr hZ.alike Arq288 (by decide))
  have f290 : Exa Z h283 rr_163 "java/lang/String" := (f238.ext E283)
  have f291 : Exa Z h283 rr_223 "java/lang/String" := (f239.ext E283)
  have f292 : Arv Z h283 rv_163 rk_163 .byte (0 : Int32) [] (.int (0 : Int32)) := (f240.ext E283)
  obtain ⟨clq293, Arq293, ckq293, cSq293, cNq293, cHq293, cGq293⟩ := id f292
  have f294 : Arv Z h283 rv_223 rk_223 .byte (0 : Int32) [] (.int (0 : Int32)) := (f242.ext E283)
  obtain ⟨clq295, Arq295, ckq295, cSq295, cNq295, cHq295, cGq295⟩ := id f294
  have f296 : Exa Z h283 sa "java/lang/String" := (f244.ext E283)
  have f297 : Exa Z h283 sa130 "java/lang/String" := (f245.ext E283)
  have f298 : Exa Z h283 sa189 "java/lang/String" := (f246.ext E283)
  have f299 : Exa Z h283 sa231 "java/lang/String" := (A231.ext E283)
  have f300 : Exa Z h283 sb "java/lang/String" := (f247.ext E283)
  have f301 : Arv Z h283 sb130 kc130 .byte (0 : Int32) [] (.int (0 : Int32)) := (f248.ext E283)
  obtain ⟨clq302, Arq302, ckq302, cSq302, cNq302, cHq302, cGq302⟩ := id f301
  have f303 : Arv Z h283 sb189 kc189 .byte (0 : Int32) [] (.int (0 : Int32)) := (f250.ext E283)
  obtain ⟨clq304, Arq304, ckq304, cSq304, cNq304, cHq304, cGq304⟩ := id f303
  have f305 : Arv Z h283 sb231 kc231 .byte (0 : Int32) [] (.int (0 : Int32)) := (V231.ext E283)
  obtain ⟨clq306, Arq306, ckq306, cSq306, cNq306, cHq306, cGq306⟩ := id f305
  have f307 : Exa Z h283 sc "java/lang/String" := (f252.ext E283)
  have f308 : Arv Z h283 sc_11 ks_11 .int (16 : Int32) [(.int (0 : Int32)), (.int (1 : Int32)), (.int (0 : Int32)), (.int (0 : Int32)), (.int (0 : Int32)), (.int (0 : Int32)), (.int (0 : Int32)), (.int (0 : Int32)), (.int (0 : Int32)), (.int (0 : Int32)), (.int (0 : Int32)), (.int (0 : Int32)), (.int (0 : Int32)), (.int (0 : Int32)), (.int (0 : Int32)), (.int (0 : Int32))] (.int (0 : Int32)) := (f253.ext E283)
  obtain ⟨clq309, Arq309, ckq309, cSq309, cNq309, cHq309, cGq309⟩ := id f308
  have nn310 := Sf283 sc_11 (Safe.arr hZ.alike Arq309 (by decide))
  have f311 : Exa Z h283 sd "java/lang/String" := (f256.ext E283)
  have f312 : Arv Z h283 sva ska .byte sza sxa (.int (0 : Int32)) := (f257.ext E283)
  obtain ⟨clq313, Arq313, ckq313, cSq313, cNq313, cHq313, cGq313⟩ := id f312
  have f314 : Arv Z h283 svb skb .byte szb sxb (.int (0 : Int32)) := (f259.ext E283)
  obtain ⟨clq315, Arq315, ckq315, cSq315, cNq315, cHq315, cGq315⟩ := id f314
  have f316 : Arv Z h283 svc skc .byte szc sxc (.int (0 : Int32)) := (f261.ext E283)
  obtain ⟨clq317, Arq317, ckq317, cSq317, cNq317, cHq317, cGq317⟩ := id f316
  have f318 : Arv Z h283 svd skd .byte szd sxd (.int (0 : Int32)) := (f263.ext E283)
  obtain ⟨clq319, Arq319, ckq319, cSq319, cNq319, cHq319, cGq319⟩ := id f318
  have f320 : Arv Z h283 ua_11 ku_11 (.object "java/lang/String") (16 : Int32) [(.ref sc), (.ref sd), .null, .null, .null, .null, .null, .null, .null, .null, .null, .null, .null, .null, .null, .null] .null := (f265.ext E283)
  obtain ⟨clq321, Arq321, ckq321, cSq321, cNq321, cHq321, cGq321⟩ := id f320
  have nn322 := Sf283 ua_11 (Safe.arr hZ.alike Arq321 (by decide))
  have K323 : Gx p e below T0 f0 T283 (mkF m 259 #[.val (.int p1), .val (.int p2), .val (.int p3), .val (.int p4), .val (.int p5), .val (.int (0 : Int32)), .val (.int wq), .val (.ref sa), .val (.ref sb), .val (.ref sc), .val (.ref sd), .val (.ref b1), .val (.ref sd), .val (.ref sc), .val (.ref rr_163), .val (.ref rr_223), .val (.ref sa231)] [(.ref sa283), (.ref rr_223)]) := fun t kt => K282 t (st283 t kt)
  have f324 : Fld Z h283 rr_223 "java/lang/String" "coder" "B" (.int (0 : Int32)) := ((f225.ext E231).ext E283)
  have f325 : Fld Z h283 rr_223 "java/lang/String" "value" "[B" (.ref rv_223) := ((f226.ext E231).ext E283)
  have f326 : Old Z n0 h283 := (f279.ext E283)
  have kp327 : Keep h0 h283 [] := (kp270.ext E283)
  obtain ⟨cq328, kq328, q328a, q328b, q328c⟩ := isOf hZ e283 f291
  obtain ⟨_, _, ⟨T328, L328, k328, n328⟩, -, X328', ⟨Lc328, hQ328, l328, y328, z328⟩, st328⟩ := X283.virtualBack hx (y := (⟨"java/lang/String", "equals", "(Ljava/lang/Object;)Z"⟩ : MethodName)) (z := (⟨"java/lang/String", "equals", "(Ljava/lang/Object;)Z"⟩ : MethodName)) hown (mvT hZ (hw _ (List.mem_of_getElem? (i := 87) rfl))) (mvT hZ (hw _ (List.mem_of_getElem? (i := 60) rfl))) (notFace_of_selects (args := #[]) (mvT hZ (hw _ (List.mem_of_getElem? (i := 62) rfl)))) (mvT hZ (hw _ (List.mem_of_getElem? (i := 62) rfl))) (mvT hZ (hw _ (List.mem_of_getElem? (i := 61) rfl))) (by decide) (backOf (W := 0) (rmE00 l Z a0 hw [] rr_223 sa283 rv_223 sb283 rk_223 kc283 (0 : Int32) (0 : Int32) [] [] cw h283 n0 (Nat.le_trans Z0 kp327.1) f324 f325 f294 A283 Fc283 Fv283 V283 f326 pr17 hcw rfl rfl) hZ (hw _ (List.mem_of_getElem? (i := 63) rfl)) (hw _ (List.mem_of_getElem? (i := 2) rfl)) (by decide) (by decide)) q328a q328c (g := (mkF m 259 #[.val (.int p1), .val (.int p2), .val (.int p3), .val (.int p4), .val (.int p5), .val (.int (0 : Int32)), .val (.int wq), .val (.ref sa), .val (.ref sb), .val (.ref sc), .val (.ref sd), .val (.ref b1), .val (.ref sd), .val (.ref sc), .val (.ref rr_163), .val (.ref rr_223), .val (.ref sa231)] [(.ref sa283), (.ref rr_223)])) rfl (by rw [hml]; rfl) (Steps.refl _) (argsL := [(.ref sa283)]) (rest := []) (lenOf pd__Ljava_lang_Object__Z rfl) rfl (by show 2 * 0 + _ ≤ _; exact Nat.le_of_eq rfl) (hb hby at_259) (fun _ _ => ⟨rfl, e283, (by decide : 40 + 0 ≤ _), (by decide : 733 + 0 ≤ _)⟩)
  dsimp only [Pt.U, Pt.locs, Pt.cells, Pt.slots] at X328' l328 y328 z328 st328 hQ328
  subst l328 y328 z328
  obtain ⟨rfl, N328q, e328⟩ := hQ328
  obtain ⟨lc328, X328, N328⟩ : ∃ lc, Stand p l e room_1 (s.setVm T283.vm) m #[(.int p1), (.int p2), (.int p3), (.int p4), (.int p5)] below meth c T328 lc 40 733 ∧ Fr n0 lc := ⟨_, X328', Fr.app N280 N328q⟩
  have K329 : Gx p e below T0 f0 T328 (mkF m 262 #[.val (.int p1), .val (.int p2), .val (.int p3), .val (.int p4), .val (.int p5), .val (.int (0 : Int32)), .val (.int wq), .val (.ref sa), .val (.ref sb), .val (.ref sc), .val (.ref sd), .val (.ref b1), .val (.ref sd), .val (.ref sc), .val (.ref rr_163), .val (.ref rr_223), .val (.ref sa231)] [(.int (1 : Int32))]) := fun t kt => K323 t (st328.trans kt)
  have K330 : Gx p e below T0 f0 T328 (mkF m 270 #[.val (.int p1), .val (.int p2), .val (.int p3), .val (.int p4), .val (.int p5), .val (.int (0 : Int32)), .val (.int wq), .val (.ref sa), .val (.ref sb), .val (.ref sc), .val (.ref sd), .val (.ref b1), .val (.ref sd), .val (.ref sc), .val (.ref rr_163), .val (.ref rr_223), .val (.ref sa231)] [(.int (1 : Int32))]) := fun t kt => K329 t (by
    show Steps p.tables e below (T328.setTop (mkF m 262 #[.val (.int p1), .val (.int p2), .val (.int p3), .val (.int p4), .val (.int p5), .val (.int (0 : Int32)), .val (.int wq), .val (.ref sa), .val (.ref sb), .val (.ref sc), .val (.ref sd), .val (.ref b1), .val (.ref sd), .val (.ref sc), .val (.ref rr_163), .val (.ref rr_223), .val (.ref sa231)] [(.int (1 : Int32))])) _
    refine XS.ifNo X328.here hx rfl (hb hby at_262) rfl ((if0 _ _).trans (feq (by decide)).1) ?_
    show Steps p.tables e below (T328.setTop (mkF m 265 #[.val (.int p1), .val (.int p2), .val (.int p3), .val (.int p4), .val (.int p5), .val (.int (0 : Int32)), .val (.int wq), .val (.ref sa), .val (.ref sb), .val (.ref sc), .val (.ref sd), .val (.ref b1), .val (.ref sd), .val (.ref sc), .val (.ref rr_163), .val (.ref rr_223), .val (.ref sa231)] [])) _
    refine XS.iconst X328.here hx rfl (hb hby at_265) ?_
    show Steps p.tables e below (T328.setTop (mkF m 266 #[.val (.int p1), .val (.int p2), .val (.int p3), .val (.int p4), .val (.int p5), .val (.int (0 : Int32)), .val (.int wq), .val (.ref sa), .val (.ref sb), .val (.ref sc), .val (.ref sd), .val (.ref b1), .val (.ref sd), .val (.ref sc), .val (.ref rr_163), .val (.ref rr_223), .val (.ref sa231)] [(.int (1 : Int32))])) _
    refine XS.goto X328.here hx rfl (pc0 := 266) (pc' := 270) rfl (hb hby at_266) (by decide) (by decide) ?_
    exact kt)
  have CR331_ := CR284.trans (CHv.at X328 hZ (own_EW hw) CR284.1)
  obtain ⟨fs331, hr331, hrun331, hended331, hRW331⟩ := X328.leaveW hS283 (show _ ≤ T328.heap.size by rw [e328]; exact hk283) (v := some (.int (1 : Int32))) (fun h => by rw [hret] at h; cases h)
  refine ⟨_, _, pre0 _ (K330 _ ?_), hrun331, hended331, _, _, rfl, ?_, ?_, hRW331.1, hRW331.2.1, hRW331.2.2.1, hRW331.2.2.2.mono (by decide) (by decide)⟩
  · exact retN X328 hx (t := .boolean) hret (by simp) (hb hby at_270) hr331
  · exact ⟨rfl, N328⟩
  · show CHr Z ELx s.vm s.heap T328.vm T328.heap
    rw [e328]
    exact CR331_
theorem pn_0 : plainName "com/example/stanzacall/stanzacall/xml/NamespacesClosePinLaw" = true := by first | (simp [plainName, overriddenIn]; done) | decide +kernel
theorem pd__C_Ljava_lang_String_ : parseMethodDescriptor "(C)Ljava/lang/String;" = some ⟨[.char], some (.object "java/lang/String")⟩ := by decide +kernel
theorem ef_0 (m : MethodId) (p1 : Int32) (p2 : Int32) (p3 : Int32) (p4 : Int32) (p5 : Int32) : entryFrame m #[(.int p1), (.int p2), (.int p3), (.int p4), (.int p5)] maxLocals = mkF m 0 #[.val (.int p1), .val (.int p2), .val (.int p3), .val (.int p4), .val (.int p5), .unset, .unset, .unset, .unset, .unset, .unset, .unset, .unset, .unset, .unset, .unset, .unset] [] := by first | (simp [entryFrame, mkF, argsToLocals, Value.category, maxLocals]; done) | rfl
def Q0 (Z : State) (p1 : Int32) (p2 : Int32) (p3 : Int32) (p4 : Int32) (p5 : Int32) (cw : Int32) (h0 : Heap) (n0 : Nat) (v : Option Value) (h : Heap) (L : List Loc) : Prop := v = some (.int (1 : Int32)) ∧ Fr n0 L
set_option maxRecDepth 65536 in
set_option maxHeartbeats 40000000 in
theorem rm0 (l : Launch) (Z : State) (a0 : Array Value) (hw : ∀ d ∈ tables_1, d.before a0 Z = true) (ws : List Jvm.Cond) (p1 : Int32) (p2 : Int32) (p3 : Int32) (p4 : Int32) (p5 : Int32) (cw : Int32) (h0 : Heap) (n0 : Nat) (Z0 : n0 ≤ h0.size) (pr0 : Old Z n0 h0) (pr1 : Sta Z Z.heap "java/lang/String" "COMPACT_STRINGS" "Z" (.int cw)) (hcw : ¬ (cw = (0 : Int32))) :
    MetFree l x (head1 (Jvm.Cond.code x code maxLocals ret :: ws) room_1) (fun a U => a = #[(.int p1), (.int p2), (.int p3), (.int p4), (.int p5)] ∧ Z.Warmed39 U.vm ∧ U.heap = h0 ∧ CHv Z ELx U.vm h0) (fun _ _ _ _ _ => True) (fun _ U o U' => ∃ v L, o = .returned v ∧ Q0 Z p1 p2 p3 p4 p5 cw h0 n0 v U'.heap L ∧ CHr Z ELx U.vm U.heap U'.vm U'.heap ∧ ReturnedEndW U o U' L room_1.cells room_1.slots) := by
  refine MetFree.of_bodySF (plainFor_of_name pn_0) hisR ?_
  intro p e s m args below meth c s₁ Bd hml0 hP hK
  obtain ⟨rfl, hZ, hh, hCH⟩ := hP
  have hx := Bd.exec
  have hby := Bd.bytes
  have hml : c.maxLocals = 17 := hml0
  have hown : s.vm.findClass "com/example/stanzacall/stanzacall/xml/NamespacesClosePinLaw" = some m.cls := findClass_of_methodNamed Bd.named
  have hnm := (name_of_methodNamed Bd.named Bd.method).1
  have X0 : Stand p l e room_1 (s.setVm s.vm) m #[(.int p1), (.int p2), (.int p3), (.int p4), (.int p5)] below meth c s₁ [] 0 0 := Stand.of_body Bd
  have hZ : Z.Warmed39 (s.setVm s.vm).vm := hZ
  have hown : (s.setVm s.vm).vm.findClass "com/example/stanzacall/stanzacall/xml/NamespacesClosePinLaw" = some m.cls := hown
  have CR0 : CHr Z ELx s.vm h0 s.vm h0 := CHr.refl hCH
  have hS0 : s.Since s.vm h0.size := State.WarmedH.since (State.WarmedH.refl s) _
  have hk0 : h0.size ≤ h0.size := Nat.le_refl _
  have hs0 : h0 = s.heap := hh.symm
  have e0 : s₁.heap = h0 := by rw [← hh, Bd.state]; rfl
  have N0 := Fr.nil n0
  obtain ⟨f0, hf0⟩ : ∃ f, f = entryFrame m #[(.int p1), (.int p2), (.int p3), (.int p4), (.int p5)] maxLocals := ⟨_, rfl⟩
  have pre0 : ∀ t, Steps p.tables e below (s₁.setTop f0) t → Steps p.tables e below (s₁.setTop (entryFrame m #[(.int p1), (.int p2), (.int p3), (.int p4), (.int p5)] maxLocals)) t := fun t k => hf0 ▸ k
  have K0 : Gx p e below s₁ f0 s₁ (mkF m 0 #[.val (.int p1), .val (.int p2), .val (.int p3), .val (.int p4), .val (.int p5), .unset, .unset, .unset, .unset, .unset, .unset, .unset, .unset, .unset, .unset, .unset, .unset] []) := fun t kt => by rw [hf0]; exact castTop (ef_0 m p1 p2 p3 p4 p5) kt
  have K1 : Gx p e below s₁ f0 s₁ (mkF m 4 #[.val (.int p1), .val (.int p2), .val (.int p3), .val (.int p4), .val (.int p5), .unset, .unset, .unset, .unset, .unset, .unset, .unset, .unset, .unset, .unset, .unset, .unset] [(.int (p5 &&& (1 : Int32)))]) := fun t kt => K0 t (by
    show Steps p.tables e below (s₁.setTop (mkF m 0 #[.val (.int p1), .val (.int p2), .val (.int p3), .val (.int p4), .val (.int p5), .unset, .unset, .unset, .unset, .unset, .unset, .unset, .unset, .unset, .unset, .unset, .unset] [])) _
    refine XS.iload X0.here hx rfl (hb hby at_0) rfl ?_
    show Steps p.tables e below (s₁.setTop (mkF m 2 #[.val (.int p1), .val (.int p2), .val (.int p3), .val (.int p4), .val (.int p5), .unset, .unset, .unset, .unset, .unset, .unset, .unset, .unset, .unset, .unset, .unset, .unset] [(.int p5)])) _
    refine XS.iconst X0.here hx rfl (hb hby at_2) ?_
    show Steps p.tables e below (s₁.setTop (mkF m 3 #[.val (.int p1), .val (.int p2), .val (.int p3), .val (.int p4), .val (.int p5), .unset, .unset, .unset, .unset, .unset, .unset, .unset, .unset, .unset, .unset, .unset, .unset] [(.int (1 : Int32)), (.int p5)])) _
    refine XS.iand X0.here hx rfl (hb hby at_3) rfl ?_
    exact kt)
  by_cases hb2 : (p5 &&& (1 : Int32)) = (0 : Int32)
  · skip
    have K3 : Gx p e below s₁ f0 s₁ (mkF m 18 #[.val (.int p1), .val (.int p2), .val (.int p3), .val (.int p4), .val (.int p5), .val (.int (0 : Int32)), .unset, .unset, .unset, .unset, .unset, .unset, .unset, .unset, .unset, .unset, .unset] [(.int (p5 &&& (2 : Int32)))]) := fun t kt => K1 t (by
      show Steps p.tables e below (s₁.setTop (mkF m 4 #[.val (.int p1), .val (.int p2), .val (.int p3), .val (.int p4), .val (.int p5), .unset, .unset, .unset, .unset, .unset, .unset, .unset, .unset, .unset, .unset, .unset, .unset] [(.int (p5 &&& (1 : Int32)))])) _
      refine XS.ifYes X0.here hx rfl (pc0 := 4) (pc' := 11) rfl (hb hby at_4) rfl ((if0 _ _).trans (teq hb2).1) (by decide) (by decide) ?_
      show Steps p.tables e below (s₁.setTop (mkF m 11 #[.val (.int p1), .val (.int p2), .val (.int p3), .val (.int p4), .val (.int p5), .unset, .unset, .unset, .unset, .unset, .unset, .unset, .unset, .unset, .unset, .unset, .unset] [])) _
      refine XS.iconst X0.here hx rfl (hb hby at_11) ?_
      show Steps p.tables e below (s₁.setTop (mkF m 12 #[.val (.int p1), .val (.int p2), .val (.int p3), .val (.int p4), .val (.int p5), .unset, .unset, .unset, .unset, .unset, .unset, .unset, .unset, .unset, .unset, .unset, .unset] [(.int (0 : Int32))])) _
      refine XS.istore X0.here hx rfl (hb hby at_12) rfl (l' := #[.val (.int p1), .val (.int p2), .val (.int p3), .val (.int p4), .val (.int p5), .val (.int (0 : Int32)), .unset, .unset, .unset, .unset, .unset, .unset, .unset, .unset, .unset, .unset, .unset]) rfl ?_
      show Steps p.tables e below (s₁.setTop (mkF m 14 #[.val (.int p1), .val (.int p2), .val (.int p3), .val (.int p4), .val (.int p5), .val (.int (0 : Int32)), .unset, .unset, .unset, .unset, .unset, .unset, .unset, .unset, .unset, .unset, .unset] [])) _
      refine XS.iload X0.here hx rfl (hb hby at_14) rfl ?_
      show Steps p.tables e below (s₁.setTop (mkF m 16 #[.val (.int p1), .val (.int p2), .val (.int p3), .val (.int p4), .val (.int p5), .val (.int (0 : Int32)), .unset, .unset, .unset, .unset, .unset, .unset, .unset, .unset, .unset, .unset, .unset] [(.int p5)])) _
      refine XS.iconst X0.here hx rfl (hb hby at_16) ?_
      show Steps p.tables e below (s₁.setTop (mkF m 17 #[.val (.int p1), .val (.int p2), .val (.int p3), .val (.int p4), .val (.int p5), .val (.int (0 : Int32)), .unset, .unset, .unset, .unset, .unset, .unset, .unset, .unset, .unset, .unset, .unset] [(.int (2 : Int32)), (.int p5)])) _
      refine XS.iand X0.here hx rfl (hb hby at_17) rfl ?_
      exact kt)
    by_cases hb4 : (p5 &&& (2 : Int32)) = (0 : Int32)
    · skip
      have K5 : Gx p e below s₁ f0 s₁ (mkF m 44 #[.val (.int p1), .val (.int p2), .val (.int p3), .val (.int p4), .val (.int p5), .val (.int (0 : Int32)), .val (.int (0 : Int32)), .unset, .unset, .unset, .unset, .unset, .unset, .unset, .unset, .unset, .unset] [(.int ((p1 &&& (255 : Int32)).toUInt32.toUInt16.toUInt32.toInt32))]) := fun t kt => K3 t (by
        show Steps p.tables e below (s₁.setTop (mkF m 18 #[.val (.int p1), .val (.int p2), .val (.int p3), .val (.int p4), .val (.int p5), .val (.int (0 : Int32)), .unset, .unset, .unset, .unset, .unset, .unset, .unset, .unset, .unset, .unset, .unset] [(.int (p5 &&& (2 : Int32)))])) _
        refine XS.ifYes X0.here hx rfl (pc0 := 18) (pc' := 25) rfl (hb hby at_18) rfl ((if0 _ _).trans (teq hb4).1) (by decide) (by decide) ?_
        show Steps p.tables e below (s₁.setTop (mkF m 25 #[.val (.int p1), .val (.int p2), .val (.int p3), .val (.int p4), .val (.int p5), .val (.int (0 : Int32)), .unset, .unset, .unset, .unset, .unset, .unset, .unset, .unset, .unset, .unset, .unset] [])) _
        refine XS.iconst X0.here hx rfl (hb hby at_25) ?_
        show Steps p.tables e below (s₁.setTop (mkF m 26 #[.val (.int p1), .val (.int p2), .val (.int p3), .val (.int p4), .val (.int p5), .val (.int (0 : Int32)), .unset, .unset, .unset, .unset, .unset, .unset, .unset, .unset, .unset, .unset, .unset] [(.int (0 : Int32))])) _
        refine XS.istore X0.here hx rfl (hb hby at_26) rfl (l' := #[.val (.int p1), .val (.int p2), .val (.int p3), .val (.int p4), .val (.int p5), .val (.int (0 : Int32)), .val (.int (0 : Int32)), .unset, .unset, .unset, .unset, .unset, .unset, .unset, .unset, .unset, .unset]) rfl ?_
        show Steps p.tables e below (s₁.setTop (mkF m 28 #[.val (.int p1), .val (.int p2), .val (.int p3), .val (.int p4), .val (.int p5), .val (.int (0 : Int32)), .val (.int (0 : Int32)), .unset, .unset, .unset, .unset, .unset, .unset, .unset, .unset, .unset, .unset] [])) _
        refine XS.iload X0.here hx rfl (hb hby at_28) rfl ?_
        show Steps p.tables e below (s₁.setTop (mkF m 30 #[.val (.int p1), .val (.int p2), .val (.int p3), .val (.int p4), .val (.int p5), .val (.int (0 : Int32)), .val (.int (0 : Int32)), .unset, .unset, .unset, .unset, .unset, .unset, .unset, .unset, .unset, .unset] [(.int (0 : Int32))])) _
        refine XS.ifYes X0.here hx rfl (pc0 := 30) (pc' := 38) rfl (hb hby at_30) rfl ((if0 _ _).trans (teq (by decide)).1) (by decide) (by decide) ?_
        show Steps p.tables e below (s₁.setTop (mkF m 38 #[.val (.int p1), .val (.int p2), .val (.int p3), .val (.int p4), .val (.int p5), .val (.int (0 : Int32)), .val (.int (0 : Int32)), .unset, .unset, .unset, .unset, .unset, .unset, .unset, .unset, .unset, .unset] [])) _
        refine XS.iloadN X0.here hx rfl (hb hby at_38) rfl ?_
        show Steps p.tables e below (s₁.setTop (mkF m 39 #[.val (.int p1), .val (.int p2), .val (.int p3), .val (.int p4), .val (.int p5), .val (.int (0 : Int32)), .val (.int (0 : Int32)), .unset, .unset, .unset, .unset, .unset, .unset, .unset, .unset, .unset, .unset] [(.int p1)])) _
        refine XS.sipush X0.here hx rfl (hb hby at_39) ?_
        show Steps p.tables e below (s₁.setTop (mkF m 42 #[.val (.int p1), .val (.int p2), .val (.int p3), .val (.int p4), .val (.int p5), .val (.int (0 : Int32)), .val (.int (0 : Int32)), .unset, .unset, .unset, .unset, .unset, .unset, .unset, .unset, .unset, .unset] [(.int (255 : Int32)), (.int p1)])) _
        refine XS.iand X0.here hx rfl (hb hby at_42) rfl ?_
        show Steps p.tables e below (s₁.setTop (mkF m 43 #[.val (.int p1), .val (.int p2), .val (.int p3), .val (.int p4), .val (.int p5), .val (.int (0 : Int32)), .val (.int (0 : Int32)), .unset, .unset, .unset, .unset, .unset, .unset, .unset, .unset, .unset, .unset] [(.int (p1 &&& (255 : Int32)))])) _
        refine XS.i2c X0.here hx rfl (hb hby at_43) rfl ?_
        exact kt)
      obtain ⟨_, _, ⟨T6, L6, k6, n6⟩, -, X6', ⟨Lc6, hQ6, l6, y6, z6⟩, st6⟩ := Jvm.LawKit.callS X0 hx (y := (⟨"java/lang/String", "valueOf", "(C)Ljava/lang/String;"⟩ : MethodName)) hown (mvT hZ (hw _ (List.mem_of_getElem? (i := 0) rfl))) (mvT hZ (hw _ (List.mem_of_getElem? (i := 1) rfl))) (mvT hZ (hw _ (List.mem_of_getElem? (i := 2) rfl))) (mvT hZ (hw _ (List.mem_of_getElem? (i := 3) rfl))) (by decide) (backOf (W := 0) (rmVal l Z a0 hw [] ((p1 &&& (255 : Int32)).toUInt32.toUInt16.toUInt32.toInt32) cw h0 n0 (Nat.le_trans Z0 (Keep.refl h0 []).1) pr0 pr1 hcw (own_c255 _)) hZ (hw _ (List.mem_of_getElem? (i := 3) rfl)) (hw _ (List.mem_of_getElem? (i := 2) rfl)) (by decide) (by decide)) (g := (mkF m 44 #[.val (.int p1), .val (.int p2), .val (.int p3), .val (.int p4), .val (.int p5), .val (.int (0 : Int32)), .val (.int (0 : Int32)), .unset, .unset, .unset, .unset, .unset, .unset, .unset, .unset, .unset, .unset] [(.int ((p1 &&& (255 : Int32)).toUInt32.toUInt16.toUInt32.toInt32))])) rfl (by rw [hml]; rfl) (argsL := [(.int ((p1 &&& (255 : Int32)).toUInt32.toUInt16.toUInt32.toInt32))]) (rest := []) (lenOf pd__C_Ljava_lang_String_ rfl) rfl (by show 2 * 0 + _ ≤ _; exact Nat.le_of_eq rfl) (hb hby at_44) (fun _ _ => ⟨rfl, e0, (by decide : 0 + 2 ≤ _), (by decide : 0 + 5 ≤ _)⟩)
      dsimp only [Pt.U, Pt.locs, Pt.cells, Pt.slots] at X6' l6 y6 z6 st6 hQ6
      subst l6 y6 z6
      obtain ⟨h6, e6⟩ : ∃ z, T6.heap = z := ⟨_, rfl⟩
      rw [e6] at hQ6
      obtain ⟨vr_6, vv_6, vk_6, rfl, N6q, Kc6, f7, f8, f9, f10, f11, f12⟩ := hQ6
      obtain ⟨lc6, X6, N6⟩ : ∃ lc, Stand p l e room_1 (s.setVm s.vm) m #[(.int p1), (.int p2), (.int p3), (.int p4), (.int p5)] below meth c T6 lc 2 5 ∧ Fr n0 lc := ⟨_, X6', Fr.app N0 N6q⟩
      have CR13 : CHr Z ELx s.vm h0 s.vm h6 := CR0.trans (CHr.keep Kc6 all0 CR0.1)
      have K14 : Gx p e below s₁ f0 T6 (mkF m 47 #[.val (.int p1), .val (.int p2), .val (.int p3), .val (.int p4), .val (.int p5), .val (.int (0 : Int32)), .val (.int (0 : Int32)), .unset, .unset, .unset, .unset, .unset, .unset, .unset, .unset, .unset, .unset] [(.ref vr_6)]) := fun t kt => K5 t (st6 t kt)
      have K15 : Gx p e below s₁ f0 T6 (mkF m 65 #[.val (.int p1), .val (.int p2), .val (.int p3), .val (.int p4), .val (.int p5), .val (.int (0 : Int32)), .val (.int (0 : Int32)), .val (.ref vr_6), .unset, .unset, .unset, .unset, .unset, .unset, .unset, .unset, .unset] [(.int ((p2 &&& (255 : Int32)).toUInt32.toUInt16.toUInt32.toInt32))]) := fun t kt => K14 t (by
        show Steps p.tables e below (T6.setTop (mkF m 47 #[.val (.int p1), .val (.int p2), .val (.int p3), .val (.int p4), .val (.int p5), .val (.int (0 : Int32)), .val (.int (0 : Int32)), .unset, .unset, .unset, .unset, .unset, .unset, .unset, .unset, .unset, .unset] [(.ref vr_6)])) _
        refine XS.astore X6.here hx rfl (hb hby at_47) rfl rfl (l' := #[.val (.int p1), .val (.int p2), .val (.int p3), .val (.int p4), .val (.int p5), .val (.int (0 : Int32)), .val (.int (0 : Int32)), .val (.ref vr_6), .unset, .unset, .unset, .unset, .unset, .unset, .unset, .unset, .unset]) rfl ?_
        show Steps p.tables e below (T6.setTop (mkF m 49 #[.val (.int p1), .val (.int p2), .val (.int p3), .val (.int p4), .val (.int p5), .val (.int (0 : Int32)), .val (.int (0 : Int32)), .val (.ref vr_6), .unset, .unset, .unset, .unset, .unset, .unset, .unset, .unset, .unset] [])) _
        refine XS.iload X6.here hx rfl (hb hby at_49) rfl ?_
        show Steps p.tables e below (T6.setTop (mkF m 51 #[.val (.int p1), .val (.int p2), .val (.int p3), .val (.int p4), .val (.int p5), .val (.int (0 : Int32)), .val (.int (0 : Int32)), .val (.ref vr_6), .unset, .unset, .unset, .unset, .unset, .unset, .unset, .unset, .unset] [(.int (0 : Int32))])) _
        refine XS.ifYes X6.here hx rfl (pc0 := 51) (pc' := 59) rfl (hb hby at_51) rfl ((if0 _ _).trans (teq (by decide)).1) (by decide) (by decide) ?_
        show Steps p.tables e below (T6.setTop (mkF m 59 #[.val (.int p1), .val (.int p2), .val (.int p3), .val (.int p4), .val (.int p5), .val (.int (0 : Int32)), .val (.int (0 : Int32)), .val (.ref vr_6), .unset, .unset, .unset, .unset, .unset, .unset, .unset, .unset, .unset] [])) _
        refine XS.iloadN X6.here hx rfl (hb hby at_59) rfl ?_
        show Steps p.tables e below (T6.setTop (mkF m 60 #[.val (.int p1), .val (.int p2), .val (.int p3), .val (.int p4), .val (.int p5), .val (.int (0 : Int32)), .val (.int (0 : Int32)), .val (.ref vr_6), .unset, .unset, .unset, .unset, .unset, .unset, .unset, .unset, .unset] [(.int p2)])) _
        refine XS.sipush X6.here hx rfl (hb hby at_60) ?_
        show Steps p.tables e below (T6.setTop (mkF m 63 #[.val (.int p1), .val (.int p2), .val (.int p3), .val (.int p4), .val (.int p5), .val (.int (0 : Int32)), .val (.int (0 : Int32)), .val (.ref vr_6), .unset, .unset, .unset, .unset, .unset, .unset, .unset, .unset, .unset] [(.int (255 : Int32)), (.int p2)])) _
        refine XS.iand X6.here hx rfl (hb hby at_63) rfl ?_
        show Steps p.tables e below (T6.setTop (mkF m 64 #[.val (.int p1), .val (.int p2), .val (.int p3), .val (.int p4), .val (.int p5), .val (.int (0 : Int32)), .val (.int (0 : Int32)), .val (.ref vr_6), .unset, .unset, .unset, .unset, .unset, .unset, .unset, .unset, .unset] [(.int (p2 &&& (255 : Int32)))])) _
        refine XS.i2c X6.here hx rfl (hb hby at_64) rfl ?_
        exact kt)
      have f16 : Old Z n0 h6 := (pr0.keep Kc6 all0)
      have kp17 : Keep h0 h6 [] := (Keep.trans (Keep.refl h0 []) Kc6 all0)
      obtain ⟨_, _, ⟨T18, L18, k18, n18⟩, -, X18', ⟨Lc18, hQ18, l18, y18, z18⟩, st18⟩ := Jvm.LawKit.callS X6 hx (y := (⟨"java/lang/String", "valueOf", "(C)Ljava/lang/String;"⟩ : MethodName)) hown (mvT hZ (hw _ (List.mem_of_getElem? (i := 0) rfl))) (mvT hZ (hw _ (List.mem_of_getElem? (i := 1) rfl))) (mvT hZ (hw _ (List.mem_of_getElem? (i := 2) rfl))) (mvT hZ (hw _ (List.mem_of_getElem? (i := 3) rfl))) (by decide) (backOf (W := 0) (rmVal l Z a0 hw [] ((p2 &&& (255 : Int32)).toUInt32.toUInt16.toUInt32.toInt32) cw h6 n0 (Nat.le_trans Z0 kp17.1) f16 pr1 hcw (own_c255 _)) hZ (hw _ (List.mem_of_getElem? (i := 3) rfl)) (hw _ (List.mem_of_getElem? (i := 2) rfl)) (by decide) (by decide)) (g := (mkF m 65 #[.val (.int p1), .val (.int p2), .val (.int p3), .val (.int p4), .val (.int p5), .val (.int (0 : Int32)), .val (.int (0 : Int32)), .val (.ref vr_6), .unset, .unset, .unset, .unset, .unset, .unset, .unset, .unset, .unset] [(.int ((p2 &&& (255 : Int32)).toUInt32.toUInt16.toUInt32.toInt32))])) rfl (by rw [hml]; rfl) (argsL := [(.int ((p2 &&& (255 : Int32)).toUInt32.toUInt16.toUInt32.toInt32))]) (rest := []) (lenOf pd__C_Ljava_lang_String_ rfl) rfl (by show 2 * 0 + _ ≤ _; exact Nat.le_of_eq rfl) (hb hby at_65) (fun _ _ => ⟨rfl, e6, (by decide : 2 + 2 ≤ _), (by decide : 5 + 5 ≤ _)⟩)
      dsimp only [Pt.U, Pt.locs, Pt.cells, Pt.slots] at X18' l18 y18 z18 st18 hQ18
      subst l18 y18 z18
      obtain ⟨h18, e18⟩ : ∃ z, T18.heap = z := ⟨_, rfl⟩
      rw [e18] at hQ18
      obtain ⟨vr_18, vv_18, vk_18, rfl, N18q, Kc18, f19, f20, f21, f22, f23, f24⟩ := hQ18
      obtain ⟨lc18, X18, N18⟩ : ∃ lc, Stand p l e room_1 (s.setVm s.vm) m #[(.int p1), (.int p2), (.int p3), (.int p4), (.int p5)] below meth c T18 lc 4 10 ∧ Fr n0 lc := ⟨_, X18', Fr.app N6 N18q⟩
      have CR25 : CHr Z ELx s.vm h0 s.vm h18 := CR13.trans (CHr.keep Kc18 all0 CR13.1)
      have K26 : Gx p e below s₁ f0 T18 (mkF m 68 #[.val (.int p1), .val (.int p2), .val (.int p3), .val (.int p4), .val (.int p5), .val (.int (0 : Int32)), .val (.int (0 : Int32)), .val (.ref vr_6), .unset, .unset, .unset, .unset, .unset, .unset, .unset, .unset, .unset] [(.ref vr_18)]) := fun t kt => K15 t (st18 t kt)
      have K27 : Gx p e below s₁ f0 T18 (mkF m 94 #[.val (.int p1), .val (.int p2), .val (.int p3), .val (.int p4), .val (.int p5), .val (.int (0 : Int32)), .val (.int (0 : Int32)), .val (.ref vr_6), .val (.ref vr_18), .unset, .unset, .unset, .unset, .unset, .unset, .unset, .unset] [(.int ((p3 &&& (255 : Int32)).toUInt32.toUInt16.toUInt32.toInt32))]) := fun t kt => K26 t (by
        show Steps p.tables e below (T18.setTop (mkF m 68 #[.val (.int p1), .val (.int p2), .val (.int p3), .val (.int p4), .val (.int p5), .val (.int (0 : Int32)), .val (.int (0 : Int32)), .val (.ref vr_6), .unset, .unset, .unset, .unset, .unset, .unset, .unset, .unset, .unset] [(.ref vr_18)])) _
        refine XS.astore X18.here hx rfl (hb hby at_68) rfl rfl (l' := #[.val (.int p1), .val (.int p2), .val (.int p3), .val (.int p4), .val (.int p5), .val (.int (0 : Int32)), .val (.int (0 : Int32)), .val (.ref vr_6), .val (.ref vr_18), .unset, .unset, .unset, .unset, .unset, .unset, .unset, .unset]) rfl ?_
        show Steps p.tables e below (T18.setTop (mkF m 70 #[.val (.int p1), .val (.int p2), .val (.int p3), .val (.int p4), .val (.int p5), .val (.int (0 : Int32)), .val (.int (0 : Int32)), .val (.ref vr_6), .val (.ref vr_18), .unset, .unset, .unset, .unset, .unset, .unset, .unset, .unset] [])) _
        refine XS.iload X18.here hx rfl (hb hby at_70) rfl ?_
        show Steps p.tables e below (T18.setTop (mkF m 72 #[.val (.int p1), .val (.int p2), .val (.int p3), .val (.int p4), .val (.int p5), .val (.int (0 : Int32)), .val (.int (0 : Int32)), .val (.ref vr_6), .val (.ref vr_18), .unset, .unset, .unset, .unset, .unset, .unset, .unset, .unset] [(.int (0 : Int32))])) _
        refine XS.ifYes X18.here hx rfl (pc0 := 72) (pc' := 88) rfl (hb hby at_72) rfl ((if0 _ _).trans (teq (by decide)).1) (by decide) (by decide) ?_
        show Steps p.tables e below (T18.setTop (mkF m 88 #[.val (.int p1), .val (.int p2), .val (.int p3), .val (.int p4), .val (.int p5), .val (.int (0 : Int32)), .val (.int (0 : Int32)), .val (.ref vr_6), .val (.ref vr_18), .unset, .unset, .unset, .unset, .unset, .unset, .unset, .unset] [])) _
        refine XS.iloadN X18.here hx rfl (hb hby at_88) rfl ?_
        show Steps p.tables e below (T18.setTop (mkF m 89 #[.val (.int p1), .val (.int p2), .val (.int p3), .val (.int p4), .val (.int p5), .val (.int (0 : Int32)), .val (.int (0 : Int32)), .val (.ref vr_6), .val (.ref vr_18), .unset, .unset, .unset, .unset, .unset, .unset, .unset, .unset] [(.int p3)])) _
        refine XS.sipush X18.here hx rfl (hb hby at_89) ?_
        show Steps p.tables e below (T18.setTop (mkF m 92 #[.val (.int p1), .val (.int p2), .val (.int p3), .val (.int p4), .val (.int p5), .val (.int (0 : Int32)), .val (.int (0 : Int32)), .val (.ref vr_6), .val (.ref vr_18), .unset, .unset, .unset, .unset, .unset, .unset, .unset, .unset] [(.int (255 : Int32)), (.int p3)])) _
        refine XS.iand X18.here hx rfl (hb hby at_92) rfl ?_
        show Steps p.tables e below (T18.setTop (mkF m 93 #[.val (.int p1), .val (.int p2), .val (.int p3), .val (.int p4), .val (.int p5), .val (.int (0 : Int32)), .val (.int (0 : Int32)), .val (.ref vr_6), .val (.ref vr_18), .unset, .unset, .unset, .unset, .unset, .unset, .unset, .unset] [(.int (p3 &&& (255 : Int32)))])) _
        refine XS.i2c X18.here hx rfl (hb hby at_93) rfl ?_
        exact kt)
      have f28 : Old Z n0 h18 := (f16.keep Kc18 all0)
      have kp29 : Keep h0 h18 [] := (Keep.trans kp17 Kc18 all0)
      obtain ⟨_, _, ⟨T30, L30, k30, n30⟩, -, X30', ⟨Lc30, hQ30, l30, y30, z30⟩, st30⟩ := Jvm.LawKit.callS X18 hx (y := (⟨"java/lang/String", "valueOf", "(C)Ljava/lang/String;"⟩ : MethodName)) hown (mvT hZ (hw _ (List.mem_of_getElem? (i := 0) rfl))) (mvT hZ (hw _ (List.mem_of_getElem? (i := 1) rfl))) (mvT hZ (hw _ (List.mem_of_getElem? (i := 2) rfl))) (mvT hZ (hw _ (List.mem_of_getElem? (i := 3) rfl))) (by decide) (backOf (W := 0) (rmVal l Z a0 hw [] ((p3 &&& (255 : Int32)).toUInt32.toUInt16.toUInt32.toInt32) cw h18 n0 (Nat.le_trans Z0 kp29.1) f28 pr1 hcw (own_c255 _)) hZ (hw _ (List.mem_of_getElem? (i := 3) rfl)) (hw _ (List.mem_of_getElem? (i := 2) rfl)) (by decide) (by decide)) (g := (mkF m 94 #[.val (.int p1), .val (.int p2), .val (.int p3), .val (.int p4), .val (.int p5), .val (.int (0 : Int32)), .val (.int (0 : Int32)), .val (.ref vr_6), .val (.ref vr_18), .unset, .unset, .unset, .unset, .unset, .unset, .unset, .unset] [(.int ((p3 &&& (255 : Int32)).toUInt32.toUInt16.toUInt32.toInt32))])) rfl (by rw [hml]; rfl) (argsL := [(.int ((p3 &&& (255 : Int32)).toUInt32.toUInt16.toUInt32.toInt32))]) (rest := []) (lenOf pd__C_Ljava_lang_String_ rfl) rfl (by show 2 * 0 + _ ≤ _; exact Nat.le_of_eq rfl) (hb hby at_94) (fun _ _ => ⟨rfl, e18, (by decide : 4 + 2 ≤ _), (by decide : 10 + 5 ≤ _)⟩)
      dsimp only [Pt.U, Pt.locs, Pt.cells, Pt.slots] at X30' l30 y30 z30 st30 hQ30
      subst l30 y30 z30
      obtain ⟨h30, e30⟩ : ∃ z, T30.heap = z := ⟨_, rfl⟩
      rw [e30] at hQ30
      obtain ⟨vr_30, vv_30, vk_30, rfl, N30q, Kc30, f31, f32, f33, f34, f35, f36⟩ := hQ30
      obtain ⟨lc30, X30, N30⟩ : ∃ lc, Stand p l e room_1 (s.setVm s.vm) m #[(.int p1), (.int p2), (.int p3), (.int p4), (.int p5)] below meth c T30 lc 6 15 ∧ Fr n0 lc := ⟨_, X30', Fr.app N18 N30q⟩
      have CR37 : CHr Z ELx s.vm h0 s.vm h30 := CR25.trans (CHr.keep Kc30 all0 CR25.1)
      have K38 : Gx p e below s₁ f0 T30 (mkF m 97 #[.val (.int p1), .val (.int p2), .val (.int p3), .val (.int p4), .val (.int p5), .val (.int (0 : Int32)), .val (.int (0 : Int32)), .val (.ref vr_6), .val (.ref vr_18), .unset, .unset, .unset, .unset, .unset, .unset, .unset, .unset] [(.ref vr_30)]) := fun t kt => K27 t (st30 t kt)
      have K39 : Gx p e below s₁ f0 T30 (mkF m 123 #[.val (.int p1), .val (.int p2), .val (.int p3), .val (.int p4), .val (.int p5), .val (.int (0 : Int32)), .val (.int (0 : Int32)), .val (.ref vr_6), .val (.ref vr_18), .val (.ref vr_30), .unset, .unset, .unset, .unset, .unset, .unset, .unset] [(.int ((p4 &&& (255 : Int32)).toUInt32.toUInt16.toUInt32.toInt32))]) := fun t kt => K38 t (by
        show Steps p.tables e below (T30.setTop (mkF m 97 #[.val (.int p1), .val (.int p2), .val (.int p3), .val (.int p4), .val (.int p5), .val (.int (0 : Int32)), .val (.int (0 : Int32)), .val (.ref vr_6), .val (.ref vr_18), .unset, .unset, .unset, .unset, .unset, .unset, .unset, .unset] [(.ref vr_30)])) _
        refine XS.astore X30.here hx rfl (hb hby at_97) rfl rfl (l' := #[.val (.int p1), .val (.int p2), .val (.int p3), .val (.int p4), .val (.int p5), .val (.int (0 : Int32)), .val (.int (0 : Int32)), .val (.ref vr_6), .val (.ref vr_18), .val (.ref vr_30), .unset, .unset, .unset, .unset, .unset, .unset, .unset]) rfl ?_
        show Steps p.tables e below (T30.setTop (mkF m 99 #[.val (.int p1), .val (.int p2), .val (.int p3), .val (.int p4), .val (.int p5), .val (.int (0 : Int32)), .val (.int (0 : Int32)), .val (.ref vr_6), .val (.ref vr_18), .val (.ref vr_30), .unset, .unset, .unset, .unset, .unset, .unset, .unset] [])) _
        refine XS.iload X30.here hx rfl (hb hby at_99) rfl ?_
        show Steps p.tables e below (T30.setTop (mkF m 101 #[.val (.int p1), .val (.int p2), .val (.int p3), .val (.int p4), .val (.int p5), .val (.int (0 : Int32)), .val (.int (0 : Int32)), .val (.ref vr_6), .val (.ref vr_18), .val (.ref vr_30), .unset, .unset, .unset, .unset, .unset, .unset, .unset] [(.int (0 : Int32))])) _
        refine XS.ifYes X30.here hx rfl (pc0 := 101) (pc' := 117) rfl (hb hby at_101) rfl ((if0 _ _).trans (teq (by decide)).1) (by decide) (by decide) ?_
        show Steps p.tables e below (T30.setTop (mkF m 117 #[.val (.int p1), .val (.int p2), .val (.int p3), .val (.int p4), .val (.int p5), .val (.int (0 : Int32)), .val (.int (0 : Int32)), .val (.ref vr_6), .val (.ref vr_18), .val (.ref vr_30), .unset, .unset, .unset, .unset, .unset, .unset, .unset] [])) _
        refine XS.iloadN X30.here hx rfl (hb hby at_117) rfl ?_
        show Steps p.tables e below (T30.setTop (mkF m 118 #[.val (.int p1), .val (.int p2), .val (.int p3), .val (.int p4), .val (.int p5), .val (.int (0 : Int32)), .val (.int (0 : Int32)), .val (.ref vr_6), .val (.ref vr_18), .val (.ref vr_30), .unset, .unset, .unset, .unset, .unset, .unset, .unset] [(.int p4)])) _
        refine XS.sipush X30.here hx rfl (hb hby at_118) ?_
        show Steps p.tables e below (T30.setTop (mkF m 121 #[.val (.int p1), .val (.int p2), .val (.int p3), .val (.int p4), .val (.int p5), .val (.int (0 : Int32)), .val (.int (0 : Int32)), .val (.ref vr_6), .val (.ref vr_18), .val (.ref vr_30), .unset, .unset, .unset, .unset, .unset, .unset, .unset] [(.int (255 : Int32)), (.int p4)])) _
        refine XS.iand X30.here hx rfl (hb hby at_121) rfl ?_
        show Steps p.tables e below (T30.setTop (mkF m 122 #[.val (.int p1), .val (.int p2), .val (.int p3), .val (.int p4), .val (.int p5), .val (.int (0 : Int32)), .val (.int (0 : Int32)), .val (.ref vr_6), .val (.ref vr_18), .val (.ref vr_30), .unset, .unset, .unset, .unset, .unset, .unset, .unset] [(.int (p4 &&& (255 : Int32)))])) _
        refine XS.i2c X30.here hx rfl (hb hby at_122) rfl ?_
        exact kt)
      have f40 : Old Z n0 h30 := (f28.keep Kc30 all0)
      have kp41 : Keep h0 h30 [] := (Keep.trans kp29 Kc30 all0)
      obtain ⟨_, _, ⟨T42, L42, k42, n42⟩, -, X42', ⟨Lc42, hQ42, l42, y42, z42⟩, st42⟩ := Jvm.LawKit.callS X30 hx (y := (⟨"java/lang/String", "valueOf", "(C)Ljava/lang/String;"⟩ : MethodName)) hown (mvT hZ (hw _ (List.mem_of_getElem? (i := 0) rfl))) (mvT hZ (hw _ (List.mem_of_getElem? (i := 1) rfl))) (mvT hZ (hw _ (List.mem_of_getElem? (i := 2) rfl))) (mvT hZ (hw _ (List.mem_of_getElem? (i := 3) rfl))) (by decide) (backOf (W := 0) (rmVal l Z a0 hw [] ((p4 &&& (255 : Int32)).toUInt32.toUInt16.toUInt32.toInt32) cw h30 n0 (Nat.le_trans Z0 kp41.1) f40 pr1 hcw (own_c255 _)) hZ (hw _ (List.mem_of_getElem? (i := 3) rfl)) (hw _ (List.mem_of_getElem? (i := 2) rfl)) (by decide) (by decide)) (g := (mkF m 123 #[.val (.int p1), .val (.int p2), .val (.int p3), .val (.int p4), .val (.int p5), .val (.int (0 : Int32)), .val (.int (0 : Int32)), .val (.ref vr_6), .val (.ref vr_18), .val (.ref vr_30), .unset, .unset, .unset, .unset, .unset, .unset, .unset] [(.int ((p4 &&& (255 : Int32)).toUInt32.toUInt16.toUInt32.toInt32))])) rfl (by rw [hml]; rfl) (argsL := [(.int ((p4 &&& (255 : Int32)).toUInt32.toUInt16.toUInt32.toInt32))]) (rest := []) (lenOf pd__C_Ljava_lang_String_ rfl) rfl (by show 2 * 0 + _ ≤ _; exact Nat.le_of_eq rfl) (hb hby at_123) (fun _ _ => ⟨rfl, e30, (by decide : 6 + 2 ≤ _), (by decide : 15 + 5 ≤ _)⟩)
      dsimp only [Pt.U, Pt.locs, Pt.cells, Pt.slots] at X42' l42 y42 z42 st42 hQ42
      subst l42 y42 z42
      obtain ⟨h42, e42⟩ : ∃ z, T42.heap = z := ⟨_, rfl⟩
      rw [e42] at hQ42
      obtain ⟨vr_42, vv_42, vk_42, rfl, N42q, Kc42, f43, f44, f45, f46, f47, f48⟩ := hQ42
      obtain ⟨lc42, X42, N42⟩ : ∃ lc, Stand p l e room_1 (s.setVm s.vm) m #[(.int p1), (.int p2), (.int p3), (.int p4), (.int p5)] below meth c T42 lc 8 20 ∧ Fr n0 lc := ⟨_, X42', Fr.app N30 N42q⟩
      have CR49 : CHr Z ELx s.vm h0 s.vm h42 := CR37.trans (CHr.keep Kc42 all0 CR37.1)
      have K50 : Gx p e below s₁ f0 T42 (mkF m 126 #[.val (.int p1), .val (.int p2), .val (.int p3), .val (.int p4), .val (.int p5), .val (.int (0 : Int32)), .val (.int (0 : Int32)), .val (.ref vr_6), .val (.ref vr_18), .val (.ref vr_30), .unset, .unset, .unset, .unset, .unset, .unset, .unset] [(.ref vr_42)]) := fun t kt => K39 t (st42 t kt)
      have K51 : Gx p e below s₁ f0 T42 (mkF m 128 #[.val (.int p1), .val (.int p2), .val (.int p3), .val (.int p4), .val (.int p5), .val (.int (0 : Int32)), .val (.int (0 : Int32)), .val (.ref vr_6), .val (.ref vr_18), .val (.ref vr_30), .val (.ref vr_42), .unset, .unset, .unset, .unset, .unset, .unset] []) := fun t kt => K50 t (by
        show Steps p.tables e below (T42.setTop (mkF m 126 #[.val (.int p1), .val (.int p2), .val (.int p3), .val (.int p4), .val (.int p5), .val (.int (0 : Int32)), .val (.int (0 : Int32)), .val (.ref vr_6), .val (.ref vr_18), .val (.ref vr_30), .unset, .unset, .unset, .unset, .unset, .unset, .unset] [(.ref vr_42)])) _
        refine XS.astore X42.here hx rfl (hb hby at_126) rfl rfl (l' := #[.val (.int p1), .val (.int p2), .val (.int p3), .val (.int p4), .val (.int p5), .val (.int (0 : Int32)), .val (.int (0 : Int32)), .val (.ref vr_6), .val (.ref vr_18), .val (.ref vr_30), .val (.ref vr_42), .unset, .unset, .unset, .unset, .unset, .unset]) rfl ?_
        exact kt)
      have f52 : Fld Z h42 vr_6 "java/lang/String" "value" "[B" (.ref vv_6) := (((f11.keep Kc18 nin0).keep Kc30 nin0).keep Kc42 nin0)
      have f53 : Exa Z h42 vr_6 "java/lang/String" := (((f9.keep Kc18).keep Kc30).keep Kc42)
      have f54 : Fld Z h42 vr_6 "java/lang/String" "coder" "B" (.int (0 : Int32)) := (((f10.keep Kc18 nin0).keep Kc30 nin0).keep Kc42 nin0)
      have f55 : Arv Z h42 vv_6 vk_6 .byte (1 : Int32) [(.int (nar .byte (((p1 &&& (255 : Int32)).toUInt32.toUInt16.toUInt32.toInt32).toInt8.toInt32)))] (.int (0 : Int32)) := (((f12.keep Kc18 nin0).keep Kc30 nin0).keep Kc42 nin0)
      have f56 : Fld Z h42 vr_18 "java/lang/String" "value" "[B" (.ref vv_18) := ((f23.keep Kc30 nin0).keep Kc42 nin0)
      have f57 : Exa Z h42 vr_18 "java/lang/String" := ((f21.keep Kc30).keep Kc42)
      have f58 : Fld Z h42 vr_18 "java/lang/String" "coder" "B" (.int (0 : Int32)) := ((f22.keep Kc30 nin0).keep Kc42 nin0)
      have f59 : Arv Z h42 vv_18 vk_18 .byte (1 : Int32) [(.int (nar .byte (((p2 &&& (255 : Int32)).toUInt32.toUInt16.toUInt32.toInt32).toInt8.toInt32)))] (.int (0 : Int32)) := ((f24.keep Kc30 nin0).keep Kc42 nin0)
      have f60 : Fld Z h42 vr_30 "java/lang/String" "value" "[B" (.ref vv_30) := (f35.keep Kc42 nin0)
      have f61 : Exa Z h42 vr_30 "java/lang/String" := (f33.keep Kc42)
      have f62 : Fld Z h42 vr_30 "java/lang/String" "coder" "B" (.int (0 : Int32)) := (f34.keep Kc42 nin0)
      have f63 : Arv Z h42 vv_30 vk_30 .byte (1 : Int32) [(.int (nar .byte (((p3 &&& (255 : Int32)).toUInt32.toUInt16.toUInt32.toInt32).toInt8.toInt32)))] (.int (0 : Int32)) := (f36.keep Kc42 nin0)
      have f64 : Old Z n0 h42 := (f40.keep Kc42 all0)
      have kp65 : Keep h0 h42 [] := (Keep.trans kp41 Kc42 all0)
      obtain ⟨t_, o_, st_, run_, end_, res_⟩ := tlN Z a0 hw (Nat.le_trans Z0 kp65.1) (X42.mono (by decide) (by decide)) hx hby hml hown hZ Bd.returns (BodyLoose.notSynchronized Bd) e42 N42 hS0 (Nat.le_trans (Nat.le_trans (Nat.le_trans (Nat.le_trans hk0 Kc6.1) Kc18.1) Kc30.1) Kc42.1) (hs0 ▸ CR49) f53 f54 f52 f55 f57 f58 f56 f59 f61 f62 f60 f63 f45 f46 f47 f48 f64 pr1 hcw (Or.inr rfl) (Or.inr rfl) (Or.inr rfl) (Or.inr rfl) (fun q => absurd q (by decide)) (fun q => absurd q (by decide)) rfl
      exact ⟨t_, o_, pre0 _ (K51 _ st_), run_, end_, res_⟩
    · skip
      have K66 : Gx p e below s₁ f0 s₁ (mkF m 44 #[.val (.int p1), .val (.int p2), .val (.int p3), .val (.int p4), .val (.int p5), .val (.int (0 : Int32)), .val (.int (1 : Int32)), .unset, .unset, .unset, .unset, .unset, .unset, .unset, .unset, .unset, .unset] [(.int ((p1 &&& (255 : Int32)).toUInt32.toUInt16.toUInt32.toInt32))]) := fun t kt => K3 t (by
        show Steps p.tables e below (s₁.setTop (mkF m 18 #[.val (.int p1), .val (.int p2), .val (.int p3), .val (.int p4), .val (.int p5), .val (.int (0 : Int32)), .unset, .unset, .unset, .unset, .unset, .unset, .unset, .unset, .unset, .unset, .unset] [(.int (p5 &&& (2 : Int32)))])) _
        refine XS.ifNo X0.here hx rfl (hb hby at_18) rfl ((if0 _ _).trans (feq hb4).1) ?_
        show Steps p.tables e below (s₁.setTop (mkF m 21 #[.val (.int p1), .val (.int p2), .val (.int p3), .val (.int p4), .val (.int p5), .val (.int (0 : Int32)), .unset, .unset, .unset, .unset, .unset, .unset, .unset, .unset, .unset, .unset, .unset] [])) _
        refine XS.iconst X0.here hx rfl (hb hby at_21) ?_
        show Steps p.tables e below (s₁.setTop (mkF m 22 #[.val (.int p1), .val (.int p2), .val (.int p3), .val (.int p4), .val (.int p5), .val (.int (0 : Int32)), .unset, .unset, .unset, .unset, .unset, .unset, .unset, .unset, .unset, .unset, .unset] [(.int (1 : Int32))])) _
        refine XS.goto X0.here hx rfl (pc0 := 22) (pc' := 26) rfl (hb hby at_22) (by decide) (by decide) ?_
        show Steps p.tables e below (s₁.setTop (mkF m 26 #[.val (.int p1), .val (.int p2), .val (.int p3), .val (.int p4), .val (.int p5), .val (.int (0 : Int32)), .unset, .unset, .unset, .unset, .unset, .unset, .unset, .unset, .unset, .unset, .unset] [(.int (1 : Int32))])) _
        refine XS.istore X0.here hx rfl (hb hby at_26) rfl (l' := #[.val (.int p1), .val (.int p2), .val (.int p3), .val (.int p4), .val (.int p5), .val (.int (0 : Int32)), .val (.int (1 : Int32)), .unset, .unset, .unset, .unset, .unset, .unset, .unset, .unset, .unset, .unset]) rfl ?_
        show Steps p.tables e below (s₁.setTop (mkF m 28 #[.val (.int p1), .val (.int p2), .val (.int p3), .val (.int p4), .val (.int p5), .val (.int (0 : Int32)), .val (.int (1 : Int32)), .unset, .unset, .unset, .unset, .unset, .unset, .unset, .unset, .unset, .unset] [])) _
        refine XS.iload X0.here hx rfl (hb hby at_28) rfl ?_
        show Steps p.tables e below (s₁.setTop (mkF m 30 #[.val (.int p1), .val (.int p2), .val (.int p3), .val (.int p4), .val (.int p5), .val (.int (0 : Int32)), .val (.int (1 : Int32)), .unset, .unset, .unset, .unset, .unset, .unset, .unset, .unset, .unset, .unset] [(.int (0 : Int32))])) _
        refine XS.ifYes X0.here hx rfl (pc0 := 30) (pc' := 38) rfl (hb hby at_30) rfl ((if0 _ _).trans (teq (by decide)).1) (by decide) (by decide) ?_
        show Steps p.tables e below (s₁.setTop (mkF m 38 #[.val (.int p1), .val (.int p2), .val (.int p3), .val (.int p4), .val (.int p5), .val (.int (0 : Int32)), .val (.int (1 : Int32)), .unset, .unset, .unset, .unset, .unset, .unset, .unset, .unset, .unset, .unset] [])) _
        refine XS.iloadN X0.here hx rfl (hb hby at_38) rfl ?_
        show Steps p.tables e below (s₁.setTop (mkF m 39 #[.val (.int p1), .val (.int p2), .val (.int p3), .val (.int p4), .val (.int p5), .val (.int (0 : Int32)), .val (.int (1 : Int32)), .unset, .unset, .unset, .unset, .unset, .unset, .unset, .unset, .unset, .unset] [(.int p1)])) _
        refine XS.sipush X0.here hx rfl (hb hby at_39) ?_
        show Steps p.tables e below (s₁.setTop (mkF m 42 #[.val (.int p1), .val (.int p2), .val (.int p3), .val (.int p4), .val (.int p5), .val (.int (0 : Int32)), .val (.int (1 : Int32)), .unset, .unset, .unset, .unset, .unset, .unset, .unset, .unset, .unset, .unset] [(.int (255 : Int32)), (.int p1)])) _
        refine XS.iand X0.here hx rfl (hb hby at_42) rfl ?_
        show Steps p.tables e below (s₁.setTop (mkF m 43 #[.val (.int p1), .val (.int p2), .val (.int p3), .val (.int p4), .val (.int p5), .val (.int (0 : Int32)), .val (.int (1 : Int32)), .unset, .unset, .unset, .unset, .unset, .unset, .unset, .unset, .unset, .unset] [(.int (p1 &&& (255 : Int32)))])) _
        refine XS.i2c X0.here hx rfl (hb hby at_43) rfl ?_
        exact kt)
      obtain ⟨_, _, ⟨T67, L67, k67, n67⟩, -, X67', ⟨Lc67, hQ67, l67, y67, z67⟩, st67⟩ := Jvm.LawKit.callS X0 hx (y := (⟨"java/lang/String", "valueOf", "(C)Ljava/lang/String;"⟩ : MethodName)) hown (mvT hZ (hw _ (List.mem_of_getElem? (i := 0) rfl))) (mvT hZ (hw _ (List.mem_of_getElem? (i := 1) rfl))) (mvT hZ (hw _ (List.mem_of_getElem? (i := 2) rfl))) (mvT hZ (hw _ (List.mem_of_getElem? (i := 3) rfl))) (by decide) (backOf (W := 0) (rmVal l Z a0 hw [] ((p1 &&& (255 : Int32)).toUInt32.toUInt16.toUInt32.toInt32) cw h0 n0 (Nat.le_trans Z0 (Keep.refl h0 []).1) pr0 pr1 hcw (own_c255 _)) hZ (hw _ (List.mem_of_getElem? (i := 3) rfl)) (hw _ (List.mem_of_getElem? (i := 2) rfl)) (by decide) (by decide)) (g := (mkF m 44 #[.val (.int p1), .val (.int p2), .val (.int p3), .val (.int p4), .val (.int p5), .val (.int (0 : Int32)), .val (.int (1 : Int32)), .unset, .unset, .unset, .unset, .unset, .unset, .unset, .unset, .unset, .unset] [(.int ((p1 &&& (255 : Int32)).toUInt32.toUInt16.toUInt32.toInt32))])) rfl (by rw [hml]; rfl) (argsL := [(.int ((p1 &&& (255 : Int32)).toUInt32.toUInt16.toUInt32.toInt32))]) (rest := []) (lenOf pd__C_Ljava_lang_String_ rfl) rfl (by show 2 * 0 + _ ≤ _; exact Nat.le_of_eq rfl) (hb hby at_44) (fun _ _ => ⟨rfl, e0, (by decide : 0 + 2 ≤ _), (by decide : 0 + 5 ≤ _)⟩)
      dsimp only [Pt.U, Pt.locs, Pt.cells, Pt.slots] at X67' l67 y67 z67 st67 hQ67
      subst l67 y67 z67
      obtain ⟨h67, e67⟩ : ∃ z, T67.heap = z := ⟨_, rfl⟩
      rw [e67] at hQ67
      obtain ⟨vr_67, vv_67, vk_67, rfl, N67q, Kc67, f68, f69, f70, f71, f72, f73⟩ := hQ67
      obtain ⟨lc67, X67, N67⟩ : ∃ lc, Stand p l e room_1 (s.setVm s.vm) m #[(.int p1), (.int p2), (.int p3), (.int p4), (.int p5)] below meth c T67 lc 2 5 ∧ Fr n0 lc := ⟨_, X67', Fr.app N0 N67q⟩
      have CR74 : CHr Z ELx s.vm h0 s.vm h67 := CR0.trans (CHr.keep Kc67 all0 CR0.1)
      have K75 : Gx p e below s₁ f0 T67 (mkF m 47 #[.val (.int p1), .val (.int p2), .val (.int p3), .val (.int p4), .val (.int p5), .val (.int (0 : Int32)), .val (.int (1 : Int32)), .unset, .unset, .unset, .unset, .unset, .unset, .unset, .unset, .unset, .unset] [(.ref vr_67)]) := fun t kt => K66 t (st67 t kt)
      have K76 : Gx p e below s₁ f0 T67 (mkF m 54 #[.val (.int p1), .val (.int p2), .val (.int p3), .val (.int p4), .val (.int p5), .val (.int (0 : Int32)), .val (.int (1 : Int32)), .val (.ref vr_67), .unset, .unset, .unset, .unset, .unset, .unset, .unset, .unset, .unset] []) := fun t kt => K75 t (by
        show Steps p.tables e below (T67.setTop (mkF m 47 #[.val (.int p1), .val (.int p2), .val (.int p3), .val (.int p4), .val (.int p5), .val (.int (0 : Int32)), .val (.int (1 : Int32)), .unset, .unset, .unset, .unset, .unset, .unset, .unset, .unset, .unset, .unset] [(.ref vr_67)])) _
        refine XS.astore X67.here hx rfl (hb hby at_47) rfl rfl (l' := #[.val (.int p1), .val (.int p2), .val (.int p3), .val (.int p4), .val (.int p5), .val (.int (0 : Int32)), .val (.int (1 : Int32)), .val (.ref vr_67), .unset, .unset, .unset, .unset, .unset, .unset, .unset, .unset, .unset]) rfl ?_
        show Steps p.tables e below (T67.setTop (mkF m 49 #[.val (.int p1), .val (.int p2), .val (.int p3), .val (.int p4), .val (.int p5), .val (.int (0 : Int32)), .val (.int (1 : Int32)), .val (.ref vr_67), .unset, .unset, .unset, .unset, .unset, .unset, .unset, .unset, .unset] [])) _
        refine XS.iload X67.here hx rfl (hb hby at_49) rfl ?_
        show Steps p.tables e below (T67.setTop (mkF m 51 #[.val (.int p1), .val (.int p2), .val (.int p3), .val (.int p4), .val (.int p5), .val (.int (0 : Int32)), .val (.int (1 : Int32)), .val (.ref vr_67), .unset, .unset, .unset, .unset, .unset, .unset, .unset, .unset, .unset] [(.int (1 : Int32))])) _
        refine XS.ifNo X67.here hx rfl (hb hby at_51) rfl ((if0 _ _).trans (feq (by decide)).1) ?_
        exact kt)
      obtain ⟨sa77, T77, h77, kk77, sb77, kc77, X77, e77, E77, hS77, hk77, hZ, hown, A77, Fc77, Fv77, V77, -, -, CRq77, -, Sf77, st77⟩ := ldcCH (s := s) (vm0 := s.vm) X67 hx hZ hown (hw _ (List.mem_of_getElem? (i := 85) rfl)) (own_wS hw) e67 hS0 (Nat.le_trans hk0 Kc67.1) (own_EW hw) (List.mem_of_getElem? (i := 5) rfl) CR74.1 (vs := []) (z := (0 : Int32)) ⟨by decide +kernel, by rfl⟩ (by decide) rfl (g := (mkF m 54 #[.val (.int p1), .val (.int p2), .val (.int p3), .val (.int p4), .val (.int p5), .val (.int (0 : Int32)), .val (.int (1 : Int32)), .val (.ref vr_67), .unset, .unset, .unset, .unset, .unset, .unset, .unset, .unset, .unset] [])) rfl (hb hby at_54) (n := 0) (by decide +kernel) (by decide) (by decide) (by decide)
      have CR78 : CHr Z ELx s.vm h0 T77.vm h77 := CR74.trans CRq77
      have f79 : Exa Z h77 vr_67 "java/lang/String" := (f70.ext E77)
      have f80 : Arv Z h77 vv_67 vk_67 .byte (1 : Int32) [(.int (nar .byte (((p1 &&& (255 : Int32)).toUInt32.toUInt16.toUInt32.toInt32).toInt8.toInt32)))] (.int (0 : Int32)) := (f73.ext E77)
      obtain ⟨clq81, Arq81, ckq81, cSq81, cNq81, cHq81, cGq81⟩ := id f80
      have K82 : Gx p e below s₁ f0 T77 (mkF m 56 #[.val (.int p1), .val (.int p2), .val (.int p3), .val (.int p4), .val (.int p5), .val (.int (0 : Int32)), .val (.int (1 : Int32)), .val (.ref vr_67), .unset, .unset, .unset, .unset, .unset, .unset, .unset, .unset, .unset] [(.ref sa77)]) := fun t kt => K76 t (st77 t kt)
      have K83 : Gx p e below s₁ f0 T77 (mkF m 94 #[.val (.int p1), .val (.int p2), .val (.int p3), .val (.int p4), .val (.int p5), .val (.int (0 : Int32)), .val (.int (1 : Int32)), .val (.ref vr_67), .val (.ref sa77), .unset, .unset, .unset, .unset, .unset, .unset, .unset, .unset] [(.int ((p3 &&& (255 : Int32)).toUInt32.toUInt16.toUInt32.toInt32))]) := fun t kt => K82 t (by
        show Steps p.tables e below (T77.setTop (mkF m 56 #[.val (.int p1), .val (.int p2), .val (.int p3), .val (.int p4), .val (.int p5), .val (.int (0 : Int32)), .val (.int (1 : Int32)), .val (.ref vr_67), .unset, .unset, .unset, .unset, .unset, .unset, .unset, .unset, .unset] [(.ref sa77)])) _
        refine XS.goto X77.here hx rfl (pc0 := 56) (pc' := 68) rfl (hb hby at_56) (by decide) (by decide) ?_
        show Steps p.tables e below (T77.setTop (mkF m 68 #[.val (.int p1), .val (.int p2), .val (.int p3), .val (.int p4), .val (.int p5), .val (.int (0 : Int32)), .val (.int (1 : Int32)), .val (.ref vr_67), .unset, .unset, .unset, .unset, .unset, .unset, .unset, .unset, .unset] [(.ref sa77)])) _
        refine XS.astore X77.here hx rfl (hb hby at_68) rfl rfl (l' := #[.val (.int p1), .val (.int p2), .val (.int p3), .val (.int p4), .val (.int p5), .val (.int (0 : Int32)), .val (.int (1 : Int32)), .val (.ref vr_67), .val (.ref sa77), .unset, .unset, .unset, .unset, .unset, .unset, .unset, .unset]) rfl ?_
        show Steps p.tables e below (T77.setTop (mkF m 70 #[.val (.int p1), .val (.int p2), .val (.int p3), .val (.int p4), .val (.int p5), .val (.int (0 : Int32)), .val (.int (1 : Int32)), .val (.ref vr_67), .val (.ref sa77), .unset, .unset, .unset, .unset, .unset, .unset, .unset, .unset] [])) _
        refine XS.iload X77.here hx rfl (hb hby at_70) rfl ?_
        show Steps p.tables e below (T77.setTop (mkF m 72 #[.val (.int p1), .val (.int p2), .val (.int p3), .val (.int p4), .val (.int p5), .val (.int (0 : Int32)), .val (.int (1 : Int32)), .val (.ref vr_67), .val (.ref sa77), .unset, .unset, .unset, .unset, .unset, .unset, .unset, .unset] [(.int (0 : Int32))])) _
        refine XS.ifYes X77.here hx rfl (pc0 := 72) (pc' := 88) rfl (hb hby at_72) rfl ((if0 _ _).trans (teq (by decide)).1) (by decide) (by decide) ?_
        show Steps p.tables e below (T77.setTop (mkF m 88 #[.val (.int p1), .val (.int p2), .val (.int p3), .val (.int p4), .val (.int p5), .val (.int (0 : Int32)), .val (.int (1 : Int32)), .val (.ref vr_67), .val (.ref sa77), .unset, .unset, .unset, .unset, .unset, .unset, .unset, .unset] [])) _
        refine XS.iloadN X77.here hx rfl (hb hby at_88) rfl ?_
        show Steps p.tables e below (T77.setTop (mkF m 89 #[.val (.int p1), .val (.int p2), .val (.int p3), .val (.int p4), .val (.int p5), .val (.int (0 : Int32)), .val (.int (1 : Int32)), .val (.ref vr_67), .val (.ref sa77), .unset, .unset, .unset, .unset, .unset, .unset, .unset, .unset] [(.int p3)])) _
        refine XS.sipush X77.here hx rfl (hb hby at_89) ?_
        show Steps p.tables e below (T77.setTop (mkF m 92 #[.val (.int p1), .val (.int p2), .val (.int p3), .val (.int p4), .val (.int p5), .val (.int (0 : Int32)), .val (.int (1 : Int32)), .val (.ref vr_67), .val (.ref sa77), .unset, .unset, .unset, .unset, .unset, .unset, .unset, .unset] [(.int (255 : Int32)), (.int p3)])) _
        refine XS.iand X77.here hx rfl (hb hby at_92) rfl ?_
        show Steps p.tables e below (T77.setTop (mkF m 93 #[.val (.int p1), .val (.int p2), .val (.int p3), .val (.int p4), .val (.int p5), .val (.int (0 : Int32)), .val (.int (1 : Int32)), .val (.ref vr_67), .val (.ref sa77), .unset, .unset, .unset, .unset, .unset, .unset, .unset, .unset] [(.int (p3 &&& (255 : Int32)))])) _
        refine XS.i2c X77.here hx rfl (hb hby at_93) rfl ?_
        exact kt)
      have f84 : Old Z n0 h77 := ((pr0.keep Kc67 all0).ext E77)
      have kp85 : Keep h0 h77 [] := ((Keep.trans (Keep.refl h0 []) Kc67 all0).ext E77)
      obtain ⟨_, _, ⟨T86, L86, k86, n86⟩, -, X86', ⟨Lc86, hQ86, l86, y86, z86⟩, st86⟩ := Jvm.LawKit.callS X77 hx (y := (⟨"java/lang/String", "valueOf", "(C)Ljava/lang/String;"⟩ : MethodName)) hown (mvT hZ (hw _ (List.mem_of_getElem? (i := 0) rfl))) (mvT hZ (hw _ (List.mem_of_getElem? (i := 1) rfl))) (mvT hZ (hw _ (List.mem_of_getElem? (i := 2) rfl))) (mvT hZ (hw _ (List.mem_of_getElem? (i := 3) rfl))) (by decide) (backOf (W := 0) (rmVal l Z a0 hw [] ((p3 &&& (255 : Int32)).toUInt32.toUInt16.toUInt32.toInt32) cw h77 n0 (Nat.le_trans Z0 kp85.1) f84 pr1 hcw (own_c255 _)) hZ (hw _ (List.mem_of_getElem? (i := 3) rfl)) (hw _ (List.mem_of_getElem? (i := 2) rfl)) (by decide) (by decide)) (g := (mkF m 94 #[.val (.int p1), .val (.int p2), .val (.int p3), .val (.int p4), .val (.int p5), .val (.int (0 : Int32)), .val (.int (1 : Int32)), .val (.ref vr_67), .val (.ref sa77), .unset, .unset, .unset, .unset, .unset, .unset, .unset, .unset] [(.int ((p3 &&& (255 : Int32)).toUInt32.toUInt16.toUInt32.toInt32))])) rfl (by rw [hml]; rfl) (argsL := [(.int ((p3 &&& (255 : Int32)).toUInt32.toUInt16.toUInt32.toInt32))]) (rest := []) (lenOf pd__C_Ljava_lang_String_ rfl) rfl (by show 2 * 0 + _ ≤ _; exact Nat.le_of_eq rfl) (hb hby at_94) (fun _ _ => ⟨rfl, e77, (by decide : 4 + 2 ≤ _), (by decide : 9 + 5 ≤ _)⟩)
      dsimp only [Pt.U, Pt.locs, Pt.cells, Pt.slots] at X86' l86 y86 z86 st86 hQ86
      subst l86 y86 z86
      obtain ⟨h86, e86⟩ : ∃ z, T86.heap = z := ⟨_, rfl⟩
      rw [e86] at hQ86
      obtain ⟨vr_86, vv_86, vk_86, rfl, N86q, Kc86, f87, f88, f89, f90, f91, f92⟩ := hQ86
      obtain ⟨lc86, X86, N86⟩ : ∃ lc, Stand p l e room_1 (s.setVm T77.vm) m #[(.int p1), (.int p2), (.int p3), (.int p4), (.int p5)] below meth c T86 lc 6 14 ∧ Fr n0 lc := ⟨_, X86', Fr.app N67 N86q⟩
      have CR93 : CHr Z ELx s.vm h0 T77.vm h86 := CR78.trans (CHr.keep Kc86 all0 CR78.1)
      have K94 : Gx p e below s₁ f0 T86 (mkF m 97 #[.val (.int p1), .val (.int p2), .val (.int p3), .val (.int p4), .val (.int p5), .val (.int (0 : Int32)), .val (.int (1 : Int32)), .val (.ref vr_67), .val (.ref sa77), .unset, .unset, .unset, .unset, .unset, .unset, .unset, .unset] [(.ref vr_86)]) := fun t kt => K83 t (st86 t kt)
      have K95 : Gx p e below s₁ f0 T86 (mkF m 109 #[.val (.int p1), .val (.int p2), .val (.int p3), .val (.int p4), .val (.int p5), .val (.int (0 : Int32)), .val (.int (1 : Int32)), .val (.ref vr_67), .val (.ref sa77), .val (.ref vr_86), .unset, .unset, .unset, .unset, .unset, .unset, .unset] [(.int (p5 &&& (16 : Int32)))]) := fun t kt => K94 t (by
        show Steps p.tables e below (T86.setTop (mkF m 97 #[.val (.int p1), .val (.int p2), .val (.int p3), .val (.int p4), .val (.int p5), .val (.int (0 : Int32)), .val (.int (1 : Int32)), .val (.ref vr_67), .val (.ref sa77), .unset, .unset, .unset, .unset, .unset, .unset, .unset, .unset] [(.ref vr_86)])) _
        refine XS.astore X86.here hx rfl (hb hby at_97) rfl rfl (l' := #[.val (.int p1), .val (.int p2), .val (.int p3), .val (.int p4), .val (.int p5), .val (.int (0 : Int32)), .val (.int (1 : Int32)), .val (.ref vr_67), .val (.ref sa77), .val (.ref vr_86), .unset, .unset, .unset, .unset, .unset, .unset, .unset]) rfl ?_
        show Steps p.tables e below (T86.setTop (mkF m 99 #[.val (.int p1), .val (.int p2), .val (.int p3), .val (.int p4), .val (.int p5), .val (.int (0 : Int32)), .val (.int (1 : Int32)), .val (.ref vr_67), .val (.ref sa77), .val (.ref vr_86), .unset, .unset, .unset, .unset, .unset, .unset, .unset] [])) _
        refine XS.iload X86.here hx rfl (hb hby at_99) rfl ?_
        show Steps p.tables e below (T86.setTop (mkF m 101 #[.val (.int p1), .val (.int p2), .val (.int p3), .val (.int p4), .val (.int p5), .val (.int (0 : Int32)), .val (.int (1 : Int32)), .val (.ref vr_67), .val (.ref sa77), .val (.ref vr_86), .unset, .unset, .unset, .unset, .unset, .unset, .unset] [(.int (1 : Int32))])) _
        refine XS.ifNo X86.here hx rfl (hb hby at_101) rfl ((if0 _ _).trans (feq (by decide)).1) ?_
        show Steps p.tables e below (T86.setTop (mkF m 104 #[.val (.int p1), .val (.int p2), .val (.int p3), .val (.int p4), .val (.int p5), .val (.int (0 : Int32)), .val (.int (1 : Int32)), .val (.ref vr_67), .val (.ref sa77), .val (.ref vr_86), .unset, .unset, .unset, .unset, .unset, .unset, .unset] [])) _
        refine XS.iload X86.here hx rfl (hb hby at_104) rfl ?_
        show Steps p.tables e below (T86.setTop (mkF m 106 #[.val (.int p1), .val (.int p2), .val (.int p3), .val (.int p4), .val (.int p5), .val (.int (0 : Int32)), .val (.int (1 : Int32)), .val (.ref vr_67), .val (.ref sa77), .val (.ref vr_86), .unset, .unset, .unset, .unset, .unset, .unset, .unset] [(.int p5)])) _
        refine XS.bipush X86.here hx rfl (hb hby at_106) ?_
        show Steps p.tables e below (T86.setTop (mkF m 108 #[.val (.int p1), .val (.int p2), .val (.int p3), .val (.int p4), .val (.int p5), .val (.int (0 : Int32)), .val (.int (1 : Int32)), .val (.ref vr_67), .val (.ref sa77), .val (.ref vr_86), .unset, .unset, .unset, .unset, .unset, .unset, .unset] [(.int (16 : Int32)), (.int p5)])) _
        refine XS.iand X86.here hx rfl (hb hby at_108) rfl ?_
        exact kt)
      by_cases hb96 : (p5 &&& (16 : Int32)) = (0 : Int32)
      · skip
        have K97 : Gx p e below s₁ f0 T86 (mkF m 123 #[.val (.int p1), .val (.int p2), .val (.int p3), .val (.int p4), .val (.int p5), .val (.int (0 : Int32)), .val (.int (1 : Int32)), .val (.ref vr_67), .val (.ref sa77), .val (.ref vr_86), .unset, .unset, .unset, .unset, .unset, .unset, .unset] [(.int ((p4 &&& (255 : Int32)).toUInt32.toUInt16.toUInt32.toInt32))]) := fun t kt => K95 t (by
          show Steps p.tables e below (T86.setTop (mkF m 109 #[.val (.int p1), .val (.int p2), .val (.int p3), .val (.int p4), .val (.int p5), .val (.int (0 : Int32)), .val (.int (1 : Int32)), .val (.ref vr_67), .val (.ref sa77), .val (.ref vr_86), .unset, .unset, .unset, .unset, .unset, .unset, .unset] [(.int (p5 &&& (16 : Int32)))])) _
          refine XS.ifYes X86.here hx rfl (pc0 := 109) (pc' := 117) rfl (hb hby at_109) rfl ((if0 _ _).trans (teq hb96).1) (by decide) (by decide) ?_
          show Steps p.tables e below (T86.setTop (mkF m 117 #[.val (.int p1), .val (.int p2), .val (.int p3), .val (.int p4), .val (.int p5), .val (.int (0 : Int32)), .val (.int (1 : Int32)), .val (.ref vr_67), .val (.ref sa77), .val (.ref vr_86), .unset, .unset, .unset, .unset, .unset, .unset, .unset] [])) _
          refine XS.iloadN X86.here hx rfl (hb hby at_117) rfl ?_
          show Steps p.tables e below (T86.setTop (mkF m 118 #[.val (.int p1), .val (.int p2), .val (.int p3), .val (.int p4), .val (.int p5), .val (.int (0 : Int32)), .val (.int (1 : Int32)), .val (.ref vr_67), .val (.ref sa77), .val (.ref vr_86), .unset, .unset, .unset, .unset, .unset, .unset, .unset] [(.int p4)])) _
          refine XS.sipush X86.here hx rfl (hb hby at_118) ?_
          show Steps p.tables e below (T86.setTop (mkF m 121 #[.val (.int p1), .val (.int p2), .val (.int p3), .val (.int p4), .val (.int p5), .val (.int (0 : Int32)), .val (.int (1 : Int32)), .val (.ref vr_67), .val (.ref sa77), .val (.ref vr_86), .unset, .unset, .unset, .unset, .unset, .unset, .unset] [(.int (255 : Int32)), (.int p4)])) _
          refine XS.iand X86.here hx rfl (hb hby at_121) rfl ?_
          show Steps p.tables e below (T86.setTop (mkF m 122 #[.val (.int p1), .val (.int p2), .val (.int p3), .val (.int p4), .val (.int p5), .val (.int (0 : Int32)), .val (.int (1 : Int32)), .val (.ref vr_67), .val (.ref sa77), .val (.ref vr_86), .unset, .unset, .unset, .unset, .unset, .unset, .unset] [(.int (p4 &&& (255 : Int32)))])) _
          refine XS.i2c X86.here hx rfl (hb hby at_122) rfl ?_
          exact kt)
        have f98 : Old Z n0 h86 := (f84.keep Kc86 all0)
        have kp99 : Keep h0 h86 [] := (Keep.trans kp85 Kc86 all0)
        obtain ⟨_, _, ⟨T100, L100, k100, n100⟩, -, X100', ⟨Lc100, hQ100, l100, y100, z100⟩, st100⟩ := Jvm.LawKit.callS X86 hx (y := (⟨"java/lang/String", "valueOf", "(C)Ljava/lang/String;"⟩ : MethodName)) hown (mvT hZ (hw _ (List.mem_of_getElem? (i := 0) rfl))) (mvT hZ (hw _ (List.mem_of_getElem? (i := 1) rfl))) (mvT hZ (hw _ (List.mem_of_getElem? (i := 2) rfl))) (mvT hZ (hw _ (List.mem_of_getElem? (i := 3) rfl))) (by decide) (backOf (W := 0) (rmVal l Z a0 hw [] ((p4 &&& (255 : Int32)).toUInt32.toUInt16.toUInt32.toInt32) cw h86 n0 (Nat.le_trans Z0 kp99.1) f98 pr1 hcw (own_c255 _)) hZ (hw _ (List.mem_of_getElem? (i := 3) rfl)) (hw _ (List.mem_of_getElem? (i := 2) rfl)) (by decide) (by decide)) (g := (mkF m 123 #[.val (.int p1), .val (.int p2), .val (.int p3), .val (.int p4), .val (.int p5), .val (.int (0 : Int32)), .val (.int (1 : Int32)), .val (.ref vr_67), .val (.ref sa77), .val (.ref vr_86), .unset, .unset, .unset, .unset, .unset, .unset, .unset] [(.int ((p4 &&& (255 : Int32)).toUInt32.toUInt16.toUInt32.toInt32))])) rfl (by rw [hml]; rfl) (argsL := [(.int ((p4 &&& (255 : Int32)).toUInt32.toUInt16.toUInt32.toInt32))]) (rest := []) (lenOf pd__C_Ljava_lang_String_ rfl) rfl (by show 2 * 0 + _ ≤ _; exact Nat.le_of_eq rfl) (hb hby at_123) (fun _ _ => ⟨rfl, e86, (by decide : 6 + 2 ≤ _), (by decide : 14 + 5 ≤ _)⟩)
        dsimp only [Pt.U, Pt.locs, Pt.cells, Pt.slots] at X100' l100 y100 z100 st100 hQ100
        subst l100 y100 z100
        obtain ⟨h100, e100⟩ : ∃ z, T100.heap = z := ⟨_, rfl⟩
        rw [e100] at hQ100
        obtain ⟨vr_100, vv_100, vk_100, rfl, N100q, Kc100, f101, f102, f103, f104, f105, f106⟩ := hQ100
        obtain ⟨lc100, X100, N100⟩ : ∃ lc, Stand p l e room_1 (s.setVm T77.vm) m #[(.int p1), (.int p2), (.int p3), (.int p4), (.int p5)] below meth c T100 lc 8 19 ∧ Fr n0 lc := ⟨_, X100', Fr.app N86 N100q⟩
        have CR107 : CHr Z ELx s.vm h0 T77.vm h100 := CR93.trans (CHr.keep Kc100 all0 CR93.1)
        have K108 : Gx p e below s₁ f0 T100 (mkF m 126 #[.val (.int p1), .val (.int p2), .val (.int p3), .val (.int p4), .val (.int p5), .val (.int (0 : Int32)), .val (.int (1 : Int32)), .val (.ref vr_67), .val (.ref sa77), .val (.ref vr_86), .unset, .unset, .unset, .unset, .unset, .unset, .unset] [(.ref vr_100)]) := fun t kt => K97 t (st100 t kt)
        have K109 : Gx p e below s₁ f0 T100 (mkF m 128 #[.val (.int p1), .val (.int p2), .val (.int p3), .val (.int p4), .val (.int p5), .val (.int (0 : Int32)), .val (.int (1 : Int32)), .val (.ref vr_67), .val (.ref sa77), .val (.ref vr_86), .val (.ref vr_100), .unset, .unset, .unset, .unset, .unset, .unset] []) := fun t kt => K108 t (by
          show Steps p.tables e below (T100.setTop (mkF m 126 #[.val (.int p1), .val (.int p2), .val (.int p3), .val (.int p4), .val (.int p5), .val (.int (0 : Int32)), .val (.int (1 : Int32)), .val (.ref vr_67), .val (.ref sa77), .val (.ref vr_86), .unset, .unset, .unset, .unset, .unset, .unset, .unset] [(.ref vr_100)])) _
          refine XS.astore X100.here hx rfl (hb hby at_126) rfl rfl (l' := #[.val (.int p1), .val (.int p2), .val (.int p3), .val (.int p4), .val (.int p5), .val (.int (0 : Int32)), .val (.int (1 : Int32)), .val (.ref vr_67), .val (.ref sa77), .val (.ref vr_86), .val (.ref vr_100), .unset, .unset, .unset, .unset, .unset, .unset]) rfl ?_
          exact kt)
        have f110 : Fld Z h100 vr_67 "java/lang/String" "value" "[B" (.ref vv_67) := (((f72.ext E77).keep Kc86 nin0).keep Kc100 nin0)
        have f111 : Exa Z h100 vr_67 "java/lang/String" := ((f79.keep Kc86).keep Kc100)
        have f112 : Fld Z h100 vr_67 "java/lang/String" "coder" "B" (.int (0 : Int32)) := (((f71.ext E77).keep Kc86 nin0).keep Kc100 nin0)
        have f113 : Arv Z h100 vv_67 vk_67 .byte (1 : Int32) [(.int (nar .byte (((p1 &&& (255 : Int32)).toUInt32.toUInt16.toUInt32.toInt32).toInt8.toInt32)))] (.int (0 : Int32)) := ((f80.keep Kc86 nin0).keep Kc100 nin0)
        have f114 : Fld Z h100 sa77 "java/lang/String" "value" "[B" (.ref sb77) := ((Fv77.keep Kc86 nin0).keep Kc100 nin0)
        have f115 : Exa Z h100 sa77 "java/lang/String" := ((A77.keep Kc86).keep Kc100)
        have f116 : Fld Z h100 sa77 "java/lang/String" "coder" "B" (.int (0 : Int32)) := ((Fc77.keep Kc86 nin0).keep Kc100 nin0)
        have f117 : Arv Z h100 sb77 kc77 .byte (0 : Int32) [] (.int (0 : Int32)) := ((V77.keep Kc86 nin0).keep Kc100 nin0)
        have f118 : Fld Z h100 vr_86 "java/lang/String" "value" "[B" (.ref vv_86) := (f91.keep Kc100 nin0)
        have f119 : Exa Z h100 vr_86 "java/lang/String" := (f89.keep Kc100)
        have f120 : Fld Z h100 vr_86 "java/lang/String" "coder" "B" (.int (0 : Int32)) := (f90.keep Kc100 nin0)
        have f121 : Arv Z h100 vv_86 vk_86 .byte (1 : Int32) [(.int (nar .byte (((p3 &&& (255 : Int32)).toUInt32.toUInt16.toUInt32.toInt32).toInt8.toInt32)))] (.int (0 : Int32)) := (f92.keep Kc100 nin0)
        have f122 : Old Z n0 h100 := (f98.keep Kc100 all0)
        have kp123 : Keep h0 h100 [] := (Keep.trans kp99 Kc100 all0)
        obtain ⟨t_, o_, st_, run_, end_, res_⟩ := tlN Z a0 hw (Nat.le_trans Z0 kp123.1) (X100.mono (by decide) (by decide)) hx hby hml hown hZ Bd.returns (BodyLoose.notSynchronized Bd) e100 N100 hS77 (Nat.le_trans (Nat.le_trans hk77 Kc86.1) Kc100.1) (hs0 ▸ CR107) f111 f112 f110 f113 f115 f116 f114 f117 f119 f120 f118 f121 f103 f104 f105 f106 f122 pr1 hcw (Or.inr rfl) (Or.inl rfl) (Or.inr rfl) (Or.inr rfl) (fun q => absurd q (by decide)) (fun q => rfl) rfl
        exact ⟨t_, o_, pre0 _ (K109 _ st_), run_, end_, res_⟩
      · skip
        have K124 : Gx p e below s₁ f0 T86 (mkF m 112 #[.val (.int p1), .val (.int p2), .val (.int p3), .val (.int p4), .val (.int p5), .val (.int (0 : Int32)), .val (.int (1 : Int32)), .val (.ref vr_67), .val (.ref sa77), .val (.ref vr_86), .unset, .unset, .unset, .unset, .unset, .unset, .unset] []) := fun t kt => K95 t (by
          show Steps p.tables e below (T86.setTop (mkF m 109 #[.val (.int p1), .val (.int p2), .val (.int p3), .val (.int p4), .val (.int p5), .val (.int (0 : Int32)), .val (.int (1 : Int32)), .val (.ref vr_67), .val (.ref sa77), .val (.ref vr_86), .unset, .unset, .unset, .unset, .unset, .unset, .unset] [(.int (p5 &&& (16 : Int32)))])) _
          refine XS.ifNo X86.here hx rfl (hb hby at_109) rfl ((if0 _ _).trans (feq hb96).1) ?_
          exact kt)
        obtain ⟨sa125, T125, h125, kk125, sb125, kc125, X125, e125, E125, hS125, hk125, hZ, hown, A125, Fc125, Fv125, V125, -, -, CRq125, -, Sf125, st125⟩ := ldcCH (s := s) (vm0 := T77.vm) X86 hx hZ hown (hw _ (List.mem_of_getElem? (i := 85) rfl)) (own_wS hw) e86 hS77 (Nat.le_trans hk77 Kc86.1) (own_EW hw) (List.mem_of_getElem? (i := 5) rfl) CR93.1 (vs := []) (z := (0 : Int32)) ⟨by decide +kernel, by rfl⟩ (by decide) rfl (g := (mkF m 112 #[.val (.int p1), .val (.int p2), .val (.int p3), .val (.int p4), .val (.int p5), .val (.int (0 : Int32)), .val (.int (1 : Int32)), .val (.ref vr_67), .val (.ref sa77), .val (.ref vr_86), .unset, .unset, .unset, .unset, .unset, .unset, .unset] [])) rfl (hb hby at_112) (n := 0) (by decide +kernel) (by decide) (by decide) (by decide)
        have CR126 : CHr Z ELx s.vm h0 T125.vm h125 := CR93.trans CRq125
        have f127 : Exa Z h125 sa77 "java/lang/String" := ((A77.keep Kc86).ext E125)
        have f128 : Arv Z h125 sb77 kc77 .byte (0 : Int32) [] (.int (0 : Int32)) := ((V77.keep Kc86 nin0).ext E125)
        obtain ⟨clq129, Arq129, ckq129, cSq129, cNq129, cHq129, cGq129⟩ := id f128
        have f130 : Exa Z h125 vr_67 "java/lang/String" := ((f79.keep Kc86).ext E125)
        have f131 : Exa Z h125 vr_86 "java/lang/String" := (f89.ext E125)
        have f132 : Arv Z h125 vv_67 vk_67 .byte (1 : Int32) [(.int (nar .byte (((p1 &&& (255 : Int32)).toUInt32.toUInt16.toUInt32.toInt32).toInt8.toInt32)))] (.int (0 : Int32)) := ((f80.keep Kc86 nin0).ext E125)
        obtain ⟨clq133, Arq133, ckq133, cSq133, cNq133, cHq133, cGq133⟩ := id f132
        have f134 : Arv Z h125 vv_86 vk_86 .byte (1 : Int32) [(.int (nar .byte (((p3 &&& (255 : Int32)).toUInt32.toUInt16.toUInt32.toInt32).toInt8.toInt32)))] (.int (0 : Int32)) := (f92.ext E125)
        obtain ⟨clq135, Arq135, ckq135, cSq135, cNq135, cHq135, cGq135⟩ := id f134
        have K136 : Gx p e below s₁ f0 T125 (mkF m 114 #[.val (.int p1), .val (.int p2), .val (.int p3), .val (.int p4), .val (.int p5), .val (.int (0 : Int32)), .val (.int (1 : Int32)), .val (.ref vr_67), .val (.ref sa77), .val (.ref vr_86), .unset, .unset, .unset, .unset, .unset, .unset, .unset] [(.ref sa125)]) := fun t kt => K124 t (st125 t kt)
        have K137 : Gx p e below s₁ f0 T125 (mkF m 128 #[.val (.int p1), .val (.int p2), .val (.int p3), .val (.int p4), .val (.int p5), .val (.int (0 : Int32)), .val (.int (1 : Int32)), .val (.ref vr_67), .val (.ref sa77), .val (.ref vr_86), .val (.ref sa125), .unset, .unset, .unset, .unset, .unset, .unset] []) := fun t kt => K136 t (by
          show Steps p.tables e below (T125.setTop (mkF m 114 #[.val (.int p1), .val (.int p2), .val (.int p3), .val (.int p4), .val (.int p5), .val (.int (0 : Int32)), .val (.int (1 : Int32)), .val (.ref vr_67), .val (.ref sa77), .val (.ref vr_86), .unset, .unset, .unset, .unset, .unset, .unset, .unset] [(.ref sa125)])) _
          refine XS.goto X125.here hx rfl (pc0 := 114) (pc' := 126) rfl (hb hby at_114) (by decide) (by decide) ?_
          show Steps p.tables e below (T125.setTop (mkF m 126 #[.val (.int p1), .val (.int p2), .val (.int p3), .val (.int p4), .val (.int p5), .val (.int (0 : Int32)), .val (.int (1 : Int32)), .val (.ref vr_67), .val (.ref sa77), .val (.ref vr_86), .unset, .unset, .unset, .unset, .unset, .unset, .unset] [(.ref sa125)])) _
          refine XS.astore X125.here hx rfl (hb hby at_126) rfl rfl (l' := #[.val (.int p1), .val (.int p2), .val (.int p3), .val (.int p4), .val (.int p5), .val (.int (0 : Int32)), .val (.int (1 : Int32)), .val (.ref vr_67), .val (.ref sa77), .val (.ref vr_86), .val (.ref sa125), .unset, .unset, .unset, .unset, .unset, .unset]) rfl ?_
          exact kt)
        have f138 : Fld Z h125 vr_67 "java/lang/String" "value" "[B" (.ref vv_67) := (((f72.ext E77).keep Kc86 nin0).ext E125)
        have f139 : Fld Z h125 vr_67 "java/lang/String" "coder" "B" (.int (0 : Int32)) := (((f71.ext E77).keep Kc86 nin0).ext E125)
        have f140 : Fld Z h125 sa77 "java/lang/String" "value" "[B" (.ref sb77) := ((Fv77.keep Kc86 nin0).ext E125)
        have f141 : Fld Z h125 sa77 "java/lang/String" "coder" "B" (.int (0 : Int32)) := ((Fc77.keep Kc86 nin0).ext E125)
        have f142 : Fld Z h125 vr_86 "java/lang/String" "value" "[B" (.ref vv_86) := (f91.ext E125)
        have f143 : Fld Z h125 vr_86 "java/lang/String" "coder" "B" (.int (0 : Int32)) := (f90.ext E125)
        have f144 : Old Z n0 h125 := ((f84.keep Kc86 all0).ext E125)
        have kp145 : Keep h0 h125 [] := ((Keep.trans kp85 Kc86 all0).ext E125)
        obtain ⟨t_, o_, st_, run_, end_, res_⟩ := tlN Z a0 hw (Nat.le_trans Z0 kp145.1) (X125.mono (by decide) (by decide)) hx hby hml hown hZ Bd.returns (BodyLoose.notSynchronized Bd) e125 N86 hS125 hk125 (hs0 ▸ CR126) f130 f139 f138 f132 f127 f141 f140 f128 f131 f143 f142 f134 A125 Fc125 Fv125 V125 f144 pr1 hcw (Or.inr rfl) (Or.inl rfl) (Or.inr rfl) (Or.inl rfl) (fun q => absurd q (by decide)) (fun q => rfl) rfl
        exact ⟨t_, o_, pre0 _ (K137 _ st_), run_, end_, res_⟩
  · skip
    have K146 : Gx p e below s₁ f0 s₁ (mkF m 18 #[.val (.int p1), .val (.int p2), .val (.int p3), .val (.int p4), .val (.int p5), .val (.int (1 : Int32)), .unset, .unset, .unset, .unset, .unset, .unset, .unset, .unset, .unset, .unset, .unset] [(.int (p5 &&& (2 : Int32)))]) := fun t kt => K1 t (by
      show Steps p.tables e below (s₁.setTop (mkF m 4 #[.val (.int p1), .val (.int p2), .val (.int p3), .val (.int p4), .val (.int p5), .unset, .unset, .unset, .unset, .unset, .unset, .unset, .unset, .unset, .unset, .unset, .unset] [(.int (p5 &&& (1 : Int32)))])) _
      refine XS.ifNo X0.here hx rfl (hb hby at_4) rfl ((if0 _ _).trans (feq hb2).1) ?_
      show Steps p.tables e below (s₁.setTop (mkF m 7 #[.val (.int p1), .val (.int p2), .val (.int p3), .val (.int p4), .val (.int p5), .unset, .unset, .unset, .unset, .unset, .unset, .unset, .unset, .unset, .unset, .unset, .unset] [])) _
      refine XS.iconst X0.here hx rfl (hb hby at_7) ?_
      show Steps p.tables e below (s₁.setTop (mkF m 8 #[.val (.int p1), .val (.int p2), .val (.int p3), .val (.int p4), .val (.int p5), .unset, .unset, .unset, .unset, .unset, .unset, .unset, .unset, .unset, .unset, .unset, .unset] [(.int (1 : Int32))])) _
      refine XS.goto X0.here hx rfl (pc0 := 8) (pc' := 12) rfl (hb hby at_8) (by decide) (by decide) ?_
      show Steps p.tables e below (s₁.setTop (mkF m 12 #[.val (.int p1), .val (.int p2), .val (.int p3), .val (.int p4), .val (.int p5), .unset, .unset, .unset, .unset, .unset, .unset, .unset, .unset, .unset, .unset, .unset, .unset] [(.int (1 : Int32))])) _
      refine XS.istore X0.here hx rfl (hb hby at_12) rfl (l' := #[.val (.int p1), .val (.int p2), .val (.int p3), .val (.int p4), .val (.int p5), .val (.int (1 : Int32)), .unset, .unset, .unset, .unset, .unset, .unset, .unset, .unset, .unset, .unset, .unset]) rfl ?_
      show Steps p.tables e below (s₁.setTop (mkF m 14 #[.val (.int p1), .val (.int p2), .val (.int p3), .val (.int p4), .val (.int p5), .val (.int (1 : Int32)), .unset, .unset, .unset, .unset, .unset, .unset, .unset, .unset, .unset, .unset, .unset] [])) _
      refine XS.iload X0.here hx rfl (hb hby at_14) rfl ?_
      show Steps p.tables e below (s₁.setTop (mkF m 16 #[.val (.int p1), .val (.int p2), .val (.int p3), .val (.int p4), .val (.int p5), .val (.int (1 : Int32)), .unset, .unset, .unset, .unset, .unset, .unset, .unset, .unset, .unset, .unset, .unset] [(.int p5)])) _
      refine XS.iconst X0.here hx rfl (hb hby at_16) ?_
      show Steps p.tables e below (s₁.setTop (mkF m 17 #[.val (.int p1), .val (.int p2), .val (.int p3), .val (.int p4), .val (.int p5), .val (.int (1 : Int32)), .unset, .unset, .unset, .unset, .unset, .unset, .unset, .unset, .unset, .unset, .unset] [(.int (2 : Int32)), (.int p5)])) _
      refine XS.iand X0.here hx rfl (hb hby at_17) rfl ?_
      exact kt)
    by_cases hb147 : (p5 &&& (2 : Int32)) = (0 : Int32)
    · skip
      have K148 : Gx p e below s₁ f0 s₁ (mkF m 33 #[.val (.int p1), .val (.int p2), .val (.int p3), .val (.int p4), .val (.int p5), .val (.int (1 : Int32)), .val (.int (0 : Int32)), .unset, .unset, .unset, .unset, .unset, .unset, .unset, .unset, .unset, .unset] []) := fun t kt => K146 t (by
        show Steps p.tables e below (s₁.setTop (mkF m 18 #[.val (.int p1), .val (.int p2), .val (.int p3), .val (.int p4), .val (.int p5), .val (.int (1 : Int32)), .unset, .unset, .unset, .unset, .unset, .unset, .unset, .unset, .unset, .unset, .unset] [(.int (p5 &&& (2 : Int32)))])) _
        refine XS.ifYes X0.here hx rfl (pc0 := 18) (pc' := 25) rfl (hb hby at_18) rfl ((if0 _ _).trans (teq hb147).1) (by decide) (by decide) ?_
        show Steps p.tables e below (s₁.setTop (mkF m 25 #[.val (.int p1), .val (.int p2), .val (.int p3), .val (.int p4), .val (.int p5), .val (.int (1 : Int32)), .unset, .unset, .unset, .unset, .unset, .unset, .unset, .unset, .unset, .unset, .unset] [])) _
        refine XS.iconst X0.here hx rfl (hb hby at_25) ?_
        show Steps p.tables e below (s₁.setTop (mkF m 26 #[.val (.int p1), .val (.int p2), .val (.int p3), .val (.int p4), .val (.int p5), .val (.int (1 : Int32)), .unset, .unset, .unset, .unset, .unset, .unset, .unset, .unset, .unset, .unset, .unset] [(.int (0 : Int32))])) _
        refine XS.istore X0.here hx rfl (hb hby at_26) rfl (l' := #[.val (.int p1), .val (.int p2), .val (.int p3), .val (.int p4), .val (.int p5), .val (.int (1 : Int32)), .val (.int (0 : Int32)), .unset, .unset, .unset, .unset, .unset, .unset, .unset, .unset, .unset, .unset]) rfl ?_
        show Steps p.tables e below (s₁.setTop (mkF m 28 #[.val (.int p1), .val (.int p2), .val (.int p3), .val (.int p4), .val (.int p5), .val (.int (1 : Int32)), .val (.int (0 : Int32)), .unset, .unset, .unset, .unset, .unset, .unset, .unset, .unset, .unset, .unset] [])) _
        refine XS.iload X0.here hx rfl (hb hby at_28) rfl ?_
        show Steps p.tables e below (s₁.setTop (mkF m 30 #[.val (.int p1), .val (.int p2), .val (.int p3), .val (.int p4), .val (.int p5), .val (.int (1 : Int32)), .val (.int (0 : Int32)), .unset, .unset, .unset, .unset, .unset, .unset, .unset, .unset, .unset, .unset] [(.int (1 : Int32))])) _
        refine XS.ifNo X0.here hx rfl (hb hby at_30) rfl ((if0 _ _).trans (feq (by decide)).1) ?_
        exact kt)
      obtain ⟨sa149, T149, h149, kk149, sb149, kc149, X149, e149, E149, hS149, hk149, hZ, hown, A149, Fc149, Fv149, V149, -, -, CRq149, -, Sf149, st149⟩ := ldcCH (s := s) (vm0 := s.vm) X0 hx hZ hown (hw _ (List.mem_of_getElem? (i := 85) rfl)) (own_wS hw) e0 hS0 hk0 (own_EW hw) (List.mem_of_getElem? (i := 5) rfl) CR0.1 (vs := []) (z := (0 : Int32)) ⟨by decide +kernel, by rfl⟩ (by decide) rfl (g := (mkF m 33 #[.val (.int p1), .val (.int p2), .val (.int p3), .val (.int p4), .val (.int p5), .val (.int (1 : Int32)), .val (.int (0 : Int32)), .unset, .unset, .unset, .unset, .unset, .unset, .unset, .unset, .unset, .unset] [])) rfl (hb hby at_33) (n := 0) (by decide +kernel) (by decide) (by decide) (by decide)
      have CR150 : CHr Z ELx s.vm h0 T149.vm h149 := CR0.trans CRq149
      have K151 : Gx p e below s₁ f0 T149 (mkF m 35 #[.val (.int p1), .val (.int p2), .val (.int p3), .val (.int p4), .val (.int p5), .val (.int (1 : Int32)), .val (.int (0 : Int32)), .unset, .unset, .unset, .unset, .unset, .unset, .unset, .unset, .unset, .unset] [(.ref sa149)]) := fun t kt => K148 t (st149 t kt)
      have K152 : Gx p e below s₁ f0 T149 (mkF m 65 #[.val (.int p1), .val (.int p2), .val (.int p3), .val (.int p4), .val (.int p5), .val (.int (1 : Int32)), .val (.int (0 : Int32)), .val (.ref sa149), .unset, .unset, .unset, .unset, .unset, .unset, .unset, .unset, .unset] [(.int ((p2 &&& (255 : Int32)).toUInt32.toUInt16.toUInt32.toInt32))]) := fun t kt => K151 t (by
        show Steps p.tables e below (T149.setTop (mkF m 35 #[.val (.int p1), .val (.int p2), .val (.int p3), .val (.int p4), .val (.int p5), .val (.int (1 : Int32)), .val (.int (0 : Int32)), .unset, .unset, .unset, .unset, .unset, .unset, .unset, .unset, .unset, .unset] [(.ref sa149)])) _
        refine XS.goto X149.here hx rfl (pc0 := 35) (pc' := 47) rfl (hb hby at_35) (by decide) (by decide) ?_
        show Steps p.tables e below (T149.setTop (mkF m 47 #[.val (.int p1), .val (.int p2), .val (.int p3), .val (.int p4), .val (.int p5), .val (.int (1 : Int32)), .val (.int (0 : Int32)), .unset, .unset, .unset, .unset, .unset, .unset, .unset, .unset, .unset, .unset] [(.ref sa149)])) _
        refine XS.astore X149.here hx rfl (hb hby at_47) rfl rfl (l' := #[.val (.int p1), .val (.int p2), .val (.int p3), .val (.int p4), .val (.int p5), .val (.int (1 : Int32)), .val (.int (0 : Int32)), .val (.ref sa149), .unset, .unset, .unset, .unset, .unset, .unset, .unset, .unset, .unset]) rfl ?_
        show Steps p.tables e below (T149.setTop (mkF m 49 #[.val (.int p1), .val (.int p2), .val (.int p3), .val (.int p4), .val (.int p5), .val (.int (1 : Int32)), .val (.int (0 : Int32)), .val (.ref sa149), .unset, .unset, .unset, .unset, .unset, .unset, .unset, .unset, .unset] [])) _
        refine XS.iload X149.here hx rfl (hb hby at_49) rfl ?_
        show Steps p.tables e below (T149.setTop (mkF m 51 #[.val (.int p1), .val (.int p2), .val (.int p3), .val (.int p4), .val (.int p5), .val (.int (1 : Int32)), .val (.int (0 : Int32)), .val (.ref sa149), .unset, .unset, .unset, .unset, .unset, .unset, .unset, .unset, .unset] [(.int (0 : Int32))])) _
        refine XS.ifYes X149.here hx rfl (pc0 := 51) (pc' := 59) rfl (hb hby at_51) rfl ((if0 _ _).trans (teq (by decide)).1) (by decide) (by decide) ?_
        show Steps p.tables e below (T149.setTop (mkF m 59 #[.val (.int p1), .val (.int p2), .val (.int p3), .val (.int p4), .val (.int p5), .val (.int (1 : Int32)), .val (.int (0 : Int32)), .val (.ref sa149), .unset, .unset, .unset, .unset, .unset, .unset, .unset, .unset, .unset] [])) _
        refine XS.iloadN X149.here hx rfl (hb hby at_59) rfl ?_
        show Steps p.tables e below (T149.setTop (mkF m 60 #[.val (.int p1), .val (.int p2), .val (.int p3), .val (.int p4), .val (.int p5), .val (.int (1 : Int32)), .val (.int (0 : Int32)), .val (.ref sa149), .unset, .unset, .unset, .unset, .unset, .unset, .unset, .unset, .unset] [(.int p2)])) _
        refine XS.sipush X149.here hx rfl (hb hby at_60) ?_
        show Steps p.tables e below (T149.setTop (mkF m 63 #[.val (.int p1), .val (.int p2), .val (.int p3), .val (.int p4), .val (.int p5), .val (.int (1 : Int32)), .val (.int (0 : Int32)), .val (.ref sa149), .unset, .unset, .unset, .unset, .unset, .unset, .unset, .unset, .unset] [(.int (255 : Int32)), (.int p2)])) _
        refine XS.iand X149.here hx rfl (hb hby at_63) rfl ?_
        show Steps p.tables e below (T149.setTop (mkF m 64 #[.val (.int p1), .val (.int p2), .val (.int p3), .val (.int p4), .val (.int p5), .val (.int (1 : Int32)), .val (.int (0 : Int32)), .val (.ref sa149), .unset, .unset, .unset, .unset, .unset, .unset, .unset, .unset, .unset] [(.int (p2 &&& (255 : Int32)))])) _
        refine XS.i2c X149.here hx rfl (hb hby at_64) rfl ?_
        exact kt)
      have f153 : Old Z n0 h149 := (pr0.ext E149)
      have kp154 : Keep h0 h149 [] := ((Keep.refl h0 []).ext E149)
      obtain ⟨_, _, ⟨T155, L155, k155, n155⟩, -, X155', ⟨Lc155, hQ155, l155, y155, z155⟩, st155⟩ := Jvm.LawKit.callS X149 hx (y := (⟨"java/lang/String", "valueOf", "(C)Ljava/lang/String;"⟩ : MethodName)) hown (mvT hZ (hw _ (List.mem_of_getElem? (i := 0) rfl))) (mvT hZ (hw _ (List.mem_of_getElem? (i := 1) rfl))) (mvT hZ (hw _ (List.mem_of_getElem? (i := 2) rfl))) (mvT hZ (hw _ (List.mem_of_getElem? (i := 3) rfl))) (by decide) (backOf (W := 0) (rmVal l Z a0 hw [] ((p2 &&& (255 : Int32)).toUInt32.toUInt16.toUInt32.toInt32) cw h149 n0 (Nat.le_trans Z0 kp154.1) f153 pr1 hcw (own_c255 _)) hZ (hw _ (List.mem_of_getElem? (i := 3) rfl)) (hw _ (List.mem_of_getElem? (i := 2) rfl)) (by decide) (by decide)) (g := (mkF m 65 #[.val (.int p1), .val (.int p2), .val (.int p3), .val (.int p4), .val (.int p5), .val (.int (1 : Int32)), .val (.int (0 : Int32)), .val (.ref sa149), .unset, .unset, .unset, .unset, .unset, .unset, .unset, .unset, .unset] [(.int ((p2 &&& (255 : Int32)).toUInt32.toUInt16.toUInt32.toInt32))])) rfl (by rw [hml]; rfl) (argsL := [(.int ((p2 &&& (255 : Int32)).toUInt32.toUInt16.toUInt32.toInt32))]) (rest := []) (lenOf pd__C_Ljava_lang_String_ rfl) rfl (by show 2 * 0 + _ ≤ _; exact Nat.le_of_eq rfl) (hb hby at_65) (fun _ _ => ⟨rfl, e149, (by decide : 2 + 2 ≤ _), (by decide : 4 + 5 ≤ _)⟩)
      dsimp only [Pt.U, Pt.locs, Pt.cells, Pt.slots] at X155' l155 y155 z155 st155 hQ155
      subst l155 y155 z155
      obtain ⟨h155, e155⟩ : ∃ z, T155.heap = z := ⟨_, rfl⟩
      rw [e155] at hQ155
      obtain ⟨vr_155, vv_155, vk_155, rfl, N155q, Kc155, f156, f157, f158, f159, f160, f161⟩ := hQ155
      obtain ⟨lc155, X155, N155⟩ : ∃ lc, Stand p l e room_1 (s.setVm T149.vm) m #[(.int p1), (.int p2), (.int p3), (.int p4), (.int p5)] below meth c T155 lc 4 9 ∧ Fr n0 lc := ⟨_, X155', Fr.app N0 N155q⟩
      have CR162 : CHr Z ELx s.vm h0 T149.vm h155 := CR150.trans (CHr.keep Kc155 all0 CR150.1)
      have K163 : Gx p e below s₁ f0 T155 (mkF m 68 #[.val (.int p1), .val (.int p2), .val (.int p3), .val (.int p4), .val (.int p5), .val (.int (1 : Int32)), .val (.int (0 : Int32)), .val (.ref sa149), .unset, .unset, .unset, .unset, .unset, .unset, .unset, .unset, .unset] [(.ref vr_155)]) := fun t kt => K152 t (st155 t kt)
      have K164 : Gx p e below s₁ f0 T155 (mkF m 80 #[.val (.int p1), .val (.int p2), .val (.int p3), .val (.int p4), .val (.int p5), .val (.int (1 : Int32)), .val (.int (0 : Int32)), .val (.ref sa149), .val (.ref vr_155), .unset, .unset, .unset, .unset, .unset, .unset, .unset, .unset] [(.int (p5 &&& (8 : Int32)))]) := fun t kt => K163 t (by
        show Steps p.tables e below (T155.setTop (mkF m 68 #[.val (.int p1), .val (.int p2), .val (.int p3), .val (.int p4), .val (.int p5), .val (.int (1 : Int32)), .val (.int (0 : Int32)), .val (.ref sa149), .unset, .unset, .unset, .unset, .unset, .unset, .unset, .unset, .unset] [(.ref vr_155)])) _
        refine XS.astore X155.here hx rfl (hb hby at_68) rfl rfl (l' := #[.val (.int p1), .val (.int p2), .val (.int p3), .val (.int p4), .val (.int p5), .val (.int (1 : Int32)), .val (.int (0 : Int32)), .val (.ref sa149), .val (.ref vr_155), .unset, .unset, .unset, .unset, .unset, .unset, .unset, .unset]) rfl ?_
        show Steps p.tables e below (T155.setTop (mkF m 70 #[.val (.int p1), .val (.int p2), .val (.int p3), .val (.int p4), .val (.int p5), .val (.int (1 : Int32)), .val (.int (0 : Int32)), .val (.ref sa149), .val (.ref vr_155), .unset, .unset, .unset, .unset, .unset, .unset, .unset, .unset] [])) _
        refine XS.iload X155.here hx rfl (hb hby at_70) rfl ?_
        show Steps p.tables e below (T155.setTop (mkF m 72 #[.val (.int p1), .val (.int p2), .val (.int p3), .val (.int p4), .val (.int p5), .val (.int (1 : Int32)), .val (.int (0 : Int32)), .val (.ref sa149), .val (.ref vr_155), .unset, .unset, .unset, .unset, .unset, .unset, .unset, .unset] [(.int (1 : Int32))])) _
        refine XS.ifNo X155.here hx rfl (hb hby at_72) rfl ((if0 _ _).trans (feq (by decide)).1) ?_
        show Steps p.tables e below (T155.setTop (mkF m 75 #[.val (.int p1), .val (.int p2), .val (.int p3), .val (.int p4), .val (.int p5), .val (.int (1 : Int32)), .val (.int (0 : Int32)), .val (.ref sa149), .val (.ref vr_155), .unset, .unset, .unset, .unset, .unset, .unset, .unset, .unset] [])) _
        refine XS.iload X155.here hx rfl (hb hby at_75) rfl ?_
        show Steps p.tables e below (T155.setTop (mkF m 77 #[.val (.int p1), .val (.int p2), .val (.int p3), .val (.int p4), .val (.int p5), .val (.int (1 : Int32)), .val (.int (0 : Int32)), .val (.ref sa149), .val (.ref vr_155), .unset, .unset, .unset, .unset, .unset, .unset, .unset, .unset] [(.int p5)])) _
        refine XS.bipush X155.here hx rfl (hb hby at_77) ?_
        show Steps p.tables e below (T155.setTop (mkF m 79 #[.val (.int p1), .val (.int p2), .val (.int p3), .val (.int p4), .val (.int p5), .val (.int (1 : Int32)), .val (.int (0 : Int32)), .val (.ref sa149), .val (.ref vr_155), .unset, .unset, .unset, .unset, .unset, .unset, .unset, .unset] [(.int (8 : Int32)), (.int p5)])) _
        refine XS.iand X155.here hx rfl (hb hby at_79) rfl ?_
        exact kt)
      by_cases hb165 : (p5 &&& (8 : Int32)) = (0 : Int32)
      · skip
        have K166 : Gx p e below s₁ f0 T155 (mkF m 94 #[.val (.int p1), .val (.int p2), .val (.int p3), .val (.int p4), .val (.int p5), .val (.int (1 : Int32)), .val (.int (0 : Int32)), .val (.ref sa149), .val (.ref vr_155), .unset, .unset, .unset, .unset, .unset, .unset, .unset, .unset] [(.int ((p3 &&& (255 : Int32)).toUInt32.toUInt16.toUInt32.toInt32))]) := fun t kt => K164 t (by
          show Steps p.tables e below (T155.setTop (mkF m 80 #[.val (.int p1), .val (.int p2), .val (.int p3), .val (.int p4), .val (.int p5), .val (.int (1 : Int32)), .val (.int (0 : Int32)), .val (.ref sa149), .val (.ref vr_155), .unset, .unset, .unset, .unset, .unset, .unset, .unset, .unset] [(.int (p5 &&& (8 : Int32)))])) _
          refine XS.ifYes X155.here hx rfl (pc0 := 80) (pc' := 88) rfl (hb hby at_80) rfl ((if0 _ _).trans (teq hb165).1) (by decide) (by decide) ?_
          show Steps p.tables e below (T155.setTop (mkF m 88 #[.val (.int p1), .val (.int p2), .val (.int p3), .val (.int p4), .val (.int p5), .val (.int (1 : Int32)), .val (.int (0 : Int32)), .val (.ref sa149), .val (.ref vr_155), .unset, .unset, .unset, .unset, .unset, .unset, .unset, .unset] [])) _
          refine XS.iloadN X155.here hx rfl (hb hby at_88) rfl ?_
          show Steps p.tables e below (T155.setTop (mkF m 89 #[.val (.int p1), .val (.int p2), .val (.int p3), .val (.int p4), .val (.int p5), .val (.int (1 : Int32)), .val (.int (0 : Int32)), .val (.ref sa149), .val (.ref vr_155), .unset, .unset, .unset, .unset, .unset, .unset, .unset, .unset] [(.int p3)])) _
          refine XS.sipush X155.here hx rfl (hb hby at_89) ?_
          show Steps p.tables e below (T155.setTop (mkF m 92 #[.val (.int p1), .val (.int p2), .val (.int p3), .val (.int p4), .val (.int p5), .val (.int (1 : Int32)), .val (.int (0 : Int32)), .val (.ref sa149), .val (.ref vr_155), .unset, .unset, .unset, .unset, .unset, .unset, .unset, .unset] [(.int (255 : Int32)), (.int p3)])) _
          refine XS.iand X155.here hx rfl (hb hby at_92) rfl ?_
          show Steps p.tables e below (T155.setTop (mkF m 93 #[.val (.int p1), .val (.int p2), .val (.int p3), .val (.int p4), .val (.int p5), .val (.int (1 : Int32)), .val (.int (0 : Int32)), .val (.ref sa149), .val (.ref vr_155), .unset, .unset, .unset, .unset, .unset, .unset, .unset, .unset] [(.int (p3 &&& (255 : Int32)))])) _
          refine XS.i2c X155.here hx rfl (hb hby at_93) rfl ?_
          exact kt)
        have f167 : Old Z n0 h155 := (f153.keep Kc155 all0)
        have kp168 : Keep h0 h155 [] := (Keep.trans kp154 Kc155 all0)
        obtain ⟨_, _, ⟨T169, L169, k169, n169⟩, -, X169', ⟨Lc169, hQ169, l169, y169, z169⟩, st169⟩ := Jvm.LawKit.callS X155 hx (y := (⟨"java/lang/String", "valueOf", "(C)Ljava/lang/String;"⟩ : MethodName)) hown (mvT hZ (hw _ (List.mem_of_getElem? (i := 0) rfl))) (mvT hZ (hw _ (List.mem_of_getElem? (i := 1) rfl))) (mvT hZ (hw _ (List.mem_of_getElem? (i := 2) rfl))) (mvT hZ (hw _ (List.mem_of_getElem? (i := 3) rfl))) (by decide) (backOf (W := 0) (rmVal l Z a0 hw [] ((p3 &&& (255 : Int32)).toUInt32.toUInt16.toUInt32.toInt32) cw h155 n0 (Nat.le_trans Z0 kp168.1) f167 pr1 hcw (own_c255 _)) hZ (hw _ (List.mem_of_getElem? (i := 3) rfl)) (hw _ (List.mem_of_getElem? (i := 2) rfl)) (by decide) (by decide)) (g := (mkF m 94 #[.val (.int p1), .val (.int p2), .val (.int p3), .val (.int p4), .val (.int p5), .val (.int (1 : Int32)), .val (.int (0 : Int32)), .val (.ref sa149), .val (.ref vr_155), .unset, .unset, .unset, .unset, .unset, .unset, .unset, .unset] [(.int ((p3 &&& (255 : Int32)).toUInt32.toUInt16.toUInt32.toInt32))])) rfl (by rw [hml]; rfl) (argsL := [(.int ((p3 &&& (255 : Int32)).toUInt32.toUInt16.toUInt32.toInt32))]) (rest := []) (lenOf pd__C_Ljava_lang_String_ rfl) rfl (by show 2 * 0 + _ ≤ _; exact Nat.le_of_eq rfl) (hb hby at_94) (fun _ _ => ⟨rfl, e155, (by decide : 4 + 2 ≤ _), (by decide : 9 + 5 ≤ _)⟩)
        dsimp only [Pt.U, Pt.locs, Pt.cells, Pt.slots] at X169' l169 y169 z169 st169 hQ169
        subst l169 y169 z169
        obtain ⟨h169, e169⟩ : ∃ z, T169.heap = z := ⟨_, rfl⟩
        rw [e169] at hQ169
        obtain ⟨vr_169, vv_169, vk_169, rfl, N169q, Kc169, f170, f171, f172, f173, f174, f175⟩ := hQ169
        obtain ⟨lc169, X169, N169⟩ : ∃ lc, Stand p l e room_1 (s.setVm T149.vm) m #[(.int p1), (.int p2), (.int p3), (.int p4), (.int p5)] below meth c T169 lc 6 14 ∧ Fr n0 lc := ⟨_, X169', Fr.app N155 N169q⟩
        have CR176 : CHr Z ELx s.vm h0 T149.vm h169 := CR162.trans (CHr.keep Kc169 all0 CR162.1)
        have K177 : Gx p e below s₁ f0 T169 (mkF m 97 #[.val (.int p1), .val (.int p2), .val (.int p3), .val (.int p4), .val (.int p5), .val (.int (1 : Int32)), .val (.int (0 : Int32)), .val (.ref sa149), .val (.ref vr_155), .unset, .unset, .unset, .unset, .unset, .unset, .unset, .unset] [(.ref vr_169)]) := fun t kt => K166 t (st169 t kt)
        have K178 : Gx p e below s₁ f0 T169 (mkF m 123 #[.val (.int p1), .val (.int p2), .val (.int p3), .val (.int p4), .val (.int p5), .val (.int (1 : Int32)), .val (.int (0 : Int32)), .val (.ref sa149), .val (.ref vr_155), .val (.ref vr_169), .unset, .unset, .unset, .unset, .unset, .unset, .unset] [(.int ((p4 &&& (255 : Int32)).toUInt32.toUInt16.toUInt32.toInt32))]) := fun t kt => K177 t (by
          show Steps p.tables e below (T169.setTop (mkF m 97 #[.val (.int p1), .val (.int p2), .val (.int p3), .val (.int p4), .val (.int p5), .val (.int (1 : Int32)), .val (.int (0 : Int32)), .val (.ref sa149), .val (.ref vr_155), .unset, .unset, .unset, .unset, .unset, .unset, .unset, .unset] [(.ref vr_169)])) _
          refine XS.astore X169.here hx rfl (hb hby at_97) rfl rfl (l' := #[.val (.int p1), .val (.int p2), .val (.int p3), .val (.int p4), .val (.int p5), .val (.int (1 : Int32)), .val (.int (0 : Int32)), .val (.ref sa149), .val (.ref vr_155), .val (.ref vr_169), .unset, .unset, .unset, .unset, .unset, .unset, .unset]) rfl ?_
          show Steps p.tables e below (T169.setTop (mkF m 99 #[.val (.int p1), .val (.int p2), .val (.int p3), .val (.int p4), .val (.int p5), .val (.int (1 : Int32)), .val (.int (0 : Int32)), .val (.ref sa149), .val (.ref vr_155), .val (.ref vr_169), .unset, .unset, .unset, .unset, .unset, .unset, .unset] [])) _
          refine XS.iload X169.here hx rfl (hb hby at_99) rfl ?_
          show Steps p.tables e below (T169.setTop (mkF m 101 #[.val (.int p1), .val (.int p2), .val (.int p3), .val (.int p4), .val (.int p5), .val (.int (1 : Int32)), .val (.int (0 : Int32)), .val (.ref sa149), .val (.ref vr_155), .val (.ref vr_169), .unset, .unset, .unset, .unset, .unset, .unset, .unset] [(.int (0 : Int32))])) _
          refine XS.ifYes X169.here hx rfl (pc0 := 101) (pc' := 117) rfl (hb hby at_101) rfl ((if0 _ _).trans (teq (by decide)).1) (by decide) (by decide) ?_
          show Steps p.tables e below (T169.setTop (mkF m 117 #[.val (.int p1), .val (.int p2), .val (.int p3), .val (.int p4), .val (.int p5), .val (.int (1 : Int32)), .val (.int (0 : Int32)), .val (.ref sa149), .val (.ref vr_155), .val (.ref vr_169), .unset, .unset, .unset, .unset, .unset, .unset, .unset] [])) _
          refine XS.iloadN X169.here hx rfl (hb hby at_117) rfl ?_
          show Steps p.tables e below (T169.setTop (mkF m 118 #[.val (.int p1), .val (.int p2), .val (.int p3), .val (.int p4), .val (.int p5), .val (.int (1 : Int32)), .val (.int (0 : Int32)), .val (.ref sa149), .val (.ref vr_155), .val (.ref vr_169), .unset, .unset, .unset, .unset, .unset, .unset, .unset] [(.int p4)])) _
          refine XS.sipush X169.here hx rfl (hb hby at_118) ?_
          show Steps p.tables e below (T169.setTop (mkF m 121 #[.val (.int p1), .val (.int p2), .val (.int p3), .val (.int p4), .val (.int p5), .val (.int (1 : Int32)), .val (.int (0 : Int32)), .val (.ref sa149), .val (.ref vr_155), .val (.ref vr_169), .unset, .unset, .unset, .unset, .unset, .unset, .unset] [(.int (255 : Int32)), (.int p4)])) _
          refine XS.iand X169.here hx rfl (hb hby at_121) rfl ?_
          show Steps p.tables e below (T169.setTop (mkF m 122 #[.val (.int p1), .val (.int p2), .val (.int p3), .val (.int p4), .val (.int p5), .val (.int (1 : Int32)), .val (.int (0 : Int32)), .val (.ref sa149), .val (.ref vr_155), .val (.ref vr_169), .unset, .unset, .unset, .unset, .unset, .unset, .unset] [(.int (p4 &&& (255 : Int32)))])) _
          refine XS.i2c X169.here hx rfl (hb hby at_122) rfl ?_
          exact kt)
        have f179 : Old Z n0 h169 := (f167.keep Kc169 all0)
        have kp180 : Keep h0 h169 [] := (Keep.trans kp168 Kc169 all0)
        obtain ⟨_, _, ⟨T181, L181, k181, n181⟩, -, X181', ⟨Lc181, hQ181, l181, y181, z181⟩, st181⟩ := Jvm.LawKit.callS X169 hx (y := (⟨"java/lang/String", "valueOf", "(C)Ljava/lang/String;"⟩ : MethodName)) hown (mvT hZ (hw _ (List.mem_of_getElem? (i := 0) rfl))) (mvT hZ (hw _ (List.mem_of_getElem? (i := 1) rfl))) (mvT hZ (hw _ (List.mem_of_getElem? (i := 2) rfl))) (mvT hZ (hw _ (List.mem_of_getElem? (i := 3) rfl))) (by decide) (backOf (W := 0) (rmVal l Z a0 hw [] ((p4 &&& (255 : Int32)).toUInt32.toUInt16.toUInt32.toInt32) cw h169 n0 (Nat.le_trans Z0 kp180.1) f179 pr1 hcw (own_c255 _)) hZ (hw _ (List.mem_of_getElem? (i := 3) rfl)) (hw _ (List.mem_of_getElem? (i := 2) rfl)) (by decide) (by decide)) (g := (mkF m 123 #[.val (.int p1), .val (.int p2), .val (.int p3), .val (.int p4), .val (.int p5), .val (.int (1 : Int32)), .val (.int (0 : Int32)), .val (.ref sa149), .val (.ref vr_155), .val (.ref vr_169), .unset, .unset, .unset, .unset, .unset, .unset, .unset] [(.int ((p4 &&& (255 : Int32)).toUInt32.toUInt16.toUInt32.toInt32))])) rfl (by rw [hml]; rfl) (argsL := [(.int ((p4 &&& (255 : Int32)).toUInt32.toUInt16.toUInt32.toInt32))]) (rest := []) (lenOf pd__C_Ljava_lang_String_ rfl) rfl (by show 2 * 0 + _ ≤ _; exact Nat.le_of_eq rfl) (hb hby at_123) (fun _ _ => ⟨rfl, e169, (by decide : 6 + 2 ≤ _), (by decide : 14 + 5 ≤ _)⟩)
        dsimp only [Pt.U, Pt.locs, Pt.cells, Pt.slots] at X181' l181 y181 z181 st181 hQ181
        subst l181 y181 z181
        obtain ⟨h181, e181⟩ : ∃ z, T181.heap = z := ⟨_, rfl⟩
        rw [e181] at hQ181
        obtain ⟨vr_181, vv_181, vk_181, rfl, N181q, Kc181, f182, f183, f184, f185, f186, f187⟩ := hQ181
        obtain ⟨lc181, X181, N181⟩ : ∃ lc, Stand p l e room_1 (s.setVm T149.vm) m #[(.int p1), (.int p2), (.int p3), (.int p4), (.int p5)] below meth c T181 lc 8 19 ∧ Fr n0 lc := ⟨_, X181', Fr.app N169 N181q⟩
        have CR188 : CHr Z ELx s.vm h0 T149.vm h181 := CR176.trans (CHr.keep Kc181 all0 CR176.1)
        have K189 : Gx p e below s₁ f0 T181 (mkF m 126 #[.val (.int p1), .val (.int p2), .val (.int p3), .val (.int p4), .val (.int p5), .val (.int (1 : Int32)), .val (.int (0 : Int32)), .val (.ref sa149), .val (.ref vr_155), .val (.ref vr_169), .unset, .unset, .unset, .unset, .unset, .unset, .unset] [(.ref vr_181)]) := fun t kt => K178 t (st181 t kt)
        have K190 : Gx p e below s₁ f0 T181 (mkF m 128 #[.val (.int p1), .val (.int p2), .val (.int p3), .val (.int p4), .val (.int p5), .val (.int (1 : Int32)), .val (.int (0 : Int32)), .val (.ref sa149), .val (.ref vr_155), .val (.ref vr_169), .val (.ref vr_181), .unset, .unset, .unset, .unset, .unset, .unset] []) := fun t kt => K189 t (by
          show Steps p.tables e below (T181.setTop (mkF m 126 #[.val (.int p1), .val (.int p2), .val (.int p3), .val (.int p4), .val (.int p5), .val (.int (1 : Int32)), .val (.int (0 : Int32)), .val (.ref sa149), .val (.ref vr_155), .val (.ref vr_169), .unset, .unset, .unset, .unset, .unset, .unset, .unset] [(.ref vr_181)])) _
          refine XS.astore X181.here hx rfl (hb hby at_126) rfl rfl (l' := #[.val (.int p1), .val (.int p2), .val (.int p3), .val (.int p4), .val (.int p5), .val (.int (1 : Int32)), .val (.int (0 : Int32)), .val (.ref sa149), .val (.ref vr_155), .val (.ref vr_169), .val (.ref vr_181), .unset, .unset, .unset, .unset, .unset, .unset]) rfl ?_
          exact kt)
        have f191 : Fld Z h181 sa149 "java/lang/String" "value" "[B" (.ref sb149) := (((Fv149.keep Kc155 nin0).keep Kc169 nin0).keep Kc181 nin0)
        have f192 : Exa Z h181 sa149 "java/lang/String" := (((A149.keep Kc155).keep Kc169).keep Kc181)
        have f193 : Fld Z h181 sa149 "java/lang/String" "coder" "B" (.int (0 : Int32)) := (((Fc149.keep Kc155 nin0).keep Kc169 nin0).keep Kc181 nin0)
        have f194 : Arv Z h181 sb149 kc149 .byte (0 : Int32) [] (.int (0 : Int32)) := (((V149.keep Kc155 nin0).keep Kc169 nin0).keep Kc181 nin0)
        have f195 : Fld Z h181 vr_155 "java/lang/String" "value" "[B" (.ref vv_155) := ((f160.keep Kc169 nin0).keep Kc181 nin0)
        have f196 : Exa Z h181 vr_155 "java/lang/String" := ((f158.keep Kc169).keep Kc181)
        have f197 : Fld Z h181 vr_155 "java/lang/String" "coder" "B" (.int (0 : Int32)) := ((f159.keep Kc169 nin0).keep Kc181 nin0)
        have f198 : Arv Z h181 vv_155 vk_155 .byte (1 : Int32) [(.int (nar .byte (((p2 &&& (255 : Int32)).toUInt32.toUInt16.toUInt32.toInt32).toInt8.toInt32)))] (.int (0 : Int32)) := ((f161.keep Kc169 nin0).keep Kc181 nin0)
        have f199 : Fld Z h181 vr_169 "java/lang/String" "value" "[B" (.ref vv_169) := (f174.keep Kc181 nin0)
        have f200 : Exa Z h181 vr_169 "java/lang/String" := (f172.keep Kc181)
        have f201 : Fld Z h181 vr_169 "java/lang/String" "coder" "B" (.int (0 : Int32)) := (f173.keep Kc181 nin0)
        have f202 : Arv Z h181 vv_169 vk_169 .byte (1 : Int32) [(.int (nar .byte (((p3 &&& (255 : Int32)).toUInt32.toUInt16.toUInt32.toInt32).toInt8.toInt32)))] (.int (0 : Int32)) := (f175.keep Kc181 nin0)
        have f203 : Old Z n0 h181 := (f179.keep Kc181 all0)
        have kp204 : Keep h0 h181 [] := (Keep.trans kp180 Kc181 all0)
        obtain ⟨t_, o_, st_, run_, end_, res_⟩ := tlE Z a0 hw (Nat.le_trans Z0 kp204.1) (X181.mono (by decide) (by decide)) hx hby hml hown hZ Bd.returns (BodyLoose.notSynchronized Bd) e181 N181 hS149 (Nat.le_trans (Nat.le_trans (Nat.le_trans hk149 Kc155.1) Kc169.1) Kc181.1) (hs0 ▸ CR188) f192 f193 f191 f194 f196 f197 f195 f198 f200 f201 f199 f202 f184 f185 f186 f187 f203 pr1 hcw (Or.inl rfl) (Or.inr rfl) (Or.inr rfl) (Or.inr rfl) (fun q => rfl) (fun q => absurd q (by decide)) rfl
        exact ⟨t_, o_, pre0 _ (K190 _ st_), run_, end_, res_⟩
      · skip
        have K205 : Gx p e below s₁ f0 T155 (mkF m 83 #[.val (.int p1), .val (.int p2), .val (.int p3), .val (.int p4), .val (.int p5), .val (.int (1 : Int32)), .val (.int (0 : Int32)), .val (.ref sa149), .val (.ref vr_155), .unset, .unset, .unset, .unset, .unset, .unset, .unset, .unset] []) := fun t kt => K164 t (by
          show Steps p.tables e below (T155.setTop (mkF m 80 #[.val (.int p1), .val (.int p2), .val (.int p3), .val (.int p4), .val (.int p5), .val (.int (1 : Int32)), .val (.int (0 : Int32)), .val (.ref sa149), .val (.ref vr_155), .unset, .unset, .unset, .unset, .unset, .unset, .unset, .unset] [(.int (p5 &&& (8 : Int32)))])) _
          refine XS.ifNo X155.here hx rfl (hb hby at_80) rfl ((if0 _ _).trans (feq hb165).1) ?_
          exact kt)
        obtain ⟨sa206, T206, h206, kk206, sb206, kc206, X206, e206, E206, hS206, hk206, hZ, hown, A206, Fc206, Fv206, V206, -, -, CRq206, -, Sf206, st206⟩ := ldcCH (s := s) (vm0 := T149.vm) X155 hx hZ hown (hw _ (List.mem_of_getElem? (i := 85) rfl)) (own_wS hw) e155 hS149 (Nat.le_trans hk149 Kc155.1) (own_EW hw) (List.mem_of_getElem? (i := 5) rfl) CR162.1 (vs := []) (z := (0 : Int32)) ⟨by decide +kernel, by rfl⟩ (by decide) rfl (g := (mkF m 83 #[.val (.int p1), .val (.int p2), .val (.int p3), .val (.int p4), .val (.int p5), .val (.int (1 : Int32)), .val (.int (0 : Int32)), .val (.ref sa149), .val (.ref vr_155), .unset, .unset, .unset, .unset, .unset, .unset, .unset, .unset] [])) rfl (hb hby at_83) (n := 0) (by decide +kernel) (by decide) (by decide) (by decide)
        have CR207 : CHr Z ELx s.vm h0 T206.vm h206 := CR162.trans CRq206
        have f208 : Exa Z h206 sa149 "java/lang/String" := ((A149.keep Kc155).ext E206)
        have f209 : Arv Z h206 sb149 kc149 .byte (0 : Int32) [] (.int (0 : Int32)) := ((V149.keep Kc155 nin0).ext E206)
        obtain ⟨clq210, Arq210, ckq210, cSq210, cNq210, cHq210, cGq210⟩ := id f209
        have f211 : Exa Z h206 vr_155 "java/lang/String" := (f158.ext E206)
        have f212 : Arv Z h206 vv_155 vk_155 .byte (1 : Int32) [(.int (nar .byte (((p2 &&& (255 : Int32)).toUInt32.toUInt16.toUInt32.toInt32).toInt8.toInt32)))] (.int (0 : Int32)) := (f161.ext E206)
        obtain ⟨clq213, Arq213, ckq213, cSq213, cNq213, cHq213, cGq213⟩ := id f212
        have K214 : Gx p e below s₁ f0 T206 (mkF m 85 #[.val (.int p1), .val (.int p2), .val (.int p3), .val (.int p4), .val (.int p5), .val (.int (1 : Int32)), .val (.int (0 : Int32)), .val (.ref sa149), .val (.ref vr_155), .unset, .unset, .unset, .unset, .unset, .unset, .unset, .unset] [(.ref sa206)]) := fun t kt => K205 t (st206 t kt)
        have K215 : Gx p e below s₁ f0 T206 (mkF m 123 #[.val (.int p1), .val (.int p2), .val (.int p3), .val (.int p4), .val (.int p5), .val (.int (1 : Int32)), .val (.int (0 : Int32)), .val (.ref sa149), .val (.ref vr_155), .val (.ref sa206), .unset, .unset, .unset, .unset, .unset, .unset, .unset] [(.int ((p4 &&& (255 : Int32)).toUInt32.toUInt16.toUInt32.toInt32))]) := fun t kt => K214 t (by
          show Steps p.tables e below (T206.setTop (mkF m 85 #[.val (.int p1), .val (.int p2), .val (.int p3), .val (.int p4), .val (.int p5), .val (.int (1 : Int32)), .val (.int (0 : Int32)), .val (.ref sa149), .val (.ref vr_155), .unset, .unset, .unset, .unset, .unset, .unset, .unset, .unset] [(.ref sa206)])) _
          refine XS.goto X206.here hx rfl (pc0 := 85) (pc' := 97) rfl (hb hby at_85) (by decide) (by decide) ?_
          show Steps p.tables e below (T206.setTop (mkF m 97 #[.val (.int p1), .val (.int p2), .val (.int p3), .val (.int p4), .val (.int p5), .val (.int (1 : Int32)), .val (.int (0 : Int32)), .val (.ref sa149), .val (.ref vr_155), .unset, .unset, .unset, .unset, .unset, .unset, .unset, .unset] [(.ref sa206)])) _
          refine XS.astore X206.here hx rfl (hb hby at_97) rfl rfl (l' := #[.val (.int p1), .val (.int p2), .val (.int p3), .val (.int p4), .val (.int p5), .val (.int (1 : Int32)), .val (.int (0 : Int32)), .val (.ref sa149), .val (.ref vr_155), .val (.ref sa206), .unset, .unset, .unset, .unset, .unset, .unset, .unset]) rfl ?_
          show Steps p.tables e below (T206.setTop (mkF m 99 #[.val (.int p1), .val (.int p2), .val (.int p3), .val (.int p4), .val (.int p5), .val (.int (1 : Int32)), .val (.int (0 : Int32)), .val (.ref sa149), .val (.ref vr_155), .val (.ref sa206), .unset, .unset, .unset, .unset, .unset, .unset, .unset] [])) _
          refine XS.iload X206.here hx rfl (hb hby at_99) rfl ?_
          show Steps p.tables e below (T206.setTop (mkF m 101 #[.val (.int p1), .val (.int p2), .val (.int p3), .val (.int p4), .val (.int p5), .val (.int (1 : Int32)), .val (.int (0 : Int32)), .val (.ref sa149), .val (.ref vr_155), .val (.ref sa206), .unset, .unset, .unset, .unset, .unset, .unset, .unset] [(.int (0 : Int32))])) _
          refine XS.ifYes X206.here hx rfl (pc0 := 101) (pc' := 117) rfl (hb hby at_101) rfl ((if0 _ _).trans (teq (by decide)).1) (by decide) (by decide) ?_
          show Steps p.tables e below (T206.setTop (mkF m 117 #[.val (.int p1), .val (.int p2), .val (.int p3), .val (.int p4), .val (.int p5), .val (.int (1 : Int32)), .val (.int (0 : Int32)), .val (.ref sa149), .val (.ref vr_155), .val (.ref sa206), .unset, .unset, .unset, .unset, .unset, .unset, .unset] [])) _
          refine XS.iloadN X206.here hx rfl (hb hby at_117) rfl ?_
          show Steps p.tables e below (T206.setTop (mkF m 118 #[.val (.int p1), .val (.int p2), .val (.int p3), .val (.int p4), .val (.int p5), .val (.int (1 : Int32)), .val (.int (0 : Int32)), .val (.ref sa149), .val (.ref vr_155), .val (.ref sa206), .unset, .unset, .unset, .unset, .unset, .unset, .unset] [(.int p4)])) _
          refine XS.sipush X206.here hx rfl (hb hby at_118) ?_
          show Steps p.tables e below (T206.setTop (mkF m 121 #[.val (.int p1), .val (.int p2), .val (.int p3), .val (.int p4), .val (.int p5), .val (.int (1 : Int32)), .val (.int (0 : Int32)), .val (.ref sa149), .val (.ref vr_155), .val (.ref sa206), .unset, .unset, .unset, .unset, .unset, .unset, .unset] [(.int (255 : Int32)), (.int p4)])) _
          refine XS.iand X206.here hx rfl (hb hby at_121) rfl ?_
          show Steps p.tables e below (T206.setTop (mkF m 122 #[.val (.int p1), .val (.int p2), .val (.int p3), .val (.int p4), .val (.int p5), .val (.int (1 : Int32)), .val (.int (0 : Int32)), .val (.ref sa149), .val (.ref vr_155), .val (.ref sa206), .unset, .unset, .unset, .unset, .unset, .unset, .unset] [(.int (p4 &&& (255 : Int32)))])) _
          refine XS.i2c X206.here hx rfl (hb hby at_122) rfl ?_
          exact kt)
        have f216 : Old Z n0 h206 := ((f153.keep Kc155 all0).ext E206)
        have kp217 : Keep h0 h206 [] := ((Keep.trans kp154 Kc155 all0).ext E206)
        obtain ⟨_, _, ⟨T218, L218, k218, n218⟩, -, X218', ⟨Lc218, hQ218, l218, y218, z218⟩, st218⟩ := Jvm.LawKit.callS X206 hx (y := (⟨"java/lang/String", "valueOf", "(C)Ljava/lang/String;"⟩ : MethodName)) hown (mvT hZ (hw _ (List.mem_of_getElem? (i := 0) rfl))) (mvT hZ (hw _ (List.mem_of_getElem? (i := 1) rfl))) (mvT hZ (hw _ (List.mem_of_getElem? (i := 2) rfl))) (mvT hZ (hw _ (List.mem_of_getElem? (i := 3) rfl))) (by decide) (backOf (W := 0) (rmVal l Z a0 hw [] ((p4 &&& (255 : Int32)).toUInt32.toUInt16.toUInt32.toInt32) cw h206 n0 (Nat.le_trans Z0 kp217.1) f216 pr1 hcw (own_c255 _)) hZ (hw _ (List.mem_of_getElem? (i := 3) rfl)) (hw _ (List.mem_of_getElem? (i := 2) rfl)) (by decide) (by decide)) (g := (mkF m 123 #[.val (.int p1), .val (.int p2), .val (.int p3), .val (.int p4), .val (.int p5), .val (.int (1 : Int32)), .val (.int (0 : Int32)), .val (.ref sa149), .val (.ref vr_155), .val (.ref sa206), .unset, .unset, .unset, .unset, .unset, .unset, .unset] [(.int ((p4 &&& (255 : Int32)).toUInt32.toUInt16.toUInt32.toInt32))])) rfl (by rw [hml]; rfl) (argsL := [(.int ((p4 &&& (255 : Int32)).toUInt32.toUInt16.toUInt32.toInt32))]) (rest := []) (lenOf pd__C_Ljava_lang_String_ rfl) rfl (by show 2 * 0 + _ ≤ _; exact Nat.le_of_eq rfl) (hb hby at_123) (fun _ _ => ⟨rfl, e206, (by decide : 6 + 2 ≤ _), (by decide : 13 + 5 ≤ _)⟩)
        dsimp only [Pt.U, Pt.locs, Pt.cells, Pt.slots] at X218' l218 y218 z218 st218 hQ218
        subst l218 y218 z218
        obtain ⟨h218, e218⟩ : ∃ z, T218.heap = z := ⟨_, rfl⟩
        rw [e218] at hQ218
        obtain ⟨vr_218, vv_218, vk_218, rfl, N218q, Kc218, f219, f220, f221, f222, f223, f224⟩ := hQ218
        obtain ⟨lc218, X218, N218⟩ : ∃ lc, Stand p l e room_1 (s.setVm T206.vm) m #[(.int p1), (.int p2), (.int p3), (.int p4), (.int p5)] below meth c T218 lc 8 18 ∧ Fr n0 lc := ⟨_, X218', Fr.app N155 N218q⟩
        have CR225 : CHr Z ELx s.vm h0 T206.vm h218 := CR207.trans (CHr.keep Kc218 all0 CR207.1)
        have K226 : Gx p e below s₁ f0 T218 (mkF m 126 #[.val (.int p1), .val (.int p2), .val (.int p3), .val (.int p4), .val (.int p5), .val (.int (1 : Int32)), .val (.int (0 : Int32)), .val (.ref sa149), .val (.ref vr_155), .val (.ref sa206), .unset, .unset, .unset, .unset, .unset, .unset, .unset] [(.ref vr_218)]) := fun t kt => K215 t (st218 t kt)
        have K227 : Gx p e below s₁ f0 T218 (mkF m 128 #[.val (.int p1), .val (.int p2), .val (.int p3), .val (.int p4), .val (.int p5), .val (.int (1 : Int32)), .val (.int (0 : Int32)), .val (.ref sa149), .val (.ref vr_155), .val (.ref sa206), .val (.ref vr_218), .unset, .unset, .unset, .unset, .unset, .unset] []) := fun t kt => K226 t (by
          show Steps p.tables e below (T218.setTop (mkF m 126 #[.val (.int p1), .val (.int p2), .val (.int p3), .val (.int p4), .val (.int p5), .val (.int (1 : Int32)), .val (.int (0 : Int32)), .val (.ref sa149), .val (.ref vr_155), .val (.ref sa206), .unset, .unset, .unset, .unset, .unset, .unset, .unset] [(.ref vr_218)])) _
          refine XS.astore X218.here hx rfl (hb hby at_126) rfl rfl (l' := #[.val (.int p1), .val (.int p2), .val (.int p3), .val (.int p4), .val (.int p5), .val (.int (1 : Int32)), .val (.int (0 : Int32)), .val (.ref sa149), .val (.ref vr_155), .val (.ref sa206), .val (.ref vr_218), .unset, .unset, .unset, .unset, .unset, .unset]) rfl ?_
          exact kt)
        have f228 : Fld Z h218 sa149 "java/lang/String" "value" "[B" (.ref sb149) := (((Fv149.keep Kc155 nin0).ext E206).keep Kc218 nin0)
        have f229 : Exa Z h218 sa149 "java/lang/String" := (f208.keep Kc218)
        have f230 : Fld Z h218 sa149 "java/lang/String" "coder" "B" (.int (0 : Int32)) := (((Fc149.keep Kc155 nin0).ext E206).keep Kc218 nin0)
        have f231 : Arv Z h218 sb149 kc149 .byte (0 : Int32) [] (.int (0 : Int32)) := (f209.keep Kc218 nin0)
        have f232 : Fld Z h218 vr_155 "java/lang/String" "value" "[B" (.ref vv_155) := ((f160.ext E206).keep Kc218 nin0)
        have f233 : Exa Z h218 vr_155 "java/lang/String" := (f211.keep Kc218)
        have f234 : Fld Z h218 vr_155 "java/lang/String" "coder" "B" (.int (0 : Int32)) := ((f159.ext E206).keep Kc218 nin0)
        have f235 : Arv Z h218 vv_155 vk_155 .byte (1 : Int32) [(.int (nar .byte (((p2 &&& (255 : Int32)).toUInt32.toUInt16.toUInt32.toInt32).toInt8.toInt32)))] (.int (0 : Int32)) := (f212.keep Kc218 nin0)
        have f236 : Fld Z h218 sa206 "java/lang/String" "value" "[B" (.ref sb206) := (Fv206.keep Kc218 nin0)
        have f237 : Exa Z h218 sa206 "java/lang/String" := (A206.keep Kc218)
        have f238 : Fld Z h218 sa206 "java/lang/String" "coder" "B" (.int (0 : Int32)) := (Fc206.keep Kc218 nin0)
        have f239 : Arv Z h218 sb206 kc206 .byte (0 : Int32) [] (.int (0 : Int32)) := (V206.keep Kc218 nin0)
        have f240 : Old Z n0 h218 := (f216.keep Kc218 all0)
        have kp241 : Keep h0 h218 [] := (Keep.trans kp217 Kc218 all0)
        obtain ⟨t_, o_, st_, run_, end_, res_⟩ := tlE Z a0 hw (Nat.le_trans Z0 kp241.1) (X218.mono (by decide) (by decide)) hx hby hml hown hZ Bd.returns (BodyLoose.notSynchronized Bd) e218 N218 hS206 (Nat.le_trans hk206 Kc218.1) (hs0 ▸ CR225) f229 f230 f228 f231 f233 f234 f232 f235 f237 f238 f236 f239 f221 f222 f223 f224 f240 pr1 hcw (Or.inl rfl) (Or.inr rfl) (Or.inl rfl) (Or.inr rfl) (fun q => rfl) (fun q => absurd q (by decide)) rfl
        exact ⟨t_, o_, pre0 _ (K227 _ st_), run_, end_, res_⟩
    · skip
      have K242 : Gx p e below s₁ f0 s₁ (mkF m 33 #[.val (.int p1), .val (.int p2), .val (.int p3), .val (.int p4), .val (.int p5), .val (.int (1 : Int32)), .val (.int (1 : Int32)), .unset, .unset, .unset, .unset, .unset, .unset, .unset, .unset, .unset, .unset] []) := fun t kt => K146 t (by
        show Steps p.tables e below (s₁.setTop (mkF m 18 #[.val (.int p1), .val (.int p2), .val (.int p3), .val (.int p4), .val (.int p5), .val (.int (1 : Int32)), .unset, .unset, .unset, .unset, .unset, .unset, .unset, .unset, .unset, .unset, .unset] [(.int (p5 &&& (2 : Int32)))])) _
        refine XS.ifNo X0.here hx rfl (hb hby at_18) rfl ((if0 _ _).trans (feq hb147).1) ?_
        show Steps p.tables e below (s₁.setTop (mkF m 21 #[.val (.int p1), .val (.int p2), .val (.int p3), .val (.int p4), .val (.int p5), .val (.int (1 : Int32)), .unset, .unset, .unset, .unset, .unset, .unset, .unset, .unset, .unset, .unset, .unset] [])) _
        refine XS.iconst X0.here hx rfl (hb hby at_21) ?_
        show Steps p.tables e below (s₁.setTop (mkF m 22 #[.val (.int p1), .val (.int p2), .val (.int p3), .val (.int p4), .val (.int p5), .val (.int (1 : Int32)), .unset, .unset, .unset, .unset, .unset, .unset, .unset, .unset, .unset, .unset, .unset] [(.int (1 : Int32))])) _
        refine XS.goto X0.here hx rfl (pc0 := 22) (pc' := 26) rfl (hb hby at_22) (by decide) (by decide) ?_
        show Steps p.tables e below (s₁.setTop (mkF m 26 #[.val (.int p1), .val (.int p2), .val (.int p3), .val (.int p4), .val (.int p5), .val (.int (1 : Int32)), .unset, .unset, .unset, .unset, .unset, .unset, .unset, .unset, .unset, .unset, .unset] [(.int (1 : Int32))])) _
        refine XS.istore X0.here hx rfl (hb hby at_26) rfl (l' := #[.val (.int p1), .val (.int p2), .val (.int p3), .val (.int p4), .val (.int p5), .val (.int (1 : Int32)), .val (.int (1 : Int32)), .unset, .unset, .unset, .unset, .unset, .unset, .unset, .unset, .unset, .unset]) rfl ?_
        show Steps p.tables e below (s₁.setTop (mkF m 28 #[.val (.int p1), .val (.int p2), .val (.int p3), .val (.int p4), .val (.int p5), .val (.int (1 : Int32)), .val (.int (1 : Int32)), .unset, .unset, .unset, .unset, .unset, .unset, .unset, .unset, .unset, .unset] [])) _
        refine XS.iload X0.here hx rfl (hb hby at_28) rfl ?_
        show Steps p.tables e below (s₁.setTop (mkF m 30 #[.val (.int p1), .val (.int p2), .val (.int p3), .val (.int p4), .val (.int p5), .val (.int (1 : Int32)), .val (.int (1 : Int32)), .unset, .unset, .unset, .unset, .unset, .unset, .unset, .unset, .unset, .unset] [(.int (1 : Int32))])) _
        refine XS.ifNo X0.here hx rfl (hb hby at_30) rfl ((if0 _ _).trans (feq (by decide)).1) ?_
        exact kt)
      obtain ⟨sa243, T243, h243, kk243, sb243, kc243, X243, e243, E243, hS243, hk243, hZ, hown, A243, Fc243, Fv243, V243, -, -, CRq243, -, Sf243, st243⟩ := ldcCH (s := s) (vm0 := s.vm) X0 hx hZ hown (hw _ (List.mem_of_getElem? (i := 85) rfl)) (own_wS hw) e0 hS0 hk0 (own_EW hw) (List.mem_of_getElem? (i := 5) rfl) CR0.1 (vs := []) (z := (0 : Int32)) ⟨by decide +kernel, by rfl⟩ (by decide) rfl (g := (mkF m 33 #[.val (.int p1), .val (.int p2), .val (.int p3), .val (.int p4), .val (.int p5), .val (.int (1 : Int32)), .val (.int (1 : Int32)), .unset, .unset, .unset, .unset, .unset, .unset, .unset, .unset, .unset, .unset] [])) rfl (hb hby at_33) (n := 0) (by decide +kernel) (by decide) (by decide) (by decide)
      have CR244 : CHr Z ELx s.vm h0 T243.vm h243 := CR0.trans CRq243
      have K245 : Gx p e below s₁ f0 T243 (mkF m 35 #[.val (.int p1), .val (.int p2), .val (.int p3), .val (.int p4), .val (.int p5), .val (.int (1 : Int32)), .val (.int (1 : Int32)), .unset, .unset, .unset, .unset, .unset, .unset, .unset, .unset, .unset, .unset] [(.ref sa243)]) := fun t kt => K242 t (st243 t kt)
      have K246 : Gx p e below s₁ f0 T243 (mkF m 54 #[.val (.int p1), .val (.int p2), .val (.int p3), .val (.int p4), .val (.int p5), .val (.int (1 : Int32)), .val (.int (1 : Int32)), .val (.ref sa243), .unset, .unset, .unset, .unset, .unset, .unset, .unset, .unset, .unset] []) := fun t kt => K245 t (by
        show Steps p.tables e below (T243.setTop (mkF m 35 #[.val (.int p1), .val (.int p2), .val (.int p3), .val (.int p4), .val (.int p5), .val (.int (1 : Int32)), .val (.int (1 : Int32)), .unset, .unset, .unset, .unset, .unset, .unset, .unset, .unset, .unset, .unset] [(.ref sa243)])) _
        refine XS.goto X243.here hx rfl (pc0 := 35) (pc' := 47) rfl (hb hby at_35) (by decide) (by decide) ?_
        show Steps p.tables e below (T243.setTop (mkF m 47 #[.val (.int p1), .val (.int p2), .val (.int p3), .val (.int p4), .val (.int p5), .val (.int (1 : Int32)), .val (.int (1 : Int32)), .unset, .unset, .unset, .unset, .unset, .unset, .unset, .unset, .unset, .unset] [(.ref sa243)])) _
        refine XS.astore X243.here hx rfl (hb hby at_47) rfl rfl (l' := #[.val (.int p1), .val (.int p2), .val (.int p3), .val (.int p4), .val (.int p5), .val (.int (1 : Int32)), .val (.int (1 : Int32)), .val (.ref sa243), .unset, .unset, .unset, .unset, .unset, .unset, .unset, .unset, .unset]) rfl ?_
        show Steps p.tables e below (T243.setTop (mkF m 49 #[.val (.int p1), .val (.int p2), .val (.int p3), .val (.int p4), .val (.int p5), .val (.int (1 : Int32)), .val (.int (1 : Int32)), .val (.ref sa243), .unset, .unset, .unset, .unset, .unset, .unset, .unset, .unset, .unset] [])) _
        refine XS.iload X243.here hx rfl (hb hby at_49) rfl ?_
        show Steps p.tables e below (T243.setTop (mkF m 51 #[.val (.int p1), .val (.int p2), .val (.int p3), .val (.int p4), .val (.int p5), .val (.int (1 : Int32)), .val (.int (1 : Int32)), .val (.ref sa243), .unset, .unset, .unset, .unset, .unset, .unset, .unset, .unset, .unset] [(.int (1 : Int32))])) _
        refine XS.ifNo X243.here hx rfl (hb hby at_51) rfl ((if0 _ _).trans (feq (by decide)).1) ?_
        exact kt)
      obtain ⟨sa247, T247, h247, kk247, sb247, kc247, X247, e247, E247, hS247, hk247, hZ, hown, A247, Fc247, Fv247, V247, -, -, CRq247, -, Sf247, st247⟩ := ldcCH (s := s) (vm0 := T243.vm) X243 hx hZ hown (hw _ (List.mem_of_getElem? (i := 85) rfl)) (own_wS hw) e243 hS243 hk243 (own_EW hw) (List.mem_of_getElem? (i := 5) rfl) CR244.1 (vs := []) (z := (0 : Int32)) ⟨by decide +kernel, by rfl⟩ (by decide) rfl (g := (mkF m 54 #[.val (.int p1), .val (.int p2), .val (.int p3), .val (.int p4), .val (.int p5), .val (.int (1 : Int32)), .val (.int (1 : Int32)), .val (.ref sa243), .unset, .unset, .unset, .unset, .unset, .unset, .unset, .unset, .unset] [])) rfl (hb hby at_54) (n := 0) (by decide +kernel) (by decide) (by decide) (by decide)
      have CR248 : CHr Z ELx s.vm h0 T247.vm h247 := CR244.trans CRq247
      have f249 : Exa Z h247 sa243 "java/lang/String" := (A243.ext E247)
      have f250 : Arv Z h247 sb243 kc243 .byte (0 : Int32) [] (.int (0 : Int32)) := (V243.ext E247)
      obtain ⟨clq251, Arq251, ckq251, cSq251, cNq251, cHq251, cGq251⟩ := id f250
      have K252 : Gx p e below s₁ f0 T247 (mkF m 56 #[.val (.int p1), .val (.int p2), .val (.int p3), .val (.int p4), .val (.int p5), .val (.int (1 : Int32)), .val (.int (1 : Int32)), .val (.ref sa243), .unset, .unset, .unset, .unset, .unset, .unset, .unset, .unset, .unset] [(.ref sa247)]) := fun t kt => K246 t (st247 t kt)
      have K253 : Gx p e below s₁ f0 T247 (mkF m 80 #[.val (.int p1), .val (.int p2), .val (.int p3), .val (.int p4), .val (.int p5), .val (.int (1 : Int32)), .val (.int (1 : Int32)), .val (.ref sa243), .val (.ref sa247), .unset, .unset, .unset, .unset, .unset, .unset, .unset, .unset] [(.int (p5 &&& (8 : Int32)))]) := fun t kt => K252 t (by
        show Steps p.tables e below (T247.setTop (mkF m 56 #[.val (.int p1), .val (.int p2), .val (.int p3), .val (.int p4), .val (.int p5), .val (.int (1 : Int32)), .val (.int (1 : Int32)), .val (.ref sa243), .unset, .unset, .unset, .unset, .unset, .unset, .unset, .unset, .unset] [(.ref sa247)])) _
        refine XS.goto X247.here hx rfl (pc0 := 56) (pc' := 68) rfl (hb hby at_56) (by decide) (by decide) ?_
        show Steps p.tables e below (T247.setTop (mkF m 68 #[.val (.int p1), .val (.int p2), .val (.int p3), .val (.int p4), .val (.int p5), .val (.int (1 : Int32)), .val (.int (1 : Int32)), .val (.ref sa243), .unset, .unset, .unset, .unset, .unset, .unset, .unset, .unset, .unset] [(.ref sa247)])) _
        refine XS.astore X247.here hx rfl (hb hby at_68) rfl rfl (l' := #[.val (.int p1), .val (.int p2), .val (.int p3), .val (.int p4), .val (.int p5), .val (.int (1 : Int32)), .val (.int (1 : Int32)), .val (.ref sa243), .val (.ref sa247), .unset, .unset, .unset, .unset, .unset, .unset, .unset, .unset]) rfl ?_
        show Steps p.tables e below (T247.setTop (mkF m 70 #[.val (.int p1), .val (.int p2), .val (.int p3), .val (.int p4), .val (.int p5), .val (.int (1 : Int32)), .val (.int (1 : Int32)), .val (.ref sa243), .val (.ref sa247), .unset, .unset, .unset, .unset, .unset, .unset, .unset, .unset] [])) _
        refine XS.iload X247.here hx rfl (hb hby at_70) rfl ?_
        show Steps p.tables e below (T247.setTop (mkF m 72 #[.val (.int p1), .val (.int p2), .val (.int p3), .val (.int p4), .val (.int p5), .val (.int (1 : Int32)), .val (.int (1 : Int32)), .val (.ref sa243), .val (.ref sa247), .unset, .unset, .unset, .unset, .unset, .unset, .unset, .unset] [(.int (1 : Int32))])) _
        refine XS.ifNo X247.here hx rfl (hb hby at_72) rfl ((if0 _ _).trans (feq (by decide)).1) ?_
        show Steps p.tables e below (T247.setTop (mkF m 75 #[.val (.int p1), .val (.int p2), .val (.int p3), .val (.int p4), .val (.int p5), .val (.int (1 : Int32)), .val (.int (1 : Int32)), .val (.ref sa243), .val (.ref sa247), .unset, .unset, .unset, .unset, .unset, .unset, .unset, .unset] [])) _
        refine XS.iload X247.here hx rfl (hb hby at_75) rfl ?_
        show Steps p.tables e below (T247.setTop (mkF m 77 #[.val (.int p1), .val (.int p2), .val (.int p3), .val (.int p4), .val (.int p5), .val (.int (1 : Int32)), .val (.int (1 : Int32)), .val (.ref sa243), .val (.ref sa247), .unset, .unset, .unset, .unset, .unset, .unset, .unset, .unset] [(.int p5)])) _
        refine XS.bipush X247.here hx rfl (hb hby at_77) ?_
        show Steps p.tables e below (T247.setTop (mkF m 79 #[.val (.int p1), .val (.int p2), .val (.int p3), .val (.int p4), .val (.int p5), .val (.int (1 : Int32)), .val (.int (1 : Int32)), .val (.ref sa243), .val (.ref sa247), .unset, .unset, .unset, .unset, .unset, .unset, .unset, .unset] [(.int (8 : Int32)), (.int p5)])) _
        refine XS.iand X247.here hx rfl (hb hby at_79) rfl ?_
        exact kt)
      by_cases hb254 : (p5 &&& (8 : Int32)) = (0 : Int32)
      · skip
        have K255 : Gx p e below s₁ f0 T247 (mkF m 94 #[.val (.int p1), .val (.int p2), .val (.int p3), .val (.int p4), .val (.int p5), .val (.int (1 : Int32)), .val (.int (1 : Int32)), .val (.ref sa243), .val (.ref sa247), .unset, .unset, .unset, .unset, .unset, .unset, .unset, .unset] [(.int ((p3 &&& (255 : Int32)).toUInt32.toUInt16.toUInt32.toInt32))]) := fun t kt => K253 t (by
          show Steps p.tables e below (T247.setTop (mkF m 80 #[.val (.int p1), .val (.int p2), .val (.int p3), .val (.int p4), .val (.int p5), .val (.int (1 : Int32)), .val (.int (1 : Int32)), .val (.ref sa243), .val (.ref sa247), .unset, .unset, .unset, .unset, .unset, .unset, .unset, .unset] [(.int (p5 &&& (8 : Int32)))])) _
          refine XS.ifYes X247.here hx rfl (pc0 := 80) (pc' := 88) rfl (hb hby at_80) rfl ((if0 _ _).trans (teq hb254).1) (by decide) (by decide) ?_
          show Steps p.tables e below (T247.setTop (mkF m 88 #[.val (.int p1), .val (.int p2), .val (.int p3), .val (.int p4), .val (.int p5), .val (.int (1 : Int32)), .val (.int (1 : Int32)), .val (.ref sa243), .val (.ref sa247), .unset, .unset, .unset, .unset, .unset, .unset, .unset, .unset] [])) _
          refine XS.iloadN X247.here hx rfl (hb hby at_88) rfl ?_
          show Steps p.tables e below (T247.setTop (mkF m 89 #[.val (.int p1), .val (.int p2), .val (.int p3), .val (.int p4), .val (.int p5), .val (.int (1 : Int32)), .val (.int (1 : Int32)), .val (.ref sa243), .val (.ref sa247), .unset, .unset, .unset, .unset, .unset, .unset, .unset, .unset] [(.int p3)])) _
          refine XS.sipush X247.here hx rfl (hb hby at_89) ?_
          show Steps p.tables e below (T247.setTop (mkF m 92 #[.val (.int p1), .val (.int p2), .val (.int p3), .val (.int p4), .val (.int p5), .val (.int (1 : Int32)), .val (.int (1 : Int32)), .val (.ref sa243), .val (.ref sa247), .unset, .unset, .unset, .unset, .unset, .unset, .unset, .unset] [(.int (255 : Int32)), (.int p3)])) _
          refine XS.iand X247.here hx rfl (hb hby at_92) rfl ?_
          show Steps p.tables e below (T247.setTop (mkF m 93 #[.val (.int p1), .val (.int p2), .val (.int p3), .val (.int p4), .val (.int p5), .val (.int (1 : Int32)), .val (.int (1 : Int32)), .val (.ref sa243), .val (.ref sa247), .unset, .unset, .unset, .unset, .unset, .unset, .unset, .unset] [(.int (p3 &&& (255 : Int32)))])) _
          refine XS.i2c X247.here hx rfl (hb hby at_93) rfl ?_
          exact kt)
        have f256 : Old Z n0 h247 := ((pr0.ext E243).ext E247)
        have kp257 : Keep h0 h247 [] := (((Keep.refl h0 []).ext E243).ext E247)
        obtain ⟨_, _, ⟨T258, L258, k258, n258⟩, -, X258', ⟨Lc258, hQ258, l258, y258, z258⟩, st258⟩ := Jvm.LawKit.callS X247 hx (y := (⟨"java/lang/String", "valueOf", "(C)Ljava/lang/String;"⟩ : MethodName)) hown (mvT hZ (hw _ (List.mem_of_getElem? (i := 0) rfl))) (mvT hZ (hw _ (List.mem_of_getElem? (i := 1) rfl))) (mvT hZ (hw _ (List.mem_of_getElem? (i := 2) rfl))) (mvT hZ (hw _ (List.mem_of_getElem? (i := 3) rfl))) (by decide) (backOf (W := 0) (rmVal l Z a0 hw [] ((p3 &&& (255 : Int32)).toUInt32.toUInt16.toUInt32.toInt32) cw h247 n0 (Nat.le_trans Z0 kp257.1) f256 pr1 hcw (own_c255 _)) hZ (hw _ (List.mem_of_getElem? (i := 3) rfl)) (hw _ (List.mem_of_getElem? (i := 2) rfl)) (by decide) (by decide)) (g := (mkF m 94 #[.val (.int p1), .val (.int p2), .val (.int p3), .val (.int p4), .val (.int p5), .val (.int (1 : Int32)), .val (.int (1 : Int32)), .val (.ref sa243), .val (.ref sa247), .unset, .unset, .unset, .unset, .unset, .unset, .unset, .unset] [(.int ((p3 &&& (255 : Int32)).toUInt32.toUInt16.toUInt32.toInt32))])) rfl (by rw [hml]; rfl) (argsL := [(.int ((p3 &&& (255 : Int32)).toUInt32.toUInt16.toUInt32.toInt32))]) (rest := []) (lenOf pd__C_Ljava_lang_String_ rfl) rfl (by show 2 * 0 + _ ≤ _; exact Nat.le_of_eq rfl) (hb hby at_94) (fun _ _ => ⟨rfl, e247, (by decide : 4 + 2 ≤ _), (by decide : 8 + 5 ≤ _)⟩)
        dsimp only [Pt.U, Pt.locs, Pt.cells, Pt.slots] at X258' l258 y258 z258 st258 hQ258
        subst l258 y258 z258
        obtain ⟨h258, e258⟩ : ∃ z, T258.heap = z := ⟨_, rfl⟩
        rw [e258] at hQ258
        obtain ⟨vr_258, vv_258, vk_258, rfl, N258q, Kc258, f259, f260, f261, f262, f263, f264⟩ := hQ258
        obtain ⟨lc258, X258, N258⟩ : ∃ lc, Stand p l e room_1 (s.setVm T247.vm) m #[(.int p1), (.int p2), (.int p3), (.int p4), (.int p5)] below meth c T258 lc 6 13 ∧ Fr n0 lc := ⟨_, X258', Fr.app N0 N258q⟩
        have CR265 : CHr Z ELx s.vm h0 T247.vm h258 := CR248.trans (CHr.keep Kc258 all0 CR248.1)
        have K266 : Gx p e below s₁ f0 T258 (mkF m 97 #[.val (.int p1), .val (.int p2), .val (.int p3), .val (.int p4), .val (.int p5), .val (.int (1 : Int32)), .val (.int (1 : Int32)), .val (.ref sa243), .val (.ref sa247), .unset, .unset, .unset, .unset, .unset, .unset, .unset, .unset] [(.ref vr_258)]) := fun t kt => K255 t (st258 t kt)
        have K267 : Gx p e below s₁ f0 T258 (mkF m 109 #[.val (.int p1), .val (.int p2), .val (.int p3), .val (.int p4), .val (.int p5), .val (.int (1 : Int32)), .val (.int (1 : Int32)), .val (.ref sa243), .val (.ref sa247), .val (.ref vr_258), .unset, .unset, .unset, .unset, .unset, .unset, .unset] [(.int (p5 &&& (16 : Int32)))]) := fun t kt => K266 t (by
          show Steps p.tables e below (T258.setTop (mkF m 97 #[.val (.int p1), .val (.int p2), .val (.int p3), .val (.int p4), .val (.int p5), .val (.int (1 : Int32)), .val (.int (1 : Int32)), .val (.ref sa243), .val (.ref sa247), .unset, .unset, .unset, .unset, .unset, .unset, .unset, .unset] [(.ref vr_258)])) _
          refine XS.astore X258.here hx rfl (hb hby at_97) rfl rfl (l' := #[.val (.int p1), .val (.int p2), .val (.int p3), .val (.int p4), .val (.int p5), .val (.int (1 : Int32)), .val (.int (1 : Int32)), .val (.ref sa243), .val (.ref sa247), .val (.ref vr_258), .unset, .unset, .unset, .unset, .unset, .unset, .unset]) rfl ?_
          show Steps p.tables e below (T258.setTop (mkF m 99 #[.val (.int p1), .val (.int p2), .val (.int p3), .val (.int p4), .val (.int p5), .val (.int (1 : Int32)), .val (.int (1 : Int32)), .val (.ref sa243), .val (.ref sa247), .val (.ref vr_258), .unset, .unset, .unset, .unset, .unset, .unset, .unset] [])) _
          refine XS.iload X258.here hx rfl (hb hby at_99) rfl ?_
          show Steps p.tables e below (T258.setTop (mkF m 101 #[.val (.int p1), .val (.int p2), .val (.int p3), .val (.int p4), .val (.int p5), .val (.int (1 : Int32)), .val (.int (1 : Int32)), .val (.ref sa243), .val (.ref sa247), .val (.ref vr_258), .unset, .unset, .unset, .unset, .unset, .unset, .unset] [(.int (1 : Int32))])) _
          refine XS.ifNo X258.here hx rfl (hb hby at_101) rfl ((if0 _ _).trans (feq (by decide)).1) ?_
          show Steps p.tables e below (T258.setTop (mkF m 104 #[.val (.int p1), .val (.int p2), .val (.int p3), .val (.int p4), .val (.int p5), .val (.int (1 : Int32)), .val (.int (1 : Int32)), .val (.ref sa243), .val (.ref sa247), .val (.ref vr_258), .unset, .unset, .unset, .unset, .unset, .unset, .unset] [])) _
          refine XS.iload X258.here hx rfl (hb hby at_104) rfl ?_
          show Steps p.tables e below (T258.setTop (mkF m 106 #[.val (.int p1), .val (.int p2), .val (.int p3), .val (.int p4), .val (.int p5), .val (.int (1 : Int32)), .val (.int (1 : Int32)), .val (.ref sa243), .val (.ref sa247), .val (.ref vr_258), .unset, .unset, .unset, .unset, .unset, .unset, .unset] [(.int p5)])) _
          refine XS.bipush X258.here hx rfl (hb hby at_106) ?_
          show Steps p.tables e below (T258.setTop (mkF m 108 #[.val (.int p1), .val (.int p2), .val (.int p3), .val (.int p4), .val (.int p5), .val (.int (1 : Int32)), .val (.int (1 : Int32)), .val (.ref sa243), .val (.ref sa247), .val (.ref vr_258), .unset, .unset, .unset, .unset, .unset, .unset, .unset] [(.int (16 : Int32)), (.int p5)])) _
          refine XS.iand X258.here hx rfl (hb hby at_108) rfl ?_
          exact kt)
        by_cases hb268 : (p5 &&& (16 : Int32)) = (0 : Int32)
        · skip
          have K269 : Gx p e below s₁ f0 T258 (mkF m 123 #[.val (.int p1), .val (.int p2), .val (.int p3), .val (.int p4), .val (.int p5), .val (.int (1 : Int32)), .val (.int (1 : Int32)), .val (.ref sa243), .val (.ref sa247), .val (.ref vr_258), .unset, .unset, .unset, .unset, .unset, .unset, .unset] [(.int ((p4 &&& (255 : Int32)).toUInt32.toUInt16.toUInt32.toInt32))]) := fun t kt => K267 t (by
            show Steps p.tables e below (T258.setTop (mkF m 109 #[.val (.int p1), .val (.int p2), .val (.int p3), .val (.int p4), .val (.int p5), .val (.int (1 : Int32)), .val (.int (1 : Int32)), .val (.ref sa243), .val (.ref sa247), .val (.ref vr_258), .unset, .unset, .unset, .unset, .unset, .unset, .unset] [(.int (p5 &&& (16 : Int32)))])) _
            refine XS.ifYes X258.here hx rfl (pc0 := 109) (pc' := 117) rfl (hb hby at_109) rfl ((if0 _ _).trans (teq hb268).1) (by decide) (by decide) ?_
            show Steps p.tables e below (T258.setTop (mkF m 117 #[.val (.int p1), .val (.int p2), .val (.int p3), .val (.int p4), .val (.int p5), .val (.int (1 : Int32)), .val (.int (1 : Int32)), .val (.ref sa243), .val (.ref sa247), .val (.ref vr_258), .unset, .unset, .unset, .unset, .unset, .unset, .unset] [])) _
            refine XS.iloadN X258.here hx rfl (hb hby at_117) rfl ?_
            show Steps p.tables e below (T258.setTop (mkF m 118 #[.val (.int p1), .val (.int p2), .val (.int p3), .val (.int p4), .val (.int p5), .val (.int (1 : Int32)), .val (.int (1 : Int32)), .val (.ref sa243), .val (.ref sa247), .val (.ref vr_258), .unset, .unset, .unset, .unset, .unset, .unset, .unset] [(.int p4)])) _
            refine XS.sipush X258.here hx rfl (hb hby at_118) ?_
            show Steps p.tables e below (T258.setTop (mkF m 121 #[.val (.int p1), .val (.int p2), .val (.int p3), .val (.int p4), .val (.int p5), .val (.int (1 : Int32)), .val (.int (1 : Int32)), .val (.ref sa243), .val (.ref sa247), .val (.ref vr_258), .unset, .unset, .unset, .unset, .unset, .unset, .unset] [(.int (255 : Int32)), (.int p4)])) _
            refine XS.iand X258.here hx rfl (hb hby at_121) rfl ?_
            show Steps p.tables e below (T258.setTop (mkF m 122 #[.val (.int p1), .val (.int p2), .val (.int p3), .val (.int p4), .val (.int p5), .val (.int (1 : Int32)), .val (.int (1 : Int32)), .val (.ref sa243), .val (.ref sa247), .val (.ref vr_258), .unset, .unset, .unset, .unset, .unset, .unset, .unset] [(.int (p4 &&& (255 : Int32)))])) _
            refine XS.i2c X258.here hx rfl (hb hby at_122) rfl ?_
            exact kt)
          have f270 : Old Z n0 h258 := (f256.keep Kc258 all0)
          have kp271 : Keep h0 h258 [] := (Keep.trans kp257 Kc258 all0)
          obtain ⟨_, _, ⟨T272, L272, k272, n272⟩, -, X272', ⟨Lc272, hQ272, l272, y272, z272⟩, st272⟩ := Jvm.LawKit.callS X258 hx (y := (⟨"java/lang/String", "valueOf", "(C)Ljava/lang/String;"⟩ : MethodName)) hown (mvT hZ (hw _ (List.mem_of_getElem? (i := 0) rfl))) (mvT hZ (hw _ (List.mem_of_getElem? (i := 1) rfl))) (mvT hZ (hw _ (List.mem_of_getElem? (i := 2) rfl))) (mvT hZ (hw _ (List.mem_of_getElem? (i := 3) rfl))) (by decide) (backOf (W := 0) (rmVal l Z a0 hw [] ((p4 &&& (255 : Int32)).toUInt32.toUInt16.toUInt32.toInt32) cw h258 n0 (Nat.le_trans Z0 kp271.1) f270 pr1 hcw (own_c255 _)) hZ (hw _ (List.mem_of_getElem? (i := 3) rfl)) (hw _ (List.mem_of_getElem? (i := 2) rfl)) (by decide) (by decide)) (g := (mkF m 123 #[.val (.int p1), .val (.int p2), .val (.int p3), .val (.int p4), .val (.int p5), .val (.int (1 : Int32)), .val (.int (1 : Int32)), .val (.ref sa243), .val (.ref sa247), .val (.ref vr_258), .unset, .unset, .unset, .unset, .unset, .unset, .unset] [(.int ((p4 &&& (255 : Int32)).toUInt32.toUInt16.toUInt32.toInt32))])) rfl (by rw [hml]; rfl) (argsL := [(.int ((p4 &&& (255 : Int32)).toUInt32.toUInt16.toUInt32.toInt32))]) (rest := []) (lenOf pd__C_Ljava_lang_String_ rfl) rfl (by show 2 * 0 + _ ≤ _; exact Nat.le_of_eq rfl) (hb hby at_123) (fun _ _ => ⟨rfl, e258, (by decide : 6 + 2 ≤ _), (by decide : 13 + 5 ≤ _)⟩)
          dsimp only [Pt.U, Pt.locs, Pt.cells, Pt.slots] at X272' l272 y272 z272 st272 hQ272
          subst l272 y272 z272
          obtain ⟨h272, e272⟩ : ∃ z, T272.heap = z := ⟨_, rfl⟩
          rw [e272] at hQ272
          obtain ⟨vr_272, vv_272, vk_272, rfl, N272q, Kc272, f273, f274, f275, f276, f277, f278⟩ := hQ272
          obtain ⟨lc272, X272, N272⟩ : ∃ lc, Stand p l e room_1 (s.setVm T247.vm) m #[(.int p1), (.int p2), (.int p3), (.int p4), (.int p5)] below meth c T272 lc 8 18 ∧ Fr n0 lc := ⟨_, X272', Fr.app N258 N272q⟩
          have CR279 : CHr Z ELx s.vm h0 T247.vm h272 := CR265.trans (CHr.keep Kc272 all0 CR265.1)
          have K280 : Gx p e below s₁ f0 T272 (mkF m 126 #[.val (.int p1), .val (.int p2), .val (.int p3), .val (.int p4), .val (.int p5), .val (.int (1 : Int32)), .val (.int (1 : Int32)), .val (.ref sa243), .val (.ref sa247), .val (.ref vr_258), .unset, .unset, .unset, .unset, .unset, .unset, .unset] [(.ref vr_272)]) := fun t kt => K269 t (st272 t kt)
          have K281 : Gx p e below s₁ f0 T272 (mkF m 128 #[.val (.int p1), .val (.int p2), .val (.int p3), .val (.int p4), .val (.int p5), .val (.int (1 : Int32)), .val (.int (1 : Int32)), .val (.ref sa243), .val (.ref sa247), .val (.ref vr_258), .val (.ref vr_272), .unset, .unset, .unset, .unset, .unset, .unset] []) := fun t kt => K280 t (by
            show Steps p.tables e below (T272.setTop (mkF m 126 #[.val (.int p1), .val (.int p2), .val (.int p3), .val (.int p4), .val (.int p5), .val (.int (1 : Int32)), .val (.int (1 : Int32)), .val (.ref sa243), .val (.ref sa247), .val (.ref vr_258), .unset, .unset, .unset, .unset, .unset, .unset, .unset] [(.ref vr_272)])) _
            refine XS.astore X272.here hx rfl (hb hby at_126) rfl rfl (l' := #[.val (.int p1), .val (.int p2), .val (.int p3), .val (.int p4), .val (.int p5), .val (.int (1 : Int32)), .val (.int (1 : Int32)), .val (.ref sa243), .val (.ref sa247), .val (.ref vr_258), .val (.ref vr_272), .unset, .unset, .unset, .unset, .unset, .unset]) rfl ?_
            exact kt)
          have f282 : Fld Z h272 sa243 "java/lang/String" "value" "[B" (.ref sb243) := (((Fv243.ext E247).keep Kc258 nin0).keep Kc272 nin0)
          have f283 : Exa Z h272 sa243 "java/lang/String" := ((f249.keep Kc258).keep Kc272)
          have f284 : Fld Z h272 sa243 "java/lang/String" "coder" "B" (.int (0 : Int32)) := (((Fc243.ext E247).keep Kc258 nin0).keep Kc272 nin0)
          have f285 : Arv Z h272 sb243 kc243 .byte (0 : Int32) [] (.int (0 : Int32)) := ((f250.keep Kc258 nin0).keep Kc272 nin0)
          have f286 : Fld Z h272 sa247 "java/lang/String" "value" "[B" (.ref sb247) := ((Fv247.keep Kc258 nin0).keep Kc272 nin0)
          have f287 : Exa Z h272 sa247 "java/lang/String" := ((A247.keep Kc258).keep Kc272)
          have f288 : Fld Z h272 sa247 "java/lang/String" "coder" "B" (.int (0 : Int32)) := ((Fc247.keep Kc258 nin0).keep Kc272 nin0)
          have f289 : Arv Z h272 sb247 kc247 .byte (0 : Int32) [] (.int (0 : Int32)) := ((V247.keep Kc258 nin0).keep Kc272 nin0)
          have f290 : Fld Z h272 vr_258 "java/lang/String" "value" "[B" (.ref vv_258) := (f263.keep Kc272 nin0)
          have f291 : Exa Z h272 vr_258 "java/lang/String" := (f261.keep Kc272)
          have f292 : Fld Z h272 vr_258 "java/lang/String" "coder" "B" (.int (0 : Int32)) := (f262.keep Kc272 nin0)
          have f293 : Arv Z h272 vv_258 vk_258 .byte (1 : Int32) [(.int (nar .byte (((p3 &&& (255 : Int32)).toUInt32.toUInt16.toUInt32.toInt32).toInt8.toInt32)))] (.int (0 : Int32)) := (f264.keep Kc272 nin0)
          have f294 : Old Z n0 h272 := (f270.keep Kc272 all0)
          have kp295 : Keep h0 h272 [] := (Keep.trans kp271 Kc272 all0)
          obtain ⟨t_, o_, st_, run_, end_, res_⟩ := tlE Z a0 hw (Nat.le_trans Z0 kp295.1) (X272.mono (by decide) (by decide)) hx hby hml hown hZ Bd.returns (BodyLoose.notSynchronized Bd) e272 N272 hS247 (Nat.le_trans (Nat.le_trans hk247 Kc258.1) Kc272.1) (hs0 ▸ CR279) f283 f284 f282 f285 f287 f288 f286 f289 f291 f292 f290 f293 f275 f276 f277 f278 f294 pr1 hcw (Or.inl rfl) (Or.inl rfl) (Or.inr rfl) (Or.inr rfl) (fun q => rfl) (fun q => rfl) rfl
          exact ⟨t_, o_, pre0 _ (K281 _ st_), run_, end_, res_⟩
        · skip
          have K296 : Gx p e below s₁ f0 T258 (mkF m 112 #[.val (.int p1), .val (.int p2), .val (.int p3), .val (.int p4), .val (.int p5), .val (.int (1 : Int32)), .val (.int (1 : Int32)), .val (.ref sa243), .val (.ref sa247), .val (.ref vr_258), .unset, .unset, .unset, .unset, .unset, .unset, .unset] []) := fun t kt => K267 t (by
            show Steps p.tables e below (T258.setTop (mkF m 109 #[.val (.int p1), .val (.int p2), .val (.int p3), .val (.int p4), .val (.int p5), .val (.int (1 : Int32)), .val (.int (1 : Int32)), .val (.ref sa243), .val (.ref sa247), .val (.ref vr_258), .unset, .unset, .unset, .unset, .unset, .unset, .unset] [(.int (p5 &&& (16 : Int32)))])) _
            refine XS.ifNo X258.here hx rfl (hb hby at_109) rfl ((if0 _ _).trans (feq hb268).1) ?_
            exact kt)
          obtain ⟨sa297, T297, h297, kk297, sb297, kc297, X297, e297, E297, hS297, hk297, hZ, hown, A297, Fc297, Fv297, V297, -, -, CRq297, -, Sf297, st297⟩ := ldcCH (s := s) (vm0 := T247.vm) X258 hx hZ hown (hw _ (List.mem_of_getElem? (i := 85) rfl)) (own_wS hw) e258 hS247 (Nat.le_trans hk247 Kc258.1) (own_EW hw) (List.mem_of_getElem? (i := 5) rfl) CR265.1 (vs := []) (z := (0 : Int32)) ⟨by decide +kernel, by rfl⟩ (by decide) rfl (g := (mkF m 112 #[.val (.int p1), .val (.int p2), .val (.int p3), .val (.int p4), .val (.int p5), .val (.int (1 : Int32)), .val (.int (1 : Int32)), .val (.ref sa243), .val (.ref sa247), .val (.ref vr_258), .unset, .unset, .unset, .unset, .unset, .unset, .unset] [])) rfl (hb hby at_112) (n := 0) (by decide +kernel) (by decide) (by decide) (by decide)
          have CR298 : CHr Z ELx s.vm h0 T297.vm h297 := CR265.trans CRq297
          have f299 : Exa Z h297 sa243 "java/lang/String" := ((f249.keep Kc258).ext E297)
          have f300 : Exa Z h297 sa247 "java/lang/String" := ((A247.keep Kc258).ext E297)
          have f301 : Arv Z h297 sb243 kc243 .byte (0 : Int32) [] (.int (0 : Int32)) := ((f250.keep Kc258 nin0).ext E297)
          obtain ⟨clq302, Arq302, ckq302, cSq302, cNq302, cHq302, cGq302⟩ := id f301
          have f303 : Arv Z h297 sb247 kc247 .byte (0 : Int32) [] (.int (0 : Int32)) := ((V247.keep Kc258 nin0).ext E297)
          obtain ⟨clq304, Arq304, ckq304, cSq304, cNq304, cHq304, cGq304⟩ := id f303
          have f305 : Exa Z h297 vr_258 "java/lang/String" := (f261.ext E297)
          have f306 : Arv Z h297 vv_258 vk_258 .byte (1 : Int32) [(.int (nar .byte (((p3 &&& (255 : Int32)).toUInt32.toUInt16.toUInt32.toInt32).toInt8.toInt32)))] (.int (0 : Int32)) := (f264.ext E297)
          obtain ⟨clq307, Arq307, ckq307, cSq307, cNq307, cHq307, cGq307⟩ := id f306
          have K308 : Gx p e below s₁ f0 T297 (mkF m 114 #[.val (.int p1), .val (.int p2), .val (.int p3), .val (.int p4), .val (.int p5), .val (.int (1 : Int32)), .val (.int (1 : Int32)), .val (.ref sa243), .val (.ref sa247), .val (.ref vr_258), .unset, .unset, .unset, .unset, .unset, .unset, .unset] [(.ref sa297)]) := fun t kt => K296 t (st297 t kt)
          have K309 : Gx p e below s₁ f0 T297 (mkF m 128 #[.val (.int p1), .val (.int p2), .val (.int p3), .val (.int p4), .val (.int p5), .val (.int (1 : Int32)), .val (.int (1 : Int32)), .val (.ref sa243), .val (.ref sa247), .val (.ref vr_258), .val (.ref sa297), .unset, .unset, .unset, .unset, .unset, .unset] []) := fun t kt => K308 t (by
            show Steps p.tables e below (T297.setTop (mkF m 114 #[.val (.int p1), .val (.int p2), .val (.int p3), .val (.int p4), .val (.int p5), .val (.int (1 : Int32)), .val (.int (1 : Int32)), .val (.ref sa243), .val (.ref sa247), .val (.ref vr_258), .unset, .unset, .unset, .unset, .unset, .unset, .unset] [(.ref sa297)])) _
            refine XS.goto X297.here hx rfl (pc0 := 114) (pc' := 126) rfl (hb hby at_114) (by decide) (by decide) ?_
            show Steps p.tables e below (T297.setTop (mkF m 126 #[.val (.int p1), .val (.int p2), .val (.int p3), .val (.int p4), .val (.int p5), .val (.int (1 : Int32)), .val (.int (1 : Int32)), .val (.ref sa243), .val (.ref sa247), .val (.ref vr_258), .unset, .unset, .unset, .unset, .unset, .unset, .unset] [(.ref sa297)])) _
            refine XS.astore X297.here hx rfl (hb hby at_126) rfl rfl (l' := #[.val (.int p1), .val (.int p2), .val (.int p3), .val (.int p4), .val (.int p5), .val (.int (1 : Int32)), .val (.int (1 : Int32)), .val (.ref sa243), .val (.ref sa247), .val (.ref vr_258), .val (.ref sa297), .unset, .unset, .unset, .unset, .unset, .unset]) rfl ?_
            exact kt)
          have f310 : Fld Z h297 sa243 "java/lang/String" "value" "[B" (.ref sb243) := (((Fv243.ext E247).keep Kc258 nin0).ext E297)
          have f311 : Fld Z h297 sa243 "java/lang/String" "coder" "B" (.int (0 : Int32)) := (((Fc243.ext E247).keep Kc258 nin0).ext E297)
          have f312 : Fld Z h297 sa247 "java/lang/String" "value" "[B" (.ref sb247) := ((Fv247.keep Kc258 nin0).ext E297)
          have f313 : Fld Z h297 sa247 "java/lang/String" "coder" "B" (.int (0 : Int32)) := ((Fc247.keep Kc258 nin0).ext E297)
          have f314 : Fld Z h297 vr_258 "java/lang/String" "value" "[B" (.ref vv_258) := (f263.ext E297)
          have f315 : Fld Z h297 vr_258 "java/lang/String" "coder" "B" (.int (0 : Int32)) := (f262.ext E297)
          have f316 : Old Z n0 h297 := ((f256.keep Kc258 all0).ext E297)
          have kp317 : Keep h0 h297 [] := ((Keep.trans kp257 Kc258 all0).ext E297)
          obtain ⟨t_, o_, st_, run_, end_, res_⟩ := tlE Z a0 hw (Nat.le_trans Z0 kp317.1) (X297.mono (by decide) (by decide)) hx hby hml hown hZ Bd.returns (BodyLoose.notSynchronized Bd) e297 N258 hS297 hk297 (hs0 ▸ CR298) f299 f311 f310 f301 f300 f313 f312 f303 f305 f315 f314 f306 A297 Fc297 Fv297 V297 f316 pr1 hcw (Or.inl rfl) (Or.inl rfl) (Or.inr rfl) (Or.inl rfl) (fun q => rfl) (fun q => rfl) rfl
          exact ⟨t_, o_, pre0 _ (K309 _ st_), run_, end_, res_⟩
      · skip
        have K318 : Gx p e below s₁ f0 T247 (mkF m 83 #[.val (.int p1), .val (.int p2), .val (.int p3), .val (.int p4), .val (.int p5), .val (.int (1 : Int32)), .val (.int (1 : Int32)), .val (.ref sa243), .val (.ref sa247), .unset, .unset, .unset, .unset, .unset, .unset, .unset, .unset] []) := fun t kt => K253 t (by
          show Steps p.tables e below (T247.setTop (mkF m 80 #[.val (.int p1), .val (.int p2), .val (.int p3), .val (.int p4), .val (.int p5), .val (.int (1 : Int32)), .val (.int (1 : Int32)), .val (.ref sa243), .val (.ref sa247), .unset, .unset, .unset, .unset, .unset, .unset, .unset, .unset] [(.int (p5 &&& (8 : Int32)))])) _
          refine XS.ifNo X247.here hx rfl (hb hby at_80) rfl ((if0 _ _).trans (feq hb254).1) ?_
          exact kt)
        obtain ⟨sa319, T319, h319, kk319, sb319, kc319, X319, e319, E319, hS319, hk319, hZ, hown, A319, Fc319, Fv319, V319, -, -, CRq319, -, Sf319, st319⟩ := ldcCH (s := s) (vm0 := T247.vm) X247 hx hZ hown (hw _ (List.mem_of_getElem? (i := 85) rfl)) (own_wS hw) e247 hS247 hk247 (own_EW hw) (List.mem_of_getElem? (i := 5) rfl) CR248.1 (vs := []) (z := (0 : Int32)) ⟨by decide +kernel, by rfl⟩ (by decide) rfl (g := (mkF m 83 #[.val (.int p1), .val (.int p2), .val (.int p3), .val (.int p4), .val (.int p5), .val (.int (1 : Int32)), .val (.int (1 : Int32)), .val (.ref sa243), .val (.ref sa247), .unset, .unset, .unset, .unset, .unset, .unset, .unset, .unset] [])) rfl (hb hby at_83) (n := 0) (by decide +kernel) (by decide) (by decide) (by decide)
        have CR320 : CHr Z ELx s.vm h0 T319.vm h319 := CR248.trans CRq319
        have f321 : Exa Z h319 sa243 "java/lang/String" := (f249.ext E319)
        have f322 : Exa Z h319 sa247 "java/lang/String" := (A247.ext E319)
        have f323 : Arv Z h319 sb243 kc243 .byte (0 : Int32) [] (.int (0 : Int32)) := (f250.ext E319)
        obtain ⟨clq324, Arq324, ckq324, cSq324, cNq324, cHq324, cGq324⟩ := id f323
        have f325 : Arv Z h319 sb247 kc247 .byte (0 : Int32) [] (.int (0 : Int32)) := (V247.ext E319)
        obtain ⟨clq326, Arq326, ckq326, cSq326, cNq326, cHq326, cGq326⟩ := id f325
        have K327 : Gx p e below s₁ f0 T319 (mkF m 85 #[.val (.int p1), .val (.int p2), .val (.int p3), .val (.int p4), .val (.int p5), .val (.int (1 : Int32)), .val (.int (1 : Int32)), .val (.ref sa243), .val (.ref sa247), .unset, .unset, .unset, .unset, .unset, .unset, .unset, .unset] [(.ref sa319)]) := fun t kt => K318 t (st319 t kt)
        have K328 : Gx p e below s₁ f0 T319 (mkF m 109 #[.val (.int p1), .val (.int p2), .val (.int p3), .val (.int p4), .val (.int p5), .val (.int (1 : Int32)), .val (.int (1 : Int32)), .val (.ref sa243), .val (.ref sa247), .val (.ref sa319), .unset, .unset, .unset, .unset, .unset, .unset, .unset] [(.int (p5 &&& (16 : Int32)))]) := fun t kt => K327 t (by
          show Steps p.tables e below (T319.setTop (mkF m 85 #[.val (.int p1), .val (.int p2), .val (.int p3), .val (.int p4), .val (.int p5), .val (.int (1 : Int32)), .val (.int (1 : Int32)), .val (.ref sa243), .val (.ref sa247), .unset, .unset, .unset, .unset, .unset, .unset, .unset, .unset] [(.ref sa319)])) _
          refine XS.goto X319.here hx rfl (pc0 := 85) (pc' := 97) rfl (hb hby at_85) (by decide) (by decide) ?_
          show Steps p.tables e below (T319.setTop (mkF m 97 #[.val (.int p1), .val (.int p2), .val (.int p3), .val (.int p4), .val (.int p5), .val (.int (1 : Int32)), .val (.int (1 : Int32)), .val (.ref sa243), .val (.ref sa247), .unset, .unset, .unset, .unset, .unset, .unset, .unset, .unset] [(.ref sa319)])) _
          refine XS.astore X319.here hx rfl (hb hby at_97) rfl rfl (l' := #[.val (.int p1), .val (.int p2), .val (.int p3), .val (.int p4), .val (.int p5), .val (.int (1 : Int32)), .val (.int (1 : Int32)), .val (.ref sa243), .val (.ref sa247), .val (.ref sa319), .unset, .unset, .unset, .unset, .unset, .unset, .unset]) rfl ?_
          show Steps p.tables e below (T319.setTop (mkF m 99 #[.val (.int p1), .val (.int p2), .val (.int p3), .val (.int p4), .val (.int p5), .val (.int (1 : Int32)), .val (.int (1 : Int32)), .val (.ref sa243), .val (.ref sa247), .val (.ref sa319), .unset, .unset, .unset, .unset, .unset, .unset, .unset] [])) _
          refine XS.iload X319.here hx rfl (hb hby at_99) rfl ?_
          show Steps p.tables e below (T319.setTop (mkF m 101 #[.val (.int p1), .val (.int p2), .val (.int p3), .val (.int p4), .val (.int p5), .val (.int (1 : Int32)), .val (.int (1 : Int32)), .val (.ref sa243), .val (.ref sa247), .val (.ref sa319), .unset, .unset, .unset, .unset, .unset, .unset, .unset] [(.int (1 : Int32))])) _
          refine XS.ifNo X319.here hx rfl (hb hby at_101) rfl ((if0 _ _).trans (feq (by decide)).1) ?_
          show Steps p.tables e below (T319.setTop (mkF m 104 #[.val (.int p1), .val (.int p2), .val (.int p3), .val (.int p4), .val (.int p5), .val (.int (1 : Int32)), .val (.int (1 : Int32)), .val (.ref sa243), .val (.ref sa247), .val (.ref sa319), .unset, .unset, .unset, .unset, .unset, .unset, .unset] [])) _
          refine XS.iload X319.here hx rfl (hb hby at_104) rfl ?_
          show Steps p.tables e below (T319.setTop (mkF m 106 #[.val (.int p1), .val (.int p2), .val (.int p3), .val (.int p4), .val (.int p5), .val (.int (1 : Int32)), .val (.int (1 : Int32)), .val (.ref sa243), .val (.ref sa247), .val (.ref sa319), .unset, .unset, .unset, .unset, .unset, .unset, .unset] [(.int p5)])) _
          refine XS.bipush X319.here hx rfl (hb hby at_106) ?_
          show Steps p.tables e below (T319.setTop (mkF m 108 #[.val (.int p1), .val (.int p2), .val (.int p3), .val (.int p4), .val (.int p5), .val (.int (1 : Int32)), .val (.int (1 : Int32)), .val (.ref sa243), .val (.ref sa247), .val (.ref sa319), .unset, .unset, .unset, .unset, .unset, .unset, .unset] [(.int (16 : Int32)), (.int p5)])) _
          refine XS.iand X319.here hx rfl (hb hby at_108) rfl ?_
          exact kt)
        by_cases hb329 : (p5 &&& (16 : Int32)) = (0 : Int32)
        · skip
          have K330 : Gx p e below s₁ f0 T319 (mkF m 123 #[.val (.int p1), .val (.int p2), .val (.int p3), .val (.int p4), .val (.int p5), .val (.int (1 : Int32)), .val (.int (1 : Int32)), .val (.ref sa243), .val (.ref sa247), .val (.ref sa319), .unset, .unset, .unset, .unset, .unset, .unset, .unset] [(.int ((p4 &&& (255 : Int32)).toUInt32.toUInt16.toUInt32.toInt32))]) := fun t kt => K328 t (by
            show Steps p.tables e below (T319.setTop (mkF m 109 #[.val (.int p1), .val (.int p2), .val (.int p3), .val (.int p4), .val (.int p5), .val (.int (1 : Int32)), .val (.int (1 : Int32)), .val (.ref sa243), .val (.ref sa247), .val (.ref sa319), .unset, .unset, .unset, .unset, .unset, .unset, .unset] [(.int (p5 &&& (16 : Int32)))])) _
            refine XS.ifYes X319.here hx rfl (pc0 := 109) (pc' := 117) rfl (hb hby at_109) rfl ((if0 _ _).trans (teq hb329).1) (by decide) (by decide) ?_
            show Steps p.tables e below (T319.setTop (mkF m 117 #[.val (.int p1), .val (.int p2), .val (.int p3), .val (.int p4), .val (.int p5), .val (.int (1 : Int32)), .val (.int (1 : Int32)), .val (.ref sa243), .val (.ref sa247), .val (.ref sa319), .unset, .unset, .unset, .unset, .unset, .unset, .unset] [])) _
            refine XS.iloadN X319.here hx rfl (hb hby at_117) rfl ?_
            show Steps p.tables e below (T319.setTop (mkF m 118 #[.val (.int p1), .val (.int p2), .val (.int p3), .val (.int p4), .val (.int p5), .val (.int (1 : Int32)), .val (.int (1 : Int32)), .val (.ref sa243), .val (.ref sa247), .val (.ref sa319), .unset, .unset, .unset, .unset, .unset, .unset, .unset] [(.int p4)])) _
            refine XS.sipush X319.here hx rfl (hb hby at_118) ?_
            show Steps p.tables e below (T319.setTop (mkF m 121 #[.val (.int p1), .val (.int p2), .val (.int p3), .val (.int p4), .val (.int p5), .val (.int (1 : Int32)), .val (.int (1 : Int32)), .val (.ref sa243), .val (.ref sa247), .val (.ref sa319), .unset, .unset, .unset, .unset, .unset, .unset, .unset] [(.int (255 : Int32)), (.int p4)])) _
            refine XS.iand X319.here hx rfl (hb hby at_121) rfl ?_
            show Steps p.tables e below (T319.setTop (mkF m 122 #[.val (.int p1), .val (.int p2), .val (.int p3), .val (.int p4), .val (.int p5), .val (.int (1 : Int32)), .val (.int (1 : Int32)), .val (.ref sa243), .val (.ref sa247), .val (.ref sa319), .unset, .unset, .unset, .unset, .unset, .unset, .unset] [(.int (p4 &&& (255 : Int32)))])) _
            refine XS.i2c X319.here hx rfl (hb hby at_122) rfl ?_
            exact kt)
          have f331 : Old Z n0 h319 := (((pr0.ext E243).ext E247).ext E319)
          have kp332 : Keep h0 h319 [] := ((((Keep.refl h0 []).ext E243).ext E247).ext E319)
          obtain ⟨_, _, ⟨T333, L333, k333, n333⟩, -, X333', ⟨Lc333, hQ333, l333, y333, z333⟩, st333⟩ := Jvm.LawKit.callS X319 hx (y := (⟨"java/lang/String", "valueOf", "(C)Ljava/lang/String;"⟩ : MethodName)) hown (mvT hZ (hw _ (List.mem_of_getElem? (i := 0) rfl))) (mvT hZ (hw _ (List.mem_of_getElem? (i := 1) rfl))) (mvT hZ (hw _ (List.mem_of_getElem? (i := 2) rfl))) (mvT hZ (hw _ (List.mem_of_getElem? (i := 3) rfl))) (by decide) (backOf (W := 0) (rmVal l Z a0 hw [] ((p4 &&& (255 : Int32)).toUInt32.toUInt16.toUInt32.toInt32) cw h319 n0 (Nat.le_trans Z0 kp332.1) f331 pr1 hcw (own_c255 _)) hZ (hw _ (List.mem_of_getElem? (i := 3) rfl)) (hw _ (List.mem_of_getElem? (i := 2) rfl)) (by decide) (by decide)) (g := (mkF m 123 #[.val (.int p1), .val (.int p2), .val (.int p3), .val (.int p4), .val (.int p5), .val (.int (1 : Int32)), .val (.int (1 : Int32)), .val (.ref sa243), .val (.ref sa247), .val (.ref sa319), .unset, .unset, .unset, .unset, .unset, .unset, .unset] [(.int ((p4 &&& (255 : Int32)).toUInt32.toUInt16.toUInt32.toInt32))])) rfl (by rw [hml]; rfl) (argsL := [(.int ((p4 &&& (255 : Int32)).toUInt32.toUInt16.toUInt32.toInt32))]) (rest := []) (lenOf pd__C_Ljava_lang_String_ rfl) rfl (by show 2 * 0 + _ ≤ _; exact Nat.le_of_eq rfl) (hb hby at_123) (fun _ _ => ⟨rfl, e319, (by decide : 6 + 2 ≤ _), (by decide : 12 + 5 ≤ _)⟩)
          dsimp only [Pt.U, Pt.locs, Pt.cells, Pt.slots] at X333' l333 y333 z333 st333 hQ333
          subst l333 y333 z333
          obtain ⟨h333, e333⟩ : ∃ z, T333.heap = z := ⟨_, rfl⟩
          rw [e333] at hQ333
          obtain ⟨vr_333, vv_333, vk_333, rfl, N333q, Kc333, f334, f335, f336, f337, f338, f339⟩ := hQ333
          obtain ⟨lc333, X333, N333⟩ : ∃ lc, Stand p l e room_1 (s.setVm T319.vm) m #[(.int p1), (.int p2), (.int p3), (.int p4), (.int p5)] below meth c T333 lc 8 17 ∧ Fr n0 lc := ⟨_, X333', Fr.app N0 N333q⟩
          have CR340 : CHr Z ELx s.vm h0 T319.vm h333 := CR320.trans (CHr.keep Kc333 all0 CR320.1)
          have K341 : Gx p e below s₁ f0 T333 (mkF m 126 #[.val (.int p1), .val (.int p2), .val (.int p3), .val (.int p4), .val (.int p5), .val (.int (1 : Int32)), .val (.int (1 : Int32)), .val (.ref sa243), .val (.ref sa247), .val (.ref sa319), .unset, .unset, .unset, .unset, .unset, .unset, .unset] [(.ref vr_333)]) := fun t kt => K330 t (st333 t kt)
          have K342 : Gx p e below s₁ f0 T333 (mkF m 128 #[.val (.int p1), .val (.int p2), .val (.int p3), .val (.int p4), .val (.int p5), .val (.int (1 : Int32)), .val (.int (1 : Int32)), .val (.ref sa243), .val (.ref sa247), .val (.ref sa319), .val (.ref vr_333), .unset, .unset, .unset, .unset, .unset, .unset] []) := fun t kt => K341 t (by
            show Steps p.tables e below (T333.setTop (mkF m 126 #[.val (.int p1), .val (.int p2), .val (.int p3), .val (.int p4), .val (.int p5), .val (.int (1 : Int32)), .val (.int (1 : Int32)), .val (.ref sa243), .val (.ref sa247), .val (.ref sa319), .unset, .unset, .unset, .unset, .unset, .unset, .unset] [(.ref vr_333)])) _
            refine XS.astore X333.here hx rfl (hb hby at_126) rfl rfl (l' := #[.val (.int p1), .val (.int p2), .val (.int p3), .val (.int p4), .val (.int p5), .val (.int (1 : Int32)), .val (.int (1 : Int32)), .val (.ref sa243), .val (.ref sa247), .val (.ref sa319), .val (.ref vr_333), .unset, .unset, .unset, .unset, .unset, .unset]) rfl ?_
            exact kt)
          have f343 : Fld Z h333 sa243 "java/lang/String" "value" "[B" (.ref sb243) := (((Fv243.ext E247).ext E319).keep Kc333 nin0)
          have f344 : Exa Z h333 sa243 "java/lang/String" := (f321.keep Kc333)
          have f345 : Fld Z h333 sa243 "java/lang/String" "coder" "B" (.int (0 : Int32)) := (((Fc243.ext E247).ext E319).keep Kc333 nin0)
          have f346 : Arv Z h333 sb243 kc243 .byte (0 : Int32) [] (.int (0 : Int32)) := (f323.keep Kc333 nin0)
          have f347 : Fld Z h333 sa247 "java/lang/String" "value" "[B" (.ref sb247) := ((Fv247.ext E319).keep Kc333 nin0)
          have f348 : Exa Z h333 sa247 "java/lang/String" := (f322.keep Kc333)
          have f349 : Fld Z h333 sa247 "java/lang/String" "coder" "B" (.int (0 : Int32)) := ((Fc247.ext E319).keep Kc333 nin0)
          have f350 : Arv Z h333 sb247 kc247 .byte (0 : Int32) [] (.int (0 : Int32)) := (f325.keep Kc333 nin0)
          have f351 : Fld Z h333 sa319 "java/lang/String" "value" "[B" (.ref sb319) := (Fv319.keep Kc333 nin0)
          have f352 : Exa Z h333 sa319 "java/lang/String" := (A319.keep Kc333)
          have f353 : Fld Z h333 sa319 "java/lang/String" "coder" "B" (.int (0 : Int32)) := (Fc319.keep Kc333 nin0)
          have f354 : Arv Z h333 sb319 kc319 .byte (0 : Int32) [] (.int (0 : Int32)) := (V319.keep Kc333 nin0)
          have f355 : Old Z n0 h333 := (f331.keep Kc333 all0)
          have kp356 : Keep h0 h333 [] := (Keep.trans kp332 Kc333 all0)
          obtain ⟨t_, o_, st_, run_, end_, res_⟩ := tlE Z a0 hw (Nat.le_trans Z0 kp356.1) (X333.mono (by decide) (by decide)) hx hby hml hown hZ Bd.returns (BodyLoose.notSynchronized Bd) e333 N333 hS319 (Nat.le_trans hk319 Kc333.1) (hs0 ▸ CR340) f344 f345 f343 f346 f348 f349 f347 f350 f352 f353 f351 f354 f336 f337 f338 f339 f355 pr1 hcw (Or.inl rfl) (Or.inl rfl) (Or.inl rfl) (Or.inr rfl) (fun q => rfl) (fun q => rfl) rfl
          exact ⟨t_, o_, pre0 _ (K342 _ st_), run_, end_, res_⟩
        · skip
          have K357 : Gx p e below s₁ f0 T319 (mkF m 112 #[.val (.int p1), .val (.int p2), .val (.int p3), .val (.int p4), .val (.int p5), .val (.int (1 : Int32)), .val (.int (1 : Int32)), .val (.ref sa243), .val (.ref sa247), .val (.ref sa319), .unset, .unset, .unset, .unset, .unset, .unset, .unset] []) := fun t kt => K328 t (by
            show Steps p.tables e below (T319.setTop (mkF m 109 #[.val (.int p1), .val (.int p2), .val (.int p3), .val (.int p4), .val (.int p5), .val (.int (1 : Int32)), .val (.int (1 : Int32)), .val (.ref sa243), .val (.ref sa247), .val (.ref sa319), .unset, .unset, .unset, .unset, .unset, .unset, .unset] [(.int (p5 &&& (16 : Int32)))])) _
            refine XS.ifNo X319.here hx rfl (hb hby at_109) rfl ((if0 _ _).trans (feq hb329).1) ?_
            exact kt)
          obtain ⟨sa358, T358, h358, kk358, sb358, kc358, X358, e358, E358, hS358, hk358, hZ, hown, A358, Fc358, Fv358, V358, -, -, CRq358, -, Sf358, st358⟩ := ldcCH (s := s) (vm0 := T319.vm) X319 hx hZ hown (hw _ (List.mem_of_getElem? (i := 85) rfl)) (own_wS hw) e319 hS319 hk319 (own_EW hw) (List.mem_of_getElem? (i := 5) rfl) CR320.1 (vs := []) (z := (0 : Int32)) ⟨by decide +kernel, by rfl⟩ (by decide) rfl (g := (mkF m 112 #[.val (.int p1), .val (.int p2), .val (.int p3), .val (.int p4), .val (.int p5), .val (.int (1 : Int32)), .val (.int (1 : Int32)), .val (.ref sa243), .val (.ref sa247), .val (.ref sa319), .unset, .unset, .unset, .unset, .unset, .unset, .unset] [])) rfl (hb hby at_112) (n := 0) (by decide +kernel) (by decide) (by decide) (by decide)
          have CR359 : CHr Z ELx s.vm h0 T358.vm h358 := CR320.trans CRq358
          have f360 : Exa Z h358 sa243 "java/lang/String" := (f321.ext E358)
          have f361 : Exa Z h358 sa247 "java/lang/String" := (f322.ext E358)
          have f362 : Exa Z h358 sa319 "java/lang/String" := (A319.ext E358)
          have f363 : Arv Z h358 sb243 kc243 .byte (0 : Int32) [] (.int (0 : Int32)) := (f323.ext E358)
          obtain ⟨clq364, Arq364, ckq364, cSq364, cNq364, cHq364, cGq364⟩ := id f363
          have f365 : Arv Z h358 sb247 kc247 .byte (0 : Int32) [] (.int (0 : Int32)) := (f325.ext E358)
          obtain ⟨clq366, Arq366, ckq366, cSq366, cNq366, cHq366, cGq366⟩ := id f365
          have f367 : Arv Z h358 sb319 kc319 .byte (0 : Int32) [] (.int (0 : Int32)) := (V319.ext E358)
          obtain ⟨clq368, Arq368, ckq368, cSq368, cNq368, cHq368, cGq368⟩ := id f367
          have K369 : Gx p e below s₁ f0 T358 (mkF m 114 #[.val (.int p1), .val (.int p2), .val (.int p3), .val (.int p4), .val (.int p5), .val (.int (1 : Int32)), .val (.int (1 : Int32)), .val (.ref sa243), .val (.ref sa247), .val (.ref sa319), .unset, .unset, .unset, .unset, .unset, .unset, .unset] [(.ref sa358)]) := fun t kt => K357 t (st358 t kt)
          have K370 : Gx p e below s₁ f0 T358 (mkF m 128 #[.val (.int p1), .val (.int p2), .val (.int p3), .val (.int p4), .val (.int p5), .val (.int (1 : Int32)), .val (.int (1 : Int32)), .val (.ref sa243), .val (.ref sa247), .val (.ref sa319), .val (.ref sa358), .unset, .unset, .unset, .unset, .unset, .unset] []) := fun t kt => K369 t (by
            show Steps p.tables e below (T358.setTop (mkF m 114 #[.val (.int p1), .val (.int p2), .val (.int p3), .val (.int p4), .val (.int p5), .val (.int (1 : Int32)), .val (.int (1 : Int32)), .val (.ref sa243), .val (.ref sa247), .val (.ref sa319), .unset, .unset, .unset, .unset, .unset, .unset, .unset] [(.ref sa358)])) _
            refine XS.goto X358.here hx rfl (pc0 := 114) (pc' := 126) rfl (hb hby at_114) (by decide) (by decide) ?_
            show Steps p.tables e below (T358.setTop (mkF m 126 #[.val (.int p1), .val (.int p2), .val (.int p3), .val (.int p4), .val (.int p5), .val (.int (1 : Int32)), .val (.int (1 : Int32)), .val (.ref sa243), .val (.ref sa247), .val (.ref sa319), .unset, .unset, .unset, .unset, .unset, .unset, .unset] [(.ref sa358)])) _
            refine XS.astore X358.here hx rfl (hb hby at_126) rfl rfl (l' := #[.val (.int p1), .val (.int p2), .val (.int p3), .val (.int p4), .val (.int p5), .val (.int (1 : Int32)), .val (.int (1 : Int32)), .val (.ref sa243), .val (.ref sa247), .val (.ref sa319), .val (.ref sa358), .unset, .unset, .unset, .unset, .unset, .unset]) rfl ?_
            exact kt)
          have f371 : Fld Z h358 sa243 "java/lang/String" "value" "[B" (.ref sb243) := (((Fv243.ext E247).ext E319).ext E358)
          have f372 : Fld Z h358 sa243 "java/lang/String" "coder" "B" (.int (0 : Int32)) := (((Fc243.ext E247).ext E319).ext E358)
          have f373 : Fld Z h358 sa247 "java/lang/String" "value" "[B" (.ref sb247) := ((Fv247.ext E319).ext E358)
          have f374 : Fld Z h358 sa247 "java/lang/String" "coder" "B" (.int (0 : Int32)) := ((Fc247.ext E319).ext E358)
          have f375 : Fld Z h358 sa319 "java/lang/String" "value" "[B" (.ref sb319) := (Fv319.ext E358)
          have f376 : Fld Z h358 sa319 "java/lang/String" "coder" "B" (.int (0 : Int32)) := (Fc319.ext E358)
          have f377 : Old Z n0 h358 := ((((pr0.ext E243).ext E247).ext E319).ext E358)
          have kp378 : Keep h0 h358 [] := (((((Keep.refl h0 []).ext E243).ext E247).ext E319).ext E358)
          obtain ⟨t_, o_, st_, run_, end_, res_⟩ := tlE Z a0 hw (Nat.le_trans Z0 kp378.1) (X358.mono (by decide) (by decide)) hx hby hml hown hZ Bd.returns (BodyLoose.notSynchronized Bd) e358 N0 hS358 hk358 (hs0 ▸ CR359) f360 f372 f371 f363 f361 f374 f373 f365 f362 f376 f375 f367 A358 Fc358 Fv358 V358 f377 pr1 hcw (Or.inl rfl) (Or.inl rfl) (Or.inl rfl) (Or.inl rfl) (fun q => rfl) (fun q => rfl) rfl
          exact ⟨t_, o_, pre0 _ (K370 _ st_), run_, end_, res_⟩
set_option maxRecDepth 65536 in
set_option maxHeartbeats 40000000 in
theorem comes_1 {Post : Tables → Env → Array Value → State → Outcome → State → Prop} (hpost : ∀ tb e args s v u, (limb_1_1.after args s (.returned v) u = true ∧ limb_1_2.after args s (.returned v) u = true ∧ True) → ReturnedEndW s (.returned v) u (Jvm.fieldLocs frame_1_writes args s ++ Jvm.arrayLocs frame_1_arrays args s ++ Jvm.staticLocs frame_1_statics s) 48 6400 → Post tb e args s (.returned v) u) :
    ArmFor flags0 classFile x code maxLocals ret World_1 tables_1 room_1 Calls_1 rest_1 Pre_1 Post := by
  intro l hfl _ _ p e ha hc hk s m args below hf hA hF happ hP
  obtain ⟨hcalls, hrest, hpre⟩ := hP
  obtain ⟨-, -, -, hnamed, -, -, -, hat⟩ := (Spec.applies_iff hf).mp happ
  obtain ⟨hg, hn⟩ := and_e (Cond.before_iff.mp (show (Jvm.Cond.and given_1 narrow_1).before args s = true from hpre))
  obtain ⟨g1, g2⟩ := and_e hg
  obtain ⟨g3, g4⟩ := and_e g2
  obtain ⟨g5, g6⟩ := and_e g4
  obtain ⟨g7, g8⟩ := and_e g6
  obtain ⟨g9, g10⟩ := and_e g8
  obtain ⟨w0, w1, w2, w3, w4, rfl⟩ : ∃ w0 w1 w2 w3 w4 : Value, args = #[w0, w1, w2, w3, w4] := by
    have hs : args.size = 5 := by simpa [Cond.value, given_1] using g1
    obtain ⟨L⟩ := args
    match L, hs with
    | [w0, w1, w2, w3, w4], _ => exact ⟨w0, w1, w2, w3, w4, rfl⟩
  have hw := fun d (hd : d ∈ tables_1) => atoms_spec (ws := Jvm.Cond.code x code maxLocals ret :: tables_1) hat d (List.mem_cons_of_mem _ hd)
  have hfit : Fit s := fun {y c} hc i hi => by
    obtain ⟨ha, rfl⟩ := Array.getElem?_eq_some_iff.mp hc
    have q := List.all_eq_true.mp ((Array.all_eq_true_iff_forall_mem.mp hF) _ (Array.getElem_mem ha)) i (List.mem_range.mpr hi)
    simpa [Array.getElem?_eq_getElem hi] using q
  obtain ⟨hsets, hown0⟩ := atoms_of _ (rest_1_c_eq ▸ (show rest_1_c.before _ s = true from hrest))
  have hr0 := Cond.before_iff.mp hown0
  obtain ⟨i0, ei0⟩ := is_v g3
  obtain rfl : w0 = (.int i0) := Option.some.inj ei0
  obtain ⟨i1, ei1⟩ := is_v g5
  obtain rfl : w1 = (.int i1) := Option.some.inj ei1
  obtain ⟨i2, ei2⟩ := is_v g7
  obtain rfl : w2 = (.int i2) := Option.some.inj ei2
  obtain ⟨i3, ei3⟩ := is_v g9
  obtain rfl : w3 = (.int i3) := Option.some.inj ei3
  obtain ⟨i4, ei4⟩ := is_v g10
  obtain rfl : w4 = (.int i4) := Option.some.inj ei4
  have hcwS := own_compact hsets
  obtain ⟨cw, hSc, hcw⟩ := hcwS
  have hCH : CHv s ELx s.vm s.heap := CHv.start (own_EW hw) (fun q hq => hcalls.1 q hq) (own_cpw hsets) (hw _ (List.mem_of_getElem? (i := 14) rfl)) (hw _ (List.mem_of_getElem? (i := 10) rfl))
  obtain ⟨n, o, h1, h2, h3, _, L, rfl, ⟨rfl, N⟩, -, hq⟩ := rm0 l s _ hw tables_1 i0 i1 i2 i3 i4 cw s.heap s.heap.size (Nat.le_refl _) (Old.start s) hSc hcw p e ha hc hk s m _ below hf ((Spec.applies_iff_loose hf).mp happ).1 ⟨rfl, State.Warmed39.refl s, rfl, hCH⟩ trivial
  refine ⟨n, _, h1, h2, h3, hpost _ _ _ _ _ _ ⟨Cond.after_iff.mpr rfl, Cond.after_iff.mpr (eq_i res_at (Term.int_eval (1)) rfl), trivial⟩ ⟨hq.1, hq.2.1, hq.2.2.1, (hq.2.2.2.sift fun y hy => Or.inr (N y hy)).mono (by decide) (by decide)⟩⟩
theorem main_1_1 : Claimed_1_1 := comes_1 fun _ _ _ _ _ _ h hF => ⟨h.1, hF⟩
theorem main_1_2 : Claimed_1_2 := comes_1 fun _ _ _ _ _ _ h hF => ⟨h.2.1, hF⟩
end Jvm.Pilot.@@N@@
namespace Jvm.Pilot.@@N@@
open Jvm Jvm.ClassFile Sem Op Lib Jvm.Free Jvm.Stand Jvm.Pilot.@@N@@.Jvm.D
/-! MADE BY PROGRAM (witnessworld.py) out of the Statement's table words and the real class files: 18 classes; the members and pool entries that the words name. The judged class is class 1, her method 1. -/
namespace start1
open Jvm.ClassFile
def u (s : String) : CpInfo := .utf8 (stringToUtf16 s)
/-- a pool by its gaps: so many unusable entries, then the entry; so many at the end -/
def gap : Nat → List CpInfo → List CpInfo
  | 0, r => r
  | n + 1, r => .unusable :: gap n r
def poolList (es : List (Nat × CpInfo)) (last : Nat) : List CpInfo := es.foldr (fun e r => gap e.1 (e.2 :: r)) (gap last [])
def pool (es : List (Nat × CpInfo)) (last : Nat) : Array CpInfo := ⟨poolList es last⟩
def fileOf (pool : Array CpInfo) (this : Nat) (attrs : Array Attribute := #[]) (ms : Array MethodInfo := #[]) (fl : Nat := 33) (sup : Nat := 0) (ifs : Array Nat := #[]) (fds : Array FieldInfo := #[]) : ClassFile where
  minorVersion := 0
  majorVersion := 65
  constantPool := pool
  accessFlags := fl
  thisClass := this
  superClass := sup
  interfaces := ifs
  fields := fds
  methods := ms
  attributes := attrs
def plain (name : String) (sup : Option ClassId) : Class where
  name := name
  kind := .ordinary
  loader := none
  accessFlags := 33
  super := sup
  interfaces := #[]
  cf := none
  fields := #[]
  methods := #[]
  instanceTypes := #[]
  staticTypes := #[]
  resolved := #[]
  callSites := []
  init := .initialized
  statics := none
  mirror := none

def pool0 : Array CpInfo := pool [(5, u "<init>"), (0, u "()V"), (1, .class_ 10), (1, u "java/lang/Object")] 113

def k0c0 : Code := { maxStack := 0, maxLocals := 1, code := object_method_1_code, exceptionTable := #[], attributes := #[] }
def k0m0 : Method := { name := "<init>", desc := "()V", sig := { parameters := [], returnType := none }, accessFlags := 1, code := some k0c0 }
/-- java/lang/Object -/
def k0 : Class := { plain "java/lang/Object" none with
  accessFlags := 33
  interfaces := #[]
  cf := some (fileOf pool0 8 #[] #[{ accessFlags := 1, nameIndex := 5, descriptorIndex := 6, attributes := #[] }] 33 0 #[] #[])
  fields := #[]
  methods := #[k0m0]
  instanceTypes := #[]
  staticTypes := #[]
  resolved := Array.replicate 124 none
  statics := none }

def pool1 : Array CpInfo := pool [(2, .class_ 4), (0, .nameAndType 5 6), (0, u "java/lang/Object"), (0, u "<init>"), (0, u "()V"), (0, .string 8), (0, u ""), (0, .methodref 10 11), (0, .class_ 12), (0, .nameAndType 13 14), (0, u "java/lang/String"), (0, u "valueOf"), (0, u "(C)Ljava/lang/String;"), (0, .class_ 16), (0, u "com/example/stanzacall/stanzacall/xml/Namespaces"), (0, .methodref 15 3), (0, .methodref 15 19), (0, .nameAndType 20 6), (0, u "open"), (0, .methodref 15 22), (0, .nameAndType 23 24), (0, u "declare"), (0, u "(Ljava/lang/String;Ljava/lang/String;)V"), (0, .methodref 15 26), (0, .nameAndType 27 28), (0, u "uri"), (0, u "(Ljava/lang/String;)Ljava/lang/String;"), (0, .methodref 15 30), (0, .nameAndType 31 6), (0, u "close"), (0, .methodref 10 33), (0, .nameAndType 34 35), (0, u "equals"), (0, u "(Ljava/lang/Object;)Z"), (0, .class_ 37), (0, u "com/example/stanzacall/stanzacall/xml/NamespacesClosePinLaw"), (2, u "law"), (0, u "(IIIII)Z")] 6

def k1m0 : Method := { name := "<init>", desc := "()V", sig := { parameters := [], returnType := none }, accessFlags := 2, code := none }
def k1c1 : Code := { maxStack := 3, maxLocals := 17, code := code, exceptionTable := #[], attributes := #[] }
def k1m1 : Method := { name := "law", desc := "(IIIII)Z", sig := { parameters := [.int, .int, .int, .int, .int], returnType := some .boolean }, accessFlags := 9, code := some k1c1 }
/-- com/example/stanzacall/stanzacall/xml/NamespacesClosePinLaw -/
def k1 : Class := { plain "com/example/stanzacall/stanzacall/xml/NamespacesClosePinLaw" (some 0) with
  accessFlags := 49
  interfaces := #[]
  cf := some (fileOf pool1 36 #[] #[{ accessFlags := 2, nameIndex := 5, descriptorIndex := 6, attributes := #[] }, { accessFlags := 9, nameIndex := 40, descriptorIndex := 41, attributes := #[] }] 49 2 #[] #[])
  fields := #[]
  methods := #[k1m0, k1m1]
  instanceTypes := #[]
  staticTypes := #[]
  resolved := Array.replicate 48 none
  statics := none }

def pool2 : Array CpInfo := pool [(1, .class_ 2), (0, u "java/io/Serializable"), (0, .class_ 4), (0, u "java/lang/Object")] 2

/-- java/io/Serializable -/
def k2 : Class := { plain "java/io/Serializable" (some 0) with
  accessFlags := 1537
  interfaces := #[]
  cf := some (fileOf pool2 1 #[] #[] 1537 3 #[] #[])
  fields := #[]
  methods := #[]
  instanceTypes := #[]
  staticTypes := #[]
  resolved := Array.replicate 7 none
  statics := none }

def pool3 : Array CpInfo := pool [(1, .class_ 2), (0, u "java/lang/Comparable"), (0, .class_ 4), (0, u "java/lang/Object")] 7

/-- java/lang/Comparable -/
def k3 : Class := { plain "java/lang/Comparable" (some 0) with
  accessFlags := 1537
  interfaces := #[]
  cf := some (fileOf pool3 1 #[] #[] 1537 3 #[] #[])
  fields := #[]
  methods := #[]
  instanceTypes := #[]
  staticTypes := #[]
  resolved := Array.replicate 12 none
  statics := none }

def pool4 : Array CpInfo := pool [(2, .class_ 4), (1, u "java/lang/CharSequence"), (42, .class_ 48), (0, u "java/lang/CharSequence$1CodePointIterator"), (10, .class_ 60), (0, u "java/lang/CharSequence$1CharIterator"), (5, .class_ 67), (0, u "java/lang/Object")] 63

/-- java/lang/CharSequence -/
def k4 : Class := { plain "java/lang/CharSequence" (some 0) with
  accessFlags := 1537
  interfaces := #[]
  cf := some (fileOf pool4 2 #[.nestMembers #[47, 59]] #[] 1537 66 #[] #[])
  fields := #[]
  methods := #[]
  instanceTypes := #[]
  staticTypes := #[]
  resolved := Array.replicate 131 none
  statics := none }

def pool5 : Array CpInfo := pool [(1, .class_ 2), (0, u "java/lang/constant/Constable"), (0, .class_ 4), (0, u "java/lang/Object")] 6

/-- java/lang/constant/Constable -/
def k5 : Class := { plain "java/lang/constant/Constable" (some 0) with
  accessFlags := 1537
  interfaces := #[]
  cf := some (fileOf pool5 1 #[] #[] 1537 3 #[] #[])
  fields := #[]
  methods := #[]
  instanceTypes := #[]
  staticTypes := #[]
  resolved := Array.replicate 11 none
  statics := none }

def pool6 : Array CpInfo := pool [(1, .class_ 2), (0, u "java/lang/constant/ConstantDesc"), (0, .class_ 4), (0, u "java/lang/Object")] 32

/-- java/lang/constant/ConstantDesc -/
def k6 : Class := { plain "java/lang/constant/ConstantDesc" (some 0) with
  accessFlags := 1537
  interfaces := #[]
  cf := some (fileOf pool6 1 #[] #[] 1537 3 #[] #[])
  fields := #[]
  methods := #[]
  instanceTypes := #[]
  staticTypes := #[]
  resolved := Array.replicate 37 none
  statics := none }

def pool7 : Array CpInfo := pool [(1, .methodref 2 3), (0, .class_ 4), (0, .nameAndType 5 6), (0, u "java/lang/Object"), (0, u "<init>"), (0, u "()V"), (2, .fieldref 10 11), (0, .class_ 12), (0, .nameAndType 13 14), (0, u "java/lang/String"), (0, u "value"), (0, u "[B"), (0, .fieldref 10 16), (0, .nameAndType 17 18), (0, u "coder"), (0, u "B"), (2, u "hash"), (0, u "I"), (2, u "hashIsZero"), (0, u "Z"), (11, .fieldref 10 39), (0, .nameAndType 40 26), (0, u "COMPACT_STRINGS"), (12, u "toBytes"), (53, .class_ 109), (1, u "java/lang/StringLatin1"), (32, u "()Z"), (66, .methodref 10 210), (0, .nameAndType 5 211), (0, u "([BB)V"), (157, u "(C)Z"), (171, .methodref 107 542), (0, .nameAndType 543 544), (0, u "equals"), (0, u "([B[B)Z"), (28, u "(Ljava/lang/Object;)Z"), (1, .class_ 576), (0, u "java/lang/CharSequence"), (22, u "CASE_INSENSITIVE_ORDER"), (0, u "Ljava/util/Comparator;"), (91, u "isEmpty"), (89, u "valueOf"), (0, u "(C)Ljava/lang/String;"), (231, .methodref 107 1016), (0, .nameAndType 1017 369), (0, u "canEncode"), (0, .methodref 107 1019), (0, .nameAndType 53 1020), (0, u "(C)[B"), (80, u "serialPersistentFields"), (0, u "[Ljava/io/ObjectStreamField;"), (0, .class_ 1104), (0, u "java/lang/String$CaseInsensitiveComparator"), (1, .class_ 1107), (0, u "java/io/Serializable"), (0, .class_ 1109), (0, u "java/lang/Comparable"), (0, .class_ 1111), (0, u "java/lang/constant/Constable"), (0, .class_ 1113), (0, u "java/lang/constant/ConstantDesc"), (2, u "serialVersionUID"), (0, u "J"), (3, u "REPL"), (0, u "C"), (2, u "LATIN1"), (1, u "UTF16")] 323

def k7m0 : Method := { name := "<init>", desc := "()V", sig := { parameters := [], returnType := none }, accessFlags := 1, code := none }
def k7c1 : Code := { maxStack := 1, maxLocals := 1, code := jdk_42_method_55_code, exceptionTable := #[], attributes := #[] }
def k7m1 : Method := { name := "isEmpty", desc := "()Z", sig := { parameters := [], returnType := some .boolean }, accessFlags := 1, code := some k7c1 }
def k7c2 : Code := { maxStack := 2, maxLocals := 3, code := jdk_42_method_66_code, exceptionTable := #[], attributes := #[] }
def k7m2 : Method := { name := "equals", desc := "(Ljava/lang/Object;)Z", sig := { parameters := [(.object "java/lang/Object")], returnType := some .boolean }, accessFlags := 1, code := some k7c2 }
def k7c3 : Code := { maxStack := 4, maxLocals := 1, code := jdk_42_method_139_code, exceptionTable := #[], attributes := #[] }
def k7m3 : Method := { name := "valueOf", desc := "(C)Ljava/lang/String;", sig := { parameters := [.char], returnType := some (.object "java/lang/String") }, accessFlags := 9, code := some k7c3 }
def k7c4 : Code := { maxStack := 2, maxLocals := 3, code := jdk_42_method_151_code, exceptionTable := #[], attributes := #[] }
def k7m4 : Method := { name := "<init>", desc := "([BB)V", sig := { parameters := [(.array .byte), .byte], returnType := none }, accessFlags := 0, code := some k7c4 }
/-- java/lang/String -/
def k7 : Class := { plain "java/lang/String" (some 0) with
  accessFlags := 49
  interfaces := #[2, 3, 4, 5, 6]
  cf := some (fileOf pool7 10 #[.nestMembers #[1103]] #[{ accessFlags := 1, nameIndex := 5, descriptorIndex := 6, attributes := #[] }, { accessFlags := 1, nameIndex := 692, descriptorIndex := 142, attributes := #[] }, { accessFlags := 1, nameIndex := 543, descriptorIndex := 573, attributes := #[] }, { accessFlags := 9, nameIndex := 782, descriptorIndex := 783, attributes := #[] }, { accessFlags := 0, nameIndex := 5, descriptorIndex := 211, attributes := #[] }] 49 2 #[1106, 1108, 575, 1110, 1112] #[{ accessFlags := 18, nameIndex := 13, descriptorIndex := 14, attributes := #[] }, { accessFlags := 18, nameIndex := 17, descriptorIndex := 18, attributes := #[] }, { accessFlags := 2, nameIndex := 21, descriptorIndex := 22, attributes := #[] }, { accessFlags := 2, nameIndex := 25, descriptorIndex := 26, attributes := #[] }, { accessFlags := 26, nameIndex := 1116, descriptorIndex := 1117, attributes := #[] }, { accessFlags := 24, nameIndex := 40, descriptorIndex := 26, attributes := #[] }, { accessFlags := 26, nameIndex := 1101, descriptorIndex := 1102, attributes := #[] }, { accessFlags := 26, nameIndex := 1121, descriptorIndex := 1122, attributes := #[] }, { accessFlags := 25, nameIndex := 599, descriptorIndex := 600, attributes := #[] }, { accessFlags := 24, nameIndex := 1125, descriptorIndex := 18, attributes := #[] }, { accessFlags := 24, nameIndex := 1127, descriptorIndex := 18, attributes := #[] }])
  fields := #[{ name := "value", type := (.array .byte), accessFlags := 18, slot := 0, constantValue := 0 }, { name := "coder", type := .byte, accessFlags := 18, slot := 1, constantValue := 0 }, { name := "hash", type := .int, accessFlags := 2, slot := 2, constantValue := 0 }, { name := "hashIsZero", type := .boolean, accessFlags := 2, slot := 3, constantValue := 0 }, { name := "serialVersionUID", type := .long, accessFlags := 26, slot := 0, constantValue := 0 }, { name := "COMPACT_STRINGS", type := .boolean, accessFlags := 24, slot := 1, constantValue := 0 }, { name := "serialPersistentFields", type := (.array (.object "java/io/ObjectStreamField")), accessFlags := 26, slot := 2, constantValue := 0 }, { name := "REPL", type := .char, accessFlags := 26, slot := 3, constantValue := 0 }, { name := "CASE_INSENSITIVE_ORDER", type := (.object "java/util/Comparator"), accessFlags := 25, slot := 4, constantValue := 0 }, { name := "LATIN1", type := .byte, accessFlags := 24, slot := 5, constantValue := 0 }, { name := "UTF16", type := .byte, accessFlags := 24, slot := 6, constantValue := 0 }]
  methods := #[k7m0, k7m1, k7m2, k7m3, k7m4]
  instanceTypes := #[(.array .byte), .byte, .int, .boolean]
  staticTypes := #[.long, .boolean, (.array (.object "java/io/ObjectStreamField")), .char, (.object "java/util/Comparator"), .byte, .byte]
  resolved := Array.replicate 1451 none
  statics := some 0 }

def pool8 : Array CpInfo := pool [(4, .class_ 6), (1, u "java/lang/Object"), (0, u "<init>"), (0, u "()V"), (5, .class_ 16), (1, u "java/lang/StringLatin1"), (73, u "canEncode"), (14, u "(C)Z"), (15, u "$assertionsDisabled"), (0, u "Z"), (98, .class_ 223), (1, u "java/lang/StringLatin1$LinesSpliterator"), (57, u "equals"), (0, u "([B[B)Z"), (97, u "toBytes"), (1, u "(C)[B"), (7, .class_ 391), (0, u "java/lang/StringLatin1$CharsSpliterator")] 3

def k8m0 : Method := { name := "<init>", desc := "()V", sig := { parameters := [], returnType := none }, accessFlags := 0, code := none }
def k8c1 : Code := { maxStack := 2, maxLocals := 1, code := jdk_43_method_3_code, exceptionTable := #[], attributes := #[] }
def k8m1 : Method := { name := "canEncode", desc := "(C)Z", sig := { parameters := [.char], returnType := some .boolean }, accessFlags := 9, code := some k8c1 }
def k8c2 : Code := { maxStack := 3, maxLocals := 3, code := jdk_43_method_13_code, exceptionTable := #[], attributes := #[] }
def k8m2 : Method := { name := "equals", desc := "([B[B)Z", sig := { parameters := [(.array .byte), (.array .byte)], returnType := some .boolean }, accessFlags := 9, code := some k8c2 }
def k8c3 : Code := { maxStack := 4, maxLocals := 1, code := jdk_43_method_46_code, exceptionTable := #[], attributes := #[] }
def k8m3 : Method := { name := "toBytes", desc := "(C)[B", sig := { parameters := [.char], returnType := some (.array .byte) }, accessFlags := 9, code := some k8c3 }
/-- java/lang/StringLatin1 -/
def k8 : Class := { plain "java/lang/StringLatin1" (some 0) with
  accessFlags := 48
  interfaces := #[]
  cf := some (fileOf pool8 14 #[.nestMembers #[390, 221]] #[{ accessFlags := 0, nameIndex := 7, descriptorIndex := 8, attributes := #[] }, { accessFlags := 9, nameIndex := 90, descriptorIndex := 105, attributes := #[] }, { accessFlags := 9, nameIndex := 281, descriptorIndex := 282, attributes := #[] }, { accessFlags := 9, nameIndex := 380, descriptorIndex := 382, attributes := #[] }] 48 4 #[] #[{ accessFlags := 4120, nameIndex := 121, descriptorIndex := 122, attributes := #[] }])
  fields := #[{ name := "$assertionsDisabled", type := .boolean, accessFlags := 4120, slot := 0, constantValue := 0 }]
  methods := #[k8m0, k8m1, k8m2, k8m3]
  instanceTypes := #[]
  staticTypes := #[.boolean]
  resolved := Array.replicate 395 none
  statics := none }

def pool9 : Array CpInfo := pool [(1, .methodref 2 3), (0, .class_ 4), (0, .nameAndType 5 6), (0, u "java/lang/Object"), (0, u "<init>"), (0, u "()V"), (0, .class_ 8), (0, u "java/lang/String"), (0, .fieldref 10 11), (0, .class_ 12), (0, .nameAndType 13 14), (0, u "com/example/stanzacall/stanzacall/xml/Namespaces"), (0, u "prefixes"), (0, u "[Ljava/lang/String;"), (0, .fieldref 10 16), (0, .nameAndType 17 14), (0, u "uris"), (0, .fieldref 10 19), (0, .nameAndType 20 21), (0, u "scopes"), (0, u "[I"), (0, .fieldref 10 23), (0, .nameAndType 24 25), (0, u "depth"), (0, u "I"), (6, .fieldref 10 33), (0, .nameAndType 34 25), (0, u "count"), (0, .methodref 7 36), (0, .nameAndType 37 38), (0, u "equals"), (0, u "(Ljava/lang/Object;)Z"), (10, .string 50), (0, u "http://www.w3.org/XML/1998/namespace"), (0, .string 52), (0, u "xml"), (0, .string 54), (0, u "xmlns"), (0, .string 56), (0, u "http://www.w3.org/2000/xmlns/"), (2, .methodref 7 60), (0, .nameAndType 61 62), (0, u "isEmpty"), (0, u "()Z"), (6, .string 70), (0, u ""), (3, u "(Ljava/lang/String;)Ljava/lang/String;"), (2, u "open"), (1, u "close"), (0, u "declare"), (0, u "(Ljava/lang/String;Ljava/lang/String;)V"), (1, u "uri")] 17

def k9c0 : Code := { maxStack := 2, maxLocals := 1, code := prog_73_method_1_code, exceptionTable := #[], attributes := #[] }
def k9m0 : Method := { name := "<init>", desc := "()V", sig := { parameters := [], returnType := none }, accessFlags := 0, code := some k9c0 }
def k9c1 : Code := { maxStack := 5, maxLocals := 1, code := prog_73_method_2_code, exceptionTable := #[], attributes := #[] }
def k9m1 : Method := { name := "open", desc := "()V", sig := { parameters := [], returnType := none }, accessFlags := 0, code := some k9c1 }
def k9c2 : Code := { maxStack := 5, maxLocals := 1, code := prog_73_method_3_code, exceptionTable := #[], attributes := #[] }
def k9m2 : Method := { name := "close", desc := "()V", sig := { parameters := [], returnType := none }, accessFlags := 0, code := some k9c2 }
def k9c3 : Code := { maxStack := 4, maxLocals := 4, code := prog_73_method_4_code, exceptionTable := #[], attributes := #[] }
def k9m3 : Method := { name := "declare", desc := "(Ljava/lang/String;Ljava/lang/String;)V", sig := { parameters := [(.object "java/lang/String"), (.object "java/lang/String")], returnType := none }, accessFlags := 0, code := some k9c3 }
def k9c4 : Code := { maxStack := 2, maxLocals := 3, code := prog_73_method_5_code, exceptionTable := #[], attributes := #[] }
def k9m4 : Method := { name := "uri", desc := "(Ljava/lang/String;)Ljava/lang/String;", sig := { parameters := [(.object "java/lang/String")], returnType := some (.object "java/lang/String") }, accessFlags := 0, code := some k9c4 }
/-- com/example/stanzacall/stanzacall/xml/Namespaces -/
def k9 : Class := { plain "com/example/stanzacall/stanzacall/xml/Namespaces" (some 0) with
  accessFlags := 48
  interfaces := #[]
  cf := some (fileOf pool9 10 #[] #[{ accessFlags := 0, nameIndex := 5, descriptorIndex := 6, attributes := #[] }, { accessFlags := 0, nameIndex := 77, descriptorIndex := 6, attributes := #[] }, { accessFlags := 0, nameIndex := 79, descriptorIndex := 6, attributes := #[] }, { accessFlags := 0, nameIndex := 80, descriptorIndex := 81, attributes := #[] }, { accessFlags := 0, nameIndex := 83, descriptorIndex := 74, attributes := #[] }] 48 2 #[] #[{ accessFlags := 2, nameIndex := 13, descriptorIndex := 14, attributes := #[] }, { accessFlags := 2, nameIndex := 17, descriptorIndex := 14, attributes := #[] }, { accessFlags := 2, nameIndex := 34, descriptorIndex := 25, attributes := #[] }, { accessFlags := 2, nameIndex := 20, descriptorIndex := 21, attributes := #[] }, { accessFlags := 2, nameIndex := 24, descriptorIndex := 25, attributes := #[] }])
  fields := #[{ name := "prefixes", type := (.array (.object "java/lang/String")), accessFlags := 2, slot := 0, constantValue := 0 }, { name := "uris", type := (.array (.object "java/lang/String")), accessFlags := 2, slot := 1, constantValue := 0 }, { name := "count", type := .int, accessFlags := 2, slot := 2, constantValue := 0 }, { name := "scopes", type := (.array .int), accessFlags := 2, slot := 3, constantValue := 0 }, { name := "depth", type := .int, accessFlags := 2, slot := 4, constantValue := 0 }]
  methods := #[k9m0, k9m1, k9m2, k9m3, k9m4]
  instanceTypes := #[(.array (.object "java/lang/String")), (.array (.object "java/lang/String")), .int, (.array .int), .int]
  staticTypes := #[]
  resolved := Array.replicate 101 none
  statics := none }

def pool10 : Array CpInfo := pool [(2, .class_ 4), (1, u "java/lang/Object"), (0, u "<init>"), (0, u "()V"), (17, .class_ 26), (1, u "jdk/internal/util/Preconditions"), (28, .class_ 56), (0, u "jdk/internal/util/Preconditions$4"), (57, .class_ 115), (0, u "jdk/internal/util/Preconditions$1"), (7, u "SIOOBE_FORMATTER"), (0, u "Ljava/util/function/BiFunction;"), (0, .class_ 126), (0, u "jdk/internal/util/Preconditions$2"), (3, u "AIOOBE_FORMATTER"), (0, .class_ 132), (0, u "jdk/internal/util/Preconditions$3"), (3, u "IOOBE_FORMATTER")] 57

def k10m0 : Method := { name := "<init>", desc := "()V", sig := { parameters := [], returnType := none }, accessFlags := 1, code := none }
/-- jdk/internal/util/Preconditions -/
def k10 : Class := { plain "jdk/internal/util/Preconditions" (some 0) with
  accessFlags := 33
  interfaces := #[]
  cf := some (fileOf pool10 24 #[.nestMembers #[55, 131, 125, 114]] #[{ accessFlags := 1, nameIndex := 5, descriptorIndex := 6, attributes := #[] }] 33 2 #[] #[{ accessFlags := 25, nameIndex := 123, descriptorIndex := 124, attributes := #[] }, { accessFlags := 25, nameIndex := 130, descriptorIndex := 124, attributes := #[] }, { accessFlags := 25, nameIndex := 136, descriptorIndex := 124, attributes := #[] }])
  fields := #[{ name := "SIOOBE_FORMATTER", type := (.object "java/util/function/BiFunction"), accessFlags := 25, slot := 0, constantValue := 0 }, { name := "AIOOBE_FORMATTER", type := (.object "java/util/function/BiFunction"), accessFlags := 25, slot := 1, constantValue := 0 }, { name := "IOOBE_FORMATTER", type := (.object "java/util/function/BiFunction"), accessFlags := 25, slot := 2, constantValue := 0 }]
  methods := #[k10m0]
  instanceTypes := #[]
  staticTypes := #[(.object "java/util/function/BiFunction"), (.object "java/util/function/BiFunction"), (.object "java/util/function/BiFunction")]
  resolved := Array.replicate 194 none
  statics := some 1 }

def pool11 : Array CpInfo := pool [(9, u "<init>"), (6, .class_ 18), (1, u "java/lang/Object"), (0, u "()V"), (1, .class_ 23), (1, u "jdk/internal/util/ArraysSupport"), (0, u "LOG2_ARRAY_LONG_INDEX_SCALE"), (0, u "I"), (2, u "U"), (0, u "Ljdk/internal/misc/Unsafe;"), (8, u "BIG_ENDIAN"), (0, u "Z"), (8, u "LOG2_BYTE_BIT_SIZE"), (4, u "LOG2_ARRAY_INT_INDEX_SCALE"), (54, u "JLA"), (0, u "Ljdk/internal/access/JavaLangAccess;"), (11, u "LOG2_ARRAY_BOOLEAN_INDEX_SCALE"), (9, u "LOG2_ARRAY_BYTE_INDEX_SCALE"), (5, u "LOG2_ARRAY_CHAR_INDEX_SCALE"), (5, u "LOG2_ARRAY_SHORT_INDEX_SCALE"), (18, u "LOG2_ARRAY_FLOAT_INDEX_SCALE"), (24, u "LOG2_ARRAY_DOUBLE_INDEX_SCALE"), (89, u "T_BOOLEAN"), (2, u "T_CHAR"), (1, u "T_FLOAT"), (1, u "T_DOUBLE"), (1, u "T_BYTE"), (1, u "T_SHORT"), (1, u "T_INT"), (1, u "T_LONG"), (1, u "SOFT_MAX_ARRAY_LENGTH")] 83

def k11m0 : Method := { name := "<init>", desc := "()V", sig := { parameters := [], returnType := none }, accessFlags := 2, code := none }
/-- jdk/internal/util/ArraysSupport -/
def k11 : Class := { plain "jdk/internal/util/ArraysSupport" (some 0) with
  accessFlags := 33
  interfaces := #[]
  cf := some (fileOf pool11 21 #[] #[{ accessFlags := 2, nameIndex := 9, descriptorIndex := 19, attributes := #[] }] 33 16 #[] #[{ accessFlags := 24, nameIndex := 28, descriptorIndex := 29, attributes := #[] }, { accessFlags := 26, nameIndex := 38, descriptorIndex := 39, attributes := #[] }, { accessFlags := 25, nameIndex := 121, descriptorIndex := 25, attributes := #[] }, { accessFlags := 25, nameIndex := 131, descriptorIndex := 25, attributes := #[] }, { accessFlags := 25, nameIndex := 137, descriptorIndex := 25, attributes := #[] }, { accessFlags := 25, nameIndex := 143, descriptorIndex := 25, attributes := #[] }, { accessFlags := 25, nameIndex := 53, descriptorIndex := 25, attributes := #[] }, { accessFlags := 25, nameIndex := 24, descriptorIndex := 25, attributes := #[] }, { accessFlags := 25, nameIndex := 162, descriptorIndex := 25, attributes := #[] }, { accessFlags := 25, nameIndex := 187, descriptorIndex := 25, attributes := #[] }, { accessFlags := 26, nameIndex := 48, descriptorIndex := 25, attributes := #[] }, { accessFlags := 25, nameIndex := 277, descriptorIndex := 25, attributes := #[] }, { accessFlags := 25, nameIndex := 280, descriptorIndex := 25, attributes := #[] }, { accessFlags := 25, nameIndex := 282, descriptorIndex := 25, attributes := #[] }, { accessFlags := 25, nameIndex := 284, descriptorIndex := 25, attributes := #[] }, { accessFlags := 25, nameIndex := 286, descriptorIndex := 25, attributes := #[] }, { accessFlags := 25, nameIndex := 288, descriptorIndex := 25, attributes := #[] }, { accessFlags := 25, nameIndex := 290, descriptorIndex := 25, attributes := #[] }, { accessFlags := 25, nameIndex := 292, descriptorIndex := 25, attributes := #[] }, { accessFlags := 26, nameIndex := 108, descriptorIndex := 109, attributes := #[] }, { accessFlags := 25, nameIndex := 294, descriptorIndex := 25, attributes := #[] }])
  fields := #[{ name := "U", type := (.object "jdk/internal/misc/Unsafe"), accessFlags := 24, slot := 0, constantValue := 0 }, { name := "BIG_ENDIAN", type := .boolean, accessFlags := 26, slot := 1, constantValue := 0 }, { name := "LOG2_ARRAY_BOOLEAN_INDEX_SCALE", type := .int, accessFlags := 25, slot := 2, constantValue := 0 }, { name := "LOG2_ARRAY_BYTE_INDEX_SCALE", type := .int, accessFlags := 25, slot := 3, constantValue := 0 }, { name := "LOG2_ARRAY_CHAR_INDEX_SCALE", type := .int, accessFlags := 25, slot := 4, constantValue := 0 }, { name := "LOG2_ARRAY_SHORT_INDEX_SCALE", type := .int, accessFlags := 25, slot := 5, constantValue := 0 }, { name := "LOG2_ARRAY_INT_INDEX_SCALE", type := .int, accessFlags := 25, slot := 6, constantValue := 0 }, { name := "LOG2_ARRAY_LONG_INDEX_SCALE", type := .int, accessFlags := 25, slot := 7, constantValue := 0 }, { name := "LOG2_ARRAY_FLOAT_INDEX_SCALE", type := .int, accessFlags := 25, slot := 8, constantValue := 0 }, { name := "LOG2_ARRAY_DOUBLE_INDEX_SCALE", type := .int, accessFlags := 25, slot := 9, constantValue := 0 }, { name := "LOG2_BYTE_BIT_SIZE", type := .int, accessFlags := 26, slot := 10, constantValue := 0 }, { name := "T_BOOLEAN", type := .int, accessFlags := 25, slot := 11, constantValue := 0 }, { name := "T_CHAR", type := .int, accessFlags := 25, slot := 12, constantValue := 0 }, { name := "T_FLOAT", type := .int, accessFlags := 25, slot := 13, constantValue := 0 }, { name := "T_DOUBLE", type := .int, accessFlags := 25, slot := 14, constantValue := 0 }, { name := "T_BYTE", type := .int, accessFlags := 25, slot := 15, constantValue := 0 }, { name := "T_SHORT", type := .int, accessFlags := 25, slot := 16, constantValue := 0 }, { name := "T_INT", type := .int, accessFlags := 25, slot := 17, constantValue := 0 }, { name := "T_LONG", type := .int, accessFlags := 25, slot := 18, constantValue := 0 }, { name := "JLA", type := (.object "jdk/internal/access/JavaLangAccess"), accessFlags := 26, slot := 19, constantValue := 0 }, { name := "SOFT_MAX_ARRAY_LENGTH", type := .int, accessFlags := 25, slot := 20, constantValue := 0 }]
  methods := #[k11m0]
  instanceTypes := #[]
  staticTypes := #[(.object "jdk/internal/misc/Unsafe"), .boolean, .int, .int, .int, .int, .int, .int, .int, .int, .int, .int, .int, .int, .int, .int, .int, .int, .int, (.object "jdk/internal/access/JavaLangAccess"), .int]
  resolved := Array.replicate 378 none
  statics := none }

def pool12 : Array CpInfo := pool [(1, u "java/lang/Cloneable"), (0, .class_ 1), (0, u "java/lang/Object"), (0, .class_ 3)] 3

/-- java/lang/Cloneable -/
def k12 : Class := { plain "java/lang/Cloneable" (some 0) with
  accessFlags := 1537
  interfaces := #[]
  cf := some (fileOf pool12 2 #[] #[] 1537 4 #[] #[])
  fields := #[]
  methods := #[]
  instanceTypes := #[]
  staticTypes := #[]
  resolved := Array.replicate 8 none
  statics := none }

/-- the primitive byte -/
def k13 : Class := { plain "byte" none with kind := .primitive 'B', accessFlags := 0x411 }
/-- [B -/
def k14 : Class := { plain "[B" (some 0) with kind := .array 13 .byte, interfaces := #[12, 2], accessFlags := 1041 }

/-- the primitive int -/
def k15 : Class := { plain "int" none with kind := .primitive 'I', accessFlags := 0x411 }
/-- [I -/
def k16 : Class := { plain "[I" (some 0) with kind := .array 15 .int, interfaces := #[12, 2], accessFlags := 1041 }

/-- [Ljava/lang/String; -/
def k17 : Class := { plain "[Ljava/lang/String;" (some 0) with kind := .array 7 (.object "java/lang/String"), interfaces := #[12, 2], accessFlags := 1041 }

def heap : Heap := #[{ cls := 7, slots := #[.long 0, .int 1, .null, .int 0, .null, .int 0, .int 0], vm := .statics 7 },
  { cls := 10, slots := #[.null, .null, .null], vm := .statics 10 }]
def classes : Array Class := #[k0, k1, k2, k3, k4, k5, k6, k7, k8, k9, k10, k11, k12, k13, k14, k15, k16, k17]
def interned : List (Array UInt16 × Addr) := []
def slotsUsed : Nat := 10
def theMethod : MethodId := ⟨1, 1⟩
def args0 : Array Value := #[.int 5, .int 6, .int 7, .int 8, .int 9]
def aboutOver (below : List Frame) : State where
  vm := { classes := classes, interned := interned.toArray }
  heap := heap
  slotsUsed := slotsUsed
  threads := #[{ frames := .invoking theMethod args0 :: below }]
def below0 : List Frame := [.native { method := ⟨0, 0⟩, args := #[] }]
def about1 : State := aboutOver below0
def p0 : Program := .bare "" "" ""
def e0 : Env := launch0.env 0 0 0
theorem w_frames : about1.frames = Frame.invoking theMethod args0 :: below0 := rfl
set_option maxRecDepth 65536 in
theorem w_args : argsFit about1.vm theMethod args0 = true := by decide +kernel
set_option maxRecDepth 65536 in
theorem w_heap : heapFits about1 = true := by decide +kernel
set_option maxRecDepth 65536 in
theorem w_runnable : about1.curStatus? = some .runnable := by decide +kernel
set_option maxRecDepth 65536 in
theorem w_alone : about1.alone = true := by decide +kernel
set_option maxRecDepth 65536 in
theorem w_named : about1.methodNamed? x = some theMethod := by decide +kernel
set_option maxRecDepth 65536 in
theorem w_hears : about1.hears theMethod below0 = true := by decide +kernel
set_option maxRecDepth 65536 in
theorem w_ripe : about1.ripe theMethod args0 below0 = true := by decide +kernel
theorem w_running : about1.status = .running := rfl
set_option maxRecDepth 65536 in
theorem w_room : about1.hasRoom e0.platform room_1 = true :=
  launch0.hasRoom_least _ room_1 (by decide +kernel) (by decide +kernel) (by decide +kernel) (by decide +kernel) (by decide +kernel) (by decide +kernel)
theorem allAtoms_all (ts : List Jvm.Cond) (a : Array Jvm.Value) (st : Jvm.State) : (allAtoms ts).before a st = ts.all (fun c => c.before a st) := by
  induction ts with
  | nil => rfl
  | cons c t ih =>
    show (Jvm.Cond.and c (allAtoms t)).before a st = _
    rw [Jvm.Cond.before_and, ih, List.all_cons]
def words1 : List Jvm.Cond := Jvm.Cond.code x code maxLocals ret :: tables_1
/-- a 'code' word, met by the world's own term for the bytes: nothing is compared byte by byte -/
theorem code_word {y : MethodName} {bytes : ByteArray} {mx : Nat} {rt : Option FieldType} {a : Array Value} {s : State} {m : MethodId} {meth : Method} {c : Code} (h1 : s.methodNamed? y = some m) (h2 : s.vm.method? m = some meth) (h3 : meth.code = some c) (h4 : c.code = bytes)
    (h5 : (c.maxLocals == mx && c.exceptionTable.isEmpty && decide (c.maxStack ≤ mostOperands) && decide (meth.sig.returnType = rt) && !meth.locks && decide (parseMethodDescriptor y.desc = some meth.sig)) = true) : (Jvm.Cond.code y bytes mx rt).before a s = true := by
  simp only [Bool.and_eq_true, beq_iff_eq, Bool.not_eq_true', decide_eq_true_eq] at h5
  obtain ⟨⟨⟨⟨⟨g1, g2⟩, g3⟩, g4⟩, g5⟩, g6⟩ := h5
  simp [Cond.before, Cond.holds, Cond.value, h1, h2, h3, h4, g1, g2, g3, g4, g5, g6]
def isCode : Jvm.Cond → Bool
  | .code _ _ _ _ => true
  | _ => false
theorem all_split {L : List Jvm.Cond} {P : Jvm.Cond → Bool} (h1 : L.all (fun c => isCode c || P c) = true) (h2 : ∀ c ∈ L.filter isCode, P c = true) : L.all P = true := by
  refine List.all_eq_true.mpr fun c hc => ?_
  have h := List.all_eq_true.mp h1 c hc
  rcases Bool.eq_false_or_eq_true (isCode c) with hi | hi
  · exact h2 c (List.mem_filter.mpr ⟨hc, hi⟩)
  · simpa [hi] using h
set_option maxRecDepth 65536 in
theorem w_c0 : (Jvm.Cond.code x code maxLocals ret).before args0 about1 = true := code_word (m := ⟨1, 1⟩) (meth := k1m1) (c := k1c1) (by decide +kernel) rfl rfl rfl (by decide +kernel)
set_option maxRecDepth 65536 in
theorem w_c1 : (Jvm.Cond.code ({ cls := "java/lang/String", name := "valueOf", desc := "(C)Ljava/lang/String;" } : Jvm.MethodName) jdk_42_method_139_code (1 : Nat) (Option.some (Jvm.ClassFile.FieldType.object "java/lang/String"))).before args0 about1 = true := code_word (m := ⟨7, 3⟩) (meth := k7m3) (c := k7c3) (by decide +kernel) rfl rfl rfl (by decide +kernel)
set_option maxRecDepth 65536 in
theorem w_c2 : (Jvm.Cond.code ({ cls := "java/lang/StringLatin1", name := "canEncode", desc := "(C)Z" } : Jvm.MethodName) jdk_43_method_3_code (1 : Nat) (Option.some Jvm.ClassFile.FieldType.boolean)).before args0 about1 = true := code_word (m := ⟨8, 1⟩) (meth := k8m1) (c := k8c1) (by decide +kernel) rfl rfl rfl (by decide +kernel)
set_option maxRecDepth 65536 in
theorem w_c3 : (Jvm.Cond.code ({ cls := "java/lang/StringLatin1", name := "toBytes", desc := "(C)[B" } : Jvm.MethodName) jdk_43_method_46_code (1 : Nat) (Option.some (Jvm.ClassFile.FieldType.array Jvm.ClassFile.FieldType.byte))).before args0 about1 = true := code_word (m := ⟨8, 3⟩) (meth := k8m3) (c := k8c3) (by decide +kernel) rfl rfl rfl (by decide +kernel)
set_option maxRecDepth 65536 in
theorem w_c4 : (Jvm.Cond.code ({ cls := "java/lang/String", name := "<init>", desc := "([BB)V" } : Jvm.MethodName) jdk_42_method_151_code (3 : Nat) (Option.none : Option Jvm.ClassFile.FieldType)).before args0 about1 = true := code_word (m := ⟨7, 4⟩) (meth := k7m4) (c := k7c4) (by decide +kernel) rfl rfl rfl (by decide +kernel)
set_option maxRecDepth 65536 in
theorem w_c5 : (Jvm.Cond.code ({ cls := "java/lang/Object", name := "<init>", desc := "()V" } : Jvm.MethodName) object_method_1_code (1 : Nat) (Option.none : Option Jvm.ClassFile.FieldType)).before args0 about1 = true := code_word (m := ⟨0, 0⟩) (meth := k0m0) (c := k0c0) (by decide +kernel) rfl rfl rfl (by decide +kernel)
set_option maxRecDepth 65536 in
theorem w_c6 : (Jvm.Cond.code ({ cls := "com/example/stanzacall/stanzacall/xml/Namespaces", name := "<init>", desc := "()V" } : Jvm.MethodName) prog_73_method_1_code (1 : Nat) (Option.none : Option Jvm.ClassFile.FieldType)).before args0 about1 = true := code_word (m := ⟨9, 0⟩) (meth := k9m0) (c := k9c0) (by decide +kernel) rfl rfl rfl (by decide +kernel)
set_option maxRecDepth 65536 in
theorem w_c7 : (Jvm.Cond.code ({ cls := "com/example/stanzacall/stanzacall/xml/Namespaces", name := "open", desc := "()V" } : Jvm.MethodName) prog_73_method_2_code (1 : Nat) (Option.none : Option Jvm.ClassFile.FieldType)).before args0 about1 = true := code_word (m := ⟨9, 1⟩) (meth := k9m1) (c := k9c1) (by decide +kernel) rfl rfl rfl (by decide +kernel)
set_option maxRecDepth 65536 in
theorem w_c8 : (Jvm.Cond.code ({ cls := "com/example/stanzacall/stanzacall/xml/Namespaces", name := "declare", desc := "(Ljava/lang/String;Ljava/lang/String;)V" } : Jvm.MethodName) prog_73_method_4_code (4 : Nat) (Option.none : Option Jvm.ClassFile.FieldType)).before args0 about1 = true := code_word (m := ⟨9, 3⟩) (meth := k9m3) (c := k9c3) (by decide +kernel) rfl rfl rfl (by decide +kernel)
set_option maxRecDepth 65536 in
theorem w_c9 : (Jvm.Cond.code ({ cls := "java/lang/String", name := "equals", desc := "(Ljava/lang/Object;)Z" } : Jvm.MethodName) jdk_42_method_66_code (3 : Nat) (Option.some Jvm.ClassFile.FieldType.boolean)).before args0 about1 = true := code_word (m := ⟨7, 2⟩) (meth := k7m2) (c := k7c2) (by decide +kernel) rfl rfl rfl (by decide +kernel)
set_option maxRecDepth 65536 in
theorem w_c10 : (Jvm.Cond.code ({ cls := "java/lang/StringLatin1", name := "equals", desc := "([B[B)Z" } : Jvm.MethodName) jdk_43_method_13_code (3 : Nat) (Option.some Jvm.ClassFile.FieldType.boolean)).before args0 about1 = true := code_word (m := ⟨8, 2⟩) (meth := k8m2) (c := k8c2) (by decide +kernel) rfl rfl rfl (by decide +kernel)
set_option maxRecDepth 65536 in
theorem w_c11 : (Jvm.Cond.code ({ cls := "java/lang/String", name := "isEmpty", desc := "()Z" } : Jvm.MethodName) jdk_42_method_55_code (1 : Nat) (Option.some Jvm.ClassFile.FieldType.boolean)).before args0 about1 = true := code_word (m := ⟨7, 1⟩) (meth := k7m1) (c := k7c1) (by decide +kernel) rfl rfl rfl (by decide +kernel)
set_option maxRecDepth 65536 in
theorem w_c12 : (Jvm.Cond.code ({ cls := "com/example/stanzacall/stanzacall/xml/Namespaces", name := "uri", desc := "(Ljava/lang/String;)Ljava/lang/String;" } : Jvm.MethodName) prog_73_method_5_code (3 : Nat) (Option.some (Jvm.ClassFile.FieldType.object "java/lang/String"))).before args0 about1 = true := code_word (m := ⟨9, 4⟩) (meth := k9m4) (c := k9c4) (by decide +kernel) rfl rfl rfl (by decide +kernel)
set_option maxRecDepth 65536 in
theorem w_c13 : (Jvm.Cond.code ({ cls := "com/example/stanzacall/stanzacall/xml/Namespaces", name := "close", desc := "()V" } : Jvm.MethodName) prog_73_method_3_code (1 : Nat) (Option.none : Option Jvm.ClassFile.FieldType)).before args0 about1 = true := code_word (m := ⟨9, 2⟩) (meth := k9m2) (c := k9c2) (by decide +kernel) rfl rfl rfl (by decide +kernel)
def codes1 : List Jvm.Cond := [Jvm.Cond.code x code maxLocals ret, Jvm.Cond.code ({ cls := "java/lang/String", name := "valueOf", desc := "(C)Ljava/lang/String;" } : Jvm.MethodName) jdk_42_method_139_code (1 : Nat) (Option.some (Jvm.ClassFile.FieldType.object "java/lang/String")), Jvm.Cond.code ({ cls := "java/lang/StringLatin1", name := "canEncode", desc := "(C)Z" } : Jvm.MethodName) jdk_43_method_3_code (1 : Nat) (Option.some Jvm.ClassFile.FieldType.boolean), Jvm.Cond.code ({ cls := "java/lang/StringLatin1", name := "toBytes", desc := "(C)[B" } : Jvm.MethodName) jdk_43_method_46_code (1 : Nat) (Option.some (Jvm.ClassFile.FieldType.array Jvm.ClassFile.FieldType.byte)), Jvm.Cond.code ({ cls := "java/lang/String", name := "<init>", desc := "([BB)V" } : Jvm.MethodName) jdk_42_method_151_code (3 : Nat) (Option.none : Option Jvm.ClassFile.FieldType), Jvm.Cond.code ({ cls := "java/lang/Object", name := "<init>", desc := "()V" } : Jvm.MethodName) object_method_1_code (1 : Nat) (Option.none : Option Jvm.ClassFile.FieldType), Jvm.Cond.code ({ cls := "com/example/stanzacall/stanzacall/xml/Namespaces", name := "<init>", desc := "()V" } : Jvm.MethodName) prog_73_method_1_code (1 : Nat) (Option.none : Option Jvm.ClassFile.FieldType), Jvm.Cond.code ({ cls := "com/example/stanzacall/stanzacall/xml/Namespaces", name := "open", desc := "()V" } : Jvm.MethodName) prog_73_method_2_code (1 : Nat) (Option.none : Option Jvm.ClassFile.FieldType), Jvm.Cond.code ({ cls := "com/example/stanzacall/stanzacall/xml/Namespaces", name := "declare", desc := "(Ljava/lang/String;Ljava/lang/String;)V" } : Jvm.MethodName) prog_73_method_4_code (4 : Nat) (Option.none : Option Jvm.ClassFile.FieldType), Jvm.Cond.code ({ cls := "java/lang/String", name := "equals", desc := "(Ljava/lang/Object;)Z" } : Jvm.MethodName) jdk_42_method_66_code (3 : Nat) (Option.some Jvm.ClassFile.FieldType.boolean), Jvm.Cond.code ({ cls := "java/lang/StringLatin1", name := "equals", desc := "([B[B)Z" } : Jvm.MethodName) jdk_43_method_13_code (3 : Nat) (Option.some Jvm.ClassFile.FieldType.boolean), Jvm.Cond.code ({ cls := "java/lang/String", name := "isEmpty", desc := "()Z" } : Jvm.MethodName) jdk_42_method_55_code (1 : Nat) (Option.some Jvm.ClassFile.FieldType.boolean), Jvm.Cond.code ({ cls := "com/example/stanzacall/stanzacall/xml/Namespaces", name := "uri", desc := "(Ljava/lang/String;)Ljava/lang/String;" } : Jvm.MethodName) prog_73_method_5_code (3 : Nat) (Option.some (Jvm.ClassFile.FieldType.object "java/lang/String")), Jvm.Cond.code ({ cls := "com/example/stanzacall/stanzacall/xml/Namespaces", name := "close", desc := "()V" } : Jvm.MethodName) prog_73_method_3_code (1 : Nat) (Option.none : Option Jvm.ClassFile.FieldType)]
set_option maxRecDepth 65536 in
theorem codes_eq : words1.filter isCode = codes1 := rfl
theorem w_codes : ∀ c ∈ words1.filter isCode, c.before args0 about1 = true := by
  rw [codes_eq]
  intro c hc
  simp only [codes1, List.mem_cons, List.not_mem_nil, or_false] at hc
  rcases hc with rfl | rfl | rfl | rfl | rfl | rfl | rfl | rfl | rfl | rfl | rfl | rfl | rfl | rfl
  · exact w_c0
  · exact w_c1
  · exact w_c2
  · exact w_c3
  · exact w_c4
  · exact w_c5
  · exact w_c6
  · exact w_c7
  · exact w_c8
  · exact w_c9
  · exact w_c10
  · exact w_c11
  · exact w_c12
  · exact w_c13
set_option maxRecDepth 65536 in
theorem w_t1 : (words1.take 24).all (fun c => isCode c || c.before args0 about1) = true := by decide +kernel
set_option maxRecDepth 65536 in
theorem w_t2 : ((words1.drop 24).take 24).all (fun c => isCode c || c.before args0 about1) = true := by decide +kernel
set_option maxRecDepth 65536 in
theorem w_t3 : (((words1.drop 24).drop 24).take 24).all (fun c => isCode c || c.before args0 about1) = true := by decide +kernel
set_option maxRecDepth 65536 in
theorem w_t4 : (((words1.drop 24).drop 24).drop 24).all (fun c => isCode c || c.before args0 about1) = true := by decide +kernel
theorem w_tables : (allAtoms (Jvm.Cond.code x code maxLocals ret :: tables_1)).before args0 about1 = true := by
  rw [allAtoms_all]
  show words1.all (fun c => c.before args0 about1) = true
  refine all_split ?_ w_codes
  rw [← List.take_append_drop 24 words1, List.all_append, w_t1, ← List.take_append_drop 24 (words1.drop 24), List.all_append, w_t2, ← List.take_append_drop 24 ((words1.drop 24).drop 24), List.all_append, w_t3, w_t4]
  rfl
set_option maxRecDepth 65536 in
theorem w_rest : rest_1_c.before args0 about1 = true := by decide +kernel
set_option maxRecDepth 65536 in
theorem w_case : (Jvm.Cond.and given_1 narrow_1).before args0 about1 = true := by decide +kernel
set_option maxRecDepth 65536 in
theorem w_consts : constsHeld consts_1 about1 := Jvm.Lit.constsHeldB_iff.mp (by decide +kernel)
theorem w_applies : (headSpec (Jvm.Cond.code x code maxLocals ret :: tables_1) room_1).applies x e0.platform about1 = true :=
  (Spec.applies_iff w_frames).mpr ⟨w_running, w_runnable, w_alone, w_named, w_hears, w_ripe, w_room, w_tables⟩
theorem atStart : AtStart classFile x code maxLocals ret World_1 tables_1 room_1 Calls_1 rest_1 Pre_1 launch0 p0 e0 about1 theMethod args0 below0 :=
  ⟨lists_1, trivial, launch0.admits_env _ _ _, launch0.least_env, fairChoices_fair.cas, fairChoices_fair.clock, w_frames, w_args, w_heap, w_applies, ⟨w_consts, trivial⟩, w_rest, w_case⟩
end start1
theorem witness_1 : WitnessClaimed_1 := ⟨start1.p0, start1.e0, start1.about1, start1.theMethod, start1.args0, start1.below0, start1.atStart⟩
end Jvm.Pilot.@@N@@
